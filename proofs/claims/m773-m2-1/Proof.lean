import JvmDerived
import JvmDerived.Pilot.@@N@@Statement
import JvmDerived.Pilot.@@N@@Code
set_option linter.unusedVariables false
set_option linter.unusedSimpArgs false
namespace Jvm.Pilot.@@N@@
open Jvm Jvm.ClassFile Sem Op Lib Jvm.Free Jvm.Stand Jvm.LawKit Jvm.RoadKit Bundle Jvm.Pilot.@@N@@.Jvm.D
section OwnKit
variable {p : Program} {l : Launch} {e : Env} {R : Room} {s : State} {m : MethodId} {args : Array Value} {below : List Frame} {meth : Method} {c : Code} {T : State} {locs : List Loc} {cells slots : Nat} {P : State → Outcome → Prop} {Z : State} {a0 : Array Value} {h : Heap} {pc : Nat} {Ls : Array Slot} {st : List Value}
def Goes (p : Program) (e : Env) (below : List Frame) (S : State) (P : State → Outcome → Prop) : Prop := ∃ (U : State) (o : Outcome), Steps p.tables e below S U ∧ U.status = .running ∧ Ended U below o ∧ P U o
def Endz (s : State) (kc ks : Nat) (Q : Option Value → Heap → List Loc → Prop) (U : State) (o : Outcome) : Prop := ∃ v L, o = .returned v ∧ Q v U.heap L ∧ FrameEnd s o U L kc ks
theorem go {S S' : State} (hs : ∀ t, Steps p.tables e below S' t → Steps p.tables e below S t) (k : Goes p e below S' P) : Goes p e below S P := by
  obtain ⟨U, o, k1, k2⟩ := k
  exact ⟨U, o, hs U k1, k2⟩
theorem goT {S S' : State} (hs : Steps p.tables e below S S') (k : Goes p e below S' P) : Goes p e below S P := by
  obtain ⟨U, o, k1, k2⟩ := k
  exact ⟨U, o, hs.trans k1, k2⟩
theorem own_cast {g g' : JFrame} (q : g = g') (k : Goes p e below (T.setTop g') P) : Goes p e below (T.setTop g) P := q ▸ k
abbrev OwnMet (l : Launch) (Z : State) (y : MethodName) (bytes : ByteArray) (maxL : Nat) (ret : Option FieldType) (ws : List Jvm.Cond) (rm : Room) (as' : Array Value) (h : Heap) (Q : Option Value → Heap → List Loc → Prop) : Prop := MetFree l y (head1 (Jvm.Cond.code y bytes maxL ret :: ws) rm) (fun a U => a = as' ∧ Z.Warmed39 U.vm ∧ U.heap = h) (fun _ _ _ _ _ => True) (fun _ U o U' => ∃ v L, o = .returned v ∧ Q v U'.heap L ∧ FrameEnd U o U' L rm.cells rm.slots)
theorem own_body {y : MethodName} {bytes : ByteArray} {maxL : Nat} {ret : Option FieldType} {ws : List Jvm.Cond} {rm : Room} {as' : Array Value} {Q : Option Value → Heap → List Loc → Prop} (hpn : plainFor y = true)
    (B : ∀ (p : Program) (e : Env) (s : State) (m : MethodId) (below : List Frame) (meth : Method) (c : Code) (s₁ : State), p.tables.exec = Jvm.exec → c.code = bytes → c.maxLocals = maxL → s.vm.findClass y.cls = some m.cls → meth.name = y.name → meth.sig.returnType = ret → meth.locks = false → Z.Warmed39 s.vm → Stand p l e rm s m as' below meth c s₁ [] 0 0 → s₁.heap = h → Goes p e below (s₁.setTop (entryFrame m as' maxL)) (Endz s rm.cells rm.slots Q)) : OwnMet l Z y bytes maxL ret ws rm as' h Q := by
  refine MetFree.of_bodySF hpn hisR ?_
  intro p e s m args below meth c s₁ Bd hml0 hP hK
  obtain ⟨rfl, hZ, hh⟩ := hP
  exact B p e s m below meth c s₁ Bd.exec Bd.bytes hml0 (findClass_of_methodNamed Bd.named) (name_of_methodNamed Bd.named Bd.method).1 Bd.returns (BodyLoose.notSynchronized Bd) hZ (Stand.of_body Bd) (by rw [← hh, Bd.state]; rfl)
theorem g_ret {w : Value} {t : FieldType} {i : Instr} {kc ks : Nat} {Q : Option Value → Heap → List Loc → Prop} (X : Stand p l e R s m args below meth c T locs cells slots) (hx : p.tables.exec = Jvm.exec) (hret : meth.sig.returnType = some t) (hlk : meth.locks = false) (hn : narrow t w = w)
    (hi : (i = .ireturn ∧ (t = .int ∨ t = .boolean ∨ t = .byte ∨ t = .char ∨ t = .short) ∧ ∃ z, w = .int z) ∨ (i = .lreturn ∧ t = .long ∧ ∃ z, w = .long z) ∨ (i = .dreturn ∧ t = .double ∧ ∃ z, w = .double z) ∨ (i = .freturn ∧ t = .float ∧ ∃ z, w = .float z) ∨ (i = .areturn ∧ t.isReference = true ∧ w.isRef = true))
    (hd : decode c.code pc = .ok (i, 1)) (hQ : Q (some w) T.heap locs) (hc : cells ≤ kc) (hs : slots ≤ ks) : Goes p e below (T.setTop (mkF m pc Ls (w :: st))) (Endz s kc ks Q) := by
  obtain ⟨fs, hr, hrun, hended, hW, hsame⟩ := X.leave (v := some w) (fun h => by rw [hret] at h; cases h) hlk
  exact ⟨_, _, retOut X hx hret hn hi hd hr, hrun, hended, _, _, rfl, hQ, ⟨_, rfl⟩, hW, hsame.mono hc hs⟩
theorem g_retI {z : Int32} {kc ks : Nat} {Q : Option Value → Heap → List Loc → Prop} (X : Stand p l e R s m args below meth c T locs cells slots) (hx : p.tables.exec = Jvm.exec) (hret : meth.sig.returnType = some .int) (hlk : meth.locks = false) (hd : decode c.code pc = .ok (.ireturn, 1)) (hQ : Q (some (.int z)) T.heap locs) (hc : cells ≤ kc) (hs : slots ≤ ks) : Goes p e below (T.setTop (mkF m pc Ls (.int z :: st))) (Endz s kc ks Q) :=
  g_ret X hx hret hlk rfl (Or.inl ⟨rfl, Or.inl rfl, z, rfl⟩) hd hQ hc hs
theorem g_retZ {z : Int32} {kc ks : Nat} {Q : Option Value → Heap → List Loc → Prop} (X : Stand p l e R s m args below meth c T locs cells slots) (hx : p.tables.exec = Jvm.exec) (hret : meth.sig.returnType = some .boolean) (hlk : meth.locks = false) (hn : narrow .boolean (.int z) = .int z) (hd : decode c.code pc = .ok (.ireturn, 1)) (hQ : Q (some (.int z)) T.heap locs) (hc : cells ≤ kc) (hs : slots ≤ ks) : Goes p e below (T.setTop (mkF m pc Ls (.int z :: st))) (Endz s kc ks Q) :=
  g_ret X hx hret hlk hn (Or.inl ⟨rfl, Or.inr (Or.inl rfl), z, rfl⟩) hd hQ hc hs
theorem g_retJ {z : Int64} {kc ks : Nat} {Q : Option Value → Heap → List Loc → Prop} (X : Stand p l e R s m args below meth c T locs cells slots) (hx : p.tables.exec = Jvm.exec) (hret : meth.sig.returnType = some .long) (hlk : meth.locks = false) (hd : decode c.code pc = .ok (.lreturn, 1)) (hQ : Q (some (.long z)) T.heap locs) (hc : cells ≤ kc) (hs : slots ≤ ks) : Goes p e below (T.setTop (mkF m pc Ls (.long z :: st))) (Endz s kc ks Q) :=
  g_ret X hx hret hlk rfl (Or.inr (Or.inl ⟨rfl, rfl, z, rfl⟩)) hd hQ hc hs
theorem g_retA {w : Value} {t : FieldType} {kc ks : Nat} {Q : Option Value → Heap → List Loc → Prop} (X : Stand p l e R s m args below meth c T locs cells slots) (hx : p.tables.exec = Jvm.exec) (hret : meth.sig.returnType = some t) (hlk : meth.locks = false) (hn : narrow t w = w) (ht : t.isReference = true) (hw : w.isRef = true) (hd : decode c.code pc = .ok (.areturn, 1)) (hQ : Q (some w) T.heap locs) (hc : cells ≤ kc) (hs : slots ≤ ks) : Goes p e below (T.setTop (mkF m pc Ls (w :: st))) (Endz s kc ks Q) :=
  g_ret X hx hret hlk hn (Or.inr (Or.inr (Or.inr (Or.inr ⟨rfl, ht, hw⟩)))) hd hQ hc hs
theorem g_ret0 {kc ks : Nat} {Q : Option Value → Heap → List Loc → Prop} (X : Stand p l e R s m args below meth c T locs cells slots) (hx : p.tables.exec = Jvm.exec) (hret : meth.sig.returnType = none) (hlk : meth.locks = false) (hd : decode c.code pc = .ok (.return_, 1)) (hQ : Q none T.heap locs) (hc : cells ≤ kc) (hs : slots ≤ ks) : Goes p e below (T.setTop (mkF m pc Ls [])) (Endz s kc ks Q) := by
  obtain ⟨fs, hr, hrun, hended, hW, hsame⟩ := X.leave (v := none) (fun _ => rfl) hlk
  exact ⟨_, _, X.returnOut hx hret hd hr, hrun, hended, _, _, rfl, hQ, ⟨_, rfl⟩, hW, hsame.mono hc hs⟩
theorem g_iadd (X : Stand p l e R s m args below meth c T locs cells slots) (hx : p.tables.exec = Jvm.exec) (pc' : Nat) (hpc : pc + 1 = pc') {x y : Int32} (hd : decode c.code pc = .ok (.iadd, 1))  (K : Goes p e below (T.setTop (mkF m pc' Ls (.int (x + y) :: st))) P) : Goes p e below (T.setTop (mkF m pc Ls (.int y :: .int x :: st))) P := by
  subst hpc; exact go (fun _ q => XS.iadd X.here hx rfl hd rfl q) K
theorem g_isub (X : Stand p l e R s m args below meth c T locs cells slots) (hx : p.tables.exec = Jvm.exec) (pc' : Nat) (hpc : pc + 1 = pc') {x y : Int32} (hd : decode c.code pc = .ok (.isub, 1))  (K : Goes p e below (T.setTop (mkF m pc' Ls (.int (x - y) :: st))) P) : Goes p e below (T.setTop (mkF m pc Ls (.int y :: .int x :: st))) P := by
  subst hpc; exact go (fun _ q => XS.isub X.here hx rfl hd rfl q) K
theorem g_imul (X : Stand p l e R s m args below meth c T locs cells slots) (hx : p.tables.exec = Jvm.exec) (pc' : Nat) (hpc : pc + 1 = pc') {x y : Int32} (hd : decode c.code pc = .ok (.imul, 1))  (K : Goes p e below (T.setTop (mkF m pc' Ls (.int (x * y) :: st))) P) : Goes p e below (T.setTop (mkF m pc Ls (.int y :: .int x :: st))) P := by
  subst hpc; exact go (fun _ q => XS.imul X.here hx rfl hd rfl q) K
theorem g_iand (X : Stand p l e R s m args below meth c T locs cells slots) (hx : p.tables.exec = Jvm.exec) (pc' : Nat) (hpc : pc + 1 = pc') {x y : Int32} (hd : decode c.code pc = .ok (.iand, 1))  (K : Goes p e below (T.setTop (mkF m pc' Ls (.int (x &&& y) :: st))) P) : Goes p e below (T.setTop (mkF m pc Ls (.int y :: .int x :: st))) P := by
  subst hpc; exact go (fun _ q => XS.iand X.here hx rfl hd rfl q) K
theorem g_ior (X : Stand p l e R s m args below meth c T locs cells slots) (hx : p.tables.exec = Jvm.exec) (pc' : Nat) (hpc : pc + 1 = pc') {x y : Int32} (hd : decode c.code pc = .ok (.ior, 1))  (K : Goes p e below (T.setTop (mkF m pc' Ls (.int (x ||| y) :: st))) P) : Goes p e below (T.setTop (mkF m pc Ls (.int y :: .int x :: st))) P := by
  subst hpc; exact go (fun _ q => XT.ior X.here hx rfl hd rfl q) K
theorem g_ixor (X : Stand p l e R s m args below meth c T locs cells slots) (hx : p.tables.exec = Jvm.exec) (pc' : Nat) (hpc : pc + 1 = pc') {x y : Int32} (hd : decode c.code pc = .ok (.ixor, 1))  (K : Goes p e below (T.setTop (mkF m pc' Ls (.int (x ^^^ y) :: st))) P) : Goes p e below (T.setTop (mkF m pc Ls (.int y :: .int x :: st))) P := by
  subst hpc; exact go (fun _ q => XT.ixor X.here hx rfl hd rfl q) K
theorem g_ishl (X : Stand p l e R s m args below meth c T locs cells slots) (hx : p.tables.exec = Jvm.exec) (pc' : Nat) (hpc : pc + 1 = pc') {x y : Int32} (hd : decode c.code pc = .ok (.ishl, 1))  (K : Goes p e below (T.setTop (mkF m pc' Ls (.int (x <<< (y &&& 31)) :: st))) P) : Goes p e below (T.setTop (mkF m pc Ls (.int y :: .int x :: st))) P := by
  subst hpc; exact go (fun _ q => XT.ishl X.here hx rfl hd rfl q) K
theorem g_ishr (X : Stand p l e R s m args below meth c T locs cells slots) (hx : p.tables.exec = Jvm.exec) (pc' : Nat) (hpc : pc + 1 = pc') {x y : Int32} (hd : decode c.code pc = .ok (.ishr, 1))  (K : Goes p e below (T.setTop (mkF m pc' Ls (.int (x >>> (y &&& 31)) :: st))) P) : Goes p e below (T.setTop (mkF m pc Ls (.int y :: .int x :: st))) P := by
  subst hpc; exact go (fun _ q => XT.ishr X.here hx rfl hd rfl q) K
theorem g_iushr (X : Stand p l e R s m args below meth c T locs cells slots) (hx : p.tables.exec = Jvm.exec) (pc' : Nat) (hpc : pc + 1 = pc') {x y : Int32} (hd : decode c.code pc = .ok (.iushr, 1))  (K : Goes p e below (T.setTop (mkF m pc' Ls (.int (XT.ushr x y) :: st))) P) : Goes p e below (T.setTop (mkF m pc Ls (.int y :: .int x :: st))) P := by
  subst hpc; exact go (fun _ q => XT.iushr X.here hx rfl hd rfl q) K
theorem g_idiv (X : Stand p l e R s m args below meth c T locs cells slots) (hx : p.tables.exec = Jvm.exec) (pc' : Nat) (hpc : pc + 1 = pc') {x y : Int32} (hd : decode c.code pc = .ok (.idiv, 1)) (hy : y ≠ 0) (K : Goes p e below (T.setTop (mkF m pc' Ls (.int (x / y) :: st))) P) : Goes p e below (T.setTop (mkF m pc Ls (.int y :: .int x :: st))) P := by
  subst hpc; exact go (fun _ q => XS.idiv X.here hx rfl hd rfl hy q) K
theorem g_irem (X : Stand p l e R s m args below meth c T locs cells slots) (hx : p.tables.exec = Jvm.exec) (pc' : Nat) (hpc : pc + 1 = pc') {x y : Int32} (hd : decode c.code pc = .ok (.irem, 1)) (hy : y ≠ 0) (K : Goes p e below (T.setTop (mkF m pc' Ls (.int (x % y) :: st))) P) : Goes p e below (T.setTop (mkF m pc Ls (.int y :: .int x :: st))) P := by
  subst hpc; exact go (fun _ q => iremM X hx rfl hd rfl hy q) K
theorem g_ineg (X : Stand p l e R s m args below meth c T locs cells slots) (hx : p.tables.exec = Jvm.exec) (pc' : Nat) (hpc : pc + 1 = pc') {x : Int32} (hd : decode c.code pc = .ok (.ineg, 1))  (K : Goes p e below (T.setTop (mkF m pc' Ls (.int (-x) :: st))) P) : Goes p e below (T.setTop (mkF m pc Ls (.int x :: st))) P := by
  subst hpc; exact go (fun _ q => XS.ineg X.here hx rfl hd rfl q) K
theorem g_ladd (X : Stand p l e R s m args below meth c T locs cells slots) (hx : p.tables.exec = Jvm.exec) (pc' : Nat) (hpc : pc + 1 = pc') {x y : Int64} (hd : decode c.code pc = .ok (.ladd, 1))  (K : Goes p e below (T.setTop (mkF m pc' Ls (.long (x + y) :: st))) P) : Goes p e below (T.setTop (mkF m pc Ls (.long y :: .long x :: st))) P := by
  subst hpc; exact go (fun _ q => XT.ladd X.here hx rfl hd rfl q) K
theorem g_lsub (X : Stand p l e R s m args below meth c T locs cells slots) (hx : p.tables.exec = Jvm.exec) (pc' : Nat) (hpc : pc + 1 = pc') {x y : Int64} (hd : decode c.code pc = .ok (.lsub, 1))  (K : Goes p e below (T.setTop (mkF m pc' Ls (.long (x - y) :: st))) P) : Goes p e below (T.setTop (mkF m pc Ls (.long y :: .long x :: st))) P := by
  subst hpc; exact go (fun _ q => XT.lsub X.here hx rfl hd rfl q) K
theorem g_lmul (X : Stand p l e R s m args below meth c T locs cells slots) (hx : p.tables.exec = Jvm.exec) (pc' : Nat) (hpc : pc + 1 = pc') {x y : Int64} (hd : decode c.code pc = .ok (.lmul, 1))  (K : Goes p e below (T.setTop (mkF m pc' Ls (.long (x * y) :: st))) P) : Goes p e below (T.setTop (mkF m pc Ls (.long y :: .long x :: st))) P := by
  subst hpc; exact go (fun _ q => XT.lmul X.here hx rfl hd rfl q) K
theorem g_land (X : Stand p l e R s m args below meth c T locs cells slots) (hx : p.tables.exec = Jvm.exec) (pc' : Nat) (hpc : pc + 1 = pc') {x y : Int64} (hd : decode c.code pc = .ok (.land, 1))  (K : Goes p e below (T.setTop (mkF m pc' Ls (.long (x &&& y) :: st))) P) : Goes p e below (T.setTop (mkF m pc Ls (.long y :: .long x :: st))) P := by
  subst hpc; exact go (fun _ q => XT.land X.here hx rfl hd rfl q) K
theorem g_lor (X : Stand p l e R s m args below meth c T locs cells slots) (hx : p.tables.exec = Jvm.exec) (pc' : Nat) (hpc : pc + 1 = pc') {x y : Int64} (hd : decode c.code pc = .ok (.lor, 1))  (K : Goes p e below (T.setTop (mkF m pc' Ls (.long (x ||| y) :: st))) P) : Goes p e below (T.setTop (mkF m pc Ls (.long y :: .long x :: st))) P := by
  subst hpc; exact go (fun _ q => XT.lor X.here hx rfl hd rfl q) K
theorem g_lxor (X : Stand p l e R s m args below meth c T locs cells slots) (hx : p.tables.exec = Jvm.exec) (pc' : Nat) (hpc : pc + 1 = pc') {x y : Int64} (hd : decode c.code pc = .ok (.lxor, 1))  (K : Goes p e below (T.setTop (mkF m pc' Ls (.long (x ^^^ y) :: st))) P) : Goes p e below (T.setTop (mkF m pc Ls (.long y :: .long x :: st))) P := by
  subst hpc; exact go (fun _ q => XT.lxor X.here hx rfl hd rfl q) K
theorem g_lshl (X : Stand p l e R s m args below meth c T locs cells slots) (hx : p.tables.exec = Jvm.exec) (pc' : Nat) (hpc : pc + 1 = pc') {x : Int64} {y : Int32} (hd : decode c.code pc = .ok (.lshl, 1))  (K : Goes p e below (T.setTop (mkF m pc' Ls (.long (x <<< (y.toInt64 &&& 63)) :: st))) P) : Goes p e below (T.setTop (mkF m pc Ls (.int y :: .long x :: st))) P := by
  subst hpc; exact go (fun _ q => XT.lshl X.here hx rfl hd rfl q) K
theorem g_lshr (X : Stand p l e R s m args below meth c T locs cells slots) (hx : p.tables.exec = Jvm.exec) (pc' : Nat) (hpc : pc + 1 = pc') {x : Int64} {y : Int32} (hd : decode c.code pc = .ok (.lshr, 1))  (K : Goes p e below (T.setTop (mkF m pc' Ls (.long (x >>> (y.toInt64 &&& 63)) :: st))) P) : Goes p e below (T.setTop (mkF m pc Ls (.int y :: .long x :: st))) P := by
  subst hpc; exact go (fun _ q => XT.lshr X.here hx rfl hd rfl q) K
theorem g_lushr (X : Stand p l e R s m args below meth c T locs cells slots) (hx : p.tables.exec = Jvm.exec) (pc' : Nat) (hpc : pc + 1 = pc') {x : Int64} {y : Int32} (hd : decode c.code pc = .ok (.lushr, 1))  (K : Goes p e below (T.setTop (mkF m pc' Ls (.long (XT.ushrL x y) :: st))) P) : Goes p e below (T.setTop (mkF m pc Ls (.int y :: .long x :: st))) P := by
  subst hpc; exact go (fun _ q => XT.lushr X.here hx rfl hd rfl q) K
theorem g_ldiv (X : Stand p l e R s m args below meth c T locs cells slots) (hx : p.tables.exec = Jvm.exec) (pc' : Nat) (hpc : pc + 1 = pc') {x y : Int64} (hd : decode c.code pc = .ok (.ldiv, 1)) (hy : y ≠ 0) (K : Goes p e below (T.setTop (mkF m pc' Ls (.long (x / y) :: st))) P) : Goes p e below (T.setTop (mkF m pc Ls (.long y :: .long x :: st))) P := by
  subst hpc; exact go (fun _ q => XT.ldiv X.here hx rfl hd rfl hy q) K
theorem g_lrem (X : Stand p l e R s m args below meth c T locs cells slots) (hx : p.tables.exec = Jvm.exec) (pc' : Nat) (hpc : pc + 1 = pc') {x y : Int64} (hd : decode c.code pc = .ok (.lrem, 1)) (hy : y ≠ 0) (K : Goes p e below (T.setTop (mkF m pc' Ls (.long (x % y) :: st))) P) : Goes p e below (T.setTop (mkF m pc Ls (.long y :: .long x :: st))) P := by
  subst hpc; exact go (fun _ q => XT.lrem X.here hx rfl hd rfl hy (by rw [lrem_mod]; exact q)) K
theorem g_lneg (X : Stand p l e R s m args below meth c T locs cells slots) (hx : p.tables.exec = Jvm.exec) (pc' : Nat) (hpc : pc + 1 = pc') {x : Int64} (hd : decode c.code pc = .ok (.lneg, 1))  (K : Goes p e below (T.setTop (mkF m pc' Ls (.long (-x) :: st))) P) : Goes p e below (T.setTop (mkF m pc Ls (.long x :: st))) P := by
  subst hpc; exact go (fun _ q => XT.lneg X.here hx rfl hd rfl q) K
theorem g_i2l (X : Stand p l e R s m args below meth c T locs cells slots) (hx : p.tables.exec = Jvm.exec) (pc' : Nat) (hpc : pc + 1 = pc') {x : Int32} (hd : decode c.code pc = .ok (.i2l, 1))  (K : Goes p e below (T.setTop (mkF m pc' Ls (.long x.toInt64 :: st))) P) : Goes p e below (T.setTop (mkF m pc Ls (.int x :: st))) P := by
  subst hpc; exact go (fun _ q => XT.i2l X.here hx rfl hd rfl q) K
theorem g_l2i (X : Stand p l e R s m args below meth c T locs cells slots) (hx : p.tables.exec = Jvm.exec) (pc' : Nat) (hpc : pc + 1 = pc') {x : Int64} (hd : decode c.code pc = .ok (.l2i, 1))  (K : Goes p e below (T.setTop (mkF m pc' Ls (.int x.toInt32 :: st))) P) : Goes p e below (T.setTop (mkF m pc Ls (.long x :: st))) P := by
  subst hpc; exact go (fun _ q => XT.l2i X.here hx rfl hd rfl q) K
theorem g_i2b (X : Stand p l e R s m args below meth c T locs cells slots) (hx : p.tables.exec = Jvm.exec) (pc' : Nat) (hpc : pc + 1 = pc') {x : Int32} (hd : decode c.code pc = .ok (.i2b, 1))  (K : Goes p e below (T.setTop (mkF m pc' Ls (.int x.toInt8.toInt32 :: st))) P) : Goes p e below (T.setTop (mkF m pc Ls (.int x :: st))) P := by
  subst hpc; exact go (fun _ q => XT.i2b X.here hx rfl hd rfl q) K
theorem g_i2c (X : Stand p l e R s m args below meth c T locs cells slots) (hx : p.tables.exec = Jvm.exec) (pc' : Nat) (hpc : pc + 1 = pc') {x : Int32} (hd : decode c.code pc = .ok (.i2c, 1))  (K : Goes p e below (T.setTop (mkF m pc' Ls (.int x.toUInt32.toUInt16.toUInt32.toInt32 :: st))) P) : Goes p e below (T.setTop (mkF m pc Ls (.int x :: st))) P := by
  subst hpc; exact go (fun _ q => XT.i2c X.here hx rfl hd rfl q) K
theorem g_i2s (X : Stand p l e R s m args below meth c T locs cells slots) (hx : p.tables.exec = Jvm.exec) (pc' : Nat) (hpc : pc + 1 = pc') {x : Int32} (hd : decode c.code pc = .ok (.i2s, 1))  (K : Goes p e below (T.setTop (mkF m pc' Ls (.int x.toInt16.toInt32 :: st))) P) : Goes p e below (T.setTop (mkF m pc Ls (.int x :: st))) P := by
  subst hpc; exact go (fun _ q => XT.i2s X.here hx rfl hd rfl q) K
theorem g_lcmp (X : Stand p l e R s m args below meth c T locs cells slots) (hx : p.tables.exec = Jvm.exec) (pc' : Nat) (hpc : pc + 1 = pc') {x y : Int64} (hd : decode c.code pc = .ok (.lcmp, 1))  (K : Goes p e below (T.setTop (mkF m pc' Ls (.int (XT.cmpL x y) :: st))) P) : Goes p e below (T.setTop (mkF m pc Ls (.long y :: .long x :: st))) P := by
  subst hpc; exact go (fun _ q => XT.lcmp X.here hx rfl hd rfl q) K
theorem g_dup (X : Stand p l e R s m args below meth c T locs cells slots) (hx : p.tables.exec = Jvm.exec) (pc' : Nat) (hpc : pc + 1 = pc') {x : Value} (hd : decode c.code pc = .ok (.dup, 1)) (hc : x.category = 1) (K : Goes p e below (T.setTop (mkF m pc' Ls (x :: x :: st))) P) : Goes p e below (T.setTop (mkF m pc Ls (x :: st))) P := by
  subst hpc; exact go (fun _ q => XS.dup X.here hx rfl hd rfl hc q) K
theorem g_pop (X : Stand p l e R s m args below meth c T locs cells slots) (hx : p.tables.exec = Jvm.exec) (pc' : Nat) (hpc : pc + 1 = pc') {x : Value} (hd : decode c.code pc = .ok (.pop, 1)) (hc : x.category = 1) (K : Goes p e below (T.setTop (mkF m pc' Ls (st))) P) : Goes p e below (T.setTop (mkF m pc Ls (x :: st))) P := by
  subst hpc; exact go (fun _ q => XT.pop X.here hx rfl hd rfl hc q) K
theorem g_dup_x1 (X : Stand p l e R s m args below meth c T locs cells slots) (hx : p.tables.exec = Jvm.exec) (pc' : Nat) (hpc : pc + 1 = pc') {x y : Value} (hd : decode c.code pc = .ok (.dup_x1, 1)) (hc : x.category = 1) (hc' : y.category = 1) (K : Goes p e below (T.setTop (mkF m pc' Ls (x :: y :: x :: st))) P) : Goes p e below (T.setTop (mkF m pc Ls (x :: y :: st))) P := by
  subst hpc; exact go (fun _ q => XT.dupX1 X.here hx rfl hd rfl hc hc' q) K
theorem g_dup2 (X : Stand p l e R s m args below meth c T locs cells slots) (hx : p.tables.exec = Jvm.exec) (pc' : Nat) (hpc : pc + 1 = pc') {x y : Value} (hd : decode c.code pc = .ok (.dup2, 1)) (hc : x.category = 1) (hc' : y.category = 1) (K : Goes p e below (T.setTop (mkF m pc' Ls (x :: y :: x :: y :: st))) P) : Goes p e below (T.setTop (mkF m pc Ls (x :: y :: st))) P := by
  subst hpc; exact go (fun _ q => XT.dup2 X.here hx rfl hd rfl hc hc' q) K
theorem g_dup2L (X : Stand p l e R s m args below meth c T locs cells slots) (hx : p.tables.exec = Jvm.exec) (pc' : Nat) (hpc : pc + 1 = pc') {x : Int64} (hd : decode c.code pc = .ok (.dup2, 1))  (K : Goes p e below (T.setTop (mkF m pc' Ls (.long x :: .long x :: st))) P) : Goes p e below (T.setTop (mkF m pc Ls (.long x :: st))) P := by
  subst hpc; exact go (fun _ q => XT.dup2L X.here hx rfl hd rfl q) K
theorem g_iconst (X : Stand p l e R s m args below meth c T locs cells slots) (hx : p.tables.exec = Jvm.exec) (pc' : Nat) (hpc : pc + 1 = pc') {i : Int} (v : Int32) (hv : Int32.ofInt i = v) (hd : decode c.code pc = .ok (.iconst i, 1))  (K : Goes p e below (T.setTop (mkF m pc' Ls (.int v :: st))) P) : Goes p e below (T.setTop (mkF m pc Ls (st))) P := by
  subst hpc; exact go (fun _ q => XS.iconst X.here hx rfl hd (by rw [hv]; exact q)) K
theorem g_bipush (X : Stand p l e R s m args below meth c T locs cells slots) (hx : p.tables.exec = Jvm.exec) (pc' : Nat) (hpc : pc + 2 = pc') {i : Int} (v : Int32) (hv : (Int8.ofInt i).toInt32 = v) (hd : decode c.code pc = .ok (.bipush i, 2))  (K : Goes p e below (T.setTop (mkF m pc' Ls (.int v :: st))) P) : Goes p e below (T.setTop (mkF m pc Ls (st))) P := by
  subst hpc; exact go (fun _ q => XS.bipush X.here hx rfl hd (by rw [hv]; exact q)) K
theorem g_sipush (X : Stand p l e R s m args below meth c T locs cells slots) (hx : p.tables.exec = Jvm.exec) (pc' : Nat) (hpc : pc + 3 = pc') {i : Int} (v : Int32) (hv : (Int16.ofInt i).toInt32 = v) (hd : decode c.code pc = .ok (.sipush i, 3))  (K : Goes p e below (T.setTop (mkF m pc' Ls (.int v :: st))) P) : Goes p e below (T.setTop (mkF m pc Ls (st))) P := by
  subst hpc; exact go (fun _ q => XS.sipush X.here hx rfl hd (by rw [hv]; exact q)) K
theorem g_lconst (X : Stand p l e R s m args below meth c T locs cells slots) (hx : p.tables.exec = Jvm.exec) (pc' : Nat) (hpc : pc + 1 = pc') {k : Fin 2} (v : Int64) (hv : Int64.ofNat k = v) (hd : decode c.code pc = .ok (.lconst k, 1))  (K : Goes p e below (T.setTop (mkF m pc' Ls (.long v :: st))) P) : Goes p e below (T.setTop (mkF m pc Ls (st))) P := by
  subst hpc; exact go (fun _ q => XT.lconst X.here hx rfl hd (by rw [hv]; exact q)) K
theorem g_aconst_null (X : Stand p l e R s m args below meth c T locs cells slots) (hx : p.tables.exec = Jvm.exec) (pc' : Nat) (hpc : pc + 1 = pc')  (hd : decode c.code pc = .ok (.aconst_null, 1))  (K : Goes p e below (T.setTop (mkF m pc' Ls (.null :: st))) P) : Goes p e below (T.setTop (mkF m pc Ls (st))) P := by
  subst hpc; exact go (fun _ q => XS.aconstNull X.here hx rfl hd q) K
theorem g_ldcI (X : Stand p l e R s m args below meth c T locs cells slots) (hx : p.tables.exec = Jvm.exec) (pc' : Nat) (hpc : pc + 2 = pc') {own : String} {index : Nat} {v : Int32} (hown : s.vm.findClass own = some m.cls) (hZ : Z.Warmed39 s.vm) (w : (Jvm.Cond.constant own index v).before a0 Z = true) (hd : decode c.code pc = .ok (.ldc index, 2))  (K : Goes p e below (T.setTop (mkF m pc' Ls (.int v :: st))) P) : Goes p e below (T.setTop (mkF m pc Ls (st))) P := by
  subst hpc; exact go (fun _ q => X.ldcInt hx hown (mvT hZ w) (g := mkF m pc Ls st) rfl hd _ q) K
theorem g_ldcWI (X : Stand p l e R s m args below meth c T locs cells slots) (hx : p.tables.exec = Jvm.exec) (pc' : Nat) (hpc : pc + 3 = pc') {own : String} {index : Nat} {v : Int32} (hown : s.vm.findClass own = some m.cls) (hZ : Z.Warmed39 s.vm) (w : (Jvm.Cond.constant own index v).before a0 Z = true) (hd : decode c.code pc = .ok (.ldc_w index, 3))  (K : Goes p e below (T.setTop (mkF m pc' Ls (.int v :: st))) P) : Goes p e below (T.setTop (mkF m pc Ls (st))) P := by
  subst hpc; exact go (fun _ q => X.ldcWInt hx hown (mvT hZ w) (g := mkF m pc Ls st) rfl hd _ q) K
theorem g_ldcJ (X : Stand p l e R s m args below meth c T locs cells slots) (hx : p.tables.exec = Jvm.exec) (pc' : Nat) (hpc : pc + 3 = pc') {own : String} {index : Nat} {v : Int64} (hown : s.vm.findClass own = some m.cls) (hZ : Z.Warmed39 s.vm) (w : (Jvm.Cond.constantLong own index v).before a0 Z = true) (hd : decode c.code pc = .ok (.ldc2_w index, 3))  (K : Goes p e below (T.setTop (mkF m pc' Ls (.long v :: st))) P) : Goes p e below (T.setTop (mkF m pc Ls (st))) P := by
  subst hpc; exact go (fun _ q => X.ldc2Long hx hown (mvT hZ w) (g := mkF m pc Ls st) rfl hd _ q) K
theorem g_iload_n (X : Stand p l e R s m args below meth c T locs cells slots) (hx : p.tables.exec = Jvm.exec) (pc' : Nat) (hpc : pc + 1 = pc') {k : Fin 4} {v : Int32} (hd : decode c.code pc = .ok (.iload_n k, 1)) (hl : Ls[k.val]? = some (.val (.int v))) (K : Goes p e below (T.setTop (mkF m pc' Ls (.int v :: st))) P) : Goes p e below (T.setTop (mkF m pc Ls (st))) P := by
  subst hpc; exact go (fun _ q => XS.iloadN X.here hx rfl hd hl q) K
theorem g_iload (X : Stand p l e R s m args below meth c T locs cells slots) (hx : p.tables.exec = Jvm.exec) (pc' : Nat) (hpc : pc + 2 = pc') {k : Nat} {v : Int32} (hd : decode c.code pc = .ok (.iload k, 2)) (hl : Ls[k]? = some (.val (.int v))) (K : Goes p e below (T.setTop (mkF m pc' Ls (.int v :: st))) P) : Goes p e below (T.setTop (mkF m pc Ls (st))) P := by
  subst hpc; exact go (fun _ q => XS.iload X.here hx rfl hd hl q) K
theorem g_lload_n (X : Stand p l e R s m args below meth c T locs cells slots) (hx : p.tables.exec = Jvm.exec) (pc' : Nat) (hpc : pc + 1 = pc') {k : Fin 4} {v : Int64} (hd : decode c.code pc = .ok (.lload_n k, 1)) (hl : Ls[k.val]? = some (.val (.long v))) (K : Goes p e below (T.setTop (mkF m pc' Ls (.long v :: st))) P) : Goes p e below (T.setTop (mkF m pc Ls (st))) P := by
  subst hpc; exact go (fun _ q => XT.lloadN X.here hx rfl hd hl q) K
theorem g_lload (X : Stand p l e R s m args below meth c T locs cells slots) (hx : p.tables.exec = Jvm.exec) (pc' : Nat) (hpc : pc + 2 = pc') {k : Nat} {v : Int64} (hd : decode c.code pc = .ok (.lload k, 2)) (hl : Ls[k]? = some (.val (.long v))) (K : Goes p e below (T.setTop (mkF m pc' Ls (.long v :: st))) P) : Goes p e below (T.setTop (mkF m pc Ls (st))) P := by
  subst hpc; exact go (fun _ q => XT.lload X.here hx rfl hd hl q) K
theorem g_aload_n (X : Stand p l e R s m args below meth c T locs cells slots) (hx : p.tables.exec = Jvm.exec) (pc' : Nat) (hpc : pc + 1 = pc') {k : Fin 4} {v : Value} (hd : decode c.code pc = .ok (.aload_n k, 1)) (hl : Ls[k.val]? = some (.val v)) (hv : v.isRef = true) (K : Goes p e below (T.setTop (mkF m pc' Ls (v :: st))) P) : Goes p e below (T.setTop (mkF m pc Ls (st))) P := by
  subst hpc; exact go (fun _ q => XS.aloadN X.here hx rfl hd hl hv q) K
theorem g_aload (X : Stand p l e R s m args below meth c T locs cells slots) (hx : p.tables.exec = Jvm.exec) (pc' : Nat) (hpc : pc + 2 = pc') {k : Nat} {v : Value} (hd : decode c.code pc = .ok (.aload k, 2)) (hl : Ls[k]? = some (.val v)) (hv : v.isRef = true) (K : Goes p e below (T.setTop (mkF m pc' Ls (v :: st))) P) : Goes p e below (T.setTop (mkF m pc Ls (st))) P := by
  subst hpc; exact go (fun _ q => XS.aload X.here hx rfl hd hl hv q) K
theorem g_istore_n (X : Stand p l e R s m args below meth c T locs cells slots) (hx : p.tables.exec = Jvm.exec) (pc' : Nat) (hpc : pc + 1 = pc') {k : Fin 4} {x : Int32} (hd : decode c.code pc = .ok (.istore_n k, 1))  (l' : Array Slot) (hl : storeLocals Ls k.val (.int x) = some l') (K : Goes p e below (T.setTop (mkF m pc' l' st)) P) : Goes p e below (T.setTop (mkF m pc Ls (.int x :: st))) P := by
  subst hpc; exact go (fun _ q => XS.istoreN X.here hx rfl hd rfl hl q) K
theorem g_istore (X : Stand p l e R s m args below meth c T locs cells slots) (hx : p.tables.exec = Jvm.exec) (pc' : Nat) (hpc : pc + 2 = pc') {k : Nat} {x : Int32} (hd : decode c.code pc = .ok (.istore k, 2))  (l' : Array Slot) (hl : storeLocals Ls k (.int x) = some l') (K : Goes p e below (T.setTop (mkF m pc' l' st)) P) : Goes p e below (T.setTop (mkF m pc Ls (.int x :: st))) P := by
  subst hpc; exact go (fun _ q => XS.istore X.here hx rfl hd rfl hl q) K
theorem g_lstore_n (X : Stand p l e R s m args below meth c T locs cells slots) (hx : p.tables.exec = Jvm.exec) (pc' : Nat) (hpc : pc + 1 = pc') {k : Fin 4} {x : Int64} (hd : decode c.code pc = .ok (.lstore_n k, 1))  (l' : Array Slot) (hl : storeLocals Ls k.val (.long x) = some l') (K : Goes p e below (T.setTop (mkF m pc' l' st)) P) : Goes p e below (T.setTop (mkF m pc Ls (.long x :: st))) P := by
  subst hpc; exact go (fun _ q => XT.lstoreN X.here hx rfl hd rfl hl q) K
theorem g_lstore (X : Stand p l e R s m args below meth c T locs cells slots) (hx : p.tables.exec = Jvm.exec) (pc' : Nat) (hpc : pc + 2 = pc') {k : Nat} {x : Int64} (hd : decode c.code pc = .ok (.lstore k, 2))  (l' : Array Slot) (hl : storeLocals Ls k (.long x) = some l') (K : Goes p e below (T.setTop (mkF m pc' l' st)) P) : Goes p e below (T.setTop (mkF m pc Ls (.long x :: st))) P := by
  subst hpc; exact go (fun _ q => XT.lstore X.here hx rfl hd rfl hl q) K
theorem g_astore_n (X : Stand p l e R s m args below meth c T locs cells slots) (hx : p.tables.exec = Jvm.exec) (pc' : Nat) (hpc : pc + 1 = pc') {k : Fin 4} {x : Value} (hd : decode c.code pc = .ok (.astore_n k, 1)) (hv : x.isRef = true) (l' : Array Slot) (hl : storeLocals Ls k.val x = some l') (K : Goes p e below (T.setTop (mkF m pc' l' st)) P) : Goes p e below (T.setTop (mkF m pc Ls (x :: st))) P := by
  subst hpc; exact go (fun _ q => XS.astoreN X.here hx rfl hd rfl hv hl q) K
theorem g_astore (X : Stand p l e R s m args below meth c T locs cells slots) (hx : p.tables.exec = Jvm.exec) (pc' : Nat) (hpc : pc + 2 = pc') {k : Nat} {x : Value} (hd : decode c.code pc = .ok (.astore k, 2)) (hv : x.isRef = true) (l' : Array Slot) (hl : storeLocals Ls k x = some l') (K : Goes p e below (T.setTop (mkF m pc' l' st)) P) : Goes p e below (T.setTop (mkF m pc Ls (x :: st))) P := by
  subst hpc; exact go (fun _ q => XS.astore X.here hx rfl hd rfl hv hl q) K
theorem g_iinc (X : Stand p l e R s m args below meth c T locs cells slots) (hx : p.tables.exec = Jvm.exec) (pc' : Nat) (hpc : pc + 3 = pc') {k : Nat} {cst : Int} {x : Int32} (hd : decode c.code pc = .ok (.iinc k cst, 3)) (v : Int32) (hv : x + Int32.ofInt cst = v) (hl : Ls[k]? = some (.val (.int x))) (l' : Array Slot) (hl' : storeLocals Ls k (.int v) = some l') (K : Goes p e below (T.setTop (mkF m pc' l' st)) P) : Goes p e below (T.setTop (mkF m pc Ls st)) P := by
  subst hpc; subst hv; exact go (fun _ q => XS.iinc X.here hx rfl hd hl hl' q) K
theorem g_goto (X : Stand p l e R s m args below meth c T locs cells slots) (hx : p.tables.exec = Jvm.exec) (pc' : Nat) {o : Int} (hd : decode c.code pc = .ok (.goto o, 3)) (ho : 0 ≤ (pc : Int) + o) (hp : ((pc : Int) + o).toNat = pc') (K : Goes p e below (T.setTop (mkF m pc' Ls st)) P) : Goes p e below (T.setTop (mkF m pc Ls st)) P :=
  go (fun _ q => XS.goto X.here hx rfl rfl hd ho hp q) K
theorem g_ifY (X : Stand p l e R s m args below meth c T locs cells slots) (hx : p.tables.exec = Jvm.exec) (pc' : Nat) {o : Int} {cd : ClassFile.Cond} {x : Int32} (hd : decode c.code pc = .ok (.ifCond cd o, 3)) (hc : ifCond.holds cd x = true) (ho : 0 ≤ (pc : Int) + o) (hp : ((pc : Int) + o).toNat = pc') (K : Goes p e below (T.setTop (mkF m pc' Ls st)) P) : Goes p e below (T.setTop (mkF m pc Ls (.int x :: st))) P :=
  go (fun _ q => XS.ifYes X.here hx rfl rfl hd rfl hc ho hp q) K
theorem g_ifN (X : Stand p l e R s m args below meth c T locs cells slots) (hx : p.tables.exec = Jvm.exec) (pc' : Nat) (hpc : pc + 3 = pc') {o : Int} {cd : ClassFile.Cond} {x : Int32} (hd : decode c.code pc = .ok (.ifCond cd o, 3)) (hc : ifCond.holds cd x = false) (K : Goes p e below (T.setTop (mkF m pc' Ls st)) P) : Goes p e below (T.setTop (mkF m pc Ls (.int x :: st))) P := by
  subst hpc; exact go (fun _ q => XS.ifNo X.here hx rfl hd rfl hc q) K
theorem g_icmpY (X : Stand p l e R s m args below meth c T locs cells slots) (hx : p.tables.exec = Jvm.exec) (pc' : Nat) {o : Int} {cd : ClassFile.Cond} {x y : Int32} (hd : decode c.code pc = .ok (.if_icmp cd o, 3)) (hc : if_icmp.holds cd x y = true) (ho : 0 ≤ (pc : Int) + o) (hp : ((pc : Int) + o).toNat = pc') (K : Goes p e below (T.setTop (mkF m pc' Ls st)) P) : Goes p e below (T.setTop (mkF m pc Ls (.int y :: .int x :: st))) P :=
  go (fun _ q => XS.icmpYes X.here hx rfl rfl hd rfl hc ho hp q) K
theorem g_icmpN (X : Stand p l e R s m args below meth c T locs cells slots) (hx : p.tables.exec = Jvm.exec) (pc' : Nat) (hpc : pc + 3 = pc') {o : Int} {cd : ClassFile.Cond} {x y : Int32} (hd : decode c.code pc = .ok (.if_icmp cd o, 3)) (hc : if_icmp.holds cd x y = false) (K : Goes p e below (T.setTop (mkF m pc' Ls st)) P) : Goes p e below (T.setTop (mkF m pc Ls (.int y :: .int x :: st))) P := by
  subst hpc; exact go (fun _ q => XS.icmpNo X.here hx rfl hd rfl hc q) K
theorem g_acmpY (X : Stand p l e R s m args below meth c T locs cells slots) (hx : p.tables.exec = Jvm.exec) (pc' : Nat) {o : Int} {cd : ClassFile.ACond} {x y : Value} (hd : decode c.code pc = .ok (.if_acmp cd o, 3)) (h1 : x.isRef = true) (h2 : y.isRef = true) (hc : XT.acmp cd x y = true) (ho : 0 ≤ (pc : Int) + o) (hp : ((pc : Int) + o).toNat = pc') (K : Goes p e below (T.setTop (mkF m pc' Ls st)) P) : Goes p e below (T.setTop (mkF m pc Ls (y :: x :: st))) P :=
  go (fun _ q => XT.acmpYes X.here hx rfl rfl hd rfl h1 h2 hc ho hp q) K
theorem g_acmpN (X : Stand p l e R s m args below meth c T locs cells slots) (hx : p.tables.exec = Jvm.exec) (pc' : Nat) (hpc : pc + 3 = pc') {o : Int} {cd : ClassFile.ACond} {x y : Value} (hd : decode c.code pc = .ok (.if_acmp cd o, 3)) (h1 : x.isRef = true) (h2 : y.isRef = true) (hc : XT.acmp cd x y = false) (K : Goes p e below (T.setTop (mkF m pc' Ls st)) P) : Goes p e below (T.setTop (mkF m pc Ls (y :: x :: st))) P := by
  subst hpc; exact go (fun _ q => XT.acmpNo X.here hx rfl hd rfl h1 h2 hc q) K
theorem g_ifnonnullY (X : Stand p l e R s m args below meth c T locs cells slots) (hx : p.tables.exec = Jvm.exec) (pc' : Nat) {o : Int} {b : Addr} (hd : decode c.code pc = .ok (.ifnonnull o, 3)) (ho : 0 ≤ (pc : Int) + o) (hp : ((pc : Int) + o).toNat = pc') (K : Goes p e below (T.setTop (mkF m pc' Ls st)) P) : Goes p e below (T.setTop (mkF m pc Ls (.ref b :: st))) P :=
  go (fun _ q => XT.ifnonnullYes X.here hx rfl rfl hd rfl ho hp q) K
theorem g_ifnonnullN (X : Stand p l e R s m args below meth c T locs cells slots) (hx : p.tables.exec = Jvm.exec) (pc' : Nat) (hpc : pc + 3 = pc') {o : Int} (hd : decode c.code pc = .ok (.ifnonnull o, 3)) (K : Goes p e below (T.setTop (mkF m pc' Ls st)) P) : Goes p e below (T.setTop (mkF m pc Ls (.null :: st))) P := by
  subst hpc; exact go (fun _ q => XT.ifnonnullNo X.here hx rfl hd rfl q) K
def b2i (b : Bool) : Int32 := if b then 1 else 0
theorem b2i_nar (b : Bool) : narrow .boolean (.int (b2i b)) = .int (b2i b) := by cases b <;> rfl
theorem bb_eq_t {b : Bool} (q : ¬ b = true) : ifCond.holds .eq (b2i b) = true := by cases b <;> first | rfl | exact absurd rfl q
theorem bb_eq_f {b : Bool} (q : b = true) : ifCond.holds .eq (b2i b) = false := by subst q; rfl
theorem bb_ne_t {b : Bool} (q : b = true) : ifCond.holds .ne (b2i b) = true := by subst q; rfl
theorem bb_ne_f {b : Bool} (q : ¬ b = true) : ifCond.holds .ne (b2i b) = false := by cases b <;> first | rfl | exact absurd rfl q
theorem b2_eq_t {a b : Bool} (q : a = b) : if_icmp.holds .eq (b2i a) (b2i b) = true := by subst q; cases a <;> rfl
theorem b2_eq_f {a b : Bool} (q : ¬ a = b) : if_icmp.holds .eq (b2i a) (b2i b) = false := by cases a <;> cases b <;> first | rfl | exact absurd rfl q
theorem b2_ne_t {a b : Bool} (q : ¬ a = b) : if_icmp.holds .ne (b2i a) (b2i b) = true := by cases a <;> cases b <;> first | rfl | exact absurd rfl q
theorem b2_ne_f {a b : Bool} (q : a = b) : if_icmp.holds .ne (b2i a) (b2i b) = false := by subst q; cases a <;> rfl
theorem g_getF (X : Stand p l e R s m args below meth c T locs cells slots) (hx : p.tables.exec = Jvm.exec) (hZ : Z.Warmed39 s.vm) (pc' : Nat) (hpc : pc + 3 = pc') {own O n d : String} {index : Nat} (hown : s.vm.findClass own = some m.cls) (w : (Jvm.Cond.fieldLink own index O n d).before a0 Z = true) (eT : T.heap = h) {a : Addr} {v : Value} (F : Fld Z h a O n d v) (hd : decode c.code pc = .ok (.getfield index, 3)) (K : ∀ T', Stand p l e R s m args below meth c T' locs cells slots → T'.heap = h → Goes p e below (T'.setTop (mkF m pc' Ls (v :: st))) P) : Goes p e below (T.setTop (mkF m pc Ls (.ref a :: st))) P := by
  subst hpc
  obtain ⟨T', X', e', st'⟩ := getF X hx hZ hown (host := "") (Or.inl w) Via.refl eT F (g := mkF m pc Ls (.ref a :: st)) rfl rfl hd
  exact go st' (K T' X' e')
theorem g_putF (X : Stand p l e R s m args below meth c T locs cells slots) (hx : p.tables.exec = Jvm.exec) (hZ : Z.Warmed39 s.vm) (pc' : Nat) (hpc : pc + 3 = pc') {own O n d C : String} {index kk : Nat} {ty : FieldType} (hown : s.vm.findClass own = some m.cls) (w : (Jvm.Cond.fieldLink own index O n d).before a0 Z = true) (eT : T.heap = h) {a : Addr} {v old : Value} (F : Fld Z h a O n d old) (E : Exa Z h a C) (L : (Jvm.Cond.lays C O n d).before a0 Z = true ∨ ((Jvm.Cond.laysFinal C O n d).before a0 Z = true ∧ own = O ∧ meth.name = "<init>")) (wi : (Jvm.Cond.instantiable C kk).before a0 Z = true) (hty : parseFieldDescriptor d = some ty) (hn : narrow ty v = v) (hf : fits ty v = true) (hd : decode c.code pc = .ok (.putfield index, 3)) (K : ∀ T' h', Stand p l e R s m args below meth c T' (locs ++ [⟨a, Jvm.RoadKit.slotOf Z O n d⟩]) cells slots → T'.heap = h' → Wr h h' a (Jvm.RoadKit.slotOf Z O n d) v → Goes p e below (T'.setTop (mkF m pc' Ls st)) P) : Goes p e below (T.setTop (mkF m pc Ls (v :: .ref a :: st))) P := by
  subst hpc
  obtain ⟨T', h', X', e', W', st'⟩ := putF X hx hZ hown (host := "") (Or.inl w) Via.refl eT F E L wi hty hn hf (g := mkF m pc Ls (v :: .ref a :: st)) rfl rfl hd
  exact go st' (K T' h' X' e' W')
theorem g_getS (X : Stand p l e R s m args below meth c T locs cells slots) (hx : p.tables.exec = Jvm.exec) (hZ : Z.Warmed39 s.vm) (pc' : Nat) (hpc : pc + 3 = pc') {own O n d : String} {index : Nat} (hown : s.vm.findClass own = some m.cls) (w : (Jvm.Cond.fieldLink own index O n d).before a0 Z = true) (eT : T.heap = h) {v : Value} (F : Sta Z h O n d v) (hd : decode c.code pc = .ok (.getstatic index, 3)) (K : ∀ T', Stand p l e R s m args below meth c T' locs cells slots → T'.heap = h → Goes p e below (T'.setTop (mkF m pc' Ls (v :: st))) P) : Goes p e below (T.setTop (mkF m pc Ls st)) P := by
  subst hpc
  obtain ⟨T', X', e', st'⟩ := getS (host := "") X hx hZ hown w Via.refl eT F (g := mkF m pc Ls st) rfl hd
  exact go st' (K T' X' e')
theorem g_new (X : Stand p l e R s m args below meth c T locs cells slots) (hx : p.tables.exec = Jvm.exec) (hZ : Z.Warmed39 s.vm) (pc' : Nat) (hpc : pc + 3 = pc') {own C : String} {index n : Nat} (hown : s.vm.findClass own = some m.cls) (w : (Jvm.Cond.classLink own index C).before a0 Z = true) (wi : (Jvm.Cond.instantiable C n).before a0 Z = true) (wz : (Jvm.Cond.initialized C).before a0 Z = true) (eT : T.heap = h) (hd : decode c.code pc = .ok (.new index, 3)) (hc : cells + 1 ≤ R.cells) (hl : slots + n ≤ R.slots) (K : ∀ T' h' a, a = h.size → Stand p l e R s m args below meth c T' locs (cells + 1) (slots + n) → T'.heap = h' → Ext h h' → Exa Z h' a C → (∀ {O nm d : String} {ty : FieldType}, Laid Z a0 C O nm d → parseFieldDescriptor d = some ty → Fld Z h' a O nm d (defaultValue ty)) → Goes p e below (T'.setTop (mkF m pc' Ls (.ref a :: st))) P) : Goes p e below (T.setTop (mkF m pc Ls st)) P := by
  subst hpc
  obtain ⟨T', h', X', e', E', A', D', -, st'⟩ := newO X hx hZ hown w wi wz eT (g := mkF m pc Ls st) rfl hd hc hl
  exact go st' (K T' h' _ rfl X' e' E' A' D')
theorem g_initO (X : Stand p l e R s m args below meth c T locs cells slots) (hx : p.tables.exec = Jvm.exec) (hZ : Z.Warmed39 s.vm) (pc' : Nat) (hpc : pc + 3 = pc') {own : String} {idx : Nat} (hown : s.vm.findClass own = some m.cls) (w1 : (Jvm.Cond.methodLink own idx Lib.objectInit).before a0 Z = true) (w2 : (Jvm.Cond.instanceMethod Lib.objectInit).before a0 Z = true) (w3 : (Jvm.Cond.code Lib.objectInit ⟨#[0xb1]⟩ 1 none).before a0 Z = true) (eT : T.heap = h) (hsize : Ls.size = c.maxLocals) {a : Addr} (hd : decode c.code pc = .ok (.invokespecial idx, 3)) (hf : 1 ≤ R.frames) (W : Nat) (hW : 2 * 0 + (st.map fun v => v.category).sum ≤ W) (hl : W + 12 ≤ R.locals) (K : ∀ T', Stand p l e R s m args below meth c T' locs cells slots → T'.heap = h → Goes p e below (T'.setTop (mkF m pc' Ls st)) P) : Goes p e below (T.setTop (mkF m pc Ls (.ref a :: st))) P := by
  subst hpc
  obtain ⟨T', X', e', st'⟩ := initO X hx hZ hown w1 w2 w3 eT (g := mkF m pc Ls (.ref a :: st)) rfl hsize rfl hd hf hW hl
  exact go st' (K T' X' e')
theorem g_callS (X : Stand p l e R s m args below meth c T locs cells slots) (hx : p.tables.exec = Jvm.exec) (hZ : Z.Warmed39 s.vm) (pc' : Nat) (hpc : pc + 3 = pc') {own : String} {index : Nat} {y : MethodName} {bytes : ByteArray} {maxL : Nat} {ret : Option FieldType} {rm : Room} {Q : Option Value → Heap → List Loc → Prop} (hown : s.vm.findClass own = some m.cls) (w1 : (Jvm.Cond.methodLink own index y).before a0 Z = true) (w2 : (Jvm.Cond.static y).before a0 Z = true) (w3 : (Jvm.Cond.initialized y.cls).before a0 Z = true) (w4 : (Jvm.Cond.code y bytes maxL ret).before a0 Z = true) (hy : y.cls ≠ "java/lang/invoke/MethodHandle" ∧ y.cls ≠ "java/lang/invoke/VarHandle") (argsL rest : List Value) (hM : OwnMet l Z y bytes maxL ret [] rm argsL.toArray h Q) (eT : T.heap = h) (hlen : ∀ sig, parseMethodDescriptor y.desc = some sig → argsL.length = sig.parameters.length) (hst : st = argsL.reverse ++ rest) (hsize : Ls.size = c.maxLocals) (hd : decode c.code pc = .ok (.invokestatic index, 3)) (hf : rm.frames + 1 ≤ R.frames) (W : Nat) (hW : 2 * 0 + (rest.map fun v => v.category).sum ≤ W) (hl : W + (maxL + 11) + rm.locals ≤ R.locals) (hc : cells + rm.cells ≤ R.cells) (hs : slots + rm.slots ≤ R.slots) (K : ∀ v T' L', Stand p l e R s m args below meth c T' (locs ++ L') (cells + rm.cells) (slots + rm.slots) → Q v T'.heap L' → Goes p e below (T'.setTop (mkF m pc' Ls (v.toList ++ rest))) P) : Goes p e below (T.setTop (mkF m pc Ls st)) P := by
  subst hpc; subst hst
  obtain ⟨v, _, ⟨T', L', k', n'⟩, -, X', ⟨Lc, hQ, e1, e2, e3⟩, st'⟩ := Jvm.LawKit.callS X hx (y := y) hown (mvT hZ w1) (mvT hZ w2) (mvT hZ w3) (mvT hZ w4) hy (backOf (W := W) hM hZ w4 w3 hf hl) (g := mkF m pc Ls (argsL.reverse ++ rest)) rfl hsize (argsL := argsL) (rest := rest) hlen rfl hW hd (fun _ _ => ⟨rfl, eT, hc, hs⟩)
  dsimp only [Pt.U, Pt.locs, Pt.cells, Pt.slots] at X' e1 e2 e3 st' hQ
  subst e1 e2 e3
  exact go st' (K v T' Lc X' hQ)
theorem g_callI (X : Stand p l e R s m args below meth c T locs cells slots) (hx : p.tables.exec = Jvm.exec) (hZ : Z.Warmed39 s.vm) (pc' : Nat) (hpc : pc + 3 = pc') {own : String} {index : Nat} {y : MethodName} {bytes : ByteArray} {maxL : Nat} {rm : Room} {Q : Option Value → Heap → List Loc → Prop} (hy1 : y.name = "<init>") (hown : s.vm.findClass own = some m.cls) (w1 : (Jvm.Cond.methodLink own index y).before a0 Z = true) (w2 : (Jvm.Cond.instanceMethod y).before a0 Z = true) (w3 : (Jvm.Cond.initialized y.cls).before a0 Z = true) (w4 : (Jvm.Cond.code y bytes maxL none).before a0 Z = true) (hy : y.cls ≠ "java/lang/invoke/MethodHandle" ∧ y.cls ≠ "java/lang/invoke/VarHandle") (a : Addr) (argsL rest : List Value) (hM : OwnMet l Z y bytes maxL none [] rm (.ref a :: argsL).toArray h Q) (eT : T.heap = h) (hlen : ∀ sig, parseMethodDescriptor y.desc = some sig → argsL.length = sig.parameters.length) (hst : st = argsL.reverse ++ .ref a :: rest) (hsize : Ls.size = c.maxLocals) (hd : decode c.code pc = .ok (.invokespecial index, 3)) (hf : rm.frames + 1 ≤ R.frames) (W : Nat) (hW : 2 * 0 + (rest.map fun v => v.category).sum ≤ W) (hl : W + (maxL + 11) + rm.locals ≤ R.locals) (hc : cells + rm.cells ≤ R.cells) (hs : slots + rm.slots ≤ R.slots) (K : ∀ v T' L', Stand p l e R s m args below meth c T' (locs ++ L') (cells + rm.cells) (slots + rm.slots) → Q v T'.heap L' → Goes p e below (T'.setTop (mkF m pc' Ls (v.toList ++ rest))) P) : Goes p e below (T.setTop (mkF m pc Ls st)) P := by
  subst hpc; subst hst
  obtain ⟨v, _, ⟨T', L', k', n'⟩, -, X', ⟨Lc, hQ, e1, e2, e3⟩, st'⟩ := X.specialBack hx (y := y) hy1 hown (mvT hZ w1) (mvT hZ w2) (mvT hZ w4) hy (backOf (W := W) hM hZ w4 w3 hf hl) (g := mkF m pc Ls (argsL.reverse ++ .ref a :: rest)) rfl hsize (Steps.refl _) (a := a) (argsL := argsL) (rest := rest) hlen rfl hW hd (fun _ _ => ⟨rfl, eT, hc, hs⟩)
  dsimp only [Pt.U, Pt.locs, Pt.cells, Pt.slots] at X' e1 e2 e3 st' hQ
  subst e1 e2 e3
  exact goT st' (K v T' Lc X' hQ)
theorem g_callV (X : Stand p l e R s m args below meth c T locs cells slots) (hx : p.tables.exec = Jvm.exec) (hZ : Z.Warmed39 s.vm) (pc' : Nat) (hpc : pc + 3 = pc') {own C : String} {index : Nat} {y : MethodName} {bytes : ByteArray} {maxL : Nat} {ret : Option FieldType} {rm : Room} {Q : Option Value → Heap → List Loc → Prop} (hown : s.vm.findClass own = some m.cls) (w1 : (Jvm.Cond.methodLink own index y).before a0 Z = true) (w2 : (Jvm.Cond.declares y).before a0 Z = true) (w5 : (Jvm.Cond.selects C y y).before a0 Z = true) (w6 : (Jvm.Cond.instanceMethod y).before a0 Z = true) (w3 : (Jvm.Cond.initialized y.cls).before a0 Z = true) (w4 : (Jvm.Cond.code y bytes maxL ret).before a0 Z = true) (hy : y.cls ≠ "java/lang/invoke/MethodHandle" ∧ y.cls ≠ "java/lang/invoke/VarHandle") (a : Addr) (argsL rest : List Value) (hM : OwnMet l Z y bytes maxL ret [] rm (.ref a :: argsL).toArray h Q) (eT : T.heap = h) (Ex : Exa Z h a C) (hlen : ∀ sig, parseMethodDescriptor y.desc = some sig → argsL.length = sig.parameters.length) (hst : st = argsL.reverse ++ .ref a :: rest) (hsize : Ls.size = c.maxLocals) (hd : decode c.code pc = .ok (.invokevirtual index, 3)) (hf : rm.frames + 1 ≤ R.frames) (W : Nat) (hW : 2 * 0 + (rest.map fun v => v.category).sum ≤ W) (hl : W + (maxL + 11) + rm.locals ≤ R.locals) (hc : cells + rm.cells ≤ R.cells) (hs : slots + rm.slots ≤ R.slots) (K : ∀ v T' L', Stand p l e R s m args below meth c T' (locs ++ L') (cells + rm.cells) (slots + rm.slots) → Q v T'.heap L' → Goes p e below (T'.setTop (mkF m pc' Ls (v.toList ++ rest))) P) : Goes p e below (T.setTop (mkF m pc Ls st)) P := by
  subst hpc; subst hst
  obtain ⟨cq, kq, qa, qb, qc⟩ := isOf hZ eT Ex
  obtain ⟨v, _, ⟨T', L', k', n'⟩, -, X', ⟨Lc, hQ, e1, e2, e3⟩, st'⟩ := X.virtualBack hx (y := y) (z := y) hown (mvT hZ w1) (mvT hZ w2) (notFace_of_selects (args := #[]) (mvT hZ w5)) (mvT hZ w5) (mvT hZ w6) hy (backOf (W := W) hM hZ w4 w3 hf hl) qa qc (g := mkF m pc Ls (argsL.reverse ++ .ref a :: rest)) rfl hsize (Steps.refl _) (argsL := argsL) (rest := rest) hlen rfl hW hd (fun _ _ => ⟨rfl, eT, hc, hs⟩)
  dsimp only [Pt.U, Pt.locs, Pt.cells, Pt.slots] at X' e1 e2 e3 st' hQ
  subst e1 e2 e3
  exact goT st' (K v T' Lc X' hQ)
theorem g_callP (X : Stand p l e R s m args below meth c T locs cells slots) (hx : p.tables.exec = Jvm.exec) (hZ : Z.Warmed39 s.vm) (pc' : Nat) (hpc : pc + 3 = pc') {own : String} {index : Nat} {y : MethodName} {bytes : ByteArray} {maxL : Nat} {ret : Option FieldType} {rm : Room} {Q : Option Value → Heap → List Loc → Prop} {kk : Nat} {C : String} (hown : s.vm.findClass own = some m.cls) (w1 : (Jvm.Cond.methodLink own index y).before a0 Z = true) (w2 : (Jvm.Cond.instanceMethod y).before a0 Z = true) (w5 : (Jvm.Cond.privateMethod y).before a0 Z = true) (wi : (Jvm.Cond.instantiable y.cls kk).before a0 Z = true) (w3 : (Jvm.Cond.initialized y.cls).before a0 Z = true) (w4 : (Jvm.Cond.code y bytes maxL ret).before a0 Z = true) (hy : y.cls ≠ "java/lang/invoke/MethodHandle" ∧ y.cls ≠ "java/lang/invoke/VarHandle") (a : Addr) (argsL rest : List Value) (hM : OwnMet l Z y bytes maxL ret [] rm (.ref a :: argsL).toArray h Q) (eT : T.heap = h) (Ex : Exa Z h a C) (hlen : ∀ sig, parseMethodDescriptor y.desc = some sig → argsL.length = sig.parameters.length) (hst : st = argsL.reverse ++ .ref a :: rest) (hsize : Ls.size = c.maxLocals) (hd : decode c.code pc = .ok (.invokevirtual index, 3)) (hf : rm.frames + 1 ≤ R.frames) (W : Nat) (hW : 2 * 0 + (rest.map fun v => v.category).sum ≤ W) (hl : W + (maxL + 11) + rm.locals ≤ R.locals) (hc : cells + rm.cells ≤ R.cells) (hs : slots + rm.slots ≤ R.slots) (K : ∀ v T' L', Stand p l e R s m args below meth c T' (locs ++ L') (cells + rm.cells) (slots + rm.slots) → Q v T'.heap L' → Goes p e below (T'.setTop (mkF m pc' Ls (v.toList ++ rest))) P) : Goes p e below (T.setTop (mkF m pc Ls st)) P := by
  subst hpc; subst hst
  obtain ⟨cl, hcl, hob⟩ := Ex.cell
  have hpriv : s.PrivateAt y := Cond.privateMethod_at (mvP hZ w5 (args := #[]))
  have hin : (Jvm.Cond.instanceMethod y).before args s = true := mvT hZ w2
  obtain ⟨c1, k1, i1, i2, -, i4, -⟩ := Cond.instantiable_spec (mvT hZ wi (args := args) : (Jvm.Cond.instantiable y.cls kk).before args s = true)
  have hsel : (Jvm.Cond.selects y.cls y y).before args s = true := selects_self_of_private i1 i2 (by cases q : k1.isInterface <;> simp [q] at i4 ⊢) hpriv hin hy
  obtain ⟨v, _, ⟨T', L', k', n'⟩, -, X', ⟨Lc, hQ, e1, e2, e3⟩, st'⟩ := X.privateBack hx (y := y) hown (mvT hZ w1) hin hsel hpriv (mvT hZ w4) hy (backOf (W := W) hM hZ w4 w3 hf hl) (g := mkF m pc Ls (argsL.reverse ++ .ref a :: rest)) rfl hsize (Steps.refl _) (a := a) (cell := cl) (by rw [eT]; exact hcl) hob (argsL := argsL) (rest := rest) hlen rfl hW hd (fun _ _ => ⟨rfl, eT, hc, hs⟩)
  dsimp only [Pt.U, Pt.locs, Pt.cells, Pt.slots] at X' e1 e2 e3 st' hQ
  subst e1 e2 e3
  exact goT st' (K v T' Lc X' hQ)
def Al (Z : State) (h : Heap) (a : Addr) (ty : FieldType) (vs : List Value) : Prop := ∃ c : Cell, Arr Z h a c ty ∧ c.slots.toList = vs ∧ vs.length < 2147483648
theorem Al.lt {a : Addr} {ty : FieldType} {vs : List Value} (F : Al Z h a ty vs) : a < h.size := by obtain ⟨c, A, -⟩ := F; exact A.lt
theorem Al.ext {h' : Heap} {a : Addr} {ty : FieldType} {vs : List Value} (F : Al Z h a ty vs) (E : Ext h h') : Al Z h' a ty vs := by obtain ⟨c, A, r⟩ := F; exact ⟨c, A.ext E, r⟩
theorem Al.other {h' : Heap} {a b : Addr} {sl : Nat} {v : Value} {ty : FieldType} {vs : List Value} (F : Al Z h b ty vs) (W : Wr h h' a sl v) (q : b ≠ a) : Al Z h' b ty vs := by obtain ⟨c, A, r⟩ := F; exact ⟨c, A.other W q, r⟩
theorem Al.keep {h' : Heap} {a : Addr} {ws : List Addr} {ty : FieldType} {vs : List Value} (F : Al Z h a ty vs) (K : Keep h h' ws) (q : a ∉ ws) : Al Z h' a ty vs := by obtain ⟨c, A, r⟩ := F; exact ⟨c, ⟨K.2.1 a c A.1 q, A.2⟩, r⟩
theorem Al.same {h' : Heap} {a : Addr} {i : Nat} {v : Value} {ty : FieldType} {vs : List Value} (F : Al Z h a ty vs) (W : Wr h h' a i v) : Al Z h' a ty (vs.set i v) := by
  obtain ⟨c, A, r1, r2⟩ := F
  exact ⟨_, A.same W, by rw [← r1]; simp [Cell.setSlot], by rw [List.length_set]; exact r2⟩
theorem own_ix {j : Int32} {i : Nat} (hj : j.toInt = (i : Int)) : j.toNatClampNeg = i ∧ ¬ j < 0 := by
  refine ⟨by simp only [Int32.toNatClampNeg]; omega, fun q => ?_⟩
  rw [Int32.lt_iff_toInt_lt] at q; simp only [Int32.reduceToInt] at q; omega
theorem Al.cell {a : Addr} {ty : FieldType} {vs : List Value} (F : Al Z h a ty vs) {j : Int32} {i : Nat} (hj : j.toInt = (i : Int)) (hi : i < vs.length) : ∃ c : Cell, Arr Z h a c ty ∧ c.slots.toList = vs ∧ ¬ (j < 0 ∨ c.slots.size ≤ j.toNatClampNeg) ∧ c.slots[j.toNatClampNeg]? = vs[i]? := by
  obtain ⟨c, A, r1, r2⟩ := F
  obtain ⟨q1, q2⟩ := own_ix hj
  have hs : c.slots.size = vs.length := by rw [← r1]; simp
  exact ⟨c, A, r1, fun q => q.elim q2 (by rw [q1, hs]; omega), by rw [q1, ← r1, Array.getElem?_toList]⟩
theorem g_alen (X : Stand p l e R s m args below meth c T locs cells slots) (hx : p.tables.exec = Jvm.exec) (hZ : Z.Warmed39 s.vm) (pc' : Nat) (hpc : pc + 1 = pc') (hd : decode c.code pc = .ok (.arraylength, 1)) (eT : T.heap = h) {a : Addr} {ty : FieldType} {vs : List Value} (A : Al Z h a ty vs) (n : Int32) (hn : Int32.ofNat vs.length = n) (K : Goes p e below (T.setTop (mkF m pc' Ls (.int n :: st))) P) : Goes p e below (T.setTop (mkF m pc Ls (.ref a :: st))) P := by
  subst hpc
  obtain ⟨c, A, r1, r2⟩ := A
  have hs : c.slots.size.toInt32 = n := by rw [← hn, ← r1]; simp
  exact go (fun _ q => X.arraylength hx (by rw [eT]; exact A.1) (State.isArrayOf_alike hZ.alike A.2.1) (g := mkF m pc Ls (.ref a :: st)) rfl rfl hd _ (by rw [hs]; exact q)) K
theorem g_iaload (X : Stand p l e R s m args below meth c T locs cells slots) (hx : p.tables.exec = Jvm.exec) (hZ : Z.Warmed39 s.vm) (pc' : Nat) (hpc : pc + 1 = pc') (hd : decode c.code pc = .ok (.iaload, 1)) (eT : T.heap = h) {a : Addr} {vs : List Value} (A : Al Z h a .int vs) {j : Int32} (i : Nat) (hj : j.toInt = (i : Int)) (v : Value) (hv : vs[i]? = some v) (K : Goes p e below (T.setTop (mkF m pc' Ls (v :: st))) P) : Goes p e below (T.setTop (mkF m pc Ls (.int j :: .ref a :: st))) P := by
  subst hpc
  obtain ⟨c, A, r1, r2, r3⟩ := A.cell hj (List.getElem?_eq_some_iff.mp hv).1
  exact go (fun _ q => X.iaload hx (by rw [eT]; exact A.1) (State.isArrayOf_alike hZ.alike A.2.1) A.2.2 r2 (r3.trans hv) (g := mkF m pc Ls (.int j :: .ref a :: st)) rfl rfl hd _ q) K
theorem g_laload (X : Stand p l e R s m args below meth c T locs cells slots) (hx : p.tables.exec = Jvm.exec) (hZ : Z.Warmed39 s.vm) (pc' : Nat) (hpc : pc + 1 = pc') (hd : decode c.code pc = .ok (.laload, 1)) (eT : T.heap = h) {a : Addr} {vs : List Value} (A : Al Z h a .long vs) {j : Int32} (i : Nat) (hj : j.toInt = (i : Int)) (v : Value) (hv : vs[i]? = some v) (K : Goes p e below (T.setTop (mkF m pc' Ls (v :: st))) P) : Goes p e below (T.setTop (mkF m pc Ls (.int j :: .ref a :: st))) P := by
  subst hpc
  obtain ⟨c, A, r1, r2, r3⟩ := A.cell hj (List.getElem?_eq_some_iff.mp hv).1
  exact go (fun _ q => X.laload hx (by rw [eT]; exact A.1) (State.isArrayOf_alike hZ.alike A.2.1) A.2.2 r2 (r3.trans hv) (g := mkF m pc Ls (.int j :: .ref a :: st)) rfl rfl hd _ q) K
theorem g_baload (X : Stand p l e R s m args below meth c T locs cells slots) (hx : p.tables.exec = Jvm.exec) (hZ : Z.Warmed39 s.vm) (pc' : Nat) (hpc : pc + 1 = pc') (hd : decode c.code pc = .ok (.baload, 1)) (eT : T.heap = h) {a : Addr} {vs : List Value} (A : Al Z h a .byte vs) {j : Int32} (i : Nat) (hj : j.toInt = (i : Int)) (v : Value) (hv : vs[i]? = some v) (K : Goes p e below (T.setTop (mkF m pc' Ls (v :: st))) P) : Goes p e below (T.setTop (mkF m pc Ls (.int j :: .ref a :: st))) P := by
  subst hpc
  obtain ⟨c, A, r1, r2, r3⟩ := A.cell hj (List.getElem?_eq_some_iff.mp hv).1
  exact go (fun _ q => X.baloadBytes hx (by rw [eT]; exact A.1) (State.isArrayOf_alike hZ.alike A.2.1) A.2.2 r2 (r3.trans hv) (g := mkF m pc Ls (.int j :: .ref a :: st)) rfl rfl hd _ q) K
theorem g_caload (X : Stand p l e R s m args below meth c T locs cells slots) (hx : p.tables.exec = Jvm.exec) (hZ : Z.Warmed39 s.vm) (pc' : Nat) (hpc : pc + 1 = pc') (hd : decode c.code pc = .ok (.caload, 1)) (eT : T.heap = h) {a : Addr} {vs : List Value} (A : Al Z h a .char vs) {j : Int32} (i : Nat) (hj : j.toInt = (i : Int)) (v : Value) (hv : vs[i]? = some v) (K : Goes p e below (T.setTop (mkF m pc' Ls (v :: st))) P) : Goes p e below (T.setTop (mkF m pc Ls (.int j :: .ref a :: st))) P := by
  subst hpc
  obtain ⟨c, A, r1, r2, r3⟩ := A.cell hj (List.getElem?_eq_some_iff.mp hv).1
  exact go (fun _ q => X.caload hx (by rw [eT]; exact A.1) (State.isArrayOf_alike hZ.alike A.2.1) A.2.2 r2 (r3.trans hv) (g := mkF m pc Ls (.int j :: .ref a :: st)) rfl rfl hd _ q) K
theorem g_iastore (X : Stand p l e R s m args below meth c T locs cells slots) (hx : p.tables.exec = Jvm.exec) (hZ : Z.Warmed39 s.vm) (pc' : Nat) (hpc : pc + 1 = pc') (hd : decode c.code pc = .ok (.iastore, 1)) (eT : T.heap = h) {a : Addr} {vs : List Value} (A : Al Z h a .int vs) {j : Int32} {x : Int32} (i : Nat) (hj : j.toInt = (i : Int)) (hi : i < vs.length) (K : ∀ T' h', Stand p l e R s m args below meth c T' (locs ++ [⟨a, i⟩]) cells slots → T'.heap = h' → Wr h h' a i (.int x) → Al Z h' a .int (vs.set i (.int x)) → Goes p e below (T'.setTop (mkF m pc' Ls st)) P) : Goes p e below (T.setTop (mkF m pc Ls (.int x :: .int j :: .ref a :: st))) P := by
  subst hpc
  obtain ⟨c, Ar, r1, r2, r3⟩ := A.cell hj hi
  obtain ⟨T', h', X', e', W', st'⟩ := stI X hx hZ eT Ar r2 (g := mkF m pc Ls (.int x :: .int j :: .ref a :: st)) rfl rfl hd
  rw [(own_ix hj).1] at X' W'
  exact go st' (K T' h' X' e' W' (A.same W'))
theorem g_lastore (X : Stand p l e R s m args below meth c T locs cells slots) (hx : p.tables.exec = Jvm.exec) (hZ : Z.Warmed39 s.vm) (pc' : Nat) (hpc : pc + 1 = pc') (hd : decode c.code pc = .ok (.lastore, 1)) (eT : T.heap = h) {a : Addr} {vs : List Value} (A : Al Z h a .long vs) {j : Int32} {x : Int64} (i : Nat) (hj : j.toInt = (i : Int)) (hi : i < vs.length) (K : ∀ T' h', Stand p l e R s m args below meth c T' (locs ++ [⟨a, i⟩]) cells slots → T'.heap = h' → Wr h h' a i (.long x) → Al Z h' a .long (vs.set i (.long x)) → Goes p e below (T'.setTop (mkF m pc' Ls st)) P) : Goes p e below (T.setTop (mkF m pc Ls (.long x :: .int j :: .ref a :: st))) P := by
  subst hpc
  obtain ⟨c, Ar, r1, r2, r3⟩ := A.cell hj hi
  obtain ⟨T', h', X', e', W', st'⟩ := stJ X hx hZ eT Ar r2 (g := mkF m pc Ls (.long x :: .int j :: .ref a :: st)) rfl rfl hd
  rw [(own_ix hj).1] at X' W'
  exact go st' (K T' h' X' e' W' (A.same W'))
theorem g_bastore (X : Stand p l e R s m args below meth c T locs cells slots) (hx : p.tables.exec = Jvm.exec) (hZ : Z.Warmed39 s.vm) (pc' : Nat) (hpc : pc + 1 = pc') (hd : decode c.code pc = .ok (.bastore, 1)) (eT : T.heap = h) {a : Addr} {vs : List Value} (A : Al Z h a .byte vs) {j : Int32} {x : Int32} (i : Nat) (hj : j.toInt = (i : Int)) (hi : i < vs.length) (K : ∀ T' h', Stand p l e R s m args below meth c T' (locs ++ [⟨a, i⟩]) cells slots → T'.heap = h' → Wr h h' a i (.int (nar .byte x)) → Al Z h' a .byte (vs.set i (.int (nar .byte x))) → Goes p e below (T'.setTop (mkF m pc' Ls st)) P) : Goes p e below (T.setTop (mkF m pc Ls (.int x :: .int j :: .ref a :: st))) P := by
  subst hpc
  obtain ⟨c, Ar, r1, r2, r3⟩ := A.cell hj hi
  obtain ⟨T', h', X', e', W', st'⟩ := stB X hx hZ eT Ar r2 (g := mkF m pc Ls (.int x :: .int j :: .ref a :: st)) rfl rfl hd
  rw [(own_ix hj).1] at X' W'
  exact go st' (K T' h' X' e' W' (A.same W'))
theorem g_castore (X : Stand p l e R s m args below meth c T locs cells slots) (hx : p.tables.exec = Jvm.exec) (hZ : Z.Warmed39 s.vm) (pc' : Nat) (hpc : pc + 1 = pc') (hd : decode c.code pc = .ok (.castore, 1)) (eT : T.heap = h) {a : Addr} {vs : List Value} (A : Al Z h a .char vs) {j : Int32} {x : Int32} (i : Nat) (hj : j.toInt = (i : Int)) (hi : i < vs.length) (K : ∀ T' h', Stand p l e R s m args below meth c T' (locs ++ [⟨a, i⟩]) cells slots → T'.heap = h' → Wr h h' a i (.int (nar .char x)) → Al Z h' a .char (vs.set i (.int (nar .char x))) → Goes p e below (T'.setTop (mkF m pc' Ls st)) P) : Goes p e below (T.setTop (mkF m pc Ls (.int x :: .int j :: .ref a :: st))) P := by
  subst hpc
  obtain ⟨c, Ar, r1, r2, r3⟩ := A.cell hj hi
  obtain ⟨T', h', X', e', W', st'⟩ := stC X hx hZ eT Ar r2 (g := mkF m pc Ls (.int x :: .int j :: .ref a :: st)) rfl rfl hd
  rw [(own_ix hj).1] at X' W'
  exact go st' (K T' h' X' e' W' (A.same W'))
theorem g_newarr (X : Stand p l e R s m args below meth c T locs cells slots) (hx : p.tables.exec = Jvm.exec) (hZ : Z.Warmed39 s.vm) (pc' : Nat) (hpc : pc + 2 = pc') {aty : ArrayType} (w : (Jvm.Cond.arrayClass (newarray.typeOf aty)).before a0 Z = true) (eT : T.heap = h) (hd : decode c.code pc = .ok (.newarray aty, 2)) {n : Int32} (k : Nat) (hn : n.toInt = (k : Int)) (cap : Nat) (hcap : k ≤ cap) (hb : cap * 8 ≤ 536870912) (hc : cells + 1 ≤ R.cells) (hl : slots + cap ≤ R.slots) (ad : String) (had : "[" ++ (newarray.typeOf aty).toString = ad) (K : ∀ T' h' a, a = h.size → Stand p l e R s m args below meth c T' locs (cells + 1) (slots + cap) → T'.heap = h' → Ext h h' → Al Z h' a (newarray.typeOf aty) (List.replicate k (defaultValue (newarray.typeOf aty))) → Exa Z h' a ad → Goes p e below (T'.setTop (mkF m pc' Ls (.ref a :: st))) P) : Goes p e below (T.setTop (mkF m pc Ls (.int n :: st))) P := by
  subst hpc
  obtain ⟨q1, q2⟩ := own_ix hn
  obtain ⟨T', h', cA, X', e', E', A', Ex', st'⟩ := newPE X hx hZ w eT (g := mkF m pc Ls (.int n :: st)) rfl hd rfl q2 (cap := cap) (by rw [q1]; exact hcap) hb hc hl had
  refine go st' (K T' h' _ rfl X' e' E' ⟨_, A', by simp [newA, q1], ?_⟩ Ex')
  rw [List.length_replicate]
  have := Int32.toInt_lt n
  omega
theorem own_narb (x : Int32) : nar .byte x.toInt8.toInt32 = x.toInt8.toInt32 := by show x.toInt8.toInt32.toInt8.toInt32 = _; simp
theorem g_cast (X : Stand p l e R s m args below meth c T locs cells slots) (hx : p.tables.exec = Jvm.exec) (hZ : Z.Warmed39 s.vm) (pc' : Nat) (hpc : pc + 3 = pc') {own K : String} {index : Nat} (hown : s.vm.findClass own = some m.cls) (w : (Jvm.Cond.classLink own index K).before a0 Z = true) (eT : T.heap = h) {a : Addr} (F : Ins Z h a K true) (hd : decode c.code pc = .ok (.checkcast index, 3)) (K2 : ∀ T', Stand p l e R s m args below meth c T' locs cells slots → T'.heap = h → Goes p e below (T'.setTop (mkF m pc' Ls (.ref a :: st))) P) : Goes p e below (T.setTop (mkF m pc Ls (.ref a :: st))) P := by
  subst hpc
  obtain ⟨T', X', e', st'⟩ := castY X hx hZ hown w eT F (g := mkF m pc Ls (.ref a :: st)) rfl rfl hd
  exact go st' (K2 T' X' e')
theorem own_fitc {a : Addr} {ty : FieldType} {vs : List Value} {c : Cell} (A : Arr Z h a c ty) (r : c.slots.toList = vs) (hfit : ∀ v ∈ vs, fits ty v = true) : FitC Z c := fitC_of A fun i hi v hv => hfit v (by rw [← r]; rw [← Array.getElem?_toList] at hv; exact List.mem_of_getElem? hv)
theorem g_clone (X : Stand p l e R s m args below meth c T locs cells slots) (hx : p.tables.exec = Jvm.exec) (hZ : Z.Warmed39 s.vm) (pc' : Nat) (hpc : pc + 3 = pc') {own ad : String} {index : Nat} (hown : s.vm.findClass own = some m.cls) (w1 : (Jvm.Cond.methodLink own index ⟨ad, "clone", "()Ljava/lang/Object;"⟩).before a0 Z = true) (w2 : (Jvm.Cond.sameMethod ad "java/lang/Object" "clone" "()Ljava/lang/Object;").before a0 Z = true) (w3 : (Jvm.Cond.native ⟨"java/lang/Object", "clone", "()Ljava/lang/Object;"⟩).before a0 Z = true) (w4 : (Jvm.Cond.instanceMethod ⟨"java/lang/Object", "clone", "()Ljava/lang/Object;"⟩).before a0 Z = true) (w5 : (Jvm.Cond.selects ad ⟨ad, "clone", "()Ljava/lang/Object;"⟩ ⟨"java/lang/Object", "clone", "()Ljava/lang/Object;"⟩).before a0 Z = true) (w6 : (Jvm.Cond.castable ad "java/lang/Cloneable").before a0 Z = true) (eT : T.heap = h) {a : Addr} {ty : FieldType} {vs : List Value} (A : Al Z h a ty vs) (Ex : Exa Z h a ad) (hfit : ∀ v ∈ vs, fits ty v = true) (hd : decode c.code pc = .ok (.invokevirtual index, 3)) (hsize : Ls.size = c.maxLocals) (hf : 1 ≤ R.frames) (W : Nat) (hW : 2 * 0 + (st.map fun v => v.category).sum ≤ W) (hl : W + 14 ≤ R.locals) (cap : Nat) (hcap : vs.length ≤ cap) (hc : cells + 1 ≤ R.cells) (hs : slots + cap ≤ R.slots) (K : ∀ T' h' b, b = h.size → Stand p l e R s m args below meth c T' locs (cells + 1) (slots + cap) → T'.heap = h' → Ext h h' → Al Z h' b ty vs → Exa Z h' b ad → Goes p e below (T'.setTop (mkF m pc' Ls (.ref b :: st))) P) : Goes p e below (T.setTop (mkF m pc Ls (.ref a :: st))) P := by
  subst hpc
  obtain ⟨c, Ar, r1, r2⟩ := A
  obtain ⟨T', h', X', e', E', A', Ex', st'⟩ := cloneA X hx hZ hown w1 w2 w3 w4 w5 w6 eT Ar Ex (own_fitc Ar r1 hfit) (g := mkF m pc Ls (.ref a :: st)) rfl hsize rfl hd hf hW hl (by rw [← r1] at hcap; simpa using hcap) hc hs
  exact go st' (K T' h' _ rfl X' e' E' ⟨_, A', r1, r2⟩ Ex')
theorem own_arv {a : Addr} {ty : FieldType} {vs : List Value} (d : Value) (A : Al Z h a ty vs) (hfit : ∀ v ∈ vs, fits ty v = true) : ∃ k, Arv Z h a k ty (Int32.ofNat vs.length) vs d := by
  obtain ⟨c, Ar, r1, r2⟩ := A
  have hs : c.slots.size = vs.length := by rw [← r1]; simp
  have h1 : (Int32.ofNat vs.length).toInt = (vs.length : Int) := Int32.toInt_ofNat_of_lt r2
  obtain ⟨q1, q2⟩ := own_ix h1
  have hv : ∀ i, i < c.slots.size → c.slots[i]? = some (vs.getD i d) := fun i hi => by
    rw [← Array.getElem?_toList, r1, List.getD_eq_getElem?_getD, List.getElem?_eq_getElem (by omega)]; rfl
  refine ⟨c.cls, c, Ar, rfl, by rw [hs, q1], q2, hv, fun i hi => hfit _ ?_⟩
  have := hv i hi
  rw [← Array.getElem?_toList, r1] at this
  exact List.mem_of_getElem? this
theorem own_al {a : Addr} {k : ClassId} {ty : FieldType} {z : Int32} {vs : List Value} {d : Value} (A : Arv Z h a k ty z vs d) (hl : vs.length = z.toNatClampNeg) : Al Z h a ty vs := by
  obtain ⟨c, Ar, -, S, M, H, -⟩ := A
  refine ⟨c, Ar, ?_, ?_⟩
  · apply List.ext_getElem?
    intro i
    rw [Array.getElem?_toList]
    by_cases hi : i < c.slots.size
    · rw [H i hi, List.getD_eq_getElem?_getD, List.getElem?_eq_getElem (by omega)]; rfl
    · rw [Array.getElem?_eq_none (by omega), List.getElem?_eq_none (by omega)]
  · have := (back32 M).2; omega
theorem g_acopy (X : Stand p l e R s m args below meth c T locs cells slots) (hx : p.tables.exec = Jvm.exec) (hZ : Z.Warmed39 s.vm) (pc' : Nat) (hpc : pc + 3 = pc') {own : String} {index : Nat} (hown : s.vm.findClass own = some m.cls) (w1 : (Jvm.Cond.methodLink own index Jvm.Stand.acN).before a0 Z = true) (w2 : (Jvm.Cond.native Jvm.Stand.acN).before a0 Z = true) (w3 : (Jvm.Cond.static Jvm.Stand.acN).before a0 Z = true) (w4 : (Jvm.Cond.initialized "java/lang/System").before a0 Z = true) (eT : T.heap = h) {a b : Addr} {ty : FieldType} {vs vd : List Value} (A : Al Z h a ty vs) (B : Al Z h b ty vd) (hp : refKind ty = false) (hfit : ∀ v ∈ vs, fits ty v = true) (hfit2 : ∀ v ∈ vd, fits ty v = true) {nn : Int32} (n : Nat) (hn : nn.toInt = (n : Int)) (h1 : n ≤ vs.length) (h2 : n ≤ vd.length) {n0 : Nat} (N : Fr n0 locs) (ge : n0 ≤ b) (hd : decode c.code pc = .ok (.invokestatic index, 3)) (hsize : Ls.size = c.maxLocals) (hf : 1 ≤ R.frames) (W : Nat) (hW : 2 * 0 + (st.map fun v => v.category).sum ≤ W) (hlo : W + (nativeFrameWords "java/lang/System" "arraycopy" 5 + 11) ≤ R.locals) (K : ∀ T' h' L, Stand p l e R s m args below meth c T' L cells slots → T'.heap = h' → Fr n0 L → Keep h h' [b] → Al Z h' b ty (vs.take n ++ vd.drop n) → Goes p e below (T'.setTop (mkF m pc' Ls st)) P) : Goes p e below (T.setTop (mkF m pc Ls (.int nn :: .int 0 :: .ref b :: .int 0 :: .ref a :: st))) P := by
  subst hpc
  obtain ⟨ka, Aa⟩ := own_arv (.int 0) A hfit
  obtain ⟨kb, Ab⟩ := own_arv (.int 0) B hfit2
  obtain ⟨q1, q2⟩ := own_ix hn
  have l1 : (Int32.ofNat vs.length).toNatClampNeg = vs.length := (own_ix (Int32.toInt_ofNat_of_lt A.choose_spec.2.2)).1
  have l2 : (Int32.ofNat vd.length).toNatClampNeg = vd.length := (own_ix (Int32.toInt_ofNat_of_lt B.choose_spec.2.2)).1
  have z0 : (0 : Int32).toNatClampNeg = 0 := rfl
  obtain ⟨T', h', L, X', e', N', K', A', st'⟩ := cpA X hx hZ hown w1 w2 w3 w4 eT Aa Ab (us := (List.range nn.toNatClampNeg).map fun i => vs.getD ((0 : Int32).toNatClampNeg + i) (.int 0)) (Or.inl ⟨rfl, hp⟩) (sp := 0) (dp := 0) (nn := nn) (by decide) (by decide) q2 (by rw [q1, l1, z0]; omega) (by rw [q1, l2, z0]; omega) rfl (by rw [q1, z0]; omega) N ge (g := mkF m pc Ls (.int nn :: .int 0 :: .ref b :: .int 0 :: .ref a :: st)) rfl hsize rfl hd hf hW hlo
  have hu : vd.take (0 : Int32).toNatClampNeg ++ ((List.range nn.toNatClampNeg).map fun i => vs.getD ((0 : Int32).toNatClampNeg + i) (.int 0)) ++ vd.drop ((0 : Int32).toNatClampNeg + nn.toNatClampNeg) = vs.take n ++ vd.drop n := by
    rw [z0, q1, List.take_zero, List.nil_append, Nat.zero_add]
    congr 1
    apply List.ext_getElem?
    intro i
    by_cases hi : i < n
    · rw [List.getElem?_take_of_lt hi, List.getElem?_map, List.getElem?_range hi, Option.map_some, Nat.zero_add, List.getD_eq_getElem?_getD, List.getElem?_eq_getElem (by omega)]; rfl
    · rw [List.getElem?_eq_none (by simp; omega), List.getElem?_eq_none (by simp; omega)]
  rw [hu] at A'
  exact go st' (K T' h' L X' e' N' K' (own_al A' (by rw [l2]; simp; omega)))
theorem own_eqI {args : Array Value} {first s : State} {o : Option Outcome} {idx : List Nat} {a : Term} {k : Int32} (q : (Jvm.Cond.eq a (Jvm.Term.int k)).value args first o s idx = some true) : a.eval args first o idx s = some (.int k) := by
  obtain ⟨x, y, h1, h2, h3, h4⟩ := cmp_v (Or.inl q)
  have h5 : y = .int k := (Option.some.inj ((Term.int_eval k).symm.trans h2)).symm
  subst h5
  obtain ⟨z, rfl⟩ := h4
  have h6 : z = k := gotT (Cond.eq_ints h1 h2) q
  rw [h1, h6]
theorem own_nar_ref {v : Value} {C : String} (q : v.isRef = true) : narrow (.object C) v = v := by cases v <;> simp [Value.isRef] at q <;> rfl
theorem own_fit_ref {v : Value} {C : String} (q : v.isRef = true) : fits (.object C) v = true := by cases v <;> simp [Value.isRef] at q <;> rfl
theorem own_sixteen (x : Int32) : (x.toBitVec.toNat < 2147483648 ∧ x.toInt = (x.toBitVec.toNat : Int)) ∨ (2147483648 ≤ x.toBitVec.toNat ∧ x.toInt = (x.toBitVec.toNat : Int) - 4294967296) := by
  have h1 : x.toInt = x.toBitVec.toInt := rfl
  have h2 := x.toBitVec.isLt
  rw [h1, BitVec.toInt_eq_toNat_cond]; split <;> omega
end OwnKit

theorem own_ofi (k : Nat) (hk : k < 2147483648) : (Int32.ofNat k).toInt = (k : Int) := Int32.toInt_ofNat_of_lt hk
theorem own_ofl (k : Nat) (hk : k < 9223372036854775808) : (Int64.ofNat k).toInt = (k : Int) := Int64.toInt_ofNat_of_lt hk
theorem own_ofNat (x : Int32) (k : Nat) (h : x.toInt = (k : Int)) : x = Int32.ofNat k := by
  have h3 := rng32 x
  apply Int32.toInt_inj.mp
  rw [Int32.toInt_ofNat_of_lt (by omega)]; exact h
theorem own_ofNatL (x : Int64) (k : Nat) (h : x.toInt = (k : Int)) : x = Int64.ofNat k := by
  have h3 := rng64 x
  apply Int64.toInt_inj.mp
  rw [Int64.toInt_ofNat_of_lt (by omega)]; exact h
theorem own_i2l (k : Nat) (hk : k < 2147483648) : (Int32.ofNat k).toInt64 = Int64.ofNat k := own_ofNatL _ _ (by rw [Int32.toInt_toInt64, own_ofi k hk])
theorem own_l2i (k : Nat) (hk : k < 2147483648) (x : Int64) (hx : x.toInt = (k : Int)) : x.toInt32 = Int32.ofNat k := by
  apply own_ofNat
  have h1 := c_l2i x
  have h2 := rng32 x.toInt32
  omega
theorem own_sh (p : Nat) (hp : p < 64) : ((Int32.ofNat p).toInt64 &&& 63).toBitVec = BitVec.ofNat 64 p := by
  rw [← BitVec.toNat_inj]
  show ((Int32.ofNat p).toInt64.toBitVec &&& 63#64).toNat = _
  rw [own_i2l p (by omega)]
  have e2 : (Int64.ofNat p).toBitVec.toNat = p := by
    show (BitVec.ofNat 64 p).toNat = p
    rw [BitVec.toNat_ofNat]; omega
  rw [BitVec.toNat_and, e2, show (63#64).toNat = 2 ^ 6 - 1 from rfl, Nat.and_two_pow_sub_one_eq_mod, BitVec.toNat_ofNat]
  omega
theorem own_shl (x : Int64) (p : Nat) (hp : p < 64) : (x <<< ((Int32.ofNat p).toInt64 &&& 63)).toBitVec = x.toBitVec <<< p := by
  have h : (x <<< ((Int32.ofNat p).toInt64 &&& 63)).toBitVec = x.toBitVec <<< (((Int32.ofNat p).toInt64 &&& 63).toBitVec.smod 64#64) := rfl
  rw [h, own_sh p hp, BitVec.shiftLeft_eq']
  exact congrArg (fun k => x.toBitVec <<< k) (smod64 _ hp)
theorem own_shr (x : Int64) (p : Nat) (hp : p < 64) : (XT.ushrL x (Int32.ofNat p)).toBitVec = x.toBitVec >>> p := by
  have h : (XT.ushrL x (Int32.ofNat p)).toBitVec = x.toBitVec >>> (((Int32.ofNat p).toInt64 &&& 63).toBitVec % 64#64) := rfl
  rw [h, own_sh p hp, BitVec.ushiftRight_eq']
  congr 1
  rw [BitVec.toNat_umod, BitVec.toNat_ofNat]
  show p % 2 ^ 64 % 64 = p
  omega
def own_mk (k : Nat) : Int64 := (1 : Int64) <<< ((Int32.ofNat k).toInt64 &&& 63) - (1 : Int64)
theorem own_mk_all : ∀ k : Fin 63, ∀ j : Fin 64, (own_mk k.val).toBitVec.getLsbD j.val = decide (j.val < k.val) := by decide +kernel
theorem own_mk_get (k : Nat) (hk : k ≤ 62) (j : Nat) : (own_mk k).toBitVec.getLsbD j = decide (j < k) := by
  by_cases hj : j < 64
  · exact own_mk_all ⟨k, by omega⟩ ⟨j, hj⟩
  · rw [BitVec.getLsbD_of_ge _ _ (by omega)]
    exact (decide_eq_false (by omega)).symm
theorem own_mk_int : ∀ k : Fin 63, (own_mk k.val).toInt = (2 : Int) ^ k.val - 1 := by decide +kernel
theorem own_neg1 : ∀ j : Fin 64, (-1 : Int64).toBitVec.getLsbD j.val = true := by decide +kernel
theorem own_hi (v : Int64) (k : Nat) (h0 : 0 ≤ v.toInt) (h1 : v.toInt < (2 : Int) ^ k) (j : Nat) (hj : k ≤ j) : v.toBitVec.getLsbD j = false := by
  have h2 : v.toInt = (v.toBitVec.toNat : Int) := by
    have e : v.toInt = v.toBitVec.toInt := rfl
    have l := v.toBitVec.isLt
    rw [e, BitVec.toInt_eq_toNat_cond] at h0 ⊢
    split <;> rename_i q
    · rfl
    · rw [if_neg q] at h0; omega
  have h3 : v.toBitVec.toNat < 2 ^ k := by
    rw [h2] at h1
    exact Int.ofNat_lt.mp (by rw [Int.natCast_pow]; exact h1)
  show v.toBitVec.toNat.testBit j = false
  exact Nat.testBit_lt_two_pow (Nat.lt_of_lt_of_le h3 (Nat.pow_le_pow_right (by decide) hj))
def own_p1 (o v : Int64) (t k : Nat) : Int64 := (o &&& ((own_mk k <<< ((Int32.ofNat t).toInt64 &&& 63)) ^^^ (-1 : Int64))) ||| (v <<< ((Int32.ofNat t).toInt64 &&& 63))
theorem own_p1_get (o v : Int64) (t k : Nat) (ht : t < 64) (hk : k ≤ 62) (hv : ∀ j, k ≤ j → v.toBitVec.getLsbD j = false) (j : Nat) (hj : j < 64) :
    (own_p1 o v t k).toBitVec.getLsbD j = if t ≤ j ∧ j < t + k then v.toBitVec.getLsbD (j - t) else o.toBitVec.getLsbD j := by
  unfold own_p1
  rw [Int64.toBitVec_or, Int64.toBitVec_and, Int64.toBitVec_xor, own_shl _ _ ht, own_shl _ _ ht, BitVec.getLsbD_or, BitVec.getLsbD_and, BitVec.getLsbD_xor, BitVec.getLsbD_shiftLeft, BitVec.getLsbD_shiftLeft, own_mk_get k hk, own_neg1 ⟨j, hj⟩]
  by_cases q1 : t ≤ j
  · by_cases q2 : j < t + k
    · rw [if_pos ⟨q1, q2⟩, decide_eq_true (show j - t < k by omega), decide_eq_false (show ¬ j < t by omega), decide_eq_true hj]; simp
    · rw [if_neg (fun z => q2 z.2), decide_eq_false (show ¬ j - t < k by omega), hv (j - t) (by omega)]; simp
  · rw [if_neg (fun z => q1 z.1), decide_eq_true (show j < t by omega)]; simp
def own_p2 (o v : Int64) (t k : Nat) : Int64 := (o &&& ((XT.ushrL (own_mk k) (Int32.ofNat (64 - t))) ^^^ (-1 : Int64))) ||| (XT.ushrL v (Int32.ofNat (64 - t)))
theorem own_p2_get (o v : Int64) (t k : Nat) (ht : t < 64) (h0 : 0 < t) (hk : k ≤ 62) (hv : ∀ j, k ≤ j → v.toBitVec.getLsbD j = false) (j : Nat) (hj : j < 64) :
    (own_p2 o v t k).toBitVec.getLsbD j = if j + 64 < t + k then v.toBitVec.getLsbD (j + 64 - t) else o.toBitVec.getLsbD j := by
  unfold own_p2
  rw [Int64.toBitVec_or, Int64.toBitVec_and, Int64.toBitVec_xor, own_shr _ _ (by omega), own_shr _ _ (by omega), BitVec.getLsbD_or, BitVec.getLsbD_and, BitVec.getLsbD_xor, BitVec.getLsbD_ushiftRight, BitVec.getLsbD_ushiftRight, own_mk_get k hk, own_neg1 ⟨j, hj⟩]
  rw [show 64 - t + j = j + 64 - t by omega]
  by_cases q : j + 64 < t + k
  · rw [if_pos q, decide_eq_true (show j + 64 - t < k by omega)]; simp
  · rw [if_neg q, decide_eq_false (show ¬ j + 64 - t < k by omega), hv (j + 64 - t) (by omega)]; simp
def own_upw (ws : Nat → Int64) (i : Nat) (x : Int64) : Nat → Int64 := fun j => if j = i then x else ws j
def own_W (ws : Nat → Int64) : List Value := (List.range 24).map fun i => .long (ws i)
theorem own_W_len (ws : Nat → Int64) : (own_W ws).length = 24 := by simp [own_W]
theorem own_W_get (ws : Nat → Int64) (i : Nat) (hi : i < 24) : (own_W ws)[i]? = some (.long (ws i)) := by
  unfold own_W; rw [List.getElem?_map, List.getElem?_range hi]; rfl
theorem own_W_set (ws : Nat → Int64) (i : Nat) (hi : i < 24) (x : Int64) : (own_W ws).set i (.long x) = own_W (own_upw ws i x) := by
  apply List.ext_getElem?
  intro j
  by_cases hj : j < 24
  · rw [own_W_get _ _ hj]
    by_cases q : i = j
    · subst q; rw [List.getElem?_set_self (by rw [own_W_len]; exact hj)]; unfold own_upw; rw [if_pos rfl]
    · rw [List.getElem?_set_ne q, own_W_get _ _ hj]; unfold own_upw; rw [if_neg (fun z => q z.symm)]
  · rw [List.getElem?_eq_none (by rw [List.length_set, own_W_len]; omega), List.getElem?_eq_none (by rw [own_W_len]; omega)]
def own_b (ws : Nat → Int64) (t : Nat) : Bool := (ws (t / 64)).toBitVec.getLsbD (t % 64)
def own_wr (ws ws' : Nat → Int64) (b k : Nat) (v : Int64) : Prop := ∀ t, own_b ws' t = if b ≤ t ∧ t < b + k then v.toBitVec.getLsbD (t - b) else own_b ws t
theorem own_put1 (ws : Nat → Int64) (b k : Nat) (v : Int64) (hk : k ≤ 62) (hv : ∀ j, k ≤ j → v.toBitVec.getLsbD j = false) (h : b % 64 + k ≤ 64) : own_wr ws (own_upw ws (b / 64) (own_p1 (ws (b / 64)) v (b % 64) k)) b k v := by
  intro t
  unfold own_b own_upw
  by_cases q : t / 64 = b / 64
  · rw [if_pos q, own_p1_get _ _ _ _ (by omega) hk hv _ (by omega), q]
    by_cases z : b ≤ t ∧ t < b + k
    · rw [if_pos z, if_pos (by omega), show t % 64 - b % 64 = t - b by omega]
    · rw [if_neg z, if_neg (by omega)]
  · rw [if_neg q, if_neg (by omega)]
theorem own_put2 (ws : Nat → Int64) (b k : Nat) (v : Int64) (hk : k ≤ 62) (hv : ∀ j, k ≤ j → v.toBitVec.getLsbD j = false) (h : 64 < b % 64 + k) : own_wr ws (own_upw (own_upw ws (b / 64) (own_p1 (ws (b / 64)) v (b % 64) k)) (b / 64 + 1) (own_p2 ((own_upw ws (b / 64) (own_p1 (ws (b / 64)) v (b % 64) k)) (b / 64 + 1)) v (b % 64) k)) b k v := by
  have e1 : (own_upw ws (b / 64) (own_p1 (ws (b / 64)) v (b % 64) k)) (b / 64 + 1) = ws (b / 64 + 1) := by unfold own_upw; exact if_neg (by omega)
  rw [e1]
  intro t
  unfold own_b
  rw [own_upw]
  by_cases q : t / 64 = b / 64 + 1
  · rw [if_pos q, own_p2_get _ _ _ _ (by omega) (by omega) hk hv _ (by omega), q]
    by_cases z : b ≤ t ∧ t < b + k
    · rw [if_pos z, if_pos (by omega), show t % 64 + 64 - b % 64 = t - b by omega]
    · rw [if_neg z, if_neg (by omega)]
  · rw [if_neg q, own_upw]
    by_cases q2 : t / 64 = b / 64
    · rw [if_pos q2, own_p1_get _ _ _ _ (by omega) hk hv _ (by omega), q2]
      by_cases z : b ≤ t ∧ t < b + k
      · rw [if_pos z, if_pos (by omega), show t % 64 - b % 64 = t - b by omega]
      · rw [if_neg z, if_neg (by omega)]
    · rw [if_neg q2, if_neg (by omega)]
def own_rd (ws : Nat → Int64) (b k : Nat) (r : Int64) : Prop := ∀ j, j < 64 → r.toBitVec.getLsbD j = (decide (j < k) && own_b ws (b + j))
theorem own_f1 (ws : Nat → Int64) (b k : Nat) (hk : k ≤ 62) (h : b % 64 + k ≤ 64) : own_rd ws b k ((XT.ushrL (ws (b / 64)) (Int32.ofNat (b % 64))) &&& own_mk k) := by
  intro j hj
  rw [Int64.toBitVec_and, own_shr _ _ (by omega), BitVec.getLsbD_and, BitVec.getLsbD_ushiftRight, own_mk_get k hk]
  unfold own_b
  by_cases q : j < k
  · rw [decide_eq_true q, Bool.and_true, Bool.true_and, show (b + j) / 64 = b / 64 by omega, show (b + j) % 64 = b % 64 + j by omega]
  · rw [decide_eq_false q, Bool.and_false, Bool.false_and]
theorem own_f2 (ws : Nat → Int64) (b k : Nat) (hk : k ≤ 62) (h : 64 < b % 64 + k) : own_rd ws b k (((XT.ushrL (ws (b / 64)) (Int32.ofNat (b % 64))) ||| (ws (b / 64 + 1) <<< ((Int32.ofNat (64 - b % 64)).toInt64 &&& 63))) &&& own_mk k) := by
  intro j hj
  rw [Int64.toBitVec_and, Int64.toBitVec_or, own_shr _ _ (by omega), own_shl _ _ (by omega), BitVec.getLsbD_and, BitVec.getLsbD_or, BitVec.getLsbD_ushiftRight, BitVec.getLsbD_shiftLeft, own_mk_get k hk]
  unfold own_b
  by_cases q : j < k
  · rw [decide_eq_true q, Bool.and_true, Bool.true_and]
    by_cases q2 : b % 64 + j < 64
    · rw [decide_eq_true (show j < 64 - b % 64 by omega), show (b + j) / 64 = b / 64 by omega, show (b + j) % 64 = b % 64 + j by omega]; simp
    · rw [BitVec.getLsbD_of_ge _ (b % 64 + j) (by omega), decide_eq_true hj, decide_eq_false (show ¬ j < 64 - b % 64 by omega), show (b + j) / 64 = b / 64 + 1 by omega, show (b + j) % 64 = j - (64 - b % 64) by omega]; simp
  · rw [decide_eq_false q, Bool.and_false, Bool.false_and]
/-- the field holds v -/
def own_is (ws : Nat → Int64) (b k : Nat) (v : Int64) : Prop := ∀ j, j < k → own_b ws (b + j) = v.toBitVec.getLsbD j
theorem own_is_rd {ws : Nat → Int64} {b k : Nat} {r v : Int64} (hv : ∀ j, k ≤ j → v.toBitVec.getLsbD j = false) (h1 : own_rd ws b k r) (h2 : own_is ws b k v) : r = v := by
  apply Int64.toBitVec_inj.mp
  apply BitVec.eq_of_getLsbD_eq
  intro j hj
  rw [h1 j hj]
  by_cases q : j < k
  · rw [decide_eq_true q, Bool.true_and, h2 j q]
  · rw [decide_eq_false q, Bool.false_and, hv j (by omega)]
theorem own_is_wr {ws ws' : Nat → Int64} {b k : Nat} {v : Int64} (h : own_wr ws ws' b k v) : own_is ws' b k v := by
  intro j hj
  rw [h (b + j), if_pos (by omega), Nat.add_sub_cancel_left]
theorem own_is_keep {ws ws' : Nat → Int64} {b b' k : Nat} {v v' : Int64} (h : own_wr ws ws' b k v) (h2 : own_is ws b' k v') (hd : b' + k ≤ b ∨ b + k ≤ b') : own_is ws' b' k v' := by
  intro j hj
  rw [h (b' + j), if_neg (by omega)]
  exact h2 j hj
/-- ranks -/
def own_ch (c : Int64) : Int64 := c * (c - (1 : Int64)) * (c - (2 : Int64)) * (c - (3 : Int64)) / (24 : Int64)
def own_xx (K k x : Int32) : Int32 := if x < K then x else XT.ushr x k
def own_nn (K d x n : Int32) : Int32 := if x < K then n else n + d
def own_x1 (x : Int32) : Int32 := own_xx 65536 16 x
def own_x2 (x : Int32) : Int32 := own_xx 256 8 (own_x1 x)
def own_x3 (x : Int32) : Int32 := own_xx 16 4 (own_x2 x)
def own_x4 (x : Int32) : Int32 := own_xx 4 2 (own_x3 x)
def own_n4 (x : Int32) : Int32 := own_nn 4 (-2) (own_x3 x) (own_nn 16 (-4) (own_x2 x) (own_nn 256 (-8) (own_x1 x) (own_nn 65536 (-16) x 31)))
def own_nlzI (x : Int32) : Int32 := if 0 < x then own_n4 x - XT.ushr (own_x4 x) 1 else if x = 0 then 32 else 0
def own_nlzL (q : Int64) : Int32 := if (XT.ushrL q (32 : Int32)).toInt32 = 0 then (32 : Int32) + own_nlzI q.toInt32 else own_nlzI (XT.ushrL q (32 : Int32)).toInt32
def own_rkb (p : Int32) : Int32 := (64 : Int32) - own_nlzL (own_ch (p.toInt64 + (3 : Int64)) * own_ch (p.toInt64 + (3 : Int64)) - (1 : Int64))
theorem own_rank_all : ∀ n : Fin 347, 0 < (own_ch ((Int32.ofNat (128 + n.val)).toInt64 + 3)).toInt ∧ 0 < (own_ch ((Int32.ofNat (128 + n.val)).toInt64 + 3) * own_ch ((Int32.ofNat (128 + n.val)).toInt64 + 3)).toInt ∧ 1 ≤ (own_rkb (Int32.ofNat (128 + n.val))).toInt ∧ (own_rkb (Int32.ofNat (128 + n.val))).toInt ≤ 62 ∧ (own_ch ((Int32.ofNat (128 + n.val)).toInt64 + 3) * own_ch ((Int32.ofNat (128 + n.val)).toInt64 + 3)).toInt ≤ (2 : Int) ^ (own_rkb (Int32.ofNat (128 + n.val))).toInt.toNat := by decide +kernel
theorem own_rank (hn : Nat) (h1 : 128 ≤ hn) (h2 : hn < 475) : ∃ k : Nat, own_rkb (Int32.ofNat hn) = Int32.ofNat k ∧ 1 ≤ k ∧ k ≤ 62 ∧ 0 < (own_ch ((Int32.ofNat hn).toInt64 + 3)).toInt ∧ 0 < (own_ch ((Int32.ofNat hn).toInt64 + 3) * own_ch ((Int32.ofNat hn).toInt64 + 3)).toInt ∧ (own_ch ((Int32.ofNat hn).toInt64 + 3) * own_ch ((Int32.ofNat hn).toInt64 + 3)).toInt ≤ (2 : Int) ^ k := by
  have q := own_rank_all ⟨hn - 128, by omega⟩
  simp only [show 128 + (hn - 128) = hn by omega] at q
  obtain ⟨q1, q2, q3, q4, q5⟩ := q
  exact ⟨(own_rkb (Int32.ofNat hn)).toInt.toNat, own_ofNat _ _ (by omega), by omega, by omega, q1, q2, q5⟩
theorem own_two (k : Nat) (hk : k ≤ 62) : (2 : Int) ^ k ≤ 4611686018427387904 := by
  have h : (2 : Nat) ^ k ≤ 2 ^ 62 := Nat.pow_le_pow_right (by decide) hk
  have h2 : ((2 ^ k : Nat) : Int) ≤ ((2 ^ 62 : Nat) : Int) := Int.ofNat_le.mpr h
  rw [Int.natCast_pow] at h2
  exact h2
theorem own_rem (x : Int32) (d : Int32) (D : Nat) (hd : d.toInt = (D : Int)) (h0 : 0 < D) : ∃ k : Nat, (x &&& (2147483647 : Int32)) % d = Int32.ofNat k ∧ k < D := by
  have h1 := c_mask x 2147483647 31 (by decide) (by decide)
  have h2 := (c_irem (x &&& 2147483647) d D hd).1 (by omega)
  have h3 := Int.emod_lt_of_pos (x &&& (2147483647 : Int32)).toInt (show (0 : Int) < D by omega)
  have h4 := Int.emod_nonneg (x &&& (2147483647 : Int32)).toInt (show (D : Int) ≠ 0 by omega)
  exact ⟨((x &&& (2147483647 : Int32)) % d).toInt.toNat, own_ofNat _ _ (by omega), by omega⟩
theorem own_addI (a b : Nat) (h : a + b < 2147483648) : Int32.ofNat a + Int32.ofNat b = Int32.ofNat (a + b) := by
  apply own_ofNat
  have h1 := c_iadd (Int32.ofNat a) (Int32.ofNat b); have h2 := rng32 (Int32.ofNat a + Int32.ofNat b); have h3 := own_ofi a (by omega); have h4 := own_ofi b (by omega)
  omega
theorem own_subI (a b : Nat) (h : a < 2147483648) (h2 : b ≤ a) : Int32.ofNat a - Int32.ofNat b = Int32.ofNat (a - b) := by
  apply own_ofNat
  have h1 := c_isub (Int32.ofNat a) (Int32.ofNat b); have h2 := rng32 (Int32.ofNat a - Int32.ofNat b); have h3 := own_ofi a (by omega); have h4 := own_ofi b (by omega)
  omega
theorem own_pb (k ln : Nat) (hk : k ≤ 62) (hl : ln < 55) : Int32.ofNat k + (8 : Int32) * Int32.ofNat ln = Int32.ofNat (k + 8 * ln) := by
  apply own_ofNat
  have h0 := c_imul 8 (Int32.ofNat ln); have h9 := rng32 ((8 : Int32) * Int32.ofNat ln)
  have h1 := c_iadd (Int32.ofNat k) ((8 : Int32) * Int32.ofNat ln); have h2 := rng32 (Int32.ofNat k + (8 : Int32) * Int32.ofNat ln); have h3 := own_ofi k (by omega); have h4 := own_ofi ln (by omega)
  have h5 : (8 : Int32).toInt = 8 := rfl
  rw [h5, h4] at h0
  omega
theorem own_mulL (a : Nat) (q : Int64) (hq : q.toInt = (a : Int)) (n : Nat) (h : a * n < 9223372036854775808) (hn : n < 2147483648) : q * Int64.ofNat n = Int64.ofNat (a * n) := by
  apply own_ofNatL
  have h1 := c_lmul q (Int64.ofNat n)
  have h2 := rng64 (q * Int64.ofNat n)
  rw [hq, own_ofl n (by omega)] at h1
  have h3 : ((a * n : Nat) : Int) = (a : Int) * (n : Int) := Int.natCast_mul a n
  rw [← h3] at h1
  omega
theorem own_wix (b : Nat) (h : b < 100000) : (XT.ushrL (Int64.ofNat b) (6 : Int32)).toInt32 = Int32.ofNat (b / 64) := by
  apply own_l2i _ (by omega)
  have h1 : (XT.ushrL (Int64.ofNat b) (6 : Int32)).toInt = ((Int64.ofNat b).toInt % 18446744073709551616) / (2 ^ 6 : Nat) := c_lushr _ 6 6 (by decide) (by decide)
  rw [h1, own_ofl b (by omega)]; omega
theorem own_six (b : Nat) (h : b < 100000) : (Int64.ofNat b &&& (63 : Int64)).toInt32 = Int32.ofNat (b % 64) := by
  apply own_l2i _ (by omega)
  have h1 := c_maskL (Int64.ofNat b) 63 6 (by decide) (by decide)
  rw [h1, own_ofl b (by omega)]; omega
theorem own_div (b : Nat) (h : b < 100000) : (Int64.ofNat b / (64 : Int64)).toInt32 = Int32.ofNat (b / 64) := by
  apply own_l2i _ (by omega)
  have h1 := (c_ldiv (Int64.ofNat b) 64 64 rfl (by decide)).1 (by rw [own_ofl b (by omega)]; omega)
  rw [h1, own_ofl b (by omega)]; omega
theorem own_mod (b : Nat) (h : b < 100000) : (Int64.ofNat b % (64 : Int64)).toInt32 = Int32.ofNat (b % 64) := by
  apply own_l2i _ (by omega)
  have h1 : (Int64.ofNat b % (64 : Int64)).toInt = (Int64.ofNat b).toInt % 64 := by
    rw [Int64.toInt_mod]; exact (tr _ _).1 (by rw [own_ofl b (by omega)]; omega)
  rw [h1, own_ofl b (by omega)]; omega
theorem own_remL (x y : Int64) (hx : 0 ≤ x.toInt) (hy : 0 < y.toInt) : 0 ≤ (x % y).toInt ∧ (x % y).toInt < y.toInt := by
  have h1 : (x % y).toInt = x.toInt % y.toInt := by
    rw [Int64.toInt_mod]; exact (tr _ _).1 hx
  rw [h1]
  exact ⟨Int.emod_nonneg _ (by omega), Int.emod_lt_of_pos _ hy⟩
theorem own_half (n : Nat) (h : n < 1000) : Int64.ofNat (2 * n) / (2 : Int64) = Int64.ofNat n := by
  apply own_ofNatL
  have h1 := (c_ldiv (Int64.ofNat (2 * n)) 2 2 rfl (by decide)).1 (by rw [own_ofl _ (by omega)]; omega)
  rw [h1, own_ofl _ (by omega)]; omega
theorem own_q2 (x : Int64) : 0 ≤ (XT.ushrL x (2 : Int32)).toInt := by
  have h1 : (XT.ushrL x (2 : Int32)).toInt = (x.toInt % 18446744073709551616) / (2 ^ 2 : Nat) := c_lushr _ 2 2 (by decide) (by decide)
  rw [h1]; omega

def own_res (pn : Nat) (mm v0 v1 v2 : Int64) : Int64 := if v0 < mm then (if 1 < pn then (if v1 < mm then (if 2 < pn then (if v2 < mm then -1 else 2) else -1) else 1) else -1) else 0

theorem d2_0 : decode prog_2_method_34_code 0 = .ok (.lload_n 0, 1) := by decide +kernel
theorem d2_1 : decode prog_2_method_34_code 1 = .ok (.lload_n 0, 1) := by decide +kernel
theorem d2_2 : decode prog_2_method_34_code 2 = .ok (.lconst 1, 1) := by decide +kernel
theorem d2_3 : decode prog_2_method_34_code 3 = .ok (.lsub, 1) := by decide +kernel
theorem d2_4 : decode prog_2_method_34_code 4 = .ok (.lmul, 1) := by decide +kernel
theorem d2_5 : decode prog_2_method_34_code 5 = .ok (.lload_n 0, 1) := by decide +kernel
theorem d2_6 : decode prog_2_method_34_code 6 = .ok (.ldc2_w 76, 3) := by decide +kernel
theorem d2_9 : decode prog_2_method_34_code 9 = .ok (.lsub, 1) := by decide +kernel
theorem d2_10 : decode prog_2_method_34_code 10 = .ok (.lmul, 1) := by decide +kernel
theorem d2_11 : decode prog_2_method_34_code 11 = .ok (.lload_n 0, 1) := by decide +kernel
theorem d2_12 : decode prog_2_method_34_code 12 = .ok (.ldc2_w 31, 3) := by decide +kernel
theorem d2_15 : decode prog_2_method_34_code 15 = .ok (.lsub, 1) := by decide +kernel
theorem d2_16 : decode prog_2_method_34_code 16 = .ok (.lmul, 1) := by decide +kernel
theorem d2_17 : decode prog_2_method_34_code 17 = .ok (.ldc2_w 168, 3) := by decide +kernel
theorem d2_20 : decode prog_2_method_34_code 20 = .ok (.ldiv, 1) := by decide +kernel
theorem d2_21 : decode prog_2_method_34_code 21 = .ok (.lreturn, 1) := by decide +kernel
theorem pf_0 : plainFor (⟨"com/example/maybe_set/maybeset/BucketTable", "choose4", "(J)J"⟩ : MethodName) = true := by first | exact plainFor_of_name (by first | (simp [plainName, overriddenIn]; done) | decide +kernel) | decide +kernel
theorem ef_2_rmC4 (m : MethodId) (q : Int64)  : entryFrame m #[(.long q)] 2 = mkF m 0 #[.val (.long q), .second] [] := by first | (simp [entryFrame, mkF, argsToLocals, Value.category, maxLocals]; done) | rfl
def Q_rmC4 (Z : State) (q : Int64) (h0 : Heap) (n0 : Nat) (v : Option Value) (h : Heap) (L : List Loc) : Prop := v = some (.long (own_ch q)) ∧ Fr n0 L ∧ h = h0
set_option maxRecDepth 65536 in
set_option maxHeartbeats 40000000 in
theorem rmC4 (l : Launch) (Z : State) (a0 : Array Value) (hw : ∀ d ∈ tables_1, d.before a0 Z = true) (ws : List Jvm.Cond) (q : Int64) (h0 : Heap) (n0 : Nat) (Z0 : n0 ≤ h0.size)  :
    OwnMet l Z (⟨"com/example/maybe_set/maybeset/BucketTable", "choose4", "(J)J"⟩ : MethodName) prog_2_method_34_code 2 (some .long) ws ({ frames := 0, cells := 0, slots := 0, locals := 0 } : Room) #[(.long q)] h0 (Q_rmC4 Z q h0 n0) := by
  refine own_body pf_0 ?_
  intro p e s m below meth c s₁ hx hby hml hown hnm hret hlk hZ X0 e0
  have N0 := Fr.nil n0
  refine own_cast (ef_2_rmC4 m q ) ?_
  refine g_lload_n X0 hx 1 rfl (hb hby d2_0) rfl ?_
  refine g_lload_n X0 hx 2 rfl (hb hby d2_1) rfl ?_
  refine g_lconst X0 hx 3 rfl (1 : Int64) rfl (hb hby d2_2) ?_
  refine g_lsub X0 hx 4 rfl (hb hby d2_3) ?_
  refine g_lmul X0 hx 5 rfl (hb hby d2_4) ?_
  refine g_lload_n X0 hx 6 rfl (hb hby d2_5) rfl ?_
  refine g_ldcJ X0 hx 9 rfl hown hZ (hw _ (List.mem_of_getElem? (i := 12) rfl)) (hb hby d2_6) ?_
  refine g_lsub X0 hx 10 rfl (hb hby d2_9) ?_
  refine g_lmul X0 hx 11 rfl (hb hby d2_10) ?_
  refine g_lload_n X0 hx 12 rfl (hb hby d2_11) rfl ?_
  refine g_ldcJ X0 hx 15 rfl hown hZ (hw _ (List.mem_of_getElem? (i := 8) rfl)) (hb hby d2_12) ?_
  refine g_lsub X0 hx 16 rfl (hb hby d2_15) ?_
  refine g_lmul X0 hx 17 rfl (hb hby d2_16) ?_
  refine g_ldcJ X0 hx 20 rfl hown hZ (hw _ (List.mem_of_getElem? (i := 13) rfl)) (hb hby d2_17) ?_
  refine g_ldiv X0 hx 21 rfl (hb hby d2_20) (by decide) ?_
  exact g_retJ X0 hx hret hlk (hb hby d2_21) ⟨rfl, N0, e0⟩ (by decide) (by decide)
theorem d4_0 : decode jdk_33_method_47_code 0 = .ok (.iload_n 0, 1) := by decide +kernel
theorem d4_1 : decode jdk_33_method_47_code 1 = .ok (.ifCond .gt 14, 3) := by decide +kernel
theorem d4_4 : decode jdk_33_method_47_code 4 = .ok (.iload_n 0, 1) := by decide +kernel
theorem d4_5 : decode jdk_33_method_47_code 5 = .ok (.ifCond .ne 8, 3) := by decide +kernel
theorem d4_8 : decode jdk_33_method_47_code 8 = .ok (.bipush 32, 2) := by decide +kernel
theorem d4_10 : decode jdk_33_method_47_code 10 = .ok (.goto 4, 3) := by decide +kernel
theorem d4_13 : decode jdk_33_method_47_code 13 = .ok (.iconst 0, 1) := by decide +kernel
theorem d4_14 : decode jdk_33_method_47_code 14 = .ok (.ireturn, 1) := by decide +kernel
theorem d4_15 : decode jdk_33_method_47_code 15 = .ok (.bipush 31, 2) := by decide +kernel
theorem d4_17 : decode jdk_33_method_47_code 17 = .ok (.istore_n 1, 1) := by decide +kernel
theorem d4_18 : decode jdk_33_method_47_code 18 = .ok (.iload_n 0, 1) := by decide +kernel
theorem d4_19 : decode jdk_33_method_47_code 19 = .ok (.ldc_w 264, 3) := by decide +kernel
theorem d4_22 : decode jdk_33_method_47_code 22 = .ok (.if_icmp .lt 11, 3) := by decide +kernel
theorem d4_25 : decode jdk_33_method_47_code 25 = .ok (.iinc 1 (-16), 3) := by decide +kernel
theorem d4_28 : decode jdk_33_method_47_code 28 = .ok (.iload_n 0, 1) := by decide +kernel
theorem d4_29 : decode jdk_33_method_47_code 29 = .ok (.bipush 16, 2) := by decide +kernel
theorem d4_31 : decode jdk_33_method_47_code 31 = .ok (.iushr, 1) := by decide +kernel
theorem d4_32 : decode jdk_33_method_47_code 32 = .ok (.istore_n 0, 1) := by decide +kernel
theorem d4_33 : decode jdk_33_method_47_code 33 = .ok (.iload_n 0, 1) := by decide +kernel
theorem d4_34 : decode jdk_33_method_47_code 34 = .ok (.sipush 256, 3) := by decide +kernel
theorem d4_37 : decode jdk_33_method_47_code 37 = .ok (.if_icmp .lt 11, 3) := by decide +kernel
theorem d4_40 : decode jdk_33_method_47_code 40 = .ok (.iinc 1 (-8), 3) := by decide +kernel
theorem d4_43 : decode jdk_33_method_47_code 43 = .ok (.iload_n 0, 1) := by decide +kernel
theorem d4_44 : decode jdk_33_method_47_code 44 = .ok (.bipush 8, 2) := by decide +kernel
theorem d4_46 : decode jdk_33_method_47_code 46 = .ok (.iushr, 1) := by decide +kernel
theorem d4_47 : decode jdk_33_method_47_code 47 = .ok (.istore_n 0, 1) := by decide +kernel
theorem d4_48 : decode jdk_33_method_47_code 48 = .ok (.iload_n 0, 1) := by decide +kernel
theorem d4_49 : decode jdk_33_method_47_code 49 = .ok (.bipush 16, 2) := by decide +kernel
theorem d4_51 : decode jdk_33_method_47_code 51 = .ok (.if_icmp .lt 10, 3) := by decide +kernel
theorem d4_54 : decode jdk_33_method_47_code 54 = .ok (.iinc 1 (-4), 3) := by decide +kernel
theorem d4_57 : decode jdk_33_method_47_code 57 = .ok (.iload_n 0, 1) := by decide +kernel
theorem d4_58 : decode jdk_33_method_47_code 58 = .ok (.iconst 4, 1) := by decide +kernel
theorem d4_59 : decode jdk_33_method_47_code 59 = .ok (.iushr, 1) := by decide +kernel
theorem d4_60 : decode jdk_33_method_47_code 60 = .ok (.istore_n 0, 1) := by decide +kernel
theorem d4_61 : decode jdk_33_method_47_code 61 = .ok (.iload_n 0, 1) := by decide +kernel
theorem d4_62 : decode jdk_33_method_47_code 62 = .ok (.iconst 4, 1) := by decide +kernel
theorem d4_63 : decode jdk_33_method_47_code 63 = .ok (.if_icmp .lt 10, 3) := by decide +kernel
theorem d4_66 : decode jdk_33_method_47_code 66 = .ok (.iinc 1 (-2), 3) := by decide +kernel
theorem d4_69 : decode jdk_33_method_47_code 69 = .ok (.iload_n 0, 1) := by decide +kernel
theorem d4_70 : decode jdk_33_method_47_code 70 = .ok (.iconst 2, 1) := by decide +kernel
theorem d4_71 : decode jdk_33_method_47_code 71 = .ok (.iushr, 1) := by decide +kernel
theorem d4_72 : decode jdk_33_method_47_code 72 = .ok (.istore_n 0, 1) := by decide +kernel
theorem d4_73 : decode jdk_33_method_47_code 73 = .ok (.iload_n 1, 1) := by decide +kernel
theorem d4_74 : decode jdk_33_method_47_code 74 = .ok (.iload_n 0, 1) := by decide +kernel
theorem d4_75 : decode jdk_33_method_47_code 75 = .ok (.iconst 1, 1) := by decide +kernel
theorem d4_76 : decode jdk_33_method_47_code 76 = .ok (.iushr, 1) := by decide +kernel
theorem d4_77 : decode jdk_33_method_47_code 77 = .ok (.isub, 1) := by decide +kernel
theorem d4_78 : decode jdk_33_method_47_code 78 = .ok (.ireturn, 1) := by decide +kernel
theorem pf_1 : plainFor (⟨"java/lang/Integer", "numberOfLeadingZeros", "(I)I"⟩ : MethodName) = true := by first | exact plainFor_of_name (by first | (simp [plainName, overriddenIn]; done) | decide +kernel) | decide +kernel
theorem ef_4_rmNI (m : MethodId) (x : Int32)  : entryFrame m #[(.int x)] 2 = mkF m 0 #[.val (.int x), .unset] [] := by first | (simp [entryFrame, mkF, argsToLocals, Value.category, maxLocals]; done) | rfl
def Q_rmNI (Z : State) (x : Int32) (h0 : Heap) (n0 : Nat) (v : Option Value) (h : Heap) (L : List Loc) : Prop := v = some (.int (own_nlzI x)) ∧ Fr n0 L ∧ h = h0
set_option maxRecDepth 65536 in
set_option maxHeartbeats 40000000 in
theorem rmNI (l : Launch) (Z : State) (a0 : Array Value) (hw : ∀ d ∈ tables_1, d.before a0 Z = true) (ws : List Jvm.Cond) (x : Int32) (h0 : Heap) (n0 : Nat) (Z0 : n0 ≤ h0.size)  :
    OwnMet l Z (⟨"java/lang/Integer", "numberOfLeadingZeros", "(I)I"⟩ : MethodName) jdk_33_method_47_code 2 (some .int) ws ({ frames := 0, cells := 0, slots := 0, locals := 0 } : Room) #[(.int x)] h0 (Q_rmNI Z x h0 n0) := by
  refine own_body pf_1 ?_
  intro p e s m below meth c s₁ hx hby hml hown hnm hret hlk hZ X0 e0
  have N0 := Fr.nil n0
  refine own_cast (ef_4_rmNI m x ) ?_
  have seg0 : ∀ (P : State → Outcome → Prop) (y : Int32) (r : Int32), Goes p e below (s₁.setTop (mkF m 33 #[.val (.int (own_xx (65536 : Int32) (16 : Int32) y)), .val (.int (own_nn (65536 : Int32) (-16 : Int32) y r))] [])) P → Goes p e below (s₁.setTop (mkF m 18 #[.val (.int y), .val (.int r)] [])) P := by
    intro P y r  K
    unfold own_xx own_nn at K
    refine g_iload_n X0 hx 19 rfl (hb hby d4_18) rfl ?_
    refine g_ldcWI X0 hx 22 rfl hown hZ (hw _ (List.mem_of_getElem? (i := 22) rfl)) (hb hby d4_19) ?_
    by_cases c : y < (65536 : Int32)
    · refine g_icmpY X0 hx 33 (hb hby d4_22) (XT.ii_lt_t c) (by decide) (by decide) ?_
      rw [if_pos c, if_pos c] at K
      exact K
    · refine g_icmpN X0 hx 25 rfl (hb hby d4_22) (XT.ii_lt_f c) ?_
      rw [if_neg c, if_neg c] at K
      refine g_iinc X0 hx 28 rfl (hb hby d4_25) (r + (-16 : Int32)) rfl rfl #[.val (.int y), .val (.int (r + (-16 : Int32)))] rfl ?_
      refine g_iload_n X0 hx 29 rfl (hb hby d4_28) rfl ?_
      refine g_bipush X0 hx 31 rfl (16 : Int32) rfl (hb hby d4_29) ?_
      refine g_iushr X0 hx 32 rfl (hb hby d4_31) ?_
      refine g_istore_n X0 hx 33 rfl (hb hby d4_32) #[.val (.int (XT.ushr y (16 : Int32))), .val (.int (r + (-16 : Int32)))] rfl ?_
      exact K
  have seg1 : ∀ (P : State → Outcome → Prop) (y : Int32) (r : Int32), Goes p e below (s₁.setTop (mkF m 48 #[.val (.int (own_xx (256 : Int32) (8 : Int32) y)), .val (.int (own_nn (256 : Int32) (-8 : Int32) y r))] [])) P → Goes p e below (s₁.setTop (mkF m 33 #[.val (.int y), .val (.int r)] [])) P := by
    intro P y r  K
    unfold own_xx own_nn at K
    refine g_iload_n X0 hx 34 rfl (hb hby d4_33) rfl ?_
    refine g_sipush X0 hx 37 rfl (256 : Int32) rfl (hb hby d4_34) ?_
    by_cases c : y < (256 : Int32)
    · refine g_icmpY X0 hx 48 (hb hby d4_37) (XT.ii_lt_t c) (by decide) (by decide) ?_
      rw [if_pos c, if_pos c] at K
      exact K
    · refine g_icmpN X0 hx 40 rfl (hb hby d4_37) (XT.ii_lt_f c) ?_
      rw [if_neg c, if_neg c] at K
      refine g_iinc X0 hx 43 rfl (hb hby d4_40) (r + (-8 : Int32)) rfl rfl #[.val (.int y), .val (.int (r + (-8 : Int32)))] rfl ?_
      refine g_iload_n X0 hx 44 rfl (hb hby d4_43) rfl ?_
      refine g_bipush X0 hx 46 rfl (8 : Int32) rfl (hb hby d4_44) ?_
      refine g_iushr X0 hx 47 rfl (hb hby d4_46) ?_
      refine g_istore_n X0 hx 48 rfl (hb hby d4_47) #[.val (.int (XT.ushr y (8 : Int32))), .val (.int (r + (-8 : Int32)))] rfl ?_
      exact K
  have seg2 : ∀ (P : State → Outcome → Prop) (y : Int32) (r : Int32), Goes p e below (s₁.setTop (mkF m 61 #[.val (.int (own_xx (16 : Int32) (4 : Int32) y)), .val (.int (own_nn (16 : Int32) (-4 : Int32) y r))] [])) P → Goes p e below (s₁.setTop (mkF m 48 #[.val (.int y), .val (.int r)] [])) P := by
    intro P y r  K
    unfold own_xx own_nn at K
    refine g_iload_n X0 hx 49 rfl (hb hby d4_48) rfl ?_
    refine g_bipush X0 hx 51 rfl (16 : Int32) rfl (hb hby d4_49) ?_
    by_cases c : y < (16 : Int32)
    · refine g_icmpY X0 hx 61 (hb hby d4_51) (XT.ii_lt_t c) (by decide) (by decide) ?_
      rw [if_pos c, if_pos c] at K
      exact K
    · refine g_icmpN X0 hx 54 rfl (hb hby d4_51) (XT.ii_lt_f c) ?_
      rw [if_neg c, if_neg c] at K
      refine g_iinc X0 hx 57 rfl (hb hby d4_54) (r + (-4 : Int32)) rfl rfl #[.val (.int y), .val (.int (r + (-4 : Int32)))] rfl ?_
      refine g_iload_n X0 hx 58 rfl (hb hby d4_57) rfl ?_
      refine g_iconst X0 hx 59 rfl (4 : Int32) rfl (hb hby d4_58) ?_
      refine g_iushr X0 hx 60 rfl (hb hby d4_59) ?_
      refine g_istore_n X0 hx 61 rfl (hb hby d4_60) #[.val (.int (XT.ushr y (4 : Int32))), .val (.int (r + (-4 : Int32)))] rfl ?_
      exact K
  have seg3 : ∀ (P : State → Outcome → Prop) (y : Int32) (r : Int32), Goes p e below (s₁.setTop (mkF m 73 #[.val (.int (own_xx (4 : Int32) (2 : Int32) y)), .val (.int (own_nn (4 : Int32) (-2 : Int32) y r))] [])) P → Goes p e below (s₁.setTop (mkF m 61 #[.val (.int y), .val (.int r)] [])) P := by
    intro P y r  K
    unfold own_xx own_nn at K
    refine g_iload_n X0 hx 62 rfl (hb hby d4_61) rfl ?_
    refine g_iconst X0 hx 63 rfl (4 : Int32) rfl (hb hby d4_62) ?_
    by_cases c : y < (4 : Int32)
    · refine g_icmpY X0 hx 73 (hb hby d4_63) (XT.ii_lt_t c) (by decide) (by decide) ?_
      rw [if_pos c, if_pos c] at K
      exact K
    · refine g_icmpN X0 hx 66 rfl (hb hby d4_63) (XT.ii_lt_f c) ?_
      rw [if_neg c, if_neg c] at K
      refine g_iinc X0 hx 69 rfl (hb hby d4_66) (r + (-2 : Int32)) rfl rfl #[.val (.int y), .val (.int (r + (-2 : Int32)))] rfl ?_
      refine g_iload_n X0 hx 70 rfl (hb hby d4_69) rfl ?_
      refine g_iconst X0 hx 71 rfl (2 : Int32) rfl (hb hby d4_70) ?_
      refine g_iushr X0 hx 72 rfl (hb hby d4_71) ?_
      refine g_istore_n X0 hx 73 rfl (hb hby d4_72) #[.val (.int (XT.ushr y (2 : Int32))), .val (.int (r + (-2 : Int32)))] rfl ?_
      exact K
  refine g_iload_n X0 hx 1 rfl (hb hby d4_0) rfl ?_
  by_cases c1 : 0 < x
  · refine g_ifY X0 hx 15 (hb hby d4_1) (XT.i0_gt_t c1) (by decide) (by decide) ?_
    refine g_bipush X0 hx 17 rfl (31 : Int32) rfl (hb hby d4_15) ?_
    refine g_istore_n X0 hx 18 rfl (hb hby d4_17) #[.val (.int x), .val (.int (31 : Int32))] rfl ?_
    refine seg0 _ x (31 : Int32) ?_
    refine seg1 _ (own_xx (65536 : Int32) (16 : Int32) x) (own_nn (65536 : Int32) (-16 : Int32) x (31 : Int32)) ?_
    refine seg2 _ (own_xx (256 : Int32) (8 : Int32) (own_xx (65536 : Int32) (16 : Int32) x)) (own_nn (256 : Int32) (-8 : Int32) (own_xx (65536 : Int32) (16 : Int32) x) (own_nn (65536 : Int32) (-16 : Int32) x (31 : Int32))) ?_
    refine seg3 _ (own_xx (16 : Int32) (4 : Int32) (own_xx (256 : Int32) (8 : Int32) (own_xx (65536 : Int32) (16 : Int32) x))) (own_nn (16 : Int32) (-4 : Int32) (own_xx (256 : Int32) (8 : Int32) (own_xx (65536 : Int32) (16 : Int32) x)) (own_nn (256 : Int32) (-8 : Int32) (own_xx (65536 : Int32) (16 : Int32) x) (own_nn (65536 : Int32) (-16 : Int32) x (31 : Int32)))) ?_
    refine g_iload_n X0 hx 74 rfl (hb hby d4_73) rfl ?_
    refine g_iload_n X0 hx 75 rfl (hb hby d4_74) rfl ?_
    refine g_iconst X0 hx 76 rfl (1 : Int32) rfl (hb hby d4_75) ?_
    refine g_iushr X0 hx 77 rfl (hb hby d4_76) ?_
    refine g_isub X0 hx 78 rfl (hb hby d4_77) ?_
    exact g_retI X0 hx hret hlk (hb hby d4_78) ⟨by unfold own_nlzI; rw [if_pos c1]; rfl, N0, e0⟩ (by decide) (by decide)
  · refine g_ifN X0 hx 4 rfl (hb hby d4_1) (XT.i0_gt_f c1) ?_
    refine g_iload_n X0 hx 5 rfl (hb hby d4_4) rfl ?_
    by_cases c5 : x = 0
    · refine g_ifN X0 hx 8 rfl (hb hby d4_5) (XT.i0_ne_f c5) ?_
      refine g_bipush X0 hx 10 rfl (32 : Int32) rfl (hb hby d4_8) ?_
      refine g_goto X0 hx 14 (hb hby d4_10) (by decide) (by decide) ?_
      exact g_retI X0 hx hret hlk (hb hby d4_14) ⟨by unfold own_nlzI; rw [if_neg c1, if_pos c5], N0, e0⟩ (by decide) (by decide)
    · refine g_ifY X0 hx 13 (hb hby d4_5) (XT.i0_ne_t c5) (by decide) (by decide) ?_
      refine g_iconst X0 hx 14 rfl (0 : Int32) rfl (hb hby d4_13) ?_
      exact g_retI X0 hx hret hlk (hb hby d4_14) ⟨by unfold own_nlzI; rw [if_neg c1, if_neg c5], N0, e0⟩ (by decide) (by decide)
theorem d3_0 : decode jdk_35_method_48_code 0 = .ok (.lload_n 0, 1) := by decide +kernel
theorem d3_1 : decode jdk_35_method_48_code 1 = .ok (.bipush 32, 2) := by decide +kernel
theorem d3_3 : decode jdk_35_method_48_code 3 = .ok (.lushr, 1) := by decide +kernel
theorem d3_4 : decode jdk_35_method_48_code 4 = .ok (.l2i, 1) := by decide +kernel
theorem d3_5 : decode jdk_35_method_48_code 5 = .ok (.istore_n 2, 1) := by decide +kernel
theorem d3_6 : decode jdk_35_method_48_code 6 = .ok (.iload_n 2, 1) := by decide +kernel
theorem d3_7 : decode jdk_35_method_48_code 7 = .ok (.ifCond .ne 14, 3) := by decide +kernel
theorem d3_10 : decode jdk_35_method_48_code 10 = .ok (.bipush 32, 2) := by decide +kernel
theorem d3_12 : decode jdk_35_method_48_code 12 = .ok (.lload_n 0, 1) := by decide +kernel
theorem d3_13 : decode jdk_35_method_48_code 13 = .ok (.l2i, 1) := by decide +kernel
theorem d3_14 : decode jdk_35_method_48_code 14 = .ok (.invokestatic 308, 3) := by decide +kernel
theorem d3_17 : decode jdk_35_method_48_code 17 = .ok (.iadd, 1) := by decide +kernel
theorem d3_18 : decode jdk_35_method_48_code 18 = .ok (.goto 7, 3) := by decide +kernel
theorem d3_21 : decode jdk_35_method_48_code 21 = .ok (.iload_n 2, 1) := by decide +kernel
theorem d3_22 : decode jdk_35_method_48_code 22 = .ok (.invokestatic 308, 3) := by decide +kernel
theorem d3_25 : decode jdk_35_method_48_code 25 = .ok (.ireturn, 1) := by decide +kernel
theorem pf_2 : plainFor (⟨"java/lang/Long", "numberOfLeadingZeros", "(J)I"⟩ : MethodName) = true := by first | exact plainFor_of_name (by first | (simp [plainName, overriddenIn]; done) | decide +kernel) | decide +kernel
theorem pd_0 : parseMethodDescriptor "(I)I" = some ⟨[.int], some .int⟩ := by decide +kernel
theorem ef_3_rmNL (m : MethodId) (q : Int64)  : entryFrame m #[(.long q)] 3 = mkF m 0 #[.val (.long q), .second, .unset] [] := by first | (simp [entryFrame, mkF, argsToLocals, Value.category, maxLocals]; done) | rfl
def Q_rmNL (Z : State) (q : Int64) (h0 : Heap) (n0 : Nat) (v : Option Value) (h : Heap) (L : List Loc) : Prop := v = some (.int (own_nlzL q)) ∧ Fr n0 L ∧ h = h0
set_option maxRecDepth 65536 in
set_option maxHeartbeats 40000000 in
theorem rmNL (l : Launch) (Z : State) (a0 : Array Value) (hw : ∀ d ∈ tables_1, d.before a0 Z = true) (ws : List Jvm.Cond) (q : Int64) (h0 : Heap) (n0 : Nat) (Z0 : n0 ≤ h0.size)  :
    OwnMet l Z (⟨"java/lang/Long", "numberOfLeadingZeros", "(J)I"⟩ : MethodName) jdk_35_method_48_code 3 (some .int) ws ({ frames := 1, cells := 0, slots := 0, locals := 14 } : Room) #[(.long q)] h0 (Q_rmNL Z q h0 n0) := by
  refine own_body pf_2 ?_
  intro p e s m below meth c s₁ hx hby hml hown hnm hret hlk hZ X0 e0
  have N0 := Fr.nil n0
  refine own_cast (ef_3_rmNL m q ) ?_
  refine g_lload_n X0 hx 1 rfl (hb hby d3_0) rfl ?_
  refine g_bipush X0 hx 3 rfl (32 : Int32) rfl (hb hby d3_1) ?_
  refine g_lushr X0 hx 4 rfl (hb hby d3_3) ?_
  refine g_l2i X0 hx 5 rfl (hb hby d3_4) ?_
  refine g_istore_n X0 hx 6 rfl (hb hby d3_5) #[.val (.long q), .second, .val (.int ((XT.ushrL q (32 : Int32)).toInt32))] rfl ?_
  refine g_iload_n X0 hx 7 rfl (hb hby d3_6) rfl ?_
  by_cases c7 : ((XT.ushrL q (32 : Int32)).toInt32) = 0
  · refine g_ifN X0 hx 10 rfl (hb hby d3_7) (XT.i0_ne_f c7) ?_
    refine g_bipush X0 hx 12 rfl (32 : Int32) rfl (hb hby d3_10) ?_
    refine g_lload_n X0 hx 13 rfl (hb hby d3_12) rfl ?_
    refine g_l2i X0 hx 14 rfl (hb hby d3_13) ?_
    refine g_callS X0 hx hZ 17 rfl (y := (⟨"java/lang/Integer", "numberOfLeadingZeros", "(I)I"⟩ : MethodName)) hown (hw _ (List.mem_of_getElem? (i := 18) rfl)) (hw _ (List.mem_of_getElem? (i := 19) rfl)) (hw _ (List.mem_of_getElem? (i := 20) rfl)) (hw _ (List.mem_of_getElem? (i := 21) rfl)) (by decide) [.int q.toInt32] [.int (32 : Int32)] (rmNI l Z a0 hw [] q.toInt32 h0 n0 Z0 ) e0 (lenOf pd_0 rfl) rfl (by rw [hml]; rfl) (hb hby d3_14) (by decide) 1 (Nat.le_of_eq rfl) (by decide) (by decide) (by decide) ?_
    rintro _ T1 L1 X1 ⟨rfl, N1q, e1⟩
    have N1 := Fr.app N0 N1q
    show Goes p e below (T1.setTop (mkF m 17 #[.val (.long q), .second, .val (.int ((XT.ushrL q (32 : Int32)).toInt32))] [.int (own_nlzI q.toInt32), .int (32 : Int32)])) _
    refine g_iadd X1 hx 18 rfl (hb hby d3_17) ?_
    refine g_goto X1 hx 25 (hb hby d3_18) (by decide) (by decide) ?_
    exact g_retI X1 hx hret hlk (hb hby d3_25) ⟨by unfold own_nlzL; rw [if_pos c7], N1, e1⟩ (by decide) (by decide)
  · refine g_ifY X0 hx 21 (hb hby d3_7) (XT.i0_ne_t c7) (by decide) (by decide) ?_
    refine g_iload_n X0 hx 22 rfl (hb hby d3_21) rfl ?_
    refine g_callS X0 hx hZ 25 rfl (y := (⟨"java/lang/Integer", "numberOfLeadingZeros", "(I)I"⟩ : MethodName)) hown (hw _ (List.mem_of_getElem? (i := 18) rfl)) (hw _ (List.mem_of_getElem? (i := 19) rfl)) (hw _ (List.mem_of_getElem? (i := 20) rfl)) (hw _ (List.mem_of_getElem? (i := 21) rfl)) (by decide) [.int ((XT.ushrL q (32 : Int32)).toInt32)] [] (rmNI l Z a0 hw [] ((XT.ushrL q (32 : Int32)).toInt32) h0 n0 Z0 ) e0 (lenOf pd_0 rfl) rfl (by rw [hml]; rfl) (hb hby d3_22) (by decide) 0 (Nat.le_of_eq rfl) (by decide) (by decide) (by decide) ?_
    rintro _ T2 L2 X2 ⟨rfl, N2q, e2⟩
    have N2 := Fr.app N0 N2q
    show Goes p e below (T2.setTop (mkF m 25 #[.val (.long q), .second, .val (.int ((XT.ushrL q (32 : Int32)).toInt32))] [.int (own_nlzI ((XT.ushrL q (32 : Int32)).toInt32))])) _
    exact g_retI X2 hx hret hlk (hb hby d3_25) ⟨by unfold own_nlzL; rw [if_neg c7], N2, e2⟩ (by decide) (by decide)
theorem d1_0 : decode prog_2_method_3_code 0 = .ok (.iload_n 0, 1) := by decide +kernel
theorem d1_1 : decode prog_2_method_3_code 1 = .ok (.i2l, 1) := by decide +kernel
theorem d1_2 : decode prog_2_method_3_code 2 = .ok (.ldc2_w 31, 3) := by decide +kernel
theorem d1_5 : decode prog_2_method_3_code 5 = .ok (.ladd, 1) := by decide +kernel
theorem d1_6 : decode prog_2_method_3_code 6 = .ok (.invokestatic 33, 3) := by decide +kernel
theorem d1_9 : decode prog_2_method_3_code 9 = .ok (.lstore_n 1, 1) := by decide +kernel
theorem d1_10 : decode prog_2_method_3_code 10 = .ok (.bipush 64, 2) := by decide +kernel
theorem d1_12 : decode prog_2_method_3_code 12 = .ok (.lload_n 1, 1) := by decide +kernel
theorem d1_13 : decode prog_2_method_3_code 13 = .ok (.lload_n 1, 1) := by decide +kernel
theorem d1_14 : decode prog_2_method_3_code 14 = .ok (.lmul, 1) := by decide +kernel
theorem d1_15 : decode prog_2_method_3_code 15 = .ok (.lconst 1, 1) := by decide +kernel
theorem d1_16 : decode prog_2_method_3_code 16 = .ok (.lsub, 1) := by decide +kernel
theorem d1_17 : decode prog_2_method_3_code 17 = .ok (.invokestatic 65, 3) := by decide +kernel
theorem d1_20 : decode prog_2_method_3_code 20 = .ok (.isub, 1) := by decide +kernel
theorem d1_21 : decode prog_2_method_3_code 21 = .ok (.ireturn, 1) := by decide +kernel
theorem pf_3 : plainFor (⟨"com/example/maybe_set/maybeset/BucketTable", "rankBits", "(I)I"⟩ : MethodName) = true := by first | exact plainFor_of_name (by first | (simp [plainName, overriddenIn]; done) | decide +kernel) | decide +kernel
theorem pd_1 : parseMethodDescriptor "(J)J" = some ⟨[.long], some .long⟩ := by decide +kernel
theorem pd_2 : parseMethodDescriptor "(J)I" = some ⟨[.long], some .int⟩ := by decide +kernel
theorem ef_1_rmRB (m : MethodId) (x : Int32)  : entryFrame m #[(.int x)] 3 = mkF m 0 #[.val (.int x), .unset, .unset] [] := by first | (simp [entryFrame, mkF, argsToLocals, Value.category, maxLocals]; done) | rfl
def Q_rmRB (Z : State) (x : Int32) (h0 : Heap) (n0 : Nat) (v : Option Value) (h : Heap) (L : List Loc) : Prop := v = some (.int (own_rkb x)) ∧ Fr n0 L ∧ h = h0
set_option maxRecDepth 65536 in
set_option maxHeartbeats 40000000 in
theorem rmRB (l : Launch) (Z : State) (a0 : Array Value) (hw : ∀ d ∈ tables_1, d.before a0 Z = true) (ws : List Jvm.Cond) (x : Int32) (h0 : Heap) (n0 : Nat) (Z0 : n0 ≤ h0.size)  :
    OwnMet l Z (⟨"com/example/maybe_set/maybeset/BucketTable", "rankBits", "(I)I"⟩ : MethodName) prog_2_method_3_code 3 (some .int) ws ({ frames := 2, cells := 0, slots := 0, locals := 29 } : Room) #[(.int x)] h0 (Q_rmRB Z x h0 n0) := by
  refine own_body pf_3 ?_
  intro p e s m below meth c s₁ hx hby hml hown hnm hret hlk hZ X0 e0
  have N0 := Fr.nil n0
  refine own_cast (ef_1_rmRB m x ) ?_
  refine g_iload_n X0 hx 1 rfl (hb hby d1_0) rfl ?_
  refine g_i2l X0 hx 2 rfl (hb hby d1_1) ?_
  refine g_ldcJ X0 hx 5 rfl hown hZ (hw _ (List.mem_of_getElem? (i := 8) rfl)) (hb hby d1_2) ?_
  refine g_ladd X0 hx 6 rfl (hb hby d1_5) ?_
  refine g_callS X0 hx hZ 9 rfl (y := (⟨"com/example/maybe_set/maybeset/BucketTable", "choose4", "(J)J"⟩ : MethodName)) hown (hw _ (List.mem_of_getElem? (i := 9) rfl)) (hw _ (List.mem_of_getElem? (i := 10) rfl)) (hw _ (List.mem_of_getElem? (i := 6) rfl)) (hw _ (List.mem_of_getElem? (i := 11) rfl)) (by decide) [.long (x.toInt64 + (3 : Int64))] [] (rmC4 l Z a0 hw [] (x.toInt64 + (3 : Int64)) h0 n0 Z0 ) e0 (lenOf pd_1 rfl) rfl (by rw [hml]; rfl) (hb hby d1_6) (by decide) 0 (Nat.le_of_eq rfl) (by decide) (by decide) (by decide) ?_
  rintro _ T1 L1 X1 ⟨rfl, N1q, e1⟩
  have N1 := Fr.app N0 N1q
  show Goes p e below (T1.setTop (mkF m 9 #[.val (.int x), .unset, .unset] [.long (own_ch (x.toInt64 + (3 : Int64)))])) _
  refine g_lstore_n X1 hx 10 rfl (hb hby d1_9) #[.val (.int x), .val (.long (own_ch (x.toInt64 + (3 : Int64)))), .second] rfl ?_
  refine g_bipush X1 hx 12 rfl (64 : Int32) rfl (hb hby d1_10) ?_
  refine g_lload_n X1 hx 13 rfl (hb hby d1_12) rfl ?_
  refine g_lload_n X1 hx 14 rfl (hb hby d1_13) rfl ?_
  refine g_lmul X1 hx 15 rfl (hb hby d1_14) ?_
  refine g_lconst X1 hx 16 rfl (1 : Int64) rfl (hb hby d1_15) ?_
  refine g_lsub X1 hx 17 rfl (hb hby d1_16) ?_
  refine g_callS X1 hx hZ 20 rfl (y := (⟨"java/lang/Long", "numberOfLeadingZeros", "(J)I"⟩ : MethodName)) hown (hw _ (List.mem_of_getElem? (i := 14) rfl)) (hw _ (List.mem_of_getElem? (i := 15) rfl)) (hw _ (List.mem_of_getElem? (i := 16) rfl)) (hw _ (List.mem_of_getElem? (i := 17) rfl)) (by decide) [.long (((own_ch (x.toInt64 + (3 : Int64))) * (own_ch (x.toInt64 + (3 : Int64)))) - (1 : Int64))] [.int (64 : Int32)] (rmNL l Z a0 hw [] (((own_ch (x.toInt64 + (3 : Int64))) * (own_ch (x.toInt64 + (3 : Int64)))) - (1 : Int64)) h0 n0 Z0 ) e1 (lenOf pd_2 rfl) rfl (by rw [hml]; rfl) (hb hby d1_17) (by decide) 1 (Nat.le_of_eq rfl) (by decide) (by decide) (by decide) ?_
  rintro _ T2 L2 X2 ⟨rfl, N2q, e2⟩
  have N2 := Fr.app N1 N2q
  show Goes p e below (T2.setTop (mkF m 20 #[.val (.int x), .val (.long (own_ch (x.toInt64 + (3 : Int64)))), .second] [.int (own_nlzL (((own_ch (x.toInt64 + (3 : Int64))) * (own_ch (x.toInt64 + (3 : Int64)))) - (1 : Int64))), .int (64 : Int32)])) _
  refine g_isub X2 hx 21 rfl (hb hby d1_20) ?_
  exact g_retI X2 hx hret hlk (hb hby d1_21) ⟨rfl, N2, e2⟩ (by decide) (by decide)
theorem d5_0 : decode prog_2_method_6_code 0 = .ok (.iload_n 0, 1) := by decide +kernel
theorem d5_1 : decode prog_2_method_6_code 1 = .ok (.invokestatic 49, 3) := by decide +kernel
theorem d5_4 : decode prog_2_method_6_code 4 = .ok (.bipush 8, 2) := by decide +kernel
theorem d5_6 : decode prog_2_method_6_code 6 = .ok (.iload_n 1, 1) := by decide +kernel
theorem d5_7 : decode prog_2_method_6_code 7 = .ok (.imul, 1) := by decide +kernel
theorem d5_8 : decode prog_2_method_6_code 8 = .ok (.iadd, 1) := by decide +kernel
theorem d5_9 : decode prog_2_method_6_code 9 = .ok (.ireturn, 1) := by decide +kernel
theorem pf_4 : plainFor (⟨"com/example/maybe_set/maybeset/BucketTable", "pairBits", "(II)I"⟩ : MethodName) = true := by first | exact plainFor_of_name (by first | (simp [plainName, overriddenIn]; done) | decide +kernel) | decide +kernel
theorem ef_5_rmPB (m : MethodId) (x : Int32) (y : Int32)  : entryFrame m #[(.int x), (.int y)] 2 = mkF m 0 #[.val (.int x), .val (.int y)] [] := by first | (simp [entryFrame, mkF, argsToLocals, Value.category, maxLocals]; done) | rfl
def Q_rmPB (Z : State) (x : Int32) (y : Int32) (h0 : Heap) (n0 : Nat) (v : Option Value) (h : Heap) (L : List Loc) : Prop := v = some (.int (own_rkb x + (8 : Int32) * y)) ∧ Fr n0 L ∧ h = h0
set_option maxRecDepth 65536 in
set_option maxHeartbeats 40000000 in
theorem rmPB (l : Launch) (Z : State) (a0 : Array Value) (hw : ∀ d ∈ tables_1, d.before a0 Z = true) (ws : List Jvm.Cond) (x : Int32) (y : Int32) (h0 : Heap) (n0 : Nat) (Z0 : n0 ≤ h0.size)  :
    OwnMet l Z (⟨"com/example/maybe_set/maybeset/BucketTable", "pairBits", "(II)I"⟩ : MethodName) prog_2_method_6_code 2 (some .int) ws ({ frames := 3, cells := 0, slots := 0, locals := 43 } : Room) #[(.int x), (.int y)] h0 (Q_rmPB Z x y h0 n0) := by
  refine own_body pf_4 ?_
  intro p e s m below meth c s₁ hx hby hml hown hnm hret hlk hZ X0 e0
  have N0 := Fr.nil n0
  refine own_cast (ef_5_rmPB m x y ) ?_
  refine g_iload_n X0 hx 1 rfl (hb hby d5_0) rfl ?_
  refine g_callS X0 hx hZ 4 rfl (y := (⟨"com/example/maybe_set/maybeset/BucketTable", "rankBits", "(I)I"⟩ : MethodName)) hown (hw _ (List.mem_of_getElem? (i := 26) rfl)) (hw _ (List.mem_of_getElem? (i := 5) rfl)) (hw _ (List.mem_of_getElem? (i := 6) rfl)) (hw _ (List.mem_of_getElem? (i := 7) rfl)) (by decide) [.int x] [] (rmRB l Z a0 hw [] x h0 n0 Z0 ) e0 (lenOf pd_0 rfl) rfl (by rw [hml]; rfl) (hb hby d5_1) (by decide) 0 (Nat.le_of_eq rfl) (by decide) (by decide) (by decide) ?_
  rintro _ T1 L1 X1 ⟨rfl, N1q, e1⟩
  have N1 := Fr.app N0 N1q
  show Goes p e below (T1.setTop (mkF m 4 #[.val (.int x), .val (.int y)] [.int (own_rkb x)])) _
  refine g_bipush X1 hx 6 rfl (8 : Int32) rfl (hb hby d5_4) ?_
  refine g_iload_n X1 hx 7 rfl (hb hby d5_6) rfl ?_
  refine g_imul X1 hx 8 rfl (hb hby d5_7) ?_
  refine g_iadd X1 hx 9 rfl (hb hby d5_8) ?_
  exact g_retI X1 hx hret hlk (hb hby d5_9) ⟨rfl, N1, e1⟩ (by decide) (by decide)
theorem d6_0 : decode method_3_code 0 = .ok (.lload_n 0, 1) := by decide +kernel
theorem d6_1 : decode method_3_code 1 = .ok (.ldc2_w 11, 3) := by decide +kernel
theorem d6_4 : decode method_3_code 4 = .ok (.land, 1) := by decide +kernel
theorem d6_5 : decode method_3_code 5 = .ok (.l2i, 1) := by decide +kernel
theorem d6_6 : decode method_3_code 6 = .ok (.istore 6, 2) := by decide +kernel
theorem d6_8 : decode method_3_code 8 = .ok (.lload_n 0, 1) := by decide +kernel
theorem d6_9 : decode method_3_code 9 = .ok (.iconst 2, 1) := by decide +kernel
theorem d6_10 : decode method_3_code 10 = .ok (.lushr, 1) := by decide +kernel
theorem d6_11 : decode method_3_code 11 = .ok (.lstore 7, 2) := by decide +kernel
theorem d6_13 : decode method_3_code 13 = .ok (.lload 4, 2) := by decide +kernel
theorem d6_15 : decode method_3_code 15 = .ok (.lload_n 2, 1) := by decide +kernel
theorem d6_16 : decode method_3_code 16 = .ok (.lsub, 1) := by decide +kernel
theorem d6_17 : decode method_3_code 17 = .ok (.lconst 1, 1) := by decide +kernel
theorem d6_18 : decode method_3_code 18 = .ok (.ladd, 1) := by decide +kernel
theorem d6_19 : decode method_3_code 19 = .ok (.lstore 9, 2) := by decide +kernel
theorem d6_21 : decode method_3_code 21 = .ok (.lload 9, 2) := by decide +kernel
theorem d6_23 : decode method_3_code 23 = .ok (.lconst 0, 1) := by decide +kernel
theorem d6_24 : decode method_3_code 24 = .ok (.lcmp, 1) := by decide +kernel
theorem d6_25 : decode method_3_code 25 = .ok (.ifCond .gt 9, 3) := by decide +kernel
theorem d6_28 : decode method_3_code 28 = .ok (.iload 6, 2) := by decide +kernel
theorem d6_30 : decode method_3_code 30 = .ok (.iconst 1, 1) := by decide +kernel
theorem d6_31 : decode method_3_code 31 = .ok (.iand, 1) := by decide +kernel
theorem d6_32 : decode method_3_code 32 = .ok (.istore 6, 2) := by decide +kernel
theorem d6_34 : decode method_3_code 34 = .ok (.iload 6, 2) := by decide +kernel
theorem d6_36 : decode method_3_code 36 = .ok (.ifCond .ne 8, 3) := by decide +kernel
theorem d6_39 : decode method_3_code 39 = .ok (.lload 7, 2) := by decide +kernel
theorem d6_41 : decode method_3_code 41 = .ok (.lload_n 2, 1) := by decide +kernel
theorem d6_42 : decode method_3_code 42 = .ok (.lrem, 1) := by decide +kernel
theorem d6_43 : decode method_3_code 43 = .ok (.lreturn, 1) := by decide +kernel
theorem d6_44 : decode method_3_code 44 = .ok (.iload 6, 2) := by decide +kernel
theorem d6_46 : decode method_3_code 46 = .ok (.iconst 1, 1) := by decide +kernel
theorem d6_47 : decode method_3_code 47 = .ok (.if_icmp .ne 7, 3) := by decide +kernel
theorem d6_50 : decode method_3_code 50 = .ok (.lload_n 2, 1) := by decide +kernel
theorem d6_51 : decode method_3_code 51 = .ok (.lconst 1, 1) := by decide +kernel
theorem d6_52 : decode method_3_code 52 = .ok (.lsub, 1) := by decide +kernel
theorem d6_53 : decode method_3_code 53 = .ok (.lreturn, 1) := by decide +kernel
theorem d6_54 : decode method_3_code 54 = .ok (.iload 6, 2) := by decide +kernel
theorem d6_56 : decode method_3_code 56 = .ok (.iconst 2, 1) := by decide +kernel
theorem d6_57 : decode method_3_code 57 = .ok (.if_icmp .ne 5, 3) := by decide +kernel
theorem d6_60 : decode method_3_code 60 = .ok (.lload_n 2, 1) := by decide +kernel
theorem d6_61 : decode method_3_code 61 = .ok (.lreturn, 1) := by decide +kernel
theorem d6_62 : decode method_3_code 62 = .ok (.lload_n 2, 1) := by decide +kernel
theorem d6_63 : decode method_3_code 63 = .ok (.lload 7, 2) := by decide +kernel
theorem d6_65 : decode method_3_code 65 = .ok (.lload 9, 2) := by decide +kernel
theorem d6_67 : decode method_3_code 67 = .ok (.lrem, 1) := by decide +kernel
theorem d6_68 : decode method_3_code 68 = .ok (.ladd, 1) := by decide +kernel
theorem d6_69 : decode method_3_code 69 = .ok (.lreturn, 1) := by decide +kernel
theorem pf_5 : plainFor (⟨"com/example/maybe_set/maybeset/BucketTableFirstInvalidPairPinLaw", "value", "(JJJ)J"⟩ : MethodName) = true := by first | exact plainFor_of_name (by first | (simp [plainName, overriddenIn]; done) | decide +kernel) | decide +kernel
theorem ef_6_rmV (m : MethodId) (q : Int64) (mm : Int64) (tp : Int64) (P0 : Int)  : entryFrame m #[(.long q), (.long mm), (.long tp)] 11 = mkF m 0 #[.val (.long q), .second, .val (.long mm), .second, .val (.long tp), .second, .unset, .unset, .unset, .unset, .unset] [] := by first | (simp [entryFrame, mkF, argsToLocals, Value.category, maxLocals]; done) | rfl
def Q_rmV (Z : State) (q : Int64) (mm : Int64) (tp : Int64) (P0 : Int) (h0 : Heap) (n0 : Nat) (v : Option Value) (h : Heap) (L : List Loc) : Prop := ∃ r : Int64, v = some (.long r) ∧ Fr n0 L ∧ h = h0 ∧ 0 ≤ r.toInt ∧ r.toInt < P0
set_option maxRecDepth 65536 in
set_option maxHeartbeats 40000000 in
theorem rmV (l : Launch) (Z : State) (a0 : Array Value) (hw : ∀ d ∈ tables_1, d.before a0 Z = true) (ws : List Jvm.Cond) (q : Int64) (mm : Int64) (tp : Int64) (P0 : Int) (h0 : Heap) (n0 : Nat) (Z0 : n0 ≤ h0.size) (h1 : 0 < mm.toInt) (h2 : mm.toInt ≤ P0) (h3 : P0 ≤ 4611686018427387904) (h4 : tp.toInt = P0 - 1) :
    OwnMet l Z (⟨"com/example/maybe_set/maybeset/BucketTableFirstInvalidPairPinLaw", "value", "(JJJ)J"⟩ : MethodName) method_3_code 11 (some .long) ws ({ frames := 0, cells := 0, slots := 0, locals := 0 } : Room) #[(.long q), (.long mm), (.long tp)] h0 (Q_rmV Z q mm tp P0 h0 n0) := by
  refine own_body pf_5 ?_
  intro p e s m below meth c s₁ hx hby hml hown hnm hret hlk hZ X0 e0
  have N0 := Fr.nil n0
  refine own_cast (ef_6_rmV m q mm tp P0 ) ?_
  refine g_lload_n X0 hx 1 rfl (hb hby d6_0) rfl ?_
  refine g_ldcJ X0 hx 4 rfl hown hZ (hw _ (List.mem_of_getElem? (i := 1) rfl)) (hb hby d6_1) ?_
  refine g_land X0 hx 5 rfl (hb hby d6_4) ?_
  refine g_l2i X0 hx 6 rfl (hb hby d6_5) ?_
  refine g_istore X0 hx 8 rfl (hb hby d6_6) #[.val (.long q), .second, .val (.long mm), .second, .val (.long tp), .second, .val (.int ((q &&& (3 : Int64)).toInt32)), .unset, .unset, .unset, .unset] rfl ?_
  refine g_lload_n X0 hx 9 rfl (hb hby d6_8) rfl ?_
  refine g_iconst X0 hx 10 rfl (2 : Int32) rfl (hb hby d6_9) ?_
  refine g_lushr X0 hx 11 rfl (hb hby d6_10) ?_
  refine g_lstore X0 hx 13 rfl (hb hby d6_11) #[.val (.long q), .second, .val (.long mm), .second, .val (.long tp), .second, .val (.int ((q &&& (3 : Int64)).toInt32)), .val (.long (XT.ushrL q (2 : Int32))), .second, .unset, .unset] rfl ?_
  refine g_lload X0 hx 15 rfl (hb hby d6_13) rfl ?_
  refine g_lload_n X0 hx 16 rfl (hb hby d6_15) rfl ?_
  refine g_lsub X0 hx 17 rfl (hb hby d6_16) ?_
  refine g_lconst X0 hx 18 rfl (1 : Int64) rfl (hb hby d6_17) ?_
  refine g_ladd X0 hx 19 rfl (hb hby d6_18) ?_
  have hsp : ((tp - mm) + (1 : Int64)).toInt = P0 - mm.toInt := by
    have q1 := c_lsub tp mm; have q2 := rng64 (tp - mm); have q3 := c_ladd (tp - mm) 1; have q4 := rng64 (tp - mm + 1); have q5 : (1 : Int64).toInt = 1 := rfl
    omega
  generalize hspn : (tp - mm) + (1 : Int64) = span at hsp ⊢
  have hq := own_q2 q
  have z0 : (0 : Int64).toInt = 0 := rfl
  have hmz : mm ≠ 0 := fun z => by rw [z] at h1; rw [z0] at h1; omega
  refine g_lstore X0 hx 21 rfl (hb hby d6_19) #[.val (.long q), .second, .val (.long mm), .second, .val (.long tp), .second, .val (.int ((q &&& (3 : Int64)).toInt32)), .val (.long (XT.ushrL q (2 : Int32))), .second, .val (.long span), .second] rfl ?_
  refine g_lload X0 hx 23 rfl (hb hby d6_21) rfl ?_
  refine g_lconst X0 hx 24 rfl (0 : Int64) rfl (hb hby d6_23) ?_
  refine g_lcmp X0 hx 25 rfl (hb hby d6_24) ?_
  by_cases c25 : (0 : Int64) < span
  · refine g_ifY X0 hx 34 (hb hby d6_25) (XT.ll_gt_t c25) (by decide) (by decide) ?_
    have hs : 0 < span.toInt := by have q1 := Int64.lt_iff_toInt_lt.mp c25; rw [z0] at q1; exact q1
    have hsz : span ≠ 0 := fun z => by rw [z, z0] at hs; omega
    refine g_iload X0 hx 36 rfl (hb hby d6_34) rfl ?_
    by_cases k36 : ((q &&& (3 : Int64)).toInt32) = 0
    · refine g_ifN X0 hx 39 rfl (hb hby d6_36) (XT.i0_ne_f k36) ?_
      refine g_lload X0 hx 41 rfl (hb hby d6_39) rfl ?_
      refine g_lload_n X0 hx 42 rfl (hb hby d6_41) rfl ?_
      refine g_lrem X0 hx 43 rfl (hb hby d6_42) hmz ?_
      have hr := own_remL (XT.ushrL q (2 : Int32)) mm hq h1
      exact g_retJ X0 hx hret hlk (hb hby d6_43) ⟨_, rfl, N0, e0, hr.1, by omega⟩ (by decide) (by decide)
    · refine g_ifY X0 hx 44 (hb hby d6_36) (XT.i0_ne_t k36) (by decide) (by decide) ?_
      refine g_iload X0 hx 46 rfl (hb hby d6_44) rfl ?_
      refine g_iconst X0 hx 47 rfl (1 : Int32) rfl (hb hby d6_46) ?_
      by_cases k47 : ((q &&& (3 : Int64)).toInt32) = (1 : Int32)
      · refine g_icmpN X0 hx 50 rfl (hb hby d6_47) (XT.ii_ne_f k47) ?_
        refine g_lload_n X0 hx 51 rfl (hb hby d6_50) rfl ?_
        refine g_lconst X0 hx 52 rfl (1 : Int64) rfl (hb hby d6_51) ?_
        refine g_lsub X0 hx 53 rfl (hb hby d6_52) ?_
        have hr : (mm - (1 : Int64)).toInt = mm.toInt - 1 := by have q1 := c_lsub mm 1; have q2 := rng64 (mm - 1); have q3 := rng64 mm; have q5 : (1 : Int64).toInt = 1 := rfl; omega
        exact g_retJ X0 hx hret hlk (hb hby d6_53) ⟨_, rfl, N0, e0, by omega, by omega⟩ (by decide) (by decide)
      · refine g_icmpY X0 hx 54 (hb hby d6_47) (XT.ii_ne_t k47) (by decide) (by decide) ?_
        refine g_iload X0 hx 56 rfl (hb hby d6_54) rfl ?_
        refine g_iconst X0 hx 57 rfl (2 : Int32) rfl (hb hby d6_56) ?_
        by_cases k57 : ((q &&& (3 : Int64)).toInt32) = (2 : Int32)
        · refine g_icmpN X0 hx 60 rfl (hb hby d6_57) (XT.ii_ne_f k57) ?_
          refine g_lload_n X0 hx 61 rfl (hb hby d6_60) rfl ?_
          exact g_retJ X0 hx hret hlk (hb hby d6_61) ⟨_, rfl, N0, e0, by omega, by omega⟩ (by decide) (by decide)
        · refine g_icmpY X0 hx 62 (hb hby d6_57) (XT.ii_ne_t k57) (by decide) (by decide) ?_
          refine g_lload_n X0 hx 63 rfl (hb hby d6_62) rfl ?_
          refine g_lload X0 hx 65 rfl (hb hby d6_63) rfl ?_
          refine g_lload X0 hx 67 rfl (hb hby d6_65) rfl ?_
          refine g_lrem X0 hx 68 rfl (hb hby d6_67) hsz ?_
          refine g_ladd X0 hx 69 rfl (hb hby d6_68) ?_
          have hr := own_remL (XT.ushrL q (2 : Int32)) span hq hs
          have hr2 : (mm + XT.ushrL q (2 : Int32) % span).toInt = mm.toInt + (XT.ushrL q (2 : Int32) % span).toInt := by have q1 := c_ladd mm (XT.ushrL q (2 : Int32) % span); have q2 := rng64 (mm + XT.ushrL q (2 : Int32) % span); omega
          exact g_retJ X0 hx hret hlk (hb hby d6_69) ⟨_, rfl, N0, e0, by omega, by omega⟩ (by decide) (by decide)
  · refine g_ifN X0 hx 28 rfl (hb hby d6_25) (XT.ll_gt_f c25) ?_
    refine g_iload X0 hx 30 rfl (hb hby d6_28) rfl ?_
    refine g_iconst X0 hx 31 rfl (1 : Int32) rfl (hb hby d6_30) ?_
    refine g_iand X0 hx 32 rfl (hb hby d6_31) ?_
    have hb1 : (((q &&& (3 : Int64)).toInt32) &&& (1 : Int32)).toInt = (((q &&& (3 : Int64)).toInt32)).toInt % (2 ^ 1 : Nat) := c_mask _ 1 1 (by decide) (by decide)
    generalize hbn : ((q &&& (3 : Int64)).toInt32) &&& (1 : Int32) = sl at hb1 ⊢
    refine g_istore X0 hx 34 rfl (hb hby d6_32) #[.val (.long q), .second, .val (.long mm), .second, .val (.long tp), .second, .val (.int sl), .val (.long (XT.ushrL q (2 : Int32))), .second, .val (.long span), .second] rfl ?_
    refine g_iload X0 hx 36 rfl (hb hby d6_34) rfl ?_
    by_cases k36 : sl = 0
    · refine g_ifN X0 hx 39 rfl (hb hby d6_36) (XT.i0_ne_f k36) ?_
      refine g_lload X0 hx 41 rfl (hb hby d6_39) rfl ?_
      refine g_lload_n X0 hx 42 rfl (hb hby d6_41) rfl ?_
      refine g_lrem X0 hx 43 rfl (hb hby d6_42) hmz ?_
      have hr := own_remL (XT.ushrL q (2 : Int32)) mm hq h1
      exact g_retJ X0 hx hret hlk (hb hby d6_43) ⟨_, rfl, N0, e0, hr.1, by omega⟩ (by decide) (by decide)
    · refine g_ifY X0 hx 44 (hb hby d6_36) (XT.i0_ne_t k36) (by decide) (by decide) ?_
      refine g_iload X0 hx 46 rfl (hb hby d6_44) rfl ?_
      refine g_iconst X0 hx 47 rfl (1 : Int32) rfl (hb hby d6_46) ?_
      by_cases k47 : sl = (1 : Int32)
      · refine g_icmpN X0 hx 50 rfl (hb hby d6_47) (XT.ii_ne_f k47) ?_
        refine g_lload_n X0 hx 51 rfl (hb hby d6_50) rfl ?_
        refine g_lconst X0 hx 52 rfl (1 : Int64) rfl (hb hby d6_51) ?_
        refine g_lsub X0 hx 53 rfl (hb hby d6_52) ?_
        have hr : (mm - (1 : Int64)).toInt = mm.toInt - 1 := by have q1 := c_lsub mm 1; have q2 := rng64 (mm - 1); have q3 := rng64 mm; have q5 : (1 : Int64).toInt = 1 := rfl; omega
        exact g_retJ X0 hx hret hlk (hb hby d6_53) ⟨_, rfl, N0, e0, by omega, by omega⟩ (by decide) (by decide)
      · refine g_icmpY X0 hx 54 (hb hby d6_47) (XT.ii_ne_t k47) (by decide) (by decide) ?_
        exfalso
        have z2 : (0 : Int32).toInt = 0 := rfl; have z3 : (1 : Int32).toInt = 1 := rfl
        have q1 : sl.toInt ≠ 0 := fun z => k36 (Int32.toInt_inj.mp z)
        have q2 : sl.toInt ≠ 1 := fun z => k47 (Int32.toInt_inj.mp z)
        omega
theorem d7_0 : decode method_2_code 0 = .ok (.lload_n 1, 1) := by decide +kernel
theorem d7_1 : decode method_2_code 1 = .ok (.bipush 6, 2) := by decide +kernel
theorem d7_3 : decode method_2_code 3 = .ok (.lushr, 1) := by decide +kernel
theorem d7_4 : decode method_2_code 4 = .ok (.l2i, 1) := by decide +kernel
theorem d7_5 : decode method_2_code 5 = .ok (.istore 6, 2) := by decide +kernel
theorem d7_7 : decode method_2_code 7 = .ok (.lload_n 1, 1) := by decide +kernel
theorem d7_8 : decode method_2_code 8 = .ok (.ldc2_w 7, 3) := by decide +kernel
theorem d7_11 : decode method_2_code 11 = .ok (.land, 1) := by decide +kernel
theorem d7_12 : decode method_2_code 12 = .ok (.l2i, 1) := by decide +kernel
theorem d7_13 : decode method_2_code 13 = .ok (.istore 7, 2) := by decide +kernel
theorem d7_15 : decode method_2_code 15 = .ok (.lconst 1, 1) := by decide +kernel
theorem d7_16 : decode method_2_code 16 = .ok (.iload_n 3, 1) := by decide +kernel
theorem d7_17 : decode method_2_code 17 = .ok (.lshl, 1) := by decide +kernel
theorem d7_18 : decode method_2_code 18 = .ok (.lconst 1, 1) := by decide +kernel
theorem d7_19 : decode method_2_code 19 = .ok (.lsub, 1) := by decide +kernel
theorem d7_20 : decode method_2_code 20 = .ok (.lstore 8, 2) := by decide +kernel
theorem d7_22 : decode method_2_code 22 = .ok (.aload_n 0, 1) := by decide +kernel
theorem d7_23 : decode method_2_code 23 = .ok (.iload 6, 2) := by decide +kernel
theorem d7_25 : decode method_2_code 25 = .ok (.aload_n 0, 1) := by decide +kernel
theorem d7_26 : decode method_2_code 26 = .ok (.iload 6, 2) := by decide +kernel
theorem d7_28 : decode method_2_code 28 = .ok (.laload, 1) := by decide +kernel
theorem d7_29 : decode method_2_code 29 = .ok (.lload 8, 2) := by decide +kernel
theorem d7_31 : decode method_2_code 31 = .ok (.iload 7, 2) := by decide +kernel
theorem d7_33 : decode method_2_code 33 = .ok (.lshl, 1) := by decide +kernel
theorem d7_34 : decode method_2_code 34 = .ok (.ldc2_w 9, 3) := by decide +kernel
theorem d7_37 : decode method_2_code 37 = .ok (.lxor, 1) := by decide +kernel
theorem d7_38 : decode method_2_code 38 = .ok (.land, 1) := by decide +kernel
theorem d7_39 : decode method_2_code 39 = .ok (.lload 4, 2) := by decide +kernel
theorem d7_41 : decode method_2_code 41 = .ok (.iload 7, 2) := by decide +kernel
theorem d7_43 : decode method_2_code 43 = .ok (.lshl, 1) := by decide +kernel
theorem d7_44 : decode method_2_code 44 = .ok (.lor, 1) := by decide +kernel
theorem d7_45 : decode method_2_code 45 = .ok (.lastore, 1) := by decide +kernel
theorem d7_46 : decode method_2_code 46 = .ok (.iload 7, 2) := by decide +kernel
theorem d7_48 : decode method_2_code 48 = .ok (.iload_n 3, 1) := by decide +kernel
theorem d7_49 : decode method_2_code 49 = .ok (.iadd, 1) := by decide +kernel
theorem d7_50 : decode method_2_code 50 = .ok (.bipush 64, 2) := by decide +kernel
theorem d7_52 : decode method_2_code 52 = .ok (.if_icmp .le 38, 3) := by decide +kernel
theorem d7_55 : decode method_2_code 55 = .ok (.bipush 64, 2) := by decide +kernel
theorem d7_57 : decode method_2_code 57 = .ok (.iload 7, 2) := by decide +kernel
theorem d7_59 : decode method_2_code 59 = .ok (.isub, 1) := by decide +kernel
theorem d7_60 : decode method_2_code 60 = .ok (.istore 10, 2) := by decide +kernel
theorem d7_62 : decode method_2_code 62 = .ok (.aload_n 0, 1) := by decide +kernel
theorem d7_63 : decode method_2_code 63 = .ok (.iload 6, 2) := by decide +kernel
theorem d7_65 : decode method_2_code 65 = .ok (.iconst 1, 1) := by decide +kernel
theorem d7_66 : decode method_2_code 66 = .ok (.iadd, 1) := by decide +kernel
theorem d7_67 : decode method_2_code 67 = .ok (.aload_n 0, 1) := by decide +kernel
theorem d7_68 : decode method_2_code 68 = .ok (.iload 6, 2) := by decide +kernel
theorem d7_70 : decode method_2_code 70 = .ok (.iconst 1, 1) := by decide +kernel
theorem d7_71 : decode method_2_code 71 = .ok (.iadd, 1) := by decide +kernel
theorem d7_72 : decode method_2_code 72 = .ok (.laload, 1) := by decide +kernel
theorem d7_73 : decode method_2_code 73 = .ok (.lload 8, 2) := by decide +kernel
theorem d7_75 : decode method_2_code 75 = .ok (.iload 10, 2) := by decide +kernel
theorem d7_77 : decode method_2_code 77 = .ok (.lushr, 1) := by decide +kernel
theorem d7_78 : decode method_2_code 78 = .ok (.ldc2_w 9, 3) := by decide +kernel
theorem d7_81 : decode method_2_code 81 = .ok (.lxor, 1) := by decide +kernel
theorem d7_82 : decode method_2_code 82 = .ok (.land, 1) := by decide +kernel
theorem d7_83 : decode method_2_code 83 = .ok (.lload 4, 2) := by decide +kernel
theorem d7_85 : decode method_2_code 85 = .ok (.iload 10, 2) := by decide +kernel
theorem d7_87 : decode method_2_code 87 = .ok (.lushr, 1) := by decide +kernel
theorem d7_88 : decode method_2_code 88 = .ok (.lor, 1) := by decide +kernel
theorem d7_89 : decode method_2_code 89 = .ok (.lastore, 1) := by decide +kernel
theorem d7_90 : decode method_2_code 90 = .ok (.return_, 1) := by decide +kernel
theorem pf_6 : plainFor (⟨"com/example/maybe_set/maybeset/BucketTableFirstInvalidPairPinLaw", "put", "([JJIJ)V"⟩ : MethodName) = true := by first | exact plainFor_of_name (by first | (simp [plainName, overriddenIn]; done) | decide +kernel) | decide +kernel
theorem ef_7_rmPut (m : MethodId) (a : Addr) (b : Nat) (k : Nat) (q : Int64) (wf : Nat → Int64)  : entryFrame m #[(.ref a), (.long (Int64.ofNat b)), (.int (Int32.ofNat k)), (.long q)] 11 = mkF m 0 #[.val (.ref a), .val (.long (Int64.ofNat b)), .second, .val (.int (Int32.ofNat k)), .val (.long q), .second, .unset, .unset, .unset, .unset, .unset] [] := by first | (simp [entryFrame, mkF, argsToLocals, Value.category, maxLocals]; done) | rfl
def Q_rmPut (Z : State) (a : Addr) (b : Nat) (k : Nat) (q : Int64) (wf : Nat → Int64) (h0 : Heap) (n0 : Nat) (v : Option Value) (h : Heap) (L : List Loc) : Prop := ∃ wf', v = none ∧ Fr n0 L ∧ Keep h0 h [a] ∧ Al Z h a .long (own_W wf') ∧ own_wr wf wf' b k q
set_option maxRecDepth 65536 in
set_option maxHeartbeats 40000000 in
theorem rmPut (l : Launch) (Z : State) (a0 : Array Value) (hw : ∀ d ∈ tables_1, d.before a0 Z = true) (ws : List Jvm.Cond) (a : Addr) (b : Nat) (k : Nat) (q : Int64) (wf : Nat → Int64) (h0 : Heap) (n0 : Nat) (Z0 : n0 ≤ h0.size) (Aa : Al Z h0 a .long (own_W wf)) (ga : n0 ≤ a) (hb9 : b < 1400) (hk : k ≤ 62) (hv : ∀ j, k ≤ j → q.toBitVec.getLsbD j = false) :
    OwnMet l Z (⟨"com/example/maybe_set/maybeset/BucketTableFirstInvalidPairPinLaw", "put", "([JJIJ)V"⟩ : MethodName) method_2_code 11 none ws ({ frames := 0, cells := 0, slots := 0, locals := 0 } : Room) #[(.ref a), (.long (Int64.ofNat b)), (.int (Int32.ofNat k)), (.long q)] h0 (Q_rmPut Z a b k q wf h0 n0) := by
  refine own_body pf_6 ?_
  intro p e s m below meth c s₁ hx hby hml hown hnm hret hlk hZ X0 e0
  have N0 := Fr.nil n0
  refine own_cast (ef_7_rmPut m a b k q wf ) ?_
  have bi1 := own_ofi (b / 64) (by omega)
  have bi2 := own_ofi (b / 64 + 1) (by omega)
  refine g_lload_n X0 hx 1 rfl (hb hby d7_0) rfl ?_
  refine g_bipush X0 hx 3 rfl (6 : Int32) rfl (hb hby d7_1) ?_
  refine g_lushr X0 hx 4 rfl (hb hby d7_3) ?_
  refine g_l2i X0 hx 5 rfl (hb hby d7_4) ?_
  rw [own_wix b (by omega)]
  refine g_istore X0 hx 7 rfl (hb hby d7_5) #[.val (.ref a), .val (.long (Int64.ofNat b)), .second, .val (.int (Int32.ofNat k)), .val (.long q), .second, .val (.int (Int32.ofNat (b / 64))), .unset, .unset, .unset, .unset] rfl ?_
  refine g_lload_n X0 hx 8 rfl (hb hby d7_7) rfl ?_
  refine g_ldcJ X0 hx 11 rfl hown hZ (hw _ (List.mem_of_getElem? (i := 36) rfl)) (hb hby d7_8) ?_
  refine g_land X0 hx 12 rfl (hb hby d7_11) ?_
  refine g_l2i X0 hx 13 rfl (hb hby d7_12) ?_
  rw [own_six b (by omega)]
  refine g_istore X0 hx 15 rfl (hb hby d7_13) #[.val (.ref a), .val (.long (Int64.ofNat b)), .second, .val (.int (Int32.ofNat k)), .val (.long q), .second, .val (.int (Int32.ofNat (b / 64))), .val (.int (Int32.ofNat (b % 64))), .unset, .unset, .unset] rfl ?_
  refine g_lconst X0 hx 16 rfl (1 : Int64) rfl (hb hby d7_15) ?_
  refine g_iload_n X0 hx 17 rfl (hb hby d7_16) rfl ?_
  refine g_lshl X0 hx 18 rfl (hb hby d7_17) ?_
  refine g_lconst X0 hx 19 rfl (1 : Int64) rfl (hb hby d7_18) ?_
  refine g_lsub X0 hx 20 rfl (hb hby d7_19) ?_
  show Goes p e below (s₁.setTop (mkF m 20 #[.val (.ref a), .val (.long (Int64.ofNat b)), .second, .val (.int (Int32.ofNat k)), .val (.long q), .second, .val (.int (Int32.ofNat (b / 64))), .val (.int (Int32.ofNat (b % 64))), .unset, .unset, .unset] [.long (own_mk k)])) _
  refine g_lstore X0 hx 22 rfl (hb hby d7_20) #[.val (.ref a), .val (.long (Int64.ofNat b)), .second, .val (.int (Int32.ofNat k)), .val (.long q), .second, .val (.int (Int32.ofNat (b / 64))), .val (.int (Int32.ofNat (b % 64))), .val (.long (own_mk k)), .second, .unset] rfl ?_
  refine g_aload_n X0 hx 23 rfl (hb hby d7_22) rfl rfl ?_
  refine g_iload X0 hx 25 rfl (hb hby d7_23) rfl ?_
  refine g_aload_n X0 hx 26 rfl (hb hby d7_25) rfl rfl ?_
  refine g_iload X0 hx 28 rfl (hb hby d7_26) rfl ?_
  refine g_laload X0 hx hZ 29 rfl (hb hby d7_28) e0 Aa (b / 64) bi1 (.long (wf (b / 64))) (own_W_get _ _ (by omega)) ?_
  refine g_lload X0 hx 31 rfl (hb hby d7_29) rfl ?_
  refine g_iload X0 hx 33 rfl (hb hby d7_31) rfl ?_
  refine g_lshl X0 hx 34 rfl (hb hby d7_33) ?_
  refine g_ldcJ X0 hx 37 rfl hown hZ (hw _ (List.mem_of_getElem? (i := 32) rfl)) (hb hby d7_34) ?_
  refine g_lxor X0 hx 38 rfl (hb hby d7_37) ?_
  refine g_land X0 hx 39 rfl (hb hby d7_38) ?_
  refine g_lload X0 hx 41 rfl (hb hby d7_39) rfl ?_
  refine g_iload X0 hx 43 rfl (hb hby d7_41) rfl ?_
  refine g_lshl X0 hx 44 rfl (hb hby d7_43) ?_
  refine g_lor X0 hx 45 rfl (hb hby d7_44) ?_
  show Goes p e below (s₁.setTop (mkF m 45 #[.val (.ref a), .val (.long (Int64.ofNat b)), .second, .val (.int (Int32.ofNat k)), .val (.long q), .second, .val (.int (Int32.ofNat (b / 64))), .val (.int (Int32.ofNat (b % 64))), .val (.long (own_mk k)), .second, .unset] [.long (own_p1 (wf (b / 64)) q (b % 64) k), .int (Int32.ofNat (b / 64)), .ref a])) _
  refine g_lastore X0 hx hZ 46 rfl (hb hby d7_45) e0 Aa (b / 64) bi1 (by rw [own_W_len]; omega) ?_
  intro T1 h1 X1 e1 W1 B1
  have N1 := Fr.snoc X1 N0 ga
  have A1 : Al Z h1 a .long (own_W (own_upw wf (b / 64) (own_p1 (wf (b / 64)) q (b % 64) k))) := own_W_set wf (b / 64) (by omega) _ ▸ B1
  refine g_iload X1 hx 48 rfl (hb hby d7_46) rfl ?_
  refine g_iload_n X1 hx 49 rfl (hb hby d7_48) rfl ?_
  refine g_iadd X1 hx 50 rfl (hb hby d7_49) ?_
  refine g_bipush X1 hx 52 rfl (64 : Int32) rfl (hb hby d7_50) ?_
  have e64 : (64 : Int32).toInt = 64 := rfl
  have hsum := own_addI (b % 64) k (by omega)
  have hsi := own_ofi (b % 64 + k) (by omega)
  by_cases c52 : (64 : Int32) < ((Int32.ofNat (b % 64)) + (Int32.ofNat k))
  · refine g_icmpN X1 hx 55 rfl (hb hby d7_52) (XT.ii_le_f c52) ?_
    have ho : 64 < b % 64 + k := by rw [hsum, Int32.lt_iff_toInt_lt, hsi, e64] at c52; omega
    have h64 : (64 : Int32) - Int32.ofNat (b % 64) = Int32.ofNat (64 - b % 64) := own_subI 64 (b % 64) (by decide) (by omega)
    have hp1 : Int32.ofNat (b / 64) + (1 : Int32) = Int32.ofNat (b / 64 + 1) := own_addI (b / 64) 1 (by omega)
    refine g_bipush X1 hx 57 rfl (64 : Int32) rfl (hb hby d7_55) ?_
    refine g_iload X1 hx 59 rfl (hb hby d7_57) rfl ?_
    refine g_isub X1 hx 60 rfl (hb hby d7_59) ?_
    rw [h64]
    refine g_istore X1 hx 62 rfl (hb hby d7_60) #[.val (.ref a), .val (.long (Int64.ofNat b)), .second, .val (.int (Int32.ofNat k)), .val (.long q), .second, .val (.int (Int32.ofNat (b / 64))), .val (.int (Int32.ofNat (b % 64))), .val (.long (own_mk k)), .second, .val (.int (Int32.ofNat (64 - b % 64)))] rfl ?_
    refine g_aload_n X1 hx 63 rfl (hb hby d7_62) rfl rfl ?_
    refine g_iload X1 hx 65 rfl (hb hby d7_63) rfl ?_
    refine g_iconst X1 hx 66 rfl (1 : Int32) rfl (hb hby d7_65) ?_
    refine g_iadd X1 hx 67 rfl (hb hby d7_66) ?_
    rw [hp1]
    refine g_aload_n X1 hx 68 rfl (hb hby d7_67) rfl rfl ?_
    refine g_iload X1 hx 70 rfl (hb hby d7_68) rfl ?_
    refine g_iconst X1 hx 71 rfl (1 : Int32) rfl (hb hby d7_70) ?_
    refine g_iadd X1 hx 72 rfl (hb hby d7_71) ?_
    rw [hp1]
    refine g_laload X1 hx hZ 73 rfl (hb hby d7_72) e1 A1 (b / 64 + 1) bi2 (.long ((own_upw wf (b / 64) (own_p1 (wf (b / 64)) q (b % 64) k)) (b / 64 + 1))) (own_W_get _ _ (by omega)) ?_
    refine g_lload X1 hx 75 rfl (hb hby d7_73) rfl ?_
    refine g_iload X1 hx 77 rfl (hb hby d7_75) rfl ?_
    refine g_lushr X1 hx 78 rfl (hb hby d7_77) ?_
    refine g_ldcJ X1 hx 81 rfl hown hZ (hw _ (List.mem_of_getElem? (i := 32) rfl)) (hb hby d7_78) ?_
    refine g_lxor X1 hx 82 rfl (hb hby d7_81) ?_
    refine g_land X1 hx 83 rfl (hb hby d7_82) ?_
    refine g_lload X1 hx 85 rfl (hb hby d7_83) rfl ?_
    refine g_iload X1 hx 87 rfl (hb hby d7_85) rfl ?_
    refine g_lushr X1 hx 88 rfl (hb hby d7_87) ?_
    refine g_lor X1 hx 89 rfl (hb hby d7_88) ?_
    show Goes p e below (T1.setTop (mkF m 89 #[.val (.ref a), .val (.long (Int64.ofNat b)), .second, .val (.int (Int32.ofNat k)), .val (.long q), .second, .val (.int (Int32.ofNat (b / 64))), .val (.int (Int32.ofNat (b % 64))), .val (.long (own_mk k)), .second, .val (.int (Int32.ofNat (64 - b % 64)))] [.long (own_p2 ((own_upw wf (b / 64) (own_p1 (wf (b / 64)) q (b % 64) k)) (b / 64 + 1)) q (b % 64) k), .int (Int32.ofNat (b / 64 + 1)), .ref a])) _
    refine g_lastore X1 hx hZ 90 rfl (hb hby d7_89) e1 A1 (b / 64 + 1) bi2 (by rw [own_W_len]; omega) ?_
    intro T2 h2 X2 e2 W2 B2
    have N2 := Fr.snoc X2 N1 ga
    have A2 : Al Z h2 a .long (own_W (own_upw (own_upw wf (b / 64) (own_p1 (wf (b / 64)) q (b % 64) k)) (b / 64 + 1) (own_p2 ((own_upw wf (b / 64) (own_p1 (wf (b / 64)) q (b % 64) k)) (b / 64 + 1)) q (b % 64) k))) := own_W_set (own_upw wf (b / 64) (own_p1 (wf (b / 64)) q (b % 64) k)) (b / 64 + 1) (by omega) _ ▸ B2
    exact g_ret0 X2 hx hret hlk (hb hby d7_90) (by rw [e2]; exact ⟨_, rfl, N2, (((Keep.refl h0 [a]).wr W1 (Or.inl (List.mem_of_getElem? (i := 0) rfl))).wr W2 (Or.inl (List.mem_of_getElem? (i := 0) rfl))), A2, own_put2 wf b k q hk hv ho⟩) (by decide) (by decide)
  · refine g_icmpY X1 hx 90 (hb hby d7_52) (XT.ii_le_t c52) (by decide) (by decide) ?_
    have ho : b % 64 + k ≤ 64 := by rw [hsum, Int32.lt_iff_toInt_lt, hsi, e64] at c52; omega
    exact g_ret0 X1 hx hret hlk (hb hby d7_90) (by rw [e1]; exact ⟨_, rfl, N1, ((Keep.refl h0 [a]).wr W1 (Or.inl (List.mem_of_getElem? (i := 0) rfl))), A1, own_put1 wf b k q hk hv ho⟩) (by decide) (by decide)
theorem d11_0 : decode jdk_35_method_44_code 0 = .ok (.lload_n 2, 1) := by decide +kernel
theorem d11_1 : decode jdk_35_method_44_code 1 = .ok (.lconst 0, 1) := by decide +kernel
theorem d11_2 : decode jdk_35_method_44_code 2 = .ok (.lcmp, 1) := by decide +kernel
theorem d11_3 : decode jdk_35_method_44_code 3 = .ok (.ifCond .lt 38, 3) := by decide +kernel
theorem d11_6 : decode jdk_35_method_44_code 6 = .ok (.lload_n 0, 1) := by decide +kernel
theorem d11_7 : decode jdk_35_method_44_code 7 = .ok (.iconst 1, 1) := by decide +kernel
theorem d11_8 : decode jdk_35_method_44_code 8 = .ok (.lushr, 1) := by decide +kernel
theorem d11_9 : decode jdk_35_method_44_code 9 = .ok (.lload_n 2, 1) := by decide +kernel
theorem d11_10 : decode jdk_35_method_44_code 10 = .ok (.ldiv, 1) := by decide +kernel
theorem d11_11 : decode jdk_35_method_44_code 11 = .ok (.iconst 1, 1) := by decide +kernel
theorem d11_12 : decode jdk_35_method_44_code 12 = .ok (.lshl, 1) := by decide +kernel
theorem d11_13 : decode jdk_35_method_44_code 13 = .ok (.lstore 4, 2) := by decide +kernel
theorem d11_15 : decode jdk_35_method_44_code 15 = .ok (.lload_n 0, 1) := by decide +kernel
theorem d11_16 : decode jdk_35_method_44_code 16 = .ok (.lload 4, 2) := by decide +kernel
theorem d11_18 : decode jdk_35_method_44_code 18 = .ok (.lload_n 2, 1) := by decide +kernel
theorem d11_19 : decode jdk_35_method_44_code 19 = .ok (.lmul, 1) := by decide +kernel
theorem d11_20 : decode jdk_35_method_44_code 20 = .ok (.lsub, 1) := by decide +kernel
theorem d11_21 : decode jdk_35_method_44_code 21 = .ok (.lstore 6, 2) := by decide +kernel
theorem d11_23 : decode jdk_35_method_44_code 23 = .ok (.lload 4, 2) := by decide +kernel
theorem d11_25 : decode jdk_35_method_44_code 25 = .ok (.lload 6, 2) := by decide +kernel
theorem d11_27 : decode jdk_35_method_44_code 27 = .ok (.lload 6, 2) := by decide +kernel
theorem d11_29 : decode jdk_35_method_44_code 29 = .ok (.lload_n 2, 1) := by decide +kernel
theorem d11_30 : decode jdk_35_method_44_code 30 = .ok (.lsub, 1) := by decide +kernel
theorem d11_31 : decode jdk_35_method_44_code 31 = .ok (.ldc2_w 306, 3) := by decide +kernel
theorem d11_34 : decode jdk_35_method_44_code 34 = .ok (.lxor, 1) := by decide +kernel
theorem d11_35 : decode jdk_35_method_44_code 35 = .ok (.lor, 1) := by decide +kernel
theorem d11_36 : decode jdk_35_method_44_code 36 = .ok (.bipush 63, 2) := by decide +kernel
theorem d11_38 : decode jdk_35_method_44_code 38 = .ok (.lushr, 1) := by decide +kernel
theorem d11_39 : decode jdk_35_method_44_code 39 = .ok (.ladd, 1) := by decide +kernel
theorem d11_40 : decode jdk_35_method_44_code 40 = .ok (.lreturn, 1) := by decide +kernel
theorem d11_41 : decode jdk_35_method_44_code 41 = .ok (.lload_n 0, 1) := by decide +kernel
theorem d11_42 : decode jdk_35_method_44_code 42 = .ok (.lload_n 0, 1) := by decide +kernel
theorem d11_43 : decode jdk_35_method_44_code 43 = .ok (.lload_n 2, 1) := by decide +kernel
theorem d11_44 : decode jdk_35_method_44_code 44 = .ok (.lsub, 1) := by decide +kernel
theorem d11_45 : decode jdk_35_method_44_code 45 = .ok (.ldc2_w 306, 3) := by decide +kernel
theorem d11_48 : decode jdk_35_method_44_code 48 = .ok (.lxor, 1) := by decide +kernel
theorem d11_49 : decode jdk_35_method_44_code 49 = .ok (.land, 1) := by decide +kernel
theorem d11_50 : decode jdk_35_method_44_code 50 = .ok (.bipush 63, 2) := by decide +kernel
theorem d11_52 : decode jdk_35_method_44_code 52 = .ok (.lushr, 1) := by decide +kernel
theorem d11_53 : decode jdk_35_method_44_code 53 = .ok (.lreturn, 1) := by decide +kernel
theorem pf_7 : plainFor (⟨"java/lang/Long", "divideUnsigned", "(JJ)J"⟩ : MethodName) = true := by first | exact plainFor_of_name (by first | (simp [plainName, overriddenIn]; done) | decide +kernel) | decide +kernel
theorem ef_11_rmDU (m : MethodId) (q1 : Int64) (q2 : Int64)  : entryFrame m #[(.long q1), (.long q2)] 8 = mkF m 0 #[.val (.long q1), .second, .val (.long q2), .second, .unset, .unset, .unset, .unset] [] := by first | (simp [entryFrame, mkF, argsToLocals, Value.category, maxLocals]; done) | rfl
def Q_rmDU (Z : State) (q1 : Int64) (q2 : Int64) (h0 : Heap) (n0 : Nat) (v : Option Value) (h : Heap) (L : List Loc) : Prop := ∃ r : Int64, v = some (.long r) ∧ Fr n0 L ∧ h = h0
set_option maxRecDepth 65536 in
set_option maxHeartbeats 40000000 in
theorem rmDU (l : Launch) (Z : State) (a0 : Array Value) (hw : ∀ d ∈ tables_1, d.before a0 Z = true) (ws : List Jvm.Cond) (q1 : Int64) (q2 : Int64) (h0 : Heap) (n0 : Nat) (Z0 : n0 ≤ h0.size) (h1 : ¬ q2 < (0 : Int64)) (h2 : q2 ≠ 0) :
    OwnMet l Z (⟨"java/lang/Long", "divideUnsigned", "(JJ)J"⟩ : MethodName) jdk_35_method_44_code 8 (some .long) ws ({ frames := 0, cells := 0, slots := 0, locals := 0 } : Room) #[(.long q1), (.long q2)] h0 (Q_rmDU Z q1 q2 h0 n0) := by
  refine own_body pf_7 ?_
  intro p e s m below meth c s₁ hx hby hml hown hnm hret hlk hZ X0 e0
  have N0 := Fr.nil n0
  refine own_cast (ef_11_rmDU m q1 q2 ) ?_
  refine g_lload_n X0 hx 1 rfl (hb hby d11_0) rfl ?_
  refine g_lconst X0 hx 2 rfl (0 : Int64) rfl (hb hby d11_1) ?_
  refine g_lcmp X0 hx 3 rfl (hb hby d11_2) ?_
  refine g_ifN X0 hx 6 rfl (hb hby d11_3) (XT.ll_lt_f h1) ?_
  refine g_lload_n X0 hx 7 rfl (hb hby d11_6) rfl ?_
  refine g_iconst X0 hx 8 rfl (1 : Int32) rfl (hb hby d11_7) ?_
  refine g_lushr X0 hx 9 rfl (hb hby d11_8) ?_
  refine g_lload_n X0 hx 10 rfl (hb hby d11_9) rfl ?_
  refine g_ldiv X0 hx 11 rfl (hb hby d11_10) h2 ?_
  refine g_iconst X0 hx 12 rfl (1 : Int32) rfl (hb hby d11_11) ?_
  refine g_lshl X0 hx 13 rfl (hb hby d11_12) ?_
  refine g_lstore X0 hx 15 rfl (hb hby d11_13) #[.val (.long q1), .second, .val (.long q2), .second, .val (.long (((XT.ushrL q1 (1 : Int32)) / q2) <<< ((1 : Int32).toInt64 &&& 63))), .second, .unset, .unset] rfl ?_
  refine g_lload_n X0 hx 16 rfl (hb hby d11_15) rfl ?_
  refine g_lload X0 hx 18 rfl (hb hby d11_16) rfl ?_
  refine g_lload_n X0 hx 19 rfl (hb hby d11_18) rfl ?_
  refine g_lmul X0 hx 20 rfl (hb hby d11_19) ?_
  refine g_lsub X0 hx 21 rfl (hb hby d11_20) ?_
  refine g_lstore X0 hx 23 rfl (hb hby d11_21) #[.val (.long q1), .second, .val (.long q2), .second, .val (.long (((XT.ushrL q1 (1 : Int32)) / q2) <<< ((1 : Int32).toInt64 &&& 63))), .second, .val (.long (q1 - ((((XT.ushrL q1 (1 : Int32)) / q2) <<< ((1 : Int32).toInt64 &&& 63)) * q2))), .second] rfl ?_
  refine g_lload X0 hx 25 rfl (hb hby d11_23) rfl ?_
  refine g_lload X0 hx 27 rfl (hb hby d11_25) rfl ?_
  refine g_lload X0 hx 29 rfl (hb hby d11_27) rfl ?_
  refine g_lload_n X0 hx 30 rfl (hb hby d11_29) rfl ?_
  refine g_lsub X0 hx 31 rfl (hb hby d11_30) ?_
  refine g_ldcJ X0 hx 34 rfl hown hZ (hw _ (List.mem_of_getElem? (i := 66) rfl)) (hb hby d11_31) ?_
  refine g_lxor X0 hx 35 rfl (hb hby d11_34) ?_
  refine g_lor X0 hx 36 rfl (hb hby d11_35) ?_
  refine g_bipush X0 hx 38 rfl (63 : Int32) rfl (hb hby d11_36) ?_
  refine g_lushr X0 hx 39 rfl (hb hby d11_38) ?_
  refine g_ladd X0 hx 40 rfl (hb hby d11_39) ?_
  exact g_retJ X0 hx hret hlk (hb hby d11_40) ⟨_, rfl, N0, e0⟩ (by decide) (by decide)
theorem d10_0 : decode prog_15_method_1_code 0 = .ok (.aload_n 0, 1) := by decide +kernel
theorem d10_1 : decode prog_15_method_1_code 1 = .ok (.invokespecial 1, 3) := by decide +kernel
theorem d10_4 : decode prog_15_method_1_code 4 = .ok (.aload_n 0, 1) := by decide +kernel
theorem d10_5 : decode prog_15_method_1_code 5 = .ok (.lload_n 1, 1) := by decide +kernel
theorem d10_6 : decode prog_15_method_1_code 6 = .ok (.putfield 7, 3) := by decide +kernel
theorem d10_9 : decode prog_15_method_1_code 9 = .ok (.aload_n 0, 1) := by decide +kernel
theorem d10_10 : decode prog_15_method_1_code 10 = .ok (.ldc2_w 13, 3) := by decide +kernel
theorem d10_13 : decode prog_15_method_1_code 13 = .ok (.lload_n 1, 1) := by decide +kernel
theorem d10_14 : decode prog_15_method_1_code 14 = .ok (.invokestatic 15, 3) := by decide +kernel
theorem d10_17 : decode prog_15_method_1_code 17 = .ok (.putfield 21, 3) := by decide +kernel
theorem d10_20 : decode prog_15_method_1_code 20 = .ok (.return_, 1) := by decide +kernel
theorem pf_8 : plainFor (⟨"com/example/maybe_set/maybeset/Modulus", "<init>", "(J)V"⟩ : MethodName) = true := by first | exact plainFor_of_name (by first | (simp [plainName, overriddenIn]; done) | decide +kernel) | decide +kernel
theorem pd_3 : parseMethodDescriptor "()V" = some ⟨[], none⟩ := by decide +kernel
theorem pd_4 : parseMethodDescriptor "(JJ)J" = some ⟨[.long, .long], some .long⟩ := by decide +kernel
theorem ef_10_rmMo (m : MethodId) (a1 : Addr) (q : Int64) (u1 : Value) (u2 : Value)  : entryFrame m #[(.ref a1), (.long q)] 3 = mkF m 0 #[.val (.ref a1), .val (.long q), .second] [] := by first | (simp [entryFrame, mkF, argsToLocals, Value.category, maxLocals]; done) | rfl
def Q_rmMo (Z : State) (a1 : Addr) (q : Int64) (u1 : Value) (u2 : Value) (h0 : Heap) (n0 : Nat) (v : Option Value) (h : Heap) (L : List Loc) : Prop := v = none ∧ Fr n0 L ∧ Keep h0 h [a1]
set_option maxRecDepth 65536 in
set_option maxHeartbeats 40000000 in
theorem rmMo (l : Launch) (Z : State) (a0 : Array Value) (hw : ∀ d ∈ tables_1, d.before a0 Z = true) (ws : List Jvm.Cond) (a1 : Addr) (q : Int64) (u1 : Value) (u2 : Value) (h0 : Heap) (n0 : Nat) (Z0 : n0 ≤ h0.size) (E1 : Exa Z h0 a1 "com/example/maybe_set/maybeset/Modulus") (g1 : n0 ≤ a1) (Fs : Fld Z h0 a1 "com/example/maybe_set/maybeset/Modulus" "size" "J" u1) (Fr_ : Fld Z h0 a1 "com/example/maybe_set/maybeset/Modulus" "reciprocal" "J" u2) (hq1 : ¬ q < (0 : Int64)) (hq2 : q ≠ 0) :
    OwnMet l Z (⟨"com/example/maybe_set/maybeset/Modulus", "<init>", "(J)V"⟩ : MethodName) prog_15_method_1_code 3 none ws ({ frames := 1, cells := 0, slots := 0, locals := 20 } : Room) #[(.ref a1), (.long q)] h0 (Q_rmMo Z a1 q u1 u2 h0 n0) := by
  refine own_body pf_8 ?_
  intro p e s m below meth c s₁ hx hby hml hown hnm hret hlk hZ X0 e0
  have N0 := Fr.nil n0
  refine own_cast (ef_10_rmMo m a1 q u1 u2 ) ?_
  refine g_aload_n X0 hx 1 rfl (hb hby d10_0) rfl rfl ?_
  refine g_initO X0 hx hZ 4 rfl hown (hw _ (List.mem_of_getElem? (i := 59) rfl)) (hw _ (List.mem_of_getElem? (i := 43) rfl)) (hw _ (List.mem_of_getElem? (i := 44) rfl)) e0 (by rw [hml]; rfl) (hb hby d10_1) (by decide) 0 (Nat.le_of_eq rfl) (by decide) ?_
  intro T1 X1 e1
  refine g_aload_n X1 hx 5 rfl (hb hby d10_4) rfl rfl ?_
  refine g_lload_n X1 hx 6 rfl (hb hby d10_5) rfl ?_
  refine g_putF X1 hx hZ 9 rfl hown (hw _ (List.mem_of_getElem? (i := 60) rfl)) e1 Fs E1 (Or.inr ⟨(hw _ (List.mem_of_getElem? (i := 61) rfl)), rfl, hnm⟩) (hw _ (List.mem_of_getElem? (i := 54) rfl)) (ty := .long) (by decide) rfl rfl (hb hby d10_6) ?_
  intro T2 h2 X2 e2 W2
  have Fw2 := Fs.same W2
  have N2 := Fr.snoc X2 N0 g1
  refine g_aload_n X2 hx 10 rfl (hb hby d10_9) rfl rfl ?_
  refine g_ldcJ X2 hx 13 rfl hown hZ (hw _ (List.mem_of_getElem? (i := 62) rfl)) (hb hby d10_10) ?_
  refine g_lload_n X2 hx 14 rfl (hb hby d10_13) rfl ?_
  have Zl4 : n0 ≤ h2.size := (Nat.le_trans Z0 (Nat.le_of_eq W2.size.symm))
  refine g_callS X2 hx hZ 17 rfl (y := (⟨"java/lang/Long", "divideUnsigned", "(JJ)J"⟩ : MethodName)) hown (hw _ (List.mem_of_getElem? (i := 63) rfl)) (hw _ (List.mem_of_getElem? (i := 64) rfl)) (hw _ (List.mem_of_getElem? (i := 16) rfl)) (hw _ (List.mem_of_getElem? (i := 65) rfl)) (by decide) [.long (-1 : Int64), .long q] [.ref a1] (rmDU l Z a0 hw [] (-1 : Int64) q h2 n0 Zl4 hq1 hq2) e2 (lenOf pd_4 rfl) rfl (by rw [hml]; rfl) (hb hby d10_14) (by decide) 1 (Nat.le_of_eq rfl) (by decide) (by decide) (by decide) ?_
  rintro _ T3 L3 X3 ⟨r3, rfl, N3q, e3⟩
  have N3 := Fr.app N2 N3q
  show Goes p e below (T3.setTop (mkF m 17 #[.val (.ref a1), .val (.long q), .second] [.long r3, .ref a1])) _
  have Fld5 := (Fr_.other W2 (Or.inr (slot_ne (Or.inr (hw _ (List.mem_of_getElem? (i := 68) rfl))) (Or.inr (hw _ (List.mem_of_getElem? (i := 61) rfl))) (by decide) (t := .long) (t' := .long) (by decide) (by decide))))
  have Exa6 := (E1.wr W2)
  refine g_putF X3 hx hZ 20 rfl hown (hw _ (List.mem_of_getElem? (i := 67) rfl)) e3 Fld5 Exa6 (Or.inr ⟨(hw _ (List.mem_of_getElem? (i := 68) rfl)), rfl, hnm⟩) (hw _ (List.mem_of_getElem? (i := 54) rfl)) (ty := .long) (by decide) rfl rfl (hb hby d10_17) ?_
  intro T7 h7 X7 e7 W7
  have Fw7 := Fld5.same W7
  have N7 := Fr.snoc X7 N3 g1
  exact g_ret0 X7 hx hret hlk (hb hby d10_20) (by rw [e7]; exact ⟨rfl, N7, (((Keep.refl h0 [a1]).wr W2 (Or.inl (List.mem_of_getElem? (i := 0) rfl))).wr W7 (Or.inl (List.mem_of_getElem? (i := 0) rfl)))⟩) (by decide) (by decide)
theorem d8_0 : decode prog_2_method_2_code 0 = .ok (.aload_n 0, 1) := by decide +kernel
theorem d8_1 : decode prog_2_method_2_code 1 = .ok (.invokespecial 15, 3) := by decide +kernel
theorem d8_4 : decode prog_2_method_2_code 4 = .ok (.aload_n 0, 1) := by decide +kernel
theorem d8_5 : decode prog_2_method_2_code 5 = .ok (.lload_n 1, 1) := by decide +kernel
theorem d8_6 : decode prog_2_method_2_code 6 = .ok (.putfield 20, 3) := by decide +kernel
theorem d8_9 : decode prog_2_method_2_code 9 = .ok (.aload_n 0, 1) := by decide +kernel
theorem d8_10 : decode prog_2_method_2_code 10 = .ok (.iload_n 3, 1) := by decide +kernel
theorem d8_11 : decode prog_2_method_2_code 11 = .ok (.putfield 24, 3) := by decide +kernel
theorem d8_14 : decode prog_2_method_2_code 14 = .ok (.aload_n 0, 1) := by decide +kernel
theorem d8_15 : decode prog_2_method_2_code 15 = .ok (.iload 4, 2) := by decide +kernel
theorem d8_17 : decode prog_2_method_2_code 17 = .ok (.putfield 28, 3) := by decide +kernel
theorem d8_20 : decode prog_2_method_2_code 20 = .ok (.aload_n 0, 1) := by decide +kernel
theorem d8_21 : decode prog_2_method_2_code 21 = .ok (.iload_n 3, 1) := by decide +kernel
theorem d8_22 : decode prog_2_method_2_code 22 = .ok (.i2l, 1) := by decide +kernel
theorem d8_23 : decode prog_2_method_2_code 23 = .ok (.ldc2_w 31, 3) := by decide +kernel
theorem d8_26 : decode prog_2_method_2_code 26 = .ok (.ladd, 1) := by decide +kernel
theorem d8_27 : decode prog_2_method_2_code 27 = .ok (.invokestatic 33, 3) := by decide +kernel
theorem d8_30 : decode prog_2_method_2_code 30 = .ok (.putfield 37, 3) := by decide +kernel
theorem d8_33 : decode prog_2_method_2_code 33 = .ok (.aload_n 0, 1) := by decide +kernel
theorem d8_34 : decode prog_2_method_2_code 34 = .ok (.new 40, 3) := by decide +kernel
theorem d8_37 : decode prog_2_method_2_code 37 = .ok (.dup, 1) := by decide +kernel
theorem d8_38 : decode prog_2_method_2_code 38 = .ok (.aload_n 0, 1) := by decide +kernel
theorem d8_39 : decode prog_2_method_2_code 39 = .ok (.getfield 37, 3) := by decide +kernel
theorem d8_42 : decode prog_2_method_2_code 42 = .ok (.invokespecial 42, 3) := by decide +kernel
theorem d8_45 : decode prog_2_method_2_code 45 = .ok (.putfield 45, 3) := by decide +kernel
theorem d8_48 : decode prog_2_method_2_code 48 = .ok (.aload_n 0, 1) := by decide +kernel
theorem d8_49 : decode prog_2_method_2_code 49 = .ok (.iload_n 3, 1) := by decide +kernel
theorem d8_50 : decode prog_2_method_2_code 50 = .ok (.invokestatic 49, 3) := by decide +kernel
theorem d8_53 : decode prog_2_method_2_code 53 = .ok (.putfield 53, 3) := by decide +kernel
theorem d8_56 : decode prog_2_method_2_code 56 = .ok (.aload_n 0, 1) := by decide +kernel
theorem d8_57 : decode prog_2_method_2_code 57 = .ok (.iload_n 3, 1) := by decide +kernel
theorem d8_58 : decode prog_2_method_2_code 58 = .ok (.iload 4, 2) := by decide +kernel
theorem d8_60 : decode prog_2_method_2_code 60 = .ok (.invokestatic 55, 3) := by decide +kernel
theorem d8_63 : decode prog_2_method_2_code 63 = .ok (.putfield 59, 3) := by decide +kernel
theorem d8_66 : decode prog_2_method_2_code 66 = .ok (.aload_n 0, 1) := by decide +kernel
theorem d8_67 : decode prog_2_method_2_code 67 = .ok (.aload 5, 2) := by decide +kernel
theorem d8_69 : decode prog_2_method_2_code 69 = .ok (.putfield 61, 3) := by decide +kernel
theorem d8_72 : decode prog_2_method_2_code 72 = .ok (.return_, 1) := by decide +kernel
theorem pf_9 : plainFor (⟨"com/example/maybe_set/maybeset/BucketTable", "<init>", "(JII[J)V"⟩ : MethodName) = true := by first | exact plainFor_of_name (by first | (simp [plainName, overriddenIn]; done) | decide +kernel) | decide +kernel
theorem pd_5 : parseMethodDescriptor "(J)V" = some ⟨[.long], none⟩ := by decide +kernel
theorem pd_6 : parseMethodDescriptor "(II)I" = some ⟨[.int, .int], some .int⟩ := by decide +kernel
theorem ef_8_rmT (m : MethodId) (a1 : Addr) (qb : Int64) (hh : Int32) (ll : Int32) (wa : Addr) (u_buckets : Value) (u_highs : Value) (u_lowBits : Value) (u_multisets : Value) (u_pairRanks : Value) (u_rankBits : Value) (u_pairBits : Value) (u_words : Value)  : entryFrame m #[(.ref a1), (.long qb), (.int hh), (.int ll), (.ref wa)] 6 = mkF m 0 #[.val (.ref a1), .val (.long qb), .second, .val (.int hh), .val (.int ll), .val (.ref wa)] [] := by first | (simp [entryFrame, mkF, argsToLocals, Value.category, maxLocals]; done) | rfl
def Q_rmT (Z : State) (a1 : Addr) (qb : Int64) (hh : Int32) (ll : Int32) (wa : Addr) (u_buckets : Value) (u_highs : Value) (u_lowBits : Value) (u_multisets : Value) (u_pairRanks : Value) (u_rankBits : Value) (u_pairBits : Value) (u_words : Value) (h0 : Heap) (n0 : Nat) (v : Option Value) (h : Heap) (L : List Loc) : Prop := v = none ∧ Fr n0 L ∧ Keep h0 h [a1] ∧ Exa Z h a1 "com/example/maybe_set/maybeset/BucketTable" ∧ Fld Z h a1 "com/example/maybe_set/maybeset/BucketTable" "buckets" "J" (.long qb) ∧ Fld Z h a1 "com/example/maybe_set/maybeset/BucketTable" "multisets" "J" (.long (own_ch (hh.toInt64 + (3 : Int64)))) ∧ Fld Z h a1 "com/example/maybe_set/maybeset/BucketTable" "rankBits" "I" (.int (own_rkb hh)) ∧ Fld Z h a1 "com/example/maybe_set/maybeset/BucketTable" "pairBits" "I" (.int (own_rkb hh + (8 : Int32) * ll)) ∧ Fld Z h a1 "com/example/maybe_set/maybeset/BucketTable" "words" "[J" (.ref wa)
set_option maxRecDepth 65536 in
set_option maxHeartbeats 40000000 in
theorem rmT (l : Launch) (Z : State) (a0 : Array Value) (hw : ∀ d ∈ tables_1, d.before a0 Z = true) (ws : List Jvm.Cond) (a1 : Addr) (qb : Int64) (hh : Int32) (ll : Int32) (wa : Addr) (u_buckets : Value) (u_highs : Value) (u_lowBits : Value) (u_multisets : Value) (u_pairRanks : Value) (u_rankBits : Value) (u_pairBits : Value) (u_words : Value) (h0 : Heap) (n0 : Nat) (Z0 : n0 ≤ h0.size) (E1 : Exa Z h0 a1 "com/example/maybe_set/maybeset/BucketTable") (g1 : n0 ≤ a1) (hq1 : ¬ own_ch (hh.toInt64 + (3 : Int64)) < (0 : Int64)) (hq2 : own_ch (hh.toInt64 + (3 : Int64)) ≠ 0) (F_buckets : Fld Z h0 a1 "com/example/maybe_set/maybeset/BucketTable" "buckets" "J" u_buckets) (F_highs : Fld Z h0 a1 "com/example/maybe_set/maybeset/BucketTable" "highs" "I" u_highs) (F_lowBits : Fld Z h0 a1 "com/example/maybe_set/maybeset/BucketTable" "lowBits" "I" u_lowBits) (F_multisets : Fld Z h0 a1 "com/example/maybe_set/maybeset/BucketTable" "multisets" "J" u_multisets) (F_pairRanks : Fld Z h0 a1 "com/example/maybe_set/maybeset/BucketTable" "pairRanks" "Lcom/example/maybe_set/maybeset/Modulus;" u_pairRanks) (F_rankBits : Fld Z h0 a1 "com/example/maybe_set/maybeset/BucketTable" "rankBits" "I" u_rankBits) (F_pairBits : Fld Z h0 a1 "com/example/maybe_set/maybeset/BucketTable" "pairBits" "I" u_pairBits) (F_words : Fld Z h0 a1 "com/example/maybe_set/maybeset/BucketTable" "words" "[J" u_words) :
    OwnMet l Z (⟨"com/example/maybe_set/maybeset/BucketTable", "<init>", "(JII[J)V"⟩ : MethodName) prog_2_method_2_code 6 none ws ({ frames := 4, cells := 1, slots := 2, locals := 57 } : Room) #[(.ref a1), (.long qb), (.int hh), (.int ll), (.ref wa)] h0 (Q_rmT Z a1 qb hh ll wa u_buckets u_highs u_lowBits u_multisets u_pairRanks u_rankBits u_pairBits u_words h0 n0) := by
  refine own_body pf_9 ?_
  intro p e s m below meth c s₁ hx hby hml hown hnm hret hlk hZ X0 e0
  have N0 := Fr.nil n0
  refine own_cast (ef_8_rmT m a1 qb hh ll wa u_buckets u_highs u_lowBits u_multisets u_pairRanks u_rankBits u_pairBits u_words ) ?_
  refine g_aload_n X0 hx 1 rfl (hb hby d8_0) rfl rfl ?_
  refine g_initO X0 hx hZ 4 rfl hown (hw _ (List.mem_of_getElem? (i := 42) rfl)) (hw _ (List.mem_of_getElem? (i := 43) rfl)) (hw _ (List.mem_of_getElem? (i := 44) rfl)) e0 (by rw [hml]; rfl) (hb hby d8_1) (by decide) 0 (Nat.le_of_eq rfl) (by decide) ?_
  intro T1 X1 e1
  refine g_aload_n X1 hx 5 rfl (hb hby d8_4) rfl rfl ?_
  refine g_lload_n X1 hx 6 rfl (hb hby d8_5) rfl ?_
  refine g_putF X1 hx hZ 9 rfl hown (hw _ (List.mem_of_getElem? (i := 45) rfl)) e1 F_buckets E1 (Or.inr ⟨(hw _ (List.mem_of_getElem? (i := 46) rfl)), rfl, hnm⟩) (hw _ (List.mem_of_getElem? (i := 38) rfl)) (ty := .long) (by decide) rfl rfl (hb hby d8_6) ?_
  intro T2 h2 X2 e2 W2
  have Fw2 := F_buckets.same W2
  have N2 := Fr.snoc X2 N0 g1
  refine g_aload_n X2 hx 10 rfl (hb hby d8_9) rfl rfl ?_
  refine g_iload_n X2 hx 11 rfl (hb hby d8_10) rfl ?_
  have Fld3 := (F_highs.other W2 (Or.inr (slot_ne (Or.inr (hw _ (List.mem_of_getElem? (i := 48) rfl))) (Or.inr (hw _ (List.mem_of_getElem? (i := 46) rfl))) (by decide) (t := .int) (t' := .long) (by decide) (by decide))))
  have Exa4 := (E1.wr W2)
  refine g_putF X2 hx hZ 14 rfl hown (hw _ (List.mem_of_getElem? (i := 47) rfl)) e2 Fld3 Exa4 (Or.inr ⟨(hw _ (List.mem_of_getElem? (i := 48) rfl)), rfl, hnm⟩) (hw _ (List.mem_of_getElem? (i := 38) rfl)) (ty := .int) (by decide) rfl rfl (hb hby d8_11) ?_
  intro T5 h5 X5 e5 W5
  have Fw5 := Fld3.same W5
  have N5 := Fr.snoc X5 N2 g1
  refine g_aload_n X5 hx 15 rfl (hb hby d8_14) rfl rfl ?_
  refine g_iload X5 hx 17 rfl (hb hby d8_15) rfl ?_
  have Fld6 := ((F_lowBits.other W2 (Or.inr (slot_ne (Or.inr (hw _ (List.mem_of_getElem? (i := 50) rfl))) (Or.inr (hw _ (List.mem_of_getElem? (i := 46) rfl))) (by decide) (t := .int) (t' := .long) (by decide) (by decide)))).other W5 (Or.inr (slot_ne (Or.inr (hw _ (List.mem_of_getElem? (i := 50) rfl))) (Or.inr (hw _ (List.mem_of_getElem? (i := 48) rfl))) (by decide) (t := .int) (t' := .int) (by decide) (by decide))))
  have Exa7 := (Exa4.wr W5)
  refine g_putF X5 hx hZ 20 rfl hown (hw _ (List.mem_of_getElem? (i := 49) rfl)) e5 Fld6 Exa7 (Or.inr ⟨(hw _ (List.mem_of_getElem? (i := 50) rfl)), rfl, hnm⟩) (hw _ (List.mem_of_getElem? (i := 38) rfl)) (ty := .int) (by decide) rfl rfl (hb hby d8_17) ?_
  intro T8 h8 X8 e8 W8
  have Fw8 := Fld6.same W8
  have N8 := Fr.snoc X8 N5 g1
  refine g_aload_n X8 hx 21 rfl (hb hby d8_20) rfl rfl ?_
  refine g_iload_n X8 hx 22 rfl (hb hby d8_21) rfl ?_
  refine g_i2l X8 hx 23 rfl (hb hby d8_22) ?_
  refine g_ldcJ X8 hx 26 rfl hown hZ (hw _ (List.mem_of_getElem? (i := 8) rfl)) (hb hby d8_23) ?_
  refine g_ladd X8 hx 27 rfl (hb hby d8_26) ?_
  have Zl10 : n0 ≤ h8.size := (Nat.le_trans (Nat.le_trans (Nat.le_trans Z0 (Nat.le_of_eq W2.size.symm)) (Nat.le_of_eq W5.size.symm)) (Nat.le_of_eq W8.size.symm))
  refine g_callS X8 hx hZ 30 rfl (y := (⟨"com/example/maybe_set/maybeset/BucketTable", "choose4", "(J)J"⟩ : MethodName)) hown (hw _ (List.mem_of_getElem? (i := 9) rfl)) (hw _ (List.mem_of_getElem? (i := 10) rfl)) (hw _ (List.mem_of_getElem? (i := 6) rfl)) (hw _ (List.mem_of_getElem? (i := 11) rfl)) (by decide) [.long (hh.toInt64 + (3 : Int64))] [.ref a1] (rmC4 l Z a0 hw [] (hh.toInt64 + (3 : Int64)) h8 n0 Zl10 ) e8 (lenOf pd_1 rfl) rfl (by rw [hml]; rfl) (hb hby d8_27) (by decide) 1 (Nat.le_of_eq rfl) (by decide) (by decide) (by decide) ?_
  rintro _ T9 L9 X9 ⟨rfl, N9q, e9⟩
  have N9 := Fr.app N8 N9q
  show Goes p e below (T9.setTop (mkF m 30 #[.val (.ref a1), .val (.long qb), .second, .val (.int hh), .val (.int ll), .val (.ref wa)] [.long (own_ch (hh.toInt64 + (3 : Int64))), .ref a1])) _
  have Fld11 := (((F_multisets.other W2 (Or.inr (slot_ne (Or.inr (hw _ (List.mem_of_getElem? (i := 52) rfl))) (Or.inr (hw _ (List.mem_of_getElem? (i := 46) rfl))) (by decide) (t := .long) (t' := .long) (by decide) (by decide)))).other W5 (Or.inr (slot_ne (Or.inr (hw _ (List.mem_of_getElem? (i := 52) rfl))) (Or.inr (hw _ (List.mem_of_getElem? (i := 48) rfl))) (by decide) (t := .long) (t' := .int) (by decide) (by decide)))).other W8 (Or.inr (slot_ne (Or.inr (hw _ (List.mem_of_getElem? (i := 52) rfl))) (Or.inr (hw _ (List.mem_of_getElem? (i := 50) rfl))) (by decide) (t := .long) (t' := .int) (by decide) (by decide))))
  have Exa12 := (Exa7.wr W8)
  refine g_putF X9 hx hZ 33 rfl hown (hw _ (List.mem_of_getElem? (i := 51) rfl)) e9 Fld11 Exa12 (Or.inr ⟨(hw _ (List.mem_of_getElem? (i := 52) rfl)), rfl, hnm⟩) (hw _ (List.mem_of_getElem? (i := 38) rfl)) (ty := .long) (by decide) rfl rfl (hb hby d8_30) ?_
  intro T13 h13 X13 e13 W13
  have Fw13 := Fld11.same W13
  have N13 := Fr.snoc X13 N9 g1
  refine g_aload_n X13 hx 34 rfl (hb hby d8_33) rfl rfl ?_
  refine g_new X13 hx hZ 37 rfl hown (hw _ (List.mem_of_getElem? (i := 53) rfl)) (hw _ (List.mem_of_getElem? (i := 54) rfl)) (hw _ (List.mem_of_getElem? (i := 55) rfl)) e13 (hb hby d8_34) (by decide) (by decide) ?_
  intro T14 h14 o14 g14 X14 e14 E14 A14 D14
  have Exa15 := (Exa12.wr W13)
  have ne_a1_o14 : a1 ≠ o14 := Nat.ne_of_lt (Nat.lt_of_lt_of_eq Exa15.lt g14.symm)
  have Zl16 : n0 ≤ h13.size := (Nat.le_trans Zl10 (Nat.le_of_eq W13.size.symm))
  have ge_o14 : n0 ≤ o14 := Nat.le_trans Zl16 (Nat.le_of_eq g14.symm)
  have hz_o14 : h0.size ≤ o14 := Nat.le_trans (((((Keep.refl h0 [a1]).wr W2 (Or.inl (List.mem_of_getElem? (i := 0) rfl))).wr W5 (Or.inl (List.mem_of_getElem? (i := 0) rfl))).wr W8 (Or.inl (List.mem_of_getElem? (i := 0) rfl))).wr W13 (Or.inl (List.mem_of_getElem? (i := 0) rfl))).1 (Nat.le_of_eq g14.symm)
  refine g_dup X14 hx 38 rfl (hb hby d8_37) rfl ?_
  refine g_aload_n X14 hx 39 rfl (hb hby d8_38) rfl rfl ?_
  have Fld17 := (Fw13.ext E14)
  refine g_getF X14 hx hZ 42 rfl hown (hw _ (List.mem_of_getElem? (i := 51) rfl)) e14 Fld17 (hb hby d8_39) ?_
  intro T18 X18 e18
  have Zl20 : n0 ≤ h14.size := (Nat.le_trans Zl16 E14.1)
  refine g_callI X18 hx hZ 45 rfl (y := (⟨"com/example/maybe_set/maybeset/Modulus", "<init>", "(J)V"⟩ : MethodName)) rfl hown (hw _ (List.mem_of_getElem? (i := 56) rfl)) (hw _ (List.mem_of_getElem? (i := 57) rfl)) (hw _ (List.mem_of_getElem? (i := 55) rfl)) (hw _ (List.mem_of_getElem? (i := 58) rfl)) (by decide) o14 [.long (own_ch (hh.toInt64 + (3 : Int64)))] [.ref o14, .ref a1] (rmMo l Z a0 hw [] o14 (own_ch (hh.toInt64 + (3 : Int64))) _ _ h14 n0 Zl20 A14 ge_o14 (D14 (Or.inr (hw _ (List.mem_of_getElem? (i := 61) rfl))) (ty := .long) (by decide)) (D14 (Or.inr (hw _ (List.mem_of_getElem? (i := 68) rfl))) (ty := .long) (by decide)) hq1 hq2) e18 (lenOf pd_5 rfl) rfl (by rw [hml]; rfl) (hb hby d8_42) (by decide) 2 (Nat.le_of_eq rfl) (by decide) (by decide) (by decide) ?_
  rintro _ T19 L19 X19 ⟨rfl, N19q, K19⟩
  have N19 := Fr.app N13 N19q
  show Goes p e below (T19.setTop (mkF m 45 #[.val (.ref a1), .val (.long qb), .second, .val (.int hh), .val (.int ll), .val (.ref wa)] [.ref o14, .ref a1])) _
  have Fld21 := ((((((F_pairRanks.other W2 (Or.inr (slot_ne (Or.inr (hw _ (List.mem_of_getElem? (i := 70) rfl))) (Or.inr (hw _ (List.mem_of_getElem? (i := 46) rfl))) (by decide) (t := .object "com/example/maybe_set/maybeset/Modulus") (t' := .long) (by decide) (by decide)))).other W5 (Or.inr (slot_ne (Or.inr (hw _ (List.mem_of_getElem? (i := 70) rfl))) (Or.inr (hw _ (List.mem_of_getElem? (i := 48) rfl))) (by decide) (t := .object "com/example/maybe_set/maybeset/Modulus") (t' := .int) (by decide) (by decide)))).other W8 (Or.inr (slot_ne (Or.inr (hw _ (List.mem_of_getElem? (i := 70) rfl))) (Or.inr (hw _ (List.mem_of_getElem? (i := 50) rfl))) (by decide) (t := .object "com/example/maybe_set/maybeset/Modulus") (t' := .int) (by decide) (by decide)))).other W13 (Or.inr (slot_ne (Or.inr (hw _ (List.mem_of_getElem? (i := 70) rfl))) (Or.inr (hw _ (List.mem_of_getElem? (i := 52) rfl))) (by decide) (t := .object "com/example/maybe_set/maybeset/Modulus") (t' := .long) (by decide) (by decide)))).ext E14).keep K19 (ninS ne_a1_o14 nin0))
  have Exa22 := ((Exa15.ext E14).keep K19)
  refine g_putF X19 hx hZ 48 rfl hown (hw _ (List.mem_of_getElem? (i := 69) rfl)) rfl Fld21 Exa22 (Or.inr ⟨(hw _ (List.mem_of_getElem? (i := 70) rfl)), rfl, hnm⟩) (hw _ (List.mem_of_getElem? (i := 38) rfl)) (ty := .object "com/example/maybe_set/maybeset/Modulus") (by decide) rfl rfl (hb hby d8_45) ?_
  intro T23 h23 X23 e23 W23
  have Fw23 := Fld21.same W23
  have N23 := Fr.snoc X23 N19 g1
  refine g_aload_n X23 hx 49 rfl (hb hby d8_48) rfl rfl ?_
  refine g_iload_n X23 hx 50 rfl (hb hby d8_49) rfl ?_
  have Zl25 : n0 ≤ h23.size := (Nat.le_trans (Nat.le_trans Zl20 K19.1) (Nat.le_of_eq W23.size.symm))
  refine g_callS X23 hx hZ 53 rfl (y := (⟨"com/example/maybe_set/maybeset/BucketTable", "rankBits", "(I)I"⟩ : MethodName)) hown (hw _ (List.mem_of_getElem? (i := 26) rfl)) (hw _ (List.mem_of_getElem? (i := 5) rfl)) (hw _ (List.mem_of_getElem? (i := 6) rfl)) (hw _ (List.mem_of_getElem? (i := 7) rfl)) (by decide) [.int hh] [.ref a1] (rmRB l Z a0 hw [] hh h23 n0 Zl25 ) e23 (lenOf pd_0 rfl) rfl (by rw [hml]; rfl) (hb hby d8_50) (by decide) 1 (Nat.le_of_eq rfl) (by decide) (by decide) (by decide) ?_
  rintro _ T24 L24 X24 ⟨rfl, N24q, e24⟩
  have N24 := Fr.app N23 N24q
  show Goes p e below (T24.setTop (mkF m 53 #[.val (.ref a1), .val (.long qb), .second, .val (.int hh), .val (.int ll), .val (.ref wa)] [.int (own_rkb hh), .ref a1])) _
  have Fld26 := (((((((F_rankBits.other W2 (Or.inr (slot_ne (Or.inr (hw _ (List.mem_of_getElem? (i := 72) rfl))) (Or.inr (hw _ (List.mem_of_getElem? (i := 46) rfl))) (by decide) (t := .int) (t' := .long) (by decide) (by decide)))).other W5 (Or.inr (slot_ne (Or.inr (hw _ (List.mem_of_getElem? (i := 72) rfl))) (Or.inr (hw _ (List.mem_of_getElem? (i := 48) rfl))) (by decide) (t := .int) (t' := .int) (by decide) (by decide)))).other W8 (Or.inr (slot_ne (Or.inr (hw _ (List.mem_of_getElem? (i := 72) rfl))) (Or.inr (hw _ (List.mem_of_getElem? (i := 50) rfl))) (by decide) (t := .int) (t' := .int) (by decide) (by decide)))).other W13 (Or.inr (slot_ne (Or.inr (hw _ (List.mem_of_getElem? (i := 72) rfl))) (Or.inr (hw _ (List.mem_of_getElem? (i := 52) rfl))) (by decide) (t := .int) (t' := .long) (by decide) (by decide)))).ext E14).keep K19 (ninS ne_a1_o14 nin0)).other W23 (Or.inr (slot_ne (Or.inr (hw _ (List.mem_of_getElem? (i := 72) rfl))) (Or.inr (hw _ (List.mem_of_getElem? (i := 70) rfl))) (by decide) (t := .int) (t' := .object "com/example/maybe_set/maybeset/Modulus") (by decide) (by decide))))
  have Exa27 := (Exa22.wr W23)
  refine g_putF X24 hx hZ 56 rfl hown (hw _ (List.mem_of_getElem? (i := 71) rfl)) e24 Fld26 Exa27 (Or.inr ⟨(hw _ (List.mem_of_getElem? (i := 72) rfl)), rfl, hnm⟩) (hw _ (List.mem_of_getElem? (i := 38) rfl)) (ty := .int) (by decide) rfl rfl (hb hby d8_53) ?_
  intro T28 h28 X28 e28 W28
  have Fw28 := Fld26.same W28
  have N28 := Fr.snoc X28 N24 g1
  refine g_aload_n X28 hx 57 rfl (hb hby d8_56) rfl rfl ?_
  refine g_iload_n X28 hx 58 rfl (hb hby d8_57) rfl ?_
  refine g_iload X28 hx 60 rfl (hb hby d8_58) rfl ?_
  have Zl30 : n0 ≤ h28.size := (Nat.le_trans Zl25 (Nat.le_of_eq W28.size.symm))
  refine g_callS X28 hx hZ 63 rfl (y := (⟨"com/example/maybe_set/maybeset/BucketTable", "pairBits", "(II)I"⟩ : MethodName)) hown (hw _ (List.mem_of_getElem? (i := 73) rfl)) (hw _ (List.mem_of_getElem? (i := 24) rfl)) (hw _ (List.mem_of_getElem? (i := 6) rfl)) (hw _ (List.mem_of_getElem? (i := 25) rfl)) (by decide) [.int hh, .int ll] [.ref a1] (rmPB l Z a0 hw [] hh ll h28 n0 Zl30 ) e28 (lenOf pd_6 rfl) rfl (by rw [hml]; rfl) (hb hby d8_60) (by decide) 1 (Nat.le_of_eq rfl) (by decide) (by decide) (by decide) ?_
  rintro _ T29 L29 X29 ⟨rfl, N29q, e29⟩
  have N29 := Fr.app N28 N29q
  show Goes p e below (T29.setTop (mkF m 63 #[.val (.ref a1), .val (.long qb), .second, .val (.int hh), .val (.int ll), .val (.ref wa)] [.int (own_rkb hh + (8 : Int32) * ll), .ref a1])) _
  have Fld31 := ((((((((F_pairBits.other W2 (Or.inr (slot_ne (Or.inr (hw _ (List.mem_of_getElem? (i := 75) rfl))) (Or.inr (hw _ (List.mem_of_getElem? (i := 46) rfl))) (by decide) (t := .int) (t' := .long) (by decide) (by decide)))).other W5 (Or.inr (slot_ne (Or.inr (hw _ (List.mem_of_getElem? (i := 75) rfl))) (Or.inr (hw _ (List.mem_of_getElem? (i := 48) rfl))) (by decide) (t := .int) (t' := .int) (by decide) (by decide)))).other W8 (Or.inr (slot_ne (Or.inr (hw _ (List.mem_of_getElem? (i := 75) rfl))) (Or.inr (hw _ (List.mem_of_getElem? (i := 50) rfl))) (by decide) (t := .int) (t' := .int) (by decide) (by decide)))).other W13 (Or.inr (slot_ne (Or.inr (hw _ (List.mem_of_getElem? (i := 75) rfl))) (Or.inr (hw _ (List.mem_of_getElem? (i := 52) rfl))) (by decide) (t := .int) (t' := .long) (by decide) (by decide)))).ext E14).keep K19 (ninS ne_a1_o14 nin0)).other W23 (Or.inr (slot_ne (Or.inr (hw _ (List.mem_of_getElem? (i := 75) rfl))) (Or.inr (hw _ (List.mem_of_getElem? (i := 70) rfl))) (by decide) (t := .int) (t' := .object "com/example/maybe_set/maybeset/Modulus") (by decide) (by decide)))).other W28 (Or.inr (slot_ne (Or.inr (hw _ (List.mem_of_getElem? (i := 75) rfl))) (Or.inr (hw _ (List.mem_of_getElem? (i := 72) rfl))) (by decide) (t := .int) (t' := .int) (by decide) (by decide))))
  have Exa32 := (Exa27.wr W28)
  refine g_putF X29 hx hZ 66 rfl hown (hw _ (List.mem_of_getElem? (i := 74) rfl)) e29 Fld31 Exa32 (Or.inr ⟨(hw _ (List.mem_of_getElem? (i := 75) rfl)), rfl, hnm⟩) (hw _ (List.mem_of_getElem? (i := 38) rfl)) (ty := .int) (by decide) rfl rfl (hb hby d8_63) ?_
  intro T33 h33 X33 e33 W33
  have Fw33 := Fld31.same W33
  have N33 := Fr.snoc X33 N29 g1
  refine g_aload_n X33 hx 67 rfl (hb hby d8_66) rfl rfl ?_
  refine g_aload X33 hx 69 rfl (hb hby d8_67) rfl rfl ?_
  have Fld34 := (((((((((F_words.other W2 (Or.inr (slot_ne (Or.inr (hw _ (List.mem_of_getElem? (i := 77) rfl))) (Or.inr (hw _ (List.mem_of_getElem? (i := 46) rfl))) (by decide) (t := .array .long) (t' := .long) (by decide) (by decide)))).other W5 (Or.inr (slot_ne (Or.inr (hw _ (List.mem_of_getElem? (i := 77) rfl))) (Or.inr (hw _ (List.mem_of_getElem? (i := 48) rfl))) (by decide) (t := .array .long) (t' := .int) (by decide) (by decide)))).other W8 (Or.inr (slot_ne (Or.inr (hw _ (List.mem_of_getElem? (i := 77) rfl))) (Or.inr (hw _ (List.mem_of_getElem? (i := 50) rfl))) (by decide) (t := .array .long) (t' := .int) (by decide) (by decide)))).other W13 (Or.inr (slot_ne (Or.inr (hw _ (List.mem_of_getElem? (i := 77) rfl))) (Or.inr (hw _ (List.mem_of_getElem? (i := 52) rfl))) (by decide) (t := .array .long) (t' := .long) (by decide) (by decide)))).ext E14).keep K19 (ninS ne_a1_o14 nin0)).other W23 (Or.inr (slot_ne (Or.inr (hw _ (List.mem_of_getElem? (i := 77) rfl))) (Or.inr (hw _ (List.mem_of_getElem? (i := 70) rfl))) (by decide) (t := .array .long) (t' := .object "com/example/maybe_set/maybeset/Modulus") (by decide) (by decide)))).other W28 (Or.inr (slot_ne (Or.inr (hw _ (List.mem_of_getElem? (i := 77) rfl))) (Or.inr (hw _ (List.mem_of_getElem? (i := 72) rfl))) (by decide) (t := .array .long) (t' := .int) (by decide) (by decide)))).other W33 (Or.inr (slot_ne (Or.inr (hw _ (List.mem_of_getElem? (i := 77) rfl))) (Or.inr (hw _ (List.mem_of_getElem? (i := 75) rfl))) (by decide) (t := .array .long) (t' := .int) (by decide) (by decide))))
  have Exa35 := (Exa32.wr W33)
  refine g_putF X33 hx hZ 72 rfl hown (hw _ (List.mem_of_getElem? (i := 76) rfl)) e33 Fld34 Exa35 (Or.inr ⟨(hw _ (List.mem_of_getElem? (i := 77) rfl)), rfl, hnm⟩) (hw _ (List.mem_of_getElem? (i := 38) rfl)) (ty := .array .long) (by decide) rfl rfl (hb hby d8_69) ?_
  intro T36 h36 X36 e36 W36
  have Fw36 := Fld34.same W36
  have N36 := Fr.snoc X36 N33 g1
  have Exa37 := (Exa35.wr W36)
  have Fld38 := (((((((((Fw2.other W5 (Or.inr (slot_ne (Or.inr (hw _ (List.mem_of_getElem? (i := 46) rfl))) (Or.inr (hw _ (List.mem_of_getElem? (i := 48) rfl))) (by decide) (t := .long) (t' := .int) (by decide) (by decide)))).other W8 (Or.inr (slot_ne (Or.inr (hw _ (List.mem_of_getElem? (i := 46) rfl))) (Or.inr (hw _ (List.mem_of_getElem? (i := 50) rfl))) (by decide) (t := .long) (t' := .int) (by decide) (by decide)))).other W13 (Or.inr (slot_ne (Or.inr (hw _ (List.mem_of_getElem? (i := 46) rfl))) (Or.inr (hw _ (List.mem_of_getElem? (i := 52) rfl))) (by decide) (t := .long) (t' := .long) (by decide) (by decide)))).ext E14).keep K19 (ninS ne_a1_o14 nin0)).other W23 (Or.inr (slot_ne (Or.inr (hw _ (List.mem_of_getElem? (i := 46) rfl))) (Or.inr (hw _ (List.mem_of_getElem? (i := 70) rfl))) (by decide) (t := .long) (t' := .object "com/example/maybe_set/maybeset/Modulus") (by decide) (by decide)))).other W28 (Or.inr (slot_ne (Or.inr (hw _ (List.mem_of_getElem? (i := 46) rfl))) (Or.inr (hw _ (List.mem_of_getElem? (i := 72) rfl))) (by decide) (t := .long) (t' := .int) (by decide) (by decide)))).other W33 (Or.inr (slot_ne (Or.inr (hw _ (List.mem_of_getElem? (i := 46) rfl))) (Or.inr (hw _ (List.mem_of_getElem? (i := 75) rfl))) (by decide) (t := .long) (t' := .int) (by decide) (by decide)))).other W36 (Or.inr (slot_ne (Or.inr (hw _ (List.mem_of_getElem? (i := 46) rfl))) (Or.inr (hw _ (List.mem_of_getElem? (i := 77) rfl))) (by decide) (t := .long) (t' := .array .long) (by decide) (by decide))))
  have Fld39 := (((((Fld17.keep K19 (ninS ne_a1_o14 nin0)).other W23 (Or.inr (slot_ne (Or.inr (hw _ (List.mem_of_getElem? (i := 52) rfl))) (Or.inr (hw _ (List.mem_of_getElem? (i := 70) rfl))) (by decide) (t := .long) (t' := .object "com/example/maybe_set/maybeset/Modulus") (by decide) (by decide)))).other W28 (Or.inr (slot_ne (Or.inr (hw _ (List.mem_of_getElem? (i := 52) rfl))) (Or.inr (hw _ (List.mem_of_getElem? (i := 72) rfl))) (by decide) (t := .long) (t' := .int) (by decide) (by decide)))).other W33 (Or.inr (slot_ne (Or.inr (hw _ (List.mem_of_getElem? (i := 52) rfl))) (Or.inr (hw _ (List.mem_of_getElem? (i := 75) rfl))) (by decide) (t := .long) (t' := .int) (by decide) (by decide)))).other W36 (Or.inr (slot_ne (Or.inr (hw _ (List.mem_of_getElem? (i := 52) rfl))) (Or.inr (hw _ (List.mem_of_getElem? (i := 77) rfl))) (by decide) (t := .long) (t' := .array .long) (by decide) (by decide))))
  have Fld40 := ((Fw28.other W33 (Or.inr (slot_ne (Or.inr (hw _ (List.mem_of_getElem? (i := 72) rfl))) (Or.inr (hw _ (List.mem_of_getElem? (i := 75) rfl))) (by decide) (t := .int) (t' := .int) (by decide) (by decide)))).other W36 (Or.inr (slot_ne (Or.inr (hw _ (List.mem_of_getElem? (i := 72) rfl))) (Or.inr (hw _ (List.mem_of_getElem? (i := 77) rfl))) (by decide) (t := .int) (t' := .array .long) (by decide) (by decide))))
  have Fld41 := (Fw33.other W36 (Or.inr (slot_ne (Or.inr (hw _ (List.mem_of_getElem? (i := 75) rfl))) (Or.inr (hw _ (List.mem_of_getElem? (i := 77) rfl))) (by decide) (t := .int) (t' := .array .long) (by decide) (by decide))))
  exact g_ret0 X36 hx hret hlk (hb hby d8_72) (by rw [e36]; exact ⟨rfl, N36, (((((((((((Keep.refl h0 [a1]).wr W2 (Or.inl (List.mem_of_getElem? (i := 0) rfl))).wr W5 (Or.inl (List.mem_of_getElem? (i := 0) rfl))).wr W8 (Or.inl (List.mem_of_getElem? (i := 0) rfl))).wr W13 (Or.inl (List.mem_of_getElem? (i := 0) rfl))).ext E14).trans K19 (allS (Or.inr hz_o14) all0)).wr W23 (Or.inl (List.mem_of_getElem? (i := 0) rfl))).wr W28 (Or.inl (List.mem_of_getElem? (i := 0) rfl))).wr W33 (Or.inl (List.mem_of_getElem? (i := 0) rfl))).wr W36 (Or.inl (List.mem_of_getElem? (i := 0) rfl))), Exa37, Fld38, Fld39, Fld40, Fld41, Fw36⟩) (by decide) (by decide)
theorem d13_0 : decode prog_2_method_35_code 0 = .ok (.lload_n 1, 1) := by decide +kernel
theorem d13_1 : decode prog_2_method_35_code 1 = .ok (.ldc2_w 9, 3) := by decide +kernel
theorem d13_4 : decode prog_2_method_35_code 4 = .ok (.ldiv, 1) := by decide +kernel
theorem d13_5 : decode prog_2_method_35_code 5 = .ok (.l2i, 1) := by decide +kernel
theorem d13_6 : decode prog_2_method_35_code 6 = .ok (.istore 4, 2) := by decide +kernel
theorem d13_8 : decode prog_2_method_35_code 8 = .ok (.lload_n 1, 1) := by decide +kernel
theorem d13_9 : decode prog_2_method_35_code 9 = .ok (.ldc2_w 9, 3) := by decide +kernel
theorem d13_12 : decode prog_2_method_35_code 12 = .ok (.lrem, 1) := by decide +kernel
theorem d13_13 : decode prog_2_method_35_code 13 = .ok (.l2i, 1) := by decide +kernel
theorem d13_14 : decode prog_2_method_35_code 14 = .ok (.istore 5, 2) := by decide +kernel
theorem d13_16 : decode prog_2_method_35_code 16 = .ok (.aload_n 0, 1) := by decide +kernel
theorem d13_17 : decode prog_2_method_35_code 17 = .ok (.getfield 61, 3) := by decide +kernel
theorem d13_20 : decode prog_2_method_35_code 20 = .ok (.iload 4, 2) := by decide +kernel
theorem d13_22 : decode prog_2_method_35_code 22 = .ok (.laload, 1) := by decide +kernel
theorem d13_23 : decode prog_2_method_35_code 23 = .ok (.iload 5, 2) := by decide +kernel
theorem d13_25 : decode prog_2_method_35_code 25 = .ok (.lushr, 1) := by decide +kernel
theorem d13_26 : decode prog_2_method_35_code 26 = .ok (.lstore 6, 2) := by decide +kernel
theorem d13_28 : decode prog_2_method_35_code 28 = .ok (.iload 5, 2) := by decide +kernel
theorem d13_30 : decode prog_2_method_35_code 30 = .ok (.iload_n 3, 1) := by decide +kernel
theorem d13_31 : decode prog_2_method_35_code 31 = .ok (.iadd, 1) := by decide +kernel
theorem d13_32 : decode prog_2_method_35_code 32 = .ok (.bipush 64, 2) := by decide +kernel
theorem d13_34 : decode prog_2_method_35_code 34 = .ok (.if_icmp .le 23, 3) := by decide +kernel
theorem d13_37 : decode prog_2_method_35_code 37 = .ok (.lload 6, 2) := by decide +kernel
theorem d13_39 : decode prog_2_method_35_code 39 = .ok (.aload_n 0, 1) := by decide +kernel
theorem d13_40 : decode prog_2_method_35_code 40 = .ok (.getfield 61, 3) := by decide +kernel
theorem d13_43 : decode prog_2_method_35_code 43 = .ok (.iload 4, 2) := by decide +kernel
theorem d13_45 : decode prog_2_method_35_code 45 = .ok (.iconst 1, 1) := by decide +kernel
theorem d13_46 : decode prog_2_method_35_code 46 = .ok (.iadd, 1) := by decide +kernel
theorem d13_47 : decode prog_2_method_35_code 47 = .ok (.laload, 1) := by decide +kernel
theorem d13_48 : decode prog_2_method_35_code 48 = .ok (.bipush 64, 2) := by decide +kernel
theorem d13_50 : decode prog_2_method_35_code 50 = .ok (.iload 5, 2) := by decide +kernel
theorem d13_52 : decode prog_2_method_35_code 52 = .ok (.isub, 1) := by decide +kernel
theorem d13_53 : decode prog_2_method_35_code 53 = .ok (.lshl, 1) := by decide +kernel
theorem d13_54 : decode prog_2_method_35_code 54 = .ok (.lor, 1) := by decide +kernel
theorem d13_55 : decode prog_2_method_35_code 55 = .ok (.lstore 6, 2) := by decide +kernel
theorem d13_57 : decode prog_2_method_35_code 57 = .ok (.lload 6, 2) := by decide +kernel
theorem d13_59 : decode prog_2_method_35_code 59 = .ok (.lconst 1, 1) := by decide +kernel
theorem d13_60 : decode prog_2_method_35_code 60 = .ok (.iload_n 3, 1) := by decide +kernel
theorem d13_61 : decode prog_2_method_35_code 61 = .ok (.lshl, 1) := by decide +kernel
theorem d13_62 : decode prog_2_method_35_code 62 = .ok (.lconst 1, 1) := by decide +kernel
theorem d13_63 : decode prog_2_method_35_code 63 = .ok (.lsub, 1) := by decide +kernel
theorem d13_64 : decode prog_2_method_35_code 64 = .ok (.land, 1) := by decide +kernel
theorem d13_65 : decode prog_2_method_35_code 65 = .ok (.lreturn, 1) := by decide +kernel
theorem pf_10 : plainFor (⟨"com/example/maybe_set/maybeset/BucketTable", "field", "(JI)J"⟩ : MethodName) = true := by first | exact plainFor_of_name (by first | (simp [plainName, overriddenIn]; done) | decide +kernel) | decide +kernel
theorem ef_13_rmF (m : MethodId) (a1 : Addr) (wa : Addr) (b : Nat) (k : Nat) (wf : Nat → Int64)  : entryFrame m #[(.ref a1), (.long (Int64.ofNat b)), (.int (Int32.ofNat k))] 8 = mkF m 0 #[.val (.ref a1), .val (.long (Int64.ofNat b)), .second, .val (.int (Int32.ofNat k)), .unset, .unset, .unset, .unset] [] := by first | (simp [entryFrame, mkF, argsToLocals, Value.category, maxLocals]; done) | rfl
def Q_rmF (Z : State) (a1 : Addr) (wa : Addr) (b : Nat) (k : Nat) (wf : Nat → Int64) (h0 : Heap) (n0 : Nat) (v : Option Value) (h : Heap) (L : List Loc) : Prop := ∃ r, v = some (.long r) ∧ Fr n0 L ∧ h = h0 ∧ own_rd wf b k r
set_option maxRecDepth 65536 in
set_option maxHeartbeats 40000000 in
theorem rmF (l : Launch) (Z : State) (a0 : Array Value) (hw : ∀ d ∈ tables_1, d.before a0 Z = true) (ws : List Jvm.Cond) (a1 : Addr) (wa : Addr) (b : Nat) (k : Nat) (wf : Nat → Int64) (h0 : Heap) (n0 : Nat) (Z0 : n0 ≤ h0.size) (Fw : Fld Z h0 a1 "com/example/maybe_set/maybeset/BucketTable" "words" "[J" (.ref wa)) (Aa : Al Z h0 wa .long (own_W wf)) (hb9 : b < 1400) (hk : k ≤ 62) :
    OwnMet l Z (⟨"com/example/maybe_set/maybeset/BucketTable", "field", "(JI)J"⟩ : MethodName) prog_2_method_35_code 8 (some .long) ws ({ frames := 0, cells := 0, slots := 0, locals := 0 } : Room) #[(.ref a1), (.long (Int64.ofNat b)), (.int (Int32.ofNat k))] h0 (Q_rmF Z a1 wa b k wf h0 n0) := by
  refine own_body pf_10 ?_
  intro p e s m below meth c s₁ hx hby hml hown hnm hret hlk hZ X0 e0
  have N0 := Fr.nil n0
  refine own_cast (ef_13_rmF m a1 wa b k wf ) ?_
  have bi1 := own_ofi (b / 64) (by omega)
  have bi2 := own_ofi (b / 64 + 1) (by omega)
  refine g_lload_n X0 hx 1 rfl (hb hby d13_0) rfl ?_
  refine g_ldcJ X0 hx 4 rfl hown hZ (hw _ (List.mem_of_getElem? (i := 87) rfl)) (hb hby d13_1) ?_
  refine g_ldiv X0 hx 5 rfl (hb hby d13_4) (by decide) ?_
  refine g_l2i X0 hx 6 rfl (hb hby d13_5) ?_
  rw [own_div b (by omega)]
  refine g_istore X0 hx 8 rfl (hb hby d13_6) #[.val (.ref a1), .val (.long (Int64.ofNat b)), .second, .val (.int (Int32.ofNat k)), .val (.int (Int32.ofNat (b / 64))), .unset, .unset, .unset] rfl ?_
  refine g_lload_n X0 hx 9 rfl (hb hby d13_8) rfl ?_
  refine g_ldcJ X0 hx 12 rfl hown hZ (hw _ (List.mem_of_getElem? (i := 87) rfl)) (hb hby d13_9) ?_
  refine g_lrem X0 hx 13 rfl (hb hby d13_12) (by decide) ?_
  refine g_l2i X0 hx 14 rfl (hb hby d13_13) ?_
  rw [own_mod b (by omega)]
  refine g_istore X0 hx 16 rfl (hb hby d13_14) #[.val (.ref a1), .val (.long (Int64.ofNat b)), .second, .val (.int (Int32.ofNat k)), .val (.int (Int32.ofNat (b / 64))), .val (.int (Int32.ofNat (b % 64))), .unset, .unset] rfl ?_
  refine g_aload_n X0 hx 17 rfl (hb hby d13_16) rfl rfl ?_
  refine g_getF X0 hx hZ 20 rfl hown (hw _ (List.mem_of_getElem? (i := 76) rfl)) e0 Fw (hb hby d13_17) ?_
  intro T1 X1 e1
  refine g_iload X1 hx 22 rfl (hb hby d13_20) rfl ?_
  refine g_laload X1 hx hZ 23 rfl (hb hby d13_22) e1 Aa (b / 64) bi1 (.long (wf (b / 64))) (own_W_get _ _ (by omega)) ?_
  refine g_iload X1 hx 25 rfl (hb hby d13_23) rfl ?_
  refine g_lushr X1 hx 26 rfl (hb hby d13_25) ?_
  refine g_lstore X1 hx 28 rfl (hb hby d13_26) #[.val (.ref a1), .val (.long (Int64.ofNat b)), .second, .val (.int (Int32.ofNat k)), .val (.int (Int32.ofNat (b / 64))), .val (.int (Int32.ofNat (b % 64))), .val (.long (XT.ushrL (wf (b / 64)) (Int32.ofNat (b % 64)))), .second] rfl ?_
  refine g_iload X1 hx 30 rfl (hb hby d13_28) rfl ?_
  refine g_iload_n X1 hx 31 rfl (hb hby d13_30) rfl ?_
  refine g_iadd X1 hx 32 rfl (hb hby d13_31) ?_
  refine g_bipush X1 hx 34 rfl (64 : Int32) rfl (hb hby d13_32) ?_
  have e64 : (64 : Int32).toInt = 64 := rfl
  have hsum := own_addI (b % 64) k (by omega)
  have hsi := own_ofi (b % 64 + k) (by omega)
  by_cases c34 : (64 : Int32) < ((Int32.ofNat (b % 64)) + (Int32.ofNat k))
  · refine g_icmpN X1 hx 37 rfl (hb hby d13_34) (XT.ii_le_f c34) ?_
    have ho : 64 < b % 64 + k := by rw [hsum, Int32.lt_iff_toInt_lt, hsi, e64] at c34; omega
    have h64 : (64 : Int32) - Int32.ofNat (b % 64) = Int32.ofNat (64 - b % 64) := own_subI 64 (b % 64) (by decide) (by omega)
    have hp1 : Int32.ofNat (b / 64) + (1 : Int32) = Int32.ofNat (b / 64 + 1) := own_addI (b / 64) 1 (by omega)
    refine g_lload X1 hx 39 rfl (hb hby d13_37) rfl ?_
    refine g_aload_n X1 hx 40 rfl (hb hby d13_39) rfl rfl ?_
    refine g_getF X1 hx hZ 43 rfl hown (hw _ (List.mem_of_getElem? (i := 76) rfl)) e1 Fw (hb hby d13_40) ?_
    intro T2 X2 e2
    refine g_iload X2 hx 45 rfl (hb hby d13_43) rfl ?_
    refine g_iconst X2 hx 46 rfl (1 : Int32) rfl (hb hby d13_45) ?_
    refine g_iadd X2 hx 47 rfl (hb hby d13_46) ?_
    rw [hp1]
    refine g_laload X2 hx hZ 48 rfl (hb hby d13_47) e2 Aa (b / 64 + 1) bi2 (.long (wf (b / 64 + 1))) (own_W_get _ _ (by omega)) ?_
    refine g_bipush X2 hx 50 rfl (64 : Int32) rfl (hb hby d13_48) ?_
    refine g_iload X2 hx 52 rfl (hb hby d13_50) rfl ?_
    refine g_isub X2 hx 53 rfl (hb hby d13_52) ?_
    rw [h64]
    refine g_lshl X2 hx 54 rfl (hb hby d13_53) ?_
    refine g_lor X2 hx 55 rfl (hb hby d13_54) ?_
    refine g_lstore X2 hx 57 rfl (hb hby d13_55) #[.val (.ref a1), .val (.long (Int64.ofNat b)), .second, .val (.int (Int32.ofNat k)), .val (.int (Int32.ofNat (b / 64))), .val (.int (Int32.ofNat (b % 64))), .val (.long ((XT.ushrL (wf (b / 64)) (Int32.ofNat (b % 64))) ||| ((wf (b / 64 + 1)) <<< ((Int32.ofNat (64 - b % 64)).toInt64 &&& 63)))), .second] rfl ?_
    refine g_lload X2 hx 59 rfl (hb hby d13_57) rfl ?_
    refine g_lconst X2 hx 60 rfl (1 : Int64) rfl (hb hby d13_59) ?_
    refine g_iload_n X2 hx 61 rfl (hb hby d13_60) rfl ?_
    refine g_lshl X2 hx 62 rfl (hb hby d13_61) ?_
    refine g_lconst X2 hx 63 rfl (1 : Int64) rfl (hb hby d13_62) ?_
    refine g_lsub X2 hx 64 rfl (hb hby d13_63) ?_
    refine g_land X2 hx 65 rfl (hb hby d13_64) ?_
    exact g_retJ X2 hx hret hlk (hb hby d13_65) ⟨_, rfl, N0, e2, own_f2 wf b k hk ho⟩ (by decide) (by decide)
  · refine g_icmpY X1 hx 57 (hb hby d13_34) (XT.ii_le_t c34) (by decide) (by decide) ?_
    have ho : b % 64 + k ≤ 64 := by rw [hsum, Int32.lt_iff_toInt_lt, hsi, e64] at c34; omega
    refine g_lload X1 hx 59 rfl (hb hby d13_57) rfl ?_
    refine g_lconst X1 hx 60 rfl (1 : Int64) rfl (hb hby d13_59) ?_
    refine g_iload_n X1 hx 61 rfl (hb hby d13_60) rfl ?_
    refine g_lshl X1 hx 62 rfl (hb hby d13_61) ?_
    refine g_lconst X1 hx 63 rfl (1 : Int64) rfl (hb hby d13_62) ?_
    refine g_lsub X1 hx 64 rfl (hb hby d13_63) ?_
    refine g_land X1 hx 65 rfl (hb hby d13_64) ?_
    exact g_retJ X1 hx hret hlk (hb hby d13_65) ⟨_, rfl, N0, e1, own_f1 wf b k hk ho⟩ (by decide) (by decide)
theorem d12_0 : decode prog_2_method_15_code 0 = .ok (.aload_n 0, 1) := by decide +kernel
theorem d12_1 : decode prog_2_method_15_code 1 = .ok (.getfield 37, 3) := by decide +kernel
theorem d12_4 : decode prog_2_method_15_code 4 = .ok (.aload_n 0, 1) := by decide +kernel
theorem d12_5 : decode prog_2_method_15_code 5 = .ok (.getfield 37, 3) := by decide +kernel
theorem d12_8 : decode prog_2_method_15_code 8 = .ok (.lmul, 1) := by decide +kernel
theorem d12_9 : decode prog_2_method_15_code 9 = .ok (.lstore_n 1, 1) := by decide +kernel
theorem d12_10 : decode prog_2_method_15_code 10 = .ok (.lconst 0, 1) := by decide +kernel
theorem d12_11 : decode prog_2_method_15_code 11 = .ok (.lstore_n 3, 1) := by decide +kernel
theorem d12_12 : decode prog_2_method_15_code 12 = .ok (.lload_n 3, 1) := by decide +kernel
theorem d12_13 : decode prog_2_method_15_code 13 = .ok (.aload_n 0, 1) := by decide +kernel
theorem d12_14 : decode prog_2_method_15_code 14 = .ok (.getfield 20, 3) := by decide +kernel
theorem d12_17 : decode prog_2_method_15_code 17 = .ok (.ldc2_w 76, 3) := by decide +kernel
theorem d12_20 : decode prog_2_method_15_code 20 = .ok (.ldiv, 1) := by decide +kernel
theorem d12_21 : decode prog_2_method_15_code 21 = .ok (.lcmp, 1) := by decide +kernel
theorem d12_22 : decode prog_2_method_15_code 22 = .ok (.ifCond .ge 32, 3) := by decide +kernel
theorem d12_25 : decode prog_2_method_15_code 25 = .ok (.aload_n 0, 1) := by decide +kernel
theorem d12_26 : decode prog_2_method_15_code 26 = .ok (.lload_n 3, 1) := by decide +kernel
theorem d12_27 : decode prog_2_method_15_code 27 = .ok (.aload_n 0, 1) := by decide +kernel
theorem d12_28 : decode prog_2_method_15_code 28 = .ok (.getfield 59, 3) := by decide +kernel
theorem d12_31 : decode prog_2_method_15_code 31 = .ok (.i2l, 1) := by decide +kernel
theorem d12_32 : decode prog_2_method_15_code 32 = .ok (.lmul, 1) := by decide +kernel
theorem d12_33 : decode prog_2_method_15_code 33 = .ok (.aload_n 0, 1) := by decide +kernel
theorem d12_34 : decode prog_2_method_15_code 34 = .ok (.getfield 53, 3) := by decide +kernel
theorem d12_37 : decode prog_2_method_15_code 37 = .ok (.invokevirtual 82, 3) := by decide +kernel
theorem d12_40 : decode prog_2_method_15_code 40 = .ok (.lload_n 1, 1) := by decide +kernel
theorem d12_41 : decode prog_2_method_15_code 41 = .ok (.lcmp, 1) := by decide +kernel
theorem d12_42 : decode prog_2_method_15_code 42 = .ok (.ifCond .lt 5, 3) := by decide +kernel
theorem d12_45 : decode prog_2_method_15_code 45 = .ok (.lload_n 3, 1) := by decide +kernel
theorem d12_46 : decode prog_2_method_15_code 46 = .ok (.lreturn, 1) := by decide +kernel
theorem d12_47 : decode prog_2_method_15_code 47 = .ok (.lload_n 3, 1) := by decide +kernel
theorem d12_48 : decode prog_2_method_15_code 48 = .ok (.lconst 1, 1) := by decide +kernel
theorem d12_49 : decode prog_2_method_15_code 49 = .ok (.ladd, 1) := by decide +kernel
theorem d12_50 : decode prog_2_method_15_code 50 = .ok (.lstore_n 3, 1) := by decide +kernel
theorem d12_51 : decode prog_2_method_15_code 51 = .ok (.goto (-39), 3) := by decide +kernel
theorem d12_54 : decode prog_2_method_15_code 54 = .ok (.ldc2_w 86, 3) := by decide +kernel
theorem d12_57 : decode prog_2_method_15_code 57 = .ok (.lreturn, 1) := by decide +kernel
theorem pf_11 : plainFor (⟨"com/example/maybe_set/maybeset/BucketTable", "firstInvalidPair", "()J"⟩ : MethodName) = true := by first | exact plainFor_of_name (by first | (simp [plainName, overriddenIn]; done) | decide +kernel) | decide +kernel
theorem pd_7 : parseMethodDescriptor "(JI)J" = some ⟨[.long, .int], some .long⟩ := by decide +kernel
theorem ef_12_rmFI (m : MethodId) (a1 : Addr) (wa : Addr) (pn : Nat) (k : Nat) (pb : Nat) (wf : Nat → Int64) (mu : Int64) (v0 : Int64) (v1 : Int64) (v2 : Int64)  : entryFrame m #[(.ref a1)] 5 = mkF m 0 #[.val (.ref a1), .unset, .unset, .unset, .unset] [] := by first | (simp [entryFrame, mkF, argsToLocals, Value.category, maxLocals]; done) | rfl
def Q_rmFI (Z : State) (a1 : Addr) (wa : Addr) (pn : Nat) (k : Nat) (pb : Nat) (wf : Nat → Int64) (mu : Int64) (v0 : Int64) (v1 : Int64) (v2 : Int64) (h0 : Heap) (n0 : Nat) (v : Option Value) (h : Heap) (L : List Loc) : Prop := v = some (.long (own_res pn (mu * mu) v0 v1 v2)) ∧ Fr n0 L ∧ h = h0
set_option maxRecDepth 65536 in
set_option maxHeartbeats 40000000 in
theorem rmFI (l : Launch) (Z : State) (a0 : Array Value) (hw : ∀ d ∈ tables_1, d.before a0 Z = true) (ws : List Jvm.Cond) (a1 : Addr) (wa : Addr) (pn : Nat) (k : Nat) (pb : Nat) (wf : Nat → Int64) (mu : Int64) (v0 : Int64) (v1 : Int64) (v2 : Int64) (h0 : Heap) (n0 : Nat) (Z0 : n0 ≤ h0.size) (Ea : Exa Z h0 a1 "com/example/maybe_set/maybeset/BucketTable") (Fb : Fld Z h0 a1 "com/example/maybe_set/maybeset/BucketTable" "buckets" "J" (.long (Int64.ofNat (2 * pn)))) (Fm : Fld Z h0 a1 "com/example/maybe_set/maybeset/BucketTable" "multisets" "J" (.long mu)) (Fk : Fld Z h0 a1 "com/example/maybe_set/maybeset/BucketTable" "rankBits" "I" (.int (Int32.ofNat k))) (Fp : Fld Z h0 a1 "com/example/maybe_set/maybeset/BucketTable" "pairBits" "I" (.int (Int32.ofNat pb))) (Fw : Fld Z h0 a1 "com/example/maybe_set/maybeset/BucketTable" "words" "[J" (.ref wa)) (Aa : Al Z h0 wa .long (own_W wf)) (hk : k ≤ 62) (hpb : pb < 600) (hp1 : 1 ≤ pn) (hp3 : pn ≤ 3) (hv0 : ∀ j, k ≤ j → v0.toBitVec.getLsbD j = false) (hv1 : ∀ j, k ≤ j → v1.toBitVec.getLsbD j = false) (hv2 : ∀ j, k ≤ j → v2.toBitVec.getLsbD j = false) (hi0 : own_is wf 0 k v0) (hi1 : 1 < pn → own_is wf pb k v1) (hi2 : 2 < pn → own_is wf (2 * pb) k v2) :
    OwnMet l Z (⟨"com/example/maybe_set/maybeset/BucketTable", "firstInvalidPair", "()J"⟩ : MethodName) prog_2_method_15_code 5 (some .long) ws ({ frames := 1, cells := 0, slots := 0, locals := 19 } : Room) #[(.ref a1)] h0 (Q_rmFI Z a1 wa pn k pb wf mu v0 v1 v2 h0 n0) := by
  refine own_body pf_11 ?_
  intro p e s m below meth c s₁ hx hby hml hown hnm hret hlk hZ X0 e0
  have N0 := Fr.nil n0
  refine own_cast (ef_12_rmFI m a1 wa pn k pb wf mu v0 v1 v2 ) ?_
  have hpi := own_ofl pn (by omega)
  refine g_aload_n X0 hx 1 rfl (hb hby d12_0) rfl rfl ?_
  refine g_getF X0 hx hZ 4 rfl hown (hw _ (List.mem_of_getElem? (i := 51) rfl)) e0 Fm (hb hby d12_1) ?_
  intro T1 X1 e1
  refine g_aload_n X1 hx 5 rfl (hb hby d12_4) rfl rfl ?_
  refine g_getF X1 hx hZ 8 rfl hown (hw _ (List.mem_of_getElem? (i := 51) rfl)) e1 Fm (hb hby d12_5) ?_
  intro T2 X2 e2
  refine g_lmul X2 hx 9 rfl (hb hby d12_8) ?_
  refine g_lstore_n X2 hx 10 rfl (hb hby d12_9) #[.val (.ref a1), .val (.long (mu * mu)), .second, .unset, .unset] rfl ?_
  refine g_lconst X2 hx 11 rfl (0 : Int64) rfl (hb hby d12_10) ?_
  refine g_lstore_n X2 hx 12 rfl (hb hby d12_11) #[.val (.ref a1), .val (.long (mu * mu)), .second, .val (.long (0 : Int64)), .second] rfl ?_
  refine g_lload_n X2 hx 13 rfl (hb hby d12_12) rfl ?_
  refine g_aload_n X2 hx 14 rfl (hb hby d12_13) rfl rfl ?_
  refine g_getF X2 hx hZ 17 rfl hown (hw _ (List.mem_of_getElem? (i := 45) rfl)) e2 Fb (hb hby d12_14) ?_
  intro T3 X3 e3
  refine g_ldcJ X3 hx 20 rfl hown hZ (hw _ (List.mem_of_getElem? (i := 12) rfl)) (hb hby d12_17) ?_
  refine g_ldiv X3 hx 21 rfl (hb hby d12_20) (by decide) ?_
  rw [own_half pn (by omega)]
  refine g_lcmp X3 hx 22 rfl (hb hby d12_21) ?_
  refine g_ifN X3 hx 25 rfl (hb hby d12_22) (XT.ll_ge_f (by rw [Int64.lt_iff_toInt_lt, hpi]; have z : (0 : Int64).toInt = 0 := rfl; omega)) ?_
  refine g_aload_n X3 hx 26 rfl (hb hby d12_25) rfl rfl ?_
  refine g_lload_n X3 hx 27 rfl (hb hby d12_26) rfl ?_
  refine g_aload_n X3 hx 28 rfl (hb hby d12_27) rfl rfl ?_
  refine g_getF X3 hx hZ 31 rfl hown (hw _ (List.mem_of_getElem? (i := 74) rfl)) e3 Fp (hb hby d12_28) ?_
  intro T4 X4 e4
  refine g_i2l X4 hx 32 rfl (hb hby d12_31) ?_
  rw [own_i2l pb (by omega)]
  have hm0 : (0 : Int64) * Int64.ofNat pb = Int64.ofNat 0 := (own_mulL 0 0 rfl pb (by omega) (by omega)).trans (congrArg Int64.ofNat (by omega))
  refine g_lmul X4 hx 33 rfl (hb hby d12_32) ?_
  rw [hm0]
  refine g_aload_n X4 hx 34 rfl (hb hby d12_33) rfl rfl ?_
  refine g_getF X4 hx hZ 37 rfl hown (hw _ (List.mem_of_getElem? (i := 71) rfl)) e4 Fk (hb hby d12_34) ?_
  intro T5 X5 e5
  refine g_callP X5 hx hZ 40 rfl (y := (⟨"com/example/maybe_set/maybeset/BucketTable", "field", "(JI)J"⟩ : MethodName)) hown (hw _ (List.mem_of_getElem? (i := 83) rfl)) (hw _ (List.mem_of_getElem? (i := 84) rfl)) (hw _ (List.mem_of_getElem? (i := 85) rfl)) (hw _ (List.mem_of_getElem? (i := 38) rfl)) (hw _ (List.mem_of_getElem? (i := 6) rfl)) (hw _ (List.mem_of_getElem? (i := 86) rfl)) (by decide) a1 [.long (Int64.ofNat 0), .int (Int32.ofNat k)] [] (rmF l Z a0 hw [] a1 wa 0 k wf h0 n0 Z0 Fw Aa (by omega) hk) e5 Ea (lenOf pd_7 rfl) rfl (by rw [hml]; rfl) (hb hby d12_37) (by decide) 0 (Nat.le_of_eq rfl) (by decide) (by decide) (by decide) ?_
  rintro _ T6 L6 X6 ⟨r6, rfl, N6q, e6, hr6⟩
  have N6 := Fr.app N0 N6q
  show Goes p e below (T6.setTop (mkF m 40 #[.val (.ref a1), .val (.long (mu * mu)), .second, .val (.long (0 : Int64)), .second] [.long r6])) _
  have hrv0 : r6 = v0 := own_is_rd hv0 hr6 hi0
  rw [hrv0]
  refine g_lload_n X6 hx 41 rfl (hb hby d12_40) rfl ?_
  refine g_lcmp X6 hx 42 rfl (hb hby d12_41) ?_
  by_cases k0 : v0 < (mu * mu)
  · refine g_ifY X6 hx 47 (hb hby d12_42) (XT.ll_lt_t k0) (by decide) (by decide) ?_
    refine g_lload_n X6 hx 48 rfl (hb hby d12_47) rfl ?_
    refine g_lconst X6 hx 49 rfl (1 : Int64) rfl (hb hby d12_48) ?_
    refine g_ladd X6 hx 50 rfl (hb hby d12_49) ?_
    show Goes p e below (T6.setTop (mkF m 50 #[.val (.ref a1), .val (.long (mu * mu)), .second, .val (.long (0 : Int64)), .second] [.long (1 : Int64)])) _
    refine g_lstore_n X6 hx 51 rfl (hb hby d12_50) #[.val (.ref a1), .val (.long (mu * mu)), .second, .val (.long (1 : Int64)), .second] rfl ?_
    refine g_goto X6 hx 12 (hb hby d12_51) (by decide) (by decide) ?_
    refine g_lload_n X6 hx 13 rfl (hb hby d12_12) rfl ?_
    refine g_aload_n X6 hx 14 rfl (hb hby d12_13) rfl rfl ?_
    refine g_getF X6 hx hZ 17 rfl hown (hw _ (List.mem_of_getElem? (i := 45) rfl)) e6 Fb (hb hby d12_14) ?_
    intro T7 X7 e7
    refine g_ldcJ X7 hx 20 rfl hown hZ (hw _ (List.mem_of_getElem? (i := 12) rfl)) (hb hby d12_17) ?_
    refine g_ldiv X7 hx 21 rfl (hb hby d12_20) (by decide) ?_
    rw [own_half pn (by omega)]
    refine g_lcmp X7 hx 22 rfl (hb hby d12_21) ?_
    by_cases t1 : (1 : Int64) < (Int64.ofNat pn)
    · refine g_ifN X7 hx 25 rfl (hb hby d12_22) (XT.ll_ge_f t1) ?_
      have hp_1 : 1 < pn := by rw [Int64.lt_iff_toInt_lt, hpi] at t1; have z : (1 : Int64).toInt = 1 := rfl; omega
      refine g_aload_n X7 hx 26 rfl (hb hby d12_25) rfl rfl ?_
      refine g_lload_n X7 hx 27 rfl (hb hby d12_26) rfl ?_
      refine g_aload_n X7 hx 28 rfl (hb hby d12_27) rfl rfl ?_
      refine g_getF X7 hx hZ 31 rfl hown (hw _ (List.mem_of_getElem? (i := 74) rfl)) e7 Fp (hb hby d12_28) ?_
      intro T8 X8 e8
      refine g_i2l X8 hx 32 rfl (hb hby d12_31) ?_
      rw [own_i2l pb (by omega)]
      have hm1 : (1 : Int64) * Int64.ofNat pb = Int64.ofNat pb := (own_mulL 1 1 rfl pb (by omega) (by omega)).trans (congrArg Int64.ofNat (by omega))
      refine g_lmul X8 hx 33 rfl (hb hby d12_32) ?_
      rw [hm1]
      refine g_aload_n X8 hx 34 rfl (hb hby d12_33) rfl rfl ?_
      refine g_getF X8 hx hZ 37 rfl hown (hw _ (List.mem_of_getElem? (i := 71) rfl)) e8 Fk (hb hby d12_34) ?_
      intro T9 X9 e9
      refine g_callP X9 hx hZ 40 rfl (y := (⟨"com/example/maybe_set/maybeset/BucketTable", "field", "(JI)J"⟩ : MethodName)) hown (hw _ (List.mem_of_getElem? (i := 83) rfl)) (hw _ (List.mem_of_getElem? (i := 84) rfl)) (hw _ (List.mem_of_getElem? (i := 85) rfl)) (hw _ (List.mem_of_getElem? (i := 38) rfl)) (hw _ (List.mem_of_getElem? (i := 6) rfl)) (hw _ (List.mem_of_getElem? (i := 86) rfl)) (by decide) a1 [.long (Int64.ofNat pb), .int (Int32.ofNat k)] [] (rmF l Z a0 hw [] a1 wa pb k wf h0 n0 Z0 Fw Aa (by omega) hk) e9 Ea (lenOf pd_7 rfl) rfl (by rw [hml]; rfl) (hb hby d12_37) (by decide) 0 (Nat.le_of_eq rfl) (by decide) (by decide) (by decide) ?_
      rintro _ T10 L10 X10 ⟨r10, rfl, N10q, e10, hr10⟩
      have N10 := Fr.app N6 N10q
      show Goes p e below (T10.setTop (mkF m 40 #[.val (.ref a1), .val (.long (mu * mu)), .second, .val (.long (1 : Int64)), .second] [.long r10])) _
      have hrv1 : r10 = v1 := own_is_rd hv1 hr10 (hi1 hp_1)
      rw [hrv1]
      refine g_lload_n X10 hx 41 rfl (hb hby d12_40) rfl ?_
      refine g_lcmp X10 hx 42 rfl (hb hby d12_41) ?_
      by_cases k1 : v1 < (mu * mu)
      · refine g_ifY X10 hx 47 (hb hby d12_42) (XT.ll_lt_t k1) (by decide) (by decide) ?_
        refine g_lload_n X10 hx 48 rfl (hb hby d12_47) rfl ?_
        refine g_lconst X10 hx 49 rfl (1 : Int64) rfl (hb hby d12_48) ?_
        refine g_ladd X10 hx 50 rfl (hb hby d12_49) ?_
        show Goes p e below (T10.setTop (mkF m 50 #[.val (.ref a1), .val (.long (mu * mu)), .second, .val (.long (1 : Int64)), .second] [.long (2 : Int64)])) _
        refine g_lstore_n X10 hx 51 rfl (hb hby d12_50) #[.val (.ref a1), .val (.long (mu * mu)), .second, .val (.long (2 : Int64)), .second] rfl ?_
        refine g_goto X10 hx 12 (hb hby d12_51) (by decide) (by decide) ?_
        refine g_lload_n X10 hx 13 rfl (hb hby d12_12) rfl ?_
        refine g_aload_n X10 hx 14 rfl (hb hby d12_13) rfl rfl ?_
        refine g_getF X10 hx hZ 17 rfl hown (hw _ (List.mem_of_getElem? (i := 45) rfl)) e10 Fb (hb hby d12_14) ?_
        intro T11 X11 e11
        refine g_ldcJ X11 hx 20 rfl hown hZ (hw _ (List.mem_of_getElem? (i := 12) rfl)) (hb hby d12_17) ?_
        refine g_ldiv X11 hx 21 rfl (hb hby d12_20) (by decide) ?_
        rw [own_half pn (by omega)]
        refine g_lcmp X11 hx 22 rfl (hb hby d12_21) ?_
        by_cases t2 : (2 : Int64) < (Int64.ofNat pn)
        · refine g_ifN X11 hx 25 rfl (hb hby d12_22) (XT.ll_ge_f t2) ?_
          have hp_2 : 2 < pn := by rw [Int64.lt_iff_toInt_lt, hpi] at t2; have z : (2 : Int64).toInt = 2 := rfl; omega
          refine g_aload_n X11 hx 26 rfl (hb hby d12_25) rfl rfl ?_
          refine g_lload_n X11 hx 27 rfl (hb hby d12_26) rfl ?_
          refine g_aload_n X11 hx 28 rfl (hb hby d12_27) rfl rfl ?_
          refine g_getF X11 hx hZ 31 rfl hown (hw _ (List.mem_of_getElem? (i := 74) rfl)) e11 Fp (hb hby d12_28) ?_
          intro T12 X12 e12
          refine g_i2l X12 hx 32 rfl (hb hby d12_31) ?_
          rw [own_i2l pb (by omega)]
          have hm2 : (2 : Int64) * Int64.ofNat pb = Int64.ofNat (2 * pb) := (own_mulL 2 2 rfl pb (by omega) (by omega)).trans (congrArg Int64.ofNat (by omega))
          refine g_lmul X12 hx 33 rfl (hb hby d12_32) ?_
          rw [hm2]
          refine g_aload_n X12 hx 34 rfl (hb hby d12_33) rfl rfl ?_
          refine g_getF X12 hx hZ 37 rfl hown (hw _ (List.mem_of_getElem? (i := 71) rfl)) e12 Fk (hb hby d12_34) ?_
          intro T13 X13 e13
          refine g_callP X13 hx hZ 40 rfl (y := (⟨"com/example/maybe_set/maybeset/BucketTable", "field", "(JI)J"⟩ : MethodName)) hown (hw _ (List.mem_of_getElem? (i := 83) rfl)) (hw _ (List.mem_of_getElem? (i := 84) rfl)) (hw _ (List.mem_of_getElem? (i := 85) rfl)) (hw _ (List.mem_of_getElem? (i := 38) rfl)) (hw _ (List.mem_of_getElem? (i := 6) rfl)) (hw _ (List.mem_of_getElem? (i := 86) rfl)) (by decide) a1 [.long (Int64.ofNat (2 * pb)), .int (Int32.ofNat k)] [] (rmF l Z a0 hw [] a1 wa (2 * pb) k wf h0 n0 Z0 Fw Aa (by omega) hk) e13 Ea (lenOf pd_7 rfl) rfl (by rw [hml]; rfl) (hb hby d12_37) (by decide) 0 (Nat.le_of_eq rfl) (by decide) (by decide) (by decide) ?_
          rintro _ T14 L14 X14 ⟨r14, rfl, N14q, e14, hr14⟩
          have N14 := Fr.app N10 N14q
          show Goes p e below (T14.setTop (mkF m 40 #[.val (.ref a1), .val (.long (mu * mu)), .second, .val (.long (2 : Int64)), .second] [.long r14])) _
          have hrv2 : r14 = v2 := own_is_rd hv2 hr14 (hi2 hp_2)
          rw [hrv2]
          refine g_lload_n X14 hx 41 rfl (hb hby d12_40) rfl ?_
          refine g_lcmp X14 hx 42 rfl (hb hby d12_41) ?_
          by_cases k2 : v2 < (mu * mu)
          · refine g_ifY X14 hx 47 (hb hby d12_42) (XT.ll_lt_t k2) (by decide) (by decide) ?_
            refine g_lload_n X14 hx 48 rfl (hb hby d12_47) rfl ?_
            refine g_lconst X14 hx 49 rfl (1 : Int64) rfl (hb hby d12_48) ?_
            refine g_ladd X14 hx 50 rfl (hb hby d12_49) ?_
            show Goes p e below (T14.setTop (mkF m 50 #[.val (.ref a1), .val (.long (mu * mu)), .second, .val (.long (2 : Int64)), .second] [.long (3 : Int64)])) _
            refine g_lstore_n X14 hx 51 rfl (hb hby d12_50) #[.val (.ref a1), .val (.long (mu * mu)), .second, .val (.long (3 : Int64)), .second] rfl ?_
            refine g_goto X14 hx 12 (hb hby d12_51) (by decide) (by decide) ?_
            refine g_lload_n X14 hx 13 rfl (hb hby d12_12) rfl ?_
            refine g_aload_n X14 hx 14 rfl (hb hby d12_13) rfl rfl ?_
            refine g_getF X14 hx hZ 17 rfl hown (hw _ (List.mem_of_getElem? (i := 45) rfl)) e14 Fb (hb hby d12_14) ?_
            intro T15 X15 e15
            refine g_ldcJ X15 hx 20 rfl hown hZ (hw _ (List.mem_of_getElem? (i := 12) rfl)) (hb hby d12_17) ?_
            refine g_ldiv X15 hx 21 rfl (hb hby d12_20) (by decide) ?_
            rw [own_half pn (by omega)]
            refine g_lcmp X15 hx 22 rfl (hb hby d12_21) ?_
            refine g_ifY X15 hx 54 (hb hby d12_22) (XT.ll_ge_t (by rw [Int64.lt_iff_toInt_lt, hpi]; have z : (3 : Int64).toInt = 3 := rfl; omega)) (by decide) (by decide) ?_
            refine g_ldcJ X15 hx 57 rfl hown hZ (hw _ (List.mem_of_getElem? (i := 88) rfl)) (hb hby d12_54) ?_
            exact g_retJ X15 hx hret hlk (hb hby d12_57) ⟨by unfold own_res; rw [if_pos k0, if_pos hp_1, if_pos k1, if_pos hp_2, if_pos k2], N14, e15⟩ (by decide) (by decide)
          · refine g_ifN X14 hx 45 rfl (hb hby d12_42) (XT.ll_lt_f k2) ?_
            refine g_lload_n X14 hx 46 rfl (hb hby d12_45) rfl ?_
            exact g_retJ X14 hx hret hlk (hb hby d12_46) ⟨by unfold own_res; rw [if_pos k0, if_pos hp_1, if_pos k1, if_pos hp_2, if_neg k2], N14, e14⟩ (by decide) (by decide)
        · refine g_ifY X11 hx 54 (hb hby d12_22) (XT.ll_ge_t t2) (by decide) (by decide) ?_
          have hp_2 : ¬ 2 < pn := fun z => t2 (by rw [Int64.lt_iff_toInt_lt, hpi]; have z : (2 : Int64).toInt = 2 := rfl; omega)
          refine g_ldcJ X11 hx 57 rfl hown hZ (hw _ (List.mem_of_getElem? (i := 88) rfl)) (hb hby d12_54) ?_
          exact g_retJ X11 hx hret hlk (hb hby d12_57) ⟨by unfold own_res; rw [if_pos k0, if_pos hp_1, if_pos k1, if_neg hp_2], N10, e11⟩ (by decide) (by decide)
      · refine g_ifN X10 hx 45 rfl (hb hby d12_42) (XT.ll_lt_f k1) ?_
        refine g_lload_n X10 hx 46 rfl (hb hby d12_45) rfl ?_
        exact g_retJ X10 hx hret hlk (hb hby d12_46) ⟨by unfold own_res; rw [if_pos k0, if_pos hp_1, if_neg k1], N10, e10⟩ (by decide) (by decide)
    · refine g_ifY X7 hx 54 (hb hby d12_22) (XT.ll_ge_t t1) (by decide) (by decide) ?_
      have hp_1 : ¬ 1 < pn := fun z => t1 (by rw [Int64.lt_iff_toInt_lt, hpi]; have z : (1 : Int64).toInt = 1 := rfl; omega)
      refine g_ldcJ X7 hx 57 rfl hown hZ (hw _ (List.mem_of_getElem? (i := 88) rfl)) (hb hby d12_54) ?_
      exact g_retJ X7 hx hret hlk (hb hby d12_57) ⟨by unfold own_res; rw [if_pos k0, if_neg hp_1], N6, e7⟩ (by decide) (by decide)
  · refine g_ifN X6 hx 45 rfl (hb hby d12_42) (XT.ll_lt_f k0) ?_
    refine g_lload_n X6 hx 46 rfl (hb hby d12_45) rfl ?_
    exact g_retJ X6 hx hret hlk (hb hby d12_46) ⟨by unfold own_res; rw [if_neg k0], N6, e6⟩ (by decide) (by decide)
theorem pf_12 : plainFor (⟨"com/example/maybe_set/maybeset/BucketTableFirstInvalidPairPinLaw", "law", "(IIIJJJ)Z"⟩ : MethodName) = true := by first | exact plainFor_of_name (by first | (simp [plainName, overriddenIn]; done) | decide +kernel) | decide +kernel
theorem pd_8 : parseMethodDescriptor "(JJJ)J" = some ⟨[.long, .long, .long], some .long⟩ := by decide +kernel
theorem pd_9 : parseMethodDescriptor "([JJIJ)V" = some ⟨[.array .long, .long, .int, .long], none⟩ := by decide +kernel
theorem pd_10 : parseMethodDescriptor "(JII[J)V" = some ⟨[.long, .int, .int, .array .long], none⟩ := by decide +kernel
theorem pd_11 : parseMethodDescriptor "()J" = some ⟨[], some .long⟩ := by decide +kernel
theorem ef_0_rm0 (m : MethodId) (p1 : Int32) (p2 : Int32) (p3 : Int32) (q1 : Int64) (q2 : Int64) (q3 : Int64)  : entryFrame m #[(.int p1), (.int p2), (.int p3), (.long q1), (.long q2), (.long q3)] maxLocals = mkF m 0 #[.val (.int p1), .val (.int p2), .val (.int p3), .val (.long q1), .second, .val (.long q2), .second, .val (.long q3), .second, .unset, .unset, .unset, .unset, .unset, .unset, .unset, .unset, .unset, .unset, .unset, .unset, .unset, .unset, .unset, .unset, .unset, .unset, .unset, .unset, .unset, .unset, .unset] [] := by first | (simp [entryFrame, mkF, argsToLocals, Value.category, maxLocals]; done) | rfl
def Q_rm0 (Z : State) (p1 : Int32) (p2 : Int32) (p3 : Int32) (q1 : Int64) (q2 : Int64) (q3 : Int64) (h0 : Heap) (n0 : Nat) (v : Option Value) (h : Heap) (L : List Loc) : Prop := v = some (.int 1) ∧ Fr n0 L
set_option maxRecDepth 65536 in
set_option maxHeartbeats 40000000 in
theorem rm0 (l : Launch) (Z : State) (a0 : Array Value) (hw : ∀ d ∈ tables_1, d.before a0 Z = true) (ws : List Jvm.Cond) (p1 : Int32) (p2 : Int32) (p3 : Int32) (q1 : Int64) (q2 : Int64) (q3 : Int64) (h0 : Heap) (n0 : Nat) (Z0 : n0 ≤ h0.size)  :
    OwnMet l Z x code maxLocals ret ws room_1 #[(.int p1), (.int p2), (.int p3), (.long q1), (.long q2), (.long q3)] h0 (Q_rm0 Z p1 p2 p3 q1 q2 q3 h0 n0) := by
  refine own_body pf_12 ?_
  intro p e s m below meth c s₁ hx hby hml hown hnm hret hlk hZ X0 e0
  have N0 := Fr.nil n0
  refine own_cast (ef_0_rm0 m p1 p2 p3 q1 q2 q3 ) ?_
  refine g_sipush X0 hx 3 rfl (128 : Int32) rfl (hb hby at_0) ?_
  refine g_iload_n X0 hx 4 rfl (hb hby at_3) rfl ?_
  refine g_ldcI X0 hx 6 rfl hown hZ (hw _ (List.mem_of_getElem? (i := 0) rfl)) (hb hby at_4) ?_
  refine g_iand X0 hx 7 rfl (hb hby at_6) ?_
  refine g_sipush X0 hx 10 rfl (347 : Int32) rfl (hb hby at_7) ?_
  refine g_irem X0 hx 11 rfl (hb hby at_10) (by decide) ?_
  obtain ⟨h9, e_h9, l_h9⟩ := own_rem p1 (347 : Int32) 347 rfl (by decide)
  rw [e_h9]
  refine g_iadd X0 hx 12 rfl (hb hby at_11) ?_
  have e_hn : (128 : Int32) + Int32.ofNat h9 = Int32.ofNat (128 + h9) := own_addI 128 h9 (by omega)
  rw [e_hn]
  obtain ⟨hn, e_n, l1, l2⟩ : ∃ hn, 128 + h9 = hn ∧ 128 ≤ hn ∧ hn < 475 := ⟨_, rfl, by omega, by omega⟩
  rw [e_n]
  refine g_istore X0 hx 14 rfl (hb hby at_12) #[.val (.int p1), .val (.int p2), .val (.int p3), .val (.long q1), .second, .val (.long q2), .second, .val (.long q3), .second, .val (.int (Int32.ofNat hn)), .unset, .unset, .unset, .unset, .unset, .unset, .unset, .unset, .unset, .unset, .unset, .unset, .unset, .unset, .unset, .unset, .unset, .unset, .unset, .unset, .unset, .unset] rfl ?_
  refine g_iload_n X0 hx 15 rfl (hb hby at_14) rfl ?_
  refine g_ldcI X0 hx 17 rfl hown hZ (hw _ (List.mem_of_getElem? (i := 0) rfl)) (hb hby at_15) ?_
  refine g_iand X0 hx 18 rfl (hb hby at_17) ?_
  refine g_bipush X0 hx 20 rfl (55 : Int32) rfl (hb hby at_18) ?_
  refine g_irem X0 hx 21 rfl (hb hby at_20) (by decide) ?_
  obtain ⟨ln, e_ln, l_ln⟩ := own_rem p2 (55 : Int32) 55 rfl (by decide)
  rw [e_ln]
  refine g_istore X0 hx 23 rfl (hb hby at_21) #[.val (.int p1), .val (.int p2), .val (.int p3), .val (.long q1), .second, .val (.long q2), .second, .val (.long q3), .second, .val (.int (Int32.ofNat hn)), .val (.int (Int32.ofNat ln)), .unset, .unset, .unset, .unset, .unset, .unset, .unset, .unset, .unset, .unset, .unset, .unset, .unset, .unset, .unset, .unset, .unset, .unset, .unset, .unset, .unset] rfl ?_
  refine g_iconst X0 hx 24 rfl (1 : Int32) rfl (hb hby at_23) ?_
  refine g_iload_n X0 hx 25 rfl (hb hby at_24) rfl ?_
  refine g_ldcI X0 hx 27 rfl hown hZ (hw _ (List.mem_of_getElem? (i := 0) rfl)) (hb hby at_25) ?_
  refine g_iand X0 hx 28 rfl (hb hby at_27) ?_
  refine g_iconst X0 hx 29 rfl (3 : Int32) rfl (hb hby at_28) ?_
  refine g_irem X0 hx 30 rfl (hb hby at_29) (by decide) ?_
  obtain ⟨p9, e_p9, l_p9⟩ := own_rem p3 (3 : Int32) 3 rfl (by decide)
  rw [e_p9]
  refine g_iadd X0 hx 31 rfl (hb hby at_30) ?_
  have e_pn : (1 : Int32) + Int32.ofNat p9 = Int32.ofNat (1 + p9) := own_addI 1 p9 (by omega)
  rw [e_pn]
  obtain ⟨pn, e_q, l3, l4⟩ : ∃ pn, 1 + p9 = pn ∧ 1 ≤ pn ∧ pn ≤ 3 := ⟨_, rfl, by omega, by omega⟩
  rw [e_q]
  refine g_istore X0 hx 33 rfl (hb hby at_31) #[.val (.int p1), .val (.int p2), .val (.int p3), .val (.long q1), .second, .val (.long q2), .second, .val (.long q3), .second, .val (.int (Int32.ofNat hn)), .val (.int (Int32.ofNat ln)), .val (.int (Int32.ofNat pn)), .unset, .unset, .unset, .unset, .unset, .unset, .unset, .unset, .unset, .unset, .unset, .unset, .unset, .unset, .unset, .unset, .unset, .unset, .unset, .unset] rfl ?_
  refine g_iload X0 hx 35 rfl (hb hby at_33) rfl ?_
  refine g_i2l X0 hx 36 rfl (hb hby at_35) ?_
  refine g_ldcJ X0 hx 39 rfl hown hZ (hw _ (List.mem_of_getElem? (i := 1) rfl)) (hb hby at_36) ?_
  refine g_ladd X0 hx 40 rfl (hb hby at_39) ?_
  refine g_lstore X0 hx 42 rfl (hb hby at_40) #[.val (.int p1), .val (.int p2), .val (.int p3), .val (.long q1), .second, .val (.long q2), .second, .val (.long q3), .second, .val (.int (Int32.ofNat hn)), .val (.int (Int32.ofNat ln)), .val (.int (Int32.ofNat pn)), .val (.long (((Int32.ofNat hn).toInt64) + (3 : Int64))), .second, .unset, .unset, .unset, .unset, .unset, .unset, .unset, .unset, .unset, .unset, .unset, .unset, .unset, .unset, .unset, .unset, .unset, .unset] rfl ?_
  refine g_lload X0 hx 44 rfl (hb hby at_42) rfl ?_
  refine g_lload X0 hx 46 rfl (hb hby at_44) rfl ?_
  refine g_lconst X0 hx 47 rfl (1 : Int64) rfl (hb hby at_46) ?_
  refine g_lsub X0 hx 48 rfl (hb hby at_47) ?_
  refine g_lmul X0 hx 49 rfl (hb hby at_48) ?_
  refine g_lload X0 hx 51 rfl (hb hby at_49) rfl ?_
  refine g_ldcJ X0 hx 54 rfl hown hZ (hw _ (List.mem_of_getElem? (i := 2) rfl)) (hb hby at_51) ?_
  refine g_lsub X0 hx 55 rfl (hb hby at_54) ?_
  refine g_lmul X0 hx 56 rfl (hb hby at_55) ?_
  refine g_lload X0 hx 58 rfl (hb hby at_56) rfl ?_
  refine g_ldcJ X0 hx 61 rfl hown hZ (hw _ (List.mem_of_getElem? (i := 1) rfl)) (hb hby at_58) ?_
  refine g_lsub X0 hx 62 rfl (hb hby at_61) ?_
  refine g_lmul X0 hx 63 rfl (hb hby at_62) ?_
  refine g_ldcJ X0 hx 66 rfl hown hZ (hw _ (List.mem_of_getElem? (i := 3) rfl)) (hb hby at_63) ?_
  refine g_ldiv X0 hx 67 rfl (hb hby at_66) (by decide) ?_
  show Goes p e below (s₁.setTop (mkF m 67 #[.val (.int p1), .val (.int p2), .val (.int p3), .val (.long q1), .second, .val (.long q2), .second, .val (.long q3), .second, .val (.int (Int32.ofNat hn)), .val (.int (Int32.ofNat ln)), .val (.int (Int32.ofNat pn)), .val (.long (((Int32.ofNat hn).toInt64) + (3 : Int64))), .second, .unset, .unset, .unset, .unset, .unset, .unset, .unset, .unset, .unset, .unset, .unset, .unset, .unset, .unset, .unset, .unset, .unset, .unset] [.long (own_ch ((Int32.ofNat hn).toInt64 + (3 : Int64)))])) _
  refine g_lstore X0 hx 69 rfl (hb hby at_67) #[.val (.int p1), .val (.int p2), .val (.int p3), .val (.long q1), .second, .val (.long q2), .second, .val (.long q3), .second, .val (.int (Int32.ofNat hn)), .val (.int (Int32.ofNat ln)), .val (.int (Int32.ofNat pn)), .val (.long (((Int32.ofNat hn).toInt64) + (3 : Int64))), .second, .val (.long (own_ch ((Int32.ofNat hn).toInt64 + (3 : Int64)))), .second, .unset, .unset, .unset, .unset, .unset, .unset, .unset, .unset, .unset, .unset, .unset, .unset, .unset, .unset, .unset, .unset] rfl ?_
  refine g_lload X0 hx 71 rfl (hb hby at_69) rfl ?_
  refine g_lload X0 hx 73 rfl (hb hby at_71) rfl ?_
  refine g_lmul X0 hx 74 rfl (hb hby at_73) ?_
  refine g_lstore X0 hx 76 rfl (hb hby at_74) #[.val (.int p1), .val (.int p2), .val (.int p3), .val (.long q1), .second, .val (.long q2), .second, .val (.long q3), .second, .val (.int (Int32.ofNat hn)), .val (.int (Int32.ofNat ln)), .val (.int (Int32.ofNat pn)), .val (.long (((Int32.ofNat hn).toInt64) + (3 : Int64))), .second, .val (.long (own_ch ((Int32.ofNat hn).toInt64 + (3 : Int64)))), .second, .val (.long ((own_ch ((Int32.ofNat hn).toInt64 + (3 : Int64))) * (own_ch ((Int32.ofNat hn).toInt64 + (3 : Int64))))), .second, .unset, .unset, .unset, .unset, .unset, .unset, .unset, .unset, .unset, .unset, .unset, .unset, .unset, .unset] rfl ?_
  refine g_iload X0 hx 78 rfl (hb hby at_76) rfl ?_
  refine g_callS X0 hx hZ 81 rfl (y := (⟨"com/example/maybe_set/maybeset/BucketTable", "rankBits", "(I)I"⟩ : MethodName)) hown (hw _ (List.mem_of_getElem? (i := 4) rfl)) (hw _ (List.mem_of_getElem? (i := 5) rfl)) (hw _ (List.mem_of_getElem? (i := 6) rfl)) (hw _ (List.mem_of_getElem? (i := 7) rfl)) (by decide) [.int (Int32.ofNat hn)] [] (rmRB l Z a0 hw [] (Int32.ofNat hn) h0 n0 Z0 ) e0 (lenOf pd_0 rfl) rfl (by rw [hml]; rfl) (hb hby at_78) (by decide) 0 (Nat.le_of_eq rfl) (by decide) (by decide) (by decide) ?_
  rintro _ T1 L1 X1 ⟨rfl, N1q, e1⟩
  have N1 := Fr.app N0 N1q
  show Goes p e below (T1.setTop (mkF m 81 #[.val (.int p1), .val (.int p2), .val (.int p3), .val (.long q1), .second, .val (.long q2), .second, .val (.long q3), .second, .val (.int (Int32.ofNat hn)), .val (.int (Int32.ofNat ln)), .val (.int (Int32.ofNat pn)), .val (.long (((Int32.ofNat hn).toInt64) + (3 : Int64))), .second, .val (.long (own_ch ((Int32.ofNat hn).toInt64 + (3 : Int64)))), .second, .val (.long ((own_ch ((Int32.ofNat hn).toInt64 + (3 : Int64))) * (own_ch ((Int32.ofNat hn).toInt64 + (3 : Int64))))), .second, .unset, .unset, .unset, .unset, .unset, .unset, .unset, .unset, .unset, .unset, .unset, .unset, .unset, .unset] [.int (own_rkb (Int32.ofNat hn))])) _
  obtain ⟨k, e_k, k1, k2, g1, g2, g3⟩ := own_rank hn l1 l2
  have hP := own_two k k2
  refine g_istore X1 hx 83 rfl (hb hby at_81) #[.val (.int p1), .val (.int p2), .val (.int p3), .val (.long q1), .second, .val (.long q2), .second, .val (.long q3), .second, .val (.int (Int32.ofNat hn)), .val (.int (Int32.ofNat ln)), .val (.int (Int32.ofNat pn)), .val (.long (((Int32.ofNat hn).toInt64) + (3 : Int64))), .second, .val (.long (own_ch ((Int32.ofNat hn).toInt64 + (3 : Int64)))), .second, .val (.long ((own_ch ((Int32.ofNat hn).toInt64 + (3 : Int64))) * (own_ch ((Int32.ofNat hn).toInt64 + (3 : Int64))))), .second, .val (.int (own_rkb (Int32.ofNat hn))), .unset, .unset, .unset, .unset, .unset, .unset, .unset, .unset, .unset, .unset, .unset, .unset, .unset] rfl ?_
  refine g_iload X1 hx 85 rfl (hb hby at_83) rfl ?_
  refine g_iload X1 hx 87 rfl (hb hby at_85) rfl ?_
  refine g_callS X1 hx hZ 90 rfl (y := (⟨"com/example/maybe_set/maybeset/BucketTable", "pairBits", "(II)I"⟩ : MethodName)) hown (hw _ (List.mem_of_getElem? (i := 23) rfl)) (hw _ (List.mem_of_getElem? (i := 24) rfl)) (hw _ (List.mem_of_getElem? (i := 6) rfl)) (hw _ (List.mem_of_getElem? (i := 25) rfl)) (by decide) [.int (Int32.ofNat hn), .int (Int32.ofNat ln)] [] (rmPB l Z a0 hw [] (Int32.ofNat hn) (Int32.ofNat ln) h0 n0 Z0 ) e1 (lenOf pd_6 rfl) rfl (by rw [hml]; rfl) (hb hby at_87) (by decide) 0 (Nat.le_of_eq rfl) (by decide) (by decide) (by decide) ?_
  rintro _ T2 L2 X2 ⟨rfl, N2q, e2⟩
  have N2 := Fr.app N1 N2q
  show Goes p e below (T2.setTop (mkF m 90 #[.val (.int p1), .val (.int p2), .val (.int p3), .val (.long q1), .second, .val (.long q2), .second, .val (.long q3), .second, .val (.int (Int32.ofNat hn)), .val (.int (Int32.ofNat ln)), .val (.int (Int32.ofNat pn)), .val (.long (((Int32.ofNat hn).toInt64) + (3 : Int64))), .second, .val (.long (own_ch ((Int32.ofNat hn).toInt64 + (3 : Int64)))), .second, .val (.long ((own_ch ((Int32.ofNat hn).toInt64 + (3 : Int64))) * (own_ch ((Int32.ofNat hn).toInt64 + (3 : Int64))))), .second, .val (.int (own_rkb (Int32.ofNat hn))), .unset, .unset, .unset, .unset, .unset, .unset, .unset, .unset, .unset, .unset, .unset, .unset, .unset] [.int (own_rkb (Int32.ofNat hn) + (8 : Int32) * Int32.ofNat ln)])) _
  rw [e_k, own_pb k ln k2 l_ln]
  obtain ⟨pb, e_pb, l5, l6⟩ : ∃ pb, k + 8 * ln = pb ∧ k ≤ pb ∧ pb < 600 := ⟨_, rfl, by omega, by omega⟩
  rw [e_pb]
  refine g_istore X2 hx 92 rfl (hb hby at_90) #[.val (.int p1), .val (.int p2), .val (.int p3), .val (.long q1), .second, .val (.long q2), .second, .val (.long q3), .second, .val (.int (Int32.ofNat hn)), .val (.int (Int32.ofNat ln)), .val (.int (Int32.ofNat pn)), .val (.long (((Int32.ofNat hn).toInt64) + (3 : Int64))), .second, .val (.long (own_ch ((Int32.ofNat hn).toInt64 + (3 : Int64)))), .second, .val (.long ((own_ch ((Int32.ofNat hn).toInt64 + (3 : Int64))) * (own_ch ((Int32.ofNat hn).toInt64 + (3 : Int64))))), .second, .val (.int (Int32.ofNat k)), .val (.int (Int32.ofNat pb)), .unset, .unset, .unset, .unset, .unset, .unset, .unset, .unset, .unset, .unset, .unset, .unset] rfl ?_
  refine g_lconst X2 hx 93 rfl (1 : Int64) rfl (hb hby at_92) ?_
  refine g_iload X2 hx 95 rfl (hb hby at_93) rfl ?_
  refine g_lshl X2 hx 96 rfl (hb hby at_95) ?_
  refine g_lconst X2 hx 97 rfl (1 : Int64) rfl (hb hby at_96) ?_
  refine g_lsub X2 hx 98 rfl (hb hby at_97) ?_
  show Goes p e below (T2.setTop (mkF m 98 #[.val (.int p1), .val (.int p2), .val (.int p3), .val (.long q1), .second, .val (.long q2), .second, .val (.long q3), .second, .val (.int (Int32.ofNat hn)), .val (.int (Int32.ofNat ln)), .val (.int (Int32.ofNat pn)), .val (.long (((Int32.ofNat hn).toInt64) + (3 : Int64))), .second, .val (.long (own_ch ((Int32.ofNat hn).toInt64 + (3 : Int64)))), .second, .val (.long ((own_ch ((Int32.ofNat hn).toInt64 + (3 : Int64))) * (own_ch ((Int32.ofNat hn).toInt64 + (3 : Int64))))), .second, .val (.int (Int32.ofNat k)), .val (.int (Int32.ofNat pb)), .unset, .unset, .unset, .unset, .unset, .unset, .unset, .unset, .unset, .unset, .unset, .unset] [.long (own_mk k)])) _
  have htop := own_mk_int ⟨k, by omega⟩
  refine g_lstore X2 hx 100 rfl (hb hby at_98) #[.val (.int p1), .val (.int p2), .val (.int p3), .val (.long q1), .second, .val (.long q2), .second, .val (.long q3), .second, .val (.int (Int32.ofNat hn)), .val (.int (Int32.ofNat ln)), .val (.int (Int32.ofNat pn)), .val (.long (((Int32.ofNat hn).toInt64) + (3 : Int64))), .second, .val (.long (own_ch ((Int32.ofNat hn).toInt64 + (3 : Int64)))), .second, .val (.long ((own_ch ((Int32.ofNat hn).toInt64 + (3 : Int64))) * (own_ch ((Int32.ofNat hn).toInt64 + (3 : Int64))))), .second, .val (.int (Int32.ofNat k)), .val (.int (Int32.ofNat pb)), .val (.long (own_mk k)), .second, .unset, .unset, .unset, .unset, .unset, .unset, .unset, .unset, .unset, .unset] rfl ?_
  refine g_lload_n X2 hx 101 rfl (hb hby at_100) rfl ?_
  refine g_lload X2 hx 103 rfl (hb hby at_101) rfl ?_
  refine g_lload X2 hx 105 rfl (hb hby at_103) rfl ?_
  refine g_callS X2 hx hZ 108 rfl (y := (⟨"com/example/maybe_set/maybeset/BucketTableFirstInvalidPairPinLaw", "value", "(JJJ)J"⟩ : MethodName)) hown (hw _ (List.mem_of_getElem? (i := 27) rfl)) (hw _ (List.mem_of_getElem? (i := 28) rfl)) (hw _ (List.mem_of_getElem? (i := 29) rfl)) (hw _ (List.mem_of_getElem? (i := 30) rfl)) (by decide) [.long q1, .long ((own_ch ((Int32.ofNat hn).toInt64 + (3 : Int64))) * (own_ch ((Int32.ofNat hn).toInt64 + (3 : Int64)))), .long (own_mk k)] [] (rmV l Z a0 hw [] q1 (own_ch ((Int32.ofNat hn).toInt64 + (3 : Int64)) * own_ch ((Int32.ofNat hn).toInt64 + (3 : Int64))) (own_mk k) ((2 : Int) ^ k) h0 n0 Z0 g2 g3 hP htop) e2 (lenOf pd_8 rfl) rfl (by rw [hml]; rfl) (hb hby at_105) (by decide) 0 (Nat.le_of_eq rfl) (by decide) (by decide) (by decide) ?_
  rintro _ T3 L3 X3 ⟨v0, rfl, N3q, e3, la0, lb0⟩
  have N3 := Fr.app N2 N3q
  show Goes p e below (T3.setTop (mkF m 108 #[.val (.int p1), .val (.int p2), .val (.int p3), .val (.long q1), .second, .val (.long q2), .second, .val (.long q3), .second, .val (.int (Int32.ofNat hn)), .val (.int (Int32.ofNat ln)), .val (.int (Int32.ofNat pn)), .val (.long (((Int32.ofNat hn).toInt64) + (3 : Int64))), .second, .val (.long (own_ch ((Int32.ofNat hn).toInt64 + (3 : Int64)))), .second, .val (.long ((own_ch ((Int32.ofNat hn).toInt64 + (3 : Int64))) * (own_ch ((Int32.ofNat hn).toInt64 + (3 : Int64))))), .second, .val (.int (Int32.ofNat k)), .val (.int (Int32.ofNat pb)), .val (.long (own_mk k)), .second, .unset, .unset, .unset, .unset, .unset, .unset, .unset, .unset, .unset, .unset] [.long v0])) _
  have hv0 := own_hi v0 k la0 lb0
  refine g_lstore X3 hx 110 rfl (hb hby at_108) #[.val (.int p1), .val (.int p2), .val (.int p3), .val (.long q1), .second, .val (.long q2), .second, .val (.long q3), .second, .val (.int (Int32.ofNat hn)), .val (.int (Int32.ofNat ln)), .val (.int (Int32.ofNat pn)), .val (.long (((Int32.ofNat hn).toInt64) + (3 : Int64))), .second, .val (.long (own_ch ((Int32.ofNat hn).toInt64 + (3 : Int64)))), .second, .val (.long ((own_ch ((Int32.ofNat hn).toInt64 + (3 : Int64))) * (own_ch ((Int32.ofNat hn).toInt64 + (3 : Int64))))), .second, .val (.int (Int32.ofNat k)), .val (.int (Int32.ofNat pb)), .val (.long (own_mk k)), .second, .val (.long v0), .second, .unset, .unset, .unset, .unset, .unset, .unset, .unset, .unset] rfl ?_
  refine g_lload X3 hx 112 rfl (hb hby at_110) rfl ?_
  refine g_lload X3 hx 114 rfl (hb hby at_112) rfl ?_
  refine g_lload X3 hx 116 rfl (hb hby at_114) rfl ?_
  refine g_callS X3 hx hZ 119 rfl (y := (⟨"com/example/maybe_set/maybeset/BucketTableFirstInvalidPairPinLaw", "value", "(JJJ)J"⟩ : MethodName)) hown (hw _ (List.mem_of_getElem? (i := 27) rfl)) (hw _ (List.mem_of_getElem? (i := 28) rfl)) (hw _ (List.mem_of_getElem? (i := 29) rfl)) (hw _ (List.mem_of_getElem? (i := 30) rfl)) (by decide) [.long q2, .long ((own_ch ((Int32.ofNat hn).toInt64 + (3 : Int64))) * (own_ch ((Int32.ofNat hn).toInt64 + (3 : Int64)))), .long (own_mk k)] [] (rmV l Z a0 hw [] q2 (own_ch ((Int32.ofNat hn).toInt64 + (3 : Int64)) * own_ch ((Int32.ofNat hn).toInt64 + (3 : Int64))) (own_mk k) ((2 : Int) ^ k) h0 n0 Z0 g2 g3 hP htop) e3 (lenOf pd_8 rfl) rfl (by rw [hml]; rfl) (hb hby at_116) (by decide) 0 (Nat.le_of_eq rfl) (by decide) (by decide) (by decide) ?_
  rintro _ T4 L4 X4 ⟨v1, rfl, N4q, e4, la1, lb1⟩
  have N4 := Fr.app N3 N4q
  show Goes p e below (T4.setTop (mkF m 119 #[.val (.int p1), .val (.int p2), .val (.int p3), .val (.long q1), .second, .val (.long q2), .second, .val (.long q3), .second, .val (.int (Int32.ofNat hn)), .val (.int (Int32.ofNat ln)), .val (.int (Int32.ofNat pn)), .val (.long (((Int32.ofNat hn).toInt64) + (3 : Int64))), .second, .val (.long (own_ch ((Int32.ofNat hn).toInt64 + (3 : Int64)))), .second, .val (.long ((own_ch ((Int32.ofNat hn).toInt64 + (3 : Int64))) * (own_ch ((Int32.ofNat hn).toInt64 + (3 : Int64))))), .second, .val (.int (Int32.ofNat k)), .val (.int (Int32.ofNat pb)), .val (.long (own_mk k)), .second, .val (.long v0), .second, .unset, .unset, .unset, .unset, .unset, .unset, .unset, .unset] [.long v1])) _
  have hv1 := own_hi v1 k la1 lb1
  refine g_lstore X4 hx 121 rfl (hb hby at_119) #[.val (.int p1), .val (.int p2), .val (.int p3), .val (.long q1), .second, .val (.long q2), .second, .val (.long q3), .second, .val (.int (Int32.ofNat hn)), .val (.int (Int32.ofNat ln)), .val (.int (Int32.ofNat pn)), .val (.long (((Int32.ofNat hn).toInt64) + (3 : Int64))), .second, .val (.long (own_ch ((Int32.ofNat hn).toInt64 + (3 : Int64)))), .second, .val (.long ((own_ch ((Int32.ofNat hn).toInt64 + (3 : Int64))) * (own_ch ((Int32.ofNat hn).toInt64 + (3 : Int64))))), .second, .val (.int (Int32.ofNat k)), .val (.int (Int32.ofNat pb)), .val (.long (own_mk k)), .second, .val (.long v0), .second, .val (.long v1), .second, .unset, .unset, .unset, .unset, .unset, .unset] rfl ?_
  refine g_lload X4 hx 123 rfl (hb hby at_121) rfl ?_
  refine g_lload X4 hx 125 rfl (hb hby at_123) rfl ?_
  refine g_lload X4 hx 127 rfl (hb hby at_125) rfl ?_
  refine g_callS X4 hx hZ 130 rfl (y := (⟨"com/example/maybe_set/maybeset/BucketTableFirstInvalidPairPinLaw", "value", "(JJJ)J"⟩ : MethodName)) hown (hw _ (List.mem_of_getElem? (i := 27) rfl)) (hw _ (List.mem_of_getElem? (i := 28) rfl)) (hw _ (List.mem_of_getElem? (i := 29) rfl)) (hw _ (List.mem_of_getElem? (i := 30) rfl)) (by decide) [.long q3, .long ((own_ch ((Int32.ofNat hn).toInt64 + (3 : Int64))) * (own_ch ((Int32.ofNat hn).toInt64 + (3 : Int64)))), .long (own_mk k)] [] (rmV l Z a0 hw [] q3 (own_ch ((Int32.ofNat hn).toInt64 + (3 : Int64)) * own_ch ((Int32.ofNat hn).toInt64 + (3 : Int64))) (own_mk k) ((2 : Int) ^ k) h0 n0 Z0 g2 g3 hP htop) e4 (lenOf pd_8 rfl) rfl (by rw [hml]; rfl) (hb hby at_127) (by decide) 0 (Nat.le_of_eq rfl) (by decide) (by decide) (by decide) ?_
  rintro _ T5 L5 X5 ⟨v2, rfl, N5q, e5, la2, lb2⟩
  have N5 := Fr.app N4 N5q
  show Goes p e below (T5.setTop (mkF m 130 #[.val (.int p1), .val (.int p2), .val (.int p3), .val (.long q1), .second, .val (.long q2), .second, .val (.long q3), .second, .val (.int (Int32.ofNat hn)), .val (.int (Int32.ofNat ln)), .val (.int (Int32.ofNat pn)), .val (.long (((Int32.ofNat hn).toInt64) + (3 : Int64))), .second, .val (.long (own_ch ((Int32.ofNat hn).toInt64 + (3 : Int64)))), .second, .val (.long ((own_ch ((Int32.ofNat hn).toInt64 + (3 : Int64))) * (own_ch ((Int32.ofNat hn).toInt64 + (3 : Int64))))), .second, .val (.int (Int32.ofNat k)), .val (.int (Int32.ofNat pb)), .val (.long (own_mk k)), .second, .val (.long v0), .second, .val (.long v1), .second, .unset, .unset, .unset, .unset, .unset, .unset] [.long v2])) _
  have hv2 := own_hi v2 k la2 lb2
  refine g_lstore X5 hx 132 rfl (hb hby at_130) #[.val (.int p1), .val (.int p2), .val (.int p3), .val (.long q1), .second, .val (.long q2), .second, .val (.long q3), .second, .val (.int (Int32.ofNat hn)), .val (.int (Int32.ofNat ln)), .val (.int (Int32.ofNat pn)), .val (.long (((Int32.ofNat hn).toInt64) + (3 : Int64))), .second, .val (.long (own_ch ((Int32.ofNat hn).toInt64 + (3 : Int64)))), .second, .val (.long ((own_ch ((Int32.ofNat hn).toInt64 + (3 : Int64))) * (own_ch ((Int32.ofNat hn).toInt64 + (3 : Int64))))), .second, .val (.int (Int32.ofNat k)), .val (.int (Int32.ofNat pb)), .val (.long (own_mk k)), .second, .val (.long v0), .second, .val (.long v1), .second, .val (.long v2), .second, .unset, .unset, .unset, .unset] rfl ?_
  refine g_bipush X5 hx 134 rfl (24 : Int32) rfl (hb hby at_132) ?_
  refine g_newarr X5 hx hZ 136 rfl (hw _ (List.mem_of_getElem? (i := 31) rfl)) e5 (hb hby at_134) 24 rfl 24 (Nat.le_refl _) (by decide) (by decide) (by decide) "[J" (by decide) ?_
  intro T6 h6 o6 g6 X6 e6 E6 A6 Ex6
  have ge_o6 : n0 ≤ o6 := Nat.le_trans Z0 (Nat.le_of_eq g6.symm)
  have Al6 : Al Z h6 o6 .long [.long (0 : Int64), .long (0 : Int64), .long (0 : Int64), .long (0 : Int64), .long (0 : Int64), .long (0 : Int64), .long (0 : Int64), .long (0 : Int64), .long (0 : Int64), .long (0 : Int64), .long (0 : Int64), .long (0 : Int64), .long (0 : Int64), .long (0 : Int64), .long (0 : Int64), .long (0 : Int64), .long (0 : Int64), .long (0 : Int64), .long (0 : Int64), .long (0 : Int64), .long (0 : Int64), .long (0 : Int64), .long (0 : Int64), .long (0 : Int64)] := A6
  refine g_dup X6 hx 137 rfl (hb hby at_136) rfl ?_
  refine g_iconst X6 hx 138 rfl (0 : Int32) rfl (hb hby at_137) ?_
  refine g_ldcJ X6 hx 141 rfl hown hZ (hw _ (List.mem_of_getElem? (i := 32) rfl)) (hb hby at_138) ?_
  refine g_lastore X6 hx hZ 142 rfl (hb hby at_141) e6 Al6 0 rfl (show 0 < 24 by decide) ?_
  intro T7 h7 X7 e7 W7 B7
  have N7 := Fr.snoc X7 N5 ge_o6
  have Al7 : Al Z h7 o6 .long [.long (-1 : Int64), .long (0 : Int64), .long (0 : Int64), .long (0 : Int64), .long (0 : Int64), .long (0 : Int64), .long (0 : Int64), .long (0 : Int64), .long (0 : Int64), .long (0 : Int64), .long (0 : Int64), .long (0 : Int64), .long (0 : Int64), .long (0 : Int64), .long (0 : Int64), .long (0 : Int64), .long (0 : Int64), .long (0 : Int64), .long (0 : Int64), .long (0 : Int64), .long (0 : Int64), .long (0 : Int64), .long (0 : Int64), .long (0 : Int64)] := B7
  refine g_dup X7 hx 143 rfl (hb hby at_142) rfl ?_
  refine g_iconst X7 hx 144 rfl (1 : Int32) rfl (hb hby at_143) ?_
  refine g_ldcJ X7 hx 147 rfl hown hZ (hw _ (List.mem_of_getElem? (i := 32) rfl)) (hb hby at_144) ?_
  refine g_lastore X7 hx hZ 148 rfl (hb hby at_147) e7 Al7 1 rfl (show 1 < 24 by decide) ?_
  intro T8 h8 X8 e8 W8 B8
  have N8 := Fr.snoc X8 N7 ge_o6
  have Al8 : Al Z h8 o6 .long [.long (-1 : Int64), .long (-1 : Int64), .long (0 : Int64), .long (0 : Int64), .long (0 : Int64), .long (0 : Int64), .long (0 : Int64), .long (0 : Int64), .long (0 : Int64), .long (0 : Int64), .long (0 : Int64), .long (0 : Int64), .long (0 : Int64), .long (0 : Int64), .long (0 : Int64), .long (0 : Int64), .long (0 : Int64), .long (0 : Int64), .long (0 : Int64), .long (0 : Int64), .long (0 : Int64), .long (0 : Int64), .long (0 : Int64), .long (0 : Int64)] := B8
  refine g_dup X8 hx 149 rfl (hb hby at_148) rfl ?_
  refine g_iconst X8 hx 150 rfl (2 : Int32) rfl (hb hby at_149) ?_
  refine g_ldcJ X8 hx 153 rfl hown hZ (hw _ (List.mem_of_getElem? (i := 32) rfl)) (hb hby at_150) ?_
  refine g_lastore X8 hx hZ 154 rfl (hb hby at_153) e8 Al8 2 rfl (show 2 < 24 by decide) ?_
  intro T9 h9 X9 e9 W9 B9
  have N9 := Fr.snoc X9 N8 ge_o6
  have Al9 : Al Z h9 o6 .long [.long (-1 : Int64), .long (-1 : Int64), .long (-1 : Int64), .long (0 : Int64), .long (0 : Int64), .long (0 : Int64), .long (0 : Int64), .long (0 : Int64), .long (0 : Int64), .long (0 : Int64), .long (0 : Int64), .long (0 : Int64), .long (0 : Int64), .long (0 : Int64), .long (0 : Int64), .long (0 : Int64), .long (0 : Int64), .long (0 : Int64), .long (0 : Int64), .long (0 : Int64), .long (0 : Int64), .long (0 : Int64), .long (0 : Int64), .long (0 : Int64)] := B9
  refine g_dup X9 hx 155 rfl (hb hby at_154) rfl ?_
  refine g_iconst X9 hx 156 rfl (3 : Int32) rfl (hb hby at_155) ?_
  refine g_ldcJ X9 hx 159 rfl hown hZ (hw _ (List.mem_of_getElem? (i := 32) rfl)) (hb hby at_156) ?_
  refine g_lastore X9 hx hZ 160 rfl (hb hby at_159) e9 Al9 3 rfl (show 3 < 24 by decide) ?_
  intro T10 h10 X10 e10 W10 B10
  have N10 := Fr.snoc X10 N9 ge_o6
  have Al10 : Al Z h10 o6 .long [.long (-1 : Int64), .long (-1 : Int64), .long (-1 : Int64), .long (-1 : Int64), .long (0 : Int64), .long (0 : Int64), .long (0 : Int64), .long (0 : Int64), .long (0 : Int64), .long (0 : Int64), .long (0 : Int64), .long (0 : Int64), .long (0 : Int64), .long (0 : Int64), .long (0 : Int64), .long (0 : Int64), .long (0 : Int64), .long (0 : Int64), .long (0 : Int64), .long (0 : Int64), .long (0 : Int64), .long (0 : Int64), .long (0 : Int64), .long (0 : Int64)] := B10
  refine g_dup X10 hx 161 rfl (hb hby at_160) rfl ?_
  refine g_iconst X10 hx 162 rfl (4 : Int32) rfl (hb hby at_161) ?_
  refine g_ldcJ X10 hx 165 rfl hown hZ (hw _ (List.mem_of_getElem? (i := 32) rfl)) (hb hby at_162) ?_
  refine g_lastore X10 hx hZ 166 rfl (hb hby at_165) e10 Al10 4 rfl (show 4 < 24 by decide) ?_
  intro T11 h11 X11 e11 W11 B11
  have N11 := Fr.snoc X11 N10 ge_o6
  have Al11 : Al Z h11 o6 .long [.long (-1 : Int64), .long (-1 : Int64), .long (-1 : Int64), .long (-1 : Int64), .long (-1 : Int64), .long (0 : Int64), .long (0 : Int64), .long (0 : Int64), .long (0 : Int64), .long (0 : Int64), .long (0 : Int64), .long (0 : Int64), .long (0 : Int64), .long (0 : Int64), .long (0 : Int64), .long (0 : Int64), .long (0 : Int64), .long (0 : Int64), .long (0 : Int64), .long (0 : Int64), .long (0 : Int64), .long (0 : Int64), .long (0 : Int64), .long (0 : Int64)] := B11
  refine g_dup X11 hx 167 rfl (hb hby at_166) rfl ?_
  refine g_iconst X11 hx 168 rfl (5 : Int32) rfl (hb hby at_167) ?_
  refine g_ldcJ X11 hx 171 rfl hown hZ (hw _ (List.mem_of_getElem? (i := 32) rfl)) (hb hby at_168) ?_
  refine g_lastore X11 hx hZ 172 rfl (hb hby at_171) e11 Al11 5 rfl (show 5 < 24 by decide) ?_
  intro T12 h12 X12 e12 W12 B12
  have N12 := Fr.snoc X12 N11 ge_o6
  have Al12 : Al Z h12 o6 .long [.long (-1 : Int64), .long (-1 : Int64), .long (-1 : Int64), .long (-1 : Int64), .long (-1 : Int64), .long (-1 : Int64), .long (0 : Int64), .long (0 : Int64), .long (0 : Int64), .long (0 : Int64), .long (0 : Int64), .long (0 : Int64), .long (0 : Int64), .long (0 : Int64), .long (0 : Int64), .long (0 : Int64), .long (0 : Int64), .long (0 : Int64), .long (0 : Int64), .long (0 : Int64), .long (0 : Int64), .long (0 : Int64), .long (0 : Int64), .long (0 : Int64)] := B12
  refine g_dup X12 hx 173 rfl (hb hby at_172) rfl ?_
  refine g_bipush X12 hx 175 rfl (6 : Int32) rfl (hb hby at_173) ?_
  refine g_ldcJ X12 hx 178 rfl hown hZ (hw _ (List.mem_of_getElem? (i := 32) rfl)) (hb hby at_175) ?_
  refine g_lastore X12 hx hZ 179 rfl (hb hby at_178) e12 Al12 6 rfl (show 6 < 24 by decide) ?_
  intro T13 h13 X13 e13 W13 B13
  have N13 := Fr.snoc X13 N12 ge_o6
  have Al13 : Al Z h13 o6 .long [.long (-1 : Int64), .long (-1 : Int64), .long (-1 : Int64), .long (-1 : Int64), .long (-1 : Int64), .long (-1 : Int64), .long (-1 : Int64), .long (0 : Int64), .long (0 : Int64), .long (0 : Int64), .long (0 : Int64), .long (0 : Int64), .long (0 : Int64), .long (0 : Int64), .long (0 : Int64), .long (0 : Int64), .long (0 : Int64), .long (0 : Int64), .long (0 : Int64), .long (0 : Int64), .long (0 : Int64), .long (0 : Int64), .long (0 : Int64), .long (0 : Int64)] := B13
  refine g_dup X13 hx 180 rfl (hb hby at_179) rfl ?_
  refine g_bipush X13 hx 182 rfl (7 : Int32) rfl (hb hby at_180) ?_
  refine g_ldcJ X13 hx 185 rfl hown hZ (hw _ (List.mem_of_getElem? (i := 32) rfl)) (hb hby at_182) ?_
  refine g_lastore X13 hx hZ 186 rfl (hb hby at_185) e13 Al13 7 rfl (show 7 < 24 by decide) ?_
  intro T14 h14 X14 e14 W14 B14
  have N14 := Fr.snoc X14 N13 ge_o6
  have Al14 : Al Z h14 o6 .long [.long (-1 : Int64), .long (-1 : Int64), .long (-1 : Int64), .long (-1 : Int64), .long (-1 : Int64), .long (-1 : Int64), .long (-1 : Int64), .long (-1 : Int64), .long (0 : Int64), .long (0 : Int64), .long (0 : Int64), .long (0 : Int64), .long (0 : Int64), .long (0 : Int64), .long (0 : Int64), .long (0 : Int64), .long (0 : Int64), .long (0 : Int64), .long (0 : Int64), .long (0 : Int64), .long (0 : Int64), .long (0 : Int64), .long (0 : Int64), .long (0 : Int64)] := B14
  refine g_dup X14 hx 187 rfl (hb hby at_186) rfl ?_
  refine g_bipush X14 hx 189 rfl (8 : Int32) rfl (hb hby at_187) ?_
  refine g_ldcJ X14 hx 192 rfl hown hZ (hw _ (List.mem_of_getElem? (i := 32) rfl)) (hb hby at_189) ?_
  refine g_lastore X14 hx hZ 193 rfl (hb hby at_192) e14 Al14 8 rfl (show 8 < 24 by decide) ?_
  intro T15 h15 X15 e15 W15 B15
  have N15 := Fr.snoc X15 N14 ge_o6
  have Al15 : Al Z h15 o6 .long [.long (-1 : Int64), .long (-1 : Int64), .long (-1 : Int64), .long (-1 : Int64), .long (-1 : Int64), .long (-1 : Int64), .long (-1 : Int64), .long (-1 : Int64), .long (-1 : Int64), .long (0 : Int64), .long (0 : Int64), .long (0 : Int64), .long (0 : Int64), .long (0 : Int64), .long (0 : Int64), .long (0 : Int64), .long (0 : Int64), .long (0 : Int64), .long (0 : Int64), .long (0 : Int64), .long (0 : Int64), .long (0 : Int64), .long (0 : Int64), .long (0 : Int64)] := B15
  refine g_dup X15 hx 194 rfl (hb hby at_193) rfl ?_
  refine g_bipush X15 hx 196 rfl (9 : Int32) rfl (hb hby at_194) ?_
  refine g_ldcJ X15 hx 199 rfl hown hZ (hw _ (List.mem_of_getElem? (i := 32) rfl)) (hb hby at_196) ?_
  refine g_lastore X15 hx hZ 200 rfl (hb hby at_199) e15 Al15 9 rfl (show 9 < 24 by decide) ?_
  intro T16 h16 X16 e16 W16 B16
  have N16 := Fr.snoc X16 N15 ge_o6
  have Al16 : Al Z h16 o6 .long [.long (-1 : Int64), .long (-1 : Int64), .long (-1 : Int64), .long (-1 : Int64), .long (-1 : Int64), .long (-1 : Int64), .long (-1 : Int64), .long (-1 : Int64), .long (-1 : Int64), .long (-1 : Int64), .long (0 : Int64), .long (0 : Int64), .long (0 : Int64), .long (0 : Int64), .long (0 : Int64), .long (0 : Int64), .long (0 : Int64), .long (0 : Int64), .long (0 : Int64), .long (0 : Int64), .long (0 : Int64), .long (0 : Int64), .long (0 : Int64), .long (0 : Int64)] := B16
  refine g_dup X16 hx 201 rfl (hb hby at_200) rfl ?_
  refine g_bipush X16 hx 203 rfl (10 : Int32) rfl (hb hby at_201) ?_
  refine g_ldcJ X16 hx 206 rfl hown hZ (hw _ (List.mem_of_getElem? (i := 32) rfl)) (hb hby at_203) ?_
  refine g_lastore X16 hx hZ 207 rfl (hb hby at_206) e16 Al16 10 rfl (show 10 < 24 by decide) ?_
  intro T17 h17 X17 e17 W17 B17
  have N17 := Fr.snoc X17 N16 ge_o6
  have Al17 : Al Z h17 o6 .long [.long (-1 : Int64), .long (-1 : Int64), .long (-1 : Int64), .long (-1 : Int64), .long (-1 : Int64), .long (-1 : Int64), .long (-1 : Int64), .long (-1 : Int64), .long (-1 : Int64), .long (-1 : Int64), .long (-1 : Int64), .long (0 : Int64), .long (0 : Int64), .long (0 : Int64), .long (0 : Int64), .long (0 : Int64), .long (0 : Int64), .long (0 : Int64), .long (0 : Int64), .long (0 : Int64), .long (0 : Int64), .long (0 : Int64), .long (0 : Int64), .long (0 : Int64)] := B17
  refine g_dup X17 hx 208 rfl (hb hby at_207) rfl ?_
  refine g_bipush X17 hx 210 rfl (11 : Int32) rfl (hb hby at_208) ?_
  refine g_ldcJ X17 hx 213 rfl hown hZ (hw _ (List.mem_of_getElem? (i := 32) rfl)) (hb hby at_210) ?_
  refine g_lastore X17 hx hZ 214 rfl (hb hby at_213) e17 Al17 11 rfl (show 11 < 24 by decide) ?_
  intro T18 h18 X18 e18 W18 B18
  have N18 := Fr.snoc X18 N17 ge_o6
  have Al18 : Al Z h18 o6 .long [.long (-1 : Int64), .long (-1 : Int64), .long (-1 : Int64), .long (-1 : Int64), .long (-1 : Int64), .long (-1 : Int64), .long (-1 : Int64), .long (-1 : Int64), .long (-1 : Int64), .long (-1 : Int64), .long (-1 : Int64), .long (-1 : Int64), .long (0 : Int64), .long (0 : Int64), .long (0 : Int64), .long (0 : Int64), .long (0 : Int64), .long (0 : Int64), .long (0 : Int64), .long (0 : Int64), .long (0 : Int64), .long (0 : Int64), .long (0 : Int64), .long (0 : Int64)] := B18
  refine g_dup X18 hx 215 rfl (hb hby at_214) rfl ?_
  refine g_bipush X18 hx 217 rfl (12 : Int32) rfl (hb hby at_215) ?_
  refine g_ldcJ X18 hx 220 rfl hown hZ (hw _ (List.mem_of_getElem? (i := 32) rfl)) (hb hby at_217) ?_
  refine g_lastore X18 hx hZ 221 rfl (hb hby at_220) e18 Al18 12 rfl (show 12 < 24 by decide) ?_
  intro T19 h19 X19 e19 W19 B19
  have N19 := Fr.snoc X19 N18 ge_o6
  have Al19 : Al Z h19 o6 .long [.long (-1 : Int64), .long (-1 : Int64), .long (-1 : Int64), .long (-1 : Int64), .long (-1 : Int64), .long (-1 : Int64), .long (-1 : Int64), .long (-1 : Int64), .long (-1 : Int64), .long (-1 : Int64), .long (-1 : Int64), .long (-1 : Int64), .long (-1 : Int64), .long (0 : Int64), .long (0 : Int64), .long (0 : Int64), .long (0 : Int64), .long (0 : Int64), .long (0 : Int64), .long (0 : Int64), .long (0 : Int64), .long (0 : Int64), .long (0 : Int64), .long (0 : Int64)] := B19
  refine g_dup X19 hx 222 rfl (hb hby at_221) rfl ?_
  refine g_bipush X19 hx 224 rfl (13 : Int32) rfl (hb hby at_222) ?_
  refine g_ldcJ X19 hx 227 rfl hown hZ (hw _ (List.mem_of_getElem? (i := 32) rfl)) (hb hby at_224) ?_
  refine g_lastore X19 hx hZ 228 rfl (hb hby at_227) e19 Al19 13 rfl (show 13 < 24 by decide) ?_
  intro T20 h20 X20 e20 W20 B20
  have N20 := Fr.snoc X20 N19 ge_o6
  have Al20 : Al Z h20 o6 .long [.long (-1 : Int64), .long (-1 : Int64), .long (-1 : Int64), .long (-1 : Int64), .long (-1 : Int64), .long (-1 : Int64), .long (-1 : Int64), .long (-1 : Int64), .long (-1 : Int64), .long (-1 : Int64), .long (-1 : Int64), .long (-1 : Int64), .long (-1 : Int64), .long (-1 : Int64), .long (0 : Int64), .long (0 : Int64), .long (0 : Int64), .long (0 : Int64), .long (0 : Int64), .long (0 : Int64), .long (0 : Int64), .long (0 : Int64), .long (0 : Int64), .long (0 : Int64)] := B20
  refine g_dup X20 hx 229 rfl (hb hby at_228) rfl ?_
  refine g_bipush X20 hx 231 rfl (14 : Int32) rfl (hb hby at_229) ?_
  refine g_ldcJ X20 hx 234 rfl hown hZ (hw _ (List.mem_of_getElem? (i := 32) rfl)) (hb hby at_231) ?_
  refine g_lastore X20 hx hZ 235 rfl (hb hby at_234) e20 Al20 14 rfl (show 14 < 24 by decide) ?_
  intro T21 h21 X21 e21 W21 B21
  have N21 := Fr.snoc X21 N20 ge_o6
  have Al21 : Al Z h21 o6 .long [.long (-1 : Int64), .long (-1 : Int64), .long (-1 : Int64), .long (-1 : Int64), .long (-1 : Int64), .long (-1 : Int64), .long (-1 : Int64), .long (-1 : Int64), .long (-1 : Int64), .long (-1 : Int64), .long (-1 : Int64), .long (-1 : Int64), .long (-1 : Int64), .long (-1 : Int64), .long (-1 : Int64), .long (0 : Int64), .long (0 : Int64), .long (0 : Int64), .long (0 : Int64), .long (0 : Int64), .long (0 : Int64), .long (0 : Int64), .long (0 : Int64), .long (0 : Int64)] := B21
  refine g_dup X21 hx 236 rfl (hb hby at_235) rfl ?_
  refine g_bipush X21 hx 238 rfl (15 : Int32) rfl (hb hby at_236) ?_
  refine g_ldcJ X21 hx 241 rfl hown hZ (hw _ (List.mem_of_getElem? (i := 32) rfl)) (hb hby at_238) ?_
  refine g_lastore X21 hx hZ 242 rfl (hb hby at_241) e21 Al21 15 rfl (show 15 < 24 by decide) ?_
  intro T22 h22 X22 e22 W22 B22
  have N22 := Fr.snoc X22 N21 ge_o6
  have Al22 : Al Z h22 o6 .long [.long (-1 : Int64), .long (-1 : Int64), .long (-1 : Int64), .long (-1 : Int64), .long (-1 : Int64), .long (-1 : Int64), .long (-1 : Int64), .long (-1 : Int64), .long (-1 : Int64), .long (-1 : Int64), .long (-1 : Int64), .long (-1 : Int64), .long (-1 : Int64), .long (-1 : Int64), .long (-1 : Int64), .long (-1 : Int64), .long (0 : Int64), .long (0 : Int64), .long (0 : Int64), .long (0 : Int64), .long (0 : Int64), .long (0 : Int64), .long (0 : Int64), .long (0 : Int64)] := B22
  refine g_dup X22 hx 243 rfl (hb hby at_242) rfl ?_
  refine g_bipush X22 hx 245 rfl (16 : Int32) rfl (hb hby at_243) ?_
  refine g_ldcJ X22 hx 248 rfl hown hZ (hw _ (List.mem_of_getElem? (i := 32) rfl)) (hb hby at_245) ?_
  refine g_lastore X22 hx hZ 249 rfl (hb hby at_248) e22 Al22 16 rfl (show 16 < 24 by decide) ?_
  intro T23 h23 X23 e23 W23 B23
  have N23 := Fr.snoc X23 N22 ge_o6
  have Al23 : Al Z h23 o6 .long [.long (-1 : Int64), .long (-1 : Int64), .long (-1 : Int64), .long (-1 : Int64), .long (-1 : Int64), .long (-1 : Int64), .long (-1 : Int64), .long (-1 : Int64), .long (-1 : Int64), .long (-1 : Int64), .long (-1 : Int64), .long (-1 : Int64), .long (-1 : Int64), .long (-1 : Int64), .long (-1 : Int64), .long (-1 : Int64), .long (-1 : Int64), .long (0 : Int64), .long (0 : Int64), .long (0 : Int64), .long (0 : Int64), .long (0 : Int64), .long (0 : Int64), .long (0 : Int64)] := B23
  refine g_dup X23 hx 250 rfl (hb hby at_249) rfl ?_
  refine g_bipush X23 hx 252 rfl (17 : Int32) rfl (hb hby at_250) ?_
  refine g_ldcJ X23 hx 255 rfl hown hZ (hw _ (List.mem_of_getElem? (i := 32) rfl)) (hb hby at_252) ?_
  refine g_lastore X23 hx hZ 256 rfl (hb hby at_255) e23 Al23 17 rfl (show 17 < 24 by decide) ?_
  intro T24 h24 X24 e24 W24 B24
  have N24 := Fr.snoc X24 N23 ge_o6
  have Al24 : Al Z h24 o6 .long [.long (-1 : Int64), .long (-1 : Int64), .long (-1 : Int64), .long (-1 : Int64), .long (-1 : Int64), .long (-1 : Int64), .long (-1 : Int64), .long (-1 : Int64), .long (-1 : Int64), .long (-1 : Int64), .long (-1 : Int64), .long (-1 : Int64), .long (-1 : Int64), .long (-1 : Int64), .long (-1 : Int64), .long (-1 : Int64), .long (-1 : Int64), .long (-1 : Int64), .long (0 : Int64), .long (0 : Int64), .long (0 : Int64), .long (0 : Int64), .long (0 : Int64), .long (0 : Int64)] := B24
  refine g_dup X24 hx 257 rfl (hb hby at_256) rfl ?_
  refine g_bipush X24 hx 259 rfl (18 : Int32) rfl (hb hby at_257) ?_
  refine g_ldcJ X24 hx 262 rfl hown hZ (hw _ (List.mem_of_getElem? (i := 32) rfl)) (hb hby at_259) ?_
  refine g_lastore X24 hx hZ 263 rfl (hb hby at_262) e24 Al24 18 rfl (show 18 < 24 by decide) ?_
  intro T25 h25 X25 e25 W25 B25
  have N25 := Fr.snoc X25 N24 ge_o6
  have Al25 : Al Z h25 o6 .long [.long (-1 : Int64), .long (-1 : Int64), .long (-1 : Int64), .long (-1 : Int64), .long (-1 : Int64), .long (-1 : Int64), .long (-1 : Int64), .long (-1 : Int64), .long (-1 : Int64), .long (-1 : Int64), .long (-1 : Int64), .long (-1 : Int64), .long (-1 : Int64), .long (-1 : Int64), .long (-1 : Int64), .long (-1 : Int64), .long (-1 : Int64), .long (-1 : Int64), .long (-1 : Int64), .long (0 : Int64), .long (0 : Int64), .long (0 : Int64), .long (0 : Int64), .long (0 : Int64)] := B25
  refine g_dup X25 hx 264 rfl (hb hby at_263) rfl ?_
  refine g_bipush X25 hx 266 rfl (19 : Int32) rfl (hb hby at_264) ?_
  refine g_ldcJ X25 hx 269 rfl hown hZ (hw _ (List.mem_of_getElem? (i := 32) rfl)) (hb hby at_266) ?_
  refine g_lastore X25 hx hZ 270 rfl (hb hby at_269) e25 Al25 19 rfl (show 19 < 24 by decide) ?_
  intro T26 h26 X26 e26 W26 B26
  have N26 := Fr.snoc X26 N25 ge_o6
  have Al26 : Al Z h26 o6 .long [.long (-1 : Int64), .long (-1 : Int64), .long (-1 : Int64), .long (-1 : Int64), .long (-1 : Int64), .long (-1 : Int64), .long (-1 : Int64), .long (-1 : Int64), .long (-1 : Int64), .long (-1 : Int64), .long (-1 : Int64), .long (-1 : Int64), .long (-1 : Int64), .long (-1 : Int64), .long (-1 : Int64), .long (-1 : Int64), .long (-1 : Int64), .long (-1 : Int64), .long (-1 : Int64), .long (-1 : Int64), .long (0 : Int64), .long (0 : Int64), .long (0 : Int64), .long (0 : Int64)] := B26
  refine g_dup X26 hx 271 rfl (hb hby at_270) rfl ?_
  refine g_bipush X26 hx 273 rfl (20 : Int32) rfl (hb hby at_271) ?_
  refine g_ldcJ X26 hx 276 rfl hown hZ (hw _ (List.mem_of_getElem? (i := 32) rfl)) (hb hby at_273) ?_
  refine g_lastore X26 hx hZ 277 rfl (hb hby at_276) e26 Al26 20 rfl (show 20 < 24 by decide) ?_
  intro T27 h27 X27 e27 W27 B27
  have N27 := Fr.snoc X27 N26 ge_o6
  have Al27 : Al Z h27 o6 .long [.long (-1 : Int64), .long (-1 : Int64), .long (-1 : Int64), .long (-1 : Int64), .long (-1 : Int64), .long (-1 : Int64), .long (-1 : Int64), .long (-1 : Int64), .long (-1 : Int64), .long (-1 : Int64), .long (-1 : Int64), .long (-1 : Int64), .long (-1 : Int64), .long (-1 : Int64), .long (-1 : Int64), .long (-1 : Int64), .long (-1 : Int64), .long (-1 : Int64), .long (-1 : Int64), .long (-1 : Int64), .long (-1 : Int64), .long (0 : Int64), .long (0 : Int64), .long (0 : Int64)] := B27
  refine g_dup X27 hx 278 rfl (hb hby at_277) rfl ?_
  refine g_bipush X27 hx 280 rfl (21 : Int32) rfl (hb hby at_278) ?_
  refine g_ldcJ X27 hx 283 rfl hown hZ (hw _ (List.mem_of_getElem? (i := 32) rfl)) (hb hby at_280) ?_
  refine g_lastore X27 hx hZ 284 rfl (hb hby at_283) e27 Al27 21 rfl (show 21 < 24 by decide) ?_
  intro T28 h28 X28 e28 W28 B28
  have N28 := Fr.snoc X28 N27 ge_o6
  have Al28 : Al Z h28 o6 .long [.long (-1 : Int64), .long (-1 : Int64), .long (-1 : Int64), .long (-1 : Int64), .long (-1 : Int64), .long (-1 : Int64), .long (-1 : Int64), .long (-1 : Int64), .long (-1 : Int64), .long (-1 : Int64), .long (-1 : Int64), .long (-1 : Int64), .long (-1 : Int64), .long (-1 : Int64), .long (-1 : Int64), .long (-1 : Int64), .long (-1 : Int64), .long (-1 : Int64), .long (-1 : Int64), .long (-1 : Int64), .long (-1 : Int64), .long (-1 : Int64), .long (0 : Int64), .long (0 : Int64)] := B28
  refine g_dup X28 hx 285 rfl (hb hby at_284) rfl ?_
  refine g_bipush X28 hx 287 rfl (22 : Int32) rfl (hb hby at_285) ?_
  refine g_ldcJ X28 hx 290 rfl hown hZ (hw _ (List.mem_of_getElem? (i := 32) rfl)) (hb hby at_287) ?_
  refine g_lastore X28 hx hZ 291 rfl (hb hby at_290) e28 Al28 22 rfl (show 22 < 24 by decide) ?_
  intro T29 h29 X29 e29 W29 B29
  have N29 := Fr.snoc X29 N28 ge_o6
  have Al29 : Al Z h29 o6 .long [.long (-1 : Int64), .long (-1 : Int64), .long (-1 : Int64), .long (-1 : Int64), .long (-1 : Int64), .long (-1 : Int64), .long (-1 : Int64), .long (-1 : Int64), .long (-1 : Int64), .long (-1 : Int64), .long (-1 : Int64), .long (-1 : Int64), .long (-1 : Int64), .long (-1 : Int64), .long (-1 : Int64), .long (-1 : Int64), .long (-1 : Int64), .long (-1 : Int64), .long (-1 : Int64), .long (-1 : Int64), .long (-1 : Int64), .long (-1 : Int64), .long (-1 : Int64), .long (0 : Int64)] := B29
  refine g_dup X29 hx 292 rfl (hb hby at_291) rfl ?_
  refine g_bipush X29 hx 294 rfl (23 : Int32) rfl (hb hby at_292) ?_
  refine g_ldcJ X29 hx 297 rfl hown hZ (hw _ (List.mem_of_getElem? (i := 32) rfl)) (hb hby at_294) ?_
  refine g_lastore X29 hx hZ 298 rfl (hb hby at_297) e29 Al29 23 rfl (show 23 < 24 by decide) ?_
  intro T30 h30 X30 e30 W30 B30
  have N30 := Fr.snoc X30 N29 ge_o6
  have Al30 : Al Z h30 o6 .long [.long (-1 : Int64), .long (-1 : Int64), .long (-1 : Int64), .long (-1 : Int64), .long (-1 : Int64), .long (-1 : Int64), .long (-1 : Int64), .long (-1 : Int64), .long (-1 : Int64), .long (-1 : Int64), .long (-1 : Int64), .long (-1 : Int64), .long (-1 : Int64), .long (-1 : Int64), .long (-1 : Int64), .long (-1 : Int64), .long (-1 : Int64), .long (-1 : Int64), .long (-1 : Int64), .long (-1 : Int64), .long (-1 : Int64), .long (-1 : Int64), .long (-1 : Int64), .long (-1 : Int64)] := B30
  refine g_astore X30 hx 300 rfl (hb hby at_298) rfl #[.val (.int p1), .val (.int p2), .val (.int p3), .val (.long q1), .second, .val (.long q2), .second, .val (.long q3), .second, .val (.int (Int32.ofNat hn)), .val (.int (Int32.ofNat ln)), .val (.int (Int32.ofNat pn)), .val (.long (((Int32.ofNat hn).toInt64) + (3 : Int64))), .second, .val (.long (own_ch ((Int32.ofNat hn).toInt64 + (3 : Int64)))), .second, .val (.long ((own_ch ((Int32.ofNat hn).toInt64 + (3 : Int64))) * (own_ch ((Int32.ofNat hn).toInt64 + (3 : Int64))))), .second, .val (.int (Int32.ofNat k)), .val (.int (Int32.ofNat pb)), .val (.long (own_mk k)), .second, .val (.long v0), .second, .val (.long v1), .second, .val (.long v2), .second, .val (.ref o6), .unset, .unset, .unset] rfl ?_
  have AW : Al Z h30 o6 .long (own_W (fun _ => (-1 : Int64))) := Al30
  refine g_aload X30 hx 302 rfl (hb hby at_300) rfl rfl ?_
  refine g_lconst X30 hx 303 rfl (0 : Int64) rfl (hb hby at_302) ?_
  refine g_iload X30 hx 305 rfl (hb hby at_303) rfl ?_
  refine g_lload X30 hx 307 rfl (hb hby at_305) rfl ?_
  have Zl32 : n0 ≤ h30.size := (Nat.le_trans (Nat.le_trans (Nat.le_trans (Nat.le_trans (Nat.le_trans (Nat.le_trans (Nat.le_trans (Nat.le_trans (Nat.le_trans (Nat.le_trans (Nat.le_trans (Nat.le_trans (Nat.le_trans (Nat.le_trans (Nat.le_trans (Nat.le_trans (Nat.le_trans (Nat.le_trans (Nat.le_trans (Nat.le_trans (Nat.le_trans (Nat.le_trans (Nat.le_trans (Nat.le_trans (Nat.le_trans Z0 E6.1) (Nat.le_of_eq W7.size.symm)) (Nat.le_of_eq W8.size.symm)) (Nat.le_of_eq W9.size.symm)) (Nat.le_of_eq W10.size.symm)) (Nat.le_of_eq W11.size.symm)) (Nat.le_of_eq W12.size.symm)) (Nat.le_of_eq W13.size.symm)) (Nat.le_of_eq W14.size.symm)) (Nat.le_of_eq W15.size.symm)) (Nat.le_of_eq W16.size.symm)) (Nat.le_of_eq W17.size.symm)) (Nat.le_of_eq W18.size.symm)) (Nat.le_of_eq W19.size.symm)) (Nat.le_of_eq W20.size.symm)) (Nat.le_of_eq W21.size.symm)) (Nat.le_of_eq W22.size.symm)) (Nat.le_of_eq W23.size.symm)) (Nat.le_of_eq W24.size.symm)) (Nat.le_of_eq W25.size.symm)) (Nat.le_of_eq W26.size.symm)) (Nat.le_of_eq W27.size.symm)) (Nat.le_of_eq W28.size.symm)) (Nat.le_of_eq W29.size.symm)) (Nat.le_of_eq W30.size.symm))
  refine g_callS X30 hx hZ 310 rfl (y := (⟨"com/example/maybe_set/maybeset/BucketTableFirstInvalidPairPinLaw", "put", "([JJIJ)V"⟩ : MethodName)) hown (hw _ (List.mem_of_getElem? (i := 33) rfl)) (hw _ (List.mem_of_getElem? (i := 34) rfl)) (hw _ (List.mem_of_getElem? (i := 29) rfl)) (hw _ (List.mem_of_getElem? (i := 35) rfl)) (by decide) [.ref o6, .long (0 : Int64), .int (Int32.ofNat k), .long v0] [] (rmPut l Z a0 hw [] o6 0 k v0 (fun _ => (-1 : Int64)) h30 n0 Zl32 AW ge_o6 (by decide) k2 hv0) e30 (lenOf pd_9 rfl) rfl (by rw [hml]; rfl) (hb hby at_307) (by decide) 0 (Nat.le_of_eq rfl) (by decide) (by decide) (by decide) ?_
  rintro _ T31 L31 X31 ⟨ws1, rfl, N31q, K31, A31, R0⟩
  have N31 := Fr.app N30 N31q
  show Goes p e below (T31.setTop (mkF m 310 #[.val (.int p1), .val (.int p2), .val (.int p3), .val (.long q1), .second, .val (.long q2), .second, .val (.long q3), .second, .val (.int (Int32.ofNat hn)), .val (.int (Int32.ofNat ln)), .val (.int (Int32.ofNat pn)), .val (.long (((Int32.ofNat hn).toInt64) + (3 : Int64))), .second, .val (.long (own_ch ((Int32.ofNat hn).toInt64 + (3 : Int64)))), .second, .val (.long ((own_ch ((Int32.ofNat hn).toInt64 + (3 : Int64))) * (own_ch ((Int32.ofNat hn).toInt64 + (3 : Int64))))), .second, .val (.int (Int32.ofNat k)), .val (.int (Int32.ofNat pb)), .val (.long (own_mk k)), .second, .val (.long v0), .second, .val (.long v1), .second, .val (.long v2), .second, .val (.ref o6), .unset, .unset, .unset] [])) _
  have i0 := own_is_wr R0
  have z0 : (0 : Int64).toInt = 0 := rfl
  have hM1 : ¬ own_ch ((Int32.ofNat hn).toInt64 + (3 : Int64)) < (0 : Int64) := fun z => by rw [Int64.lt_iff_toInt_lt, z0] at z; omega
  have hM2 : own_ch ((Int32.ofNat hn).toInt64 + (3 : Int64)) ≠ 0 := fun z => by rw [z, z0] at g1; omega
  have hpn : pn = 1 ∨ pn = 2 ∨ pn = 3 := by omega
  rcases hpn with rfl | rfl | rfl
  · show Goes p e below (T31.setTop (mkF m 310 #[.val (.int p1), .val (.int p2), .val (.int p3), .val (.long q1), .second, .val (.long q2), .second, .val (.long q3), .second, .val (.int (Int32.ofNat hn)), .val (.int (Int32.ofNat ln)), .val (.int (1 : Int32)), .val (.long (((Int32.ofNat hn).toInt64) + (3 : Int64))), .second, .val (.long (own_ch ((Int32.ofNat hn).toInt64 + (3 : Int64)))), .second, .val (.long ((own_ch ((Int32.ofNat hn).toInt64 + (3 : Int64))) * (own_ch ((Int32.ofNat hn).toInt64 + (3 : Int64))))), .second, .val (.int (Int32.ofNat k)), .val (.int (Int32.ofNat pb)), .val (.long (own_mk k)), .second, .val (.long v0), .second, .val (.long v1), .second, .val (.long v2), .second, .val (.ref o6), .unset, .unset, .unset] [])) _
    refine g_iload X31 hx 312 rfl (hb hby at_310) rfl ?_
    refine g_iconst X31 hx 313 rfl (1 : Int32) rfl (hb hby at_312) ?_
    refine g_icmpY X31 hx 328 (hb hby at_313) (XT.ii_le_t (by decide)) (by decide) (by decide) ?_
    refine g_iload X31 hx 330 rfl (hb hby at_328) rfl ?_
    refine g_iconst X31 hx 331 rfl (2 : Int32) rfl (hb hby at_330) ?_
    refine g_icmpY X31 hx 350 (hb hby at_331) (XT.ii_le_t (by decide)) (by decide) (by decide) ?_
    refine g_lload X31 hx 352 rfl (hb hby at_350) rfl ?_
    refine g_lload X31 hx 354 rfl (hb hby at_352) rfl ?_
    refine g_lcmp X31 hx 355 rfl (hb hby at_354) ?_
    by_cases y0 : v0 < ((own_ch ((Int32.ofNat hn).toInt64 + (3 : Int64))) * (own_ch ((Int32.ofNat hn).toInt64 + (3 : Int64))))
    · refine g_ifY X31 hx 364 (hb hby at_355) (XT.ll_lt_t y0) (by decide) (by decide) ?_
      refine g_iload X31 hx 366 rfl (hb hby at_364) rfl ?_
      refine g_iconst X31 hx 367 rfl (1 : Int32) rfl (hb hby at_366) ?_
      refine g_icmpY X31 hx 384 (hb hby at_367) (XT.ii_le_t (by decide)) (by decide) (by decide) ?_
      refine g_iload X31 hx 386 rfl (hb hby at_384) rfl ?_
      refine g_iconst X31 hx 387 rfl (2 : Int32) rfl (hb hby at_386) ?_
      refine g_icmpY X31 hx 406 (hb hby at_387) (XT.ii_le_t (by decide)) (by decide) (by decide) ?_
      refine g_ldcJ X31 hx 409 rfl hown hZ (hw _ (List.mem_of_getElem? (i := 32) rfl)) (hb hby at_406) ?_
      refine g_lstore X31 hx 411 rfl (hb hby at_409) #[.val (.int p1), .val (.int p2), .val (.int p3), .val (.long q1), .second, .val (.long q2), .second, .val (.long q3), .second, .val (.int (Int32.ofNat hn)), .val (.int (Int32.ofNat ln)), .val (.int (1 : Int32)), .val (.long (((Int32.ofNat hn).toInt64) + (3 : Int64))), .second, .val (.long (own_ch ((Int32.ofNat hn).toInt64 + (3 : Int64)))), .second, .val (.long ((own_ch ((Int32.ofNat hn).toInt64 + (3 : Int64))) * (own_ch ((Int32.ofNat hn).toInt64 + (3 : Int64))))), .second, .val (.int (Int32.ofNat k)), .val (.int (Int32.ofNat pb)), .val (.long (own_mk k)), .second, .val (.long v0), .second, .val (.long v1), .second, .val (.long v2), .second, .val (.ref o6), .val (.long (-1 : Int64)), .second, .unset] rfl ?_
      refine g_new X31 hx hZ 414 rfl hown (hw _ (List.mem_of_getElem? (i := 37) rfl)) (hw _ (List.mem_of_getElem? (i := 38) rfl)) (hw _ (List.mem_of_getElem? (i := 6) rfl)) rfl (hb hby at_411) (by decide) (by decide) ?_
      intro T33 h33 o33 g33 X33 e33 E33 A33 D33
      have Exa34 := (((((((((((((((((((((((((Ex6.wr W7).wr W8).wr W9).wr W10).wr W11).wr W12).wr W13).wr W14).wr W15).wr W16).wr W17).wr W18).wr W19).wr W20).wr W21).wr W22).wr W23).wr W24).wr W25).wr W26).wr W27).wr W28).wr W29).wr W30).keep K31)
      have ne_o6_o33 : o6 ≠ o33 := Nat.ne_of_lt (Nat.lt_of_lt_of_eq Exa34.lt g33.symm)
      have Zl35 : n0 ≤ T31.heap.size := (Nat.le_trans Zl32 K31.1)
      have ge_o33 : n0 ≤ o33 := Nat.le_trans Zl35 (Nat.le_of_eq g33.symm)
      refine g_dup X33 hx 415 rfl (hb hby at_414) rfl ?_
      refine g_ldcJ X33 hx 418 rfl hown hZ (hw _ (List.mem_of_getElem? (i := 2) rfl)) (hb hby at_415) ?_
      refine g_iload X33 hx 420 rfl (hb hby at_418) rfl ?_
      refine g_i2l X33 hx 421 rfl (hb hby at_420) ?_
      refine g_lmul X33 hx 422 rfl (hb hby at_421) ?_
      refine g_iload X33 hx 424 rfl (hb hby at_422) rfl ?_
      refine g_iload X33 hx 426 rfl (hb hby at_424) rfl ?_
      refine g_aload X33 hx 428 rfl (hb hby at_426) rfl rfl ?_
      have hqb : (2 : Int64) * ((1 : Int32).toInt64) = Int64.ofNat (2 * 1) := by decide
      rw [hqb]
      have Al36 := (A31.ext E33)
      have lta : o6 < h33.size := Al36.lt
      have Zl38 : n0 ≤ h33.size := (Nat.le_trans Zl35 E33.1)
      refine g_callI X33 hx hZ 431 rfl (y := (⟨"com/example/maybe_set/maybeset/BucketTable", "<init>", "(JII[J)V"⟩ : MethodName)) rfl hown (hw _ (List.mem_of_getElem? (i := 39) rfl)) (hw _ (List.mem_of_getElem? (i := 40) rfl)) (hw _ (List.mem_of_getElem? (i := 6) rfl)) (hw _ (List.mem_of_getElem? (i := 41) rfl)) (by decide) o33 [.long (Int64.ofNat (2 * 1)), .int (Int32.ofNat hn), .int (Int32.ofNat ln), .ref o6] [.ref o33] (rmT l Z a0 hw [] o33 (Int64.ofNat (2 * 1)) (Int32.ofNat hn) (Int32.ofNat ln) o6 _ _ _ _ _ _ _ _ h33 n0 Zl38 A33 ge_o33 hM1 hM2 (D33 (Or.inr (hw _ (List.mem_of_getElem? (i := 46) rfl))) (ty := .long) (by decide)) (D33 (Or.inr (hw _ (List.mem_of_getElem? (i := 48) rfl))) (ty := .int) (by decide)) (D33 (Or.inr (hw _ (List.mem_of_getElem? (i := 50) rfl))) (ty := .int) (by decide)) (D33 (Or.inr (hw _ (List.mem_of_getElem? (i := 52) rfl))) (ty := .long) (by decide)) (D33 (Or.inr (hw _ (List.mem_of_getElem? (i := 70) rfl))) (ty := .object "com/example/maybe_set/maybeset/Modulus") (by decide)) (D33 (Or.inr (hw _ (List.mem_of_getElem? (i := 72) rfl))) (ty := .int) (by decide)) (D33 (Or.inr (hw _ (List.mem_of_getElem? (i := 75) rfl))) (ty := .int) (by decide)) (D33 (Or.inr (hw _ (List.mem_of_getElem? (i := 77) rfl))) (ty := .array .long) (by decide))) e33 (lenOf pd_10 rfl) rfl (by rw [hml]; rfl) (hb hby at_428) (by decide) 1 (Nat.le_of_eq rfl) (by decide) (by decide) (by decide) ?_
      rintro _ T37 L37 X37 ⟨rfl, N37q, K37, E37, B37, M37, R37, P37, W37⟩
      have N37 := Fr.app N31 N37q
      show Goes p e below (T37.setTop (mkF m 431 #[.val (.int p1), .val (.int p2), .val (.int p3), .val (.long q1), .second, .val (.long q2), .second, .val (.long q3), .second, .val (.int (Int32.ofNat hn)), .val (.int (Int32.ofNat ln)), .val (.int (1 : Int32)), .val (.long (((Int32.ofNat hn).toInt64) + (3 : Int64))), .second, .val (.long (own_ch ((Int32.ofNat hn).toInt64 + (3 : Int64)))), .second, .val (.long ((own_ch ((Int32.ofNat hn).toInt64 + (3 : Int64))) * (own_ch ((Int32.ofNat hn).toInt64 + (3 : Int64))))), .second, .val (.int (Int32.ofNat k)), .val (.int (Int32.ofNat pb)), .val (.long (own_mk k)), .second, .val (.long v0), .second, .val (.long v1), .second, .val (.long v2), .second, .val (.ref o6), .val (.long (-1 : Int64)), .second, .unset] [.ref o33])) _
      rw [e_k, own_pb k ln k2 l_ln, e_pb] at P37
      rw [e_k] at R37
      refine g_astore X37 hx 433 rfl (hb hby at_431) rfl #[.val (.int p1), .val (.int p2), .val (.int p3), .val (.long q1), .second, .val (.long q2), .second, .val (.long q3), .second, .val (.int (Int32.ofNat hn)), .val (.int (Int32.ofNat ln)), .val (.int (1 : Int32)), .val (.long (((Int32.ofNat hn).toInt64) + (3 : Int64))), .second, .val (.long (own_ch ((Int32.ofNat hn).toInt64 + (3 : Int64)))), .second, .val (.long ((own_ch ((Int32.ofNat hn).toInt64 + (3 : Int64))) * (own_ch ((Int32.ofNat hn).toInt64 + (3 : Int64))))), .second, .val (.int (Int32.ofNat k)), .val (.int (Int32.ofNat pb)), .val (.long (own_mk k)), .second, .val (.long v0), .second, .val (.long v1), .second, .val (.long v2), .second, .val (.ref o6), .val (.long (-1 : Int64)), .second, .val (.ref o33)] rfl ?_
      refine g_aload X37 hx 435 rfl (hb hby at_433) rfl rfl ?_
      have Al39 := (Al36.keep K37 (ninS ne_o6_o33 nin0))
      have Zl41 : n0 ≤ T37.heap.size := (Nat.le_trans Zl38 K37.1)
      refine g_callV X37 hx hZ 438 rfl (y := (⟨"com/example/maybe_set/maybeset/BucketTable", "firstInvalidPair", "()J"⟩ : MethodName)) hown (hw _ (List.mem_of_getElem? (i := 78) rfl)) (hw _ (List.mem_of_getElem? (i := 79) rfl)) (hw _ (List.mem_of_getElem? (i := 81) rfl)) (hw _ (List.mem_of_getElem? (i := 80) rfl)) (hw _ (List.mem_of_getElem? (i := 6) rfl)) (hw _ (List.mem_of_getElem? (i := 82) rfl)) (by decide) o33 [] [] (rmFI l Z a0 hw [] o33 o6 1 k pb ws1 (own_ch ((Int32.ofNat hn).toInt64 + (3 : Int64))) v0 v1 v2 T37.heap n0 Zl41 E37 B37 M37 R37 P37 W37 Al39 k2 l6 (by decide) (by decide) hv0 hv1 hv2 i0 (fun z => absurd z (by decide)) (fun z => absurd z (by decide))) rfl E37 (lenOf pd_11 rfl) rfl (by rw [hml]; rfl) (hb hby at_435) (by decide) 0 (Nat.le_of_eq rfl) (by decide) (by decide) (by decide) ?_
      rintro _ T40 L40 X40 ⟨rfl, N40q, e40⟩
      have N40 := Fr.app N37 N40q
      show Goes p e below (T40.setTop (mkF m 438 #[.val (.int p1), .val (.int p2), .val (.int p3), .val (.long q1), .second, .val (.long q2), .second, .val (.long q3), .second, .val (.int (Int32.ofNat hn)), .val (.int (Int32.ofNat ln)), .val (.int (1 : Int32)), .val (.long (((Int32.ofNat hn).toInt64) + (3 : Int64))), .second, .val (.long (own_ch ((Int32.ofNat hn).toInt64 + (3 : Int64)))), .second, .val (.long ((own_ch ((Int32.ofNat hn).toInt64 + (3 : Int64))) * (own_ch ((Int32.ofNat hn).toInt64 + (3 : Int64))))), .second, .val (.int (Int32.ofNat k)), .val (.int (Int32.ofNat pb)), .val (.long (own_mk k)), .second, .val (.long v0), .second, .val (.long v1), .second, .val (.long v2), .second, .val (.ref o6), .val (.long (-1 : Int64)), .second, .val (.ref o33)] [.long (own_res 1 (own_ch ((Int32.ofNat hn).toInt64 + (3 : Int64)) * own_ch ((Int32.ofNat hn).toInt64 + (3 : Int64))) v0 v1 v2)])) _
      refine g_lload X40 hx 440 rfl (hb hby at_438) rfl ?_
      refine g_lcmp X40 hx 441 rfl (hb hby at_440) ?_
      refine g_ifN X40 hx 444 rfl (hb hby at_441) (XT.ll_ne_f (by unfold own_res; simp only [y0, if_true, if_false, Nat.lt_irrefl, Nat.reduceLT, not_true, not_false_eq_true])) ?_
      refine g_iconst X40 hx 445 rfl (1 : Int32) rfl (hb hby at_444) ?_
      refine g_goto X40 hx 449 (hb hby at_445) (by decide) (by decide) ?_
      exact g_retZ X40 hx hret hlk rfl (hb hby at_449) ⟨rfl, N40⟩ (by decide) (by decide)
    · refine g_ifN X31 hx 358 rfl (hb hby at_355) (XT.ll_lt_f y0) ?_
      refine g_lconst X31 hx 359 rfl (0 : Int64) rfl (hb hby at_358) ?_
      refine g_lstore X31 hx 361 rfl (hb hby at_359) #[.val (.int p1), .val (.int p2), .val (.int p3), .val (.long q1), .second, .val (.long q2), .second, .val (.long q3), .second, .val (.int (Int32.ofNat hn)), .val (.int (Int32.ofNat ln)), .val (.int (1 : Int32)), .val (.long (((Int32.ofNat hn).toInt64) + (3 : Int64))), .second, .val (.long (own_ch ((Int32.ofNat hn).toInt64 + (3 : Int64)))), .second, .val (.long ((own_ch ((Int32.ofNat hn).toInt64 + (3 : Int64))) * (own_ch ((Int32.ofNat hn).toInt64 + (3 : Int64))))), .second, .val (.int (Int32.ofNat k)), .val (.int (Int32.ofNat pb)), .val (.long (own_mk k)), .second, .val (.long v0), .second, .val (.long v1), .second, .val (.long v2), .second, .val (.ref o6), .val (.long (0 : Int64)), .second, .unset] rfl ?_
      refine g_goto X31 hx 411 (hb hby at_361) (by decide) (by decide) ?_
      refine g_new X31 hx hZ 414 rfl hown (hw _ (List.mem_of_getElem? (i := 37) rfl)) (hw _ (List.mem_of_getElem? (i := 38) rfl)) (hw _ (List.mem_of_getElem? (i := 6) rfl)) rfl (hb hby at_411) (by decide) (by decide) ?_
      intro T42 h42 o42 g42 X42 e42 E42 A42 D42
      have Exa43 := (((((((((((((((((((((((((Ex6.wr W7).wr W8).wr W9).wr W10).wr W11).wr W12).wr W13).wr W14).wr W15).wr W16).wr W17).wr W18).wr W19).wr W20).wr W21).wr W22).wr W23).wr W24).wr W25).wr W26).wr W27).wr W28).wr W29).wr W30).keep K31)
      have ne_o6_o42 : o6 ≠ o42 := Nat.ne_of_lt (Nat.lt_of_lt_of_eq Exa43.lt g42.symm)
      have Zl44 : n0 ≤ T31.heap.size := (Nat.le_trans Zl32 K31.1)
      have ge_o42 : n0 ≤ o42 := Nat.le_trans Zl44 (Nat.le_of_eq g42.symm)
      refine g_dup X42 hx 415 rfl (hb hby at_414) rfl ?_
      refine g_ldcJ X42 hx 418 rfl hown hZ (hw _ (List.mem_of_getElem? (i := 2) rfl)) (hb hby at_415) ?_
      refine g_iload X42 hx 420 rfl (hb hby at_418) rfl ?_
      refine g_i2l X42 hx 421 rfl (hb hby at_420) ?_
      refine g_lmul X42 hx 422 rfl (hb hby at_421) ?_
      refine g_iload X42 hx 424 rfl (hb hby at_422) rfl ?_
      refine g_iload X42 hx 426 rfl (hb hby at_424) rfl ?_
      refine g_aload X42 hx 428 rfl (hb hby at_426) rfl rfl ?_
      have hqb : (2 : Int64) * ((1 : Int32).toInt64) = Int64.ofNat (2 * 1) := by decide
      rw [hqb]
      have Al45 := (A31.ext E42)
      have lta : o6 < h42.size := Al45.lt
      have Zl47 : n0 ≤ h42.size := (Nat.le_trans Zl44 E42.1)
      refine g_callI X42 hx hZ 431 rfl (y := (⟨"com/example/maybe_set/maybeset/BucketTable", "<init>", "(JII[J)V"⟩ : MethodName)) rfl hown (hw _ (List.mem_of_getElem? (i := 39) rfl)) (hw _ (List.mem_of_getElem? (i := 40) rfl)) (hw _ (List.mem_of_getElem? (i := 6) rfl)) (hw _ (List.mem_of_getElem? (i := 41) rfl)) (by decide) o42 [.long (Int64.ofNat (2 * 1)), .int (Int32.ofNat hn), .int (Int32.ofNat ln), .ref o6] [.ref o42] (rmT l Z a0 hw [] o42 (Int64.ofNat (2 * 1)) (Int32.ofNat hn) (Int32.ofNat ln) o6 _ _ _ _ _ _ _ _ h42 n0 Zl47 A42 ge_o42 hM1 hM2 (D42 (Or.inr (hw _ (List.mem_of_getElem? (i := 46) rfl))) (ty := .long) (by decide)) (D42 (Or.inr (hw _ (List.mem_of_getElem? (i := 48) rfl))) (ty := .int) (by decide)) (D42 (Or.inr (hw _ (List.mem_of_getElem? (i := 50) rfl))) (ty := .int) (by decide)) (D42 (Or.inr (hw _ (List.mem_of_getElem? (i := 52) rfl))) (ty := .long) (by decide)) (D42 (Or.inr (hw _ (List.mem_of_getElem? (i := 70) rfl))) (ty := .object "com/example/maybe_set/maybeset/Modulus") (by decide)) (D42 (Or.inr (hw _ (List.mem_of_getElem? (i := 72) rfl))) (ty := .int) (by decide)) (D42 (Or.inr (hw _ (List.mem_of_getElem? (i := 75) rfl))) (ty := .int) (by decide)) (D42 (Or.inr (hw _ (List.mem_of_getElem? (i := 77) rfl))) (ty := .array .long) (by decide))) e42 (lenOf pd_10 rfl) rfl (by rw [hml]; rfl) (hb hby at_428) (by decide) 1 (Nat.le_of_eq rfl) (by decide) (by decide) (by decide) ?_
      rintro _ T46 L46 X46 ⟨rfl, N46q, K46, E46, B46, M46, R46, P46, W46⟩
      have N46 := Fr.app N31 N46q
      show Goes p e below (T46.setTop (mkF m 431 #[.val (.int p1), .val (.int p2), .val (.int p3), .val (.long q1), .second, .val (.long q2), .second, .val (.long q3), .second, .val (.int (Int32.ofNat hn)), .val (.int (Int32.ofNat ln)), .val (.int (1 : Int32)), .val (.long (((Int32.ofNat hn).toInt64) + (3 : Int64))), .second, .val (.long (own_ch ((Int32.ofNat hn).toInt64 + (3 : Int64)))), .second, .val (.long ((own_ch ((Int32.ofNat hn).toInt64 + (3 : Int64))) * (own_ch ((Int32.ofNat hn).toInt64 + (3 : Int64))))), .second, .val (.int (Int32.ofNat k)), .val (.int (Int32.ofNat pb)), .val (.long (own_mk k)), .second, .val (.long v0), .second, .val (.long v1), .second, .val (.long v2), .second, .val (.ref o6), .val (.long (0 : Int64)), .second, .unset] [.ref o42])) _
      rw [e_k, own_pb k ln k2 l_ln, e_pb] at P46
      rw [e_k] at R46
      refine g_astore X46 hx 433 rfl (hb hby at_431) rfl #[.val (.int p1), .val (.int p2), .val (.int p3), .val (.long q1), .second, .val (.long q2), .second, .val (.long q3), .second, .val (.int (Int32.ofNat hn)), .val (.int (Int32.ofNat ln)), .val (.int (1 : Int32)), .val (.long (((Int32.ofNat hn).toInt64) + (3 : Int64))), .second, .val (.long (own_ch ((Int32.ofNat hn).toInt64 + (3 : Int64)))), .second, .val (.long ((own_ch ((Int32.ofNat hn).toInt64 + (3 : Int64))) * (own_ch ((Int32.ofNat hn).toInt64 + (3 : Int64))))), .second, .val (.int (Int32.ofNat k)), .val (.int (Int32.ofNat pb)), .val (.long (own_mk k)), .second, .val (.long v0), .second, .val (.long v1), .second, .val (.long v2), .second, .val (.ref o6), .val (.long (0 : Int64)), .second, .val (.ref o42)] rfl ?_
      refine g_aload X46 hx 435 rfl (hb hby at_433) rfl rfl ?_
      have Al48 := (Al45.keep K46 (ninS ne_o6_o42 nin0))
      have Zl50 : n0 ≤ T46.heap.size := (Nat.le_trans Zl47 K46.1)
      refine g_callV X46 hx hZ 438 rfl (y := (⟨"com/example/maybe_set/maybeset/BucketTable", "firstInvalidPair", "()J"⟩ : MethodName)) hown (hw _ (List.mem_of_getElem? (i := 78) rfl)) (hw _ (List.mem_of_getElem? (i := 79) rfl)) (hw _ (List.mem_of_getElem? (i := 81) rfl)) (hw _ (List.mem_of_getElem? (i := 80) rfl)) (hw _ (List.mem_of_getElem? (i := 6) rfl)) (hw _ (List.mem_of_getElem? (i := 82) rfl)) (by decide) o42 [] [] (rmFI l Z a0 hw [] o42 o6 1 k pb ws1 (own_ch ((Int32.ofNat hn).toInt64 + (3 : Int64))) v0 v1 v2 T46.heap n0 Zl50 E46 B46 M46 R46 P46 W46 Al48 k2 l6 (by decide) (by decide) hv0 hv1 hv2 i0 (fun z => absurd z (by decide)) (fun z => absurd z (by decide))) rfl E46 (lenOf pd_11 rfl) rfl (by rw [hml]; rfl) (hb hby at_435) (by decide) 0 (Nat.le_of_eq rfl) (by decide) (by decide) (by decide) ?_
      rintro _ T49 L49 X49 ⟨rfl, N49q, e49⟩
      have N49 := Fr.app N46 N49q
      show Goes p e below (T49.setTop (mkF m 438 #[.val (.int p1), .val (.int p2), .val (.int p3), .val (.long q1), .second, .val (.long q2), .second, .val (.long q3), .second, .val (.int (Int32.ofNat hn)), .val (.int (Int32.ofNat ln)), .val (.int (1 : Int32)), .val (.long (((Int32.ofNat hn).toInt64) + (3 : Int64))), .second, .val (.long (own_ch ((Int32.ofNat hn).toInt64 + (3 : Int64)))), .second, .val (.long ((own_ch ((Int32.ofNat hn).toInt64 + (3 : Int64))) * (own_ch ((Int32.ofNat hn).toInt64 + (3 : Int64))))), .second, .val (.int (Int32.ofNat k)), .val (.int (Int32.ofNat pb)), .val (.long (own_mk k)), .second, .val (.long v0), .second, .val (.long v1), .second, .val (.long v2), .second, .val (.ref o6), .val (.long (0 : Int64)), .second, .val (.ref o42)] [.long (own_res 1 (own_ch ((Int32.ofNat hn).toInt64 + (3 : Int64)) * own_ch ((Int32.ofNat hn).toInt64 + (3 : Int64))) v0 v1 v2)])) _
      refine g_lload X49 hx 440 rfl (hb hby at_438) rfl ?_
      refine g_lcmp X49 hx 441 rfl (hb hby at_440) ?_
      refine g_ifN X49 hx 444 rfl (hb hby at_441) (XT.ll_ne_f (by unfold own_res; simp only [y0, if_true, if_false, Nat.lt_irrefl, Nat.reduceLT, not_true, not_false_eq_true])) ?_
      refine g_iconst X49 hx 445 rfl (1 : Int32) rfl (hb hby at_444) ?_
      refine g_goto X49 hx 449 (hb hby at_445) (by decide) (by decide) ?_
      exact g_retZ X49 hx hret hlk rfl (hb hby at_449) ⟨rfl, N49⟩ (by decide) (by decide)
  · show Goes p e below (T31.setTop (mkF m 310 #[.val (.int p1), .val (.int p2), .val (.int p3), .val (.long q1), .second, .val (.long q2), .second, .val (.long q3), .second, .val (.int (Int32.ofNat hn)), .val (.int (Int32.ofNat ln)), .val (.int (2 : Int32)), .val (.long (((Int32.ofNat hn).toInt64) + (3 : Int64))), .second, .val (.long (own_ch ((Int32.ofNat hn).toInt64 + (3 : Int64)))), .second, .val (.long ((own_ch ((Int32.ofNat hn).toInt64 + (3 : Int64))) * (own_ch ((Int32.ofNat hn).toInt64 + (3 : Int64))))), .second, .val (.int (Int32.ofNat k)), .val (.int (Int32.ofNat pb)), .val (.long (own_mk k)), .second, .val (.long v0), .second, .val (.long v1), .second, .val (.long v2), .second, .val (.ref o6), .unset, .unset, .unset] [])) _
    refine g_iload X31 hx 312 rfl (hb hby at_310) rfl ?_
    refine g_iconst X31 hx 313 rfl (1 : Int32) rfl (hb hby at_312) ?_
    refine g_icmpN X31 hx 316 rfl (hb hby at_313) (XT.ii_le_f (by decide)) ?_
    refine g_aload X31 hx 318 rfl (hb hby at_316) rfl rfl ?_
    refine g_iload X31 hx 320 rfl (hb hby at_318) rfl ?_
    refine g_i2l X31 hx 321 rfl (hb hby at_320) ?_
    rw [own_i2l pb (by omega)]
    refine g_iload X31 hx 323 rfl (hb hby at_321) rfl ?_
    refine g_lload X31 hx 325 rfl (hb hby at_323) rfl ?_
    have Zl52 : n0 ≤ T31.heap.size := (Nat.le_trans Zl32 K31.1)
    refine g_callS X31 hx hZ 328 rfl (y := (⟨"com/example/maybe_set/maybeset/BucketTableFirstInvalidPairPinLaw", "put", "([JJIJ)V"⟩ : MethodName)) hown (hw _ (List.mem_of_getElem? (i := 33) rfl)) (hw _ (List.mem_of_getElem? (i := 34) rfl)) (hw _ (List.mem_of_getElem? (i := 29) rfl)) (hw _ (List.mem_of_getElem? (i := 35) rfl)) (by decide) [.ref o6, .long (Int64.ofNat pb), .int (Int32.ofNat k), .long v1] [] (rmPut l Z a0 hw [] o6 pb k v1 ws1 T31.heap n0 Zl52 A31 ge_o6 (by omega) k2 hv1) rfl (lenOf pd_9 rfl) rfl (by rw [hml]; rfl) (hb hby at_325) (by decide) 0 (Nat.le_of_eq rfl) (by decide) (by decide) (by decide) ?_
    rintro _ T51 L51 X51 ⟨ws2, rfl, N51q, K51, A51, R1⟩
    have N51 := Fr.app N31 N51q
    show Goes p e below (T51.setTop (mkF m 328 #[.val (.int p1), .val (.int p2), .val (.int p3), .val (.long q1), .second, .val (.long q2), .second, .val (.long q3), .second, .val (.int (Int32.ofNat hn)), .val (.int (Int32.ofNat ln)), .val (.int (2 : Int32)), .val (.long (((Int32.ofNat hn).toInt64) + (3 : Int64))), .second, .val (.long (own_ch ((Int32.ofNat hn).toInt64 + (3 : Int64)))), .second, .val (.long ((own_ch ((Int32.ofNat hn).toInt64 + (3 : Int64))) * (own_ch ((Int32.ofNat hn).toInt64 + (3 : Int64))))), .second, .val (.int (Int32.ofNat k)), .val (.int (Int32.ofNat pb)), .val (.long (own_mk k)), .second, .val (.long v0), .second, .val (.long v1), .second, .val (.long v2), .second, .val (.ref o6), .unset, .unset, .unset] [])) _
    have i1 := own_is_wr R1
    replace i0 := own_is_keep R1 i0 (by omega)
    refine g_iload X51 hx 330 rfl (hb hby at_328) rfl ?_
    refine g_iconst X51 hx 331 rfl (2 : Int32) rfl (hb hby at_330) ?_
    refine g_icmpY X51 hx 350 (hb hby at_331) (XT.ii_le_t (by decide)) (by decide) (by decide) ?_
    refine g_lload X51 hx 352 rfl (hb hby at_350) rfl ?_
    refine g_lload X51 hx 354 rfl (hb hby at_352) rfl ?_
    refine g_lcmp X51 hx 355 rfl (hb hby at_354) ?_
    by_cases y0 : v0 < ((own_ch ((Int32.ofNat hn).toInt64 + (3 : Int64))) * (own_ch ((Int32.ofNat hn).toInt64 + (3 : Int64))))
    · refine g_ifY X51 hx 364 (hb hby at_355) (XT.ll_lt_t y0) (by decide) (by decide) ?_
      refine g_iload X51 hx 366 rfl (hb hby at_364) rfl ?_
      refine g_iconst X51 hx 367 rfl (1 : Int32) rfl (hb hby at_366) ?_
      refine g_icmpN X51 hx 370 rfl (hb hby at_367) (XT.ii_le_f (by decide)) ?_
      refine g_lload X51 hx 372 rfl (hb hby at_370) rfl ?_
      refine g_lload X51 hx 374 rfl (hb hby at_372) rfl ?_
      refine g_lcmp X51 hx 375 rfl (hb hby at_374) ?_
      by_cases y1 : v1 < ((own_ch ((Int32.ofNat hn).toInt64 + (3 : Int64))) * (own_ch ((Int32.ofNat hn).toInt64 + (3 : Int64))))
      · refine g_ifY X51 hx 384 (hb hby at_375) (XT.ll_lt_t y1) (by decide) (by decide) ?_
        refine g_iload X51 hx 386 rfl (hb hby at_384) rfl ?_
        refine g_iconst X51 hx 387 rfl (2 : Int32) rfl (hb hby at_386) ?_
        refine g_icmpY X51 hx 406 (hb hby at_387) (XT.ii_le_t (by decide)) (by decide) (by decide) ?_
        refine g_ldcJ X51 hx 409 rfl hown hZ (hw _ (List.mem_of_getElem? (i := 32) rfl)) (hb hby at_406) ?_
        refine g_lstore X51 hx 411 rfl (hb hby at_409) #[.val (.int p1), .val (.int p2), .val (.int p3), .val (.long q1), .second, .val (.long q2), .second, .val (.long q3), .second, .val (.int (Int32.ofNat hn)), .val (.int (Int32.ofNat ln)), .val (.int (2 : Int32)), .val (.long (((Int32.ofNat hn).toInt64) + (3 : Int64))), .second, .val (.long (own_ch ((Int32.ofNat hn).toInt64 + (3 : Int64)))), .second, .val (.long ((own_ch ((Int32.ofNat hn).toInt64 + (3 : Int64))) * (own_ch ((Int32.ofNat hn).toInt64 + (3 : Int64))))), .second, .val (.int (Int32.ofNat k)), .val (.int (Int32.ofNat pb)), .val (.long (own_mk k)), .second, .val (.long v0), .second, .val (.long v1), .second, .val (.long v2), .second, .val (.ref o6), .val (.long (-1 : Int64)), .second, .unset] rfl ?_
        refine g_new X51 hx hZ 414 rfl hown (hw _ (List.mem_of_getElem? (i := 37) rfl)) (hw _ (List.mem_of_getElem? (i := 38) rfl)) (hw _ (List.mem_of_getElem? (i := 6) rfl)) rfl (hb hby at_411) (by decide) (by decide) ?_
        intro T53 h53 o53 g53 X53 e53 E53 A53 D53
        have Exa54 := ((((((((((((((((((((((((((Ex6.wr W7).wr W8).wr W9).wr W10).wr W11).wr W12).wr W13).wr W14).wr W15).wr W16).wr W17).wr W18).wr W19).wr W20).wr W21).wr W22).wr W23).wr W24).wr W25).wr W26).wr W27).wr W28).wr W29).wr W30).keep K31).keep K51)
        have ne_o6_o53 : o6 ≠ o53 := Nat.ne_of_lt (Nat.lt_of_lt_of_eq Exa54.lt g53.symm)
        have Zl55 : n0 ≤ T51.heap.size := (Nat.le_trans Zl52 K51.1)
        have ge_o53 : n0 ≤ o53 := Nat.le_trans Zl55 (Nat.le_of_eq g53.symm)
        refine g_dup X53 hx 415 rfl (hb hby at_414) rfl ?_
        refine g_ldcJ X53 hx 418 rfl hown hZ (hw _ (List.mem_of_getElem? (i := 2) rfl)) (hb hby at_415) ?_
        refine g_iload X53 hx 420 rfl (hb hby at_418) rfl ?_
        refine g_i2l X53 hx 421 rfl (hb hby at_420) ?_
        refine g_lmul X53 hx 422 rfl (hb hby at_421) ?_
        refine g_iload X53 hx 424 rfl (hb hby at_422) rfl ?_
        refine g_iload X53 hx 426 rfl (hb hby at_424) rfl ?_
        refine g_aload X53 hx 428 rfl (hb hby at_426) rfl rfl ?_
        have hqb : (2 : Int64) * ((2 : Int32).toInt64) = Int64.ofNat (2 * 2) := by decide
        rw [hqb]
        have Al56 := (A51.ext E53)
        have lta : o6 < h53.size := Al56.lt
        have Zl58 : n0 ≤ h53.size := (Nat.le_trans Zl55 E53.1)
        refine g_callI X53 hx hZ 431 rfl (y := (⟨"com/example/maybe_set/maybeset/BucketTable", "<init>", "(JII[J)V"⟩ : MethodName)) rfl hown (hw _ (List.mem_of_getElem? (i := 39) rfl)) (hw _ (List.mem_of_getElem? (i := 40) rfl)) (hw _ (List.mem_of_getElem? (i := 6) rfl)) (hw _ (List.mem_of_getElem? (i := 41) rfl)) (by decide) o53 [.long (Int64.ofNat (2 * 2)), .int (Int32.ofNat hn), .int (Int32.ofNat ln), .ref o6] [.ref o53] (rmT l Z a0 hw [] o53 (Int64.ofNat (2 * 2)) (Int32.ofNat hn) (Int32.ofNat ln) o6 _ _ _ _ _ _ _ _ h53 n0 Zl58 A53 ge_o53 hM1 hM2 (D53 (Or.inr (hw _ (List.mem_of_getElem? (i := 46) rfl))) (ty := .long) (by decide)) (D53 (Or.inr (hw _ (List.mem_of_getElem? (i := 48) rfl))) (ty := .int) (by decide)) (D53 (Or.inr (hw _ (List.mem_of_getElem? (i := 50) rfl))) (ty := .int) (by decide)) (D53 (Or.inr (hw _ (List.mem_of_getElem? (i := 52) rfl))) (ty := .long) (by decide)) (D53 (Or.inr (hw _ (List.mem_of_getElem? (i := 70) rfl))) (ty := .object "com/example/maybe_set/maybeset/Modulus") (by decide)) (D53 (Or.inr (hw _ (List.mem_of_getElem? (i := 72) rfl))) (ty := .int) (by decide)) (D53 (Or.inr (hw _ (List.mem_of_getElem? (i := 75) rfl))) (ty := .int) (by decide)) (D53 (Or.inr (hw _ (List.mem_of_getElem? (i := 77) rfl))) (ty := .array .long) (by decide))) e53 (lenOf pd_10 rfl) rfl (by rw [hml]; rfl) (hb hby at_428) (by decide) 1 (Nat.le_of_eq rfl) (by decide) (by decide) (by decide) ?_
        rintro _ T57 L57 X57 ⟨rfl, N57q, K57, E57, B57, M57, R57, P57, W57⟩
        have N57 := Fr.app N51 N57q
        show Goes p e below (T57.setTop (mkF m 431 #[.val (.int p1), .val (.int p2), .val (.int p3), .val (.long q1), .second, .val (.long q2), .second, .val (.long q3), .second, .val (.int (Int32.ofNat hn)), .val (.int (Int32.ofNat ln)), .val (.int (2 : Int32)), .val (.long (((Int32.ofNat hn).toInt64) + (3 : Int64))), .second, .val (.long (own_ch ((Int32.ofNat hn).toInt64 + (3 : Int64)))), .second, .val (.long ((own_ch ((Int32.ofNat hn).toInt64 + (3 : Int64))) * (own_ch ((Int32.ofNat hn).toInt64 + (3 : Int64))))), .second, .val (.int (Int32.ofNat k)), .val (.int (Int32.ofNat pb)), .val (.long (own_mk k)), .second, .val (.long v0), .second, .val (.long v1), .second, .val (.long v2), .second, .val (.ref o6), .val (.long (-1 : Int64)), .second, .unset] [.ref o53])) _
        rw [e_k, own_pb k ln k2 l_ln, e_pb] at P57
        rw [e_k] at R57
        refine g_astore X57 hx 433 rfl (hb hby at_431) rfl #[.val (.int p1), .val (.int p2), .val (.int p3), .val (.long q1), .second, .val (.long q2), .second, .val (.long q3), .second, .val (.int (Int32.ofNat hn)), .val (.int (Int32.ofNat ln)), .val (.int (2 : Int32)), .val (.long (((Int32.ofNat hn).toInt64) + (3 : Int64))), .second, .val (.long (own_ch ((Int32.ofNat hn).toInt64 + (3 : Int64)))), .second, .val (.long ((own_ch ((Int32.ofNat hn).toInt64 + (3 : Int64))) * (own_ch ((Int32.ofNat hn).toInt64 + (3 : Int64))))), .second, .val (.int (Int32.ofNat k)), .val (.int (Int32.ofNat pb)), .val (.long (own_mk k)), .second, .val (.long v0), .second, .val (.long v1), .second, .val (.long v2), .second, .val (.ref o6), .val (.long (-1 : Int64)), .second, .val (.ref o53)] rfl ?_
        refine g_aload X57 hx 435 rfl (hb hby at_433) rfl rfl ?_
        have Al59 := (Al56.keep K57 (ninS ne_o6_o53 nin0))
        have Zl61 : n0 ≤ T57.heap.size := (Nat.le_trans Zl58 K57.1)
        refine g_callV X57 hx hZ 438 rfl (y := (⟨"com/example/maybe_set/maybeset/BucketTable", "firstInvalidPair", "()J"⟩ : MethodName)) hown (hw _ (List.mem_of_getElem? (i := 78) rfl)) (hw _ (List.mem_of_getElem? (i := 79) rfl)) (hw _ (List.mem_of_getElem? (i := 81) rfl)) (hw _ (List.mem_of_getElem? (i := 80) rfl)) (hw _ (List.mem_of_getElem? (i := 6) rfl)) (hw _ (List.mem_of_getElem? (i := 82) rfl)) (by decide) o53 [] [] (rmFI l Z a0 hw [] o53 o6 2 k pb ws2 (own_ch ((Int32.ofNat hn).toInt64 + (3 : Int64))) v0 v1 v2 T57.heap n0 Zl61 E57 B57 M57 R57 P57 W57 Al59 k2 l6 (by decide) (by decide) hv0 hv1 hv2 i0 (fun _ => i1) (fun z => absurd z (by decide))) rfl E57 (lenOf pd_11 rfl) rfl (by rw [hml]; rfl) (hb hby at_435) (by decide) 0 (Nat.le_of_eq rfl) (by decide) (by decide) (by decide) ?_
        rintro _ T60 L60 X60 ⟨rfl, N60q, e60⟩
        have N60 := Fr.app N57 N60q
        show Goes p e below (T60.setTop (mkF m 438 #[.val (.int p1), .val (.int p2), .val (.int p3), .val (.long q1), .second, .val (.long q2), .second, .val (.long q3), .second, .val (.int (Int32.ofNat hn)), .val (.int (Int32.ofNat ln)), .val (.int (2 : Int32)), .val (.long (((Int32.ofNat hn).toInt64) + (3 : Int64))), .second, .val (.long (own_ch ((Int32.ofNat hn).toInt64 + (3 : Int64)))), .second, .val (.long ((own_ch ((Int32.ofNat hn).toInt64 + (3 : Int64))) * (own_ch ((Int32.ofNat hn).toInt64 + (3 : Int64))))), .second, .val (.int (Int32.ofNat k)), .val (.int (Int32.ofNat pb)), .val (.long (own_mk k)), .second, .val (.long v0), .second, .val (.long v1), .second, .val (.long v2), .second, .val (.ref o6), .val (.long (-1 : Int64)), .second, .val (.ref o53)] [.long (own_res 2 (own_ch ((Int32.ofNat hn).toInt64 + (3 : Int64)) * own_ch ((Int32.ofNat hn).toInt64 + (3 : Int64))) v0 v1 v2)])) _
        refine g_lload X60 hx 440 rfl (hb hby at_438) rfl ?_
        refine g_lcmp X60 hx 441 rfl (hb hby at_440) ?_
        refine g_ifN X60 hx 444 rfl (hb hby at_441) (XT.ll_ne_f (by unfold own_res; simp only [y0, y1, if_true, if_false, Nat.lt_irrefl, Nat.reduceLT, not_true, not_false_eq_true])) ?_
        refine g_iconst X60 hx 445 rfl (1 : Int32) rfl (hb hby at_444) ?_
        refine g_goto X60 hx 449 (hb hby at_445) (by decide) (by decide) ?_
        exact g_retZ X60 hx hret hlk rfl (hb hby at_449) ⟨rfl, N60⟩ (by decide) (by decide)
      · refine g_ifN X51 hx 378 rfl (hb hby at_375) (XT.ll_lt_f y1) ?_
        refine g_lconst X51 hx 379 rfl (1 : Int64) rfl (hb hby at_378) ?_
        refine g_lstore X51 hx 381 rfl (hb hby at_379) #[.val (.int p1), .val (.int p2), .val (.int p3), .val (.long q1), .second, .val (.long q2), .second, .val (.long q3), .second, .val (.int (Int32.ofNat hn)), .val (.int (Int32.ofNat ln)), .val (.int (2 : Int32)), .val (.long (((Int32.ofNat hn).toInt64) + (3 : Int64))), .second, .val (.long (own_ch ((Int32.ofNat hn).toInt64 + (3 : Int64)))), .second, .val (.long ((own_ch ((Int32.ofNat hn).toInt64 + (3 : Int64))) * (own_ch ((Int32.ofNat hn).toInt64 + (3 : Int64))))), .second, .val (.int (Int32.ofNat k)), .val (.int (Int32.ofNat pb)), .val (.long (own_mk k)), .second, .val (.long v0), .second, .val (.long v1), .second, .val (.long v2), .second, .val (.ref o6), .val (.long (1 : Int64)), .second, .unset] rfl ?_
        refine g_goto X51 hx 411 (hb hby at_381) (by decide) (by decide) ?_
        refine g_new X51 hx hZ 414 rfl hown (hw _ (List.mem_of_getElem? (i := 37) rfl)) (hw _ (List.mem_of_getElem? (i := 38) rfl)) (hw _ (List.mem_of_getElem? (i := 6) rfl)) rfl (hb hby at_411) (by decide) (by decide) ?_
        intro T62 h62 o62 g62 X62 e62 E62 A62 D62
        have Exa63 := ((((((((((((((((((((((((((Ex6.wr W7).wr W8).wr W9).wr W10).wr W11).wr W12).wr W13).wr W14).wr W15).wr W16).wr W17).wr W18).wr W19).wr W20).wr W21).wr W22).wr W23).wr W24).wr W25).wr W26).wr W27).wr W28).wr W29).wr W30).keep K31).keep K51)
        have ne_o6_o62 : o6 ≠ o62 := Nat.ne_of_lt (Nat.lt_of_lt_of_eq Exa63.lt g62.symm)
        have Zl64 : n0 ≤ T51.heap.size := (Nat.le_trans Zl52 K51.1)
        have ge_o62 : n0 ≤ o62 := Nat.le_trans Zl64 (Nat.le_of_eq g62.symm)
        refine g_dup X62 hx 415 rfl (hb hby at_414) rfl ?_
        refine g_ldcJ X62 hx 418 rfl hown hZ (hw _ (List.mem_of_getElem? (i := 2) rfl)) (hb hby at_415) ?_
        refine g_iload X62 hx 420 rfl (hb hby at_418) rfl ?_
        refine g_i2l X62 hx 421 rfl (hb hby at_420) ?_
        refine g_lmul X62 hx 422 rfl (hb hby at_421) ?_
        refine g_iload X62 hx 424 rfl (hb hby at_422) rfl ?_
        refine g_iload X62 hx 426 rfl (hb hby at_424) rfl ?_
        refine g_aload X62 hx 428 rfl (hb hby at_426) rfl rfl ?_
        have hqb : (2 : Int64) * ((2 : Int32).toInt64) = Int64.ofNat (2 * 2) := by decide
        rw [hqb]
        have Al65 := (A51.ext E62)
        have lta : o6 < h62.size := Al65.lt
        have Zl67 : n0 ≤ h62.size := (Nat.le_trans Zl64 E62.1)
        refine g_callI X62 hx hZ 431 rfl (y := (⟨"com/example/maybe_set/maybeset/BucketTable", "<init>", "(JII[J)V"⟩ : MethodName)) rfl hown (hw _ (List.mem_of_getElem? (i := 39) rfl)) (hw _ (List.mem_of_getElem? (i := 40) rfl)) (hw _ (List.mem_of_getElem? (i := 6) rfl)) (hw _ (List.mem_of_getElem? (i := 41) rfl)) (by decide) o62 [.long (Int64.ofNat (2 * 2)), .int (Int32.ofNat hn), .int (Int32.ofNat ln), .ref o6] [.ref o62] (rmT l Z a0 hw [] o62 (Int64.ofNat (2 * 2)) (Int32.ofNat hn) (Int32.ofNat ln) o6 _ _ _ _ _ _ _ _ h62 n0 Zl67 A62 ge_o62 hM1 hM2 (D62 (Or.inr (hw _ (List.mem_of_getElem? (i := 46) rfl))) (ty := .long) (by decide)) (D62 (Or.inr (hw _ (List.mem_of_getElem? (i := 48) rfl))) (ty := .int) (by decide)) (D62 (Or.inr (hw _ (List.mem_of_getElem? (i := 50) rfl))) (ty := .int) (by decide)) (D62 (Or.inr (hw _ (List.mem_of_getElem? (i := 52) rfl))) (ty := .long) (by decide)) (D62 (Or.inr (hw _ (List.mem_of_getElem? (i := 70) rfl))) (ty := .object "com/example/maybe_set/maybeset/Modulus") (by decide)) (D62 (Or.inr (hw _ (List.mem_of_getElem? (i := 72) rfl))) (ty := .int) (by decide)) (D62 (Or.inr (hw _ (List.mem_of_getElem? (i := 75) rfl))) (ty := .int) (by decide)) (D62 (Or.inr (hw _ (List.mem_of_getElem? (i := 77) rfl))) (ty := .array .long) (by decide))) e62 (lenOf pd_10 rfl) rfl (by rw [hml]; rfl) (hb hby at_428) (by decide) 1 (Nat.le_of_eq rfl) (by decide) (by decide) (by decide) ?_
        rintro _ T66 L66 X66 ⟨rfl, N66q, K66, E66, B66, M66, R66, P66, W66⟩
        have N66 := Fr.app N51 N66q
        show Goes p e below (T66.setTop (mkF m 431 #[.val (.int p1), .val (.int p2), .val (.int p3), .val (.long q1), .second, .val (.long q2), .second, .val (.long q3), .second, .val (.int (Int32.ofNat hn)), .val (.int (Int32.ofNat ln)), .val (.int (2 : Int32)), .val (.long (((Int32.ofNat hn).toInt64) + (3 : Int64))), .second, .val (.long (own_ch ((Int32.ofNat hn).toInt64 + (3 : Int64)))), .second, .val (.long ((own_ch ((Int32.ofNat hn).toInt64 + (3 : Int64))) * (own_ch ((Int32.ofNat hn).toInt64 + (3 : Int64))))), .second, .val (.int (Int32.ofNat k)), .val (.int (Int32.ofNat pb)), .val (.long (own_mk k)), .second, .val (.long v0), .second, .val (.long v1), .second, .val (.long v2), .second, .val (.ref o6), .val (.long (1 : Int64)), .second, .unset] [.ref o62])) _
        rw [e_k, own_pb k ln k2 l_ln, e_pb] at P66
        rw [e_k] at R66
        refine g_astore X66 hx 433 rfl (hb hby at_431) rfl #[.val (.int p1), .val (.int p2), .val (.int p3), .val (.long q1), .second, .val (.long q2), .second, .val (.long q3), .second, .val (.int (Int32.ofNat hn)), .val (.int (Int32.ofNat ln)), .val (.int (2 : Int32)), .val (.long (((Int32.ofNat hn).toInt64) + (3 : Int64))), .second, .val (.long (own_ch ((Int32.ofNat hn).toInt64 + (3 : Int64)))), .second, .val (.long ((own_ch ((Int32.ofNat hn).toInt64 + (3 : Int64))) * (own_ch ((Int32.ofNat hn).toInt64 + (3 : Int64))))), .second, .val (.int (Int32.ofNat k)), .val (.int (Int32.ofNat pb)), .val (.long (own_mk k)), .second, .val (.long v0), .second, .val (.long v1), .second, .val (.long v2), .second, .val (.ref o6), .val (.long (1 : Int64)), .second, .val (.ref o62)] rfl ?_
        refine g_aload X66 hx 435 rfl (hb hby at_433) rfl rfl ?_
        have Al68 := (Al65.keep K66 (ninS ne_o6_o62 nin0))
        have Zl70 : n0 ≤ T66.heap.size := (Nat.le_trans Zl67 K66.1)
        refine g_callV X66 hx hZ 438 rfl (y := (⟨"com/example/maybe_set/maybeset/BucketTable", "firstInvalidPair", "()J"⟩ : MethodName)) hown (hw _ (List.mem_of_getElem? (i := 78) rfl)) (hw _ (List.mem_of_getElem? (i := 79) rfl)) (hw _ (List.mem_of_getElem? (i := 81) rfl)) (hw _ (List.mem_of_getElem? (i := 80) rfl)) (hw _ (List.mem_of_getElem? (i := 6) rfl)) (hw _ (List.mem_of_getElem? (i := 82) rfl)) (by decide) o62 [] [] (rmFI l Z a0 hw [] o62 o6 2 k pb ws2 (own_ch ((Int32.ofNat hn).toInt64 + (3 : Int64))) v0 v1 v2 T66.heap n0 Zl70 E66 B66 M66 R66 P66 W66 Al68 k2 l6 (by decide) (by decide) hv0 hv1 hv2 i0 (fun _ => i1) (fun z => absurd z (by decide))) rfl E66 (lenOf pd_11 rfl) rfl (by rw [hml]; rfl) (hb hby at_435) (by decide) 0 (Nat.le_of_eq rfl) (by decide) (by decide) (by decide) ?_
        rintro _ T69 L69 X69 ⟨rfl, N69q, e69⟩
        have N69 := Fr.app N66 N69q
        show Goes p e below (T69.setTop (mkF m 438 #[.val (.int p1), .val (.int p2), .val (.int p3), .val (.long q1), .second, .val (.long q2), .second, .val (.long q3), .second, .val (.int (Int32.ofNat hn)), .val (.int (Int32.ofNat ln)), .val (.int (2 : Int32)), .val (.long (((Int32.ofNat hn).toInt64) + (3 : Int64))), .second, .val (.long (own_ch ((Int32.ofNat hn).toInt64 + (3 : Int64)))), .second, .val (.long ((own_ch ((Int32.ofNat hn).toInt64 + (3 : Int64))) * (own_ch ((Int32.ofNat hn).toInt64 + (3 : Int64))))), .second, .val (.int (Int32.ofNat k)), .val (.int (Int32.ofNat pb)), .val (.long (own_mk k)), .second, .val (.long v0), .second, .val (.long v1), .second, .val (.long v2), .second, .val (.ref o6), .val (.long (1 : Int64)), .second, .val (.ref o62)] [.long (own_res 2 (own_ch ((Int32.ofNat hn).toInt64 + (3 : Int64)) * own_ch ((Int32.ofNat hn).toInt64 + (3 : Int64))) v0 v1 v2)])) _
        refine g_lload X69 hx 440 rfl (hb hby at_438) rfl ?_
        refine g_lcmp X69 hx 441 rfl (hb hby at_440) ?_
        refine g_ifN X69 hx 444 rfl (hb hby at_441) (XT.ll_ne_f (by unfold own_res; simp only [y0, y1, if_true, if_false, Nat.lt_irrefl, Nat.reduceLT, not_true, not_false_eq_true])) ?_
        refine g_iconst X69 hx 445 rfl (1 : Int32) rfl (hb hby at_444) ?_
        refine g_goto X69 hx 449 (hb hby at_445) (by decide) (by decide) ?_
        exact g_retZ X69 hx hret hlk rfl (hb hby at_449) ⟨rfl, N69⟩ (by decide) (by decide)
    · refine g_ifN X51 hx 358 rfl (hb hby at_355) (XT.ll_lt_f y0) ?_
      refine g_lconst X51 hx 359 rfl (0 : Int64) rfl (hb hby at_358) ?_
      refine g_lstore X51 hx 361 rfl (hb hby at_359) #[.val (.int p1), .val (.int p2), .val (.int p3), .val (.long q1), .second, .val (.long q2), .second, .val (.long q3), .second, .val (.int (Int32.ofNat hn)), .val (.int (Int32.ofNat ln)), .val (.int (2 : Int32)), .val (.long (((Int32.ofNat hn).toInt64) + (3 : Int64))), .second, .val (.long (own_ch ((Int32.ofNat hn).toInt64 + (3 : Int64)))), .second, .val (.long ((own_ch ((Int32.ofNat hn).toInt64 + (3 : Int64))) * (own_ch ((Int32.ofNat hn).toInt64 + (3 : Int64))))), .second, .val (.int (Int32.ofNat k)), .val (.int (Int32.ofNat pb)), .val (.long (own_mk k)), .second, .val (.long v0), .second, .val (.long v1), .second, .val (.long v2), .second, .val (.ref o6), .val (.long (0 : Int64)), .second, .unset] rfl ?_
      refine g_goto X51 hx 411 (hb hby at_361) (by decide) (by decide) ?_
      refine g_new X51 hx hZ 414 rfl hown (hw _ (List.mem_of_getElem? (i := 37) rfl)) (hw _ (List.mem_of_getElem? (i := 38) rfl)) (hw _ (List.mem_of_getElem? (i := 6) rfl)) rfl (hb hby at_411) (by decide) (by decide) ?_
      intro T71 h71 o71 g71 X71 e71 E71 A71 D71
      have Exa72 := ((((((((((((((((((((((((((Ex6.wr W7).wr W8).wr W9).wr W10).wr W11).wr W12).wr W13).wr W14).wr W15).wr W16).wr W17).wr W18).wr W19).wr W20).wr W21).wr W22).wr W23).wr W24).wr W25).wr W26).wr W27).wr W28).wr W29).wr W30).keep K31).keep K51)
      have ne_o6_o71 : o6 ≠ o71 := Nat.ne_of_lt (Nat.lt_of_lt_of_eq Exa72.lt g71.symm)
      have Zl73 : n0 ≤ T51.heap.size := (Nat.le_trans Zl52 K51.1)
      have ge_o71 : n0 ≤ o71 := Nat.le_trans Zl73 (Nat.le_of_eq g71.symm)
      refine g_dup X71 hx 415 rfl (hb hby at_414) rfl ?_
      refine g_ldcJ X71 hx 418 rfl hown hZ (hw _ (List.mem_of_getElem? (i := 2) rfl)) (hb hby at_415) ?_
      refine g_iload X71 hx 420 rfl (hb hby at_418) rfl ?_
      refine g_i2l X71 hx 421 rfl (hb hby at_420) ?_
      refine g_lmul X71 hx 422 rfl (hb hby at_421) ?_
      refine g_iload X71 hx 424 rfl (hb hby at_422) rfl ?_
      refine g_iload X71 hx 426 rfl (hb hby at_424) rfl ?_
      refine g_aload X71 hx 428 rfl (hb hby at_426) rfl rfl ?_
      have hqb : (2 : Int64) * ((2 : Int32).toInt64) = Int64.ofNat (2 * 2) := by decide
      rw [hqb]
      have Al74 := (A51.ext E71)
      have lta : o6 < h71.size := Al74.lt
      have Zl76 : n0 ≤ h71.size := (Nat.le_trans Zl73 E71.1)
      refine g_callI X71 hx hZ 431 rfl (y := (⟨"com/example/maybe_set/maybeset/BucketTable", "<init>", "(JII[J)V"⟩ : MethodName)) rfl hown (hw _ (List.mem_of_getElem? (i := 39) rfl)) (hw _ (List.mem_of_getElem? (i := 40) rfl)) (hw _ (List.mem_of_getElem? (i := 6) rfl)) (hw _ (List.mem_of_getElem? (i := 41) rfl)) (by decide) o71 [.long (Int64.ofNat (2 * 2)), .int (Int32.ofNat hn), .int (Int32.ofNat ln), .ref o6] [.ref o71] (rmT l Z a0 hw [] o71 (Int64.ofNat (2 * 2)) (Int32.ofNat hn) (Int32.ofNat ln) o6 _ _ _ _ _ _ _ _ h71 n0 Zl76 A71 ge_o71 hM1 hM2 (D71 (Or.inr (hw _ (List.mem_of_getElem? (i := 46) rfl))) (ty := .long) (by decide)) (D71 (Or.inr (hw _ (List.mem_of_getElem? (i := 48) rfl))) (ty := .int) (by decide)) (D71 (Or.inr (hw _ (List.mem_of_getElem? (i := 50) rfl))) (ty := .int) (by decide)) (D71 (Or.inr (hw _ (List.mem_of_getElem? (i := 52) rfl))) (ty := .long) (by decide)) (D71 (Or.inr (hw _ (List.mem_of_getElem? (i := 70) rfl))) (ty := .object "com/example/maybe_set/maybeset/Modulus") (by decide)) (D71 (Or.inr (hw _ (List.mem_of_getElem? (i := 72) rfl))) (ty := .int) (by decide)) (D71 (Or.inr (hw _ (List.mem_of_getElem? (i := 75) rfl))) (ty := .int) (by decide)) (D71 (Or.inr (hw _ (List.mem_of_getElem? (i := 77) rfl))) (ty := .array .long) (by decide))) e71 (lenOf pd_10 rfl) rfl (by rw [hml]; rfl) (hb hby at_428) (by decide) 1 (Nat.le_of_eq rfl) (by decide) (by decide) (by decide) ?_
      rintro _ T75 L75 X75 ⟨rfl, N75q, K75, E75, B75, M75, R75, P75, W75⟩
      have N75 := Fr.app N51 N75q
      show Goes p e below (T75.setTop (mkF m 431 #[.val (.int p1), .val (.int p2), .val (.int p3), .val (.long q1), .second, .val (.long q2), .second, .val (.long q3), .second, .val (.int (Int32.ofNat hn)), .val (.int (Int32.ofNat ln)), .val (.int (2 : Int32)), .val (.long (((Int32.ofNat hn).toInt64) + (3 : Int64))), .second, .val (.long (own_ch ((Int32.ofNat hn).toInt64 + (3 : Int64)))), .second, .val (.long ((own_ch ((Int32.ofNat hn).toInt64 + (3 : Int64))) * (own_ch ((Int32.ofNat hn).toInt64 + (3 : Int64))))), .second, .val (.int (Int32.ofNat k)), .val (.int (Int32.ofNat pb)), .val (.long (own_mk k)), .second, .val (.long v0), .second, .val (.long v1), .second, .val (.long v2), .second, .val (.ref o6), .val (.long (0 : Int64)), .second, .unset] [.ref o71])) _
      rw [e_k, own_pb k ln k2 l_ln, e_pb] at P75
      rw [e_k] at R75
      refine g_astore X75 hx 433 rfl (hb hby at_431) rfl #[.val (.int p1), .val (.int p2), .val (.int p3), .val (.long q1), .second, .val (.long q2), .second, .val (.long q3), .second, .val (.int (Int32.ofNat hn)), .val (.int (Int32.ofNat ln)), .val (.int (2 : Int32)), .val (.long (((Int32.ofNat hn).toInt64) + (3 : Int64))), .second, .val (.long (own_ch ((Int32.ofNat hn).toInt64 + (3 : Int64)))), .second, .val (.long ((own_ch ((Int32.ofNat hn).toInt64 + (3 : Int64))) * (own_ch ((Int32.ofNat hn).toInt64 + (3 : Int64))))), .second, .val (.int (Int32.ofNat k)), .val (.int (Int32.ofNat pb)), .val (.long (own_mk k)), .second, .val (.long v0), .second, .val (.long v1), .second, .val (.long v2), .second, .val (.ref o6), .val (.long (0 : Int64)), .second, .val (.ref o71)] rfl ?_
      refine g_aload X75 hx 435 rfl (hb hby at_433) rfl rfl ?_
      have Al77 := (Al74.keep K75 (ninS ne_o6_o71 nin0))
      have Zl79 : n0 ≤ T75.heap.size := (Nat.le_trans Zl76 K75.1)
      refine g_callV X75 hx hZ 438 rfl (y := (⟨"com/example/maybe_set/maybeset/BucketTable", "firstInvalidPair", "()J"⟩ : MethodName)) hown (hw _ (List.mem_of_getElem? (i := 78) rfl)) (hw _ (List.mem_of_getElem? (i := 79) rfl)) (hw _ (List.mem_of_getElem? (i := 81) rfl)) (hw _ (List.mem_of_getElem? (i := 80) rfl)) (hw _ (List.mem_of_getElem? (i := 6) rfl)) (hw _ (List.mem_of_getElem? (i := 82) rfl)) (by decide) o71 [] [] (rmFI l Z a0 hw [] o71 o6 2 k pb ws2 (own_ch ((Int32.ofNat hn).toInt64 + (3 : Int64))) v0 v1 v2 T75.heap n0 Zl79 E75 B75 M75 R75 P75 W75 Al77 k2 l6 (by decide) (by decide) hv0 hv1 hv2 i0 (fun _ => i1) (fun z => absurd z (by decide))) rfl E75 (lenOf pd_11 rfl) rfl (by rw [hml]; rfl) (hb hby at_435) (by decide) 0 (Nat.le_of_eq rfl) (by decide) (by decide) (by decide) ?_
      rintro _ T78 L78 X78 ⟨rfl, N78q, e78⟩
      have N78 := Fr.app N75 N78q
      show Goes p e below (T78.setTop (mkF m 438 #[.val (.int p1), .val (.int p2), .val (.int p3), .val (.long q1), .second, .val (.long q2), .second, .val (.long q3), .second, .val (.int (Int32.ofNat hn)), .val (.int (Int32.ofNat ln)), .val (.int (2 : Int32)), .val (.long (((Int32.ofNat hn).toInt64) + (3 : Int64))), .second, .val (.long (own_ch ((Int32.ofNat hn).toInt64 + (3 : Int64)))), .second, .val (.long ((own_ch ((Int32.ofNat hn).toInt64 + (3 : Int64))) * (own_ch ((Int32.ofNat hn).toInt64 + (3 : Int64))))), .second, .val (.int (Int32.ofNat k)), .val (.int (Int32.ofNat pb)), .val (.long (own_mk k)), .second, .val (.long v0), .second, .val (.long v1), .second, .val (.long v2), .second, .val (.ref o6), .val (.long (0 : Int64)), .second, .val (.ref o71)] [.long (own_res 2 (own_ch ((Int32.ofNat hn).toInt64 + (3 : Int64)) * own_ch ((Int32.ofNat hn).toInt64 + (3 : Int64))) v0 v1 v2)])) _
      refine g_lload X78 hx 440 rfl (hb hby at_438) rfl ?_
      refine g_lcmp X78 hx 441 rfl (hb hby at_440) ?_
      refine g_ifN X78 hx 444 rfl (hb hby at_441) (XT.ll_ne_f (by unfold own_res; simp only [y0, if_true, if_false, Nat.lt_irrefl, Nat.reduceLT, not_true, not_false_eq_true])) ?_
      refine g_iconst X78 hx 445 rfl (1 : Int32) rfl (hb hby at_444) ?_
      refine g_goto X78 hx 449 (hb hby at_445) (by decide) (by decide) ?_
      exact g_retZ X78 hx hret hlk rfl (hb hby at_449) ⟨rfl, N78⟩ (by decide) (by decide)
  · show Goes p e below (T31.setTop (mkF m 310 #[.val (.int p1), .val (.int p2), .val (.int p3), .val (.long q1), .second, .val (.long q2), .second, .val (.long q3), .second, .val (.int (Int32.ofNat hn)), .val (.int (Int32.ofNat ln)), .val (.int (3 : Int32)), .val (.long (((Int32.ofNat hn).toInt64) + (3 : Int64))), .second, .val (.long (own_ch ((Int32.ofNat hn).toInt64 + (3 : Int64)))), .second, .val (.long ((own_ch ((Int32.ofNat hn).toInt64 + (3 : Int64))) * (own_ch ((Int32.ofNat hn).toInt64 + (3 : Int64))))), .second, .val (.int (Int32.ofNat k)), .val (.int (Int32.ofNat pb)), .val (.long (own_mk k)), .second, .val (.long v0), .second, .val (.long v1), .second, .val (.long v2), .second, .val (.ref o6), .unset, .unset, .unset] [])) _
    refine g_iload X31 hx 312 rfl (hb hby at_310) rfl ?_
    refine g_iconst X31 hx 313 rfl (1 : Int32) rfl (hb hby at_312) ?_
    refine g_icmpN X31 hx 316 rfl (hb hby at_313) (XT.ii_le_f (by decide)) ?_
    refine g_aload X31 hx 318 rfl (hb hby at_316) rfl rfl ?_
    refine g_iload X31 hx 320 rfl (hb hby at_318) rfl ?_
    refine g_i2l X31 hx 321 rfl (hb hby at_320) ?_
    rw [own_i2l pb (by omega)]
    refine g_iload X31 hx 323 rfl (hb hby at_321) rfl ?_
    refine g_lload X31 hx 325 rfl (hb hby at_323) rfl ?_
    have Zl81 : n0 ≤ T31.heap.size := (Nat.le_trans Zl32 K31.1)
    refine g_callS X31 hx hZ 328 rfl (y := (⟨"com/example/maybe_set/maybeset/BucketTableFirstInvalidPairPinLaw", "put", "([JJIJ)V"⟩ : MethodName)) hown (hw _ (List.mem_of_getElem? (i := 33) rfl)) (hw _ (List.mem_of_getElem? (i := 34) rfl)) (hw _ (List.mem_of_getElem? (i := 29) rfl)) (hw _ (List.mem_of_getElem? (i := 35) rfl)) (by decide) [.ref o6, .long (Int64.ofNat pb), .int (Int32.ofNat k), .long v1] [] (rmPut l Z a0 hw [] o6 pb k v1 ws1 T31.heap n0 Zl81 A31 ge_o6 (by omega) k2 hv1) rfl (lenOf pd_9 rfl) rfl (by rw [hml]; rfl) (hb hby at_325) (by decide) 0 (Nat.le_of_eq rfl) (by decide) (by decide) (by decide) ?_
    rintro _ T80 L80 X80 ⟨ws2, rfl, N80q, K80, A80, R1⟩
    have N80 := Fr.app N31 N80q
    show Goes p e below (T80.setTop (mkF m 328 #[.val (.int p1), .val (.int p2), .val (.int p3), .val (.long q1), .second, .val (.long q2), .second, .val (.long q3), .second, .val (.int (Int32.ofNat hn)), .val (.int (Int32.ofNat ln)), .val (.int (3 : Int32)), .val (.long (((Int32.ofNat hn).toInt64) + (3 : Int64))), .second, .val (.long (own_ch ((Int32.ofNat hn).toInt64 + (3 : Int64)))), .second, .val (.long ((own_ch ((Int32.ofNat hn).toInt64 + (3 : Int64))) * (own_ch ((Int32.ofNat hn).toInt64 + (3 : Int64))))), .second, .val (.int (Int32.ofNat k)), .val (.int (Int32.ofNat pb)), .val (.long (own_mk k)), .second, .val (.long v0), .second, .val (.long v1), .second, .val (.long v2), .second, .val (.ref o6), .unset, .unset, .unset] [])) _
    have i1 := own_is_wr R1
    replace i0 := own_is_keep R1 i0 (by omega)
    refine g_iload X80 hx 330 rfl (hb hby at_328) rfl ?_
    refine g_iconst X80 hx 331 rfl (2 : Int32) rfl (hb hby at_330) ?_
    refine g_icmpN X80 hx 334 rfl (hb hby at_331) (XT.ii_le_f (by decide)) ?_
    refine g_aload X80 hx 336 rfl (hb hby at_334) rfl rfl ?_
    refine g_ldcJ X80 hx 339 rfl hown hZ (hw _ (List.mem_of_getElem? (i := 2) rfl)) (hb hby at_336) ?_
    refine g_iload X80 hx 341 rfl (hb hby at_339) rfl ?_
    refine g_i2l X80 hx 342 rfl (hb hby at_341) ?_
    rw [own_i2l pb (by omega)]
    have hm2 : (2 : Int64) * Int64.ofNat pb = Int64.ofNat (2 * pb) := own_mulL 2 2 rfl pb (by omega) (by omega)
    refine g_lmul X80 hx 343 rfl (hb hby at_342) ?_
    rw [hm2]
    refine g_iload X80 hx 345 rfl (hb hby at_343) rfl ?_
    refine g_lload X80 hx 347 rfl (hb hby at_345) rfl ?_
    have Zl83 : n0 ≤ T80.heap.size := (Nat.le_trans Zl81 K80.1)
    refine g_callS X80 hx hZ 350 rfl (y := (⟨"com/example/maybe_set/maybeset/BucketTableFirstInvalidPairPinLaw", "put", "([JJIJ)V"⟩ : MethodName)) hown (hw _ (List.mem_of_getElem? (i := 33) rfl)) (hw _ (List.mem_of_getElem? (i := 34) rfl)) (hw _ (List.mem_of_getElem? (i := 29) rfl)) (hw _ (List.mem_of_getElem? (i := 35) rfl)) (by decide) [.ref o6, .long (Int64.ofNat (2 * pb)), .int (Int32.ofNat k), .long v2] [] (rmPut l Z a0 hw [] o6 (2 * pb) k v2 ws2 T80.heap n0 Zl83 A80 ge_o6 (by omega) k2 hv2) rfl (lenOf pd_9 rfl) rfl (by rw [hml]; rfl) (hb hby at_347) (by decide) 0 (Nat.le_of_eq rfl) (by decide) (by decide) (by decide) ?_
    rintro _ T82 L82 X82 ⟨ws3, rfl, N82q, K82, A82, R2⟩
    have N82 := Fr.app N80 N82q
    show Goes p e below (T82.setTop (mkF m 350 #[.val (.int p1), .val (.int p2), .val (.int p3), .val (.long q1), .second, .val (.long q2), .second, .val (.long q3), .second, .val (.int (Int32.ofNat hn)), .val (.int (Int32.ofNat ln)), .val (.int (3 : Int32)), .val (.long (((Int32.ofNat hn).toInt64) + (3 : Int64))), .second, .val (.long (own_ch ((Int32.ofNat hn).toInt64 + (3 : Int64)))), .second, .val (.long ((own_ch ((Int32.ofNat hn).toInt64 + (3 : Int64))) * (own_ch ((Int32.ofNat hn).toInt64 + (3 : Int64))))), .second, .val (.int (Int32.ofNat k)), .val (.int (Int32.ofNat pb)), .val (.long (own_mk k)), .second, .val (.long v0), .second, .val (.long v1), .second, .val (.long v2), .second, .val (.ref o6), .unset, .unset, .unset] [])) _
    have i2 := own_is_wr R2
    replace i0 := own_is_keep R2 i0 (by omega)
    replace i1 := own_is_keep R2 i1 (by omega)
    refine g_lload X82 hx 352 rfl (hb hby at_350) rfl ?_
    refine g_lload X82 hx 354 rfl (hb hby at_352) rfl ?_
    refine g_lcmp X82 hx 355 rfl (hb hby at_354) ?_
    by_cases y0 : v0 < ((own_ch ((Int32.ofNat hn).toInt64 + (3 : Int64))) * (own_ch ((Int32.ofNat hn).toInt64 + (3 : Int64))))
    · refine g_ifY X82 hx 364 (hb hby at_355) (XT.ll_lt_t y0) (by decide) (by decide) ?_
      refine g_iload X82 hx 366 rfl (hb hby at_364) rfl ?_
      refine g_iconst X82 hx 367 rfl (1 : Int32) rfl (hb hby at_366) ?_
      refine g_icmpN X82 hx 370 rfl (hb hby at_367) (XT.ii_le_f (by decide)) ?_
      refine g_lload X82 hx 372 rfl (hb hby at_370) rfl ?_
      refine g_lload X82 hx 374 rfl (hb hby at_372) rfl ?_
      refine g_lcmp X82 hx 375 rfl (hb hby at_374) ?_
      by_cases y1 : v1 < ((own_ch ((Int32.ofNat hn).toInt64 + (3 : Int64))) * (own_ch ((Int32.ofNat hn).toInt64 + (3 : Int64))))
      · refine g_ifY X82 hx 384 (hb hby at_375) (XT.ll_lt_t y1) (by decide) (by decide) ?_
        refine g_iload X82 hx 386 rfl (hb hby at_384) rfl ?_
        refine g_iconst X82 hx 387 rfl (2 : Int32) rfl (hb hby at_386) ?_
        refine g_icmpN X82 hx 390 rfl (hb hby at_387) (XT.ii_le_f (by decide)) ?_
        refine g_lload X82 hx 392 rfl (hb hby at_390) rfl ?_
        refine g_lload X82 hx 394 rfl (hb hby at_392) rfl ?_
        refine g_lcmp X82 hx 395 rfl (hb hby at_394) ?_
        by_cases y2 : v2 < ((own_ch ((Int32.ofNat hn).toInt64 + (3 : Int64))) * (own_ch ((Int32.ofNat hn).toInt64 + (3 : Int64))))
        · refine g_ifY X82 hx 406 (hb hby at_395) (XT.ll_lt_t y2) (by decide) (by decide) ?_
          refine g_ldcJ X82 hx 409 rfl hown hZ (hw _ (List.mem_of_getElem? (i := 32) rfl)) (hb hby at_406) ?_
          refine g_lstore X82 hx 411 rfl (hb hby at_409) #[.val (.int p1), .val (.int p2), .val (.int p3), .val (.long q1), .second, .val (.long q2), .second, .val (.long q3), .second, .val (.int (Int32.ofNat hn)), .val (.int (Int32.ofNat ln)), .val (.int (3 : Int32)), .val (.long (((Int32.ofNat hn).toInt64) + (3 : Int64))), .second, .val (.long (own_ch ((Int32.ofNat hn).toInt64 + (3 : Int64)))), .second, .val (.long ((own_ch ((Int32.ofNat hn).toInt64 + (3 : Int64))) * (own_ch ((Int32.ofNat hn).toInt64 + (3 : Int64))))), .second, .val (.int (Int32.ofNat k)), .val (.int (Int32.ofNat pb)), .val (.long (own_mk k)), .second, .val (.long v0), .second, .val (.long v1), .second, .val (.long v2), .second, .val (.ref o6), .val (.long (-1 : Int64)), .second, .unset] rfl ?_
          refine g_new X82 hx hZ 414 rfl hown (hw _ (List.mem_of_getElem? (i := 37) rfl)) (hw _ (List.mem_of_getElem? (i := 38) rfl)) (hw _ (List.mem_of_getElem? (i := 6) rfl)) rfl (hb hby at_411) (by decide) (by decide) ?_
          intro T84 h84 o84 g84 X84 e84 E84 A84 D84
          have Exa85 := (((((((((((((((((((((((((((Ex6.wr W7).wr W8).wr W9).wr W10).wr W11).wr W12).wr W13).wr W14).wr W15).wr W16).wr W17).wr W18).wr W19).wr W20).wr W21).wr W22).wr W23).wr W24).wr W25).wr W26).wr W27).wr W28).wr W29).wr W30).keep K31).keep K80).keep K82)
          have ne_o6_o84 : o6 ≠ o84 := Nat.ne_of_lt (Nat.lt_of_lt_of_eq Exa85.lt g84.symm)
          have Zl86 : n0 ≤ T82.heap.size := (Nat.le_trans Zl83 K82.1)
          have ge_o84 : n0 ≤ o84 := Nat.le_trans Zl86 (Nat.le_of_eq g84.symm)
          refine g_dup X84 hx 415 rfl (hb hby at_414) rfl ?_
          refine g_ldcJ X84 hx 418 rfl hown hZ (hw _ (List.mem_of_getElem? (i := 2) rfl)) (hb hby at_415) ?_
          refine g_iload X84 hx 420 rfl (hb hby at_418) rfl ?_
          refine g_i2l X84 hx 421 rfl (hb hby at_420) ?_
          refine g_lmul X84 hx 422 rfl (hb hby at_421) ?_
          refine g_iload X84 hx 424 rfl (hb hby at_422) rfl ?_
          refine g_iload X84 hx 426 rfl (hb hby at_424) rfl ?_
          refine g_aload X84 hx 428 rfl (hb hby at_426) rfl rfl ?_
          have hqb : (2 : Int64) * ((3 : Int32).toInt64) = Int64.ofNat (2 * 3) := by decide
          rw [hqb]
          have Al87 := (A82.ext E84)
          have lta : o6 < h84.size := Al87.lt
          have Zl89 : n0 ≤ h84.size := (Nat.le_trans Zl86 E84.1)
          refine g_callI X84 hx hZ 431 rfl (y := (⟨"com/example/maybe_set/maybeset/BucketTable", "<init>", "(JII[J)V"⟩ : MethodName)) rfl hown (hw _ (List.mem_of_getElem? (i := 39) rfl)) (hw _ (List.mem_of_getElem? (i := 40) rfl)) (hw _ (List.mem_of_getElem? (i := 6) rfl)) (hw _ (List.mem_of_getElem? (i := 41) rfl)) (by decide) o84 [.long (Int64.ofNat (2 * 3)), .int (Int32.ofNat hn), .int (Int32.ofNat ln), .ref o6] [.ref o84] (rmT l Z a0 hw [] o84 (Int64.ofNat (2 * 3)) (Int32.ofNat hn) (Int32.ofNat ln) o6 _ _ _ _ _ _ _ _ h84 n0 Zl89 A84 ge_o84 hM1 hM2 (D84 (Or.inr (hw _ (List.mem_of_getElem? (i := 46) rfl))) (ty := .long) (by decide)) (D84 (Or.inr (hw _ (List.mem_of_getElem? (i := 48) rfl))) (ty := .int) (by decide)) (D84 (Or.inr (hw _ (List.mem_of_getElem? (i := 50) rfl))) (ty := .int) (by decide)) (D84 (Or.inr (hw _ (List.mem_of_getElem? (i := 52) rfl))) (ty := .long) (by decide)) (D84 (Or.inr (hw _ (List.mem_of_getElem? (i := 70) rfl))) (ty := .object "com/example/maybe_set/maybeset/Modulus") (by decide)) (D84 (Or.inr (hw _ (List.mem_of_getElem? (i := 72) rfl))) (ty := .int) (by decide)) (D84 (Or.inr (hw _ (List.mem_of_getElem? (i := 75) rfl))) (ty := .int) (by decide)) (D84 (Or.inr (hw _ (List.mem_of_getElem? (i := 77) rfl))) (ty := .array .long) (by decide))) e84 (lenOf pd_10 rfl) rfl (by rw [hml]; rfl) (hb hby at_428) (by decide) 1 (Nat.le_of_eq rfl) (by decide) (by decide) (by decide) ?_
          rintro _ T88 L88 X88 ⟨rfl, N88q, K88, E88, B88, M88, R88, P88, W88⟩
          have N88 := Fr.app N82 N88q
          show Goes p e below (T88.setTop (mkF m 431 #[.val (.int p1), .val (.int p2), .val (.int p3), .val (.long q1), .second, .val (.long q2), .second, .val (.long q3), .second, .val (.int (Int32.ofNat hn)), .val (.int (Int32.ofNat ln)), .val (.int (3 : Int32)), .val (.long (((Int32.ofNat hn).toInt64) + (3 : Int64))), .second, .val (.long (own_ch ((Int32.ofNat hn).toInt64 + (3 : Int64)))), .second, .val (.long ((own_ch ((Int32.ofNat hn).toInt64 + (3 : Int64))) * (own_ch ((Int32.ofNat hn).toInt64 + (3 : Int64))))), .second, .val (.int (Int32.ofNat k)), .val (.int (Int32.ofNat pb)), .val (.long (own_mk k)), .second, .val (.long v0), .second, .val (.long v1), .second, .val (.long v2), .second, .val (.ref o6), .val (.long (-1 : Int64)), .second, .unset] [.ref o84])) _
          rw [e_k, own_pb k ln k2 l_ln, e_pb] at P88
          rw [e_k] at R88
          refine g_astore X88 hx 433 rfl (hb hby at_431) rfl #[.val (.int p1), .val (.int p2), .val (.int p3), .val (.long q1), .second, .val (.long q2), .second, .val (.long q3), .second, .val (.int (Int32.ofNat hn)), .val (.int (Int32.ofNat ln)), .val (.int (3 : Int32)), .val (.long (((Int32.ofNat hn).toInt64) + (3 : Int64))), .second, .val (.long (own_ch ((Int32.ofNat hn).toInt64 + (3 : Int64)))), .second, .val (.long ((own_ch ((Int32.ofNat hn).toInt64 + (3 : Int64))) * (own_ch ((Int32.ofNat hn).toInt64 + (3 : Int64))))), .second, .val (.int (Int32.ofNat k)), .val (.int (Int32.ofNat pb)), .val (.long (own_mk k)), .second, .val (.long v0), .second, .val (.long v1), .second, .val (.long v2), .second, .val (.ref o6), .val (.long (-1 : Int64)), .second, .val (.ref o84)] rfl ?_
          refine g_aload X88 hx 435 rfl (hb hby at_433) rfl rfl ?_
          have Al90 := (Al87.keep K88 (ninS ne_o6_o84 nin0))
          have Zl92 : n0 ≤ T88.heap.size := (Nat.le_trans Zl89 K88.1)
          refine g_callV X88 hx hZ 438 rfl (y := (⟨"com/example/maybe_set/maybeset/BucketTable", "firstInvalidPair", "()J"⟩ : MethodName)) hown (hw _ (List.mem_of_getElem? (i := 78) rfl)) (hw _ (List.mem_of_getElem? (i := 79) rfl)) (hw _ (List.mem_of_getElem? (i := 81) rfl)) (hw _ (List.mem_of_getElem? (i := 80) rfl)) (hw _ (List.mem_of_getElem? (i := 6) rfl)) (hw _ (List.mem_of_getElem? (i := 82) rfl)) (by decide) o84 [] [] (rmFI l Z a0 hw [] o84 o6 3 k pb ws3 (own_ch ((Int32.ofNat hn).toInt64 + (3 : Int64))) v0 v1 v2 T88.heap n0 Zl92 E88 B88 M88 R88 P88 W88 Al90 k2 l6 (by decide) (by decide) hv0 hv1 hv2 i0 (fun _ => i1) (fun _ => i2)) rfl E88 (lenOf pd_11 rfl) rfl (by rw [hml]; rfl) (hb hby at_435) (by decide) 0 (Nat.le_of_eq rfl) (by decide) (by decide) (by decide) ?_
          rintro _ T91 L91 X91 ⟨rfl, N91q, e91⟩
          have N91 := Fr.app N88 N91q
          show Goes p e below (T91.setTop (mkF m 438 #[.val (.int p1), .val (.int p2), .val (.int p3), .val (.long q1), .second, .val (.long q2), .second, .val (.long q3), .second, .val (.int (Int32.ofNat hn)), .val (.int (Int32.ofNat ln)), .val (.int (3 : Int32)), .val (.long (((Int32.ofNat hn).toInt64) + (3 : Int64))), .second, .val (.long (own_ch ((Int32.ofNat hn).toInt64 + (3 : Int64)))), .second, .val (.long ((own_ch ((Int32.ofNat hn).toInt64 + (3 : Int64))) * (own_ch ((Int32.ofNat hn).toInt64 + (3 : Int64))))), .second, .val (.int (Int32.ofNat k)), .val (.int (Int32.ofNat pb)), .val (.long (own_mk k)), .second, .val (.long v0), .second, .val (.long v1), .second, .val (.long v2), .second, .val (.ref o6), .val (.long (-1 : Int64)), .second, .val (.ref o84)] [.long (own_res 3 (own_ch ((Int32.ofNat hn).toInt64 + (3 : Int64)) * own_ch ((Int32.ofNat hn).toInt64 + (3 : Int64))) v0 v1 v2)])) _
          refine g_lload X91 hx 440 rfl (hb hby at_438) rfl ?_
          refine g_lcmp X91 hx 441 rfl (hb hby at_440) ?_
          refine g_ifN X91 hx 444 rfl (hb hby at_441) (XT.ll_ne_f (by unfold own_res; simp only [y0, y1, y2, if_true, if_false, Nat.lt_irrefl, Nat.reduceLT, not_true, not_false_eq_true])) ?_
          refine g_iconst X91 hx 445 rfl (1 : Int32) rfl (hb hby at_444) ?_
          refine g_goto X91 hx 449 (hb hby at_445) (by decide) (by decide) ?_
          exact g_retZ X91 hx hret hlk rfl (hb hby at_449) ⟨rfl, N91⟩ (by decide) (by decide)
        · refine g_ifN X82 hx 398 rfl (hb hby at_395) (XT.ll_lt_f y2) ?_
          refine g_ldcJ X82 hx 401 rfl hown hZ (hw _ (List.mem_of_getElem? (i := 2) rfl)) (hb hby at_398) ?_
          refine g_lstore X82 hx 403 rfl (hb hby at_401) #[.val (.int p1), .val (.int p2), .val (.int p3), .val (.long q1), .second, .val (.long q2), .second, .val (.long q3), .second, .val (.int (Int32.ofNat hn)), .val (.int (Int32.ofNat ln)), .val (.int (3 : Int32)), .val (.long (((Int32.ofNat hn).toInt64) + (3 : Int64))), .second, .val (.long (own_ch ((Int32.ofNat hn).toInt64 + (3 : Int64)))), .second, .val (.long ((own_ch ((Int32.ofNat hn).toInt64 + (3 : Int64))) * (own_ch ((Int32.ofNat hn).toInt64 + (3 : Int64))))), .second, .val (.int (Int32.ofNat k)), .val (.int (Int32.ofNat pb)), .val (.long (own_mk k)), .second, .val (.long v0), .second, .val (.long v1), .second, .val (.long v2), .second, .val (.ref o6), .val (.long (2 : Int64)), .second, .unset] rfl ?_
          refine g_goto X82 hx 411 (hb hby at_403) (by decide) (by decide) ?_
          refine g_new X82 hx hZ 414 rfl hown (hw _ (List.mem_of_getElem? (i := 37) rfl)) (hw _ (List.mem_of_getElem? (i := 38) rfl)) (hw _ (List.mem_of_getElem? (i := 6) rfl)) rfl (hb hby at_411) (by decide) (by decide) ?_
          intro T93 h93 o93 g93 X93 e93 E93 A93 D93
          have Exa94 := (((((((((((((((((((((((((((Ex6.wr W7).wr W8).wr W9).wr W10).wr W11).wr W12).wr W13).wr W14).wr W15).wr W16).wr W17).wr W18).wr W19).wr W20).wr W21).wr W22).wr W23).wr W24).wr W25).wr W26).wr W27).wr W28).wr W29).wr W30).keep K31).keep K80).keep K82)
          have ne_o6_o93 : o6 ≠ o93 := Nat.ne_of_lt (Nat.lt_of_lt_of_eq Exa94.lt g93.symm)
          have Zl95 : n0 ≤ T82.heap.size := (Nat.le_trans Zl83 K82.1)
          have ge_o93 : n0 ≤ o93 := Nat.le_trans Zl95 (Nat.le_of_eq g93.symm)
          refine g_dup X93 hx 415 rfl (hb hby at_414) rfl ?_
          refine g_ldcJ X93 hx 418 rfl hown hZ (hw _ (List.mem_of_getElem? (i := 2) rfl)) (hb hby at_415) ?_
          refine g_iload X93 hx 420 rfl (hb hby at_418) rfl ?_
          refine g_i2l X93 hx 421 rfl (hb hby at_420) ?_
          refine g_lmul X93 hx 422 rfl (hb hby at_421) ?_
          refine g_iload X93 hx 424 rfl (hb hby at_422) rfl ?_
          refine g_iload X93 hx 426 rfl (hb hby at_424) rfl ?_
          refine g_aload X93 hx 428 rfl (hb hby at_426) rfl rfl ?_
          have hqb : (2 : Int64) * ((3 : Int32).toInt64) = Int64.ofNat (2 * 3) := by decide
          rw [hqb]
          have Al96 := (A82.ext E93)
          have lta : o6 < h93.size := Al96.lt
          have Zl98 : n0 ≤ h93.size := (Nat.le_trans Zl95 E93.1)
          refine g_callI X93 hx hZ 431 rfl (y := (⟨"com/example/maybe_set/maybeset/BucketTable", "<init>", "(JII[J)V"⟩ : MethodName)) rfl hown (hw _ (List.mem_of_getElem? (i := 39) rfl)) (hw _ (List.mem_of_getElem? (i := 40) rfl)) (hw _ (List.mem_of_getElem? (i := 6) rfl)) (hw _ (List.mem_of_getElem? (i := 41) rfl)) (by decide) o93 [.long (Int64.ofNat (2 * 3)), .int (Int32.ofNat hn), .int (Int32.ofNat ln), .ref o6] [.ref o93] (rmT l Z a0 hw [] o93 (Int64.ofNat (2 * 3)) (Int32.ofNat hn) (Int32.ofNat ln) o6 _ _ _ _ _ _ _ _ h93 n0 Zl98 A93 ge_o93 hM1 hM2 (D93 (Or.inr (hw _ (List.mem_of_getElem? (i := 46) rfl))) (ty := .long) (by decide)) (D93 (Or.inr (hw _ (List.mem_of_getElem? (i := 48) rfl))) (ty := .int) (by decide)) (D93 (Or.inr (hw _ (List.mem_of_getElem? (i := 50) rfl))) (ty := .int) (by decide)) (D93 (Or.inr (hw _ (List.mem_of_getElem? (i := 52) rfl))) (ty := .long) (by decide)) (D93 (Or.inr (hw _ (List.mem_of_getElem? (i := 70) rfl))) (ty := .object "com/example/maybe_set/maybeset/Modulus") (by decide)) (D93 (Or.inr (hw _ (List.mem_of_getElem? (i := 72) rfl))) (ty := .int) (by decide)) (D93 (Or.inr (hw _ (List.mem_of_getElem? (i := 75) rfl))) (ty := .int) (by decide)) (D93 (Or.inr (hw _ (List.mem_of_getElem? (i := 77) rfl))) (ty := .array .long) (by decide))) e93 (lenOf pd_10 rfl) rfl (by rw [hml]; rfl) (hb hby at_428) (by decide) 1 (Nat.le_of_eq rfl) (by decide) (by decide) (by decide) ?_
          rintro _ T97 L97 X97 ⟨rfl, N97q, K97, E97, B97, M97, R97, P97, W97⟩
          have N97 := Fr.app N82 N97q
          show Goes p e below (T97.setTop (mkF m 431 #[.val (.int p1), .val (.int p2), .val (.int p3), .val (.long q1), .second, .val (.long q2), .second, .val (.long q3), .second, .val (.int (Int32.ofNat hn)), .val (.int (Int32.ofNat ln)), .val (.int (3 : Int32)), .val (.long (((Int32.ofNat hn).toInt64) + (3 : Int64))), .second, .val (.long (own_ch ((Int32.ofNat hn).toInt64 + (3 : Int64)))), .second, .val (.long ((own_ch ((Int32.ofNat hn).toInt64 + (3 : Int64))) * (own_ch ((Int32.ofNat hn).toInt64 + (3 : Int64))))), .second, .val (.int (Int32.ofNat k)), .val (.int (Int32.ofNat pb)), .val (.long (own_mk k)), .second, .val (.long v0), .second, .val (.long v1), .second, .val (.long v2), .second, .val (.ref o6), .val (.long (2 : Int64)), .second, .unset] [.ref o93])) _
          rw [e_k, own_pb k ln k2 l_ln, e_pb] at P97
          rw [e_k] at R97
          refine g_astore X97 hx 433 rfl (hb hby at_431) rfl #[.val (.int p1), .val (.int p2), .val (.int p3), .val (.long q1), .second, .val (.long q2), .second, .val (.long q3), .second, .val (.int (Int32.ofNat hn)), .val (.int (Int32.ofNat ln)), .val (.int (3 : Int32)), .val (.long (((Int32.ofNat hn).toInt64) + (3 : Int64))), .second, .val (.long (own_ch ((Int32.ofNat hn).toInt64 + (3 : Int64)))), .second, .val (.long ((own_ch ((Int32.ofNat hn).toInt64 + (3 : Int64))) * (own_ch ((Int32.ofNat hn).toInt64 + (3 : Int64))))), .second, .val (.int (Int32.ofNat k)), .val (.int (Int32.ofNat pb)), .val (.long (own_mk k)), .second, .val (.long v0), .second, .val (.long v1), .second, .val (.long v2), .second, .val (.ref o6), .val (.long (2 : Int64)), .second, .val (.ref o93)] rfl ?_
          refine g_aload X97 hx 435 rfl (hb hby at_433) rfl rfl ?_
          have Al99 := (Al96.keep K97 (ninS ne_o6_o93 nin0))
          have Zl101 : n0 ≤ T97.heap.size := (Nat.le_trans Zl98 K97.1)
          refine g_callV X97 hx hZ 438 rfl (y := (⟨"com/example/maybe_set/maybeset/BucketTable", "firstInvalidPair", "()J"⟩ : MethodName)) hown (hw _ (List.mem_of_getElem? (i := 78) rfl)) (hw _ (List.mem_of_getElem? (i := 79) rfl)) (hw _ (List.mem_of_getElem? (i := 81) rfl)) (hw _ (List.mem_of_getElem? (i := 80) rfl)) (hw _ (List.mem_of_getElem? (i := 6) rfl)) (hw _ (List.mem_of_getElem? (i := 82) rfl)) (by decide) o93 [] [] (rmFI l Z a0 hw [] o93 o6 3 k pb ws3 (own_ch ((Int32.ofNat hn).toInt64 + (3 : Int64))) v0 v1 v2 T97.heap n0 Zl101 E97 B97 M97 R97 P97 W97 Al99 k2 l6 (by decide) (by decide) hv0 hv1 hv2 i0 (fun _ => i1) (fun _ => i2)) rfl E97 (lenOf pd_11 rfl) rfl (by rw [hml]; rfl) (hb hby at_435) (by decide) 0 (Nat.le_of_eq rfl) (by decide) (by decide) (by decide) ?_
          rintro _ T100 L100 X100 ⟨rfl, N100q, e100⟩
          have N100 := Fr.app N97 N100q
          show Goes p e below (T100.setTop (mkF m 438 #[.val (.int p1), .val (.int p2), .val (.int p3), .val (.long q1), .second, .val (.long q2), .second, .val (.long q3), .second, .val (.int (Int32.ofNat hn)), .val (.int (Int32.ofNat ln)), .val (.int (3 : Int32)), .val (.long (((Int32.ofNat hn).toInt64) + (3 : Int64))), .second, .val (.long (own_ch ((Int32.ofNat hn).toInt64 + (3 : Int64)))), .second, .val (.long ((own_ch ((Int32.ofNat hn).toInt64 + (3 : Int64))) * (own_ch ((Int32.ofNat hn).toInt64 + (3 : Int64))))), .second, .val (.int (Int32.ofNat k)), .val (.int (Int32.ofNat pb)), .val (.long (own_mk k)), .second, .val (.long v0), .second, .val (.long v1), .second, .val (.long v2), .second, .val (.ref o6), .val (.long (2 : Int64)), .second, .val (.ref o93)] [.long (own_res 3 (own_ch ((Int32.ofNat hn).toInt64 + (3 : Int64)) * own_ch ((Int32.ofNat hn).toInt64 + (3 : Int64))) v0 v1 v2)])) _
          refine g_lload X100 hx 440 rfl (hb hby at_438) rfl ?_
          refine g_lcmp X100 hx 441 rfl (hb hby at_440) ?_
          refine g_ifN X100 hx 444 rfl (hb hby at_441) (XT.ll_ne_f (by unfold own_res; simp only [y0, y1, y2, if_true, if_false, Nat.lt_irrefl, Nat.reduceLT, not_true, not_false_eq_true])) ?_
          refine g_iconst X100 hx 445 rfl (1 : Int32) rfl (hb hby at_444) ?_
          refine g_goto X100 hx 449 (hb hby at_445) (by decide) (by decide) ?_
          exact g_retZ X100 hx hret hlk rfl (hb hby at_449) ⟨rfl, N100⟩ (by decide) (by decide)
      · refine g_ifN X82 hx 378 rfl (hb hby at_375) (XT.ll_lt_f y1) ?_
        refine g_lconst X82 hx 379 rfl (1 : Int64) rfl (hb hby at_378) ?_
        refine g_lstore X82 hx 381 rfl (hb hby at_379) #[.val (.int p1), .val (.int p2), .val (.int p3), .val (.long q1), .second, .val (.long q2), .second, .val (.long q3), .second, .val (.int (Int32.ofNat hn)), .val (.int (Int32.ofNat ln)), .val (.int (3 : Int32)), .val (.long (((Int32.ofNat hn).toInt64) + (3 : Int64))), .second, .val (.long (own_ch ((Int32.ofNat hn).toInt64 + (3 : Int64)))), .second, .val (.long ((own_ch ((Int32.ofNat hn).toInt64 + (3 : Int64))) * (own_ch ((Int32.ofNat hn).toInt64 + (3 : Int64))))), .second, .val (.int (Int32.ofNat k)), .val (.int (Int32.ofNat pb)), .val (.long (own_mk k)), .second, .val (.long v0), .second, .val (.long v1), .second, .val (.long v2), .second, .val (.ref o6), .val (.long (1 : Int64)), .second, .unset] rfl ?_
        refine g_goto X82 hx 411 (hb hby at_381) (by decide) (by decide) ?_
        refine g_new X82 hx hZ 414 rfl hown (hw _ (List.mem_of_getElem? (i := 37) rfl)) (hw _ (List.mem_of_getElem? (i := 38) rfl)) (hw _ (List.mem_of_getElem? (i := 6) rfl)) rfl (hb hby at_411) (by decide) (by decide) ?_
        intro T102 h102 o102 g102 X102 e102 E102 A102 D102
        have Exa103 := (((((((((((((((((((((((((((Ex6.wr W7).wr W8).wr W9).wr W10).wr W11).wr W12).wr W13).wr W14).wr W15).wr W16).wr W17).wr W18).wr W19).wr W20).wr W21).wr W22).wr W23).wr W24).wr W25).wr W26).wr W27).wr W28).wr W29).wr W30).keep K31).keep K80).keep K82)
        have ne_o6_o102 : o6 ≠ o102 := Nat.ne_of_lt (Nat.lt_of_lt_of_eq Exa103.lt g102.symm)
        have Zl104 : n0 ≤ T82.heap.size := (Nat.le_trans Zl83 K82.1)
        have ge_o102 : n0 ≤ o102 := Nat.le_trans Zl104 (Nat.le_of_eq g102.symm)
        refine g_dup X102 hx 415 rfl (hb hby at_414) rfl ?_
        refine g_ldcJ X102 hx 418 rfl hown hZ (hw _ (List.mem_of_getElem? (i := 2) rfl)) (hb hby at_415) ?_
        refine g_iload X102 hx 420 rfl (hb hby at_418) rfl ?_
        refine g_i2l X102 hx 421 rfl (hb hby at_420) ?_
        refine g_lmul X102 hx 422 rfl (hb hby at_421) ?_
        refine g_iload X102 hx 424 rfl (hb hby at_422) rfl ?_
        refine g_iload X102 hx 426 rfl (hb hby at_424) rfl ?_
        refine g_aload X102 hx 428 rfl (hb hby at_426) rfl rfl ?_
        have hqb : (2 : Int64) * ((3 : Int32).toInt64) = Int64.ofNat (2 * 3) := by decide
        rw [hqb]
        have Al105 := (A82.ext E102)
        have lta : o6 < h102.size := Al105.lt
        have Zl107 : n0 ≤ h102.size := (Nat.le_trans Zl104 E102.1)
        refine g_callI X102 hx hZ 431 rfl (y := (⟨"com/example/maybe_set/maybeset/BucketTable", "<init>", "(JII[J)V"⟩ : MethodName)) rfl hown (hw _ (List.mem_of_getElem? (i := 39) rfl)) (hw _ (List.mem_of_getElem? (i := 40) rfl)) (hw _ (List.mem_of_getElem? (i := 6) rfl)) (hw _ (List.mem_of_getElem? (i := 41) rfl)) (by decide) o102 [.long (Int64.ofNat (2 * 3)), .int (Int32.ofNat hn), .int (Int32.ofNat ln), .ref o6] [.ref o102] (rmT l Z a0 hw [] o102 (Int64.ofNat (2 * 3)) (Int32.ofNat hn) (Int32.ofNat ln) o6 _ _ _ _ _ _ _ _ h102 n0 Zl107 A102 ge_o102 hM1 hM2 (D102 (Or.inr (hw _ (List.mem_of_getElem? (i := 46) rfl))) (ty := .long) (by decide)) (D102 (Or.inr (hw _ (List.mem_of_getElem? (i := 48) rfl))) (ty := .int) (by decide)) (D102 (Or.inr (hw _ (List.mem_of_getElem? (i := 50) rfl))) (ty := .int) (by decide)) (D102 (Or.inr (hw _ (List.mem_of_getElem? (i := 52) rfl))) (ty := .long) (by decide)) (D102 (Or.inr (hw _ (List.mem_of_getElem? (i := 70) rfl))) (ty := .object "com/example/maybe_set/maybeset/Modulus") (by decide)) (D102 (Or.inr (hw _ (List.mem_of_getElem? (i := 72) rfl))) (ty := .int) (by decide)) (D102 (Or.inr (hw _ (List.mem_of_getElem? (i := 75) rfl))) (ty := .int) (by decide)) (D102 (Or.inr (hw _ (List.mem_of_getElem? (i := 77) rfl))) (ty := .array .long) (by decide))) e102 (lenOf pd_10 rfl) rfl (by rw [hml]; rfl) (hb hby at_428) (by decide) 1 (Nat.le_of_eq rfl) (by decide) (by decide) (by decide) ?_
        rintro _ T106 L106 X106 ⟨rfl, N106q, K106, E106, B106, M106, R106, P106, W106⟩
        have N106 := Fr.app N82 N106q
        show Goes p e below (T106.setTop (mkF m 431 #[.val (.int p1), .val (.int p2), .val (.int p3), .val (.long q1), .second, .val (.long q2), .second, .val (.long q3), .second, .val (.int (Int32.ofNat hn)), .val (.int (Int32.ofNat ln)), .val (.int (3 : Int32)), .val (.long (((Int32.ofNat hn).toInt64) + (3 : Int64))), .second, .val (.long (own_ch ((Int32.ofNat hn).toInt64 + (3 : Int64)))), .second, .val (.long ((own_ch ((Int32.ofNat hn).toInt64 + (3 : Int64))) * (own_ch ((Int32.ofNat hn).toInt64 + (3 : Int64))))), .second, .val (.int (Int32.ofNat k)), .val (.int (Int32.ofNat pb)), .val (.long (own_mk k)), .second, .val (.long v0), .second, .val (.long v1), .second, .val (.long v2), .second, .val (.ref o6), .val (.long (1 : Int64)), .second, .unset] [.ref o102])) _
        rw [e_k, own_pb k ln k2 l_ln, e_pb] at P106
        rw [e_k] at R106
        refine g_astore X106 hx 433 rfl (hb hby at_431) rfl #[.val (.int p1), .val (.int p2), .val (.int p3), .val (.long q1), .second, .val (.long q2), .second, .val (.long q3), .second, .val (.int (Int32.ofNat hn)), .val (.int (Int32.ofNat ln)), .val (.int (3 : Int32)), .val (.long (((Int32.ofNat hn).toInt64) + (3 : Int64))), .second, .val (.long (own_ch ((Int32.ofNat hn).toInt64 + (3 : Int64)))), .second, .val (.long ((own_ch ((Int32.ofNat hn).toInt64 + (3 : Int64))) * (own_ch ((Int32.ofNat hn).toInt64 + (3 : Int64))))), .second, .val (.int (Int32.ofNat k)), .val (.int (Int32.ofNat pb)), .val (.long (own_mk k)), .second, .val (.long v0), .second, .val (.long v1), .second, .val (.long v2), .second, .val (.ref o6), .val (.long (1 : Int64)), .second, .val (.ref o102)] rfl ?_
        refine g_aload X106 hx 435 rfl (hb hby at_433) rfl rfl ?_
        have Al108 := (Al105.keep K106 (ninS ne_o6_o102 nin0))
        have Zl110 : n0 ≤ T106.heap.size := (Nat.le_trans Zl107 K106.1)
        refine g_callV X106 hx hZ 438 rfl (y := (⟨"com/example/maybe_set/maybeset/BucketTable", "firstInvalidPair", "()J"⟩ : MethodName)) hown (hw _ (List.mem_of_getElem? (i := 78) rfl)) (hw _ (List.mem_of_getElem? (i := 79) rfl)) (hw _ (List.mem_of_getElem? (i := 81) rfl)) (hw _ (List.mem_of_getElem? (i := 80) rfl)) (hw _ (List.mem_of_getElem? (i := 6) rfl)) (hw _ (List.mem_of_getElem? (i := 82) rfl)) (by decide) o102 [] [] (rmFI l Z a0 hw [] o102 o6 3 k pb ws3 (own_ch ((Int32.ofNat hn).toInt64 + (3 : Int64))) v0 v1 v2 T106.heap n0 Zl110 E106 B106 M106 R106 P106 W106 Al108 k2 l6 (by decide) (by decide) hv0 hv1 hv2 i0 (fun _ => i1) (fun _ => i2)) rfl E106 (lenOf pd_11 rfl) rfl (by rw [hml]; rfl) (hb hby at_435) (by decide) 0 (Nat.le_of_eq rfl) (by decide) (by decide) (by decide) ?_
        rintro _ T109 L109 X109 ⟨rfl, N109q, e109⟩
        have N109 := Fr.app N106 N109q
        show Goes p e below (T109.setTop (mkF m 438 #[.val (.int p1), .val (.int p2), .val (.int p3), .val (.long q1), .second, .val (.long q2), .second, .val (.long q3), .second, .val (.int (Int32.ofNat hn)), .val (.int (Int32.ofNat ln)), .val (.int (3 : Int32)), .val (.long (((Int32.ofNat hn).toInt64) + (3 : Int64))), .second, .val (.long (own_ch ((Int32.ofNat hn).toInt64 + (3 : Int64)))), .second, .val (.long ((own_ch ((Int32.ofNat hn).toInt64 + (3 : Int64))) * (own_ch ((Int32.ofNat hn).toInt64 + (3 : Int64))))), .second, .val (.int (Int32.ofNat k)), .val (.int (Int32.ofNat pb)), .val (.long (own_mk k)), .second, .val (.long v0), .second, .val (.long v1), .second, .val (.long v2), .second, .val (.ref o6), .val (.long (1 : Int64)), .second, .val (.ref o102)] [.long (own_res 3 (own_ch ((Int32.ofNat hn).toInt64 + (3 : Int64)) * own_ch ((Int32.ofNat hn).toInt64 + (3 : Int64))) v0 v1 v2)])) _
        refine g_lload X109 hx 440 rfl (hb hby at_438) rfl ?_
        refine g_lcmp X109 hx 441 rfl (hb hby at_440) ?_
        refine g_ifN X109 hx 444 rfl (hb hby at_441) (XT.ll_ne_f (by unfold own_res; simp only [y0, y1, if_true, if_false, Nat.lt_irrefl, Nat.reduceLT, not_true, not_false_eq_true])) ?_
        refine g_iconst X109 hx 445 rfl (1 : Int32) rfl (hb hby at_444) ?_
        refine g_goto X109 hx 449 (hb hby at_445) (by decide) (by decide) ?_
        exact g_retZ X109 hx hret hlk rfl (hb hby at_449) ⟨rfl, N109⟩ (by decide) (by decide)
    · refine g_ifN X82 hx 358 rfl (hb hby at_355) (XT.ll_lt_f y0) ?_
      refine g_lconst X82 hx 359 rfl (0 : Int64) rfl (hb hby at_358) ?_
      refine g_lstore X82 hx 361 rfl (hb hby at_359) #[.val (.int p1), .val (.int p2), .val (.int p3), .val (.long q1), .second, .val (.long q2), .second, .val (.long q3), .second, .val (.int (Int32.ofNat hn)), .val (.int (Int32.ofNat ln)), .val (.int (3 : Int32)), .val (.long (((Int32.ofNat hn).toInt64) + (3 : Int64))), .second, .val (.long (own_ch ((Int32.ofNat hn).toInt64 + (3 : Int64)))), .second, .val (.long ((own_ch ((Int32.ofNat hn).toInt64 + (3 : Int64))) * (own_ch ((Int32.ofNat hn).toInt64 + (3 : Int64))))), .second, .val (.int (Int32.ofNat k)), .val (.int (Int32.ofNat pb)), .val (.long (own_mk k)), .second, .val (.long v0), .second, .val (.long v1), .second, .val (.long v2), .second, .val (.ref o6), .val (.long (0 : Int64)), .second, .unset] rfl ?_
      refine g_goto X82 hx 411 (hb hby at_361) (by decide) (by decide) ?_
      refine g_new X82 hx hZ 414 rfl hown (hw _ (List.mem_of_getElem? (i := 37) rfl)) (hw _ (List.mem_of_getElem? (i := 38) rfl)) (hw _ (List.mem_of_getElem? (i := 6) rfl)) rfl (hb hby at_411) (by decide) (by decide) ?_
      intro T111 h111 o111 g111 X111 e111 E111 A111 D111
      have Exa112 := (((((((((((((((((((((((((((Ex6.wr W7).wr W8).wr W9).wr W10).wr W11).wr W12).wr W13).wr W14).wr W15).wr W16).wr W17).wr W18).wr W19).wr W20).wr W21).wr W22).wr W23).wr W24).wr W25).wr W26).wr W27).wr W28).wr W29).wr W30).keep K31).keep K80).keep K82)
      have ne_o6_o111 : o6 ≠ o111 := Nat.ne_of_lt (Nat.lt_of_lt_of_eq Exa112.lt g111.symm)
      have Zl113 : n0 ≤ T82.heap.size := (Nat.le_trans Zl83 K82.1)
      have ge_o111 : n0 ≤ o111 := Nat.le_trans Zl113 (Nat.le_of_eq g111.symm)
      refine g_dup X111 hx 415 rfl (hb hby at_414) rfl ?_
      refine g_ldcJ X111 hx 418 rfl hown hZ (hw _ (List.mem_of_getElem? (i := 2) rfl)) (hb hby at_415) ?_
      refine g_iload X111 hx 420 rfl (hb hby at_418) rfl ?_
      refine g_i2l X111 hx 421 rfl (hb hby at_420) ?_
      refine g_lmul X111 hx 422 rfl (hb hby at_421) ?_
      refine g_iload X111 hx 424 rfl (hb hby at_422) rfl ?_
      refine g_iload X111 hx 426 rfl (hb hby at_424) rfl ?_
      refine g_aload X111 hx 428 rfl (hb hby at_426) rfl rfl ?_
      have hqb : (2 : Int64) * ((3 : Int32).toInt64) = Int64.ofNat (2 * 3) := by decide
      rw [hqb]
      have Al114 := (A82.ext E111)
      have lta : o6 < h111.size := Al114.lt
      have Zl116 : n0 ≤ h111.size := (Nat.le_trans Zl113 E111.1)
      refine g_callI X111 hx hZ 431 rfl (y := (⟨"com/example/maybe_set/maybeset/BucketTable", "<init>", "(JII[J)V"⟩ : MethodName)) rfl hown (hw _ (List.mem_of_getElem? (i := 39) rfl)) (hw _ (List.mem_of_getElem? (i := 40) rfl)) (hw _ (List.mem_of_getElem? (i := 6) rfl)) (hw _ (List.mem_of_getElem? (i := 41) rfl)) (by decide) o111 [.long (Int64.ofNat (2 * 3)), .int (Int32.ofNat hn), .int (Int32.ofNat ln), .ref o6] [.ref o111] (rmT l Z a0 hw [] o111 (Int64.ofNat (2 * 3)) (Int32.ofNat hn) (Int32.ofNat ln) o6 _ _ _ _ _ _ _ _ h111 n0 Zl116 A111 ge_o111 hM1 hM2 (D111 (Or.inr (hw _ (List.mem_of_getElem? (i := 46) rfl))) (ty := .long) (by decide)) (D111 (Or.inr (hw _ (List.mem_of_getElem? (i := 48) rfl))) (ty := .int) (by decide)) (D111 (Or.inr (hw _ (List.mem_of_getElem? (i := 50) rfl))) (ty := .int) (by decide)) (D111 (Or.inr (hw _ (List.mem_of_getElem? (i := 52) rfl))) (ty := .long) (by decide)) (D111 (Or.inr (hw _ (List.mem_of_getElem? (i := 70) rfl))) (ty := .object "com/example/maybe_set/maybeset/Modulus") (by decide)) (D111 (Or.inr (hw _ (List.mem_of_getElem? (i := 72) rfl))) (ty := .int) (by decide)) (D111 (Or.inr (hw _ (List.mem_of_getElem? (i := 75) rfl))) (ty := .int) (by decide)) (D111 (Or.inr (hw _ (List.mem_of_getElem? (i := 77) rfl))) (ty := .array .long) (by decide))) e111 (lenOf pd_10 rfl) rfl (by rw [hml]; rfl) (hb hby at_428) (by decide) 1 (Nat.le_of_eq rfl) (by decide) (by decide) (by decide) ?_
      rintro _ T115 L115 X115 ⟨rfl, N115q, K115, E115, B115, M115, R115, P115, W115⟩
      have N115 := Fr.app N82 N115q
      show Goes p e below (T115.setTop (mkF m 431 #[.val (.int p1), .val (.int p2), .val (.int p3), .val (.long q1), .second, .val (.long q2), .second, .val (.long q3), .second, .val (.int (Int32.ofNat hn)), .val (.int (Int32.ofNat ln)), .val (.int (3 : Int32)), .val (.long (((Int32.ofNat hn).toInt64) + (3 : Int64))), .second, .val (.long (own_ch ((Int32.ofNat hn).toInt64 + (3 : Int64)))), .second, .val (.long ((own_ch ((Int32.ofNat hn).toInt64 + (3 : Int64))) * (own_ch ((Int32.ofNat hn).toInt64 + (3 : Int64))))), .second, .val (.int (Int32.ofNat k)), .val (.int (Int32.ofNat pb)), .val (.long (own_mk k)), .second, .val (.long v0), .second, .val (.long v1), .second, .val (.long v2), .second, .val (.ref o6), .val (.long (0 : Int64)), .second, .unset] [.ref o111])) _
      rw [e_k, own_pb k ln k2 l_ln, e_pb] at P115
      rw [e_k] at R115
      refine g_astore X115 hx 433 rfl (hb hby at_431) rfl #[.val (.int p1), .val (.int p2), .val (.int p3), .val (.long q1), .second, .val (.long q2), .second, .val (.long q3), .second, .val (.int (Int32.ofNat hn)), .val (.int (Int32.ofNat ln)), .val (.int (3 : Int32)), .val (.long (((Int32.ofNat hn).toInt64) + (3 : Int64))), .second, .val (.long (own_ch ((Int32.ofNat hn).toInt64 + (3 : Int64)))), .second, .val (.long ((own_ch ((Int32.ofNat hn).toInt64 + (3 : Int64))) * (own_ch ((Int32.ofNat hn).toInt64 + (3 : Int64))))), .second, .val (.int (Int32.ofNat k)), .val (.int (Int32.ofNat pb)), .val (.long (own_mk k)), .second, .val (.long v0), .second, .val (.long v1), .second, .val (.long v2), .second, .val (.ref o6), .val (.long (0 : Int64)), .second, .val (.ref o111)] rfl ?_
      refine g_aload X115 hx 435 rfl (hb hby at_433) rfl rfl ?_
      have Al117 := (Al114.keep K115 (ninS ne_o6_o111 nin0))
      have Zl119 : n0 ≤ T115.heap.size := (Nat.le_trans Zl116 K115.1)
      refine g_callV X115 hx hZ 438 rfl (y := (⟨"com/example/maybe_set/maybeset/BucketTable", "firstInvalidPair", "()J"⟩ : MethodName)) hown (hw _ (List.mem_of_getElem? (i := 78) rfl)) (hw _ (List.mem_of_getElem? (i := 79) rfl)) (hw _ (List.mem_of_getElem? (i := 81) rfl)) (hw _ (List.mem_of_getElem? (i := 80) rfl)) (hw _ (List.mem_of_getElem? (i := 6) rfl)) (hw _ (List.mem_of_getElem? (i := 82) rfl)) (by decide) o111 [] [] (rmFI l Z a0 hw [] o111 o6 3 k pb ws3 (own_ch ((Int32.ofNat hn).toInt64 + (3 : Int64))) v0 v1 v2 T115.heap n0 Zl119 E115 B115 M115 R115 P115 W115 Al117 k2 l6 (by decide) (by decide) hv0 hv1 hv2 i0 (fun _ => i1) (fun _ => i2)) rfl E115 (lenOf pd_11 rfl) rfl (by rw [hml]; rfl) (hb hby at_435) (by decide) 0 (Nat.le_of_eq rfl) (by decide) (by decide) (by decide) ?_
      rintro _ T118 L118 X118 ⟨rfl, N118q, e118⟩
      have N118 := Fr.app N115 N118q
      show Goes p e below (T118.setTop (mkF m 438 #[.val (.int p1), .val (.int p2), .val (.int p3), .val (.long q1), .second, .val (.long q2), .second, .val (.long q3), .second, .val (.int (Int32.ofNat hn)), .val (.int (Int32.ofNat ln)), .val (.int (3 : Int32)), .val (.long (((Int32.ofNat hn).toInt64) + (3 : Int64))), .second, .val (.long (own_ch ((Int32.ofNat hn).toInt64 + (3 : Int64)))), .second, .val (.long ((own_ch ((Int32.ofNat hn).toInt64 + (3 : Int64))) * (own_ch ((Int32.ofNat hn).toInt64 + (3 : Int64))))), .second, .val (.int (Int32.ofNat k)), .val (.int (Int32.ofNat pb)), .val (.long (own_mk k)), .second, .val (.long v0), .second, .val (.long v1), .second, .val (.long v2), .second, .val (.ref o6), .val (.long (0 : Int64)), .second, .val (.ref o111)] [.long (own_res 3 (own_ch ((Int32.ofNat hn).toInt64 + (3 : Int64)) * own_ch ((Int32.ofNat hn).toInt64 + (3 : Int64))) v0 v1 v2)])) _
      refine g_lload X118 hx 440 rfl (hb hby at_438) rfl ?_
      refine g_lcmp X118 hx 441 rfl (hb hby at_440) ?_
      refine g_ifN X118 hx 444 rfl (hb hby at_441) (XT.ll_ne_f (by unfold own_res; simp only [y0, if_true, if_false, Nat.lt_irrefl, Nat.reduceLT, not_true, not_false_eq_true])) ?_
      refine g_iconst X118 hx 445 rfl (1 : Int32) rfl (hb hby at_444) ?_
      refine g_goto X118 hx 449 (hb hby at_445) (by decide) (by decide) ?_
      exact g_retZ X118 hx hret hlk rfl (hb hby at_449) ⟨rfl, N118⟩ (by decide) (by decide)
set_option maxRecDepth 65536 in
set_option maxHeartbeats 40000000 in
theorem comes_1 {Post : Tables → Env → Array Value → State → Outcome → State → Prop} (hpost : ∀ tb e args s v u, (limb_1_1.after args s (.returned v) u = true ∧ limb_1_2.after args s (.returned v) u = true ∧ True) → FrameEnd s (.returned v) u (Jvm.fieldLocs frame_1_writes args s ++ Jvm.arrayLocs frame_1_arrays args s ++ Jvm.staticLocs frame_1_statics s) 16 192 → Post tb e args s (.returned v) u) :
    ArmFor flags0 classFile x code maxLocals ret World_1 tables_1 room_1 Calls_1 rest_1 Pre_1 Post := by
  intro l hfl _ _ p e ha hc hk s m args below hf hA hF happ hP
  obtain ⟨hcalls, hrest, hpre⟩ := hP
  obtain ⟨-, -, -, hnamed, -, -, -, hat⟩ := (Spec.applies_iff hf).mp happ
  obtain ⟨hg, hn⟩ := and_e (Cond.before_iff.mp (show (Jvm.Cond.and given_1 narrow_1).before args s = true from hpre))
  obtain ⟨h1, hr1⟩ := and_e hg
  obtain ⟨hk1, hr2⟩ := and_e hr1
  obtain ⟨hk2, hr3⟩ := and_e hr2
  obtain ⟨hk3, hr4⟩ := and_e hr3
  obtain ⟨hk4, hr5⟩ := and_e hr4
  obtain ⟨hk5, hr6⟩ := and_e hr5
  obtain ⟨w0, w1, w2, w3, w4, w5, rfl⟩ : ∃ w0 w1 w2 w3 w4 w5 : Value, args = #[w0, w1, w2, w3, w4, w5] := by
    have hs : args.size = 6 := by simpa [Cond.value, given_1] using h1
    obtain ⟨L⟩ := args
    match L, hs with
    | [w0, w1, w2, w3, w4, w5], _ => exact ⟨w0, w1, w2, w3, w4, w5, rfl⟩
  have hw := fun d (hd : d ∈ tables_1) => atoms_spec (ws := Jvm.Cond.code x code maxLocals ret :: tables_1) hat d (List.mem_cons_of_mem _ hd)
  have hfit : Fit s := fun {y c} hc i hi => by
    obtain ⟨ha, rfl⟩ := Array.getElem?_eq_some_iff.mp hc
    have q := List.all_eq_true.mp ((Array.all_eq_true_iff_forall_mem.mp hF) _ (Array.getElem_mem ha)) i (List.mem_range.mpr hi)
    simpa [Array.getElem?_eq_getElem hi] using q
  obtain ⟨i0, e0⟩ := is_v hk1
  obtain rfl : w0 = (.int i0) := Option.some.inj e0
  obtain ⟨i1, e1⟩ := is_v hk2
  obtain rfl : w1 = (.int i1) := Option.some.inj e1
  obtain ⟨i2, e2⟩ := is_v hk3
  obtain rfl : w2 = (.int i2) := Option.some.inj e2
  obtain ⟨i3, e3⟩ := isL_v hk4
  obtain rfl : w3 = (.long i3) := Option.some.inj e3
  obtain ⟨i4, e4⟩ := isL_v hk5
  obtain rfl : w4 = (.long i4) := Option.some.inj e4
  obtain ⟨i5, e5⟩ := isL_v hr6
  obtain rfl : w5 = (.long i5) := Option.some.inj e5
  obtain ⟨n, o, h1, h2, h3, _, L, rfl, ⟨rfl, N⟩, hq⟩ := rm0 l s _ hw tables_1 i0 i1 i2 i3 i4 i5  s.heap s.heap.size (Nat.le_refl _)  p e ha hc hk s m _ below hf ((Spec.applies_iff_loose hf).mp happ).1 ⟨rfl, State.Warmed39.refl s, rfl⟩ trivial
  refine ⟨n, _, h1, h2, h3, hpost _ _ _ _ _ _ ⟨Cond.after_iff.mpr rfl, Cond.after_iff.mpr (eq_i res_at (Term.int_eval (1)) rfl), trivial⟩ ⟨hq.1, hq.2.1, (hq.2.2.sift fun y hy => Or.inr (N y hy)).mono (by decide) (by decide)⟩⟩
theorem main_1_1 : Claimed_1_1 := comes_1 fun _ _ _ _ _ _ h hF => ⟨h.1, hF⟩
theorem main_1_2 : Claimed_1_2 := comes_1 fun _ _ _ _ _ _ h hF => ⟨h.2.1, hF⟩
end Jvm.Pilot.@@N@@
namespace Jvm.Pilot.@@N@@
open Jvm Jvm.ClassFile Sem Op Lib Jvm.Free Jvm.Stand Jvm.Pilot.@@N@@.Jvm.D
/-! MADE BY PROGRAM (witnessworld.py) out of the Statement's table words and the real class files: 18 classes; the members and pool entries that the words name. The judged class is class 1, her method 3. -/
namespace start1
open Jvm.ClassFile
def u (s : String) : CpInfo := .utf8 (stringToUtf16 s)
/-- a pool by its gaps: so many unusable entries, then the entry; so many at the end -/
def gap : Nat → List CpInfo → List CpInfo
  | 0, r => r
  | n + 1, r => .unusable :: gap n r
def poolList (es : List (Nat × CpInfo)) (last : Nat) : List CpInfo := es.foldr (fun e r => gap e.1 (e.2 :: r)) (gap last [])
def pool (es : List (Nat × CpInfo)) (last : Nat) : Array CpInfo := ⟨poolList es last⟩
def fileOf (pool : Array CpInfo) (this : Nat) (attrs : Array Attribute := #[]) (ms : Array MethodInfo := #[]) (fl : Nat := 33) (sup : Nat := 0) (ifs : Array Nat := #[]) (fds : Array FieldInfo := #[]) : ClassFile where
  minorVersion := 0
  majorVersion := 65
  constantPool := pool
  accessFlags := fl
  thisClass := this
  superClass := sup
  interfaces := ifs
  fields := fds
  methods := ms
  attributes := attrs
def plain (name : String) (sup : Option ClassId) : Class where
  name := name
  kind := .ordinary
  loader := none
  accessFlags := 33
  super := sup
  interfaces := #[]
  cf := none
  fields := #[]
  methods := #[]
  instanceTypes := #[]
  staticTypes := #[]
  resolved := #[]
  callSites := []
  init := .initialized
  statics := none
  mirror := none

def pool0 : Array CpInfo := pool [(5, u "<init>"), (0, u "()V"), (1, .class_ 10), (1, u "java/lang/Object")] 113

def k0c0 : Code := { maxStack := 0, maxLocals := 1, code := object_method_1_code, exceptionTable := #[], attributes := #[] }
def k0m0 : Method := { name := "<init>", desc := "()V", sig := { parameters := [], returnType := none }, accessFlags := 1, code := some k0c0 }
/-- java/lang/Object -/
def k0 : Class := { plain "java/lang/Object" none with
  accessFlags := 33
  interfaces := #[]
  cf := some (fileOf pool0 8 #[] #[{ accessFlags := 1, nameIndex := 5, descriptorIndex := 6, attributes := #[] }] 33 0 #[] #[])
  fields := #[]
  methods := #[k0m0]
  instanceTypes := #[]
  staticTypes := #[]
  resolved := Array.replicate 124 none
  statics := none }

def pool1 : Array CpInfo := pool [(2, .class_ 4), (1, u "java/lang/Object"), (0, u "<init>"), (0, u "()V"), (0, .long 63), (1, .long 18446744073709551615), (1, .long 3), (1, .integer 2147483647), (0, .long 2), (1, .long 24), (1, .methodref 19 20), (0, .class_ 21), (0, .nameAndType 22 23), (0, u "com/example/maybe_set/maybeset/BucketTable"), (0, u "rankBits"), (0, u "(I)I"), (0, .methodref 19 25), (0, .nameAndType 26 27), (0, u "pairBits"), (0, u "(II)I"), (0, .methodref 29 30), (0, .class_ 31), (0, .nameAndType 32 33), (0, u "com/example/maybe_set/maybeset/BucketTableFirstInvalidPairPinLaw"), (0, u "value"), (0, u "(JJJ)J"), (0, .methodref 29 35), (0, .nameAndType 36 37), (0, u "put"), (0, u "([JJIJ)V"), (0, .methodref 19 39), (0, .nameAndType 5 40), (0, u "(JII[J)V"), (0, .methodref 19 42), (0, .nameAndType 43 44), (0, u "firstInvalidPair"), (0, u "()J"), (3, u "law"), (0, u "(IIIJJJ)Z")] 4

def k1m0 : Method := { name := "<init>", desc := "()V", sig := { parameters := [], returnType := none }, accessFlags := 1, code := none }
def k1c1 : Code := { maxStack := 8, maxLocals := 11, code := method_2_code, exceptionTable := #[], attributes := #[] }
def k1m1 : Method := { name := "put", desc := "([JJIJ)V", sig := { parameters := [(.array .long), .long, .int, .long], returnType := none }, accessFlags := 10, code := some k1c1 }
def k1c2 : Code := { maxStack := 6, maxLocals := 11, code := method_3_code, exceptionTable := #[], attributes := #[] }
def k1m2 : Method := { name := "value", desc := "(JJJ)J", sig := { parameters := [.long, .long, .long], returnType := some .long }, accessFlags := 10, code := some k1c2 }
def k1c3 : Code := { maxStack := 7, maxLocals := 32, code := code, exceptionTable := #[], attributes := #[] }
def k1m3 : Method := { name := "law", desc := "(IIIJJJ)Z", sig := { parameters := [.int, .int, .int, .long, .long, .long], returnType := some .boolean }, accessFlags := 9, code := some k1c3 }
/-- com/example/maybe_set/maybeset/BucketTableFirstInvalidPairPinLaw -/
def k1 : Class := { plain "com/example/maybe_set/maybeset/BucketTableFirstInvalidPairPinLaw" (some 0) with
  accessFlags := 49
  interfaces := #[]
  cf := some (fileOf pool1 29 #[] #[{ accessFlags := 1, nameIndex := 5, descriptorIndex := 6, attributes := #[] }, { accessFlags := 10, nameIndex := 36, descriptorIndex := 37, attributes := #[] }, { accessFlags := 10, nameIndex := 32, descriptorIndex := 33, attributes := #[] }, { accessFlags := 9, nameIndex := 48, descriptorIndex := 49, attributes := #[] }] 49 2 #[] #[])
  fields := #[]
  methods := #[k1m0, k1m1, k1m2, k1m3]
  instanceTypes := #[]
  staticTypes := #[]
  resolved := Array.replicate 54 none
  statics := none }

def pool2 : Array CpInfo := pool [(2, .class_ 4), (1, u "com/example/maybe_set/maybeset/BucketTable"), (2, .class_ 8), (0, u "java/lang/Long"), (0, .long 64), (3, u "<init>"), (0, u "(JII[J)V"), (0, .methodref 16 17), (0, .class_ 18), (0, .nameAndType 13 19), (0, u "java/lang/Object"), (0, u "()V"), (0, .fieldref 2 21), (0, .nameAndType 22 23), (0, u "buckets"), (0, u "J"), (0, .fieldref 2 25), (0, .nameAndType 26 27), (0, u "highs"), (0, u "I"), (0, .fieldref 2 29), (0, .nameAndType 30 27), (0, u "lowBits"), (0, .long 3), (1, .methodref 2 34), (0, .nameAndType 35 36), (0, u "choose4"), (0, u "(J)J"), (0, .fieldref 2 38), (0, .nameAndType 39 23), (0, u "multisets"), (0, .class_ 41), (0, u "com/example/maybe_set/maybeset/Modulus"), (0, .methodref 40 43), (0, .nameAndType 13 44), (0, u "(J)V"), (0, .fieldref 2 46), (0, .nameAndType 47 48), (0, u "pairRanks"), (0, u "Lcom/example/maybe_set/maybeset/Modulus;"), (0, .methodref 2 50), (0, .nameAndType 51 52), (0, u "rankBits"), (0, u "(I)I"), (0, .fieldref 2 54), (0, .nameAndType 51 27), (0, .methodref 2 56), (0, .nameAndType 57 58), (0, u "pairBits"), (0, u "(II)I"), (0, .fieldref 2 60), (0, .nameAndType 57 27), (0, .fieldref 2 62), (0, .nameAndType 63 64), (0, u "words"), (0, u "[J"), (0, .methodref 7 66), (0, .nameAndType 67 68), (0, u "numberOfLeadingZeros"), (0, u "(J)I"), (2, u "MOST_HIGHS"), (0, u "[I"), (2, u "MIN_RANK_BITS"), (0, .long 2), (5, .methodref 2 83), (0, .nameAndType 84 85), (0, u "field"), (0, u "(JI)J"), (0, .long 18446744073709551615), (67, u "LARGEST3_BY_ROOT"), (13, .long 24), (8, u "SLOTS"), (2, u "MIN_HIGHS"), (1, u "MAX_RANK_BITS"), (1, u "MAX_HIGHS"), (1, u "MAX_LOW_BITS"), (8, u "()J"), (1, u "firstInvalidPair")] 10

def k2c0 : Code := { maxStack := 5, maxLocals := 6, code := prog_2_method_2_code, exceptionTable := #[], attributes := #[] }
def k2m0 : Method := { name := "<init>", desc := "(JII[J)V", sig := { parameters := [.long, .int, .int, (.array .long)], returnType := none }, accessFlags := 0, code := some k2c0 }
def k2c1 : Code := { maxStack := 5, maxLocals := 3, code := prog_2_method_3_code, exceptionTable := #[], attributes := #[] }
def k2m1 : Method := { name := "rankBits", desc := "(I)I", sig := { parameters := [.int], returnType := some .int }, accessFlags := 8, code := some k2c1 }
def k2c2 : Code := { maxStack := 3, maxLocals := 2, code := prog_2_method_6_code, exceptionTable := #[], attributes := #[] }
def k2m2 : Method := { name := "pairBits", desc := "(II)I", sig := { parameters := [.int, .int], returnType := some .int }, accessFlags := 8, code := some k2c2 }
def k2c3 : Code := { maxStack := 6, maxLocals := 5, code := prog_2_method_15_code, exceptionTable := #[], attributes := #[] }
def k2m3 : Method := { name := "firstInvalidPair", desc := "()J", sig := { parameters := [], returnType := some .long }, accessFlags := 0, code := some k2c3 }
def k2c4 : Code := { maxStack := 6, maxLocals := 2, code := prog_2_method_34_code, exceptionTable := #[], attributes := #[] }
def k2m4 : Method := { name := "choose4", desc := "(J)J", sig := { parameters := [.long], returnType := some .long }, accessFlags := 10, code := some k2c4 }
def k2c5 : Code := { maxStack := 6, maxLocals := 8, code := prog_2_method_35_code, exceptionTable := #[], attributes := #[] }
def k2m5 : Method := { name := "field", desc := "(JI)J", sig := { parameters := [.long, .int], returnType := some .long }, accessFlags := 2, code := some k2c5 }
/-- com/example/maybe_set/maybeset/BucketTable -/
def k2 : Class := { plain "com/example/maybe_set/maybeset/BucketTable" (some 0) with
  accessFlags := 32
  interfaces := #[]
  cf := some (fileOf pool2 2 #[] #[{ accessFlags := 0, nameIndex := 13, descriptorIndex := 14, attributes := #[] }, { accessFlags := 8, nameIndex := 51, descriptorIndex := 52, attributes := #[] }, { accessFlags := 8, nameIndex := 57, descriptorIndex := 58, attributes := #[] }, { accessFlags := 0, nameIndex := 197, descriptorIndex := 195, attributes := #[] }, { accessFlags := 10, nameIndex := 35, descriptorIndex := 36, attributes := #[] }, { accessFlags := 2, nameIndex := 84, descriptorIndex := 85, attributes := #[] }] 32 16 #[] #[{ accessFlags := 24, nameIndex := 177, descriptorIndex := 27, attributes := #[] }, { accessFlags := 24, nameIndex := 180, descriptorIndex := 27, attributes := #[] }, { accessFlags := 24, nameIndex := 182, descriptorIndex := 27, attributes := #[] }, { accessFlags := 24, nameIndex := 184, descriptorIndex := 27, attributes := #[] }, { accessFlags := 24, nameIndex := 186, descriptorIndex := 27, attributes := #[] }, { accessFlags := 24, nameIndex := 75, descriptorIndex := 27, attributes := #[] }, { accessFlags := 26, nameIndex := 71, descriptorIndex := 72, attributes := #[] }, { accessFlags := 26, nameIndex := 154, descriptorIndex := 72, attributes := #[] }, { accessFlags := 18, nameIndex := 22, descriptorIndex := 23, attributes := #[] }, { accessFlags := 18, nameIndex := 26, descriptorIndex := 27, attributes := #[] }, { accessFlags := 18, nameIndex := 30, descriptorIndex := 27, attributes := #[] }, { accessFlags := 18, nameIndex := 39, descriptorIndex := 23, attributes := #[] }, { accessFlags := 18, nameIndex := 47, descriptorIndex := 48, attributes := #[] }, { accessFlags := 18, nameIndex := 51, descriptorIndex := 27, attributes := #[] }, { accessFlags := 18, nameIndex := 57, descriptorIndex := 27, attributes := #[] }, { accessFlags := 18, nameIndex := 63, descriptorIndex := 64, attributes := #[] }])
  fields := #[{ name := "SLOTS", type := .int, accessFlags := 24, slot := 0, constantValue := 0 }, { name := "MIN_HIGHS", type := .int, accessFlags := 24, slot := 1, constantValue := 0 }, { name := "MAX_RANK_BITS", type := .int, accessFlags := 24, slot := 2, constantValue := 0 }, { name := "MAX_HIGHS", type := .int, accessFlags := 24, slot := 3, constantValue := 0 }, { name := "MAX_LOW_BITS", type := .int, accessFlags := 24, slot := 4, constantValue := 0 }, { name := "MIN_RANK_BITS", type := .int, accessFlags := 24, slot := 5, constantValue := 0 }, { name := "MOST_HIGHS", type := (.array .int), accessFlags := 26, slot := 6, constantValue := 0 }, { name := "LARGEST3_BY_ROOT", type := (.array .int), accessFlags := 26, slot := 7, constantValue := 0 }, { name := "buckets", type := .long, accessFlags := 18, slot := 0, constantValue := 0 }, { name := "highs", type := .int, accessFlags := 18, slot := 1, constantValue := 0 }, { name := "lowBits", type := .int, accessFlags := 18, slot := 2, constantValue := 0 }, { name := "multisets", type := .long, accessFlags := 18, slot := 3, constantValue := 0 }, { name := "pairRanks", type := (.object "com/example/maybe_set/maybeset/Modulus"), accessFlags := 18, slot := 4, constantValue := 0 }, { name := "rankBits", type := .int, accessFlags := 18, slot := 5, constantValue := 0 }, { name := "pairBits", type := .int, accessFlags := 18, slot := 6, constantValue := 0 }, { name := "words", type := (.array .long), accessFlags := 18, slot := 7, constantValue := 0 }]
  methods := #[k2m0, k2m1, k2m2, k2m3, k2m4, k2m5]
  instanceTypes := #[.long, .int, .int, .long, (.object "com/example/maybe_set/maybeset/Modulus"), .int, .int, (.array .long)]
  staticTypes := #[.int, .int, .int, .int, .int, .int, (.array .int), (.array .int)]
  resolved := Array.replicate 208 none
  statics := none }

def pool3 : Array CpInfo := pool [(1, .class_ 2), (0, u "java/io/Serializable"), (0, .class_ 4), (0, u "java/lang/Object")] 2

/-- java/io/Serializable -/
def k3 : Class := { plain "java/io/Serializable" (some 0) with
  accessFlags := 1537
  interfaces := #[]
  cf := some (fileOf pool3 1 #[] #[] 1537 3 #[] #[])
  fields := #[]
  methods := #[]
  instanceTypes := #[]
  staticTypes := #[]
  resolved := Array.replicate 7 none
  statics := none }

def pool4 : Array CpInfo := pool [(2, .class_ 4), (1, u "java/lang/Object"), (0, u "<init>"), (0, u "()V"), (1, .class_ 10), (1, u "java/lang/Number"), (2, .class_ 14), (0, u "java/io/Serializable"), (0, u "serialVersionUID"), (0, u "J")] 20

def k4m0 : Method := { name := "<init>", desc := "()V", sig := { parameters := [], returnType := none }, accessFlags := 1, code := none }
/-- java/lang/Number -/
def k4 : Class := { plain "java/lang/Number" (some 0) with
  accessFlags := 1057
  interfaces := #[3]
  cf := some (fileOf pool4 8 #[] #[{ accessFlags := 1, nameIndex := 5, descriptorIndex := 6, attributes := #[] }] 1057 2 #[13] #[{ accessFlags := 26, nameIndex := 15, descriptorIndex := 16, attributes := #[] }])
  fields := #[{ name := "serialVersionUID", type := .long, accessFlags := 26, slot := 0, constantValue := 0 }]
  methods := #[k4m0]
  instanceTypes := #[]
  staticTypes := #[.long]
  resolved := Array.replicate 37 none
  statics := none }

def pool5 : Array CpInfo := pool [(1, .class_ 2), (0, u "java/lang/Comparable"), (0, .class_ 4), (0, u "java/lang/Object")] 7

/-- java/lang/Comparable -/
def k5 : Class := { plain "java/lang/Comparable" (some 0) with
  accessFlags := 1537
  interfaces := #[]
  cf := some (fileOf pool5 1 #[] #[] 1537 3 #[] #[])
  fields := #[]
  methods := #[]
  instanceTypes := #[]
  staticTypes := #[]
  resolved := Array.replicate 12 none
  statics := none }

def pool6 : Array CpInfo := pool [(1, .class_ 2), (0, u "java/lang/constant/Constable"), (0, .class_ 4), (0, u "java/lang/Object")] 6

/-- java/lang/constant/Constable -/
def k6 : Class := { plain "java/lang/constant/Constable" (some 0) with
  accessFlags := 1537
  interfaces := #[]
  cf := some (fileOf pool6 1 #[] #[] 1537 3 #[] #[])
  fields := #[]
  methods := #[]
  instanceTypes := #[]
  staticTypes := #[]
  resolved := Array.replicate 11 none
  statics := none }

def pool7 : Array CpInfo := pool [(1, .class_ 2), (0, u "java/lang/constant/ConstantDesc"), (0, .class_ 4), (0, u "java/lang/Object")] 32

/-- java/lang/constant/ConstantDesc -/
def k7 : Class := { plain "java/lang/constant/ConstantDesc" (some 0) with
  accessFlags := 1537
  interfaces := #[]
  cf := some (fileOf pool7 1 #[] #[] 1537 3 #[] #[])
  fields := #[]
  methods := #[]
  instanceTypes := #[]
  staticTypes := #[]
  resolved := Array.replicate 37 none
  statics := none }

def pool8 : Array CpInfo := pool [(1, .class_ 2), (0, u "java/lang/Long"), (15, .class_ 20), (1, u "java/lang/Integer"), (79, u "numberOfLeadingZeros"), (0, u "(J)I"), (133, .class_ 237), (1, u "java/lang/Long$LongCache"), (33, .class_ 272), (0, u "java/lang/Number"), (2, u "value"), (0, u "J"), (29, .long 18446744073709551615), (1, .methodref 18 309), (0, .nameAndType 100 310), (0, u "(I)I"), (22, u "(JJ)J"), (27, u "TYPE"), (0, u "Ljava/lang/Class;"), (0, .class_ 364), (0, u "java/lang/Comparable"), (0, .class_ 366), (0, u "java/lang/constant/Constable"), (0, .class_ 368), (0, u "java/lang/constant/ConstantDesc"), (0, u "MIN_VALUE"), (1, u "MAX_VALUE"), (4, u "SIZE"), (0, u "I"), (1, u "BYTES"), (1, u "serialVersionUID"), (88, u "divideUnsigned")] 53

def k8c0 : Code := { maxStack := 8, maxLocals := 8, code := jdk_35_method_44_code, exceptionTable := #[], attributes := #[] }
def k8m0 : Method := { name := "divideUnsigned", desc := "(JJ)J", sig := { parameters := [.long, .long], returnType := some .long }, accessFlags := 9, code := some k8c0 }
def k8c1 : Code := { maxStack := 3, maxLocals := 3, code := jdk_35_method_48_code, exceptionTable := #[], attributes := #[] }
def k8m1 : Method := { name := "numberOfLeadingZeros", desc := "(J)I", sig := { parameters := [.long], returnType := some .int }, accessFlags := 9, code := some k8c1 }
/-- java/lang/Long -/
def k8 : Class := { plain "java/lang/Long" (some 4) with
  accessFlags := 49
  interfaces := #[5, 6, 7]
  cf := some (fileOf pool8 1 #[.nestMembers #[235]] #[{ accessFlags := 9, nameIndex := 470, descriptorIndex := 333, attributes := #[] }, { accessFlags := 9, nameIndex := 100, descriptorIndex := 101, attributes := #[] }] 49 271 #[363, 365, 367] #[{ accessFlags := 25, nameIndex := 369, descriptorIndex := 276, attributes := #[] }, { accessFlags := 25, nameIndex := 371, descriptorIndex := 276, attributes := #[] }, { accessFlags := 25, nameIndex := 361, descriptorIndex := 362, attributes := #[] }, { accessFlags := 18, nameIndex := 275, descriptorIndex := 276, attributes := #[] }, { accessFlags := 25, nameIndex := 376, descriptorIndex := 377, attributes := #[] }, { accessFlags := 25, nameIndex := 379, descriptorIndex := 377, attributes := #[] }, { accessFlags := 26, nameIndex := 381, descriptorIndex := 276, attributes := #[] }])
  fields := #[{ name := "MIN_VALUE", type := .long, accessFlags := 25, slot := 0, constantValue := 0 }, { name := "MAX_VALUE", type := .long, accessFlags := 25, slot := 1, constantValue := 0 }, { name := "TYPE", type := (.object "java/lang/Class"), accessFlags := 25, slot := 2, constantValue := 0 }, { name := "value", type := .long, accessFlags := 18, slot := 0, constantValue := 0 }, { name := "SIZE", type := .int, accessFlags := 25, slot := 3, constantValue := 0 }, { name := "BYTES", type := .int, accessFlags := 25, slot := 4, constantValue := 0 }, { name := "serialVersionUID", type := .long, accessFlags := 26, slot := 5, constantValue := 0 }]
  methods := #[k8m0, k8m1]
  instanceTypes := #[.long]
  staticTypes := #[.long, .long, (.object "java/lang/Class"), .int, .int, .long]
  resolved := Array.replicate 524 none
  statics := none }

def pool9 : Array CpInfo := pool [(1, .class_ 2), (0, u "java/lang/Integer"), (16, u "digits"), (0, u "[C"), (32, u "numberOfLeadingZeros"), (0, u "(I)I"), (30, u "DigitOnes"), (0, u "[B"), (2, u "DigitTens"), (99, .class_ 190), (0, u "java/lang/Integer$IntegerCache"), (3, u "I"), (8, .class_ 204), (0, u "java/lang/Number"), (2, u "value"), (56, .integer 65536), (37, u "TYPE"), (0, u "Ljava/lang/Class;"), (0, .class_ 305), (0, u "java/lang/Comparable"), (0, .class_ 307), (0, u "java/lang/constant/Constable"), (0, .class_ 309), (0, u "java/lang/constant/ConstantDesc"), (0, u "MIN_VALUE"), (1, u "MAX_VALUE"), (3, u "SIZE"), (1, u "BYTES"), (1, u "serialVersionUID"), (0, u "J")] 131

def k9c0 : Code := { maxStack := 3, maxLocals := 2, code := jdk_33_method_47_code, exceptionTable := #[], attributes := #[] }
def k9m0 : Method := { name := "numberOfLeadingZeros", desc := "(I)I", sig := { parameters := [.int], returnType := some .int }, accessFlags := 9, code := some k9c0 }
/-- java/lang/Integer -/
def k9 : Class := { plain "java/lang/Integer" (some 4) with
  accessFlags := 49
  interfaces := #[5, 6, 7]
  cf := some (fileOf pool9 1 #[.nestMembers #[189]] #[{ accessFlags := 9, nameIndex := 53, descriptorIndex := 54, attributes := #[] }] 49 203 #[304, 306, 308] #[{ accessFlags := 25, nameIndex := 310, descriptorIndex := 194, attributes := #[] }, { accessFlags := 25, nameIndex := 312, descriptorIndex := 194, attributes := #[] }, { accessFlags := 25, nameIndex := 302, descriptorIndex := 303, attributes := #[] }, { accessFlags := 24, nameIndex := 19, descriptorIndex := 20, attributes := #[] }, { accessFlags := 24, nameIndex := 89, descriptorIndex := 86, attributes := #[] }, { accessFlags := 24, nameIndex := 85, descriptorIndex := 86, attributes := #[] }, { accessFlags := 18, nameIndex := 207, descriptorIndex := 194, attributes := #[] }, { accessFlags := 25, nameIndex := 316, descriptorIndex := 194, attributes := #[] }, { accessFlags := 25, nameIndex := 318, descriptorIndex := 194, attributes := #[] }, { accessFlags := 26, nameIndex := 320, descriptorIndex := 321, attributes := #[] }])
  fields := #[{ name := "MIN_VALUE", type := .int, accessFlags := 25, slot := 0, constantValue := 0 }, { name := "MAX_VALUE", type := .int, accessFlags := 25, slot := 1, constantValue := 0 }, { name := "TYPE", type := (.object "java/lang/Class"), accessFlags := 25, slot := 2, constantValue := 0 }, { name := "digits", type := (.array .char), accessFlags := 24, slot := 3, constantValue := 0 }, { name := "DigitTens", type := (.array .byte), accessFlags := 24, slot := 4, constantValue := 0 }, { name := "DigitOnes", type := (.array .byte), accessFlags := 24, slot := 5, constantValue := 0 }, { name := "value", type := .int, accessFlags := 18, slot := 0, constantValue := 0 }, { name := "SIZE", type := .int, accessFlags := 25, slot := 6, constantValue := 0 }, { name := "BYTES", type := .int, accessFlags := 25, slot := 7, constantValue := 0 }, { name := "serialVersionUID", type := .long, accessFlags := 26, slot := 8, constantValue := 0 }]
  methods := #[k9m0]
  instanceTypes := #[.int]
  staticTypes := #[.int, .int, (.object "java/lang/Class"), (.array .char), (.array .byte), (.array .byte), .int, .int, .long]
  resolved := Array.replicate 453 none
  statics := none }

def pool10 : Array CpInfo := pool [(1, .methodref 2 3), (0, .class_ 4), (0, .nameAndType 5 6), (0, u "java/lang/Object"), (0, u "<init>"), (0, u "()V"), (0, .fieldref 8 9), (0, .class_ 10), (0, .nameAndType 11 12), (0, u "com/example/maybe_set/maybeset/Modulus"), (0, u "size"), (0, u "J"), (0, .long 18446744073709551615), (1, .methodref 16 17), (0, .class_ 18), (0, .nameAndType 19 20), (0, u "java/lang/Long"), (0, u "divideUnsigned"), (0, u "(JJ)J"), (0, .fieldref 8 22), (0, .nameAndType 23 12), (0, u "reciprocal"), (8, u "(J)V")] 9

def k10c0 : Code := { maxStack := 5, maxLocals := 3, code := prog_15_method_1_code, exceptionTable := #[], attributes := #[] }
def k10m0 : Method := { name := "<init>", desc := "(J)V", sig := { parameters := [.long], returnType := none }, accessFlags := 0, code := some k10c0 }
/-- com/example/maybe_set/maybeset/Modulus -/
def k10 : Class := { plain "com/example/maybe_set/maybeset/Modulus" (some 0) with
  accessFlags := 32
  interfaces := #[]
  cf := some (fileOf pool10 8 #[] #[{ accessFlags := 0, nameIndex := 5, descriptorIndex := 32, attributes := #[] }] 32 2 #[] #[{ accessFlags := 18, nameIndex := 11, descriptorIndex := 12, attributes := #[] }, { accessFlags := 18, nameIndex := 23, descriptorIndex := 12, attributes := #[] }])
  fields := #[{ name := "size", type := .long, accessFlags := 18, slot := 0, constantValue := 0 }, { name := "reciprocal", type := .long, accessFlags := 18, slot := 1, constantValue := 0 }]
  methods := #[k10m0]
  instanceTypes := #[.long, .long]
  staticTypes := #[]
  resolved := Array.replicate 42 none
  statics := none }

def pool11 : Array CpInfo := pool [(1, u "java/lang/Cloneable"), (0, .class_ 1), (0, u "java/lang/Object"), (0, .class_ 3)] 3

/-- java/lang/Cloneable -/
def k11 : Class := { plain "java/lang/Cloneable" (some 0) with
  accessFlags := 1537
  interfaces := #[]
  cf := some (fileOf pool11 2 #[] #[] 1537 4 #[] #[])
  fields := #[]
  methods := #[]
  instanceTypes := #[]
  staticTypes := #[]
  resolved := Array.replicate 8 none
  statics := none }

/-- the primitive byte -/
def k12 : Class := { plain "byte" none with kind := .primitive 'B', accessFlags := 0x411 }
/-- [B -/
def k13 : Class := { plain "[B" (some 0) with kind := .array 12 .byte, interfaces := #[11, 3], accessFlags := 1041 }

/-- the primitive int -/
def k14 : Class := { plain "int" none with kind := .primitive 'I', accessFlags := 0x411 }
/-- [I -/
def k15 : Class := { plain "[I" (some 0) with kind := .array 14 .int, interfaces := #[11, 3], accessFlags := 1041 }

/-- the primitive long -/
def k16 : Class := { plain "long" none with kind := .primitive 'J', accessFlags := 0x411 }
/-- [J -/
def k17 : Class := { plain "[J" (some 0) with kind := .array 16 .long, interfaces := #[11, 3], accessFlags := 1041 }

def heap : Heap := #[]
def classes : Array Class := #[k0, k1, k2, k3, k4, k5, k6, k7, k8, k9, k10, k11, k12, k13, k14, k15, k16, k17]
def interned : List (Array UInt16 × Addr) := []
def slotsUsed : Nat := 0
def theMethod : MethodId := ⟨1, 3⟩
def args0 : Array Value := #[.int 5, .int 7, .int 100, .long 3, .long 4, .long 9]
def aboutOver (below : List Frame) : State where
  vm := { classes := classes, interned := interned.toArray }
  heap := heap
  slotsUsed := slotsUsed
  threads := #[{ frames := .invoking theMethod args0 :: below }]
def below0 : List Frame := [.native { method := ⟨0, 0⟩, args := #[] }]
def about1 : State := aboutOver below0
def p0 : Program := .bare "" "" ""
def e0 : Env := launch0.env 0 0 0
theorem w_frames : about1.frames = Frame.invoking theMethod args0 :: below0 := rfl
set_option maxRecDepth 65536 in
theorem w_args : argsFit about1.vm theMethod args0 = true := by decide +kernel
set_option maxRecDepth 65536 in
theorem w_heap : heapFits about1 = true := by decide +kernel
set_option maxRecDepth 65536 in
theorem w_runnable : about1.curStatus? = some .runnable := by decide +kernel
set_option maxRecDepth 65536 in
theorem w_alone : about1.alone = true := by decide +kernel
set_option maxRecDepth 65536 in
theorem w_named : about1.methodNamed? x = some theMethod := by decide +kernel
set_option maxRecDepth 65536 in
theorem w_hears : about1.hears theMethod below0 = true := by decide +kernel
set_option maxRecDepth 65536 in
theorem w_ripe : about1.ripe theMethod args0 below0 = true := by decide +kernel
theorem w_running : about1.status = .running := rfl
set_option maxRecDepth 65536 in
theorem w_room : about1.hasRoom e0.platform room_1 = true :=
  launch0.hasRoom_least _ room_1 (by decide +kernel) (by decide +kernel) (by decide +kernel) (by decide +kernel) (by decide +kernel) (by decide +kernel)
theorem allAtoms_all (ts : List Jvm.Cond) (a : Array Jvm.Value) (st : Jvm.State) : (allAtoms ts).before a st = ts.all (fun c => c.before a st) := by
  induction ts with
  | nil => rfl
  | cons c t ih =>
    show (Jvm.Cond.and c (allAtoms t)).before a st = _
    rw [Jvm.Cond.before_and, ih, List.all_cons]
def words1 : List Jvm.Cond := Jvm.Cond.code x code maxLocals ret :: tables_1
/-- a 'code' word, met by the world's own term for the bytes: nothing is compared byte by byte -/
theorem code_word {y : MethodName} {bytes : ByteArray} {mx : Nat} {rt : Option FieldType} {a : Array Value} {s : State} {m : MethodId} {meth : Method} {c : Code} (h1 : s.methodNamed? y = some m) (h2 : s.vm.method? m = some meth) (h3 : meth.code = some c) (h4 : c.code = bytes)
    (h5 : (c.maxLocals == mx && c.exceptionTable.isEmpty && decide (c.maxStack ≤ mostOperands) && decide (meth.sig.returnType = rt) && !meth.locks && decide (parseMethodDescriptor y.desc = some meth.sig)) = true) : (Jvm.Cond.code y bytes mx rt).before a s = true := by
  simp only [Bool.and_eq_true, beq_iff_eq, Bool.not_eq_true', decide_eq_true_eq] at h5
  obtain ⟨⟨⟨⟨⟨g1, g2⟩, g3⟩, g4⟩, g5⟩, g6⟩ := h5
  simp [Cond.before, Cond.holds, Cond.value, h1, h2, h3, h4, g1, g2, g3, g4, g5, g6]
def isCode : Jvm.Cond → Bool
  | .code _ _ _ _ => true
  | _ => false
theorem all_split {L : List Jvm.Cond} {P : Jvm.Cond → Bool} (h1 : L.all (fun c => isCode c || P c) = true) (h2 : ∀ c ∈ L.filter isCode, P c = true) : L.all P = true := by
  refine List.all_eq_true.mpr fun c hc => ?_
  have h := List.all_eq_true.mp h1 c hc
  rcases Bool.eq_false_or_eq_true (isCode c) with hi | hi
  · exact h2 c (List.mem_filter.mpr ⟨hc, hi⟩)
  · simpa [hi] using h
set_option maxRecDepth 65536 in
theorem w_c0 : (Jvm.Cond.code x code maxLocals ret).before args0 about1 = true := code_word (m := ⟨1, 3⟩) (meth := k1m3) (c := k1c3) (by decide +kernel) rfl rfl rfl (by decide +kernel)
set_option maxRecDepth 65536 in
theorem w_c1 : (Jvm.Cond.code ({ cls := "com/example/maybe_set/maybeset/BucketTable", name := "rankBits", desc := "(I)I" } : Jvm.MethodName) prog_2_method_3_code (3 : Nat) (Option.some Jvm.ClassFile.FieldType.int)).before args0 about1 = true := code_word (m := ⟨2, 1⟩) (meth := k2m1) (c := k2c1) (by decide +kernel) rfl rfl rfl (by decide +kernel)
set_option maxRecDepth 65536 in
theorem w_c2 : (Jvm.Cond.code ({ cls := "com/example/maybe_set/maybeset/BucketTable", name := "choose4", desc := "(J)J" } : Jvm.MethodName) prog_2_method_34_code (2 : Nat) (Option.some Jvm.ClassFile.FieldType.long)).before args0 about1 = true := code_word (m := ⟨2, 4⟩) (meth := k2m4) (c := k2c4) (by decide +kernel) rfl rfl rfl (by decide +kernel)
set_option maxRecDepth 65536 in
theorem w_c3 : (Jvm.Cond.code ({ cls := "java/lang/Long", name := "numberOfLeadingZeros", desc := "(J)I" } : Jvm.MethodName) jdk_35_method_48_code (3 : Nat) (Option.some Jvm.ClassFile.FieldType.int)).before args0 about1 = true := code_word (m := ⟨8, 1⟩) (meth := k8m1) (c := k8c1) (by decide +kernel) rfl rfl rfl (by decide +kernel)
set_option maxRecDepth 65536 in
theorem w_c4 : (Jvm.Cond.code ({ cls := "java/lang/Integer", name := "numberOfLeadingZeros", desc := "(I)I" } : Jvm.MethodName) jdk_33_method_47_code (2 : Nat) (Option.some Jvm.ClassFile.FieldType.int)).before args0 about1 = true := code_word (m := ⟨9, 0⟩) (meth := k9m0) (c := k9c0) (by decide +kernel) rfl rfl rfl (by decide +kernel)
set_option maxRecDepth 65536 in
theorem w_c5 : (Jvm.Cond.code ({ cls := "com/example/maybe_set/maybeset/BucketTable", name := "pairBits", desc := "(II)I" } : Jvm.MethodName) prog_2_method_6_code (2 : Nat) (Option.some Jvm.ClassFile.FieldType.int)).before args0 about1 = true := code_word (m := ⟨2, 2⟩) (meth := k2m2) (c := k2c2) (by decide +kernel) rfl rfl rfl (by decide +kernel)
set_option maxRecDepth 65536 in
theorem w_c6 : (Jvm.Cond.code ({ cls := "com/example/maybe_set/maybeset/BucketTableFirstInvalidPairPinLaw", name := "value", desc := "(JJJ)J" } : Jvm.MethodName) method_3_code (11 : Nat) (Option.some Jvm.ClassFile.FieldType.long)).before args0 about1 = true := code_word (m := ⟨1, 2⟩) (meth := k1m2) (c := k1c2) (by decide +kernel) rfl rfl rfl (by decide +kernel)
set_option maxRecDepth 65536 in
theorem w_c7 : (Jvm.Cond.code ({ cls := "com/example/maybe_set/maybeset/BucketTableFirstInvalidPairPinLaw", name := "put", desc := "([JJIJ)V" } : Jvm.MethodName) method_2_code (11 : Nat) (Option.none : Option Jvm.ClassFile.FieldType)).before args0 about1 = true := code_word (m := ⟨1, 1⟩) (meth := k1m1) (c := k1c1) (by decide +kernel) rfl rfl rfl (by decide +kernel)
set_option maxRecDepth 65536 in
theorem w_c8 : (Jvm.Cond.code ({ cls := "com/example/maybe_set/maybeset/BucketTable", name := "<init>", desc := "(JII[J)V" } : Jvm.MethodName) prog_2_method_2_code (6 : Nat) (Option.none : Option Jvm.ClassFile.FieldType)).before args0 about1 = true := code_word (m := ⟨2, 0⟩) (meth := k2m0) (c := k2c0) (by decide +kernel) rfl rfl rfl (by decide +kernel)
set_option maxRecDepth 65536 in
theorem w_c9 : (Jvm.Cond.code ({ cls := "java/lang/Object", name := "<init>", desc := "()V" } : Jvm.MethodName) object_method_1_code (1 : Nat) (Option.none : Option Jvm.ClassFile.FieldType)).before args0 about1 = true := code_word (m := ⟨0, 0⟩) (meth := k0m0) (c := k0c0) (by decide +kernel) rfl rfl rfl (by decide +kernel)
set_option maxRecDepth 65536 in
theorem w_c10 : (Jvm.Cond.code ({ cls := "com/example/maybe_set/maybeset/Modulus", name := "<init>", desc := "(J)V" } : Jvm.MethodName) prog_15_method_1_code (3 : Nat) (Option.none : Option Jvm.ClassFile.FieldType)).before args0 about1 = true := code_word (m := ⟨10, 0⟩) (meth := k10m0) (c := k10c0) (by decide +kernel) rfl rfl rfl (by decide +kernel)
set_option maxRecDepth 65536 in
theorem w_c11 : (Jvm.Cond.code ({ cls := "java/lang/Long", name := "divideUnsigned", desc := "(JJ)J" } : Jvm.MethodName) jdk_35_method_44_code (8 : Nat) (Option.some Jvm.ClassFile.FieldType.long)).before args0 about1 = true := code_word (m := ⟨8, 0⟩) (meth := k8m0) (c := k8c0) (by decide +kernel) rfl rfl rfl (by decide +kernel)
set_option maxRecDepth 65536 in
theorem w_c12 : (Jvm.Cond.code ({ cls := "com/example/maybe_set/maybeset/BucketTable", name := "firstInvalidPair", desc := "()J" } : Jvm.MethodName) prog_2_method_15_code (5 : Nat) (Option.some Jvm.ClassFile.FieldType.long)).before args0 about1 = true := code_word (m := ⟨2, 3⟩) (meth := k2m3) (c := k2c3) (by decide +kernel) rfl rfl rfl (by decide +kernel)
set_option maxRecDepth 65536 in
theorem w_c13 : (Jvm.Cond.code ({ cls := "com/example/maybe_set/maybeset/BucketTable", name := "field", desc := "(JI)J" } : Jvm.MethodName) prog_2_method_35_code (8 : Nat) (Option.some Jvm.ClassFile.FieldType.long)).before args0 about1 = true := code_word (m := ⟨2, 5⟩) (meth := k2m5) (c := k2c5) (by decide +kernel) rfl rfl rfl (by decide +kernel)
def codes1 : List Jvm.Cond := [Jvm.Cond.code x code maxLocals ret, Jvm.Cond.code ({ cls := "com/example/maybe_set/maybeset/BucketTable", name := "rankBits", desc := "(I)I" } : Jvm.MethodName) prog_2_method_3_code (3 : Nat) (Option.some Jvm.ClassFile.FieldType.int), Jvm.Cond.code ({ cls := "com/example/maybe_set/maybeset/BucketTable", name := "choose4", desc := "(J)J" } : Jvm.MethodName) prog_2_method_34_code (2 : Nat) (Option.some Jvm.ClassFile.FieldType.long), Jvm.Cond.code ({ cls := "java/lang/Long", name := "numberOfLeadingZeros", desc := "(J)I" } : Jvm.MethodName) jdk_35_method_48_code (3 : Nat) (Option.some Jvm.ClassFile.FieldType.int), Jvm.Cond.code ({ cls := "java/lang/Integer", name := "numberOfLeadingZeros", desc := "(I)I" } : Jvm.MethodName) jdk_33_method_47_code (2 : Nat) (Option.some Jvm.ClassFile.FieldType.int), Jvm.Cond.code ({ cls := "com/example/maybe_set/maybeset/BucketTable", name := "pairBits", desc := "(II)I" } : Jvm.MethodName) prog_2_method_6_code (2 : Nat) (Option.some Jvm.ClassFile.FieldType.int), Jvm.Cond.code ({ cls := "com/example/maybe_set/maybeset/BucketTableFirstInvalidPairPinLaw", name := "value", desc := "(JJJ)J" } : Jvm.MethodName) method_3_code (11 : Nat) (Option.some Jvm.ClassFile.FieldType.long), Jvm.Cond.code ({ cls := "com/example/maybe_set/maybeset/BucketTableFirstInvalidPairPinLaw", name := "put", desc := "([JJIJ)V" } : Jvm.MethodName) method_2_code (11 : Nat) (Option.none : Option Jvm.ClassFile.FieldType), Jvm.Cond.code ({ cls := "com/example/maybe_set/maybeset/BucketTable", name := "<init>", desc := "(JII[J)V" } : Jvm.MethodName) prog_2_method_2_code (6 : Nat) (Option.none : Option Jvm.ClassFile.FieldType), Jvm.Cond.code ({ cls := "java/lang/Object", name := "<init>", desc := "()V" } : Jvm.MethodName) object_method_1_code (1 : Nat) (Option.none : Option Jvm.ClassFile.FieldType), Jvm.Cond.code ({ cls := "com/example/maybe_set/maybeset/Modulus", name := "<init>", desc := "(J)V" } : Jvm.MethodName) prog_15_method_1_code (3 : Nat) (Option.none : Option Jvm.ClassFile.FieldType), Jvm.Cond.code ({ cls := "java/lang/Long", name := "divideUnsigned", desc := "(JJ)J" } : Jvm.MethodName) jdk_35_method_44_code (8 : Nat) (Option.some Jvm.ClassFile.FieldType.long), Jvm.Cond.code ({ cls := "com/example/maybe_set/maybeset/BucketTable", name := "firstInvalidPair", desc := "()J" } : Jvm.MethodName) prog_2_method_15_code (5 : Nat) (Option.some Jvm.ClassFile.FieldType.long), Jvm.Cond.code ({ cls := "com/example/maybe_set/maybeset/BucketTable", name := "field", desc := "(JI)J" } : Jvm.MethodName) prog_2_method_35_code (8 : Nat) (Option.some Jvm.ClassFile.FieldType.long)]
set_option maxRecDepth 65536 in
theorem codes_eq : words1.filter isCode = codes1 := rfl
theorem w_codes : ∀ c ∈ words1.filter isCode, c.before args0 about1 = true := by
  rw [codes_eq]
  intro c hc
  simp only [codes1, List.mem_cons, List.not_mem_nil, or_false] at hc
  rcases hc with rfl | rfl | rfl | rfl | rfl | rfl | rfl | rfl | rfl | rfl | rfl | rfl | rfl | rfl
  · exact w_c0
  · exact w_c1
  · exact w_c2
  · exact w_c3
  · exact w_c4
  · exact w_c5
  · exact w_c6
  · exact w_c7
  · exact w_c8
  · exact w_c9
  · exact w_c10
  · exact w_c11
  · exact w_c12
  · exact w_c13
set_option maxRecDepth 65536 in
theorem w_t1 : (words1.take 24).all (fun c => isCode c || c.before args0 about1) = true := by decide +kernel
set_option maxRecDepth 65536 in
theorem w_t2 : ((words1.drop 24).take 24).all (fun c => isCode c || c.before args0 about1) = true := by decide +kernel
set_option maxRecDepth 65536 in
theorem w_t3 : (((words1.drop 24).drop 24).take 24).all (fun c => isCode c || c.before args0 about1) = true := by decide +kernel
set_option maxRecDepth 65536 in
theorem w_t4 : (((words1.drop 24).drop 24).drop 24).all (fun c => isCode c || c.before args0 about1) = true := by decide +kernel
theorem w_tables : (allAtoms (Jvm.Cond.code x code maxLocals ret :: tables_1)).before args0 about1 = true := by
  rw [allAtoms_all]
  show words1.all (fun c => c.before args0 about1) = true
  refine all_split ?_ w_codes
  rw [← List.take_append_drop 24 words1, List.all_append, w_t1, ← List.take_append_drop 24 (words1.drop 24), List.all_append, w_t2, ← List.take_append_drop 24 ((words1.drop 24).drop 24), List.all_append, w_t3, w_t4]
  rfl
set_option maxRecDepth 65536 in
theorem w_case : (Jvm.Cond.and given_1 narrow_1).before args0 about1 = true := by decide +kernel
theorem w_applies : (headSpec (Jvm.Cond.code x code maxLocals ret :: tables_1) room_1).applies x e0.platform about1 = true :=
  (Spec.applies_iff w_frames).mpr ⟨w_running, w_runnable, w_alone, w_named, w_hears, w_ripe, w_room, w_tables⟩
theorem atStart : AtStart classFile x code maxLocals ret World_1 tables_1 room_1 Calls_1 rest_1 Pre_1 launch0 p0 e0 about1 theMethod args0 below0 :=
  ⟨lists_1, trivial, launch0.admits_env _ _ _, launch0.least_env, fairChoices_fair.cas, fairChoices_fair.clock, w_frames, w_args, w_heap, w_applies, trivial, trivial, w_case⟩
end start1
theorem witness_1 : WitnessClaimed_1 := ⟨start1.p0, start1.e0, start1.about1, start1.theMethod, start1.args0, start1.below0, start1.atStart⟩
end Jvm.Pilot.@@N@@
