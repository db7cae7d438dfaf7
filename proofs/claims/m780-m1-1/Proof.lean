import JvmDerived
import JvmDerived.Pilot.@@N@@Statement
import JvmDerived.Pilot.@@N@@Code
set_option linter.unusedVariables false
set_option linter.unusedSimpArgs false
namespace Jvm.Pilot.@@N@@
open Jvm Jvm.ClassFile Sem Op Lib Jvm.Free Jvm.Stand Jvm.LawKit Jvm.RoadKit Bundle Jvm.Pilot.@@N@@.Jvm.D
section OwnKit
variable {p : Program} {l : Launch} {e : Env} {R : Room} {s : State} {m : MethodId} {args : Array Value} {below : List Frame} {meth : Method} {c : Code} {T : State} {locs : List Loc} {cells slots : Nat} {P : State → Outcome → Prop} {Z : State} {a0 : Array Value} {h : Heap} {pc : Nat} {Ls : Array Slot} {st : List Value}
def Goes (p : Program) (e : Env) (below : List Frame) (S : State) (P : State → Outcome → Prop) : Prop := ∃ (U : State) (o : Outcome), Steps p.tables e below S U ∧ U.status = .running ∧ Ended U below o ∧ P U o
def Endz (s : State) (kc ks : Nat) (Q : Option Value → Heap → List Loc → Prop) (U : State) (o : Outcome) : Prop := ∃ v L, o = .returned v ∧ Q v U.heap L ∧ FrameEnd s o U L kc ks
theorem go {S S' : State} (hs : ∀ t, Steps p.tables e below S' t → Steps p.tables e below S t) (k : Goes p e below S' P) : Goes p e below S P := by
  obtain ⟨U, o, k1, k2⟩ := k
  exact ⟨U, o, hs U k1, k2⟩
theorem goT {S S' : State} (hs : Steps p.tables e below S S') (k : Goes p e below S' P) : Goes p e below S P := by
  obtain ⟨U, o, k1, k2⟩ := k
  exact ⟨U, o, hs.trans k1, k2⟩
theorem own_cast {g g' : JFrame} (q : g = g') (k : Goes p e below (T.setTop g') P) : Goes p e below (T.setTop g) P := q ▸ k
abbrev OwnMet (l : Launch) (Z : State) (y : MethodName) (bytes : ByteArray) (maxL : Nat) (ret : Option FieldType) (ws : List Jvm.Cond) (rm : Room) (as' : Array Value) (h : Heap) (Q : Option Value → Heap → List Loc → Prop) : Prop := MetFree l y (head1 (Jvm.Cond.code y bytes maxL ret :: ws) rm) (fun a U => a = as' ∧ Z.Warmed39 U.vm ∧ U.heap = h) (fun _ _ _ _ _ => True) (fun _ U o U' => ∃ v L, o = .returned v ∧ Q v U'.heap L ∧ FrameEnd U o U' L rm.cells rm.slots)
theorem own_body {y : MethodName} {bytes : ByteArray} {maxL : Nat} {ret : Option FieldType} {ws : List Jvm.Cond} {rm : Room} {as' : Array Value} {Q : Option Value → Heap → List Loc → Prop} (hpn : plainFor y = true)
    (B : ∀ (p : Program) (e : Env) (s : State) (m : MethodId) (below : List Frame) (meth : Method) (c : Code) (s₁ : State), p.tables.exec = Jvm.exec → c.code = bytes → c.maxLocals = maxL → s.vm.findClass y.cls = some m.cls → meth.name = y.name → meth.sig.returnType = ret → meth.locks = false → Z.Warmed39 s.vm → Stand p l e rm s m as' below meth c s₁ [] 0 0 → s₁.heap = h → Goes p e below (s₁.setTop (entryFrame m as' maxL)) (Endz s rm.cells rm.slots Q)) : OwnMet l Z y bytes maxL ret ws rm as' h Q := by
  refine MetFree.of_bodySF hpn hisR ?_
  intro p e s m args below meth c s₁ Bd hml0 hP hK
  obtain ⟨rfl, hZ, hh⟩ := hP
  exact B p e s m below meth c s₁ Bd.exec Bd.bytes hml0 (findClass_of_methodNamed Bd.named) (name_of_methodNamed Bd.named Bd.method).1 Bd.returns (BodyLoose.notSynchronized Bd) hZ (Stand.of_body Bd) (by rw [← hh, Bd.state]; rfl)
theorem g_ret {w : Value} {t : FieldType} {i : Instr} {kc ks : Nat} {Q : Option Value → Heap → List Loc → Prop} (X : Stand p l e R s m args below meth c T locs cells slots) (hx : p.tables.exec = Jvm.exec) (hret : meth.sig.returnType = some t) (hlk : meth.locks = false) (hn : narrow t w = w)
    (hi : (i = .ireturn ∧ (t = .int ∨ t = .boolean ∨ t = .byte ∨ t = .char ∨ t = .short) ∧ ∃ z, w = .int z) ∨ (i = .lreturn ∧ t = .long ∧ ∃ z, w = .long z) ∨ (i = .dreturn ∧ t = .double ∧ ∃ z, w = .double z) ∨ (i = .freturn ∧ t = .float ∧ ∃ z, w = .float z) ∨ (i = .areturn ∧ t.isReference = true ∧ w.isRef = true))
    (hd : decode c.code pc = .ok (i, 1)) (hQ : Q (some w) T.heap locs) (hc : cells ≤ kc) (hs : slots ≤ ks) : Goes p e below (T.setTop (mkF m pc Ls (w :: st))) (Endz s kc ks Q) := by
  obtain ⟨fs, hr, hrun, hended, hW, hsame⟩ := X.leave (v := some w) (fun h => by rw [hret] at h; cases h) hlk
  exact ⟨_, _, retOut X hx hret hn hi hd hr, hrun, hended, _, _, rfl, hQ, ⟨_, rfl⟩, hW, hsame.mono hc hs⟩
theorem g_retI {z : Int32} {kc ks : Nat} {Q : Option Value → Heap → List Loc → Prop} (X : Stand p l e R s m args below meth c T locs cells slots) (hx : p.tables.exec = Jvm.exec) (hret : meth.sig.returnType = some .int) (hlk : meth.locks = false) (hd : decode c.code pc = .ok (.ireturn, 1)) (hQ : Q (some (.int z)) T.heap locs) (hc : cells ≤ kc) (hs : slots ≤ ks) : Goes p e below (T.setTop (mkF m pc Ls (.int z :: st))) (Endz s kc ks Q) :=
  g_ret X hx hret hlk rfl (Or.inl ⟨rfl, Or.inl rfl, z, rfl⟩) hd hQ hc hs
theorem g_retZ {z : Int32} {kc ks : Nat} {Q : Option Value → Heap → List Loc → Prop} (X : Stand p l e R s m args below meth c T locs cells slots) (hx : p.tables.exec = Jvm.exec) (hret : meth.sig.returnType = some .boolean) (hlk : meth.locks = false) (hn : narrow .boolean (.int z) = .int z) (hd : decode c.code pc = .ok (.ireturn, 1)) (hQ : Q (some (.int z)) T.heap locs) (hc : cells ≤ kc) (hs : slots ≤ ks) : Goes p e below (T.setTop (mkF m pc Ls (.int z :: st))) (Endz s kc ks Q) :=
  g_ret X hx hret hlk hn (Or.inl ⟨rfl, Or.inr (Or.inl rfl), z, rfl⟩) hd hQ hc hs
theorem g_retJ {z : Int64} {kc ks : Nat} {Q : Option Value → Heap → List Loc → Prop} (X : Stand p l e R s m args below meth c T locs cells slots) (hx : p.tables.exec = Jvm.exec) (hret : meth.sig.returnType = some .long) (hlk : meth.locks = false) (hd : decode c.code pc = .ok (.lreturn, 1)) (hQ : Q (some (.long z)) T.heap locs) (hc : cells ≤ kc) (hs : slots ≤ ks) : Goes p e below (T.setTop (mkF m pc Ls (.long z :: st))) (Endz s kc ks Q) :=
  g_ret X hx hret hlk rfl (Or.inr (Or.inl ⟨rfl, rfl, z, rfl⟩)) hd hQ hc hs
theorem g_retA {w : Value} {t : FieldType} {kc ks : Nat} {Q : Option Value → Heap → List Loc → Prop} (X : Stand p l e R s m args below meth c T locs cells slots) (hx : p.tables.exec = Jvm.exec) (hret : meth.sig.returnType = some t) (hlk : meth.locks = false) (hn : narrow t w = w) (ht : t.isReference = true) (hw : w.isRef = true) (hd : decode c.code pc = .ok (.areturn, 1)) (hQ : Q (some w) T.heap locs) (hc : cells ≤ kc) (hs : slots ≤ ks) : Goes p e below (T.setTop (mkF m pc Ls (w :: st))) (Endz s kc ks Q) :=
  g_ret X hx hret hlk hn (Or.inr (Or.inr (Or.inr (Or.inr ⟨rfl, ht, hw⟩)))) hd hQ hc hs
theorem g_ret0 {kc ks : Nat} {Q : Option Value → Heap → List Loc → Prop} (X : Stand p l e R s m args below meth c T locs cells slots) (hx : p.tables.exec = Jvm.exec) (hret : meth.sig.returnType = none) (hlk : meth.locks = false) (hd : decode c.code pc = .ok (.return_, 1)) (hQ : Q none T.heap locs) (hc : cells ≤ kc) (hs : slots ≤ ks) : Goes p e below (T.setTop (mkF m pc Ls [])) (Endz s kc ks Q) := by
  obtain ⟨fs, hr, hrun, hended, hW, hsame⟩ := X.leave (v := none) (fun _ => rfl) hlk
  exact ⟨_, _, X.returnOut hx hret hd hr, hrun, hended, _, _, rfl, hQ, ⟨_, rfl⟩, hW, hsame.mono hc hs⟩
theorem g_iadd (X : Stand p l e R s m args below meth c T locs cells slots) (hx : p.tables.exec = Jvm.exec) (pc' : Nat) (hpc : pc + 1 = pc') {x y : Int32} (hd : decode c.code pc = .ok (.iadd, 1))  (K : Goes p e below (T.setTop (mkF m pc' Ls (.int (x + y) :: st))) P) : Goes p e below (T.setTop (mkF m pc Ls (.int y :: .int x :: st))) P := by
  subst hpc; exact go (fun _ q => XS.iadd X.here hx rfl hd rfl q) K
theorem g_isub (X : Stand p l e R s m args below meth c T locs cells slots) (hx : p.tables.exec = Jvm.exec) (pc' : Nat) (hpc : pc + 1 = pc') {x y : Int32} (hd : decode c.code pc = .ok (.isub, 1))  (K : Goes p e below (T.setTop (mkF m pc' Ls (.int (x - y) :: st))) P) : Goes p e below (T.setTop (mkF m pc Ls (.int y :: .int x :: st))) P := by
  subst hpc; exact go (fun _ q => XS.isub X.here hx rfl hd rfl q) K
theorem g_imul (X : Stand p l e R s m args below meth c T locs cells slots) (hx : p.tables.exec = Jvm.exec) (pc' : Nat) (hpc : pc + 1 = pc') {x y : Int32} (hd : decode c.code pc = .ok (.imul, 1))  (K : Goes p e below (T.setTop (mkF m pc' Ls (.int (x * y) :: st))) P) : Goes p e below (T.setTop (mkF m pc Ls (.int y :: .int x :: st))) P := by
  subst hpc; exact go (fun _ q => XS.imul X.here hx rfl hd rfl q) K
theorem g_iand (X : Stand p l e R s m args below meth c T locs cells slots) (hx : p.tables.exec = Jvm.exec) (pc' : Nat) (hpc : pc + 1 = pc') {x y : Int32} (hd : decode c.code pc = .ok (.iand, 1))  (K : Goes p e below (T.setTop (mkF m pc' Ls (.int (x &&& y) :: st))) P) : Goes p e below (T.setTop (mkF m pc Ls (.int y :: .int x :: st))) P := by
  subst hpc; exact go (fun _ q => XS.iand X.here hx rfl hd rfl q) K
theorem g_ior (X : Stand p l e R s m args below meth c T locs cells slots) (hx : p.tables.exec = Jvm.exec) (pc' : Nat) (hpc : pc + 1 = pc') {x y : Int32} (hd : decode c.code pc = .ok (.ior, 1))  (K : Goes p e below (T.setTop (mkF m pc' Ls (.int (x ||| y) :: st))) P) : Goes p e below (T.setTop (mkF m pc Ls (.int y :: .int x :: st))) P := by
  subst hpc; exact go (fun _ q => XT.ior X.here hx rfl hd rfl q) K
theorem g_ixor (X : Stand p l e R s m args below meth c T locs cells slots) (hx : p.tables.exec = Jvm.exec) (pc' : Nat) (hpc : pc + 1 = pc') {x y : Int32} (hd : decode c.code pc = .ok (.ixor, 1))  (K : Goes p e below (T.setTop (mkF m pc' Ls (.int (x ^^^ y) :: st))) P) : Goes p e below (T.setTop (mkF m pc Ls (.int y :: .int x :: st))) P := by
  subst hpc; exact go (fun _ q => XT.ixor X.here hx rfl hd rfl q) K
theorem g_ishl (X : Stand p l e R s m args below meth c T locs cells slots) (hx : p.tables.exec = Jvm.exec) (pc' : Nat) (hpc : pc + 1 = pc') {x y : Int32} (hd : decode c.code pc = .ok (.ishl, 1))  (K : Goes p e below (T.setTop (mkF m pc' Ls (.int (x <<< (y &&& 31)) :: st))) P) : Goes p e below (T.setTop (mkF m pc Ls (.int y :: .int x :: st))) P := by
  subst hpc; exact go (fun _ q => XT.ishl X.here hx rfl hd rfl q) K
theorem g_ishr (X : Stand p l e R s m args below meth c T locs cells slots) (hx : p.tables.exec = Jvm.exec) (pc' : Nat) (hpc : pc + 1 = pc') {x y : Int32} (hd : decode c.code pc = .ok (.ishr, 1))  (K : Goes p e below (T.setTop (mkF m pc' Ls (.int (x >>> (y &&& 31)) :: st))) P) : Goes p e below (T.setTop (mkF m pc Ls (.int y :: .int x :: st))) P := by
  subst hpc; exact go (fun _ q => XT.ishr X.here hx rfl hd rfl q) K
theorem g_iushr (X : Stand p l e R s m args below meth c T locs cells slots) (hx : p.tables.exec = Jvm.exec) (pc' : Nat) (hpc : pc + 1 = pc') {x y : Int32} (hd : decode c.code pc = .ok (.iushr, 1))  (K : Goes p e below (T.setTop (mkF m pc' Ls (.int (XT.ushr x y) :: st))) P) : Goes p e below (T.setTop (mkF m pc Ls (.int y :: .int x :: st))) P := by
  subst hpc; exact go (fun _ q => XT.iushr X.here hx rfl hd rfl q) K
theorem g_idiv (X : Stand p l e R s m args below meth c T locs cells slots) (hx : p.tables.exec = Jvm.exec) (pc' : Nat) (hpc : pc + 1 = pc') {x y : Int32} (hd : decode c.code pc = .ok (.idiv, 1)) (hy : y ≠ 0) (K : Goes p e below (T.setTop (mkF m pc' Ls (.int (x / y) :: st))) P) : Goes p e below (T.setTop (mkF m pc Ls (.int y :: .int x :: st))) P := by
  subst hpc; exact go (fun _ q => XS.idiv X.here hx rfl hd rfl hy q) K
theorem g_irem (X : Stand p l e R s m args below meth c T locs cells slots) (hx : p.tables.exec = Jvm.exec) (pc' : Nat) (hpc : pc + 1 = pc') {x y : Int32} (hd : decode c.code pc = .ok (.irem, 1)) (hy : y ≠ 0) (K : Goes p e below (T.setTop (mkF m pc' Ls (.int (x % y) :: st))) P) : Goes p e below (T.setTop (mkF m pc Ls (.int y :: .int x :: st))) P := by
  subst hpc; exact go (fun _ q => iremM X hx rfl hd rfl hy q) K
theorem g_ineg (X : Stand p l e R s m args below meth c T locs cells slots) (hx : p.tables.exec = Jvm.exec) (pc' : Nat) (hpc : pc + 1 = pc') {x : Int32} (hd : decode c.code pc = .ok (.ineg, 1))  (K : Goes p e below (T.setTop (mkF m pc' Ls (.int (-x) :: st))) P) : Goes p e below (T.setTop (mkF m pc Ls (.int x :: st))) P := by
  subst hpc; exact go (fun _ q => XS.ineg X.here hx rfl hd rfl q) K
theorem g_ladd (X : Stand p l e R s m args below meth c T locs cells slots) (hx : p.tables.exec = Jvm.exec) (pc' : Nat) (hpc : pc + 1 = pc') {x y : Int64} (hd : decode c.code pc = .ok (.ladd, 1))  (K : Goes p e below (T.setTop (mkF m pc' Ls (.long (x + y) :: st))) P) : Goes p e below (T.setTop (mkF m pc Ls (.long y :: .long x :: st))) P := by
  subst hpc; exact go (fun _ q => XT.ladd X.here hx rfl hd rfl q) K
theorem g_lsub (X : Stand p l e R s m args below meth c T locs cells slots) (hx : p.tables.exec = Jvm.exec) (pc' : Nat) (hpc : pc + 1 = pc') {x y : Int64} (hd : decode c.code pc = .ok (.lsub, 1))  (K : Goes p e below (T.setTop (mkF m pc' Ls (.long (x - y) :: st))) P) : Goes p e below (T.setTop (mkF m pc Ls (.long y :: .long x :: st))) P := by
  subst hpc; exact go (fun _ q => XT.lsub X.here hx rfl hd rfl q) K
theorem g_lmul (X : Stand p l e R s m args below meth c T locs cells slots) (hx : p.tables.exec = Jvm.exec) (pc' : Nat) (hpc : pc + 1 = pc') {x y : Int64} (hd : decode c.code pc = .ok (.lmul, 1))  (K : Goes p e below (T.setTop (mkF m pc' Ls (.long (x * y) :: st))) P) : Goes p e below (T.setTop (mkF m pc Ls (.long y :: .long x :: st))) P := by
  subst hpc; exact go (fun _ q => XT.lmul X.here hx rfl hd rfl q) K
theorem g_land (X : Stand p l e R s m args below meth c T locs cells slots) (hx : p.tables.exec = Jvm.exec) (pc' : Nat) (hpc : pc + 1 = pc') {x y : Int64} (hd : decode c.code pc = .ok (.land, 1))  (K : Goes p e below (T.setTop (mkF m pc' Ls (.long (x &&& y) :: st))) P) : Goes p e below (T.setTop (mkF m pc Ls (.long y :: .long x :: st))) P := by
  subst hpc; exact go (fun _ q => XT.land X.here hx rfl hd rfl q) K
theorem g_lor (X : Stand p l e R s m args below meth c T locs cells slots) (hx : p.tables.exec = Jvm.exec) (pc' : Nat) (hpc : pc + 1 = pc') {x y : Int64} (hd : decode c.code pc = .ok (.lor, 1))  (K : Goes p e below (T.setTop (mkF m pc' Ls (.long (x ||| y) :: st))) P) : Goes p e below (T.setTop (mkF m pc Ls (.long y :: .long x :: st))) P := by
  subst hpc; exact go (fun _ q => XT.lor X.here hx rfl hd rfl q) K
theorem g_lxor (X : Stand p l e R s m args below meth c T locs cells slots) (hx : p.tables.exec = Jvm.exec) (pc' : Nat) (hpc : pc + 1 = pc') {x y : Int64} (hd : decode c.code pc = .ok (.lxor, 1))  (K : Goes p e below (T.setTop (mkF m pc' Ls (.long (x ^^^ y) :: st))) P) : Goes p e below (T.setTop (mkF m pc Ls (.long y :: .long x :: st))) P := by
  subst hpc; exact go (fun _ q => XT.lxor X.here hx rfl hd rfl q) K
theorem g_lshl (X : Stand p l e R s m args below meth c T locs cells slots) (hx : p.tables.exec = Jvm.exec) (pc' : Nat) (hpc : pc + 1 = pc') {x : Int64} {y : Int32} (hd : decode c.code pc = .ok (.lshl, 1))  (K : Goes p e below (T.setTop (mkF m pc' Ls (.long (x <<< (y.toInt64 &&& 63)) :: st))) P) : Goes p e below (T.setTop (mkF m pc Ls (.int y :: .long x :: st))) P := by
  subst hpc; exact go (fun _ q => XT.lshl X.here hx rfl hd rfl q) K
theorem g_lshr (X : Stand p l e R s m args below meth c T locs cells slots) (hx : p.tables.exec = Jvm.exec) (pc' : Nat) (hpc : pc + 1 = pc') {x : Int64} {y : Int32} (hd : decode c.code pc = .ok (.lshr, 1))  (K : Goes p e below (T.setTop (mkF m pc' Ls (.long (x >>> (y.toInt64 &&& 63)) :: st))) P) : Goes p e below (T.setTop (mkF m pc Ls (.int y :: .long x :: st))) P := by
  subst hpc; exact go (fun _ q => XT.lshr X.here hx rfl hd rfl q) K
theorem g_lushr (X : Stand p l e R s m args below meth c T locs cells slots) (hx : p.tables.exec = Jvm.exec) (pc' : Nat) (hpc : pc + 1 = pc') {x : Int64} {y : Int32} (hd : decode c.code pc = .ok (.lushr, 1))  (K : Goes p e below (T.setTop (mkF m pc' Ls (.long (XT.ushrL x y) :: st))) P) : Goes p e below (T.setTop (mkF m pc Ls (.int y :: .long x :: st))) P := by
  subst hpc; exact go (fun _ q => XT.lushr X.here hx rfl hd rfl q) K
theorem g_ldiv (X : Stand p l e R s m args below meth c T locs cells slots) (hx : p.tables.exec = Jvm.exec) (pc' : Nat) (hpc : pc + 1 = pc') {x y : Int64} (hd : decode c.code pc = .ok (.ldiv, 1)) (hy : y ≠ 0) (K : Goes p e below (T.setTop (mkF m pc' Ls (.long (x / y) :: st))) P) : Goes p e below (T.setTop (mkF m pc Ls (.long y :: .long x :: st))) P := by
  subst hpc; exact go (fun _ q => XT.ldiv X.here hx rfl hd rfl hy q) K
theorem g_lrem (X : Stand p l e R s m args below meth c T locs cells slots) (hx : p.tables.exec = Jvm.exec) (pc' : Nat) (hpc : pc + 1 = pc') {x y : Int64} (hd : decode c.code pc = .ok (.lrem, 1)) (hy : y ≠ 0) (K : Goes p e below (T.setTop (mkF m pc' Ls (.long (x % y) :: st))) P) : Goes p e below (T.setTop (mkF m pc Ls (.long y :: .long x :: st))) P := by
  subst hpc; exact go (fun _ q => XT.lrem X.here hx rfl hd rfl hy (by rw [lrem_mod]; exact q)) K
theorem g_lneg (X : Stand p l e R s m args below meth c T locs cells slots) (hx : p.tables.exec = Jvm.exec) (pc' : Nat) (hpc : pc + 1 = pc') {x : Int64} (hd : decode c.code pc = .ok (.lneg, 1))  (K : Goes p e below (T.setTop (mkF m pc' Ls (.long (-x) :: st))) P) : Goes p e below (T.setTop (mkF m pc Ls (.long x :: st))) P := by
  subst hpc; exact go (fun _ q => XT.lneg X.here hx rfl hd rfl q) K
theorem g_i2l (X : Stand p l e R s m args below meth c T locs cells slots) (hx : p.tables.exec = Jvm.exec) (pc' : Nat) (hpc : pc + 1 = pc') {x : Int32} (hd : decode c.code pc = .ok (.i2l, 1))  (K : Goes p e below (T.setTop (mkF m pc' Ls (.long x.toInt64 :: st))) P) : Goes p e below (T.setTop (mkF m pc Ls (.int x :: st))) P := by
  subst hpc; exact go (fun _ q => XT.i2l X.here hx rfl hd rfl q) K
theorem g_l2i (X : Stand p l e R s m args below meth c T locs cells slots) (hx : p.tables.exec = Jvm.exec) (pc' : Nat) (hpc : pc + 1 = pc') {x : Int64} (hd : decode c.code pc = .ok (.l2i, 1))  (K : Goes p e below (T.setTop (mkF m pc' Ls (.int x.toInt32 :: st))) P) : Goes p e below (T.setTop (mkF m pc Ls (.long x :: st))) P := by
  subst hpc; exact go (fun _ q => XT.l2i X.here hx rfl hd rfl q) K
theorem g_i2b (X : Stand p l e R s m args below meth c T locs cells slots) (hx : p.tables.exec = Jvm.exec) (pc' : Nat) (hpc : pc + 1 = pc') {x : Int32} (hd : decode c.code pc = .ok (.i2b, 1))  (K : Goes p e below (T.setTop (mkF m pc' Ls (.int x.toInt8.toInt32 :: st))) P) : Goes p e below (T.setTop (mkF m pc Ls (.int x :: st))) P := by
  subst hpc; exact go (fun _ q => XT.i2b X.here hx rfl hd rfl q) K
theorem g_i2c (X : Stand p l e R s m args below meth c T locs cells slots) (hx : p.tables.exec = Jvm.exec) (pc' : Nat) (hpc : pc + 1 = pc') {x : Int32} (hd : decode c.code pc = .ok (.i2c, 1))  (K : Goes p e below (T.setTop (mkF m pc' Ls (.int x.toUInt32.toUInt16.toUInt32.toInt32 :: st))) P) : Goes p e below (T.setTop (mkF m pc Ls (.int x :: st))) P := by
  subst hpc; exact go (fun _ q => XT.i2c X.here hx rfl hd rfl q) K
theorem g_i2s (X : Stand p l e R s m args below meth c T locs cells slots) (hx : p.tables.exec = Jvm.exec) (pc' : Nat) (hpc : pc + 1 = pc') {x : Int32} (hd : decode c.code pc = .ok (.i2s, 1))  (K : Goes p e below (T.setTop (mkF m pc' Ls (.int x.toInt16.toInt32 :: st))) P) : Goes p e below (T.setTop (mkF m pc Ls (.int x :: st))) P := by
  subst hpc; exact go (fun _ q => XT.i2s X.here hx rfl hd rfl q) K
theorem g_lcmp (X : Stand p l e R s m args below meth c T locs cells slots) (hx : p.tables.exec = Jvm.exec) (pc' : Nat) (hpc : pc + 1 = pc') {x y : Int64} (hd : decode c.code pc = .ok (.lcmp, 1))  (K : Goes p e below (T.setTop (mkF m pc' Ls (.int (XT.cmpL x y) :: st))) P) : Goes p e below (T.setTop (mkF m pc Ls (.long y :: .long x :: st))) P := by
  subst hpc; exact go (fun _ q => XT.lcmp X.here hx rfl hd rfl q) K
theorem g_dup (X : Stand p l e R s m args below meth c T locs cells slots) (hx : p.tables.exec = Jvm.exec) (pc' : Nat) (hpc : pc + 1 = pc') {x : Value} (hd : decode c.code pc = .ok (.dup, 1)) (hc : x.category = 1) (K : Goes p e below (T.setTop (mkF m pc' Ls (x :: x :: st))) P) : Goes p e below (T.setTop (mkF m pc Ls (x :: st))) P := by
  subst hpc; exact go (fun _ q => XS.dup X.here hx rfl hd rfl hc q) K
theorem g_pop (X : Stand p l e R s m args below meth c T locs cells slots) (hx : p.tables.exec = Jvm.exec) (pc' : Nat) (hpc : pc + 1 = pc') {x : Value} (hd : decode c.code pc = .ok (.pop, 1)) (hc : x.category = 1) (K : Goes p e below (T.setTop (mkF m pc' Ls (st))) P) : Goes p e below (T.setTop (mkF m pc Ls (x :: st))) P := by
  subst hpc; exact go (fun _ q => XT.pop X.here hx rfl hd rfl hc q) K
theorem g_dup_x1 (X : Stand p l e R s m args below meth c T locs cells slots) (hx : p.tables.exec = Jvm.exec) (pc' : Nat) (hpc : pc + 1 = pc') {x y : Value} (hd : decode c.code pc = .ok (.dup_x1, 1)) (hc : x.category = 1) (hc' : y.category = 1) (K : Goes p e below (T.setTop (mkF m pc' Ls (x :: y :: x :: st))) P) : Goes p e below (T.setTop (mkF m pc Ls (x :: y :: st))) P := by
  subst hpc; exact go (fun _ q => XT.dupX1 X.here hx rfl hd rfl hc hc' q) K
theorem g_dup2 (X : Stand p l e R s m args below meth c T locs cells slots) (hx : p.tables.exec = Jvm.exec) (pc' : Nat) (hpc : pc + 1 = pc') {x y : Value} (hd : decode c.code pc = .ok (.dup2, 1)) (hc : x.category = 1) (hc' : y.category = 1) (K : Goes p e below (T.setTop (mkF m pc' Ls (x :: y :: x :: y :: st))) P) : Goes p e below (T.setTop (mkF m pc Ls (x :: y :: st))) P := by
  subst hpc; exact go (fun _ q => XT.dup2 X.here hx rfl hd rfl hc hc' q) K
theorem g_dup2L (X : Stand p l e R s m args below meth c T locs cells slots) (hx : p.tables.exec = Jvm.exec) (pc' : Nat) (hpc : pc + 1 = pc') {x : Int64} (hd : decode c.code pc = .ok (.dup2, 1))  (K : Goes p e below (T.setTop (mkF m pc' Ls (.long x :: .long x :: st))) P) : Goes p e below (T.setTop (mkF m pc Ls (.long x :: st))) P := by
  subst hpc; exact go (fun _ q => XT.dup2L X.here hx rfl hd rfl q) K
theorem g_iconst (X : Stand p l e R s m args below meth c T locs cells slots) (hx : p.tables.exec = Jvm.exec) (pc' : Nat) (hpc : pc + 1 = pc') {i : Int} (v : Int32) (hv : Int32.ofInt i = v) (hd : decode c.code pc = .ok (.iconst i, 1))  (K : Goes p e below (T.setTop (mkF m pc' Ls (.int v :: st))) P) : Goes p e below (T.setTop (mkF m pc Ls (st))) P := by
  subst hpc; exact go (fun _ q => XS.iconst X.here hx rfl hd (by rw [hv]; exact q)) K
theorem g_bipush (X : Stand p l e R s m args below meth c T locs cells slots) (hx : p.tables.exec = Jvm.exec) (pc' : Nat) (hpc : pc + 2 = pc') {i : Int} (v : Int32) (hv : (Int8.ofInt i).toInt32 = v) (hd : decode c.code pc = .ok (.bipush i, 2))  (K : Goes p e below (T.setTop (mkF m pc' Ls (.int v :: st))) P) : Goes p e below (T.setTop (mkF m pc Ls (st))) P := by
  subst hpc; exact go (fun _ q => XS.bipush X.here hx rfl hd (by rw [hv]; exact q)) K
theorem g_sipush (X : Stand p l e R s m args below meth c T locs cells slots) (hx : p.tables.exec = Jvm.exec) (pc' : Nat) (hpc : pc + 3 = pc') {i : Int} (v : Int32) (hv : (Int16.ofInt i).toInt32 = v) (hd : decode c.code pc = .ok (.sipush i, 3))  (K : Goes p e below (T.setTop (mkF m pc' Ls (.int v :: st))) P) : Goes p e below (T.setTop (mkF m pc Ls (st))) P := by
  subst hpc; exact go (fun _ q => XS.sipush X.here hx rfl hd (by rw [hv]; exact q)) K
theorem g_lconst (X : Stand p l e R s m args below meth c T locs cells slots) (hx : p.tables.exec = Jvm.exec) (pc' : Nat) (hpc : pc + 1 = pc') {k : Fin 2} (v : Int64) (hv : Int64.ofNat k = v) (hd : decode c.code pc = .ok (.lconst k, 1))  (K : Goes p e below (T.setTop (mkF m pc' Ls (.long v :: st))) P) : Goes p e below (T.setTop (mkF m pc Ls (st))) P := by
  subst hpc; exact go (fun _ q => XT.lconst X.here hx rfl hd (by rw [hv]; exact q)) K
theorem g_aconst_null (X : Stand p l e R s m args below meth c T locs cells slots) (hx : p.tables.exec = Jvm.exec) (pc' : Nat) (hpc : pc + 1 = pc')  (hd : decode c.code pc = .ok (.aconst_null, 1))  (K : Goes p e below (T.setTop (mkF m pc' Ls (.null :: st))) P) : Goes p e below (T.setTop (mkF m pc Ls (st))) P := by
  subst hpc; exact go (fun _ q => XS.aconstNull X.here hx rfl hd q) K
theorem g_ldcI (X : Stand p l e R s m args below meth c T locs cells slots) (hx : p.tables.exec = Jvm.exec) (pc' : Nat) (hpc : pc + 2 = pc') {own : String} {index : Nat} {v : Int32} (hown : s.vm.findClass own = some m.cls) (hZ : Z.Warmed39 s.vm) (w : (Jvm.Cond.constant own index v).before a0 Z = true) (hd : decode c.code pc = .ok (.ldc index, 2))  (K : Goes p e below (T.setTop (mkF m pc' Ls (.int v :: st))) P) : Goes p e below (T.setTop (mkF m pc Ls (st))) P := by
  subst hpc; exact go (fun _ q => X.ldcInt hx hown (mvT hZ w) (g := mkF m pc Ls st) rfl hd _ q) K
theorem g_ldcJ (X : Stand p l e R s m args below meth c T locs cells slots) (hx : p.tables.exec = Jvm.exec) (pc' : Nat) (hpc : pc + 3 = pc') {own : String} {index : Nat} {v : Int64} (hown : s.vm.findClass own = some m.cls) (hZ : Z.Warmed39 s.vm) (w : (Jvm.Cond.constantLong own index v).before a0 Z = true) (hd : decode c.code pc = .ok (.ldc2_w index, 3))  (K : Goes p e below (T.setTop (mkF m pc' Ls (.long v :: st))) P) : Goes p e below (T.setTop (mkF m pc Ls (st))) P := by
  subst hpc; exact go (fun _ q => X.ldc2Long hx hown (mvT hZ w) (g := mkF m pc Ls st) rfl hd _ q) K
theorem g_iload_n (X : Stand p l e R s m args below meth c T locs cells slots) (hx : p.tables.exec = Jvm.exec) (pc' : Nat) (hpc : pc + 1 = pc') {k : Fin 4} {v : Int32} (hd : decode c.code pc = .ok (.iload_n k, 1)) (hl : Ls[k.val]? = some (.val (.int v))) (K : Goes p e below (T.setTop (mkF m pc' Ls (.int v :: st))) P) : Goes p e below (T.setTop (mkF m pc Ls (st))) P := by
  subst hpc; exact go (fun _ q => XS.iloadN X.here hx rfl hd hl q) K
theorem g_iload (X : Stand p l e R s m args below meth c T locs cells slots) (hx : p.tables.exec = Jvm.exec) (pc' : Nat) (hpc : pc + 2 = pc') {k : Nat} {v : Int32} (hd : decode c.code pc = .ok (.iload k, 2)) (hl : Ls[k]? = some (.val (.int v))) (K : Goes p e below (T.setTop (mkF m pc' Ls (.int v :: st))) P) : Goes p e below (T.setTop (mkF m pc Ls (st))) P := by
  subst hpc; exact go (fun _ q => XS.iload X.here hx rfl hd hl q) K
theorem g_lload_n (X : Stand p l e R s m args below meth c T locs cells slots) (hx : p.tables.exec = Jvm.exec) (pc' : Nat) (hpc : pc + 1 = pc') {k : Fin 4} {v : Int64} (hd : decode c.code pc = .ok (.lload_n k, 1)) (hl : Ls[k.val]? = some (.val (.long v))) (K : Goes p e below (T.setTop (mkF m pc' Ls (.long v :: st))) P) : Goes p e below (T.setTop (mkF m pc Ls (st))) P := by
  subst hpc; exact go (fun _ q => XT.lloadN X.here hx rfl hd hl q) K
theorem g_lload (X : Stand p l e R s m args below meth c T locs cells slots) (hx : p.tables.exec = Jvm.exec) (pc' : Nat) (hpc : pc + 2 = pc') {k : Nat} {v : Int64} (hd : decode c.code pc = .ok (.lload k, 2)) (hl : Ls[k]? = some (.val (.long v))) (K : Goes p e below (T.setTop (mkF m pc' Ls (.long v :: st))) P) : Goes p e below (T.setTop (mkF m pc Ls (st))) P := by
  subst hpc; exact go (fun _ q => XT.lload X.here hx rfl hd hl q) K
theorem g_aload_n (X : Stand p l e R s m args below meth c T locs cells slots) (hx : p.tables.exec = Jvm.exec) (pc' : Nat) (hpc : pc + 1 = pc') {k : Fin 4} {v : Value} (hd : decode c.code pc = .ok (.aload_n k, 1)) (hl : Ls[k.val]? = some (.val v)) (hv : v.isRef = true) (K : Goes p e below (T.setTop (mkF m pc' Ls (v :: st))) P) : Goes p e below (T.setTop (mkF m pc Ls (st))) P := by
  subst hpc; exact go (fun _ q => XS.aloadN X.here hx rfl hd hl hv q) K
theorem g_aload (X : Stand p l e R s m args below meth c T locs cells slots) (hx : p.tables.exec = Jvm.exec) (pc' : Nat) (hpc : pc + 2 = pc') {k : Nat} {v : Value} (hd : decode c.code pc = .ok (.aload k, 2)) (hl : Ls[k]? = some (.val v)) (hv : v.isRef = true) (K : Goes p e below (T.setTop (mkF m pc' Ls (v :: st))) P) : Goes p e below (T.setTop (mkF m pc Ls (st))) P := by
  subst hpc; exact go (fun _ q => XS.aload X.here hx rfl hd hl hv q) K
theorem g_istore_n (X : Stand p l e R s m args below meth c T locs cells slots) (hx : p.tables.exec = Jvm.exec) (pc' : Nat) (hpc : pc + 1 = pc') {k : Fin 4} {x : Int32} (hd : decode c.code pc = .ok (.istore_n k, 1))  (l' : Array Slot) (hl : storeLocals Ls k.val (.int x) = some l') (K : Goes p e below (T.setTop (mkF m pc' l' st)) P) : Goes p e below (T.setTop (mkF m pc Ls (.int x :: st))) P := by
  subst hpc; exact go (fun _ q => XS.istoreN X.here hx rfl hd rfl hl q) K
theorem g_istore (X : Stand p l e R s m args below meth c T locs cells slots) (hx : p.tables.exec = Jvm.exec) (pc' : Nat) (hpc : pc + 2 = pc') {k : Nat} {x : Int32} (hd : decode c.code pc = .ok (.istore k, 2))  (l' : Array Slot) (hl : storeLocals Ls k (.int x) = some l') (K : Goes p e below (T.setTop (mkF m pc' l' st)) P) : Goes p e below (T.setTop (mkF m pc Ls (.int x :: st))) P := by
  subst hpc; exact go (fun _ q => XS.istore X.here hx rfl hd rfl hl q) K
theorem g_lstore_n (X : Stand p l e R s m args below meth c T locs cells slots) (hx : p.tables.exec = Jvm.exec) (pc' : Nat) (hpc : pc + 1 = pc') {k : Fin 4} {x : Int64} (hd : decode c.code pc = .ok (.lstore_n k, 1))  (l' : Array Slot) (hl : storeLocals Ls k.val (.long x) = some l') (K : Goes p e below (T.setTop (mkF m pc' l' st)) P) : Goes p e below (T.setTop (mkF m pc Ls (.long x :: st))) P := by
  subst hpc; exact go (fun _ q => XT.lstoreN X.here hx rfl hd rfl hl q) K
theorem g_lstore (X : Stand p l e R s m args below meth c T locs cells slots) (hx : p.tables.exec = Jvm.exec) (pc' : Nat) (hpc : pc + 2 = pc') {k : Nat} {x : Int64} (hd : decode c.code pc = .ok (.lstore k, 2))  (l' : Array Slot) (hl : storeLocals Ls k (.long x) = some l') (K : Goes p e below (T.setTop (mkF m pc' l' st)) P) : Goes p e below (T.setTop (mkF m pc Ls (.long x :: st))) P := by
  subst hpc; exact go (fun _ q => XT.lstore X.here hx rfl hd rfl hl q) K
theorem g_astore_n (X : Stand p l e R s m args below meth c T locs cells slots) (hx : p.tables.exec = Jvm.exec) (pc' : Nat) (hpc : pc + 1 = pc') {k : Fin 4} {x : Value} (hd : decode c.code pc = .ok (.astore_n k, 1)) (hv : x.isRef = true) (l' : Array Slot) (hl : storeLocals Ls k.val x = some l') (K : Goes p e below (T.setTop (mkF m pc' l' st)) P) : Goes p e below (T.setTop (mkF m pc Ls (x :: st))) P := by
  subst hpc; exact go (fun _ q => XS.astoreN X.here hx rfl hd rfl hv hl q) K
theorem g_astore (X : Stand p l e R s m args below meth c T locs cells slots) (hx : p.tables.exec = Jvm.exec) (pc' : Nat) (hpc : pc + 2 = pc') {k : Nat} {x : Value} (hd : decode c.code pc = .ok (.astore k, 2)) (hv : x.isRef = true) (l' : Array Slot) (hl : storeLocals Ls k x = some l') (K : Goes p e below (T.setTop (mkF m pc' l' st)) P) : Goes p e below (T.setTop (mkF m pc Ls (x :: st))) P := by
  subst hpc; exact go (fun _ q => XS.astore X.here hx rfl hd rfl hv hl q) K
theorem g_iinc (X : Stand p l e R s m args below meth c T locs cells slots) (hx : p.tables.exec = Jvm.exec) (pc' : Nat) (hpc : pc + 3 = pc') {k : Nat} {cst : Int} {x : Int32} (hd : decode c.code pc = .ok (.iinc k cst, 3)) (v : Int32) (hv : x + Int32.ofInt cst = v) (hl : Ls[k]? = some (.val (.int x))) (l' : Array Slot) (hl' : storeLocals Ls k (.int v) = some l') (K : Goes p e below (T.setTop (mkF m pc' l' st)) P) : Goes p e below (T.setTop (mkF m pc Ls st)) P := by
  subst hpc; subst hv; exact go (fun _ q => XS.iinc X.here hx rfl hd hl hl' q) K
theorem g_goto (X : Stand p l e R s m args below meth c T locs cells slots) (hx : p.tables.exec = Jvm.exec) (pc' : Nat) {o : Int} (hd : decode c.code pc = .ok (.goto o, 3)) (ho : 0 ≤ (pc : Int) + o) (hp : ((pc : Int) + o).toNat = pc') (K : Goes p e below (T.setTop (mkF m pc' Ls st)) P) : Goes p e below (T.setTop (mkF m pc Ls st)) P :=
  go (fun _ q => XS.goto X.here hx rfl rfl hd ho hp q) K
theorem g_ifY (X : Stand p l e R s m args below meth c T locs cells slots) (hx : p.tables.exec = Jvm.exec) (pc' : Nat) {o : Int} {cd : ClassFile.Cond} {x : Int32} (hd : decode c.code pc = .ok (.ifCond cd o, 3)) (hc : ifCond.holds cd x = true) (ho : 0 ≤ (pc : Int) + o) (hp : ((pc : Int) + o).toNat = pc') (K : Goes p e below (T.setTop (mkF m pc' Ls st)) P) : Goes p e below (T.setTop (mkF m pc Ls (.int x :: st))) P :=
  go (fun _ q => XS.ifYes X.here hx rfl rfl hd rfl hc ho hp q) K
theorem g_ifN (X : Stand p l e R s m args below meth c T locs cells slots) (hx : p.tables.exec = Jvm.exec) (pc' : Nat) (hpc : pc + 3 = pc') {o : Int} {cd : ClassFile.Cond} {x : Int32} (hd : decode c.code pc = .ok (.ifCond cd o, 3)) (hc : ifCond.holds cd x = false) (K : Goes p e below (T.setTop (mkF m pc' Ls st)) P) : Goes p e below (T.setTop (mkF m pc Ls (.int x :: st))) P := by
  subst hpc; exact go (fun _ q => XS.ifNo X.here hx rfl hd rfl hc q) K
theorem g_icmpY (X : Stand p l e R s m args below meth c T locs cells slots) (hx : p.tables.exec = Jvm.exec) (pc' : Nat) {o : Int} {cd : ClassFile.Cond} {x y : Int32} (hd : decode c.code pc = .ok (.if_icmp cd o, 3)) (hc : if_icmp.holds cd x y = true) (ho : 0 ≤ (pc : Int) + o) (hp : ((pc : Int) + o).toNat = pc') (K : Goes p e below (T.setTop (mkF m pc' Ls st)) P) : Goes p e below (T.setTop (mkF m pc Ls (.int y :: .int x :: st))) P :=
  go (fun _ q => XS.icmpYes X.here hx rfl rfl hd rfl hc ho hp q) K
theorem g_icmpN (X : Stand p l e R s m args below meth c T locs cells slots) (hx : p.tables.exec = Jvm.exec) (pc' : Nat) (hpc : pc + 3 = pc') {o : Int} {cd : ClassFile.Cond} {x y : Int32} (hd : decode c.code pc = .ok (.if_icmp cd o, 3)) (hc : if_icmp.holds cd x y = false) (K : Goes p e below (T.setTop (mkF m pc' Ls st)) P) : Goes p e below (T.setTop (mkF m pc Ls (.int y :: .int x :: st))) P := by
  subst hpc; exact go (fun _ q => XS.icmpNo X.here hx rfl hd rfl hc q) K
theorem g_acmpY (X : Stand p l e R s m args below meth c T locs cells slots) (hx : p.tables.exec = Jvm.exec) (pc' : Nat) {o : Int} {cd : ClassFile.ACond} {x y : Value} (hd : decode c.code pc = .ok (.if_acmp cd o, 3)) (h1 : x.isRef = true) (h2 : y.isRef = true) (hc : XT.acmp cd x y = true) (ho : 0 ≤ (pc : Int) + o) (hp : ((pc : Int) + o).toNat = pc') (K : Goes p e below (T.setTop (mkF m pc' Ls st)) P) : Goes p e below (T.setTop (mkF m pc Ls (y :: x :: st))) P :=
  go (fun _ q => XT.acmpYes X.here hx rfl rfl hd rfl h1 h2 hc ho hp q) K
theorem g_acmpN (X : Stand p l e R s m args below meth c T locs cells slots) (hx : p.tables.exec = Jvm.exec) (pc' : Nat) (hpc : pc + 3 = pc') {o : Int} {cd : ClassFile.ACond} {x y : Value} (hd : decode c.code pc = .ok (.if_acmp cd o, 3)) (h1 : x.isRef = true) (h2 : y.isRef = true) (hc : XT.acmp cd x y = false) (K : Goes p e below (T.setTop (mkF m pc' Ls st)) P) : Goes p e below (T.setTop (mkF m pc Ls (y :: x :: st))) P := by
  subst hpc; exact go (fun _ q => XT.acmpNo X.here hx rfl hd rfl h1 h2 hc q) K
theorem g_ifnonnullY (X : Stand p l e R s m args below meth c T locs cells slots) (hx : p.tables.exec = Jvm.exec) (pc' : Nat) {o : Int} {b : Addr} (hd : decode c.code pc = .ok (.ifnonnull o, 3)) (ho : 0 ≤ (pc : Int) + o) (hp : ((pc : Int) + o).toNat = pc') (K : Goes p e below (T.setTop (mkF m pc' Ls st)) P) : Goes p e below (T.setTop (mkF m pc Ls (.ref b :: st))) P :=
  go (fun _ q => XT.ifnonnullYes X.here hx rfl rfl hd rfl ho hp q) K
theorem g_ifnonnullN (X : Stand p l e R s m args below meth c T locs cells slots) (hx : p.tables.exec = Jvm.exec) (pc' : Nat) (hpc : pc + 3 = pc') {o : Int} (hd : decode c.code pc = .ok (.ifnonnull o, 3)) (K : Goes p e below (T.setTop (mkF m pc' Ls st)) P) : Goes p e below (T.setTop (mkF m pc Ls (.null :: st))) P := by
  subst hpc; exact go (fun _ q => XT.ifnonnullNo X.here hx rfl hd rfl q) K
def b2i (b : Bool) : Int32 := if b then 1 else 0
theorem b2i_nar (b : Bool) : narrow .boolean (.int (b2i b)) = .int (b2i b) := by cases b <;> rfl
theorem bb_eq_t {b : Bool} (q : ¬ b = true) : ifCond.holds .eq (b2i b) = true := by cases b <;> first | rfl | exact absurd rfl q
theorem bb_eq_f {b : Bool} (q : b = true) : ifCond.holds .eq (b2i b) = false := by subst q; rfl
theorem bb_ne_t {b : Bool} (q : b = true) : ifCond.holds .ne (b2i b) = true := by subst q; rfl
theorem bb_ne_f {b : Bool} (q : ¬ b = true) : ifCond.holds .ne (b2i b) = false := by cases b <;> first | rfl | exact absurd rfl q
theorem b2_eq_t {a b : Bool} (q : a = b) : if_icmp.holds .eq (b2i a) (b2i b) = true := by subst q; cases a <;> rfl
theorem b2_eq_f {a b : Bool} (q : ¬ a = b) : if_icmp.holds .eq (b2i a) (b2i b) = false := by cases a <;> cases b <;> first | rfl | exact absurd rfl q
theorem b2_ne_t {a b : Bool} (q : ¬ a = b) : if_icmp.holds .ne (b2i a) (b2i b) = true := by cases a <;> cases b <;> first | rfl | exact absurd rfl q
theorem b2_ne_f {a b : Bool} (q : a = b) : if_icmp.holds .ne (b2i a) (b2i b) = false := by subst q; cases a <;> rfl
theorem g_getF (X : Stand p l e R s m args below meth c T locs cells slots) (hx : p.tables.exec = Jvm.exec) (hZ : Z.Warmed39 s.vm) (pc' : Nat) (hpc : pc + 3 = pc') {own O n d : String} {index : Nat} (hown : s.vm.findClass own = some m.cls) (w : (Jvm.Cond.fieldLink own index O n d).before a0 Z = true) (eT : T.heap = h) {a : Addr} {v : Value} (F : Fld Z h a O n d v) (hd : decode c.code pc = .ok (.getfield index, 3)) (K : ∀ T', Stand p l e R s m args below meth c T' locs cells slots → T'.heap = h → Goes p e below (T'.setTop (mkF m pc' Ls (v :: st))) P) : Goes p e below (T.setTop (mkF m pc Ls (.ref a :: st))) P := by
  subst hpc
  obtain ⟨T', X', e', st'⟩ := getF X hx hZ hown (host := "") (Or.inl w) Via.refl eT F (g := mkF m pc Ls (.ref a :: st)) rfl rfl hd
  exact go st' (K T' X' e')
theorem g_putF (X : Stand p l e R s m args below meth c T locs cells slots) (hx : p.tables.exec = Jvm.exec) (hZ : Z.Warmed39 s.vm) (pc' : Nat) (hpc : pc + 3 = pc') {own O n d C : String} {index kk : Nat} {ty : FieldType} (hown : s.vm.findClass own = some m.cls) (w : (Jvm.Cond.fieldLink own index O n d).before a0 Z = true) (eT : T.heap = h) {a : Addr} {v old : Value} (F : Fld Z h a O n d old) (E : Exa Z h a C) (L : (Jvm.Cond.lays C O n d).before a0 Z = true ∨ ((Jvm.Cond.laysFinal C O n d).before a0 Z = true ∧ own = O ∧ meth.name = "<init>")) (wi : (Jvm.Cond.instantiable C kk).before a0 Z = true) (hty : parseFieldDescriptor d = some ty) (hn : narrow ty v = v) (hf : fits ty v = true) (hd : decode c.code pc = .ok (.putfield index, 3)) (K : ∀ T' h', Stand p l e R s m args below meth c T' (locs ++ [⟨a, Jvm.RoadKit.slotOf Z O n d⟩]) cells slots → T'.heap = h' → Wr h h' a (Jvm.RoadKit.slotOf Z O n d) v → Goes p e below (T'.setTop (mkF m pc' Ls st)) P) : Goes p e below (T.setTop (mkF m pc Ls (v :: .ref a :: st))) P := by
  subst hpc
  obtain ⟨T', h', X', e', W', st'⟩ := putF X hx hZ hown (host := "") (Or.inl w) Via.refl eT F E L wi hty hn hf (g := mkF m pc Ls (v :: .ref a :: st)) rfl rfl hd
  exact go st' (K T' h' X' e' W')
theorem g_getS (X : Stand p l e R s m args below meth c T locs cells slots) (hx : p.tables.exec = Jvm.exec) (hZ : Z.Warmed39 s.vm) (pc' : Nat) (hpc : pc + 3 = pc') {own O n d : String} {index : Nat} (hown : s.vm.findClass own = some m.cls) (w : (Jvm.Cond.fieldLink own index O n d).before a0 Z = true) (eT : T.heap = h) {v : Value} (F : Sta Z h O n d v) (hd : decode c.code pc = .ok (.getstatic index, 3)) (K : ∀ T', Stand p l e R s m args below meth c T' locs cells slots → T'.heap = h → Goes p e below (T'.setTop (mkF m pc' Ls (v :: st))) P) : Goes p e below (T.setTop (mkF m pc Ls st)) P := by
  subst hpc
  obtain ⟨T', X', e', st'⟩ := getS (host := "") X hx hZ hown w Via.refl eT F (g := mkF m pc Ls st) rfl hd
  exact go st' (K T' X' e')
theorem g_new (X : Stand p l e R s m args below meth c T locs cells slots) (hx : p.tables.exec = Jvm.exec) (hZ : Z.Warmed39 s.vm) (pc' : Nat) (hpc : pc + 3 = pc') {own C : String} {index n : Nat} (hown : s.vm.findClass own = some m.cls) (w : (Jvm.Cond.classLink own index C).before a0 Z = true) (wi : (Jvm.Cond.instantiable C n).before a0 Z = true) (wz : (Jvm.Cond.initialized C).before a0 Z = true) (eT : T.heap = h) (hd : decode c.code pc = .ok (.new index, 3)) (hc : cells + 1 ≤ R.cells) (hl : slots + n ≤ R.slots) (K : ∀ T' h' a, a = h.size → Stand p l e R s m args below meth c T' locs (cells + 1) (slots + n) → T'.heap = h' → Ext h h' → Exa Z h' a C → (∀ {O nm d : String} {ty : FieldType}, Laid Z a0 C O nm d → parseFieldDescriptor d = some ty → Fld Z h' a O nm d (defaultValue ty)) → Goes p e below (T'.setTop (mkF m pc' Ls (.ref a :: st))) P) : Goes p e below (T.setTop (mkF m pc Ls st)) P := by
  subst hpc
  obtain ⟨T', h', X', e', E', A', D', -, st'⟩ := newO X hx hZ hown w wi wz eT (g := mkF m pc Ls st) rfl hd hc hl
  exact go st' (K T' h' _ rfl X' e' E' A' D')
theorem g_initO (X : Stand p l e R s m args below meth c T locs cells slots) (hx : p.tables.exec = Jvm.exec) (hZ : Z.Warmed39 s.vm) (pc' : Nat) (hpc : pc + 3 = pc') {own : String} {idx : Nat} (hown : s.vm.findClass own = some m.cls) (w1 : (Jvm.Cond.methodLink own idx Lib.objectInit).before a0 Z = true) (w2 : (Jvm.Cond.instanceMethod Lib.objectInit).before a0 Z = true) (w3 : (Jvm.Cond.code Lib.objectInit ⟨#[0xb1]⟩ 1 none).before a0 Z = true) (eT : T.heap = h) (hsize : Ls.size = c.maxLocals) {a : Addr} (hd : decode c.code pc = .ok (.invokespecial idx, 3)) (hf : 1 ≤ R.frames) (W : Nat) (hW : 2 * 0 + (st.map fun v => v.category).sum ≤ W) (hl : W + 12 ≤ R.locals) (K : ∀ T', Stand p l e R s m args below meth c T' locs cells slots → T'.heap = h → Goes p e below (T'.setTop (mkF m pc' Ls st)) P) : Goes p e below (T.setTop (mkF m pc Ls (.ref a :: st))) P := by
  subst hpc
  obtain ⟨T', X', e', st'⟩ := initO X hx hZ hown w1 w2 w3 eT (g := mkF m pc Ls (.ref a :: st)) rfl hsize rfl hd hf hW hl
  exact go st' (K T' X' e')
theorem g_callS (X : Stand p l e R s m args below meth c T locs cells slots) (hx : p.tables.exec = Jvm.exec) (hZ : Z.Warmed39 s.vm) (pc' : Nat) (hpc : pc + 3 = pc') {own : String} {index : Nat} {y : MethodName} {bytes : ByteArray} {maxL : Nat} {ret : Option FieldType} {rm : Room} {Q : Option Value → Heap → List Loc → Prop} (hown : s.vm.findClass own = some m.cls) (w1 : (Jvm.Cond.methodLink own index y).before a0 Z = true) (w2 : (Jvm.Cond.static y).before a0 Z = true) (w3 : (Jvm.Cond.initialized y.cls).before a0 Z = true) (w4 : (Jvm.Cond.code y bytes maxL ret).before a0 Z = true) (hy : y.cls ≠ "java/lang/invoke/MethodHandle" ∧ y.cls ≠ "java/lang/invoke/VarHandle") (argsL rest : List Value) (hM : OwnMet l Z y bytes maxL ret [] rm argsL.toArray h Q) (eT : T.heap = h) (hlen : ∀ sig, parseMethodDescriptor y.desc = some sig → argsL.length = sig.parameters.length) (hst : st = argsL.reverse ++ rest) (hsize : Ls.size = c.maxLocals) (hd : decode c.code pc = .ok (.invokestatic index, 3)) (hf : rm.frames + 1 ≤ R.frames) (W : Nat) (hW : 2 * 0 + (rest.map fun v => v.category).sum ≤ W) (hl : W + (maxL + 11) + rm.locals ≤ R.locals) (hc : cells + rm.cells ≤ R.cells) (hs : slots + rm.slots ≤ R.slots) (K : ∀ v T' L', Stand p l e R s m args below meth c T' (locs ++ L') (cells + rm.cells) (slots + rm.slots) → Q v T'.heap L' → Goes p e below (T'.setTop (mkF m pc' Ls (v.toList ++ rest))) P) : Goes p e below (T.setTop (mkF m pc Ls st)) P := by
  subst hpc; subst hst
  obtain ⟨v, _, ⟨T', L', k', n'⟩, -, X', ⟨Lc, hQ, e1, e2, e3⟩, st'⟩ := Jvm.LawKit.callS X hx (y := y) hown (mvT hZ w1) (mvT hZ w2) (mvT hZ w3) (mvT hZ w4) hy (backOf (W := W) hM hZ w4 w3 hf hl) (g := mkF m pc Ls (argsL.reverse ++ rest)) rfl hsize (argsL := argsL) (rest := rest) hlen rfl hW hd (fun _ _ => ⟨rfl, eT, hc, hs⟩)
  dsimp only [Pt.U, Pt.locs, Pt.cells, Pt.slots] at X' e1 e2 e3 st' hQ
  subst e1 e2 e3
  exact go st' (K v T' Lc X' hQ)
theorem g_callI (X : Stand p l e R s m args below meth c T locs cells slots) (hx : p.tables.exec = Jvm.exec) (hZ : Z.Warmed39 s.vm) (pc' : Nat) (hpc : pc + 3 = pc') {own : String} {index : Nat} {y : MethodName} {bytes : ByteArray} {maxL : Nat} {rm : Room} {Q : Option Value → Heap → List Loc → Prop} (hy1 : y.name = "<init>") (hown : s.vm.findClass own = some m.cls) (w1 : (Jvm.Cond.methodLink own index y).before a0 Z = true) (w2 : (Jvm.Cond.instanceMethod y).before a0 Z = true) (w3 : (Jvm.Cond.initialized y.cls).before a0 Z = true) (w4 : (Jvm.Cond.code y bytes maxL none).before a0 Z = true) (hy : y.cls ≠ "java/lang/invoke/MethodHandle" ∧ y.cls ≠ "java/lang/invoke/VarHandle") (a : Addr) (argsL rest : List Value) (hM : OwnMet l Z y bytes maxL none [] rm (.ref a :: argsL).toArray h Q) (eT : T.heap = h) (hlen : ∀ sig, parseMethodDescriptor y.desc = some sig → argsL.length = sig.parameters.length) (hst : st = argsL.reverse ++ .ref a :: rest) (hsize : Ls.size = c.maxLocals) (hd : decode c.code pc = .ok (.invokespecial index, 3)) (hf : rm.frames + 1 ≤ R.frames) (W : Nat) (hW : 2 * 0 + (rest.map fun v => v.category).sum ≤ W) (hl : W + (maxL + 11) + rm.locals ≤ R.locals) (hc : cells + rm.cells ≤ R.cells) (hs : slots + rm.slots ≤ R.slots) (K : ∀ v T' L', Stand p l e R s m args below meth c T' (locs ++ L') (cells + rm.cells) (slots + rm.slots) → Q v T'.heap L' → Goes p e below (T'.setTop (mkF m pc' Ls (v.toList ++ rest))) P) : Goes p e below (T.setTop (mkF m pc Ls st)) P := by
  subst hpc; subst hst
  obtain ⟨v, _, ⟨T', L', k', n'⟩, -, X', ⟨Lc, hQ, e1, e2, e3⟩, st'⟩ := X.specialBack hx (y := y) hy1 hown (mvT hZ w1) (mvT hZ w2) (mvT hZ w4) hy (backOf (W := W) hM hZ w4 w3 hf hl) (g := mkF m pc Ls (argsL.reverse ++ .ref a :: rest)) rfl hsize (Steps.refl _) (a := a) (argsL := argsL) (rest := rest) hlen rfl hW hd (fun _ _ => ⟨rfl, eT, hc, hs⟩)
  dsimp only [Pt.U, Pt.locs, Pt.cells, Pt.slots] at X' e1 e2 e3 st' hQ
  subst e1 e2 e3
  exact goT st' (K v T' Lc X' hQ)
theorem g_callV (X : Stand p l e R s m args below meth c T locs cells slots) (hx : p.tables.exec = Jvm.exec) (hZ : Z.Warmed39 s.vm) (pc' : Nat) (hpc : pc + 3 = pc') {own C : String} {index : Nat} {y : MethodName} {bytes : ByteArray} {maxL : Nat} {ret : Option FieldType} {rm : Room} {Q : Option Value → Heap → List Loc → Prop} (hown : s.vm.findClass own = some m.cls) (w1 : (Jvm.Cond.methodLink own index y).before a0 Z = true) (w2 : (Jvm.Cond.declares y).before a0 Z = true) (w5 : (Jvm.Cond.selects C y y).before a0 Z = true) (w6 : (Jvm.Cond.instanceMethod y).before a0 Z = true) (w3 : (Jvm.Cond.initialized y.cls).before a0 Z = true) (w4 : (Jvm.Cond.code y bytes maxL ret).before a0 Z = true) (hy : y.cls ≠ "java/lang/invoke/MethodHandle" ∧ y.cls ≠ "java/lang/invoke/VarHandle") (a : Addr) (argsL rest : List Value) (hM : OwnMet l Z y bytes maxL ret [] rm (.ref a :: argsL).toArray h Q) (eT : T.heap = h) (Ex : Exa Z h a C) (hlen : ∀ sig, parseMethodDescriptor y.desc = some sig → argsL.length = sig.parameters.length) (hst : st = argsL.reverse ++ .ref a :: rest) (hsize : Ls.size = c.maxLocals) (hd : decode c.code pc = .ok (.invokevirtual index, 3)) (hf : rm.frames + 1 ≤ R.frames) (W : Nat) (hW : 2 * 0 + (rest.map fun v => v.category).sum ≤ W) (hl : W + (maxL + 11) + rm.locals ≤ R.locals) (hc : cells + rm.cells ≤ R.cells) (hs : slots + rm.slots ≤ R.slots) (K : ∀ v T' L', Stand p l e R s m args below meth c T' (locs ++ L') (cells + rm.cells) (slots + rm.slots) → Q v T'.heap L' → Goes p e below (T'.setTop (mkF m pc' Ls (v.toList ++ rest))) P) : Goes p e below (T.setTop (mkF m pc Ls st)) P := by
  subst hpc; subst hst
  obtain ⟨cq, kq, qa, qb, qc⟩ := isOf hZ eT Ex
  obtain ⟨v, _, ⟨T', L', k', n'⟩, -, X', ⟨Lc, hQ, e1, e2, e3⟩, st'⟩ := X.virtualBack hx (y := y) (z := y) hown (mvT hZ w1) (mvT hZ w2) (notFace_of_selects (args := #[]) (mvT hZ w5)) (mvT hZ w5) (mvT hZ w6) hy (backOf (W := W) hM hZ w4 w3 hf hl) qa qc (g := mkF m pc Ls (argsL.reverse ++ .ref a :: rest)) rfl hsize (Steps.refl _) (argsL := argsL) (rest := rest) hlen rfl hW hd (fun _ _ => ⟨rfl, eT, hc, hs⟩)
  dsimp only [Pt.U, Pt.locs, Pt.cells, Pt.slots] at X' e1 e2 e3 st' hQ
  subst e1 e2 e3
  exact goT st' (K v T' Lc X' hQ)
def Al (Z : State) (h : Heap) (a : Addr) (ty : FieldType) (vs : List Value) : Prop := ∃ c : Cell, Arr Z h a c ty ∧ c.slots.toList = vs ∧ vs.length < 2147483648
theorem Al.lt {a : Addr} {ty : FieldType} {vs : List Value} (F : Al Z h a ty vs) : a < h.size := by obtain ⟨c, A, -⟩ := F; exact A.lt
theorem Al.ext {h' : Heap} {a : Addr} {ty : FieldType} {vs : List Value} (F : Al Z h a ty vs) (E : Ext h h') : Al Z h' a ty vs := by obtain ⟨c, A, r⟩ := F; exact ⟨c, A.ext E, r⟩
theorem Al.other {h' : Heap} {a b : Addr} {sl : Nat} {v : Value} {ty : FieldType} {vs : List Value} (F : Al Z h b ty vs) (W : Wr h h' a sl v) (q : b ≠ a) : Al Z h' b ty vs := by obtain ⟨c, A, r⟩ := F; exact ⟨c, A.other W q, r⟩
theorem Al.keep {h' : Heap} {a : Addr} {ws : List Addr} {ty : FieldType} {vs : List Value} (F : Al Z h a ty vs) (K : Keep h h' ws) (q : a ∉ ws) : Al Z h' a ty vs := by obtain ⟨c, A, r⟩ := F; exact ⟨c, ⟨K.2.1 a c A.1 q, A.2⟩, r⟩
theorem Al.same {h' : Heap} {a : Addr} {i : Nat} {v : Value} {ty : FieldType} {vs : List Value} (F : Al Z h a ty vs) (W : Wr h h' a i v) : Al Z h' a ty (vs.set i v) := by
  obtain ⟨c, A, r1, r2⟩ := F
  exact ⟨_, A.same W, by rw [← r1]; simp [Cell.setSlot], by rw [List.length_set]; exact r2⟩
theorem own_ix {j : Int32} {i : Nat} (hj : j.toInt = (i : Int)) : j.toNatClampNeg = i ∧ ¬ j < 0 := by
  refine ⟨by simp only [Int32.toNatClampNeg]; omega, fun q => ?_⟩
  rw [Int32.lt_iff_toInt_lt] at q; simp only [Int32.reduceToInt] at q; omega
theorem Al.cell {a : Addr} {ty : FieldType} {vs : List Value} (F : Al Z h a ty vs) {j : Int32} {i : Nat} (hj : j.toInt = (i : Int)) (hi : i < vs.length) : ∃ c : Cell, Arr Z h a c ty ∧ c.slots.toList = vs ∧ ¬ (j < 0 ∨ c.slots.size ≤ j.toNatClampNeg) ∧ c.slots[j.toNatClampNeg]? = vs[i]? := by
  obtain ⟨c, A, r1, r2⟩ := F
  obtain ⟨q1, q2⟩ := own_ix hj
  have hs : c.slots.size = vs.length := by rw [← r1]; simp
  exact ⟨c, A, r1, fun q => q.elim q2 (by rw [q1, hs]; omega), by rw [q1, ← r1, Array.getElem?_toList]⟩
theorem g_alen (X : Stand p l e R s m args below meth c T locs cells slots) (hx : p.tables.exec = Jvm.exec) (hZ : Z.Warmed39 s.vm) (pc' : Nat) (hpc : pc + 1 = pc') (hd : decode c.code pc = .ok (.arraylength, 1)) (eT : T.heap = h) {a : Addr} {ty : FieldType} {vs : List Value} (A : Al Z h a ty vs) (n : Int32) (hn : Int32.ofNat vs.length = n) (K : Goes p e below (T.setTop (mkF m pc' Ls (.int n :: st))) P) : Goes p e below (T.setTop (mkF m pc Ls (.ref a :: st))) P := by
  subst hpc
  obtain ⟨c, A, r1, r2⟩ := A
  have hs : c.slots.size.toInt32 = n := by rw [← hn, ← r1]; simp
  exact go (fun _ q => X.arraylength hx (by rw [eT]; exact A.1) (State.isArrayOf_alike hZ.alike A.2.1) (g := mkF m pc Ls (.ref a :: st)) rfl rfl hd _ (by rw [hs]; exact q)) K
theorem g_iaload (X : Stand p l e R s m args below meth c T locs cells slots) (hx : p.tables.exec = Jvm.exec) (hZ : Z.Warmed39 s.vm) (pc' : Nat) (hpc : pc + 1 = pc') (hd : decode c.code pc = .ok (.iaload, 1)) (eT : T.heap = h) {a : Addr} {vs : List Value} (A : Al Z h a .int vs) {j : Int32} (i : Nat) (hj : j.toInt = (i : Int)) (v : Value) (hv : vs[i]? = some v) (K : Goes p e below (T.setTop (mkF m pc' Ls (v :: st))) P) : Goes p e below (T.setTop (mkF m pc Ls (.int j :: .ref a :: st))) P := by
  subst hpc
  obtain ⟨c, A, r1, r2, r3⟩ := A.cell hj (List.getElem?_eq_some_iff.mp hv).1
  exact go (fun _ q => X.iaload hx (by rw [eT]; exact A.1) (State.isArrayOf_alike hZ.alike A.2.1) A.2.2 r2 (r3.trans hv) (g := mkF m pc Ls (.int j :: .ref a :: st)) rfl rfl hd _ q) K
theorem g_laload (X : Stand p l e R s m args below meth c T locs cells slots) (hx : p.tables.exec = Jvm.exec) (hZ : Z.Warmed39 s.vm) (pc' : Nat) (hpc : pc + 1 = pc') (hd : decode c.code pc = .ok (.laload, 1)) (eT : T.heap = h) {a : Addr} {vs : List Value} (A : Al Z h a .long vs) {j : Int32} (i : Nat) (hj : j.toInt = (i : Int)) (v : Value) (hv : vs[i]? = some v) (K : Goes p e below (T.setTop (mkF m pc' Ls (v :: st))) P) : Goes p e below (T.setTop (mkF m pc Ls (.int j :: .ref a :: st))) P := by
  subst hpc
  obtain ⟨c, A, r1, r2, r3⟩ := A.cell hj (List.getElem?_eq_some_iff.mp hv).1
  exact go (fun _ q => X.laload hx (by rw [eT]; exact A.1) (State.isArrayOf_alike hZ.alike A.2.1) A.2.2 r2 (r3.trans hv) (g := mkF m pc Ls (.int j :: .ref a :: st)) rfl rfl hd _ q) K
theorem g_baload (X : Stand p l e R s m args below meth c T locs cells slots) (hx : p.tables.exec = Jvm.exec) (hZ : Z.Warmed39 s.vm) (pc' : Nat) (hpc : pc + 1 = pc') (hd : decode c.code pc = .ok (.baload, 1)) (eT : T.heap = h) {a : Addr} {vs : List Value} (A : Al Z h a .byte vs) {j : Int32} (i : Nat) (hj : j.toInt = (i : Int)) (v : Value) (hv : vs[i]? = some v) (K : Goes p e below (T.setTop (mkF m pc' Ls (v :: st))) P) : Goes p e below (T.setTop (mkF m pc Ls (.int j :: .ref a :: st))) P := by
  subst hpc
  obtain ⟨c, A, r1, r2, r3⟩ := A.cell hj (List.getElem?_eq_some_iff.mp hv).1
  exact go (fun _ q => X.baloadBytes hx (by rw [eT]; exact A.1) (State.isArrayOf_alike hZ.alike A.2.1) A.2.2 r2 (r3.trans hv) (g := mkF m pc Ls (.int j :: .ref a :: st)) rfl rfl hd _ q) K
theorem g_caload (X : Stand p l e R s m args below meth c T locs cells slots) (hx : p.tables.exec = Jvm.exec) (hZ : Z.Warmed39 s.vm) (pc' : Nat) (hpc : pc + 1 = pc') (hd : decode c.code pc = .ok (.caload, 1)) (eT : T.heap = h) {a : Addr} {vs : List Value} (A : Al Z h a .char vs) {j : Int32} (i : Nat) (hj : j.toInt = (i : Int)) (v : Value) (hv : vs[i]? = some v) (K : Goes p e below (T.setTop (mkF m pc' Ls (v :: st))) P) : Goes p e below (T.setTop (mkF m pc Ls (.int j :: .ref a :: st))) P := by
  subst hpc
  obtain ⟨c, A, r1, r2, r3⟩ := A.cell hj (List.getElem?_eq_some_iff.mp hv).1
  exact go (fun _ q => X.caload hx (by rw [eT]; exact A.1) (State.isArrayOf_alike hZ.alike A.2.1) A.2.2 r2 (r3.trans hv) (g := mkF m pc Ls (.int j :: .ref a :: st)) rfl rfl hd _ q) K
theorem g_iastore (X : Stand p l e R s m args below meth c T locs cells slots) (hx : p.tables.exec = Jvm.exec) (hZ : Z.Warmed39 s.vm) (pc' : Nat) (hpc : pc + 1 = pc') (hd : decode c.code pc = .ok (.iastore, 1)) (eT : T.heap = h) {a : Addr} {vs : List Value} (A : Al Z h a .int vs) {j : Int32} {x : Int32} (i : Nat) (hj : j.toInt = (i : Int)) (hi : i < vs.length) (K : ∀ T' h', Stand p l e R s m args below meth c T' (locs ++ [⟨a, i⟩]) cells slots → T'.heap = h' → Wr h h' a i (.int x) → Al Z h' a .int (vs.set i (.int x)) → Goes p e below (T'.setTop (mkF m pc' Ls st)) P) : Goes p e below (T.setTop (mkF m pc Ls (.int x :: .int j :: .ref a :: st))) P := by
  subst hpc
  obtain ⟨c, Ar, r1, r2, r3⟩ := A.cell hj hi
  obtain ⟨T', h', X', e', W', st'⟩ := stI X hx hZ eT Ar r2 (g := mkF m pc Ls (.int x :: .int j :: .ref a :: st)) rfl rfl hd
  rw [(own_ix hj).1] at X' W'
  exact go st' (K T' h' X' e' W' (A.same W'))
theorem g_lastore (X : Stand p l e R s m args below meth c T locs cells slots) (hx : p.tables.exec = Jvm.exec) (hZ : Z.Warmed39 s.vm) (pc' : Nat) (hpc : pc + 1 = pc') (hd : decode c.code pc = .ok (.lastore, 1)) (eT : T.heap = h) {a : Addr} {vs : List Value} (A : Al Z h a .long vs) {j : Int32} {x : Int64} (i : Nat) (hj : j.toInt = (i : Int)) (hi : i < vs.length) (K : ∀ T' h', Stand p l e R s m args below meth c T' (locs ++ [⟨a, i⟩]) cells slots → T'.heap = h' → Wr h h' a i (.long x) → Al Z h' a .long (vs.set i (.long x)) → Goes p e below (T'.setTop (mkF m pc' Ls st)) P) : Goes p e below (T.setTop (mkF m pc Ls (.long x :: .int j :: .ref a :: st))) P := by
  subst hpc
  obtain ⟨c, Ar, r1, r2, r3⟩ := A.cell hj hi
  obtain ⟨T', h', X', e', W', st'⟩ := stJ X hx hZ eT Ar r2 (g := mkF m pc Ls (.long x :: .int j :: .ref a :: st)) rfl rfl hd
  rw [(own_ix hj).1] at X' W'
  exact go st' (K T' h' X' e' W' (A.same W'))
theorem g_bastore (X : Stand p l e R s m args below meth c T locs cells slots) (hx : p.tables.exec = Jvm.exec) (hZ : Z.Warmed39 s.vm) (pc' : Nat) (hpc : pc + 1 = pc') (hd : decode c.code pc = .ok (.bastore, 1)) (eT : T.heap = h) {a : Addr} {vs : List Value} (A : Al Z h a .byte vs) {j : Int32} {x : Int32} (i : Nat) (hj : j.toInt = (i : Int)) (hi : i < vs.length) (K : ∀ T' h', Stand p l e R s m args below meth c T' (locs ++ [⟨a, i⟩]) cells slots → T'.heap = h' → Wr h h' a i (.int (nar .byte x)) → Al Z h' a .byte (vs.set i (.int (nar .byte x))) → Goes p e below (T'.setTop (mkF m pc' Ls st)) P) : Goes p e below (T.setTop (mkF m pc Ls (.int x :: .int j :: .ref a :: st))) P := by
  subst hpc
  obtain ⟨c, Ar, r1, r2, r3⟩ := A.cell hj hi
  obtain ⟨T', h', X', e', W', st'⟩ := stB X hx hZ eT Ar r2 (g := mkF m pc Ls (.int x :: .int j :: .ref a :: st)) rfl rfl hd
  rw [(own_ix hj).1] at X' W'
  exact go st' (K T' h' X' e' W' (A.same W'))
theorem g_castore (X : Stand p l e R s m args below meth c T locs cells slots) (hx : p.tables.exec = Jvm.exec) (hZ : Z.Warmed39 s.vm) (pc' : Nat) (hpc : pc + 1 = pc') (hd : decode c.code pc = .ok (.castore, 1)) (eT : T.heap = h) {a : Addr} {vs : List Value} (A : Al Z h a .char vs) {j : Int32} {x : Int32} (i : Nat) (hj : j.toInt = (i : Int)) (hi : i < vs.length) (K : ∀ T' h', Stand p l e R s m args below meth c T' (locs ++ [⟨a, i⟩]) cells slots → T'.heap = h' → Wr h h' a i (.int (nar .char x)) → Al Z h' a .char (vs.set i (.int (nar .char x))) → Goes p e below (T'.setTop (mkF m pc' Ls st)) P) : Goes p e below (T.setTop (mkF m pc Ls (.int x :: .int j :: .ref a :: st))) P := by
  subst hpc
  obtain ⟨c, Ar, r1, r2, r3⟩ := A.cell hj hi
  obtain ⟨T', h', X', e', W', st'⟩ := stC X hx hZ eT Ar r2 (g := mkF m pc Ls (.int x :: .int j :: .ref a :: st)) rfl rfl hd
  rw [(own_ix hj).1] at X' W'
  exact go st' (K T' h' X' e' W' (A.same W'))
theorem g_newarr (X : Stand p l e R s m args below meth c T locs cells slots) (hx : p.tables.exec = Jvm.exec) (hZ : Z.Warmed39 s.vm) (pc' : Nat) (hpc : pc + 2 = pc') {aty : ArrayType} (w : (Jvm.Cond.arrayClass (newarray.typeOf aty)).before a0 Z = true) (eT : T.heap = h) (hd : decode c.code pc = .ok (.newarray aty, 2)) {n : Int32} (k : Nat) (hn : n.toInt = (k : Int)) (cap : Nat) (hcap : k ≤ cap) (hb : cap * 8 ≤ 536870912) (hc : cells + 1 ≤ R.cells) (hl : slots + cap ≤ R.slots) (ad : String) (had : "[" ++ (newarray.typeOf aty).toString = ad) (K : ∀ T' h' a, a = h.size → Stand p l e R s m args below meth c T' locs (cells + 1) (slots + cap) → T'.heap = h' → Ext h h' → Al Z h' a (newarray.typeOf aty) (List.replicate k (defaultValue (newarray.typeOf aty))) → Exa Z h' a ad → Goes p e below (T'.setTop (mkF m pc' Ls (.ref a :: st))) P) : Goes p e below (T.setTop (mkF m pc Ls (.int n :: st))) P := by
  subst hpc
  obtain ⟨q1, q2⟩ := own_ix hn
  obtain ⟨T', h', cA, X', e', E', A', Ex', st'⟩ := newPE X hx hZ w eT (g := mkF m pc Ls (.int n :: st)) rfl hd rfl q2 (cap := cap) (by rw [q1]; exact hcap) hb hc hl had
  refine go st' (K T' h' _ rfl X' e' E' ⟨_, A', by simp [newA, q1], ?_⟩ Ex')
  rw [List.length_replicate]
  have := Int32.toInt_lt n
  omega
theorem own_narb (x : Int32) : nar .byte x.toInt8.toInt32 = x.toInt8.toInt32 := by show x.toInt8.toInt32.toInt8.toInt32 = _; simp
theorem g_cast (X : Stand p l e R s m args below meth c T locs cells slots) (hx : p.tables.exec = Jvm.exec) (hZ : Z.Warmed39 s.vm) (pc' : Nat) (hpc : pc + 3 = pc') {own K : String} {index : Nat} (hown : s.vm.findClass own = some m.cls) (w : (Jvm.Cond.classLink own index K).before a0 Z = true) (eT : T.heap = h) {a : Addr} (F : Ins Z h a K true) (hd : decode c.code pc = .ok (.checkcast index, 3)) (K2 : ∀ T', Stand p l e R s m args below meth c T' locs cells slots → T'.heap = h → Goes p e below (T'.setTop (mkF m pc' Ls (.ref a :: st))) P) : Goes p e below (T.setTop (mkF m pc Ls (.ref a :: st))) P := by
  subst hpc
  obtain ⟨T', X', e', st'⟩ := castY X hx hZ hown w eT F (g := mkF m pc Ls (.ref a :: st)) rfl rfl hd
  exact go st' (K2 T' X' e')
theorem own_fitc {a : Addr} {ty : FieldType} {vs : List Value} {c : Cell} (A : Arr Z h a c ty) (r : c.slots.toList = vs) (hfit : ∀ v ∈ vs, fits ty v = true) : FitC Z c := fitC_of A fun i hi v hv => hfit v (by rw [← r]; rw [← Array.getElem?_toList] at hv; exact List.mem_of_getElem? hv)
theorem g_clone (X : Stand p l e R s m args below meth c T locs cells slots) (hx : p.tables.exec = Jvm.exec) (hZ : Z.Warmed39 s.vm) (pc' : Nat) (hpc : pc + 3 = pc') {own ad : String} {index : Nat} (hown : s.vm.findClass own = some m.cls) (w1 : (Jvm.Cond.methodLink own index ⟨ad, "clone", "()Ljava/lang/Object;"⟩).before a0 Z = true) (w2 : (Jvm.Cond.sameMethod ad "java/lang/Object" "clone" "()Ljava/lang/Object;").before a0 Z = true) (w3 : (Jvm.Cond.native ⟨"java/lang/Object", "clone", "()Ljava/lang/Object;"⟩).before a0 Z = true) (w4 : (Jvm.Cond.instanceMethod ⟨"java/lang/Object", "clone", "()Ljava/lang/Object;"⟩).before a0 Z = true) (w5 : (Jvm.Cond.selects ad ⟨ad, "clone", "()Ljava/lang/Object;"⟩ ⟨"java/lang/Object", "clone", "()Ljava/lang/Object;"⟩).before a0 Z = true) (w6 : (Jvm.Cond.castable ad "java/lang/Cloneable").before a0 Z = true) (eT : T.heap = h) {a : Addr} {ty : FieldType} {vs : List Value} (A : Al Z h a ty vs) (Ex : Exa Z h a ad) (hfit : ∀ v ∈ vs, fits ty v = true) (hd : decode c.code pc = .ok (.invokevirtual index, 3)) (hsize : Ls.size = c.maxLocals) (hf : 1 ≤ R.frames) (W : Nat) (hW : 2 * 0 + (st.map fun v => v.category).sum ≤ W) (hl : W + 14 ≤ R.locals) (cap : Nat) (hcap : vs.length ≤ cap) (hc : cells + 1 ≤ R.cells) (hs : slots + cap ≤ R.slots) (K : ∀ T' h' b, b = h.size → Stand p l e R s m args below meth c T' locs (cells + 1) (slots + cap) → T'.heap = h' → Ext h h' → Al Z h' b ty vs → Exa Z h' b ad → Goes p e below (T'.setTop (mkF m pc' Ls (.ref b :: st))) P) : Goes p e below (T.setTop (mkF m pc Ls (.ref a :: st))) P := by
  subst hpc
  obtain ⟨c, Ar, r1, r2⟩ := A
  obtain ⟨T', h', X', e', E', A', Ex', st'⟩ := cloneA X hx hZ hown w1 w2 w3 w4 w5 w6 eT Ar Ex (own_fitc Ar r1 hfit) (g := mkF m pc Ls (.ref a :: st)) rfl hsize rfl hd hf hW hl (by rw [← r1] at hcap; simpa using hcap) hc hs
  exact go st' (K T' h' _ rfl X' e' E' ⟨_, A', r1, r2⟩ Ex')
theorem own_arv {a : Addr} {ty : FieldType} {vs : List Value} (d : Value) (A : Al Z h a ty vs) (hfit : ∀ v ∈ vs, fits ty v = true) : ∃ k, Arv Z h a k ty (Int32.ofNat vs.length) vs d := by
  obtain ⟨c, Ar, r1, r2⟩ := A
  have hs : c.slots.size = vs.length := by rw [← r1]; simp
  have h1 : (Int32.ofNat vs.length).toInt = (vs.length : Int) := Int32.toInt_ofNat_of_lt r2
  obtain ⟨q1, q2⟩ := own_ix h1
  have hv : ∀ i, i < c.slots.size → c.slots[i]? = some (vs.getD i d) := fun i hi => by
    rw [← Array.getElem?_toList, r1, List.getD_eq_getElem?_getD, List.getElem?_eq_getElem (by omega)]; rfl
  refine ⟨c.cls, c, Ar, rfl, by rw [hs, q1], q2, hv, fun i hi => hfit _ ?_⟩
  have := hv i hi
  rw [← Array.getElem?_toList, r1] at this
  exact List.mem_of_getElem? this
theorem own_al {a : Addr} {k : ClassId} {ty : FieldType} {z : Int32} {vs : List Value} {d : Value} (A : Arv Z h a k ty z vs d) (hl : vs.length = z.toNatClampNeg) : Al Z h a ty vs := by
  obtain ⟨c, Ar, -, S, M, H, -⟩ := A
  refine ⟨c, Ar, ?_, ?_⟩
  · apply List.ext_getElem?
    intro i
    rw [Array.getElem?_toList]
    by_cases hi : i < c.slots.size
    · rw [H i hi, List.getD_eq_getElem?_getD, List.getElem?_eq_getElem (by omega)]; rfl
    · rw [Array.getElem?_eq_none (by omega), List.getElem?_eq_none (by omega)]
  · have := (back32 M).2; omega
theorem g_acopy (X : Stand p l e R s m args below meth c T locs cells slots) (hx : p.tables.exec = Jvm.exec) (hZ : Z.Warmed39 s.vm) (pc' : Nat) (hpc : pc + 3 = pc') {own : String} {index : Nat} (hown : s.vm.findClass own = some m.cls) (w1 : (Jvm.Cond.methodLink own index Jvm.Stand.acN).before a0 Z = true) (w2 : (Jvm.Cond.native Jvm.Stand.acN).before a0 Z = true) (w3 : (Jvm.Cond.static Jvm.Stand.acN).before a0 Z = true) (w4 : (Jvm.Cond.initialized "java/lang/System").before a0 Z = true) (eT : T.heap = h) {a b : Addr} {ty : FieldType} {vs vd : List Value} (A : Al Z h a ty vs) (B : Al Z h b ty vd) (hp : refKind ty = false) (hfit : ∀ v ∈ vs, fits ty v = true) (hfit2 : ∀ v ∈ vd, fits ty v = true) {nn : Int32} (n : Nat) (hn : nn.toInt = (n : Int)) (h1 : n ≤ vs.length) (h2 : n ≤ vd.length) {n0 : Nat} (N : Fr n0 locs) (ge : n0 ≤ b) (hd : decode c.code pc = .ok (.invokestatic index, 3)) (hsize : Ls.size = c.maxLocals) (hf : 1 ≤ R.frames) (W : Nat) (hW : 2 * 0 + (st.map fun v => v.category).sum ≤ W) (hlo : W + (nativeFrameWords "java/lang/System" "arraycopy" 5 + 11) ≤ R.locals) (K : ∀ T' h' L, Stand p l e R s m args below meth c T' L cells slots → T'.heap = h' → Fr n0 L → Keep h h' [b] → Al Z h' b ty (vs.take n ++ vd.drop n) → Goes p e below (T'.setTop (mkF m pc' Ls st)) P) : Goes p e below (T.setTop (mkF m pc Ls (.int nn :: .int 0 :: .ref b :: .int 0 :: .ref a :: st))) P := by
  subst hpc
  obtain ⟨ka, Aa⟩ := own_arv (.int 0) A hfit
  obtain ⟨kb, Ab⟩ := own_arv (.int 0) B hfit2
  obtain ⟨q1, q2⟩ := own_ix hn
  have l1 : (Int32.ofNat vs.length).toNatClampNeg = vs.length := (own_ix (Int32.toInt_ofNat_of_lt A.choose_spec.2.2)).1
  have l2 : (Int32.ofNat vd.length).toNatClampNeg = vd.length := (own_ix (Int32.toInt_ofNat_of_lt B.choose_spec.2.2)).1
  have z0 : (0 : Int32).toNatClampNeg = 0 := rfl
  obtain ⟨T', h', L, X', e', N', K', A', st'⟩ := cpA X hx hZ hown w1 w2 w3 w4 eT Aa Ab (us := (List.range nn.toNatClampNeg).map fun i => vs.getD ((0 : Int32).toNatClampNeg + i) (.int 0)) (Or.inl ⟨rfl, hp⟩) (sp := 0) (dp := 0) (nn := nn) (by decide) (by decide) q2 (by rw [q1, l1, z0]; omega) (by rw [q1, l2, z0]; omega) rfl (by rw [q1, z0]; omega) N ge (g := mkF m pc Ls (.int nn :: .int 0 :: .ref b :: .int 0 :: .ref a :: st)) rfl hsize rfl hd hf hW hlo
  have hu : vd.take (0 : Int32).toNatClampNeg ++ ((List.range nn.toNatClampNeg).map fun i => vs.getD ((0 : Int32).toNatClampNeg + i) (.int 0)) ++ vd.drop ((0 : Int32).toNatClampNeg + nn.toNatClampNeg) = vs.take n ++ vd.drop n := by
    rw [z0, q1, List.take_zero, List.nil_append, Nat.zero_add]
    congr 1
    apply List.ext_getElem?
    intro i
    by_cases hi : i < n
    · rw [List.getElem?_take_of_lt hi, List.getElem?_map, List.getElem?_range hi, Option.map_some, Nat.zero_add, List.getD_eq_getElem?_getD, List.getElem?_eq_getElem (by omega)]; rfl
    · rw [List.getElem?_eq_none (by simp; omega), List.getElem?_eq_none (by simp; omega)]
  rw [hu] at A'
  exact go st' (K T' h' L X' e' N' K' (own_al A' (by rw [l2]; simp; omega)))
theorem own_eqI {args : Array Value} {first s : State} {o : Option Outcome} {idx : List Nat} {a : Term} {k : Int32} (q : (Jvm.Cond.eq a (Jvm.Term.int k)).value args first o s idx = some true) : a.eval args first o idx s = some (.int k) := by
  obtain ⟨x, y, h1, h2, h3, h4⟩ := cmp_v (Or.inl q)
  have h5 : y = .int k := (Option.some.inj ((Term.int_eval k).symm.trans h2)).symm
  subst h5
  obtain ⟨z, rfl⟩ := h4
  have h6 : z = k := gotT (Cond.eq_ints h1 h2) q
  rw [h1, h6]
theorem own_nar_ref {v : Value} {C : String} (q : v.isRef = true) : narrow (.object C) v = v := by cases v <;> simp [Value.isRef] at q <;> rfl
theorem own_fit_ref {v : Value} {C : String} (q : v.isRef = true) : fits (.object C) v = true := by cases v <;> simp [Value.isRef] at q <;> rfl
theorem own_sixteen (x : Int32) : (x.toBitVec.toNat < 2147483648 ∧ x.toInt = (x.toBitVec.toNat : Int)) ∨ (2147483648 ≤ x.toBitVec.toNat ∧ x.toInt = (x.toBitVec.toNat : Int) - 4294967296) := by
  have h1 : x.toInt = x.toBitVec.toInt := rfl
  have h2 := x.toBitVec.isLt
  rw [h1, BitVec.toInt_eq_toNat_cond]; split <;> omega
end OwnKit

theorem own_ofi (k : Nat) (hk : k < 2147483648) : (Int32.ofNat k).toInt = (k : Int) := Int32.toInt_ofNat_of_lt hk
theorem own_ofNat (x : Int32) (k : Nat) (h : x.toInt = (k : Int)) : x = Int32.ofNat k := by
  have h3 := rng32 x
  apply Int32.toInt_inj.mp
  rw [Int32.toInt_ofNat_of_lt (by omega)]; exact h
theorem own_succ (i : Nat) (h : i < 1000) : Int32.ofNat i + Int32.ofInt 1 = Int32.ofNat (i + 1) := by
  have h1 := c_iadd (Int32.ofNat i) (Int32.ofInt 1); have h2 := rng32 (Int32.ofNat i + Int32.ofInt 1); have h3 := own_ofi i (by omega); have h4 : (Int32.ofInt 1).toInt = 1 := rfl
  apply Int32.toInt_inj.mp; rw [own_ofi (i + 1) (by omega)]; omega
/-- an int[] by a function -/
def own_arr (N : Nat) (f : Nat → Int32) : List Value := (List.range N).map fun j => .int (f j)
theorem own_arr_len (N : Nat) (f : Nat → Int32) : (own_arr N f).length = N := by simp [own_arr]
theorem own_arr_get (N : Nat) (f : Nat → Int32) (i : Nat) (hi : i < N) : (own_arr N f)[i]? = some (.int (f i)) := by
  unfold own_arr; rw [List.getElem?_map, List.getElem?_range hi]; rfl
theorem own_arr_congr (N : Nat) (f g : Nat → Int32) (h : ∀ j, j < N → f j = g j) : own_arr N f = own_arr N g := by
  apply List.ext_getElem?
  intro i
  by_cases hi : i < N
  · rw [own_arr_get _ _ _ hi, own_arr_get _ _ _ hi, h i hi]
  · rw [List.getElem?_eq_none (by rw [own_arr_len]; omega), List.getElem?_eq_none (by rw [own_arr_len]; omega)]
theorem own_arr_set (N : Nat) (f : Nat → Int32) (d : Nat) (x : Int32) : (own_arr N f).set d (.int x) = own_arr N (fun j => if j = d then x else f j) := by
  apply List.ext_getElem?
  intro i
  by_cases hi : i < N
  · rw [own_arr_get _ _ _ hi]
    by_cases q : d = i
    · subst q; rw [List.getElem?_set_self (by rw [own_arr_len]; exact hi), if_pos rfl]
    · rw [List.getElem?_set_ne q, own_arr_get _ _ _ hi, if_neg (fun z => q z.symm)]
  · rw [List.getElem?_eq_none (by rw [List.length_set, own_arr_len]; omega), List.getElem?_eq_none (by rw [own_arr_len]; omega)]
theorem own_arr_rep (N : Nat) (x : Int32) : List.replicate N (Value.int x) = own_arr N (fun _ => x) := by
  apply List.ext_getElem?
  intro i
  by_cases hi : i < N
  · rw [own_arr_get _ _ _ hi, List.getElem?_replicate, if_pos hi]
  · rw [List.getElem?_eq_none (by simp; omega), List.getElem?_eq_none (by rw [own_arr_len]; omega)]
/-- the loop of documents(): m places from i on -/
def own_scan (g : Nat → Int32) : Nat → Nat → List Value → Nat → List Value × Nat
  | 0, _, acc, c => (acc, c)
  | m + 1, i, acc, c => if g i < 0 then own_scan g m (i + 1) acc c else own_scan g m (i + 1) (acc.set c (.int (Int32.ofNat i))) (c + 1)
def own_cnt (g : Nat → Int32) : Nat → Nat → Nat
  | 0, _ => 0
  | m + 1, i => if g i < 0 then own_cnt g m (i + 1) else own_cnt g m (i + 1) + 1
theorem own_scan_skip (g : Nat → Int32) : ∀ (m r i : Nat) (acc : List Value) (c : Nat), (∀ j, i ≤ j → j < i + m → g j < 0) → own_scan g (m + r) i acc c = own_scan g r (i + m) acc c ∧ own_cnt g (m + r) i = own_cnt g r (i + m) := by
  intro m
  induction m with
  | zero => intro r i acc c _; rw [Nat.zero_add]; exact ⟨rfl, rfl⟩
  | succ m ih =>
    intro r i acc c h
    rw [show m + 1 + r = (m + r) + 1 by omega]
    rw [own_scan, own_cnt]
    rw [if_pos (h i (Nat.le_refl _) (by omega)), if_pos (h i (Nat.le_refl _) (by omega))]
    have := ih r (i + 1) acc c (fun j h1 h2 => h j (by omega) (by omega))
    rw [this.1, this.2, show i + 1 + m = i + (m + 1) by omega]
    exact ⟨rfl, rfl⟩
theorem own_scan_hit (g : Nat → Int32) (r i : Nat) (acc : List Value) (c : Nat) (h : ¬ g i < 0) : own_scan g (r + 1) i acc c = own_scan g r (i + 1) (acc.set c (.int (Int32.ofNat i))) (c + 1) ∧ own_cnt g (r + 1) i = own_cnt g r (i + 1) + 1 := by
  constructor
  · rw [own_scan, if_neg h]
  · rw [own_cnt, if_neg h]
/-- the next hit is at d -/
theorem own_scan_to (g : Nat → Int32) (N i d : Nat) (acc : List Value) (c : Nat) (h1 : i ≤ d) (h2 : d < N) (hs : ∀ j, i ≤ j → j < d → g j < 0) (hd : ¬ g d < 0) : own_scan g (N - i) i acc c = own_scan g (N - (d + 1)) (d + 1) (acc.set c (.int (Int32.ofNat d))) (c + 1) ∧ own_cnt g (N - i) i = own_cnt g (N - (d + 1)) (d + 1) + 1 := by
  have a := own_scan_skip g (d - i) (N - d) i acc c (fun j q1 q2 => hs j q1 (by omega))
  rw [show d - i + (N - d) = N - i by omega, show i + (d - i) = d by omega] at a
  have b := own_scan_hit g (N - (d + 1)) d acc c hd
  rw [show N - (d + 1) + 1 = N - d by omega] at b
  rw [a.1, a.2]; exact b
theorem own_scan_end (g : Nat → Int32) (N i : Nat) (acc : List Value) (c : Nat) (h1 : i ≤ N) (hs : ∀ j, i ≤ j → j < N → g j < 0) : own_scan g (N - i) i acc c = (acc, c) ∧ own_cnt g (N - i) i = 0 := by
  have a := own_scan_skip g (N - i) 0 i acc c (fun j q1 q2 => hs j q1 (by omega))
  rw [Nat.add_zero] at a
  rw [a.1, a.2]; exact ⟨rfl, rfl⟩
theorem own_neg1 : (-1 : Int32) < 0 := by decide
theorem own_ge0 (x : Int32) : ¬ (x &&& (2147483647 : Int32)) < 0 := by
  have h := c_mask x 2147483647 31 (by decide) (by decide)
  rw [Int32.lt_iff_toInt_lt, h]
  have e0 : (0 : Int32).toInt = 0 := rfl
  rw [e0]; omega
theorem own_field (x : Int32) (k : Int32) (kk : Nat) (m : Int32) (b : Nat) (hk : k.toBitVec.toNat % 32 = kk) (h0 : 0 < kk) (hb : b ≤ 31) (hm : m.toBitVec.toNat = 2 ^ b - 1) : ∃ n : Nat, XT.ushr x k &&& m = Int32.ofNat n ∧ n < 2 ^ b := by
  have h2 := c_mask (XT.ushr x k) m b hb hm
  have h3 : ((2 ^ b : Nat) : Int) > 0 := by have := Nat.two_pow_pos b; omega
  have h4 := Int.emod_nonneg (XT.ushr x k).toInt (b := ((2 ^ b : Nat) : Int)) (by omega)
  have h5 := Int.emod_lt_of_pos (XT.ushr x k).toInt h3
  exact ⟨(XT.ushr x k &&& m).toInt.toNat, own_ofNat _ _ (by omega), by omega⟩
def own_g0   : Nat → Int32 := fun _ => (-1 : Int32)
theorem own_res0 (N : Nat)   : (own_scan own_g0 (N - 0) 0 (List.replicate 0 (.int 0)) 0).1 = [] ∧ own_cnt own_g0 (N - 0) 0 = 0 := by
  have se := own_scan_end own_g0 N 0 [] 0 (by omega) (fun j q1 q2 => by show own_g0   j < 0; unfold own_g0; exact own_neg1)
  constructor
  · show (own_scan own_g0 (N - 0) 0 [] 0).1 = _
    rw [se.1]
  · exact se.2
def own_g1 (d0 : Nat) (l0 : Int32) : Nat → Int32 := fun j => (if j = d0 then l0 else (-1 : Int32))
theorem own_res1 (d0 N : Nat) (l0 : Int32)  (hN : d0 < N) (p0 : ¬ l0 < 0) : (own_scan (own_g1 d0 l0) (N - 0) 0 (List.replicate 1 (.int 0)) 0).1 = [.int (Int32.ofNat d0)] ∧ own_cnt (own_g1 d0 l0) (N - 0) 0 = 1 := by
  have s0 := own_scan_to (own_g1 d0 l0) N 0 d0 [.int 0] 0 (by omega) (by omega) (fun j q1 q2 => by show own_g1 d0 l0 j < 0; unfold own_g1; rw [if_neg (show ¬ j = d0 by omega)]; exact own_neg1) (by show ¬ own_g1 d0 l0 d0 < 0; unfold own_g1; rw [if_pos (rfl : d0 = d0)]; exact p0)
  have se := own_scan_end (own_g1 d0 l0) N (d0 + 1) [.int (Int32.ofNat d0)] 1 (by omega) (fun j q1 q2 => by show own_g1 d0 l0 j < 0; unfold own_g1; rw [if_neg (show ¬ j = d0 by omega)]; exact own_neg1)
  constructor
  · show (own_scan (own_g1 d0 l0) (N - 0) 0 [.int 0] 0).1 = _
    rw [s0.1]
    show (own_scan (own_g1 d0 l0) (N - (d0 + 1)) (d0 + 1) [.int (Int32.ofNat d0)] 1).1 = _
    rw [se.1]
  · rw [s0.2, se.2]
def own_g2 (d0 : Nat) (d1 : Nat) (l0 : Int32) (l1 : Int32) : Nat → Int32 := fun j => (if j = d1 then l1 else (if j = d0 then l0 else (-1 : Int32)))
theorem own_res2 (d0 d1 N : Nat) (l0 l1 : Int32) (h0 : d0 < d1) (hN : d1 < N) (p0 : ¬ l0 < 0) (p1 : ¬ l1 < 0) : (own_scan (own_g2 d0 d1 l0 l1) (N - 0) 0 (List.replicate 2 (.int 0)) 0).1 = [.int (Int32.ofNat d0), .int (Int32.ofNat d1)] ∧ own_cnt (own_g2 d0 d1 l0 l1) (N - 0) 0 = 2 := by
  have s0 := own_scan_to (own_g2 d0 d1 l0 l1) N 0 d0 [.int 0, .int 0] 0 (by omega) (by omega) (fun j q1 q2 => by show own_g2 d0 d1 l0 l1 j < 0; unfold own_g2; rw [if_neg (show ¬ j = d1 by omega), if_neg (show ¬ j = d0 by omega)]; exact own_neg1) (by show ¬ own_g2 d0 d1 l0 l1 d0 < 0; unfold own_g2; rw [if_neg (show ¬ d0 = d1 by omega), if_pos (rfl : d0 = d0)]; exact p0)
  have s1 := own_scan_to (own_g2 d0 d1 l0 l1) N (d0 + 1) d1 [.int (Int32.ofNat d0), .int 0] 1 (by omega) (by omega) (fun j q1 q2 => by show own_g2 d0 d1 l0 l1 j < 0; unfold own_g2; rw [if_neg (show ¬ j = d1 by omega), if_neg (show ¬ j = d0 by omega)]; exact own_neg1) (by show ¬ own_g2 d0 d1 l0 l1 d1 < 0; unfold own_g2; rw [if_pos (rfl : d1 = d1)]; exact p1)
  have se := own_scan_end (own_g2 d0 d1 l0 l1) N (d1 + 1) [.int (Int32.ofNat d0), .int (Int32.ofNat d1)] 2 (by omega) (fun j q1 q2 => by show own_g2 d0 d1 l0 l1 j < 0; unfold own_g2; rw [if_neg (show ¬ j = d1 by omega), if_neg (show ¬ j = d0 by omega)]; exact own_neg1)
  constructor
  · show (own_scan (own_g2 d0 d1 l0 l1) (N - 0) 0 [.int 0, .int 0] 0).1 = _
    rw [s0.1]
    show (own_scan (own_g2 d0 d1 l0 l1) (N - (d0 + 1)) (d0 + 1) [.int (Int32.ofNat d0), .int 0] 1).1 = _
    rw [s1.1]
    show (own_scan (own_g2 d0 d1 l0 l1) (N - (d1 + 1)) (d1 + 1) [.int (Int32.ofNat d0), .int (Int32.ofNat d1)] 2).1 = _
    rw [se.1]
  · rw [s0.2, s1.2, se.2]
def own_g3 (d0 : Nat) (d1 : Nat) (d2 : Nat) (l0 : Int32) (l1 : Int32) (l2 : Int32) : Nat → Int32 := fun j => (if j = d2 then l2 else (if j = d1 then l1 else (if j = d0 then l0 else (-1 : Int32))))
theorem own_res3 (d0 d1 d2 N : Nat) (l0 l1 l2 : Int32) (h0 : d0 < d1) (h1 : d1 < d2) (hN : d2 < N) (p0 : ¬ l0 < 0) (p1 : ¬ l1 < 0) (p2 : ¬ l2 < 0) : (own_scan (own_g3 d0 d1 d2 l0 l1 l2) (N - 0) 0 (List.replicate 3 (.int 0)) 0).1 = [.int (Int32.ofNat d0), .int (Int32.ofNat d1), .int (Int32.ofNat d2)] ∧ own_cnt (own_g3 d0 d1 d2 l0 l1 l2) (N - 0) 0 = 3 := by
  have s0 := own_scan_to (own_g3 d0 d1 d2 l0 l1 l2) N 0 d0 [.int 0, .int 0, .int 0] 0 (by omega) (by omega) (fun j q1 q2 => by show own_g3 d0 d1 d2 l0 l1 l2 j < 0; unfold own_g3; rw [if_neg (show ¬ j = d2 by omega), if_neg (show ¬ j = d1 by omega), if_neg (show ¬ j = d0 by omega)]; exact own_neg1) (by show ¬ own_g3 d0 d1 d2 l0 l1 l2 d0 < 0; unfold own_g3; rw [if_neg (show ¬ d0 = d2 by omega), if_neg (show ¬ d0 = d1 by omega), if_pos (rfl : d0 = d0)]; exact p0)
  have s1 := own_scan_to (own_g3 d0 d1 d2 l0 l1 l2) N (d0 + 1) d1 [.int (Int32.ofNat d0), .int 0, .int 0] 1 (by omega) (by omega) (fun j q1 q2 => by show own_g3 d0 d1 d2 l0 l1 l2 j < 0; unfold own_g3; rw [if_neg (show ¬ j = d2 by omega), if_neg (show ¬ j = d1 by omega), if_neg (show ¬ j = d0 by omega)]; exact own_neg1) (by show ¬ own_g3 d0 d1 d2 l0 l1 l2 d1 < 0; unfold own_g3; rw [if_neg (show ¬ d1 = d2 by omega), if_pos (rfl : d1 = d1)]; exact p1)
  have s2 := own_scan_to (own_g3 d0 d1 d2 l0 l1 l2) N (d1 + 1) d2 [.int (Int32.ofNat d0), .int (Int32.ofNat d1), .int 0] 2 (by omega) (by omega) (fun j q1 q2 => by show own_g3 d0 d1 d2 l0 l1 l2 j < 0; unfold own_g3; rw [if_neg (show ¬ j = d2 by omega), if_neg (show ¬ j = d1 by omega), if_neg (show ¬ j = d0 by omega)]; exact own_neg1) (by show ¬ own_g3 d0 d1 d2 l0 l1 l2 d2 < 0; unfold own_g3; rw [if_pos (rfl : d2 = d2)]; exact p2)
  have se := own_scan_end (own_g3 d0 d1 d2 l0 l1 l2) N (d2 + 1) [.int (Int32.ofNat d0), .int (Int32.ofNat d1), .int (Int32.ofNat d2)] 3 (by omega) (fun j q1 q2 => by show own_g3 d0 d1 d2 l0 l1 l2 j < 0; unfold own_g3; rw [if_neg (show ¬ j = d2 by omega), if_neg (show ¬ j = d1 by omega), if_neg (show ¬ j = d0 by omega)]; exact own_neg1)
  constructor
  · show (own_scan (own_g3 d0 d1 d2 l0 l1 l2) (N - 0) 0 [.int 0, .int 0, .int 0] 0).1 = _
    rw [s0.1]
    show (own_scan (own_g3 d0 d1 d2 l0 l1 l2) (N - (d0 + 1)) (d0 + 1) [.int (Int32.ofNat d0), .int 0, .int 0] 1).1 = _
    rw [s1.1]
    show (own_scan (own_g3 d0 d1 d2 l0 l1 l2) (N - (d1 + 1)) (d1 + 1) [.int (Int32.ofNat d0), .int (Int32.ofNat d1), .int 0] 2).1 = _
    rw [s2.1]
    show (own_scan (own_g3 d0 d1 d2 l0 l1 l2) (N - (d2 + 1)) (d2 + 1) [.int (Int32.ofNat d0), .int (Int32.ofNat d1), .int (Int32.ofNat d2)] 3).1 = _
    rw [se.1]
  · rw [s0.2, s1.2, s2.2, se.2]

theorem d3_0 : decode jdk_65_method_103_code 0 = .ok (.iconst 0, 1) := by decide +kernel
theorem d3_1 : decode jdk_65_method_103_code 1 = .ok (.istore_n 2, 1) := by decide +kernel
theorem d3_2 : decode jdk_65_method_103_code 2 = .ok (.aload_n 0, 1) := by decide +kernel
theorem d3_3 : decode jdk_65_method_103_code 3 = .ok (.arraylength, 1) := by decide +kernel
theorem d3_4 : decode jdk_65_method_103_code 4 = .ok (.istore_n 3, 1) := by decide +kernel
theorem d3_5 : decode jdk_65_method_103_code 5 = .ok (.iload_n 2, 1) := by decide +kernel
theorem d3_6 : decode jdk_65_method_103_code 6 = .ok (.iload_n 3, 1) := by decide +kernel
theorem d3_7 : decode jdk_65_method_103_code 7 = .ok (.if_icmp .ge 13, 3) := by decide +kernel
theorem d3_10 : decode jdk_65_method_103_code 10 = .ok (.aload_n 0, 1) := by decide +kernel
theorem d3_11 : decode jdk_65_method_103_code 11 = .ok (.iload_n 2, 1) := by decide +kernel
theorem d3_12 : decode jdk_65_method_103_code 12 = .ok (.iload_n 1, 1) := by decide +kernel
theorem d3_13 : decode jdk_65_method_103_code 13 = .ok (.iastore, 1) := by decide +kernel
theorem d3_14 : decode jdk_65_method_103_code 14 = .ok (.iinc 2 1, 3) := by decide +kernel
theorem d3_17 : decode jdk_65_method_103_code 17 = .ok (.goto (-12), 3) := by decide +kernel
theorem d3_20 : decode jdk_65_method_103_code 20 = .ok (.return_, 1) := by decide +kernel
theorem pf_0 : plainFor (⟨"java/util/Arrays", "fill", "([II)V"⟩ : MethodName) = true := by first | exact plainFor_of_name (by first | (simp [plainName, overriddenIn]; done) | decide +kernel) | decide +kernel
theorem ef_3_rmF (m : MethodId) (a : Addr) (p2 : Int32) (N : Nat)  : entryFrame m #[(.ref a), (.int p2)] 4 = mkF m 0 #[.val (.ref a), .val (.int p2), .unset, .unset] [] := by first | (simp [entryFrame, mkF, argsToLocals, Value.category, maxLocals]; done) | rfl
def Q_rmF (Z : State) (a : Addr) (p2 : Int32) (N : Nat) (h0 : Heap) (n0 : Nat) (v : Option Value) (h : Heap) (L : List Loc) : Prop := v = none ∧ Fr n0 L ∧ Keep h0 h [a] ∧ Al Z h a .int (own_arr N (fun _ => p2))
set_option maxRecDepth 65536 in
set_option maxHeartbeats 40000000 in
theorem rmF (l : Launch) (Z : State) (a0 : Array Value) (hw : ∀ d ∈ tables_1, d.before a0 Z = true) (ws : List Jvm.Cond) (a : Addr) (p2 : Int32) (N : Nat) (h0 : Heap) (n0 : Nat) (Z0 : n0 ≤ h0.size) (Aa : Al Z h0 a .int (own_arr N (fun _ => 0))) (ga : n0 ≤ a) (hN : N < 100) :
    OwnMet l Z (⟨"java/util/Arrays", "fill", "([II)V"⟩ : MethodName) jdk_65_method_103_code 4 none ws ({ frames := 0, cells := 0, slots := 0, locals := 0 } : Room) #[(.ref a), (.int p2)] h0 (Q_rmF Z a p2 N h0 n0) := by
  refine own_body pf_0 ?_
  intro p e s m below meth c s₁ hx hby hml hown hnm hret hlk hZ X0 e0
  have N0 := Fr.nil n0
  refine own_cast (ef_3_rmF m a p2 N ) ?_
  refine g_iconst X0 hx 1 rfl (0 : Int32) rfl (hb hby d3_0) ?_
  refine g_istore_n X0 hx 2 rfl (hb hby d3_1) #[.val (.ref a), .val (.int p2), .val (.int (0 : Int32)), .unset] rfl ?_
  refine g_aload_n X0 hx 3 rfl (hb hby d3_2) rfl rfl ?_
  refine g_alen X0 hx hZ 4 rfl (hb hby d3_3) e0 Aa (Int32.ofNat N) (by rw [own_arr_len]) ?_
  refine g_istore_n X0 hx 5 rfl (hb hby d3_4) #[.val (.ref a), .val (.int p2), .val (.int (0 : Int32)), .val (.int (Int32.ofNat N))] rfl ?_
  have loop : ∀ (d i : Nat) (T : State) (h : Heap) (locs : List Loc), i + d = N → Stand p l e ({ frames := 0, cells := 0, slots := 0, locals := 0 } : Room) s m #[(.ref a), (.int p2)] below meth c T locs 0 0 → T.heap = h → Fr n0 locs → Keep h0 h [a] → Al Z h a .int (own_arr N (fun j => if j < i then p2 else 0)) → Goes p e below (T.setTop (mkF m 5 #[.val (.ref a), .val (.int p2), .val (.int (Int32.ofNat i)), .val (.int (Int32.ofNat N))] [])) (Endz s ({ frames := 0, cells := 0, slots := 0, locals := 0 } : Room).cells ({ frames := 0, cells := 0, slots := 0, locals := 0 } : Room).slots (Q_rmF Z a p2 N h0 n0)) := by
    intro d
    induction d with
    | zero =>
      intro i T h locs hi X eT N' Kp A'
      refine g_iload_n X hx 6 rfl (hb hby d3_5) rfl ?_
      refine g_iload_n X hx 7 rfl (hb hby d3_6) rfl ?_
      refine g_icmpY X hx 20 (hb hby d3_7) (XT.ii_ge_t (by rw [Int32.lt_iff_toInt_lt, own_ofi i (by omega), own_ofi N (by omega)]; omega)) (by decide) (by decide) ?_
      have Af : Al Z h a .int (own_arr N (fun _ => p2)) := own_arr_congr N (fun j => if j < i then p2 else 0) (fun _ => p2) (fun j hj => if_pos (by omega)) ▸ A'
      exact g_ret0 X hx hret hlk (hb hby d3_20) (by rw [eT]; exact ⟨rfl, N', Kp, Af⟩) (by decide) (by decide)
    | succ d ih =>
      intro i T h locs hi X eT N' Kp A'
      refine g_iload_n X hx 6 rfl (hb hby d3_5) rfl ?_
      refine g_iload_n X hx 7 rfl (hb hby d3_6) rfl ?_
      refine g_icmpN X hx 10 rfl (hb hby d3_7) (XT.ii_ge_f (by rw [Int32.lt_iff_toInt_lt, own_ofi i (by omega), own_ofi N (by omega)]; omega)) ?_
      refine g_aload_n X hx 11 rfl (hb hby d3_10) rfl rfl ?_
      refine g_iload_n X hx 12 rfl (hb hby d3_11) rfl ?_
      refine g_iload_n X hx 13 rfl (hb hby d3_12) rfl ?_
      refine g_iastore X hx hZ 14 rfl (hb hby d3_13) eT A' i (own_ofi i (by omega)) (by rw [own_arr_len]; omega) ?_
      intro T1 h1 X1 e1 W1 B1
      have N1 := Fr.snoc X1 N' ga
      refine g_iinc X1 hx 17 rfl (hb hby d3_14) (Int32.ofNat (i + 1)) (own_succ i (by omega)) rfl #[.val (.ref a), .val (.int p2), .val (.int (Int32.ofNat (i + 1))), .val (.int (Int32.ofNat N))] rfl ?_
      refine g_goto X1 hx 5 (hb hby d3_17) (by decide) (by decide) ?_
      have Af : Al Z h1 a .int (own_arr N (fun j => if j < i + 1 then p2 else 0)) := by
        rw [own_arr_set] at B1
        refine own_arr_congr N (fun j => if j = i then p2 else if j < i then p2 else 0) (fun j => if j < i + 1 then p2 else 0) (fun j hj => ?_) ▸ B1
        show (if j = i then p2 else if j < i then p2 else 0) = if j < i + 1 then p2 else 0
        by_cases q1 : j = i
        · rw [if_pos q1, if_pos (by omega)]
        · rw [if_neg q1]
          by_cases q2 : j < i
          · rw [if_pos q2, if_pos (by omega)]
          · rw [if_neg q2, if_neg (by omega)]
      exact ih (i + 1) _ _ _ (by omega) X1 e1 N1 (Kp.wr W1 (Or.inl (List.mem_of_getElem? (i := 0) rfl))) Af
  exact loop N 0 s₁ h0 _ (by omega) X0 e0 N0 (Keep.refl _ _) (own_arr_congr N (fun _ => 0) (fun j => if j < 0 then p2 else 0) (fun j hj => (if_neg (by omega)).symm) ▸ Aa)
theorem d1_0 : decode prog_39_method_1_code 0 = .ok (.aload_n 0, 1) := by decide +kernel
theorem d1_1 : decode prog_39_method_1_code 1 = .ok (.invokespecial 1, 3) := by decide +kernel
theorem d1_4 : decode prog_39_method_1_code 4 = .ok (.aload_n 0, 1) := by decide +kernel
theorem d1_5 : decode prog_39_method_1_code 5 = .ok (.aload_n 1, 1) := by decide +kernel
theorem d1_6 : decode prog_39_method_1_code 6 = .ok (.arraylength, 1) := by decide +kernel
theorem d1_7 : decode prog_39_method_1_code 7 = .ok (.putfield 7, 3) := by decide +kernel
theorem d1_10 : decode prog_39_method_1_code 10 = .ok (.iload_n 3, 1) := by decide +kernel
theorem d1_11 : decode prog_39_method_1_code 11 = .ok (.i2l, 1) := by decide +kernel
theorem d1_12 : decode prog_39_method_1_code 12 = .ok (.ldc2_w 13, 3) := by decide +kernel
theorem d1_15 : decode prog_39_method_1_code 15 = .ok (.aload_n 1, 1) := by decide +kernel
theorem d1_16 : decode prog_39_method_1_code 16 = .ok (.arraylength, 1) := by decide +kernel
theorem d1_17 : decode prog_39_method_1_code 17 = .ok (.i2l, 1) := by decide +kernel
theorem d1_18 : decode prog_39_method_1_code 18 = .ok (.lmul, 1) := by decide +kernel
theorem d1_19 : decode prog_39_method_1_code 19 = .ok (.lcmp, 1) := by decide +kernel
theorem d1_20 : decode prog_39_method_1_code 20 = .ok (.ifCond .gt 55, 3) := by decide +kernel
theorem d1_23 : decode prog_39_method_1_code 23 = .ok (.iload_n 3, 1) := by decide +kernel
theorem d1_24 : decode prog_39_method_1_code 24 = .ok (.newarray .int, 2) := by decide +kernel
theorem d1_26 : decode prog_39_method_1_code 26 = .ok (.astore 4, 2) := by decide +kernel
theorem d1_28 : decode prog_39_method_1_code 28 = .ok (.aload 4, 2) := by decide +kernel
theorem d1_30 : decode prog_39_method_1_code 30 = .ok (.iconst (-1), 1) := by decide +kernel
theorem d1_31 : decode prog_39_method_1_code 31 = .ok (.invokestatic 15, 3) := by decide +kernel
theorem d1_34 : decode prog_39_method_1_code 34 = .ok (.iconst 0, 1) := by decide +kernel
theorem d1_35 : decode prog_39_method_1_code 35 = .ok (.istore 5, 2) := by decide +kernel
theorem d1_37 : decode prog_39_method_1_code 37 = .ok (.iload 5, 2) := by decide +kernel
theorem d1_39 : decode prog_39_method_1_code 39 = .ok (.aload_n 1, 1) := by decide +kernel
theorem d1_40 : decode prog_39_method_1_code 40 = .ok (.arraylength, 1) := by decide +kernel
theorem d1_41 : decode prog_39_method_1_code 41 = .ok (.if_icmp .ge 20, 3) := by decide +kernel
theorem d1_44 : decode prog_39_method_1_code 44 = .ok (.aload 4, 2) := by decide +kernel
theorem d1_46 : decode prog_39_method_1_code 46 = .ok (.aload_n 1, 1) := by decide +kernel
theorem d1_47 : decode prog_39_method_1_code 47 = .ok (.iload 5, 2) := by decide +kernel
theorem d1_49 : decode prog_39_method_1_code 49 = .ok (.iaload, 1) := by decide +kernel
theorem d1_50 : decode prog_39_method_1_code 50 = .ok (.aload_n 2, 1) := by decide +kernel
theorem d1_51 : decode prog_39_method_1_code 51 = .ok (.iload 5, 2) := by decide +kernel
theorem d1_53 : decode prog_39_method_1_code 53 = .ok (.iaload, 1) := by decide +kernel
theorem d1_54 : decode prog_39_method_1_code 54 = .ok (.iastore, 1) := by decide +kernel
theorem d1_55 : decode prog_39_method_1_code 55 = .ok (.iinc 5 1, 3) := by decide +kernel
theorem d1_58 : decode prog_39_method_1_code 58 = .ok (.goto (-21), 3) := by decide +kernel
theorem d1_61 : decode prog_39_method_1_code 61 = .ok (.aload_n 0, 1) := by decide +kernel
theorem d1_62 : decode prog_39_method_1_code 62 = .ok (.aconst_null, 1) := by decide +kernel
theorem d1_63 : decode prog_39_method_1_code 63 = .ok (.putfield 21, 3) := by decide +kernel
theorem d1_66 : decode prog_39_method_1_code 66 = .ok (.aload_n 0, 1) := by decide +kernel
theorem d1_67 : decode prog_39_method_1_code 67 = .ok (.aload 4, 2) := by decide +kernel
theorem d1_69 : decode prog_39_method_1_code 69 = .ok (.putfield 25, 3) := by decide +kernel
theorem d1_72 : decode prog_39_method_1_code 72 = .ok (.goto 13, 3) := by decide +kernel
theorem d1_75 : decode prog_39_method_1_code 75 = .ok (.aload_n 0, 1) := by decide +kernel
theorem d1_76 : decode prog_39_method_1_code 76 = .ok (.aload_n 1, 1) := by decide +kernel
theorem d1_77 : decode prog_39_method_1_code 77 = .ok (.putfield 21, 3) := by decide +kernel
theorem d1_80 : decode prog_39_method_1_code 80 = .ok (.aload_n 0, 1) := by decide +kernel
theorem d1_81 : decode prog_39_method_1_code 81 = .ok (.aload_n 2, 1) := by decide +kernel
theorem d1_82 : decode prog_39_method_1_code 82 = .ok (.putfield 25, 3) := by decide +kernel
theorem d1_85 : decode prog_39_method_1_code 85 = .ok (.return_, 1) := by decide +kernel
theorem pf_1 : plainFor (⟨"com/example/cranfield/cranfield/index/FieldLengths", "<init>", "([I[II)V"⟩ : MethodName) = true := by first | exact plainFor_of_name (by first | (simp [plainName, overriddenIn]; done) | decide +kernel) | decide +kernel
theorem pd_0 : parseMethodDescriptor "()V" = some ⟨[], none⟩ := by decide +kernel
theorem pd_1 : parseMethodDescriptor "([II)V" = some ⟨[.array .int, .int], none⟩ := by decide +kernel
theorem ef_1_rmS0 (m : MethodId) (a1 : Addr) (d : Addr) (q : Addr) (N : Nat) (uc : Value) (ud : Value) (ul : Value)  : entryFrame m #[(.ref a1), (.ref d), (.ref q), (.int (Int32.ofNat N))] 6 = mkF m 0 #[.val (.ref a1), .val (.ref d), .val (.ref q), .val (.int (Int32.ofNat N)), .unset, .unset] [] := by first | (simp [entryFrame, mkF, argsToLocals, Value.category, maxLocals]; done) | rfl
def Q_rmS0 (Z : State) (a1 : Addr) (d : Addr) (q : Addr) (N : Nat) (uc : Value) (ud : Value) (ul : Value) (h0 : Heap) (n0 : Nat) (v : Option Value) (h : Heap) (L : List Loc) : Prop := v = none ∧ Fr n0 L ∧ Keep h0 h [a1] ∧ Exa Z h a1 "com/example/cranfield/cranfield/index/FieldLengths" ∧ Fld Z h a1 "com/example/cranfield/cranfield/index/FieldLengths" "documentCount" "I" (.int 0) ∧ Fld Z h a1 "com/example/cranfield/cranfield/index/FieldLengths" "docs" "[I" (.ref d)
set_option maxRecDepth 65536 in
set_option maxHeartbeats 40000000 in
theorem rmS0 (l : Launch) (Z : State) (a0 : Array Value) (hw : ∀ d ∈ tables_1, d.before a0 Z = true) (ws : List Jvm.Cond) (a1 : Addr) (d : Addr) (q : Addr) (N : Nat) (uc : Value) (ud : Value) (ul : Value) (h0 : Heap) (n0 : Nat) (Z0 : n0 ≤ h0.size) (E1 : Exa Z h0 a1 "com/example/cranfield/cranfield/index/FieldLengths") (g1 : n0 ≤ a1) (Fc : Fld Z h0 a1 "com/example/cranfield/cranfield/index/FieldLengths" "documentCount" "I" uc) (Fd : Fld Z h0 a1 "com/example/cranfield/cranfield/index/FieldLengths" "docs" "[I" ud) (Fl : Fld Z h0 a1 "com/example/cranfield/cranfield/index/FieldLengths" "lengths" "[I" ul) (Ad : Al Z h0 d .int []) (Aq : Al Z h0 q .int []) (nd : d ≠ a1) (nq : q ≠ a1) (hN : 0 < N) (hN2 : N < 100) :
    OwnMet l Z (⟨"com/example/cranfield/cranfield/index/FieldLengths", "<init>", "([I[II)V"⟩ : MethodName) prog_39_method_1_code 6 none ws ({ frames := 1, cells := 0, slots := 0, locals := 12 } : Room) #[(.ref a1), (.ref d), (.ref q), (.int (Int32.ofNat N))] h0 (Q_rmS0 Z a1 d q N uc ud ul h0 n0) := by
  refine own_body pf_1 ?_
  intro p e s m below meth c s₁ hx hby hml hown hnm hret hlk hZ X0 e0
  have N0 := Fr.nil n0
  refine own_cast (ef_1_rmS0 m a1 d q N uc ud ul ) ?_
  refine g_aload_n X0 hx 1 rfl (hb hby d1_0) rfl rfl ?_
  refine g_initO X0 hx hZ 4 rfl hown (hw _ (List.mem_of_getElem? (i := 7) rfl)) (hw _ (List.mem_of_getElem? (i := 8) rfl)) (hw _ (List.mem_of_getElem? (i := 9) rfl)) e0 (by rw [hml]; rfl) (hb hby d1_1) (by decide) 0 (Nat.le_of_eq rfl) (by decide) ?_
  intro T1 X1 e1
  refine g_aload_n X1 hx 5 rfl (hb hby d1_4) rfl rfl ?_
  refine g_aload_n X1 hx 6 rfl (hb hby d1_5) rfl rfl ?_
  refine g_alen X1 hx hZ 7 rfl (hb hby d1_6) e1 Ad (0 : Int32) rfl ?_
  refine g_putF X1 hx hZ 10 rfl hown (hw _ (List.mem_of_getElem? (i := 10) rfl)) e1 Fc E1 (Or.inr ⟨(hw _ (List.mem_of_getElem? (i := 11) rfl)), rfl, hnm⟩) (hw _ (List.mem_of_getElem? (i := 2) rfl)) (ty := .int) (by decide) rfl rfl (hb hby d1_7) ?_
  intro T2 h2 X2 e2 W2
  have Fw2 := Fc.same W2
  have N2 := Fr.snoc X2 N0 g1
  refine g_iload_n X2 hx 11 rfl (hb hby d1_10) rfl ?_
  refine g_i2l X2 hx 12 rfl (hb hby d1_11) ?_
  refine g_ldcJ X2 hx 15 rfl hown hZ (hw _ (List.mem_of_getElem? (i := 12) rfl)) (hb hby d1_12) ?_
  refine g_aload_n X2 hx 16 rfl (hb hby d1_15) rfl rfl ?_
  have Al3 := (Ad.other W2 nd)
  refine g_alen X2 hx hZ 17 rfl (hb hby d1_16) e2 Al3 (0 : Int32) rfl ?_
  refine g_i2l X2 hx 18 rfl (hb hby d1_17) ?_
  refine g_lmul X2 hx 19 rfl (hb hby d1_18) ?_
  refine g_lcmp X2 hx 20 rfl (hb hby d1_19) ?_
  have hcmp : ((2 : Int64) * (0 : Int32).toInt64 < (Int32.ofNat N).toInt64) ↔ 0 < N := by
    rw [Int64.lt_iff_toInt_lt, Int32.toInt_toInt64, own_ofi N (by omega), show ((2 : Int64) * (0 : Int32).toInt64).toInt = 0 from rfl]; omega
  refine g_ifY X2 hx 75 (hb hby d1_20) (XT.ll_gt_t (hcmp.mpr hN)) (by decide) (by decide) ?_
  refine g_aload_n X2 hx 76 rfl (hb hby d1_75) rfl rfl ?_
  refine g_aload_n X2 hx 77 rfl (hb hby d1_76) rfl rfl ?_
  have Fld4 := (Fd.other W2 (Or.inr (slot_ne (Or.inr (hw _ (List.mem_of_getElem? (i := 18) rfl))) (Or.inr (hw _ (List.mem_of_getElem? (i := 11) rfl))) (by decide) (t := .array .int) (t' := .int) (by decide) (by decide))))
  have Exa5 := (E1.wr W2)
  refine g_putF X2 hx hZ 80 rfl hown (hw _ (List.mem_of_getElem? (i := 17) rfl)) e2 Fld4 Exa5 (Or.inr ⟨(hw _ (List.mem_of_getElem? (i := 18) rfl)), rfl, hnm⟩) (hw _ (List.mem_of_getElem? (i := 2) rfl)) (ty := .array .int) (by decide) rfl rfl (hb hby d1_77) ?_
  intro T6 h6 X6 e6 W6
  have Fw6 := Fld4.same W6
  have N6 := Fr.snoc X6 N2 g1
  refine g_aload_n X6 hx 81 rfl (hb hby d1_80) rfl rfl ?_
  refine g_aload_n X6 hx 82 rfl (hb hby d1_81) rfl rfl ?_
  have Fld7 := ((Fl.other W2 (Or.inr (slot_ne (Or.inr (hw _ (List.mem_of_getElem? (i := 20) rfl))) (Or.inr (hw _ (List.mem_of_getElem? (i := 11) rfl))) (by decide) (t := .array .int) (t' := .int) (by decide) (by decide)))).other W6 (Or.inr (slot_ne (Or.inr (hw _ (List.mem_of_getElem? (i := 20) rfl))) (Or.inr (hw _ (List.mem_of_getElem? (i := 18) rfl))) (by decide) (t := .array .int) (t' := .array .int) (by decide) (by decide))))
  have Exa8 := (Exa5.wr W6)
  refine g_putF X6 hx hZ 85 rfl hown (hw _ (List.mem_of_getElem? (i := 19) rfl)) e6 Fld7 Exa8 (Or.inr ⟨(hw _ (List.mem_of_getElem? (i := 20) rfl)), rfl, hnm⟩) (hw _ (List.mem_of_getElem? (i := 2) rfl)) (ty := .array .int) (by decide) rfl rfl (hb hby d1_82) ?_
  intro T9 h9 X9 e9 W9
  have Fw9 := Fld7.same W9
  have N9 := Fr.snoc X9 N6 g1
  have Exa10 := (Exa8.wr W9)
  have Fld11 := ((Fw2.other W6 (Or.inr (slot_ne (Or.inr (hw _ (List.mem_of_getElem? (i := 11) rfl))) (Or.inr (hw _ (List.mem_of_getElem? (i := 18) rfl))) (by decide) (t := .int) (t' := .array .int) (by decide) (by decide)))).other W9 (Or.inr (slot_ne (Or.inr (hw _ (List.mem_of_getElem? (i := 11) rfl))) (Or.inr (hw _ (List.mem_of_getElem? (i := 20) rfl))) (by decide) (t := .int) (t' := .array .int) (by decide) (by decide))))
  have Fld12 := (Fw6.other W9 (Or.inr (slot_ne (Or.inr (hw _ (List.mem_of_getElem? (i := 18) rfl))) (Or.inr (hw _ (List.mem_of_getElem? (i := 20) rfl))) (by decide) (t := .array .int) (t' := .array .int) (by decide) (by decide))))
  exact g_ret0 X9 hx hret hlk (hb hby d1_85) (by rw [e9]; exact ⟨rfl, N9, ((((Keep.refl h0 [a1]).wr W2 (Or.inl (List.mem_of_getElem? (i := 0) rfl))).wr W6 (Or.inl (List.mem_of_getElem? (i := 0) rfl))).wr W9 (Or.inl (List.mem_of_getElem? (i := 0) rfl))), Exa10, Fld11, Fld12⟩) (by decide) (by decide)
theorem ef_1_rmD0 (m : MethodId) (a1 : Addr) (d : Addr) (q : Addr) (N : Nat) (uc : Value) (ud : Value) (ul : Value)  : entryFrame m #[(.ref a1), (.ref d), (.ref q), (.int (Int32.ofNat N))] 6 = mkF m 0 #[.val (.ref a1), .val (.ref d), .val (.ref q), .val (.int (Int32.ofNat N)), .unset, .unset] [] := by first | (simp [entryFrame, mkF, argsToLocals, Value.category, maxLocals]; done) | rfl
def Q_rmD0 (Z : State) (a1 : Addr) (d : Addr) (q : Addr) (N : Nat) (uc : Value) (ud : Value) (ul : Value) (h0 : Heap) (n0 : Nat) (v : Option Value) (h : Heap) (L : List Loc) : Prop := v = none ∧ Fr n0 L ∧ Keep h0 h [a1] ∧ Exa Z h a1 "com/example/cranfield/cranfield/index/FieldLengths" ∧ Fld Z h a1 "com/example/cranfield/cranfield/index/FieldLengths" "documentCount" "I" (.int 0) ∧ Fld Z h a1 "com/example/cranfield/cranfield/index/FieldLengths" "docs" "[I" .null ∧ ∃ t, Fld Z h a1 "com/example/cranfield/cranfield/index/FieldLengths" "lengths" "[I" (.ref t) ∧ Al Z h t .int (own_arr N own_g0)
set_option maxRecDepth 65536 in
set_option maxHeartbeats 40000000 in
theorem rmD0 (l : Launch) (Z : State) (a0 : Array Value) (hw : ∀ d ∈ tables_1, d.before a0 Z = true) (ws : List Jvm.Cond) (a1 : Addr) (d : Addr) (q : Addr) (N : Nat) (uc : Value) (ud : Value) (ul : Value) (h0 : Heap) (n0 : Nat) (Z0 : n0 ≤ h0.size) (E1 : Exa Z h0 a1 "com/example/cranfield/cranfield/index/FieldLengths") (g1 : n0 ≤ a1) (Fc : Fld Z h0 a1 "com/example/cranfield/cranfield/index/FieldLengths" "documentCount" "I" uc) (Fd : Fld Z h0 a1 "com/example/cranfield/cranfield/index/FieldLengths" "docs" "[I" ud) (Fl : Fld Z h0 a1 "com/example/cranfield/cranfield/index/FieldLengths" "lengths" "[I" ul) (Ad : Al Z h0 d .int []) (Aq : Al Z h0 q .int []) (nd : d ≠ a1) (nq : q ≠ a1) (hN : N ≤ 0) (hN2 : N < 100) :
    OwnMet l Z (⟨"com/example/cranfield/cranfield/index/FieldLengths", "<init>", "([I[II)V"⟩ : MethodName) prog_39_method_1_code 6 none ws ({ frames := 1, cells := 1, slots := 6, locals := 15 } : Room) #[(.ref a1), (.ref d), (.ref q), (.int (Int32.ofNat N))] h0 (Q_rmD0 Z a1 d q N uc ud ul h0 n0) := by
  refine own_body pf_1 ?_
  intro p e s m below meth c s₁ hx hby hml hown hnm hret hlk hZ X0 e0
  have N0 := Fr.nil n0
  refine own_cast (ef_1_rmD0 m a1 d q N uc ud ul ) ?_
  refine g_aload_n X0 hx 1 rfl (hb hby d1_0) rfl rfl ?_
  refine g_initO X0 hx hZ 4 rfl hown (hw _ (List.mem_of_getElem? (i := 7) rfl)) (hw _ (List.mem_of_getElem? (i := 8) rfl)) (hw _ (List.mem_of_getElem? (i := 9) rfl)) e0 (by rw [hml]; rfl) (hb hby d1_1) (by decide) 0 (Nat.le_of_eq rfl) (by decide) ?_
  intro T1 X1 e1
  refine g_aload_n X1 hx 5 rfl (hb hby d1_4) rfl rfl ?_
  refine g_aload_n X1 hx 6 rfl (hb hby d1_5) rfl rfl ?_
  refine g_alen X1 hx hZ 7 rfl (hb hby d1_6) e1 Ad (0 : Int32) rfl ?_
  refine g_putF X1 hx hZ 10 rfl hown (hw _ (List.mem_of_getElem? (i := 10) rfl)) e1 Fc E1 (Or.inr ⟨(hw _ (List.mem_of_getElem? (i := 11) rfl)), rfl, hnm⟩) (hw _ (List.mem_of_getElem? (i := 2) rfl)) (ty := .int) (by decide) rfl rfl (hb hby d1_7) ?_
  intro T2 h2 X2 e2 W2
  have Fw2 := Fc.same W2
  have N2 := Fr.snoc X2 N0 g1
  refine g_iload_n X2 hx 11 rfl (hb hby d1_10) rfl ?_
  refine g_i2l X2 hx 12 rfl (hb hby d1_11) ?_
  refine g_ldcJ X2 hx 15 rfl hown hZ (hw _ (List.mem_of_getElem? (i := 12) rfl)) (hb hby d1_12) ?_
  refine g_aload_n X2 hx 16 rfl (hb hby d1_15) rfl rfl ?_
  have Al3 := (Ad.other W2 nd)
  refine g_alen X2 hx hZ 17 rfl (hb hby d1_16) e2 Al3 (0 : Int32) rfl ?_
  refine g_i2l X2 hx 18 rfl (hb hby d1_17) ?_
  refine g_lmul X2 hx 19 rfl (hb hby d1_18) ?_
  refine g_lcmp X2 hx 20 rfl (hb hby d1_19) ?_
  have hcmp : ((2 : Int64) * (0 : Int32).toInt64 < (Int32.ofNat N).toInt64) ↔ 0 < N := by
    rw [Int64.lt_iff_toInt_lt, Int32.toInt_toInt64, own_ofi N (by omega), show ((2 : Int64) * (0 : Int32).toInt64).toInt = 0 from rfl]; omega
  refine g_ifN X2 hx 23 rfl (hb hby d1_20) (XT.ll_gt_f (fun z => absurd (hcmp.mp z) (by omega))) ?_
  refine g_iload_n X2 hx 24 rfl (hb hby d1_23) rfl ?_
  refine g_newarr X2 hx hZ 26 rfl (hw _ (List.mem_of_getElem? (i := 0) rfl)) e2 (hb hby d1_24) N (own_ofi N (by omega)) 6 (by omega) (by decide) (by decide) (by decide) "[I" (by decide) ?_
  intro T4 h4 t g4 X4 e4 E4 A4 Ex4
  have Exa5 := (E1.wr W2)
  have ne_a1_t : a1 ≠ t := Nat.ne_of_lt (Nat.lt_of_lt_of_eq Exa5.lt g4.symm)
  have ne_d_t : d ≠ t := Nat.ne_of_lt (Nat.lt_of_lt_of_eq Al3.lt g4.symm)
  have Al6 := (Aq.other W2 nq)
  have ne_q_t : q ≠ t := Nat.ne_of_lt (Nat.lt_of_lt_of_eq Al6.lt g4.symm)
  have Zl7 : n0 ≤ h2.size := (Nat.le_trans Z0 (Nat.le_of_eq W2.size.symm))
  have ge_t : n0 ≤ t := Nat.le_trans Zl7 (Nat.le_of_eq g4.symm)
  have hz_t : h0.size ≤ t := Nat.le_trans ((Keep.refl h0 [a1]).wr W2 (Or.inl (List.mem_of_getElem? (i := 0) rfl))).1 (Nat.le_of_eq g4.symm)
  refine g_astore X4 hx 28 rfl (hb hby d1_26) rfl #[.val (.ref a1), .val (.ref d), .val (.ref q), .val (.int (Int32.ofNat N)), .val (.ref t), .unset] rfl ?_
  refine g_aload X4 hx 30 rfl (hb hby d1_28) rfl rfl ?_
  refine g_iconst X4 hx 31 rfl (-1 : Int32) rfl (hb hby d1_30) ?_
  have At0 : Al Z h4 t .int (own_arr N (fun _ => 0)) := own_arr_rep N 0 ▸ A4
  have Zl9 : n0 ≤ h4.size := (Nat.le_trans Zl7 E4.1)
  refine g_callS X4 hx hZ 34 rfl (y := (⟨"java/util/Arrays", "fill", "([II)V"⟩ : MethodName)) hown (hw _ (List.mem_of_getElem? (i := 13) rfl)) (hw _ (List.mem_of_getElem? (i := 14) rfl)) (hw _ (List.mem_of_getElem? (i := 15) rfl)) (hw _ (List.mem_of_getElem? (i := 16) rfl)) (by decide) [.ref t, .int (-1 : Int32)] [] (rmF l Z a0 hw [] t (-1 : Int32) N h4 n0 Zl9 At0 ge_t hN2) e4 (lenOf pd_1 rfl) rfl (by rw [hml]; rfl) (hb hby d1_31) (by decide) 0 (Nat.le_of_eq rfl) (by decide) (by decide) (by decide) ?_
  rintro _ T8 L8 X8 ⟨rfl, N8q, K8, B8⟩
  have N8 := Fr.app N2 N8q
  show Goes p e below (T8.setTop (mkF m 34 #[.val (.ref a1), .val (.ref d), .val (.ref q), .val (.int (Int32.ofNat N)), .val (.ref t), .unset] [])) _
  refine g_iconst X8 hx 35 rfl (0 : Int32) rfl (hb hby d1_34) ?_
  refine g_istore X8 hx 37 rfl (hb hby d1_35) #[.val (.ref a1), .val (.ref d), .val (.ref q), .val (.int (Int32.ofNat N)), .val (.ref t), .val (.int (0 : Int32))] rfl ?_
  refine g_iload X8 hx 39 rfl (hb hby d1_37) rfl ?_
  refine g_aload_n X8 hx 40 rfl (hb hby d1_39) rfl rfl ?_
  have Al10 := ((Al3.ext E4).keep K8 (ninS ne_d_t nin0))
  refine g_alen X8 hx hZ 41 rfl (hb hby d1_40) rfl Al10 (0 : Int32) rfl ?_
  refine g_icmpY X8 hx 61 (hb hby d1_41) (XT.ii_ge_t (by decide)) (by decide) (by decide) ?_
  refine g_aload_n X8 hx 62 rfl (hb hby d1_61) rfl rfl ?_
  refine g_aconst_null X8 hx 63 rfl (hb hby d1_62) ?_
  have Fld11 := (((Fd.other W2 (Or.inr (slot_ne (Or.inr (hw _ (List.mem_of_getElem? (i := 18) rfl))) (Or.inr (hw _ (List.mem_of_getElem? (i := 11) rfl))) (by decide) (t := .array .int) (t' := .int) (by decide) (by decide)))).ext E4).keep K8 (ninS ne_a1_t nin0))
  have Exa12 := ((Exa5.ext E4).keep K8)
  refine g_putF X8 hx hZ 66 rfl hown (hw _ (List.mem_of_getElem? (i := 17) rfl)) rfl Fld11 Exa12 (Or.inr ⟨(hw _ (List.mem_of_getElem? (i := 18) rfl)), rfl, hnm⟩) (hw _ (List.mem_of_getElem? (i := 2) rfl)) (ty := .array .int) (by decide) rfl rfl (hb hby d1_63) ?_
  intro T13 h13 X13 e13 W13
  have Fw13 := Fld11.same W13
  have N13 := Fr.snoc X13 N8 g1
  refine g_aload_n X13 hx 67 rfl (hb hby d1_66) rfl rfl ?_
  refine g_aload X13 hx 69 rfl (hb hby d1_67) rfl rfl ?_
  have Fld14 := ((((Fl.other W2 (Or.inr (slot_ne (Or.inr (hw _ (List.mem_of_getElem? (i := 20) rfl))) (Or.inr (hw _ (List.mem_of_getElem? (i := 11) rfl))) (by decide) (t := .array .int) (t' := .int) (by decide) (by decide)))).ext E4).keep K8 (ninS ne_a1_t nin0)).other W13 (Or.inr (slot_ne (Or.inr (hw _ (List.mem_of_getElem? (i := 20) rfl))) (Or.inr (hw _ (List.mem_of_getElem? (i := 18) rfl))) (by decide) (t := .array .int) (t' := .array .int) (by decide) (by decide))))
  have Exa15 := (Exa12.wr W13)
  refine g_putF X13 hx hZ 72 rfl hown (hw _ (List.mem_of_getElem? (i := 19) rfl)) e13 Fld14 Exa15 (Or.inr ⟨(hw _ (List.mem_of_getElem? (i := 20) rfl)), rfl, hnm⟩) (hw _ (List.mem_of_getElem? (i := 2) rfl)) (ty := .array .int) (by decide) rfl rfl (hb hby d1_69) ?_
  intro T16 h16 X16 e16 W16
  have Fw16 := Fld14.same W16
  have N16 := Fr.snoc X16 N13 g1
  refine g_goto X16 hx 85 (hb hby d1_72) (by decide) (by decide) ?_
  have Exa17 := (Exa15.wr W16)
  have Fld18 := ((((Fw2.ext E4).keep K8 (ninS ne_a1_t nin0)).other W13 (Or.inr (slot_ne (Or.inr (hw _ (List.mem_of_getElem? (i := 11) rfl))) (Or.inr (hw _ (List.mem_of_getElem? (i := 18) rfl))) (by decide) (t := .int) (t' := .array .int) (by decide) (by decide)))).other W16 (Or.inr (slot_ne (Or.inr (hw _ (List.mem_of_getElem? (i := 11) rfl))) (Or.inr (hw _ (List.mem_of_getElem? (i := 20) rfl))) (by decide) (t := .int) (t' := .array .int) (by decide) (by decide))))
  have Fld19 := (Fw13.other W16 (Or.inr (slot_ne (Or.inr (hw _ (List.mem_of_getElem? (i := 18) rfl))) (Or.inr (hw _ (List.mem_of_getElem? (i := 20) rfl))) (by decide) (t := .array .int) (t' := .array .int) (by decide) (by decide))))
  have Al20 := ((B8.other W13 (Ne.symm ne_a1_t)).other W16 (Ne.symm ne_a1_t))
  exact g_ret0 X16 hx hret hlk (hb hby d1_85) (by rw [e16]; exact ⟨rfl, N16, ((((((Keep.refl h0 [a1]).wr W2 (Or.inl (List.mem_of_getElem? (i := 0) rfl))).ext E4).trans K8 (allS (Or.inr hz_t) all0)).wr W13 (Or.inl (List.mem_of_getElem? (i := 0) rfl))).wr W16 (Or.inl (List.mem_of_getElem? (i := 0) rfl))), Exa17, Fld18, Fld19, _, Fw16, Al20⟩) (by decide) (by decide)
theorem ef_1_rmS1 (m : MethodId) (a1 : Addr) (d : Addr) (q : Addr) (N : Nat) (d0 : Nat) (l0 : Int32) (uc : Value) (ud : Value) (ul : Value)  : entryFrame m #[(.ref a1), (.ref d), (.ref q), (.int (Int32.ofNat N))] 6 = mkF m 0 #[.val (.ref a1), .val (.ref d), .val (.ref q), .val (.int (Int32.ofNat N)), .unset, .unset] [] := by first | (simp [entryFrame, mkF, argsToLocals, Value.category, maxLocals]; done) | rfl
def Q_rmS1 (Z : State) (a1 : Addr) (d : Addr) (q : Addr) (N : Nat) (d0 : Nat) (l0 : Int32) (uc : Value) (ud : Value) (ul : Value) (h0 : Heap) (n0 : Nat) (v : Option Value) (h : Heap) (L : List Loc) : Prop := v = none ∧ Fr n0 L ∧ Keep h0 h [a1] ∧ Exa Z h a1 "com/example/cranfield/cranfield/index/FieldLengths" ∧ Fld Z h a1 "com/example/cranfield/cranfield/index/FieldLengths" "documentCount" "I" (.int 1) ∧ Fld Z h a1 "com/example/cranfield/cranfield/index/FieldLengths" "docs" "[I" (.ref d)
set_option maxRecDepth 65536 in
set_option maxHeartbeats 40000000 in
theorem rmS1 (l : Launch) (Z : State) (a0 : Array Value) (hw : ∀ d ∈ tables_1, d.before a0 Z = true) (ws : List Jvm.Cond) (a1 : Addr) (d : Addr) (q : Addr) (N : Nat) (d0 : Nat) (l0 : Int32) (uc : Value) (ud : Value) (ul : Value) (h0 : Heap) (n0 : Nat) (Z0 : n0 ≤ h0.size) (E1 : Exa Z h0 a1 "com/example/cranfield/cranfield/index/FieldLengths") (g1 : n0 ≤ a1) (Fc : Fld Z h0 a1 "com/example/cranfield/cranfield/index/FieldLengths" "documentCount" "I" uc) (Fd : Fld Z h0 a1 "com/example/cranfield/cranfield/index/FieldLengths" "docs" "[I" ud) (Fl : Fld Z h0 a1 "com/example/cranfield/cranfield/index/FieldLengths" "lengths" "[I" ul) (Ad : Al Z h0 d .int [.int (Int32.ofNat d0)]) (Aq : Al Z h0 q .int [.int l0]) (nd : d ≠ a1) (nq : q ≠ a1) (hN : 2 < N) (hN2 : N < 100) :
    OwnMet l Z (⟨"com/example/cranfield/cranfield/index/FieldLengths", "<init>", "([I[II)V"⟩ : MethodName) prog_39_method_1_code 6 none ws ({ frames := 1, cells := 0, slots := 0, locals := 12 } : Room) #[(.ref a1), (.ref d), (.ref q), (.int (Int32.ofNat N))] h0 (Q_rmS1 Z a1 d q N d0 l0 uc ud ul h0 n0) := by
  refine own_body pf_1 ?_
  intro p e s m below meth c s₁ hx hby hml hown hnm hret hlk hZ X0 e0
  have N0 := Fr.nil n0
  refine own_cast (ef_1_rmS1 m a1 d q N d0 l0 uc ud ul ) ?_
  refine g_aload_n X0 hx 1 rfl (hb hby d1_0) rfl rfl ?_
  refine g_initO X0 hx hZ 4 rfl hown (hw _ (List.mem_of_getElem? (i := 7) rfl)) (hw _ (List.mem_of_getElem? (i := 8) rfl)) (hw _ (List.mem_of_getElem? (i := 9) rfl)) e0 (by rw [hml]; rfl) (hb hby d1_1) (by decide) 0 (Nat.le_of_eq rfl) (by decide) ?_
  intro T1 X1 e1
  refine g_aload_n X1 hx 5 rfl (hb hby d1_4) rfl rfl ?_
  refine g_aload_n X1 hx 6 rfl (hb hby d1_5) rfl rfl ?_
  refine g_alen X1 hx hZ 7 rfl (hb hby d1_6) e1 Ad (1 : Int32) rfl ?_
  refine g_putF X1 hx hZ 10 rfl hown (hw _ (List.mem_of_getElem? (i := 10) rfl)) e1 Fc E1 (Or.inr ⟨(hw _ (List.mem_of_getElem? (i := 11) rfl)), rfl, hnm⟩) (hw _ (List.mem_of_getElem? (i := 2) rfl)) (ty := .int) (by decide) rfl rfl (hb hby d1_7) ?_
  intro T2 h2 X2 e2 W2
  have Fw2 := Fc.same W2
  have N2 := Fr.snoc X2 N0 g1
  refine g_iload_n X2 hx 11 rfl (hb hby d1_10) rfl ?_
  refine g_i2l X2 hx 12 rfl (hb hby d1_11) ?_
  refine g_ldcJ X2 hx 15 rfl hown hZ (hw _ (List.mem_of_getElem? (i := 12) rfl)) (hb hby d1_12) ?_
  refine g_aload_n X2 hx 16 rfl (hb hby d1_15) rfl rfl ?_
  have Al3 := (Ad.other W2 nd)
  refine g_alen X2 hx hZ 17 rfl (hb hby d1_16) e2 Al3 (1 : Int32) rfl ?_
  refine g_i2l X2 hx 18 rfl (hb hby d1_17) ?_
  refine g_lmul X2 hx 19 rfl (hb hby d1_18) ?_
  refine g_lcmp X2 hx 20 rfl (hb hby d1_19) ?_
  have hcmp : ((2 : Int64) * (1 : Int32).toInt64 < (Int32.ofNat N).toInt64) ↔ 2 < N := by
    rw [Int64.lt_iff_toInt_lt, Int32.toInt_toInt64, own_ofi N (by omega), show ((2 : Int64) * (1 : Int32).toInt64).toInt = 2 from rfl]; omega
  refine g_ifY X2 hx 75 (hb hby d1_20) (XT.ll_gt_t (hcmp.mpr hN)) (by decide) (by decide) ?_
  refine g_aload_n X2 hx 76 rfl (hb hby d1_75) rfl rfl ?_
  refine g_aload_n X2 hx 77 rfl (hb hby d1_76) rfl rfl ?_
  have Fld4 := (Fd.other W2 (Or.inr (slot_ne (Or.inr (hw _ (List.mem_of_getElem? (i := 18) rfl))) (Or.inr (hw _ (List.mem_of_getElem? (i := 11) rfl))) (by decide) (t := .array .int) (t' := .int) (by decide) (by decide))))
  have Exa5 := (E1.wr W2)
  refine g_putF X2 hx hZ 80 rfl hown (hw _ (List.mem_of_getElem? (i := 17) rfl)) e2 Fld4 Exa5 (Or.inr ⟨(hw _ (List.mem_of_getElem? (i := 18) rfl)), rfl, hnm⟩) (hw _ (List.mem_of_getElem? (i := 2) rfl)) (ty := .array .int) (by decide) rfl rfl (hb hby d1_77) ?_
  intro T6 h6 X6 e6 W6
  have Fw6 := Fld4.same W6
  have N6 := Fr.snoc X6 N2 g1
  refine g_aload_n X6 hx 81 rfl (hb hby d1_80) rfl rfl ?_
  refine g_aload_n X6 hx 82 rfl (hb hby d1_81) rfl rfl ?_
  have Fld7 := ((Fl.other W2 (Or.inr (slot_ne (Or.inr (hw _ (List.mem_of_getElem? (i := 20) rfl))) (Or.inr (hw _ (List.mem_of_getElem? (i := 11) rfl))) (by decide) (t := .array .int) (t' := .int) (by decide) (by decide)))).other W6 (Or.inr (slot_ne (Or.inr (hw _ (List.mem_of_getElem? (i := 20) rfl))) (Or.inr (hw _ (List.mem_of_getElem? (i := 18) rfl))) (by decide) (t := .array .int) (t' := .array .int) (by decide) (by decide))))
  have Exa8 := (Exa5.wr W6)
  refine g_putF X6 hx hZ 85 rfl hown (hw _ (List.mem_of_getElem? (i := 19) rfl)) e6 Fld7 Exa8 (Or.inr ⟨(hw _ (List.mem_of_getElem? (i := 20) rfl)), rfl, hnm⟩) (hw _ (List.mem_of_getElem? (i := 2) rfl)) (ty := .array .int) (by decide) rfl rfl (hb hby d1_82) ?_
  intro T9 h9 X9 e9 W9
  have Fw9 := Fld7.same W9
  have N9 := Fr.snoc X9 N6 g1
  have Exa10 := (Exa8.wr W9)
  have Fld11 := ((Fw2.other W6 (Or.inr (slot_ne (Or.inr (hw _ (List.mem_of_getElem? (i := 11) rfl))) (Or.inr (hw _ (List.mem_of_getElem? (i := 18) rfl))) (by decide) (t := .int) (t' := .array .int) (by decide) (by decide)))).other W9 (Or.inr (slot_ne (Or.inr (hw _ (List.mem_of_getElem? (i := 11) rfl))) (Or.inr (hw _ (List.mem_of_getElem? (i := 20) rfl))) (by decide) (t := .int) (t' := .array .int) (by decide) (by decide))))
  have Fld12 := (Fw6.other W9 (Or.inr (slot_ne (Or.inr (hw _ (List.mem_of_getElem? (i := 18) rfl))) (Or.inr (hw _ (List.mem_of_getElem? (i := 20) rfl))) (by decide) (t := .array .int) (t' := .array .int) (by decide) (by decide))))
  exact g_ret0 X9 hx hret hlk (hb hby d1_85) (by rw [e9]; exact ⟨rfl, N9, ((((Keep.refl h0 [a1]).wr W2 (Or.inl (List.mem_of_getElem? (i := 0) rfl))).wr W6 (Or.inl (List.mem_of_getElem? (i := 0) rfl))).wr W9 (Or.inl (List.mem_of_getElem? (i := 0) rfl))), Exa10, Fld11, Fld12⟩) (by decide) (by decide)
theorem ef_1_rmD1 (m : MethodId) (a1 : Addr) (d : Addr) (q : Addr) (N : Nat) (d0 : Nat) (l0 : Int32) (uc : Value) (ud : Value) (ul : Value)  : entryFrame m #[(.ref a1), (.ref d), (.ref q), (.int (Int32.ofNat N))] 6 = mkF m 0 #[.val (.ref a1), .val (.ref d), .val (.ref q), .val (.int (Int32.ofNat N)), .unset, .unset] [] := by first | (simp [entryFrame, mkF, argsToLocals, Value.category, maxLocals]; done) | rfl
def Q_rmD1 (Z : State) (a1 : Addr) (d : Addr) (q : Addr) (N : Nat) (d0 : Nat) (l0 : Int32) (uc : Value) (ud : Value) (ul : Value) (h0 : Heap) (n0 : Nat) (v : Option Value) (h : Heap) (L : List Loc) : Prop := v = none ∧ Fr n0 L ∧ Keep h0 h [a1] ∧ Exa Z h a1 "com/example/cranfield/cranfield/index/FieldLengths" ∧ Fld Z h a1 "com/example/cranfield/cranfield/index/FieldLengths" "documentCount" "I" (.int 1) ∧ Fld Z h a1 "com/example/cranfield/cranfield/index/FieldLengths" "docs" "[I" .null ∧ ∃ t, Fld Z h a1 "com/example/cranfield/cranfield/index/FieldLengths" "lengths" "[I" (.ref t) ∧ Al Z h t .int (own_arr N (own_g1 d0 l0))
set_option maxRecDepth 65536 in
set_option maxHeartbeats 40000000 in
theorem rmD1 (l : Launch) (Z : State) (a0 : Array Value) (hw : ∀ d ∈ tables_1, d.before a0 Z = true) (ws : List Jvm.Cond) (a1 : Addr) (d : Addr) (q : Addr) (N : Nat) (d0 : Nat) (l0 : Int32) (uc : Value) (ud : Value) (ul : Value) (h0 : Heap) (n0 : Nat) (Z0 : n0 ≤ h0.size) (E1 : Exa Z h0 a1 "com/example/cranfield/cranfield/index/FieldLengths") (g1 : n0 ≤ a1) (Fc : Fld Z h0 a1 "com/example/cranfield/cranfield/index/FieldLengths" "documentCount" "I" uc) (Fd : Fld Z h0 a1 "com/example/cranfield/cranfield/index/FieldLengths" "docs" "[I" ud) (Fl : Fld Z h0 a1 "com/example/cranfield/cranfield/index/FieldLengths" "lengths" "[I" ul) (Ad : Al Z h0 d .int [.int (Int32.ofNat d0)]) (Aq : Al Z h0 q .int [.int l0]) (nd : d ≠ a1) (nq : q ≠ a1) (hN : N ≤ 2) (hN2 : N < 100) (hd0 : d0 < N) :
    OwnMet l Z (⟨"com/example/cranfield/cranfield/index/FieldLengths", "<init>", "([I[II)V"⟩ : MethodName) prog_39_method_1_code 6 none ws ({ frames := 1, cells := 1, slots := 6, locals := 15 } : Room) #[(.ref a1), (.ref d), (.ref q), (.int (Int32.ofNat N))] h0 (Q_rmD1 Z a1 d q N d0 l0 uc ud ul h0 n0) := by
  refine own_body pf_1 ?_
  intro p e s m below meth c s₁ hx hby hml hown hnm hret hlk hZ X0 e0
  have N0 := Fr.nil n0
  refine own_cast (ef_1_rmD1 m a1 d q N d0 l0 uc ud ul ) ?_
  refine g_aload_n X0 hx 1 rfl (hb hby d1_0) rfl rfl ?_
  refine g_initO X0 hx hZ 4 rfl hown (hw _ (List.mem_of_getElem? (i := 7) rfl)) (hw _ (List.mem_of_getElem? (i := 8) rfl)) (hw _ (List.mem_of_getElem? (i := 9) rfl)) e0 (by rw [hml]; rfl) (hb hby d1_1) (by decide) 0 (Nat.le_of_eq rfl) (by decide) ?_
  intro T1 X1 e1
  refine g_aload_n X1 hx 5 rfl (hb hby d1_4) rfl rfl ?_
  refine g_aload_n X1 hx 6 rfl (hb hby d1_5) rfl rfl ?_
  refine g_alen X1 hx hZ 7 rfl (hb hby d1_6) e1 Ad (1 : Int32) rfl ?_
  refine g_putF X1 hx hZ 10 rfl hown (hw _ (List.mem_of_getElem? (i := 10) rfl)) e1 Fc E1 (Or.inr ⟨(hw _ (List.mem_of_getElem? (i := 11) rfl)), rfl, hnm⟩) (hw _ (List.mem_of_getElem? (i := 2) rfl)) (ty := .int) (by decide) rfl rfl (hb hby d1_7) ?_
  intro T2 h2 X2 e2 W2
  have Fw2 := Fc.same W2
  have N2 := Fr.snoc X2 N0 g1
  refine g_iload_n X2 hx 11 rfl (hb hby d1_10) rfl ?_
  refine g_i2l X2 hx 12 rfl (hb hby d1_11) ?_
  refine g_ldcJ X2 hx 15 rfl hown hZ (hw _ (List.mem_of_getElem? (i := 12) rfl)) (hb hby d1_12) ?_
  refine g_aload_n X2 hx 16 rfl (hb hby d1_15) rfl rfl ?_
  have Al3 := (Ad.other W2 nd)
  refine g_alen X2 hx hZ 17 rfl (hb hby d1_16) e2 Al3 (1 : Int32) rfl ?_
  refine g_i2l X2 hx 18 rfl (hb hby d1_17) ?_
  refine g_lmul X2 hx 19 rfl (hb hby d1_18) ?_
  refine g_lcmp X2 hx 20 rfl (hb hby d1_19) ?_
  have hcmp : ((2 : Int64) * (1 : Int32).toInt64 < (Int32.ofNat N).toInt64) ↔ 2 < N := by
    rw [Int64.lt_iff_toInt_lt, Int32.toInt_toInt64, own_ofi N (by omega), show ((2 : Int64) * (1 : Int32).toInt64).toInt = 2 from rfl]; omega
  refine g_ifN X2 hx 23 rfl (hb hby d1_20) (XT.ll_gt_f (fun z => absurd (hcmp.mp z) (by omega))) ?_
  refine g_iload_n X2 hx 24 rfl (hb hby d1_23) rfl ?_
  refine g_newarr X2 hx hZ 26 rfl (hw _ (List.mem_of_getElem? (i := 0) rfl)) e2 (hb hby d1_24) N (own_ofi N (by omega)) 6 (by omega) (by decide) (by decide) (by decide) "[I" (by decide) ?_
  intro T4 h4 t g4 X4 e4 E4 A4 Ex4
  have Exa5 := (E1.wr W2)
  have ne_a1_t : a1 ≠ t := Nat.ne_of_lt (Nat.lt_of_lt_of_eq Exa5.lt g4.symm)
  have ne_d_t : d ≠ t := Nat.ne_of_lt (Nat.lt_of_lt_of_eq Al3.lt g4.symm)
  have Al6 := (Aq.other W2 nq)
  have ne_q_t : q ≠ t := Nat.ne_of_lt (Nat.lt_of_lt_of_eq Al6.lt g4.symm)
  have Zl7 : n0 ≤ h2.size := (Nat.le_trans Z0 (Nat.le_of_eq W2.size.symm))
  have ge_t : n0 ≤ t := Nat.le_trans Zl7 (Nat.le_of_eq g4.symm)
  have hz_t : h0.size ≤ t := Nat.le_trans ((Keep.refl h0 [a1]).wr W2 (Or.inl (List.mem_of_getElem? (i := 0) rfl))).1 (Nat.le_of_eq g4.symm)
  refine g_astore X4 hx 28 rfl (hb hby d1_26) rfl #[.val (.ref a1), .val (.ref d), .val (.ref q), .val (.int (Int32.ofNat N)), .val (.ref t), .unset] rfl ?_
  refine g_aload X4 hx 30 rfl (hb hby d1_28) rfl rfl ?_
  refine g_iconst X4 hx 31 rfl (-1 : Int32) rfl (hb hby d1_30) ?_
  have At0 : Al Z h4 t .int (own_arr N (fun _ => 0)) := own_arr_rep N 0 ▸ A4
  have Zl9 : n0 ≤ h4.size := (Nat.le_trans Zl7 E4.1)
  refine g_callS X4 hx hZ 34 rfl (y := (⟨"java/util/Arrays", "fill", "([II)V"⟩ : MethodName)) hown (hw _ (List.mem_of_getElem? (i := 13) rfl)) (hw _ (List.mem_of_getElem? (i := 14) rfl)) (hw _ (List.mem_of_getElem? (i := 15) rfl)) (hw _ (List.mem_of_getElem? (i := 16) rfl)) (by decide) [.ref t, .int (-1 : Int32)] [] (rmF l Z a0 hw [] t (-1 : Int32) N h4 n0 Zl9 At0 ge_t hN2) e4 (lenOf pd_1 rfl) rfl (by rw [hml]; rfl) (hb hby d1_31) (by decide) 0 (Nat.le_of_eq rfl) (by decide) (by decide) (by decide) ?_
  rintro _ T8 L8 X8 ⟨rfl, N8q, K8, B8⟩
  have N8 := Fr.app N2 N8q
  show Goes p e below (T8.setTop (mkF m 34 #[.val (.ref a1), .val (.ref d), .val (.ref q), .val (.int (Int32.ofNat N)), .val (.ref t), .unset] [])) _
  refine g_iconst X8 hx 35 rfl (0 : Int32) rfl (hb hby d1_34) ?_
  refine g_istore X8 hx 37 rfl (hb hby d1_35) #[.val (.ref a1), .val (.ref d), .val (.ref q), .val (.int (Int32.ofNat N)), .val (.ref t), .val (.int (0 : Int32))] rfl ?_
  refine g_iload X8 hx 39 rfl (hb hby d1_37) rfl ?_
  refine g_aload_n X8 hx 40 rfl (hb hby d1_39) rfl rfl ?_
  have Al10 := ((Al3.ext E4).keep K8 (ninS ne_d_t nin0))
  refine g_alen X8 hx hZ 41 rfl (hb hby d1_40) rfl Al10 (1 : Int32) rfl ?_
  refine g_icmpN X8 hx 44 rfl (hb hby d1_41) (XT.ii_ge_f (by decide)) ?_
  refine g_aload X8 hx 46 rfl (hb hby d1_44) rfl rfl ?_
  refine g_aload_n X8 hx 47 rfl (hb hby d1_46) rfl rfl ?_
  refine g_iload X8 hx 49 rfl (hb hby d1_47) rfl ?_
  refine g_iaload X8 hx hZ 50 rfl (hb hby d1_49) rfl Al10 0 rfl (.int (Int32.ofNat d0)) rfl ?_
  refine g_aload_n X8 hx 51 rfl (hb hby d1_50) rfl rfl ?_
  refine g_iload X8 hx 53 rfl (hb hby d1_51) rfl ?_
  have Al11 := ((Al6.ext E4).keep K8 (ninS ne_q_t nin0))
  refine g_iaload X8 hx hZ 54 rfl (hb hby d1_53) rfl Al11 0 rfl (.int l0) rfl ?_
  refine g_iastore X8 hx hZ 55 rfl (hb hby d1_54) rfl B8 d0 (own_ofi d0 (by omega)) (by rw [own_arr_len]; exact hd0) ?_
  intro T12 h12 X12 e12 W12 B12
  have N12 := Fr.snoc X12 N8 ge_t
  rw [own_arr_set] at B12
  refine g_iinc X12 hx 58 rfl (hb hby d1_55) (1 : Int32) rfl rfl #[.val (.ref a1), .val (.ref d), .val (.ref q), .val (.int (Int32.ofNat N)), .val (.ref t), .val (.int (1 : Int32))] rfl ?_
  refine g_goto X12 hx 37 (hb hby d1_58) (by decide) (by decide) ?_
  refine g_iload X12 hx 39 rfl (hb hby d1_37) rfl ?_
  refine g_aload_n X12 hx 40 rfl (hb hby d1_39) rfl rfl ?_
  have Al13 := (Al10.other W12 ne_d_t)
  refine g_alen X12 hx hZ 41 rfl (hb hby d1_40) e12 Al13 (1 : Int32) rfl ?_
  refine g_icmpY X12 hx 61 (hb hby d1_41) (XT.ii_ge_t (by decide)) (by decide) (by decide) ?_
  refine g_aload_n X12 hx 62 rfl (hb hby d1_61) rfl rfl ?_
  refine g_aconst_null X12 hx 63 rfl (hb hby d1_62) ?_
  have Fld14 := ((((Fd.other W2 (Or.inr (slot_ne (Or.inr (hw _ (List.mem_of_getElem? (i := 18) rfl))) (Or.inr (hw _ (List.mem_of_getElem? (i := 11) rfl))) (by decide) (t := .array .int) (t' := .int) (by decide) (by decide)))).ext E4).keep K8 (ninS ne_a1_t nin0)).other W12 (Or.inl ne_a1_t))
  have Exa15 := (((Exa5.ext E4).keep K8).wr W12)
  refine g_putF X12 hx hZ 66 rfl hown (hw _ (List.mem_of_getElem? (i := 17) rfl)) e12 Fld14 Exa15 (Or.inr ⟨(hw _ (List.mem_of_getElem? (i := 18) rfl)), rfl, hnm⟩) (hw _ (List.mem_of_getElem? (i := 2) rfl)) (ty := .array .int) (by decide) rfl rfl (hb hby d1_63) ?_
  intro T16 h16 X16 e16 W16
  have Fw16 := Fld14.same W16
  have N16 := Fr.snoc X16 N12 g1
  refine g_aload_n X16 hx 67 rfl (hb hby d1_66) rfl rfl ?_
  refine g_aload X16 hx 69 rfl (hb hby d1_67) rfl rfl ?_
  have Fld17 := (((((Fl.other W2 (Or.inr (slot_ne (Or.inr (hw _ (List.mem_of_getElem? (i := 20) rfl))) (Or.inr (hw _ (List.mem_of_getElem? (i := 11) rfl))) (by decide) (t := .array .int) (t' := .int) (by decide) (by decide)))).ext E4).keep K8 (ninS ne_a1_t nin0)).other W12 (Or.inl ne_a1_t)).other W16 (Or.inr (slot_ne (Or.inr (hw _ (List.mem_of_getElem? (i := 20) rfl))) (Or.inr (hw _ (List.mem_of_getElem? (i := 18) rfl))) (by decide) (t := .array .int) (t' := .array .int) (by decide) (by decide))))
  have Exa18 := (Exa15.wr W16)
  refine g_putF X16 hx hZ 72 rfl hown (hw _ (List.mem_of_getElem? (i := 19) rfl)) e16 Fld17 Exa18 (Or.inr ⟨(hw _ (List.mem_of_getElem? (i := 20) rfl)), rfl, hnm⟩) (hw _ (List.mem_of_getElem? (i := 2) rfl)) (ty := .array .int) (by decide) rfl rfl (hb hby d1_69) ?_
  intro T19 h19 X19 e19 W19
  have Fw19 := Fld17.same W19
  have N19 := Fr.snoc X19 N16 g1
  refine g_goto X19 hx 85 (hb hby d1_72) (by decide) (by decide) ?_
  have Exa20 := (Exa18.wr W19)
  have Fld21 := (((((Fw2.ext E4).keep K8 (ninS ne_a1_t nin0)).other W12 (Or.inl ne_a1_t)).other W16 (Or.inr (slot_ne (Or.inr (hw _ (List.mem_of_getElem? (i := 11) rfl))) (Or.inr (hw _ (List.mem_of_getElem? (i := 18) rfl))) (by decide) (t := .int) (t' := .array .int) (by decide) (by decide)))).other W19 (Or.inr (slot_ne (Or.inr (hw _ (List.mem_of_getElem? (i := 11) rfl))) (Or.inr (hw _ (List.mem_of_getElem? (i := 20) rfl))) (by decide) (t := .int) (t' := .array .int) (by decide) (by decide))))
  have Fld22 := (Fw16.other W19 (Or.inr (slot_ne (Or.inr (hw _ (List.mem_of_getElem? (i := 18) rfl))) (Or.inr (hw _ (List.mem_of_getElem? (i := 20) rfl))) (by decide) (t := .array .int) (t' := .array .int) (by decide) (by decide))))
  have Al23 := ((B12.other W16 (Ne.symm ne_a1_t)).other W19 (Ne.symm ne_a1_t))
  exact g_ret0 X19 hx hret hlk (hb hby d1_85) (by rw [e19]; exact ⟨rfl, N19, (((((((Keep.refl h0 [a1]).wr W2 (Or.inl (List.mem_of_getElem? (i := 0) rfl))).ext E4).trans K8 (allS (Or.inr hz_t) all0)).wr W12 (Or.inr hz_t)).wr W16 (Or.inl (List.mem_of_getElem? (i := 0) rfl))).wr W19 (Or.inl (List.mem_of_getElem? (i := 0) rfl))), Exa20, Fld21, Fld22, _, Fw19, Al23⟩) (by decide) (by decide)
theorem ef_1_rmS2 (m : MethodId) (a1 : Addr) (d : Addr) (q : Addr) (N : Nat) (d0 : Nat) (d1 : Nat) (l0 : Int32) (l1 : Int32) (uc : Value) (ud : Value) (ul : Value)  : entryFrame m #[(.ref a1), (.ref d), (.ref q), (.int (Int32.ofNat N))] 6 = mkF m 0 #[.val (.ref a1), .val (.ref d), .val (.ref q), .val (.int (Int32.ofNat N)), .unset, .unset] [] := by first | (simp [entryFrame, mkF, argsToLocals, Value.category, maxLocals]; done) | rfl
def Q_rmS2 (Z : State) (a1 : Addr) (d : Addr) (q : Addr) (N : Nat) (d0 : Nat) (d1 : Nat) (l0 : Int32) (l1 : Int32) (uc : Value) (ud : Value) (ul : Value) (h0 : Heap) (n0 : Nat) (v : Option Value) (h : Heap) (L : List Loc) : Prop := v = none ∧ Fr n0 L ∧ Keep h0 h [a1] ∧ Exa Z h a1 "com/example/cranfield/cranfield/index/FieldLengths" ∧ Fld Z h a1 "com/example/cranfield/cranfield/index/FieldLengths" "documentCount" "I" (.int 2) ∧ Fld Z h a1 "com/example/cranfield/cranfield/index/FieldLengths" "docs" "[I" (.ref d)
set_option maxRecDepth 65536 in
set_option maxHeartbeats 40000000 in
theorem rmS2 (l : Launch) (Z : State) (a0 : Array Value) (hw : ∀ d ∈ tables_1, d.before a0 Z = true) (ws : List Jvm.Cond) (a1 : Addr) (d : Addr) (q : Addr) (N : Nat) (d0 : Nat) (d1 : Nat) (l0 : Int32) (l1 : Int32) (uc : Value) (ud : Value) (ul : Value) (h0 : Heap) (n0 : Nat) (Z0 : n0 ≤ h0.size) (E1 : Exa Z h0 a1 "com/example/cranfield/cranfield/index/FieldLengths") (g1 : n0 ≤ a1) (Fc : Fld Z h0 a1 "com/example/cranfield/cranfield/index/FieldLengths" "documentCount" "I" uc) (Fd : Fld Z h0 a1 "com/example/cranfield/cranfield/index/FieldLengths" "docs" "[I" ud) (Fl : Fld Z h0 a1 "com/example/cranfield/cranfield/index/FieldLengths" "lengths" "[I" ul) (Ad : Al Z h0 d .int [.int (Int32.ofNat d0), .int (Int32.ofNat d1)]) (Aq : Al Z h0 q .int [.int l0, .int l1]) (nd : d ≠ a1) (nq : q ≠ a1) (hN : 4 < N) (hN2 : N < 100) :
    OwnMet l Z (⟨"com/example/cranfield/cranfield/index/FieldLengths", "<init>", "([I[II)V"⟩ : MethodName) prog_39_method_1_code 6 none ws ({ frames := 1, cells := 0, slots := 0, locals := 12 } : Room) #[(.ref a1), (.ref d), (.ref q), (.int (Int32.ofNat N))] h0 (Q_rmS2 Z a1 d q N d0 d1 l0 l1 uc ud ul h0 n0) := by
  refine own_body pf_1 ?_
  intro p e s m below meth c s₁ hx hby hml hown hnm hret hlk hZ X0 e0
  have N0 := Fr.nil n0
  refine own_cast (ef_1_rmS2 m a1 d q N d0 d1 l0 l1 uc ud ul ) ?_
  refine g_aload_n X0 hx 1 rfl (hb hby d1_0) rfl rfl ?_
  refine g_initO X0 hx hZ 4 rfl hown (hw _ (List.mem_of_getElem? (i := 7) rfl)) (hw _ (List.mem_of_getElem? (i := 8) rfl)) (hw _ (List.mem_of_getElem? (i := 9) rfl)) e0 (by rw [hml]; rfl) (hb hby d1_1) (by decide) 0 (Nat.le_of_eq rfl) (by decide) ?_
  intro T1 X1 e1
  refine g_aload_n X1 hx 5 rfl (hb hby d1_4) rfl rfl ?_
  refine g_aload_n X1 hx 6 rfl (hb hby d1_5) rfl rfl ?_
  refine g_alen X1 hx hZ 7 rfl (hb hby d1_6) e1 Ad (2 : Int32) rfl ?_
  refine g_putF X1 hx hZ 10 rfl hown (hw _ (List.mem_of_getElem? (i := 10) rfl)) e1 Fc E1 (Or.inr ⟨(hw _ (List.mem_of_getElem? (i := 11) rfl)), rfl, hnm⟩) (hw _ (List.mem_of_getElem? (i := 2) rfl)) (ty := .int) (by decide) rfl rfl (hb hby d1_7) ?_
  intro T2 h2 X2 e2 W2
  have Fw2 := Fc.same W2
  have N2 := Fr.snoc X2 N0 g1
  refine g_iload_n X2 hx 11 rfl (hb hby d1_10) rfl ?_
  refine g_i2l X2 hx 12 rfl (hb hby d1_11) ?_
  refine g_ldcJ X2 hx 15 rfl hown hZ (hw _ (List.mem_of_getElem? (i := 12) rfl)) (hb hby d1_12) ?_
  refine g_aload_n X2 hx 16 rfl (hb hby d1_15) rfl rfl ?_
  have Al3 := (Ad.other W2 nd)
  refine g_alen X2 hx hZ 17 rfl (hb hby d1_16) e2 Al3 (2 : Int32) rfl ?_
  refine g_i2l X2 hx 18 rfl (hb hby d1_17) ?_
  refine g_lmul X2 hx 19 rfl (hb hby d1_18) ?_
  refine g_lcmp X2 hx 20 rfl (hb hby d1_19) ?_
  have hcmp : ((2 : Int64) * (2 : Int32).toInt64 < (Int32.ofNat N).toInt64) ↔ 4 < N := by
    rw [Int64.lt_iff_toInt_lt, Int32.toInt_toInt64, own_ofi N (by omega), show ((2 : Int64) * (2 : Int32).toInt64).toInt = 4 from rfl]; omega
  refine g_ifY X2 hx 75 (hb hby d1_20) (XT.ll_gt_t (hcmp.mpr hN)) (by decide) (by decide) ?_
  refine g_aload_n X2 hx 76 rfl (hb hby d1_75) rfl rfl ?_
  refine g_aload_n X2 hx 77 rfl (hb hby d1_76) rfl rfl ?_
  have Fld4 := (Fd.other W2 (Or.inr (slot_ne (Or.inr (hw _ (List.mem_of_getElem? (i := 18) rfl))) (Or.inr (hw _ (List.mem_of_getElem? (i := 11) rfl))) (by decide) (t := .array .int) (t' := .int) (by decide) (by decide))))
  have Exa5 := (E1.wr W2)
  refine g_putF X2 hx hZ 80 rfl hown (hw _ (List.mem_of_getElem? (i := 17) rfl)) e2 Fld4 Exa5 (Or.inr ⟨(hw _ (List.mem_of_getElem? (i := 18) rfl)), rfl, hnm⟩) (hw _ (List.mem_of_getElem? (i := 2) rfl)) (ty := .array .int) (by decide) rfl rfl (hb hby d1_77) ?_
  intro T6 h6 X6 e6 W6
  have Fw6 := Fld4.same W6
  have N6 := Fr.snoc X6 N2 g1
  refine g_aload_n X6 hx 81 rfl (hb hby d1_80) rfl rfl ?_
  refine g_aload_n X6 hx 82 rfl (hb hby d1_81) rfl rfl ?_
  have Fld7 := ((Fl.other W2 (Or.inr (slot_ne (Or.inr (hw _ (List.mem_of_getElem? (i := 20) rfl))) (Or.inr (hw _ (List.mem_of_getElem? (i := 11) rfl))) (by decide) (t := .array .int) (t' := .int) (by decide) (by decide)))).other W6 (Or.inr (slot_ne (Or.inr (hw _ (List.mem_of_getElem? (i := 20) rfl))) (Or.inr (hw _ (List.mem_of_getElem? (i := 18) rfl))) (by decide) (t := .array .int) (t' := .array .int) (by decide) (by decide))))
  have Exa8 := (Exa5.wr W6)
  refine g_putF X6 hx hZ 85 rfl hown (hw _ (List.mem_of_getElem? (i := 19) rfl)) e6 Fld7 Exa8 (Or.inr ⟨(hw _ (List.mem_of_getElem? (i := 20) rfl)), rfl, hnm⟩) (hw _ (List.mem_of_getElem? (i := 2) rfl)) (ty := .array .int) (by decide) rfl rfl (hb hby d1_82) ?_
  intro T9 h9 X9 e9 W9
  have Fw9 := Fld7.same W9
  have N9 := Fr.snoc X9 N6 g1
  have Exa10 := (Exa8.wr W9)
  have Fld11 := ((Fw2.other W6 (Or.inr (slot_ne (Or.inr (hw _ (List.mem_of_getElem? (i := 11) rfl))) (Or.inr (hw _ (List.mem_of_getElem? (i := 18) rfl))) (by decide) (t := .int) (t' := .array .int) (by decide) (by decide)))).other W9 (Or.inr (slot_ne (Or.inr (hw _ (List.mem_of_getElem? (i := 11) rfl))) (Or.inr (hw _ (List.mem_of_getElem? (i := 20) rfl))) (by decide) (t := .int) (t' := .array .int) (by decide) (by decide))))
  have Fld12 := (Fw6.other W9 (Or.inr (slot_ne (Or.inr (hw _ (List.mem_of_getElem? (i := 18) rfl))) (Or.inr (hw _ (List.mem_of_getElem? (i := 20) rfl))) (by decide) (t := .array .int) (t' := .array .int) (by decide) (by decide))))
  exact g_ret0 X9 hx hret hlk (hb hby d1_85) (by rw [e9]; exact ⟨rfl, N9, ((((Keep.refl h0 [a1]).wr W2 (Or.inl (List.mem_of_getElem? (i := 0) rfl))).wr W6 (Or.inl (List.mem_of_getElem? (i := 0) rfl))).wr W9 (Or.inl (List.mem_of_getElem? (i := 0) rfl))), Exa10, Fld11, Fld12⟩) (by decide) (by decide)
theorem ef_1_rmD2 (m : MethodId) (a1 : Addr) (d : Addr) (q : Addr) (N : Nat) (d0 : Nat) (d1 : Nat) (l0 : Int32) (l1 : Int32) (uc : Value) (ud : Value) (ul : Value)  : entryFrame m #[(.ref a1), (.ref d), (.ref q), (.int (Int32.ofNat N))] 6 = mkF m 0 #[.val (.ref a1), .val (.ref d), .val (.ref q), .val (.int (Int32.ofNat N)), .unset, .unset] [] := by first | (simp [entryFrame, mkF, argsToLocals, Value.category, maxLocals]; done) | rfl
def Q_rmD2 (Z : State) (a1 : Addr) (d : Addr) (q : Addr) (N : Nat) (d0 : Nat) (d1 : Nat) (l0 : Int32) (l1 : Int32) (uc : Value) (ud : Value) (ul : Value) (h0 : Heap) (n0 : Nat) (v : Option Value) (h : Heap) (L : List Loc) : Prop := v = none ∧ Fr n0 L ∧ Keep h0 h [a1] ∧ Exa Z h a1 "com/example/cranfield/cranfield/index/FieldLengths" ∧ Fld Z h a1 "com/example/cranfield/cranfield/index/FieldLengths" "documentCount" "I" (.int 2) ∧ Fld Z h a1 "com/example/cranfield/cranfield/index/FieldLengths" "docs" "[I" .null ∧ ∃ t, Fld Z h a1 "com/example/cranfield/cranfield/index/FieldLengths" "lengths" "[I" (.ref t) ∧ Al Z h t .int (own_arr N (own_g2 d0 d1 l0 l1))
set_option maxRecDepth 65536 in
set_option maxHeartbeats 40000000 in
theorem rmD2 (l : Launch) (Z : State) (a0 : Array Value) (hw : ∀ d ∈ tables_1, d.before a0 Z = true) (ws : List Jvm.Cond) (a1 : Addr) (d : Addr) (q : Addr) (N : Nat) (d0 : Nat) (d1 : Nat) (l0 : Int32) (l1 : Int32) (uc : Value) (ud : Value) (ul : Value) (h0 : Heap) (n0 : Nat) (Z0 : n0 ≤ h0.size) (E1 : Exa Z h0 a1 "com/example/cranfield/cranfield/index/FieldLengths") (g1 : n0 ≤ a1) (Fc : Fld Z h0 a1 "com/example/cranfield/cranfield/index/FieldLengths" "documentCount" "I" uc) (Fd : Fld Z h0 a1 "com/example/cranfield/cranfield/index/FieldLengths" "docs" "[I" ud) (Fl : Fld Z h0 a1 "com/example/cranfield/cranfield/index/FieldLengths" "lengths" "[I" ul) (Ad : Al Z h0 d .int [.int (Int32.ofNat d0), .int (Int32.ofNat d1)]) (Aq : Al Z h0 q .int [.int l0, .int l1]) (nd : d ≠ a1) (nq : q ≠ a1) (hN : N ≤ 4) (hN2 : N < 100) (hd0 : d0 < N) (hd1 : d1 < N) :
    OwnMet l Z (⟨"com/example/cranfield/cranfield/index/FieldLengths", "<init>", "([I[II)V"⟩ : MethodName) prog_39_method_1_code 6 none ws ({ frames := 1, cells := 1, slots := 6, locals := 15 } : Room) #[(.ref a1), (.ref d), (.ref q), (.int (Int32.ofNat N))] h0 (Q_rmD2 Z a1 d q N d0 d1 l0 l1 uc ud ul h0 n0) := by
  refine own_body pf_1 ?_
  intro p e s m below meth c s₁ hx hby hml hown hnm hret hlk hZ X0 e0
  have N0 := Fr.nil n0
  refine own_cast (ef_1_rmD2 m a1 d q N d0 d1 l0 l1 uc ud ul ) ?_
  refine g_aload_n X0 hx 1 rfl (hb hby d1_0) rfl rfl ?_
  refine g_initO X0 hx hZ 4 rfl hown (hw _ (List.mem_of_getElem? (i := 7) rfl)) (hw _ (List.mem_of_getElem? (i := 8) rfl)) (hw _ (List.mem_of_getElem? (i := 9) rfl)) e0 (by rw [hml]; rfl) (hb hby d1_1) (by decide) 0 (Nat.le_of_eq rfl) (by decide) ?_
  intro T1 X1 e1
  refine g_aload_n X1 hx 5 rfl (hb hby d1_4) rfl rfl ?_
  refine g_aload_n X1 hx 6 rfl (hb hby d1_5) rfl rfl ?_
  refine g_alen X1 hx hZ 7 rfl (hb hby d1_6) e1 Ad (2 : Int32) rfl ?_
  refine g_putF X1 hx hZ 10 rfl hown (hw _ (List.mem_of_getElem? (i := 10) rfl)) e1 Fc E1 (Or.inr ⟨(hw _ (List.mem_of_getElem? (i := 11) rfl)), rfl, hnm⟩) (hw _ (List.mem_of_getElem? (i := 2) rfl)) (ty := .int) (by decide) rfl rfl (hb hby d1_7) ?_
  intro T2 h2 X2 e2 W2
  have Fw2 := Fc.same W2
  have N2 := Fr.snoc X2 N0 g1
  refine g_iload_n X2 hx 11 rfl (hb hby d1_10) rfl ?_
  refine g_i2l X2 hx 12 rfl (hb hby d1_11) ?_
  refine g_ldcJ X2 hx 15 rfl hown hZ (hw _ (List.mem_of_getElem? (i := 12) rfl)) (hb hby d1_12) ?_
  refine g_aload_n X2 hx 16 rfl (hb hby d1_15) rfl rfl ?_
  have Al3 := (Ad.other W2 nd)
  refine g_alen X2 hx hZ 17 rfl (hb hby d1_16) e2 Al3 (2 : Int32) rfl ?_
  refine g_i2l X2 hx 18 rfl (hb hby d1_17) ?_
  refine g_lmul X2 hx 19 rfl (hb hby d1_18) ?_
  refine g_lcmp X2 hx 20 rfl (hb hby d1_19) ?_
  have hcmp : ((2 : Int64) * (2 : Int32).toInt64 < (Int32.ofNat N).toInt64) ↔ 4 < N := by
    rw [Int64.lt_iff_toInt_lt, Int32.toInt_toInt64, own_ofi N (by omega), show ((2 : Int64) * (2 : Int32).toInt64).toInt = 4 from rfl]; omega
  refine g_ifN X2 hx 23 rfl (hb hby d1_20) (XT.ll_gt_f (fun z => absurd (hcmp.mp z) (by omega))) ?_
  refine g_iload_n X2 hx 24 rfl (hb hby d1_23) rfl ?_
  refine g_newarr X2 hx hZ 26 rfl (hw _ (List.mem_of_getElem? (i := 0) rfl)) e2 (hb hby d1_24) N (own_ofi N (by omega)) 6 (by omega) (by decide) (by decide) (by decide) "[I" (by decide) ?_
  intro T4 h4 t g4 X4 e4 E4 A4 Ex4
  have Exa5 := (E1.wr W2)
  have ne_a1_t : a1 ≠ t := Nat.ne_of_lt (Nat.lt_of_lt_of_eq Exa5.lt g4.symm)
  have ne_d_t : d ≠ t := Nat.ne_of_lt (Nat.lt_of_lt_of_eq Al3.lt g4.symm)
  have Al6 := (Aq.other W2 nq)
  have ne_q_t : q ≠ t := Nat.ne_of_lt (Nat.lt_of_lt_of_eq Al6.lt g4.symm)
  have Zl7 : n0 ≤ h2.size := (Nat.le_trans Z0 (Nat.le_of_eq W2.size.symm))
  have ge_t : n0 ≤ t := Nat.le_trans Zl7 (Nat.le_of_eq g4.symm)
  have hz_t : h0.size ≤ t := Nat.le_trans ((Keep.refl h0 [a1]).wr W2 (Or.inl (List.mem_of_getElem? (i := 0) rfl))).1 (Nat.le_of_eq g4.symm)
  refine g_astore X4 hx 28 rfl (hb hby d1_26) rfl #[.val (.ref a1), .val (.ref d), .val (.ref q), .val (.int (Int32.ofNat N)), .val (.ref t), .unset] rfl ?_
  refine g_aload X4 hx 30 rfl (hb hby d1_28) rfl rfl ?_
  refine g_iconst X4 hx 31 rfl (-1 : Int32) rfl (hb hby d1_30) ?_
  have At0 : Al Z h4 t .int (own_arr N (fun _ => 0)) := own_arr_rep N 0 ▸ A4
  have Zl9 : n0 ≤ h4.size := (Nat.le_trans Zl7 E4.1)
  refine g_callS X4 hx hZ 34 rfl (y := (⟨"java/util/Arrays", "fill", "([II)V"⟩ : MethodName)) hown (hw _ (List.mem_of_getElem? (i := 13) rfl)) (hw _ (List.mem_of_getElem? (i := 14) rfl)) (hw _ (List.mem_of_getElem? (i := 15) rfl)) (hw _ (List.mem_of_getElem? (i := 16) rfl)) (by decide) [.ref t, .int (-1 : Int32)] [] (rmF l Z a0 hw [] t (-1 : Int32) N h4 n0 Zl9 At0 ge_t hN2) e4 (lenOf pd_1 rfl) rfl (by rw [hml]; rfl) (hb hby d1_31) (by decide) 0 (Nat.le_of_eq rfl) (by decide) (by decide) (by decide) ?_
  rintro _ T8 L8 X8 ⟨rfl, N8q, K8, B8⟩
  have N8 := Fr.app N2 N8q
  show Goes p e below (T8.setTop (mkF m 34 #[.val (.ref a1), .val (.ref d), .val (.ref q), .val (.int (Int32.ofNat N)), .val (.ref t), .unset] [])) _
  refine g_iconst X8 hx 35 rfl (0 : Int32) rfl (hb hby d1_34) ?_
  refine g_istore X8 hx 37 rfl (hb hby d1_35) #[.val (.ref a1), .val (.ref d), .val (.ref q), .val (.int (Int32.ofNat N)), .val (.ref t), .val (.int (0 : Int32))] rfl ?_
  refine g_iload X8 hx 39 rfl (hb hby d1_37) rfl ?_
  refine g_aload_n X8 hx 40 rfl (hb hby d1_39) rfl rfl ?_
  have Al10 := ((Al3.ext E4).keep K8 (ninS ne_d_t nin0))
  refine g_alen X8 hx hZ 41 rfl (hb hby d1_40) rfl Al10 (2 : Int32) rfl ?_
  refine g_icmpN X8 hx 44 rfl (hb hby d1_41) (XT.ii_ge_f (by decide)) ?_
  refine g_aload X8 hx 46 rfl (hb hby d1_44) rfl rfl ?_
  refine g_aload_n X8 hx 47 rfl (hb hby d1_46) rfl rfl ?_
  refine g_iload X8 hx 49 rfl (hb hby d1_47) rfl ?_
  refine g_iaload X8 hx hZ 50 rfl (hb hby d1_49) rfl Al10 0 rfl (.int (Int32.ofNat d0)) rfl ?_
  refine g_aload_n X8 hx 51 rfl (hb hby d1_50) rfl rfl ?_
  refine g_iload X8 hx 53 rfl (hb hby d1_51) rfl ?_
  have Al11 := ((Al6.ext E4).keep K8 (ninS ne_q_t nin0))
  refine g_iaload X8 hx hZ 54 rfl (hb hby d1_53) rfl Al11 0 rfl (.int l0) rfl ?_
  refine g_iastore X8 hx hZ 55 rfl (hb hby d1_54) rfl B8 d0 (own_ofi d0 (by omega)) (by rw [own_arr_len]; exact hd0) ?_
  intro T12 h12 X12 e12 W12 B12
  have N12 := Fr.snoc X12 N8 ge_t
  rw [own_arr_set] at B12
  refine g_iinc X12 hx 58 rfl (hb hby d1_55) (1 : Int32) rfl rfl #[.val (.ref a1), .val (.ref d), .val (.ref q), .val (.int (Int32.ofNat N)), .val (.ref t), .val (.int (1 : Int32))] rfl ?_
  refine g_goto X12 hx 37 (hb hby d1_58) (by decide) (by decide) ?_
  refine g_iload X12 hx 39 rfl (hb hby d1_37) rfl ?_
  refine g_aload_n X12 hx 40 rfl (hb hby d1_39) rfl rfl ?_
  have Al13 := (Al10.other W12 ne_d_t)
  refine g_alen X12 hx hZ 41 rfl (hb hby d1_40) e12 Al13 (2 : Int32) rfl ?_
  refine g_icmpN X12 hx 44 rfl (hb hby d1_41) (XT.ii_ge_f (by decide)) ?_
  refine g_aload X12 hx 46 rfl (hb hby d1_44) rfl rfl ?_
  refine g_aload_n X12 hx 47 rfl (hb hby d1_46) rfl rfl ?_
  refine g_iload X12 hx 49 rfl (hb hby d1_47) rfl ?_
  refine g_iaload X12 hx hZ 50 rfl (hb hby d1_49) e12 Al13 1 rfl (.int (Int32.ofNat d1)) rfl ?_
  refine g_aload_n X12 hx 51 rfl (hb hby d1_50) rfl rfl ?_
  refine g_iload X12 hx 53 rfl (hb hby d1_51) rfl ?_
  have Al14 := (Al11.other W12 ne_q_t)
  refine g_iaload X12 hx hZ 54 rfl (hb hby d1_53) e12 Al14 1 rfl (.int l1) rfl ?_
  refine g_iastore X12 hx hZ 55 rfl (hb hby d1_54) e12 B12 d1 (own_ofi d1 (by omega)) (by rw [own_arr_len]; exact hd1) ?_
  intro T15 h15 X15 e15 W15 B15
  have N15 := Fr.snoc X15 N12 ge_t
  rw [own_arr_set] at B15
  refine g_iinc X15 hx 58 rfl (hb hby d1_55) (2 : Int32) rfl rfl #[.val (.ref a1), .val (.ref d), .val (.ref q), .val (.int (Int32.ofNat N)), .val (.ref t), .val (.int (2 : Int32))] rfl ?_
  refine g_goto X15 hx 37 (hb hby d1_58) (by decide) (by decide) ?_
  refine g_iload X15 hx 39 rfl (hb hby d1_37) rfl ?_
  refine g_aload_n X15 hx 40 rfl (hb hby d1_39) rfl rfl ?_
  have Al16 := (Al13.other W15 ne_d_t)
  refine g_alen X15 hx hZ 41 rfl (hb hby d1_40) e15 Al16 (2 : Int32) rfl ?_
  refine g_icmpY X15 hx 61 (hb hby d1_41) (XT.ii_ge_t (by decide)) (by decide) (by decide) ?_
  refine g_aload_n X15 hx 62 rfl (hb hby d1_61) rfl rfl ?_
  refine g_aconst_null X15 hx 63 rfl (hb hby d1_62) ?_
  have Fld17 := (((((Fd.other W2 (Or.inr (slot_ne (Or.inr (hw _ (List.mem_of_getElem? (i := 18) rfl))) (Or.inr (hw _ (List.mem_of_getElem? (i := 11) rfl))) (by decide) (t := .array .int) (t' := .int) (by decide) (by decide)))).ext E4).keep K8 (ninS ne_a1_t nin0)).other W12 (Or.inl ne_a1_t)).other W15 (Or.inl ne_a1_t))
  have Exa18 := ((((Exa5.ext E4).keep K8).wr W12).wr W15)
  refine g_putF X15 hx hZ 66 rfl hown (hw _ (List.mem_of_getElem? (i := 17) rfl)) e15 Fld17 Exa18 (Or.inr ⟨(hw _ (List.mem_of_getElem? (i := 18) rfl)), rfl, hnm⟩) (hw _ (List.mem_of_getElem? (i := 2) rfl)) (ty := .array .int) (by decide) rfl rfl (hb hby d1_63) ?_
  intro T19 h19 X19 e19 W19
  have Fw19 := Fld17.same W19
  have N19 := Fr.snoc X19 N15 g1
  refine g_aload_n X19 hx 67 rfl (hb hby d1_66) rfl rfl ?_
  refine g_aload X19 hx 69 rfl (hb hby d1_67) rfl rfl ?_
  have Fld20 := ((((((Fl.other W2 (Or.inr (slot_ne (Or.inr (hw _ (List.mem_of_getElem? (i := 20) rfl))) (Or.inr (hw _ (List.mem_of_getElem? (i := 11) rfl))) (by decide) (t := .array .int) (t' := .int) (by decide) (by decide)))).ext E4).keep K8 (ninS ne_a1_t nin0)).other W12 (Or.inl ne_a1_t)).other W15 (Or.inl ne_a1_t)).other W19 (Or.inr (slot_ne (Or.inr (hw _ (List.mem_of_getElem? (i := 20) rfl))) (Or.inr (hw _ (List.mem_of_getElem? (i := 18) rfl))) (by decide) (t := .array .int) (t' := .array .int) (by decide) (by decide))))
  have Exa21 := (Exa18.wr W19)
  refine g_putF X19 hx hZ 72 rfl hown (hw _ (List.mem_of_getElem? (i := 19) rfl)) e19 Fld20 Exa21 (Or.inr ⟨(hw _ (List.mem_of_getElem? (i := 20) rfl)), rfl, hnm⟩) (hw _ (List.mem_of_getElem? (i := 2) rfl)) (ty := .array .int) (by decide) rfl rfl (hb hby d1_69) ?_
  intro T22 h22 X22 e22 W22
  have Fw22 := Fld20.same W22
  have N22 := Fr.snoc X22 N19 g1
  refine g_goto X22 hx 85 (hb hby d1_72) (by decide) (by decide) ?_
  have Exa23 := (Exa21.wr W22)
  have Fld24 := ((((((Fw2.ext E4).keep K8 (ninS ne_a1_t nin0)).other W12 (Or.inl ne_a1_t)).other W15 (Or.inl ne_a1_t)).other W19 (Or.inr (slot_ne (Or.inr (hw _ (List.mem_of_getElem? (i := 11) rfl))) (Or.inr (hw _ (List.mem_of_getElem? (i := 18) rfl))) (by decide) (t := .int) (t' := .array .int) (by decide) (by decide)))).other W22 (Or.inr (slot_ne (Or.inr (hw _ (List.mem_of_getElem? (i := 11) rfl))) (Or.inr (hw _ (List.mem_of_getElem? (i := 20) rfl))) (by decide) (t := .int) (t' := .array .int) (by decide) (by decide))))
  have Fld25 := (Fw19.other W22 (Or.inr (slot_ne (Or.inr (hw _ (List.mem_of_getElem? (i := 18) rfl))) (Or.inr (hw _ (List.mem_of_getElem? (i := 20) rfl))) (by decide) (t := .array .int) (t' := .array .int) (by decide) (by decide))))
  have Al26 := ((B15.other W19 (Ne.symm ne_a1_t)).other W22 (Ne.symm ne_a1_t))
  exact g_ret0 X22 hx hret hlk (hb hby d1_85) (by rw [e22]; exact ⟨rfl, N22, ((((((((Keep.refl h0 [a1]).wr W2 (Or.inl (List.mem_of_getElem? (i := 0) rfl))).ext E4).trans K8 (allS (Or.inr hz_t) all0)).wr W12 (Or.inr hz_t)).wr W15 (Or.inr hz_t)).wr W19 (Or.inl (List.mem_of_getElem? (i := 0) rfl))).wr W22 (Or.inl (List.mem_of_getElem? (i := 0) rfl))), Exa23, Fld24, Fld25, _, Fw22, Al26⟩) (by decide) (by decide)
theorem ef_1_rmS3 (m : MethodId) (a1 : Addr) (d : Addr) (q : Addr) (N : Nat) (d0 : Nat) (d1 : Nat) (d2 : Nat) (l0 : Int32) (l1 : Int32) (l2 : Int32) (uc : Value) (ud : Value) (ul : Value)  : entryFrame m #[(.ref a1), (.ref d), (.ref q), (.int (Int32.ofNat N))] 6 = mkF m 0 #[.val (.ref a1), .val (.ref d), .val (.ref q), .val (.int (Int32.ofNat N)), .unset, .unset] [] := by first | (simp [entryFrame, mkF, argsToLocals, Value.category, maxLocals]; done) | rfl
def Q_rmS3 (Z : State) (a1 : Addr) (d : Addr) (q : Addr) (N : Nat) (d0 : Nat) (d1 : Nat) (d2 : Nat) (l0 : Int32) (l1 : Int32) (l2 : Int32) (uc : Value) (ud : Value) (ul : Value) (h0 : Heap) (n0 : Nat) (v : Option Value) (h : Heap) (L : List Loc) : Prop := v = none ∧ Fr n0 L ∧ Keep h0 h [a1] ∧ Exa Z h a1 "com/example/cranfield/cranfield/index/FieldLengths" ∧ Fld Z h a1 "com/example/cranfield/cranfield/index/FieldLengths" "documentCount" "I" (.int 3) ∧ Fld Z h a1 "com/example/cranfield/cranfield/index/FieldLengths" "docs" "[I" (.ref d)
set_option maxRecDepth 65536 in
set_option maxHeartbeats 40000000 in
theorem rmS3 (l : Launch) (Z : State) (a0 : Array Value) (hw : ∀ d ∈ tables_1, d.before a0 Z = true) (ws : List Jvm.Cond) (a1 : Addr) (d : Addr) (q : Addr) (N : Nat) (d0 : Nat) (d1 : Nat) (d2 : Nat) (l0 : Int32) (l1 : Int32) (l2 : Int32) (uc : Value) (ud : Value) (ul : Value) (h0 : Heap) (n0 : Nat) (Z0 : n0 ≤ h0.size) (E1 : Exa Z h0 a1 "com/example/cranfield/cranfield/index/FieldLengths") (g1 : n0 ≤ a1) (Fc : Fld Z h0 a1 "com/example/cranfield/cranfield/index/FieldLengths" "documentCount" "I" uc) (Fd : Fld Z h0 a1 "com/example/cranfield/cranfield/index/FieldLengths" "docs" "[I" ud) (Fl : Fld Z h0 a1 "com/example/cranfield/cranfield/index/FieldLengths" "lengths" "[I" ul) (Ad : Al Z h0 d .int [.int (Int32.ofNat d0), .int (Int32.ofNat d1), .int (Int32.ofNat d2)]) (Aq : Al Z h0 q .int [.int l0, .int l1, .int l2]) (nd : d ≠ a1) (nq : q ≠ a1) (hN : 6 < N) (hN2 : N < 100) :
    OwnMet l Z (⟨"com/example/cranfield/cranfield/index/FieldLengths", "<init>", "([I[II)V"⟩ : MethodName) prog_39_method_1_code 6 none ws ({ frames := 1, cells := 0, slots := 0, locals := 12 } : Room) #[(.ref a1), (.ref d), (.ref q), (.int (Int32.ofNat N))] h0 (Q_rmS3 Z a1 d q N d0 d1 d2 l0 l1 l2 uc ud ul h0 n0) := by
  refine own_body pf_1 ?_
  intro p e s m below meth c s₁ hx hby hml hown hnm hret hlk hZ X0 e0
  have N0 := Fr.nil n0
  refine own_cast (ef_1_rmS3 m a1 d q N d0 d1 d2 l0 l1 l2 uc ud ul ) ?_
  refine g_aload_n X0 hx 1 rfl (hb hby d1_0) rfl rfl ?_
  refine g_initO X0 hx hZ 4 rfl hown (hw _ (List.mem_of_getElem? (i := 7) rfl)) (hw _ (List.mem_of_getElem? (i := 8) rfl)) (hw _ (List.mem_of_getElem? (i := 9) rfl)) e0 (by rw [hml]; rfl) (hb hby d1_1) (by decide) 0 (Nat.le_of_eq rfl) (by decide) ?_
  intro T1 X1 e1
  refine g_aload_n X1 hx 5 rfl (hb hby d1_4) rfl rfl ?_
  refine g_aload_n X1 hx 6 rfl (hb hby d1_5) rfl rfl ?_
  refine g_alen X1 hx hZ 7 rfl (hb hby d1_6) e1 Ad (3 : Int32) rfl ?_
  refine g_putF X1 hx hZ 10 rfl hown (hw _ (List.mem_of_getElem? (i := 10) rfl)) e1 Fc E1 (Or.inr ⟨(hw _ (List.mem_of_getElem? (i := 11) rfl)), rfl, hnm⟩) (hw _ (List.mem_of_getElem? (i := 2) rfl)) (ty := .int) (by decide) rfl rfl (hb hby d1_7) ?_
  intro T2 h2 X2 e2 W2
  have Fw2 := Fc.same W2
  have N2 := Fr.snoc X2 N0 g1
  refine g_iload_n X2 hx 11 rfl (hb hby d1_10) rfl ?_
  refine g_i2l X2 hx 12 rfl (hb hby d1_11) ?_
  refine g_ldcJ X2 hx 15 rfl hown hZ (hw _ (List.mem_of_getElem? (i := 12) rfl)) (hb hby d1_12) ?_
  refine g_aload_n X2 hx 16 rfl (hb hby d1_15) rfl rfl ?_
  have Al3 := (Ad.other W2 nd)
  refine g_alen X2 hx hZ 17 rfl (hb hby d1_16) e2 Al3 (3 : Int32) rfl ?_
  refine g_i2l X2 hx 18 rfl (hb hby d1_17) ?_
  refine g_lmul X2 hx 19 rfl (hb hby d1_18) ?_
  refine g_lcmp X2 hx 20 rfl (hb hby d1_19) ?_
  have hcmp : ((2 : Int64) * (3 : Int32).toInt64 < (Int32.ofNat N).toInt64) ↔ 6 < N := by
    rw [Int64.lt_iff_toInt_lt, Int32.toInt_toInt64, own_ofi N (by omega), show ((2 : Int64) * (3 : Int32).toInt64).toInt = 6 from rfl]; omega
  refine g_ifY X2 hx 75 (hb hby d1_20) (XT.ll_gt_t (hcmp.mpr hN)) (by decide) (by decide) ?_
  refine g_aload_n X2 hx 76 rfl (hb hby d1_75) rfl rfl ?_
  refine g_aload_n X2 hx 77 rfl (hb hby d1_76) rfl rfl ?_
  have Fld4 := (Fd.other W2 (Or.inr (slot_ne (Or.inr (hw _ (List.mem_of_getElem? (i := 18) rfl))) (Or.inr (hw _ (List.mem_of_getElem? (i := 11) rfl))) (by decide) (t := .array .int) (t' := .int) (by decide) (by decide))))
  have Exa5 := (E1.wr W2)
  refine g_putF X2 hx hZ 80 rfl hown (hw _ (List.mem_of_getElem? (i := 17) rfl)) e2 Fld4 Exa5 (Or.inr ⟨(hw _ (List.mem_of_getElem? (i := 18) rfl)), rfl, hnm⟩) (hw _ (List.mem_of_getElem? (i := 2) rfl)) (ty := .array .int) (by decide) rfl rfl (hb hby d1_77) ?_
  intro T6 h6 X6 e6 W6
  have Fw6 := Fld4.same W6
  have N6 := Fr.snoc X6 N2 g1
  refine g_aload_n X6 hx 81 rfl (hb hby d1_80) rfl rfl ?_
  refine g_aload_n X6 hx 82 rfl (hb hby d1_81) rfl rfl ?_
  have Fld7 := ((Fl.other W2 (Or.inr (slot_ne (Or.inr (hw _ (List.mem_of_getElem? (i := 20) rfl))) (Or.inr (hw _ (List.mem_of_getElem? (i := 11) rfl))) (by decide) (t := .array .int) (t' := .int) (by decide) (by decide)))).other W6 (Or.inr (slot_ne (Or.inr (hw _ (List.mem_of_getElem? (i := 20) rfl))) (Or.inr (hw _ (List.mem_of_getElem? (i := 18) rfl))) (by decide) (t := .array .int) (t' := .array .int) (by decide) (by decide))))
  have Exa8 := (Exa5.wr W6)
  refine g_putF X6 hx hZ 85 rfl hown (hw _ (List.mem_of_getElem? (i := 19) rfl)) e6 Fld7 Exa8 (Or.inr ⟨(hw _ (List.mem_of_getElem? (i := 20) rfl)), rfl, hnm⟩) (hw _ (List.mem_of_getElem? (i := 2) rfl)) (ty := .array .int) (by decide) rfl rfl (hb hby d1_82) ?_
  intro T9 h9 X9 e9 W9
  have Fw9 := Fld7.same W9
  have N9 := Fr.snoc X9 N6 g1
  have Exa10 := (Exa8.wr W9)
  have Fld11 := ((Fw2.other W6 (Or.inr (slot_ne (Or.inr (hw _ (List.mem_of_getElem? (i := 11) rfl))) (Or.inr (hw _ (List.mem_of_getElem? (i := 18) rfl))) (by decide) (t := .int) (t' := .array .int) (by decide) (by decide)))).other W9 (Or.inr (slot_ne (Or.inr (hw _ (List.mem_of_getElem? (i := 11) rfl))) (Or.inr (hw _ (List.mem_of_getElem? (i := 20) rfl))) (by decide) (t := .int) (t' := .array .int) (by decide) (by decide))))
  have Fld12 := (Fw6.other W9 (Or.inr (slot_ne (Or.inr (hw _ (List.mem_of_getElem? (i := 18) rfl))) (Or.inr (hw _ (List.mem_of_getElem? (i := 20) rfl))) (by decide) (t := .array .int) (t' := .array .int) (by decide) (by decide))))
  exact g_ret0 X9 hx hret hlk (hb hby d1_85) (by rw [e9]; exact ⟨rfl, N9, ((((Keep.refl h0 [a1]).wr W2 (Or.inl (List.mem_of_getElem? (i := 0) rfl))).wr W6 (Or.inl (List.mem_of_getElem? (i := 0) rfl))).wr W9 (Or.inl (List.mem_of_getElem? (i := 0) rfl))), Exa10, Fld11, Fld12⟩) (by decide) (by decide)
theorem ef_1_rmD3 (m : MethodId) (a1 : Addr) (d : Addr) (q : Addr) (N : Nat) (d0 : Nat) (d1 : Nat) (d2 : Nat) (l0 : Int32) (l1 : Int32) (l2 : Int32) (uc : Value) (ud : Value) (ul : Value)  : entryFrame m #[(.ref a1), (.ref d), (.ref q), (.int (Int32.ofNat N))] 6 = mkF m 0 #[.val (.ref a1), .val (.ref d), .val (.ref q), .val (.int (Int32.ofNat N)), .unset, .unset] [] := by first | (simp [entryFrame, mkF, argsToLocals, Value.category, maxLocals]; done) | rfl
def Q_rmD3 (Z : State) (a1 : Addr) (d : Addr) (q : Addr) (N : Nat) (d0 : Nat) (d1 : Nat) (d2 : Nat) (l0 : Int32) (l1 : Int32) (l2 : Int32) (uc : Value) (ud : Value) (ul : Value) (h0 : Heap) (n0 : Nat) (v : Option Value) (h : Heap) (L : List Loc) : Prop := v = none ∧ Fr n0 L ∧ Keep h0 h [a1] ∧ Exa Z h a1 "com/example/cranfield/cranfield/index/FieldLengths" ∧ Fld Z h a1 "com/example/cranfield/cranfield/index/FieldLengths" "documentCount" "I" (.int 3) ∧ Fld Z h a1 "com/example/cranfield/cranfield/index/FieldLengths" "docs" "[I" .null ∧ ∃ t, Fld Z h a1 "com/example/cranfield/cranfield/index/FieldLengths" "lengths" "[I" (.ref t) ∧ Al Z h t .int (own_arr N (own_g3 d0 d1 d2 l0 l1 l2))
set_option maxRecDepth 65536 in
set_option maxHeartbeats 40000000 in
theorem rmD3 (l : Launch) (Z : State) (a0 : Array Value) (hw : ∀ d ∈ tables_1, d.before a0 Z = true) (ws : List Jvm.Cond) (a1 : Addr) (d : Addr) (q : Addr) (N : Nat) (d0 : Nat) (d1 : Nat) (d2 : Nat) (l0 : Int32) (l1 : Int32) (l2 : Int32) (uc : Value) (ud : Value) (ul : Value) (h0 : Heap) (n0 : Nat) (Z0 : n0 ≤ h0.size) (E1 : Exa Z h0 a1 "com/example/cranfield/cranfield/index/FieldLengths") (g1 : n0 ≤ a1) (Fc : Fld Z h0 a1 "com/example/cranfield/cranfield/index/FieldLengths" "documentCount" "I" uc) (Fd : Fld Z h0 a1 "com/example/cranfield/cranfield/index/FieldLengths" "docs" "[I" ud) (Fl : Fld Z h0 a1 "com/example/cranfield/cranfield/index/FieldLengths" "lengths" "[I" ul) (Ad : Al Z h0 d .int [.int (Int32.ofNat d0), .int (Int32.ofNat d1), .int (Int32.ofNat d2)]) (Aq : Al Z h0 q .int [.int l0, .int l1, .int l2]) (nd : d ≠ a1) (nq : q ≠ a1) (hN : N ≤ 6) (hN2 : N < 100) (hd0 : d0 < N) (hd1 : d1 < N) (hd2 : d2 < N) :
    OwnMet l Z (⟨"com/example/cranfield/cranfield/index/FieldLengths", "<init>", "([I[II)V"⟩ : MethodName) prog_39_method_1_code 6 none ws ({ frames := 1, cells := 1, slots := 6, locals := 15 } : Room) #[(.ref a1), (.ref d), (.ref q), (.int (Int32.ofNat N))] h0 (Q_rmD3 Z a1 d q N d0 d1 d2 l0 l1 l2 uc ud ul h0 n0) := by
  refine own_body pf_1 ?_
  intro p e s m below meth c s₁ hx hby hml hown hnm hret hlk hZ X0 e0
  have N0 := Fr.nil n0
  refine own_cast (ef_1_rmD3 m a1 d q N d0 d1 d2 l0 l1 l2 uc ud ul ) ?_
  refine g_aload_n X0 hx 1 rfl (hb hby d1_0) rfl rfl ?_
  refine g_initO X0 hx hZ 4 rfl hown (hw _ (List.mem_of_getElem? (i := 7) rfl)) (hw _ (List.mem_of_getElem? (i := 8) rfl)) (hw _ (List.mem_of_getElem? (i := 9) rfl)) e0 (by rw [hml]; rfl) (hb hby d1_1) (by decide) 0 (Nat.le_of_eq rfl) (by decide) ?_
  intro T1 X1 e1
  refine g_aload_n X1 hx 5 rfl (hb hby d1_4) rfl rfl ?_
  refine g_aload_n X1 hx 6 rfl (hb hby d1_5) rfl rfl ?_
  refine g_alen X1 hx hZ 7 rfl (hb hby d1_6) e1 Ad (3 : Int32) rfl ?_
  refine g_putF X1 hx hZ 10 rfl hown (hw _ (List.mem_of_getElem? (i := 10) rfl)) e1 Fc E1 (Or.inr ⟨(hw _ (List.mem_of_getElem? (i := 11) rfl)), rfl, hnm⟩) (hw _ (List.mem_of_getElem? (i := 2) rfl)) (ty := .int) (by decide) rfl rfl (hb hby d1_7) ?_
  intro T2 h2 X2 e2 W2
  have Fw2 := Fc.same W2
  have N2 := Fr.snoc X2 N0 g1
  refine g_iload_n X2 hx 11 rfl (hb hby d1_10) rfl ?_
  refine g_i2l X2 hx 12 rfl (hb hby d1_11) ?_
  refine g_ldcJ X2 hx 15 rfl hown hZ (hw _ (List.mem_of_getElem? (i := 12) rfl)) (hb hby d1_12) ?_
  refine g_aload_n X2 hx 16 rfl (hb hby d1_15) rfl rfl ?_
  have Al3 := (Ad.other W2 nd)
  refine g_alen X2 hx hZ 17 rfl (hb hby d1_16) e2 Al3 (3 : Int32) rfl ?_
  refine g_i2l X2 hx 18 rfl (hb hby d1_17) ?_
  refine g_lmul X2 hx 19 rfl (hb hby d1_18) ?_
  refine g_lcmp X2 hx 20 rfl (hb hby d1_19) ?_
  have hcmp : ((2 : Int64) * (3 : Int32).toInt64 < (Int32.ofNat N).toInt64) ↔ 6 < N := by
    rw [Int64.lt_iff_toInt_lt, Int32.toInt_toInt64, own_ofi N (by omega), show ((2 : Int64) * (3 : Int32).toInt64).toInt = 6 from rfl]; omega
  refine g_ifN X2 hx 23 rfl (hb hby d1_20) (XT.ll_gt_f (fun z => absurd (hcmp.mp z) (by omega))) ?_
  refine g_iload_n X2 hx 24 rfl (hb hby d1_23) rfl ?_
  refine g_newarr X2 hx hZ 26 rfl (hw _ (List.mem_of_getElem? (i := 0) rfl)) e2 (hb hby d1_24) N (own_ofi N (by omega)) 6 (by omega) (by decide) (by decide) (by decide) "[I" (by decide) ?_
  intro T4 h4 t g4 X4 e4 E4 A4 Ex4
  have Exa5 := (E1.wr W2)
  have ne_a1_t : a1 ≠ t := Nat.ne_of_lt (Nat.lt_of_lt_of_eq Exa5.lt g4.symm)
  have ne_d_t : d ≠ t := Nat.ne_of_lt (Nat.lt_of_lt_of_eq Al3.lt g4.symm)
  have Al6 := (Aq.other W2 nq)
  have ne_q_t : q ≠ t := Nat.ne_of_lt (Nat.lt_of_lt_of_eq Al6.lt g4.symm)
  have Zl7 : n0 ≤ h2.size := (Nat.le_trans Z0 (Nat.le_of_eq W2.size.symm))
  have ge_t : n0 ≤ t := Nat.le_trans Zl7 (Nat.le_of_eq g4.symm)
  have hz_t : h0.size ≤ t := Nat.le_trans ((Keep.refl h0 [a1]).wr W2 (Or.inl (List.mem_of_getElem? (i := 0) rfl))).1 (Nat.le_of_eq g4.symm)
  refine g_astore X4 hx 28 rfl (hb hby d1_26) rfl #[.val (.ref a1), .val (.ref d), .val (.ref q), .val (.int (Int32.ofNat N)), .val (.ref t), .unset] rfl ?_
  refine g_aload X4 hx 30 rfl (hb hby d1_28) rfl rfl ?_
  refine g_iconst X4 hx 31 rfl (-1 : Int32) rfl (hb hby d1_30) ?_
  have At0 : Al Z h4 t .int (own_arr N (fun _ => 0)) := own_arr_rep N 0 ▸ A4
  have Zl9 : n0 ≤ h4.size := (Nat.le_trans Zl7 E4.1)
  refine g_callS X4 hx hZ 34 rfl (y := (⟨"java/util/Arrays", "fill", "([II)V"⟩ : MethodName)) hown (hw _ (List.mem_of_getElem? (i := 13) rfl)) (hw _ (List.mem_of_getElem? (i := 14) rfl)) (hw _ (List.mem_of_getElem? (i := 15) rfl)) (hw _ (List.mem_of_getElem? (i := 16) rfl)) (by decide) [.ref t, .int (-1 : Int32)] [] (rmF l Z a0 hw [] t (-1 : Int32) N h4 n0 Zl9 At0 ge_t hN2) e4 (lenOf pd_1 rfl) rfl (by rw [hml]; rfl) (hb hby d1_31) (by decide) 0 (Nat.le_of_eq rfl) (by decide) (by decide) (by decide) ?_
  rintro _ T8 L8 X8 ⟨rfl, N8q, K8, B8⟩
  have N8 := Fr.app N2 N8q
  show Goes p e below (T8.setTop (mkF m 34 #[.val (.ref a1), .val (.ref d), .val (.ref q), .val (.int (Int32.ofNat N)), .val (.ref t), .unset] [])) _
  refine g_iconst X8 hx 35 rfl (0 : Int32) rfl (hb hby d1_34) ?_
  refine g_istore X8 hx 37 rfl (hb hby d1_35) #[.val (.ref a1), .val (.ref d), .val (.ref q), .val (.int (Int32.ofNat N)), .val (.ref t), .val (.int (0 : Int32))] rfl ?_
  refine g_iload X8 hx 39 rfl (hb hby d1_37) rfl ?_
  refine g_aload_n X8 hx 40 rfl (hb hby d1_39) rfl rfl ?_
  have Al10 := ((Al3.ext E4).keep K8 (ninS ne_d_t nin0))
  refine g_alen X8 hx hZ 41 rfl (hb hby d1_40) rfl Al10 (3 : Int32) rfl ?_
  refine g_icmpN X8 hx 44 rfl (hb hby d1_41) (XT.ii_ge_f (by decide)) ?_
  refine g_aload X8 hx 46 rfl (hb hby d1_44) rfl rfl ?_
  refine g_aload_n X8 hx 47 rfl (hb hby d1_46) rfl rfl ?_
  refine g_iload X8 hx 49 rfl (hb hby d1_47) rfl ?_
  refine g_iaload X8 hx hZ 50 rfl (hb hby d1_49) rfl Al10 0 rfl (.int (Int32.ofNat d0)) rfl ?_
  refine g_aload_n X8 hx 51 rfl (hb hby d1_50) rfl rfl ?_
  refine g_iload X8 hx 53 rfl (hb hby d1_51) rfl ?_
  have Al11 := ((Al6.ext E4).keep K8 (ninS ne_q_t nin0))
  refine g_iaload X8 hx hZ 54 rfl (hb hby d1_53) rfl Al11 0 rfl (.int l0) rfl ?_
  refine g_iastore X8 hx hZ 55 rfl (hb hby d1_54) rfl B8 d0 (own_ofi d0 (by omega)) (by rw [own_arr_len]; exact hd0) ?_
  intro T12 h12 X12 e12 W12 B12
  have N12 := Fr.snoc X12 N8 ge_t
  rw [own_arr_set] at B12
  refine g_iinc X12 hx 58 rfl (hb hby d1_55) (1 : Int32) rfl rfl #[.val (.ref a1), .val (.ref d), .val (.ref q), .val (.int (Int32.ofNat N)), .val (.ref t), .val (.int (1 : Int32))] rfl ?_
  refine g_goto X12 hx 37 (hb hby d1_58) (by decide) (by decide) ?_
  refine g_iload X12 hx 39 rfl (hb hby d1_37) rfl ?_
  refine g_aload_n X12 hx 40 rfl (hb hby d1_39) rfl rfl ?_
  have Al13 := (Al10.other W12 ne_d_t)
  refine g_alen X12 hx hZ 41 rfl (hb hby d1_40) e12 Al13 (3 : Int32) rfl ?_
  refine g_icmpN X12 hx 44 rfl (hb hby d1_41) (XT.ii_ge_f (by decide)) ?_
  refine g_aload X12 hx 46 rfl (hb hby d1_44) rfl rfl ?_
  refine g_aload_n X12 hx 47 rfl (hb hby d1_46) rfl rfl ?_
  refine g_iload X12 hx 49 rfl (hb hby d1_47) rfl ?_
  refine g_iaload X12 hx hZ 50 rfl (hb hby d1_49) e12 Al13 1 rfl (.int (Int32.ofNat d1)) rfl ?_
  refine g_aload_n X12 hx 51 rfl (hb hby d1_50) rfl rfl ?_
  refine g_iload X12 hx 53 rfl (hb hby d1_51) rfl ?_
  have Al14 := (Al11.other W12 ne_q_t)
  refine g_iaload X12 hx hZ 54 rfl (hb hby d1_53) e12 Al14 1 rfl (.int l1) rfl ?_
  refine g_iastore X12 hx hZ 55 rfl (hb hby d1_54) e12 B12 d1 (own_ofi d1 (by omega)) (by rw [own_arr_len]; exact hd1) ?_
  intro T15 h15 X15 e15 W15 B15
  have N15 := Fr.snoc X15 N12 ge_t
  rw [own_arr_set] at B15
  refine g_iinc X15 hx 58 rfl (hb hby d1_55) (2 : Int32) rfl rfl #[.val (.ref a1), .val (.ref d), .val (.ref q), .val (.int (Int32.ofNat N)), .val (.ref t), .val (.int (2 : Int32))] rfl ?_
  refine g_goto X15 hx 37 (hb hby d1_58) (by decide) (by decide) ?_
  refine g_iload X15 hx 39 rfl (hb hby d1_37) rfl ?_
  refine g_aload_n X15 hx 40 rfl (hb hby d1_39) rfl rfl ?_
  have Al16 := (Al13.other W15 ne_d_t)
  refine g_alen X15 hx hZ 41 rfl (hb hby d1_40) e15 Al16 (3 : Int32) rfl ?_
  refine g_icmpN X15 hx 44 rfl (hb hby d1_41) (XT.ii_ge_f (by decide)) ?_
  refine g_aload X15 hx 46 rfl (hb hby d1_44) rfl rfl ?_
  refine g_aload_n X15 hx 47 rfl (hb hby d1_46) rfl rfl ?_
  refine g_iload X15 hx 49 rfl (hb hby d1_47) rfl ?_
  refine g_iaload X15 hx hZ 50 rfl (hb hby d1_49) e15 Al16 2 rfl (.int (Int32.ofNat d2)) rfl ?_
  refine g_aload_n X15 hx 51 rfl (hb hby d1_50) rfl rfl ?_
  refine g_iload X15 hx 53 rfl (hb hby d1_51) rfl ?_
  have Al17 := (Al14.other W15 ne_q_t)
  refine g_iaload X15 hx hZ 54 rfl (hb hby d1_53) e15 Al17 2 rfl (.int l2) rfl ?_
  refine g_iastore X15 hx hZ 55 rfl (hb hby d1_54) e15 B15 d2 (own_ofi d2 (by omega)) (by rw [own_arr_len]; exact hd2) ?_
  intro T18 h18 X18 e18 W18 B18
  have N18 := Fr.snoc X18 N15 ge_t
  rw [own_arr_set] at B18
  refine g_iinc X18 hx 58 rfl (hb hby d1_55) (3 : Int32) rfl rfl #[.val (.ref a1), .val (.ref d), .val (.ref q), .val (.int (Int32.ofNat N)), .val (.ref t), .val (.int (3 : Int32))] rfl ?_
  refine g_goto X18 hx 37 (hb hby d1_58) (by decide) (by decide) ?_
  refine g_iload X18 hx 39 rfl (hb hby d1_37) rfl ?_
  refine g_aload_n X18 hx 40 rfl (hb hby d1_39) rfl rfl ?_
  have Al19 := (Al16.other W18 ne_d_t)
  refine g_alen X18 hx hZ 41 rfl (hb hby d1_40) e18 Al19 (3 : Int32) rfl ?_
  refine g_icmpY X18 hx 61 (hb hby d1_41) (XT.ii_ge_t (by decide)) (by decide) (by decide) ?_
  refine g_aload_n X18 hx 62 rfl (hb hby d1_61) rfl rfl ?_
  refine g_aconst_null X18 hx 63 rfl (hb hby d1_62) ?_
  have Fld20 := ((((((Fd.other W2 (Or.inr (slot_ne (Or.inr (hw _ (List.mem_of_getElem? (i := 18) rfl))) (Or.inr (hw _ (List.mem_of_getElem? (i := 11) rfl))) (by decide) (t := .array .int) (t' := .int) (by decide) (by decide)))).ext E4).keep K8 (ninS ne_a1_t nin0)).other W12 (Or.inl ne_a1_t)).other W15 (Or.inl ne_a1_t)).other W18 (Or.inl ne_a1_t))
  have Exa21 := (((((Exa5.ext E4).keep K8).wr W12).wr W15).wr W18)
  refine g_putF X18 hx hZ 66 rfl hown (hw _ (List.mem_of_getElem? (i := 17) rfl)) e18 Fld20 Exa21 (Or.inr ⟨(hw _ (List.mem_of_getElem? (i := 18) rfl)), rfl, hnm⟩) (hw _ (List.mem_of_getElem? (i := 2) rfl)) (ty := .array .int) (by decide) rfl rfl (hb hby d1_63) ?_
  intro T22 h22 X22 e22 W22
  have Fw22 := Fld20.same W22
  have N22 := Fr.snoc X22 N18 g1
  refine g_aload_n X22 hx 67 rfl (hb hby d1_66) rfl rfl ?_
  refine g_aload X22 hx 69 rfl (hb hby d1_67) rfl rfl ?_
  have Fld23 := (((((((Fl.other W2 (Or.inr (slot_ne (Or.inr (hw _ (List.mem_of_getElem? (i := 20) rfl))) (Or.inr (hw _ (List.mem_of_getElem? (i := 11) rfl))) (by decide) (t := .array .int) (t' := .int) (by decide) (by decide)))).ext E4).keep K8 (ninS ne_a1_t nin0)).other W12 (Or.inl ne_a1_t)).other W15 (Or.inl ne_a1_t)).other W18 (Or.inl ne_a1_t)).other W22 (Or.inr (slot_ne (Or.inr (hw _ (List.mem_of_getElem? (i := 20) rfl))) (Or.inr (hw _ (List.mem_of_getElem? (i := 18) rfl))) (by decide) (t := .array .int) (t' := .array .int) (by decide) (by decide))))
  have Exa24 := (Exa21.wr W22)
  refine g_putF X22 hx hZ 72 rfl hown (hw _ (List.mem_of_getElem? (i := 19) rfl)) e22 Fld23 Exa24 (Or.inr ⟨(hw _ (List.mem_of_getElem? (i := 20) rfl)), rfl, hnm⟩) (hw _ (List.mem_of_getElem? (i := 2) rfl)) (ty := .array .int) (by decide) rfl rfl (hb hby d1_69) ?_
  intro T25 h25 X25 e25 W25
  have Fw25 := Fld23.same W25
  have N25 := Fr.snoc X25 N22 g1
  refine g_goto X25 hx 85 (hb hby d1_72) (by decide) (by decide) ?_
  have Exa26 := (Exa24.wr W25)
  have Fld27 := (((((((Fw2.ext E4).keep K8 (ninS ne_a1_t nin0)).other W12 (Or.inl ne_a1_t)).other W15 (Or.inl ne_a1_t)).other W18 (Or.inl ne_a1_t)).other W22 (Or.inr (slot_ne (Or.inr (hw _ (List.mem_of_getElem? (i := 11) rfl))) (Or.inr (hw _ (List.mem_of_getElem? (i := 18) rfl))) (by decide) (t := .int) (t' := .array .int) (by decide) (by decide)))).other W25 (Or.inr (slot_ne (Or.inr (hw _ (List.mem_of_getElem? (i := 11) rfl))) (Or.inr (hw _ (List.mem_of_getElem? (i := 20) rfl))) (by decide) (t := .int) (t' := .array .int) (by decide) (by decide))))
  have Fld28 := (Fw22.other W25 (Or.inr (slot_ne (Or.inr (hw _ (List.mem_of_getElem? (i := 18) rfl))) (Or.inr (hw _ (List.mem_of_getElem? (i := 20) rfl))) (by decide) (t := .array .int) (t' := .array .int) (by decide) (by decide))))
  have Al29 := ((B18.other W22 (Ne.symm ne_a1_t)).other W25 (Ne.symm ne_a1_t))
  exact g_ret0 X25 hx hret hlk (hb hby d1_85) (by rw [e25]; exact ⟨rfl, N25, (((((((((Keep.refl h0 [a1]).wr W2 (Or.inl (List.mem_of_getElem? (i := 0) rfl))).ext E4).trans K8 (allS (Or.inr hz_t) all0)).wr W12 (Or.inr hz_t)).wr W15 (Or.inr hz_t)).wr W18 (Or.inr hz_t)).wr W22 (Or.inl (List.mem_of_getElem? (i := 0) rfl))).wr W25 (Or.inl (List.mem_of_getElem? (i := 0) rfl))), Exa26, Fld27, Fld28, _, Fw25, Al29⟩) (by decide) (by decide)
theorem d4_0 : decode prog_39_method_3_code 0 = .ok (.aload_n 0, 1) := by decide +kernel
theorem d4_1 : decode prog_39_method_3_code 1 = .ok (.getfield 21, 3) := by decide +kernel
theorem d4_4 : decode prog_39_method_3_code 4 = .ok (.ifnonnull 48, 3) := by decide +kernel
theorem d4_7 : decode prog_39_method_3_code 7 = .ok (.aload_n 0, 1) := by decide +kernel
theorem d4_8 : decode prog_39_method_3_code 8 = .ok (.getfield 7, 3) := by decide +kernel
theorem d4_11 : decode prog_39_method_3_code 11 = .ok (.newarray .int, 2) := by decide +kernel
theorem d4_13 : decode prog_39_method_3_code 13 = .ok (.astore_n 1, 1) := by decide +kernel
theorem d4_14 : decode prog_39_method_3_code 14 = .ok (.iconst 0, 1) := by decide +kernel
theorem d4_15 : decode prog_39_method_3_code 15 = .ok (.istore_n 2, 1) := by decide +kernel
theorem d4_16 : decode prog_39_method_3_code 16 = .ok (.iconst 0, 1) := by decide +kernel
theorem d4_17 : decode prog_39_method_3_code 17 = .ok (.istore_n 3, 1) := by decide +kernel
theorem d4_18 : decode prog_39_method_3_code 18 = .ok (.iload_n 3, 1) := by decide +kernel
theorem d4_19 : decode prog_39_method_3_code 19 = .ok (.aload_n 0, 1) := by decide +kernel
theorem d4_20 : decode prog_39_method_3_code 20 = .ok (.getfield 25, 3) := by decide +kernel
theorem d4_23 : decode prog_39_method_3_code 23 = .ok (.arraylength, 1) := by decide +kernel
theorem d4_24 : decode prog_39_method_3_code 24 = .ok (.if_icmp .ge 25, 3) := by decide +kernel
theorem d4_27 : decode prog_39_method_3_code 27 = .ok (.aload_n 0, 1) := by decide +kernel
theorem d4_28 : decode prog_39_method_3_code 28 = .ok (.getfield 25, 3) := by decide +kernel
theorem d4_31 : decode prog_39_method_3_code 31 = .ok (.iload_n 3, 1) := by decide +kernel
theorem d4_32 : decode prog_39_method_3_code 32 = .ok (.iaload, 1) := by decide +kernel
theorem d4_33 : decode prog_39_method_3_code 33 = .ok (.ifCond .lt 10, 3) := by decide +kernel
theorem d4_36 : decode prog_39_method_3_code 36 = .ok (.aload_n 1, 1) := by decide +kernel
theorem d4_37 : decode prog_39_method_3_code 37 = .ok (.iload_n 2, 1) := by decide +kernel
theorem d4_38 : decode prog_39_method_3_code 38 = .ok (.iload_n 3, 1) := by decide +kernel
theorem d4_39 : decode prog_39_method_3_code 39 = .ok (.iastore, 1) := by decide +kernel
theorem d4_40 : decode prog_39_method_3_code 40 = .ok (.iinc 2 1, 3) := by decide +kernel
theorem d4_43 : decode prog_39_method_3_code 43 = .ok (.iinc 3 1, 3) := by decide +kernel
theorem d4_46 : decode prog_39_method_3_code 46 = .ok (.goto (-28), 3) := by decide +kernel
theorem d4_49 : decode prog_39_method_3_code 49 = .ok (.goto 14, 3) := by decide +kernel
theorem d4_52 : decode prog_39_method_3_code 52 = .ok (.aload_n 0, 1) := by decide +kernel
theorem d4_53 : decode prog_39_method_3_code 53 = .ok (.getfield 21, 3) := by decide +kernel
theorem d4_56 : decode prog_39_method_3_code 56 = .ok (.invokevirtual 63, 3) := by decide +kernel
theorem d4_59 : decode prog_39_method_3_code 59 = .ok (.checkcast 64, 3) := by decide +kernel
theorem d4_62 : decode prog_39_method_3_code 62 = .ok (.astore_n 1, 1) := by decide +kernel
theorem d4_63 : decode prog_39_method_3_code 63 = .ok (.aload_n 1, 1) := by decide +kernel
theorem d4_64 : decode prog_39_method_3_code 64 = .ok (.areturn, 1) := by decide +kernel
theorem pf_2 : plainFor (⟨"com/example/cranfield/cranfield/index/FieldLengths", "documents", "()[I"⟩ : MethodName) = true := by first | exact plainFor_of_name (by first | (simp [plainName, overriddenIn]; done) | decide +kernel) | decide +kernel
theorem pd_2 : parseMethodDescriptor "()Ljava/lang/Object;" = some ⟨[], some (.object "java/lang/Object")⟩ := by decide +kernel
theorem ef_4_rmK (m : MethodId) (a1 : Addr) (d : Addr) (vs : List Value)  : entryFrame m #[(.ref a1)] 4 = mkF m 0 #[.val (.ref a1), .unset, .unset, .unset] [] := by first | (simp [entryFrame, mkF, argsToLocals, Value.category, maxLocals]; done) | rfl
def Q_rmK (Z : State) (a1 : Addr) (d : Addr) (vs : List Value) (h0 : Heap) (n0 : Nat) (v : Option Value) (h : Heap) (L : List Loc) : Prop := ∃ b, v = some (.ref b) ∧ Fr n0 L ∧ Keep h0 h [] ∧ h0.size ≤ b ∧ Al Z h b .int vs
set_option maxRecDepth 65536 in
set_option maxHeartbeats 40000000 in
theorem rmK (l : Launch) (Z : State) (a0 : Array Value) (hw : ∀ d ∈ tables_1, d.before a0 Z = true) (ws : List Jvm.Cond) (a1 : Addr) (d : Addr) (vs : List Value) (h0 : Heap) (n0 : Nat) (Z0 : n0 ≤ h0.size) (F1 : Fld Z h0 a1 "com/example/cranfield/cranfield/index/FieldLengths" "docs" "[I" (.ref d)) (Ad : Al Z h0 d .int vs) (Ed : Exa Z h0 d "[I") (hcap : vs.length ≤ 3) (hfit : ∀ v ∈ vs, fits .int v = true) :
    OwnMet l Z (⟨"com/example/cranfield/cranfield/index/FieldLengths", "documents", "()[I"⟩ : MethodName) prog_39_method_3_code 4 (some (.array .int)) ws ({ frames := 1, cells := 1, slots := 3, locals := 14 } : Room) #[(.ref a1)] h0 (Q_rmK Z a1 d vs h0 n0) := by
  refine own_body pf_2 ?_
  intro p e s m below meth c s₁ hx hby hml hown hnm hret hlk hZ X0 e0
  have N0 := Fr.nil n0
  refine own_cast (ef_4_rmK m a1 d vs ) ?_
  refine g_aload_n X0 hx 1 rfl (hb hby d4_0) rfl rfl ?_
  refine g_getF X0 hx hZ 4 rfl hown (hw _ (List.mem_of_getElem? (i := 17) rfl)) e0 F1 (hb hby d4_1) ?_
  intro T1 X1 e1
  refine g_ifnonnullY X1 hx 52 (hb hby d4_4) (by decide) (by decide) ?_
  refine g_aload_n X1 hx 53 rfl (hb hby d4_52) rfl rfl ?_
  refine g_getF X1 hx hZ 56 rfl hown (hw _ (List.mem_of_getElem? (i := 17) rfl)) e1 F1 (hb hby d4_53) ?_
  intro T2 X2 e2
  refine g_clone X2 hx hZ 59 rfl (ad := "[I") hown (hw _ (List.mem_of_getElem? (i := 27) rfl)) (hw _ (List.mem_of_getElem? (i := 28) rfl)) (hw _ (List.mem_of_getElem? (i := 32) rfl)) (hw _ (List.mem_of_getElem? (i := 30) rfl)) (hw _ (List.mem_of_getElem? (i := 31) rfl)) (hw _ (List.mem_of_getElem? (i := 33) rfl)) e2 Ad Ed hfit (hb hby d4_56) (by rw [hml]; rfl) (by decide) 0 (Nat.le_of_eq rfl) (by decide) 3 hcap (by decide) (by decide) ?_
  intro T3 h3 b g3 X3 e3 E3 A3 Ex3
  have ne_a1_b : a1 ≠ b := Nat.ne_of_lt (Nat.lt_of_lt_of_eq F1.lt g3.symm)
  have ne_d_b : d ≠ b := Nat.ne_of_lt (Nat.lt_of_lt_of_eq Ad.lt g3.symm)
  have ge_b : n0 ≤ b := Nat.le_trans Z0 (Nat.le_of_eq g3.symm)
  have hz_b : h0.size ≤ b := Nat.le_trans (Keep.refl h0 []).1 (Nat.le_of_eq g3.symm)
  refine g_cast X3 hx hZ 62 rfl hown (hw _ (List.mem_of_getElem? (i := 34) rfl)) e3 (Ins.self Ex3) (hb hby d4_59) ?_
  intro T4 X4 e4
  refine g_astore_n X4 hx 63 rfl (hb hby d4_62) rfl #[.val (.ref a1), .val (.ref b), .unset, .unset] rfl ?_
  refine g_aload_n X4 hx 64 rfl (hb hby d4_63) rfl rfl ?_
  exact g_retA X4 hx hret hlk rfl rfl rfl (hb hby d4_64) (by rw [e4]; exact ⟨b, rfl, N0, ((Keep.refl h0 []).ext E3), hz_b, A3⟩) (by decide) (by decide)
theorem ef_4_rmN (m : MethodId) (a1 : Addr) (t : Addr) (n : Nat) (N : Nat) (g : Nat → Int32)  : entryFrame m #[(.ref a1)] 4 = mkF m 0 #[.val (.ref a1), .unset, .unset, .unset] [] := by first | (simp [entryFrame, mkF, argsToLocals, Value.category, maxLocals]; done) | rfl
def Q_rmN (Z : State) (a1 : Addr) (t : Addr) (n : Nat) (N : Nat) (g : Nat → Int32) (h0 : Heap) (n0 : Nat) (v : Option Value) (h : Heap) (L : List Loc) : Prop := ∃ b, v = some (.ref b) ∧ Fr n0 L ∧ Keep h0 h [] ∧ h0.size ≤ b ∧ Al Z h b .int (own_scan g (N - 0) 0 (List.replicate n (.int 0)) 0).1
set_option maxRecDepth 65536 in
set_option maxHeartbeats 40000000 in
theorem rmN (l : Launch) (Z : State) (a0 : Array Value) (hw : ∀ d ∈ tables_1, d.before a0 Z = true) (ws : List Jvm.Cond) (a1 : Addr) (t : Addr) (n : Nat) (N : Nat) (g : Nat → Int32) (h0 : Heap) (n0 : Nat) (Z0 : n0 ≤ h0.size) (F0 : Fld Z h0 a1 "com/example/cranfield/cranfield/index/FieldLengths" "docs" "[I" .null) (F1 : Fld Z h0 a1 "com/example/cranfield/cranfield/index/FieldLengths" "documentCount" "I" (.int (Int32.ofNat n))) (F2 : Fld Z h0 a1 "com/example/cranfield/cranfield/index/FieldLengths" "lengths" "[I" (.ref t)) (At : Al Z h0 t .int (own_arr N g)) (hn3 : n ≤ 3) (hN : N < 100) (hcnt : own_cnt g (N - 0) 0 ≤ n) :
    OwnMet l Z (⟨"com/example/cranfield/cranfield/index/FieldLengths", "documents", "()[I"⟩ : MethodName) prog_39_method_3_code 4 (some (.array .int)) ws ({ frames := 0, cells := 1, slots := 3, locals := 0 } : Room) #[(.ref a1)] h0 (Q_rmN Z a1 t n N g h0 n0) := by
  refine own_body pf_2 ?_
  intro p e s m below meth c s₁ hx hby hml hown hnm hret hlk hZ X0 e0
  have N0 := Fr.nil n0
  refine own_cast (ef_4_rmN m a1 t n N g ) ?_
  refine g_aload_n X0 hx 1 rfl (hb hby d4_0) rfl rfl ?_
  refine g_getF X0 hx hZ 4 rfl hown (hw _ (List.mem_of_getElem? (i := 17) rfl)) e0 F0 (hb hby d4_1) ?_
  intro T1 X1 e1
  refine g_ifnonnullN X1 hx 7 rfl (hb hby d4_4) ?_
  refine g_aload_n X1 hx 8 rfl (hb hby d4_7) rfl rfl ?_
  refine g_getF X1 hx hZ 11 rfl hown (hw _ (List.mem_of_getElem? (i := 10) rfl)) e1 F1 (hb hby d4_8) ?_
  intro T2 X2 e2
  refine g_newarr X2 hx hZ 13 rfl (hw _ (List.mem_of_getElem? (i := 0) rfl)) e2 (hb hby d4_11) n (own_ofi n (by omega)) 3 (by omega) (by decide) (by decide) (by decide) "[I" (by decide) ?_
  intro T3 h3 b g3 X3 e3 E3 A3 Ex3
  have ne_a1_b : a1 ≠ b := Nat.ne_of_lt (Nat.lt_of_lt_of_eq F0.lt g3.symm)
  have ne_t_b : t ≠ b := Nat.ne_of_lt (Nat.lt_of_lt_of_eq At.lt g3.symm)
  have ge_b : n0 ≤ b := Nat.le_trans Z0 (Nat.le_of_eq g3.symm)
  have hz_b : h0.size ≤ b := Nat.le_trans (Keep.refl h0 []).1 (Nat.le_of_eq g3.symm)
  refine g_astore_n X3 hx 14 rfl (hb hby d4_13) rfl #[.val (.ref a1), .val (.ref b), .unset, .unset] rfl ?_
  refine g_iconst X3 hx 15 rfl (0 : Int32) rfl (hb hby d4_14) ?_
  refine g_istore_n X3 hx 16 rfl (hb hby d4_15) #[.val (.ref a1), .val (.ref b), .val (.int (0 : Int32)), .unset] rfl ?_
  refine g_iconst X3 hx 17 rfl (0 : Int32) rfl (hb hby d4_16) ?_
  refine g_istore_n X3 hx 18 rfl (hb hby d4_17) #[.val (.ref a1), .val (.ref b), .val (.int (0 : Int32)), .val (.int (0 : Int32))] rfl ?_
  have hzb := hz_b
  have neb : ∀ z, z < h0.size → z ≠ b := fun z hz => Nat.ne_of_lt (Nat.lt_of_lt_of_le hz hzb)
  have loop : ∀ (d i c' : Nat) (acc : List Value) (T : State) (h : Heap) (locs : List Loc), i + d = N → c' + own_cnt g d i ≤ n → acc.length = n → (own_scan g d i acc c').1 = (own_scan g (N - 0) 0 (List.replicate n (.int 0)) 0).1 → Stand p l e ({ frames := 0, cells := 1, slots := 3, locals := 0 } : Room) s m #[(.ref a1)] below meth c T locs (0 + 1) (0 + 3) → T.heap = h → Fr n0 locs → Keep h0 h [] → Al Z h b .int acc → Goes p e below (T.setTop (mkF m 18 #[.val (.ref a1), .val (.ref b), .val (.int (Int32.ofNat c')), .val (.int (Int32.ofNat i))] [])) (Endz s ({ frames := 0, cells := 1, slots := 3, locals := 0 } : Room).cells ({ frames := 0, cells := 1, slots := 3, locals := 0 } : Room).slots (Q_rmN Z a1 t n N g h0 n0)) := by
    intro d
    induction d with
    | zero =>
      intro i c' acc T h locs hi hc hl hf X eT N' Kp A'
      refine g_iload_n X hx 19 rfl (hb hby d4_18) rfl ?_
      refine g_aload_n X hx 20 rfl (hb hby d4_19) rfl rfl ?_
      refine g_getF X hx hZ 23 rfl hown (hw _ (List.mem_of_getElem? (i := 19) rfl)) eT (F2.keep Kp nin0) (hb hby d4_20) ?_
      intro T4 X4 e4
      refine g_alen X4 hx hZ 24 rfl (hb hby d4_23) e4 (At.keep Kp nin0) (Int32.ofNat N) (by rw [own_arr_len]) ?_
      refine g_icmpY X4 hx 49 (hb hby d4_24) (XT.ii_ge_t (by rw [Int32.lt_iff_toInt_lt, own_ofi i (by omega), own_ofi N (by omega)]; omega)) (by decide) (by decide) ?_
      refine g_goto X4 hx 63 (hb hby d4_49) (by decide) (by decide) ?_
      refine g_aload_n X4 hx 64 rfl (hb hby d4_63) rfl rfl ?_
      have Af : Al Z h b .int (own_scan g (N - 0) 0 (List.replicate n (.int 0)) 0).1 := hf ▸ A'
      exact g_retA X4 hx hret hlk rfl rfl rfl (hb hby d4_64) (by rw [e4]; exact ⟨b, rfl, N', Kp, hzb, Af⟩) (by decide) (by decide)
    | succ d ih =>
      intro i c' acc T h locs hi hc hl hf X eT N' Kp A'
      rw [own_scan] at hf
      rw [own_cnt] at hc
      refine g_iload_n X hx 19 rfl (hb hby d4_18) rfl ?_
      refine g_aload_n X hx 20 rfl (hb hby d4_19) rfl rfl ?_
      refine g_getF X hx hZ 23 rfl hown (hw _ (List.mem_of_getElem? (i := 19) rfl)) eT (F2.keep Kp nin0) (hb hby d4_20) ?_
      intro T5 X5 e5
      refine g_alen X5 hx hZ 24 rfl (hb hby d4_23) e5 (At.keep Kp nin0) (Int32.ofNat N) (by rw [own_arr_len]) ?_
      refine g_icmpN X5 hx 27 rfl (hb hby d4_24) (XT.ii_ge_f (by rw [Int32.lt_iff_toInt_lt, own_ofi i (by omega), own_ofi N (by omega)]; omega)) ?_
      refine g_aload_n X5 hx 28 rfl (hb hby d4_27) rfl rfl ?_
      refine g_getF X5 hx hZ 31 rfl hown (hw _ (List.mem_of_getElem? (i := 19) rfl)) e5 (F2.keep Kp nin0) (hb hby d4_28) ?_
      intro T6 X6 e6
      refine g_iload_n X6 hx 32 rfl (hb hby d4_31) rfl ?_
      refine g_iaload X6 hx hZ 33 rfl (hb hby d4_32) e6 (At.keep Kp nin0) i (own_ofi i (by omega)) (.int (g i)) (own_arr_get N g i (by omega)) ?_
      by_cases c33 : (g i) < 0
      · refine g_ifY X6 hx 43 (hb hby d4_33) (XT.i0_lt_t c33) (by decide) (by decide) ?_
        rw [if_pos c33] at hf hc
        refine g_iinc X6 hx 46 rfl (hb hby d4_43) (Int32.ofNat (i + 1)) (own_succ i (by omega)) rfl #[.val (.ref a1), .val (.ref b), .val (.int (Int32.ofNat c')), .val (.int (Int32.ofNat (i + 1)))] rfl ?_
        refine g_goto X6 hx 18 (hb hby d4_46) (by decide) (by decide) ?_
        exact ih (i + 1) c' acc _ _ _ (by omega) hc hl hf X6 e6 N' Kp A'
      · refine g_ifN X6 hx 36 rfl (hb hby d4_33) (XT.i0_lt_f c33) ?_
        rw [if_neg c33] at hf hc
        refine g_aload_n X6 hx 37 rfl (hb hby d4_36) rfl rfl ?_
        refine g_iload_n X6 hx 38 rfl (hb hby d4_37) rfl ?_
        refine g_iload_n X6 hx 39 rfl (hb hby d4_38) rfl ?_
        refine g_iastore X6 hx hZ 40 rfl (hb hby d4_39) e6 A' c' (own_ofi c' (by omega)) (by omega) ?_
        intro T7 h7 X7 e7 W7 B7
        have N7 := Fr.snoc X7 N' ge_b
        refine g_iinc X7 hx 43 rfl (hb hby d4_40) (Int32.ofNat (c' + 1)) (own_succ c' (by omega)) rfl #[.val (.ref a1), .val (.ref b), .val (.int (Int32.ofNat (c' + 1))), .val (.int (Int32.ofNat i))] rfl ?_
        refine g_iinc X7 hx 46 rfl (hb hby d4_43) (Int32.ofNat (i + 1)) (own_succ i (by omega)) rfl #[.val (.ref a1), .val (.ref b), .val (.int (Int32.ofNat (c' + 1))), .val (.int (Int32.ofNat (i + 1)))] rfl ?_
        refine g_goto X7 hx 18 (hb hby d4_46) (by decide) (by decide) ?_
        exact ih (i + 1) (c' + 1) _ _ _ _ (by omega) (by omega) (by rw [List.length_set]; exact hl) hf X7 e7 N7 (Kp.wr W7 (Or.inr hzb)) B7
  exact loop N 0 0 (List.replicate n (.int 0)) T3 h3 _ (by omega) (by rw [Nat.zero_add]; exact hcnt) (by simp) rfl X3 e3 N0 ((Keep.refl h0 []).ext E3) A3
theorem pf_3 : plainFor (⟨"com/example/cranfield/cranfield/index/FieldLengthsDocumentsPinLaw", "law", "(IIII)Z"⟩ : MethodName) = true := by first | exact plainFor_of_name (by first | (simp [plainName, overriddenIn]; done) | decide +kernel) | decide +kernel
theorem pd_3 : parseMethodDescriptor "([I[II)V" = some ⟨[.array .int, .array .int, .int], none⟩ := by decide +kernel
theorem pd_4 : parseMethodDescriptor "()[I" = some ⟨[], some (.array .int)⟩ := by decide +kernel
theorem ef_0_rm0 (m : MethodId) (p1 : Int32) (p2 : Int32) (p3 : Int32) (p4 : Int32)  : entryFrame m #[(.int p1), (.int p2), (.int p3), (.int p4)] maxLocals = mkF m 0 #[.val (.int p1), .val (.int p2), .val (.int p3), .val (.int p4), .unset, .unset, .unset, .unset, .unset, .unset, .unset, .unset, .unset, .unset, .unset, .unset] [] := by first | (simp [entryFrame, mkF, argsToLocals, Value.category, maxLocals]; done) | rfl
def Q_rm0 (Z : State) (p1 : Int32) (p2 : Int32) (p3 : Int32) (p4 : Int32) (h0 : Heap) (n0 : Nat) (v : Option Value) (h : Heap) (L : List Loc) : Prop := v = some (.int 1) ∧ Fr n0 L
set_option maxRecDepth 65536 in
set_option maxHeartbeats 40000000 in
theorem rm0 (l : Launch) (Z : State) (a0 : Array Value) (hw : ∀ d ∈ tables_1, d.before a0 Z = true) (ws : List Jvm.Cond) (p1 : Int32) (p2 : Int32) (p3 : Int32) (p4 : Int32) (h0 : Heap) (n0 : Nat) (Z0 : n0 ≤ h0.size)  :
    OwnMet l Z x code maxLocals ret ws room_1 #[(.int p1), (.int p2), (.int p3), (.int p4)] h0 (Q_rm0 Z p1 p2 p3 p4 h0 n0) := by
  refine own_body pf_3 ?_
  intro p e s m below meth c s₁ hx hby hml hown hnm hret hlk hZ X0 e0
  have N0 := Fr.nil n0
  refine own_cast (ef_0_rm0 m p1 p2 p3 p4 ) ?_
  refine g_iload_n X0 hx 1 rfl (hb hby at_0) rfl ?_
  refine g_iconst X0 hx 2 rfl (3 : Int32) rfl (hb hby at_1) ?_
  refine g_iand X0 hx 3 rfl (hb hby at_2) ?_
  refine g_istore X0 hx 5 rfl (hb hby at_3) #[.val (.int p1), .val (.int p2), .val (.int p3), .val (.int p4), .val (.int (p1 &&& (3 : Int32))), .unset, .unset, .unset, .unset, .unset, .unset, .unset, .unset, .unset, .unset, .unset] rfl ?_
  have hnm := c_mask p1 3 2 (by decide) (by decide)
  obtain ⟨n, hn1, hn2⟩ : ∃ n : Nat, p1 &&& (3 : Int32) = Int32.ofNat n ∧ n < 4 := ⟨(p1 &&& (3 : Int32)).toInt.toNat, own_ofNat _ _ (by omega), by omega⟩
  rw [hn1]
  refine g_iload_n X0 hx 6 rfl (hb hby at_5) rfl ?_
  refine g_iconst X0 hx 7 rfl (2 : Int32) rfl (hb hby at_6) ?_
  refine g_iushr X0 hx 8 rfl (hb hby at_7) ?_
  refine g_iconst X0 hx 9 rfl (3 : Int32) rfl (hb hby at_8) ?_
  refine g_iand X0 hx 10 rfl (hb hby at_9) ?_
  obtain ⟨z0, hz01, hz02⟩ := own_field p1 (2 : Int32) 2 (3 : Int32) 2 (by decide) (by decide) (by decide) (by decide)
  rw [hz01]
  refine g_istore X0 hx 12 rfl (hb hby at_10) #[.val (.int p1), .val (.int p2), .val (.int p3), .val (.int p4), .val (.int (Int32.ofNat n)), .val (.int (Int32.ofNat z0)), .unset, .unset, .unset, .unset, .unset, .unset, .unset, .unset, .unset, .unset] rfl ?_
  refine g_iload X0 hx 14 rfl (hb hby at_12) rfl ?_
  refine g_iconst X0 hx 15 rfl (1 : Int32) rfl (hb hby at_14) ?_
  refine g_iadd X0 hx 16 rfl (hb hby at_15) ?_
  refine g_iload_n X0 hx 17 rfl (hb hby at_16) rfl ?_
  refine g_iconst X0 hx 18 rfl (4 : Int32) rfl (hb hby at_17) ?_
  refine g_iushr X0 hx 19 rfl (hb hby at_18) ?_
  refine g_iconst X0 hx 20 rfl (3 : Int32) rfl (hb hby at_19) ?_
  refine g_iand X0 hx 21 rfl (hb hby at_20) ?_
  obtain ⟨z1, hz11, hz12⟩ := own_field p1 (4 : Int32) 4 (3 : Int32) 2 (by decide) (by decide) (by decide) (by decide)
  rw [hz11]
  refine g_iadd X0 hx 22 rfl (hb hby at_21) ?_
  refine g_istore X0 hx 24 rfl (hb hby at_22) #[.val (.int p1), .val (.int p2), .val (.int p3), .val (.int p4), .val (.int (Int32.ofNat n)), .val (.int (Int32.ofNat z0)), .val (.int (((Int32.ofNat z0) + (1 : Int32)) + (Int32.ofNat z1))), .unset, .unset, .unset, .unset, .unset, .unset, .unset, .unset, .unset] rfl ?_
  have hx1e : ((Int32.ofNat z0) + (1 : Int32)) + (Int32.ofNat z1) = Int32.ofNat (z0 + 1 + z1) := by
    simp only [← Int32.ofNat_add, show (1 : Int32) = Int32.ofNat 1 from rfl]
  rw [hx1e]
  refine g_iload X0 hx 26 rfl (hb hby at_24) rfl ?_
  refine g_iconst X0 hx 27 rfl (1 : Int32) rfl (hb hby at_26) ?_
  refine g_iadd X0 hx 28 rfl (hb hby at_27) ?_
  refine g_iload_n X0 hx 29 rfl (hb hby at_28) rfl ?_
  refine g_bipush X0 hx 31 rfl (6 : Int32) rfl (hb hby at_29) ?_
  refine g_iushr X0 hx 32 rfl (hb hby at_31) ?_
  refine g_iconst X0 hx 33 rfl (3 : Int32) rfl (hb hby at_32) ?_
  refine g_iand X0 hx 34 rfl (hb hby at_33) ?_
  obtain ⟨z2, hz21, hz22⟩ := own_field p1 (6 : Int32) 6 (3 : Int32) 2 (by decide) (by decide) (by decide) (by decide)
  rw [hz21]
  refine g_iadd X0 hx 35 rfl (hb hby at_34) ?_
  refine g_istore X0 hx 37 rfl (hb hby at_35) #[.val (.int p1), .val (.int p2), .val (.int p3), .val (.int p4), .val (.int (Int32.ofNat n)), .val (.int (Int32.ofNat z0)), .val (.int (Int32.ofNat (z0 + 1 + z1))), .val (.int (((Int32.ofNat (z0 + 1 + z1)) + (1 : Int32)) + (Int32.ofNat z2))), .unset, .unset, .unset, .unset, .unset, .unset, .unset, .unset] rfl ?_
  have hx2e : ((Int32.ofNat (z0 + 1 + z1)) + (1 : Int32)) + (Int32.ofNat z2) = Int32.ofNat (z0 + 1 + z1 + 1 + z2) := by
    simp only [← Int32.ofNat_add, show (1 : Int32) = Int32.ofNat 1 from rfl]
  rw [hx2e]
  refine g_iload_n X0 hx 38 rfl (hb hby at_37) rfl ?_
  refine g_bipush X0 hx 40 rfl (8 : Int32) rfl (hb hby at_38) ?_
  refine g_iushr X0 hx 41 rfl (hb hby at_40) ?_
  refine g_bipush X0 hx 43 rfl (15 : Int32) rfl (hb hby at_41) ?_
  refine g_iand X0 hx 44 rfl (hb hby at_43) ?_
  obtain ⟨pad, hpad1, hpad2⟩ := own_field p1 (8 : Int32) 8 (15 : Int32) 4 (by decide) (by decide) (by decide) (by decide)
  rw [hpad1]
  refine g_istore X0 hx 46 rfl (hb hby at_44) #[.val (.int p1), .val (.int p2), .val (.int p3), .val (.int p4), .val (.int (Int32.ofNat n)), .val (.int (Int32.ofNat z0)), .val (.int (Int32.ofNat (z0 + 1 + z1))), .val (.int (Int32.ofNat (z0 + 1 + z1 + 1 + z2))), .val (.int (Int32.ofNat pad)), .unset, .unset, .unset, .unset, .unset, .unset, .unset] rfl ?_
  obtain ⟨d0, hd0⟩ : ∃ z, z = z0 := ⟨_, rfl⟩
  obtain ⟨d1, hd1⟩ : ∃ z, z = z0 + 1 + z1 := ⟨_, rfl⟩
  obtain ⟨d2, hd2⟩ : ∃ z, z = z0 + 1 + z1 + 1 + z2 := ⟨_, rfl⟩
  rw [← hd2, ← hd1, ← hd0]
  have l01 : d0 < d1 := by omega
  have l12 : d1 < d2 := by omega
  have lb : d2 ≤ 11 := by omega
  match n, hn2 with
  | 0, _ =>
    show Goes p e below (s₁.setTop (mkF m 46 #[.val (.int p1), .val (.int p2), .val (.int p3), .val (.int p4), .val (.int (0 : Int32)), .val (.int (Int32.ofNat d0)), .val (.int (Int32.ofNat d1)), .val (.int (Int32.ofNat d2)), .val (.int (Int32.ofNat pad)), .unset, .unset, .unset, .unset, .unset, .unset, .unset] [])) _
    refine g_iload X0 hx 48 rfl (hb hby at_46) rfl ?_
    refine g_ifN X0 hx 51 rfl (hb hby at_48) (XT.i0_ne_f rfl) ?_
    refine g_iconst X0 hx 52 rfl (-1 : Int32) rfl (hb hby at_51) ?_
    refine g_goto X0 hx 79 (hb hby at_52) (by decide) (by decide) ?_
    refine g_istore X0 hx 81 rfl (hb hby at_79) #[.val (.int p1), .val (.int p2), .val (.int p3), .val (.int p4), .val (.int (0 : Int32)), .val (.int (Int32.ofNat d0)), .val (.int (Int32.ofNat d1)), .val (.int (Int32.ofNat d2)), .val (.int (Int32.ofNat pad)), .val (.int (-1 : Int32)), .unset, .unset, .unset, .unset, .unset, .unset] rfl ?_
    refine g_iload X0 hx 83 rfl (hb hby at_81) rfl ?_
    refine g_iconst X0 hx 84 rfl (1 : Int32) rfl (hb hby at_83) ?_
    refine g_iadd X0 hx 85 rfl (hb hby at_84) ?_
    show Goes p e below (s₁.setTop (mkF m 85 #[.val (.int p1), .val (.int p2), .val (.int p3), .val (.int p4), .val (.int (0 : Int32)), .val (.int (Int32.ofNat d0)), .val (.int (Int32.ofNat d1)), .val (.int (Int32.ofNat d2)), .val (.int (Int32.ofNat pad)), .val (.int (-1 : Int32)), .unset, .unset, .unset, .unset, .unset, .unset] [.int (0 : Int32)])) _
    refine g_iload X0 hx 87 rfl (hb hby at_85) rfl ?_
    refine g_iadd X0 hx 88 rfl (hb hby at_87) ?_
    refine g_istore X0 hx 90 rfl (hb hby at_88) #[.val (.int p1), .val (.int p2), .val (.int p3), .val (.int p4), .val (.int (0 : Int32)), .val (.int (Int32.ofNat d0)), .val (.int (Int32.ofNat d1)), .val (.int (Int32.ofNat d2)), .val (.int (Int32.ofNat pad)), .val (.int (-1 : Int32)), .val (.int ((0 : Int32) + (Int32.ofNat pad))), .unset, .unset, .unset, .unset, .unset] rfl ?_
    obtain ⟨N, hN⟩ : ∃ z : Nat, z = 0 + pad := ⟨_, rfl⟩
    have hNe : (0 : Int32) + (Int32.ofNat pad) = Int32.ofNat N := by
      rw [hN]; rw [Nat.zero_add]; exact Int32.zero_add _
    rw [hNe]
    have hN100 : N < 100 := by omega
    refine g_iload X0 hx 92 rfl (hb hby at_90) rfl ?_
    refine g_newarr X0 hx hZ 94 rfl (hw _ (List.mem_of_getElem? (i := 0) rfl)) e0 (hb hby at_92) 0 rfl 0 (Nat.le_refl _) (by decide) (by decide) (by decide) "[I" (by decide) ?_
    intro T1 h1 o1 g1 X1 e1 E1 A1 Ex1
    have ge_o1 : n0 ≤ o1 := Nat.le_trans Z0 (Nat.le_of_eq g1.symm)
    have Al1 : Al Z h1 o1 .int [] := A1
    refine g_astore X1 hx 96 rfl (hb hby at_94) rfl #[.val (.int p1), .val (.int p2), .val (.int p3), .val (.int p4), .val (.int (0 : Int32)), .val (.int (Int32.ofNat d0)), .val (.int (Int32.ofNat d1)), .val (.int (Int32.ofNat d2)), .val (.int (Int32.ofNat pad)), .val (.int (-1 : Int32)), .val (.int (Int32.ofNat N)), .val (.ref o1), .unset, .unset, .unset, .unset] rfl ?_
    refine g_iload X1 hx 98 rfl (hb hby at_96) rfl ?_
    refine g_newarr X1 hx hZ 100 rfl (hw _ (List.mem_of_getElem? (i := 0) rfl)) e1 (hb hby at_98) 0 rfl 0 (Nat.le_refl _) (by decide) (by decide) (by decide) "[I" (by decide) ?_
    intro T2 h2 o2 g2 X2 e2 E2 A2 Ex2
    have ne_o1_o2 : o1 ≠ o2 := Nat.ne_of_lt (Nat.lt_of_lt_of_eq Ex1.lt g2.symm)
    have Zl3 : n0 ≤ h1.size := (Nat.le_trans Z0 E1.1)
    have ge_o2 : n0 ≤ o2 := Nat.le_trans Zl3 (Nat.le_of_eq g2.symm)
    have Al2 : Al Z h2 o2 .int [] := A2
    refine g_astore X2 hx 102 rfl (hb hby at_100) rfl #[.val (.int p1), .val (.int p2), .val (.int p3), .val (.int p4), .val (.int (0 : Int32)), .val (.int (Int32.ofNat d0)), .val (.int (Int32.ofNat d1)), .val (.int (Int32.ofNat d2)), .val (.int (Int32.ofNat pad)), .val (.int (-1 : Int32)), .val (.int (Int32.ofNat N)), .val (.ref o1), .val (.ref o2), .unset, .unset, .unset] rfl ?_
    refine g_iload X2 hx 104 rfl (hb hby at_102) rfl ?_
    refine g_ifY X2 hx 121 (hb hby at_104) (XT.i0_le_t (by decide)) (by decide) (by decide) ?_
    refine g_iload X2 hx 123 rfl (hb hby at_121) rfl ?_
    refine g_iconst X2 hx 124 rfl (1 : Int32) rfl (hb hby at_123) ?_
    refine g_icmpY X2 hx 141 (hb hby at_124) (XT.ii_le_t (by decide)) (by decide) (by decide) ?_
    refine g_iload X2 hx 143 rfl (hb hby at_141) rfl ?_
    refine g_iconst X2 hx 144 rfl (2 : Int32) rfl (hb hby at_143) ?_
    refine g_icmpY X2 hx 161 (hb hby at_144) (XT.ii_le_t (by decide)) (by decide) (by decide) ?_
    refine g_new X2 hx hZ 164 rfl hown (hw _ (List.mem_of_getElem? (i := 1) rfl)) (hw _ (List.mem_of_getElem? (i := 2) rfl)) (hw _ (List.mem_of_getElem? (i := 3) rfl)) e2 (hb hby at_161) (by decide) (by decide) ?_
    intro T4 h4 o4 g4 X4 e4 E4 A4 D4
    have Exa5 := (Ex1.ext E2)
    have ne_o1_o4 : o1 ≠ o4 := Nat.ne_of_lt (Nat.lt_of_lt_of_eq Exa5.lt g4.symm)
    have ne_o2_o4 : o2 ≠ o4 := Nat.ne_of_lt (Nat.lt_of_lt_of_eq Ex2.lt g4.symm)
    have Zl6 : n0 ≤ h2.size := (Nat.le_trans Zl3 E2.1)
    have ge_o4 : n0 ≤ o4 := Nat.le_trans Zl6 (Nat.le_of_eq g4.symm)
    refine g_dup X4 hx 165 rfl (hb hby at_164) rfl ?_
    refine g_aload X4 hx 167 rfl (hb hby at_165) rfl rfl ?_
    refine g_aload X4 hx 169 rfl (hb hby at_167) rfl rfl ?_
    refine g_iload X4 hx 171 rfl (hb hby at_169) rfl ?_
    rcases Nat.lt_or_ge 0 N with cN | cN
    · have Al7 := ((Al1.ext E2).ext E4)
      have Al8 := (Al2.ext E4)
      have ltd : o1 < h4.size := Al7.lt
      have Zl10 : n0 ≤ h4.size := (Nat.le_trans Zl6 E4.1)
      refine g_callI X4 hx hZ 174 rfl (y := (⟨"com/example/cranfield/cranfield/index/FieldLengths", "<init>", "([I[II)V"⟩ : MethodName)) rfl hown (hw _ (List.mem_of_getElem? (i := 4) rfl)) (hw _ (List.mem_of_getElem? (i := 5) rfl)) (hw _ (List.mem_of_getElem? (i := 3) rfl)) (hw _ (List.mem_of_getElem? (i := 6) rfl)) (by decide) o4 [.ref o1, .ref o2, .int (Int32.ofNat N)] [.ref o4] (rmS0 l Z a0 hw [] o4 o1 o2 N   _ _ _ h4 n0 Zl10 A4 ge_o4 (D4 (Or.inr (hw _ (List.mem_of_getElem? (i := 11) rfl))) (ty := .int) (by decide)) (D4 (Or.inr (hw _ (List.mem_of_getElem? (i := 18) rfl))) (ty := .array .int) (by decide)) (D4 (Or.inr (hw _ (List.mem_of_getElem? (i := 20) rfl))) (ty := .array .int) (by decide)) Al7 Al8 ne_o1_o4 ne_o2_o4 cN hN100) e4 (lenOf pd_3 rfl) rfl (by rw [hml]; rfl) (hb hby at_171) (by decide) 1 (Nat.le_of_eq rfl) (by decide) (by decide) (by decide) ?_
      rintro _ T9 L9 X9 ⟨rfl, N9q, K9, E9, F9, G9⟩
      have N9 := Fr.app N0 N9q
      show Goes p e below (T9.setTop (mkF m 174 #[.val (.int p1), .val (.int p2), .val (.int p3), .val (.int p4), .val (.int (0 : Int32)), .val (.int (Int32.ofNat d0)), .val (.int (Int32.ofNat d1)), .val (.int (Int32.ofNat d2)), .val (.int (Int32.ofNat pad)), .val (.int (-1 : Int32)), .val (.int (Int32.ofNat N)), .val (.ref o1), .val (.ref o2), .unset, .unset, .unset] [.ref o4])) _
      refine g_astore X9 hx 176 rfl (hb hby at_174) rfl #[.val (.int p1), .val (.int p2), .val (.int p3), .val (.int p4), .val (.int (0 : Int32)), .val (.int (Int32.ofNat d0)), .val (.int (Int32.ofNat d1)), .val (.int (Int32.ofNat d2)), .val (.int (Int32.ofNat pad)), .val (.int (-1 : Int32)), .val (.int (Int32.ofNat N)), .val (.ref o1), .val (.ref o2), .val (.ref o4), .unset, .unset] rfl ?_
      refine g_aload X9 hx 178 rfl (hb hby at_176) rfl rfl ?_
      have Al11 := (Al7.keep K9 (ninS ne_o1_o4 nin0))
      have ltd2 : o1 < T9.heap.size := Al11.lt
      have hfit : ∀ v ∈ ([] : List Value), fits .int v = true := by
        intro v hv
        cases hv
      have Exa12 := ((Exa5.ext E4).keep K9)
      have Zl14 : n0 ≤ T9.heap.size := (Nat.le_trans Zl10 K9.1)
      refine g_callV X9 hx hZ 181 rfl (y := (⟨"com/example/cranfield/cranfield/index/FieldLengths", "documents", "()[I"⟩ : MethodName)) hown (hw _ (List.mem_of_getElem? (i := 21) rfl)) (hw _ (List.mem_of_getElem? (i := 22) rfl)) (hw _ (List.mem_of_getElem? (i := 24) rfl)) (hw _ (List.mem_of_getElem? (i := 23) rfl)) (hw _ (List.mem_of_getElem? (i := 3) rfl)) (hw _ (List.mem_of_getElem? (i := 25) rfl)) (by decide) o4 [] [] (rmK l Z a0 hw [] o4 o1 [] T9.heap n0 Zl14 G9 Al11 Exa12 (show 0 ≤ 3 by decide) hfit) rfl E9 (lenOf pd_4 rfl) rfl (by rw [hml]; rfl) (hb hby at_178) (by decide) 0 (Nat.le_of_eq rfl) (by decide) (by decide) (by decide) ?_
      rintro _ T13 L13 X13 ⟨b13, rfl, N13q, K13, hb13, B13⟩
      have N13 := Fr.app N9 N13q
      show Goes p e below (T13.setTop (mkF m 181 #[.val (.int p1), .val (.int p2), .val (.int p3), .val (.int p4), .val (.int (0 : Int32)), .val (.int (Int32.ofNat d0)), .val (.int (Int32.ofNat d1)), .val (.int (Int32.ofNat d2)), .val (.int (Int32.ofNat pad)), .val (.int (-1 : Int32)), .val (.int (Int32.ofNat N)), .val (.ref o1), .val (.ref o2), .val (.ref o4), .unset, .unset] [.ref b13])) _
      have Alb13 : Al Z T13.heap b13 .int [] := B13
      have nbd : ¬ (Value.ref b13 = Value.ref o1) := fun z => Nat.ne_of_lt (Nat.lt_of_lt_of_le ltd2 hb13) (Value.ref.inj z).symm
      refine g_astore X13 hx 183 rfl (hb hby at_181) rfl #[.val (.int p1), .val (.int p2), .val (.int p3), .val (.int p4), .val (.int (0 : Int32)), .val (.int (Int32.ofNat d0)), .val (.int (Int32.ofNat d1)), .val (.int (Int32.ofNat d2)), .val (.int (Int32.ofNat pad)), .val (.int (-1 : Int32)), .val (.int (Int32.ofNat N)), .val (.ref o1), .val (.ref o2), .val (.ref o4), .val (.ref b13), .unset] rfl ?_
      refine g_aload X13 hx 185 rfl (hb hby at_183) rfl rfl ?_
      refine g_alen X13 hx hZ 186 rfl (hb hby at_185) rfl Alb13 (0 : Int32) rfl ?_
      refine g_iload X13 hx 188 rfl (hb hby at_186) rfl ?_
      refine g_icmpN X13 hx 191 rfl (hb hby at_188) (XT.ii_ne_f rfl) ?_
      refine g_iload X13 hx 193 rfl (hb hby at_191) rfl ?_
      refine g_iconst X13 hx 194 rfl (1 : Int32) rfl (hb hby at_193) ?_
      refine g_icmpY X13 hx 206 (hb hby at_194) (XT.ii_lt_t (by decide)) (by decide) (by decide) ?_
      refine g_iload X13 hx 208 rfl (hb hby at_206) rfl ?_
      refine g_iconst X13 hx 209 rfl (2 : Int32) rfl (hb hby at_208) ?_
      refine g_icmpY X13 hx 221 (hb hby at_209) (XT.ii_lt_t (by decide)) (by decide) (by decide) ?_
      refine g_iload X13 hx 223 rfl (hb hby at_221) rfl ?_
      refine g_iconst X13 hx 224 rfl (3 : Int32) rfl (hb hby at_223) ?_
      refine g_icmpY X13 hx 236 (hb hby at_224) (XT.ii_lt_t (by decide)) (by decide) (by decide) ?_
      refine g_iconst X13 hx 237 rfl (1 : Int32) rfl (hb hby at_236) ?_
      refine g_goto X13 hx 241 (hb hby at_237) (by decide) (by decide) ?_
      refine g_istore X13 hx 243 rfl (hb hby at_241) #[.val (.int p1), .val (.int p2), .val (.int p3), .val (.int p4), .val (.int (0 : Int32)), .val (.int (Int32.ofNat d0)), .val (.int (Int32.ofNat d1)), .val (.int (Int32.ofNat d2)), .val (.int (Int32.ofNat pad)), .val (.int (-1 : Int32)), .val (.int (Int32.ofNat N)), .val (.ref o1), .val (.ref o2), .val (.ref o4), .val (.ref b13), .val (.int (1 : Int32))] rfl ?_
      refine g_iload X13 hx 245 rfl (hb hby at_243) rfl ?_
      refine g_ifN X13 hx 248 rfl (hb hby at_245) (XT.i0_eq_f (by decide)) ?_
      refine g_aload X13 hx 250 rfl (hb hby at_248) rfl rfl ?_
      refine g_aload X13 hx 252 rfl (hb hby at_250) rfl rfl ?_
      refine g_acmpN X13 hx 255 rfl (hb hby at_252) rfl rfl (XT.aa_eq_f nbd) ?_
      refine g_iconst X13 hx 256 rfl (1 : Int32) rfl (hb hby at_255) ?_
      refine g_goto X13 hx 260 (hb hby at_256) (by decide) (by decide) ?_
      exact g_retZ X13 hx hret hlk rfl (hb hby at_260) ⟨rfl, N13⟩ (by decide) (by decide)
    · have Al15 := ((Al1.ext E2).ext E4)
      have Al16 := (Al2.ext E4)
      have ltd : o1 < h4.size := Al15.lt
      have Zl18 : n0 ≤ h4.size := (Nat.le_trans Zl6 E4.1)
      refine g_callI X4 hx hZ 174 rfl (y := (⟨"com/example/cranfield/cranfield/index/FieldLengths", "<init>", "([I[II)V"⟩ : MethodName)) rfl hown (hw _ (List.mem_of_getElem? (i := 4) rfl)) (hw _ (List.mem_of_getElem? (i := 5) rfl)) (hw _ (List.mem_of_getElem? (i := 3) rfl)) (hw _ (List.mem_of_getElem? (i := 6) rfl)) (by decide) o4 [.ref o1, .ref o2, .int (Int32.ofNat N)] [.ref o4] (rmD0 l Z a0 hw [] o4 o1 o2 N   _ _ _ h4 n0 Zl18 A4 ge_o4 (D4 (Or.inr (hw _ (List.mem_of_getElem? (i := 11) rfl))) (ty := .int) (by decide)) (D4 (Or.inr (hw _ (List.mem_of_getElem? (i := 18) rfl))) (ty := .array .int) (by decide)) (D4 (Or.inr (hw _ (List.mem_of_getElem? (i := 20) rfl))) (ty := .array .int) (by decide)) Al15 Al16 ne_o1_o4 ne_o2_o4 (by omega) hN100) e4 (lenOf pd_3 rfl) rfl (by rw [hml]; rfl) (hb hby at_171) (by decide) 1 (Nat.le_of_eq rfl) (by decide) (by decide) (by decide) ?_
      rintro _ T17 L17 X17 ⟨rfl, N17q, K17, E17, F17, G17, t, H17, A17⟩
      have N17 := Fr.app N0 N17q
      show Goes p e below (T17.setTop (mkF m 174 #[.val (.int p1), .val (.int p2), .val (.int p3), .val (.int p4), .val (.int (0 : Int32)), .val (.int (Int32.ofNat d0)), .val (.int (Int32.ofNat d1)), .val (.int (Int32.ofNat d2)), .val (.int (Int32.ofNat pad)), .val (.int (-1 : Int32)), .val (.int (Int32.ofNat N)), .val (.ref o1), .val (.ref o2), .unset, .unset, .unset] [.ref o4])) _
      refine g_astore X17 hx 176 rfl (hb hby at_174) rfl #[.val (.int p1), .val (.int p2), .val (.int p3), .val (.int p4), .val (.int (0 : Int32)), .val (.int (Int32.ofNat d0)), .val (.int (Int32.ofNat d1)), .val (.int (Int32.ofNat d2)), .val (.int (Int32.ofNat pad)), .val (.int (-1 : Int32)), .val (.int (Int32.ofNat N)), .val (.ref o1), .val (.ref o2), .val (.ref o4), .unset, .unset] rfl ?_
      refine g_aload X17 hx 178 rfl (hb hby at_176) rfl rfl ?_
      have Al19 := (Al15.keep K17 (ninS ne_o1_o4 nin0))
      have ltd2 : o1 < T17.heap.size := Al19.lt
      have hres := own_res0 N
      have Zl21 : n0 ≤ T17.heap.size := (Nat.le_trans Zl18 K17.1)
      refine g_callV X17 hx hZ 181 rfl (y := (⟨"com/example/cranfield/cranfield/index/FieldLengths", "documents", "()[I"⟩ : MethodName)) hown (hw _ (List.mem_of_getElem? (i := 21) rfl)) (hw _ (List.mem_of_getElem? (i := 22) rfl)) (hw _ (List.mem_of_getElem? (i := 24) rfl)) (hw _ (List.mem_of_getElem? (i := 23) rfl)) (hw _ (List.mem_of_getElem? (i := 3) rfl)) (hw _ (List.mem_of_getElem? (i := 25) rfl)) (by decide) o4 [] [] (rmN l Z a0 hw [] o4 t 0 N own_g0 T17.heap n0 Zl21 G17 F17 H17 A17 (by decide) hN100 (Nat.le_of_eq hres.2)) rfl E17 (lenOf pd_4 rfl) rfl (by rw [hml]; rfl) (hb hby at_178) (by decide) 0 (Nat.le_of_eq rfl) (by decide) (by decide) (by decide) ?_
      rintro _ T20 L20 X20 ⟨b20, rfl, N20q, K20, hb20, B20⟩
      have N20 := Fr.app N17 N20q
      show Goes p e below (T20.setTop (mkF m 181 #[.val (.int p1), .val (.int p2), .val (.int p3), .val (.int p4), .val (.int (0 : Int32)), .val (.int (Int32.ofNat d0)), .val (.int (Int32.ofNat d1)), .val (.int (Int32.ofNat d2)), .val (.int (Int32.ofNat pad)), .val (.int (-1 : Int32)), .val (.int (Int32.ofNat N)), .val (.ref o1), .val (.ref o2), .val (.ref o4), .unset, .unset] [.ref b20])) _
      rw [hres.1] at B20
      have Alb20 : Al Z T20.heap b20 .int [] := B20
      have nbd : ¬ (Value.ref b20 = Value.ref o1) := fun z => Nat.ne_of_lt (Nat.lt_of_lt_of_le ltd2 hb20) (Value.ref.inj z).symm
      refine g_astore X20 hx 183 rfl (hb hby at_181) rfl #[.val (.int p1), .val (.int p2), .val (.int p3), .val (.int p4), .val (.int (0 : Int32)), .val (.int (Int32.ofNat d0)), .val (.int (Int32.ofNat d1)), .val (.int (Int32.ofNat d2)), .val (.int (Int32.ofNat pad)), .val (.int (-1 : Int32)), .val (.int (Int32.ofNat N)), .val (.ref o1), .val (.ref o2), .val (.ref o4), .val (.ref b20), .unset] rfl ?_
      refine g_aload X20 hx 185 rfl (hb hby at_183) rfl rfl ?_
      refine g_alen X20 hx hZ 186 rfl (hb hby at_185) rfl Alb20 (0 : Int32) rfl ?_
      refine g_iload X20 hx 188 rfl (hb hby at_186) rfl ?_
      refine g_icmpN X20 hx 191 rfl (hb hby at_188) (XT.ii_ne_f rfl) ?_
      refine g_iload X20 hx 193 rfl (hb hby at_191) rfl ?_
      refine g_iconst X20 hx 194 rfl (1 : Int32) rfl (hb hby at_193) ?_
      refine g_icmpY X20 hx 206 (hb hby at_194) (XT.ii_lt_t (by decide)) (by decide) (by decide) ?_
      refine g_iload X20 hx 208 rfl (hb hby at_206) rfl ?_
      refine g_iconst X20 hx 209 rfl (2 : Int32) rfl (hb hby at_208) ?_
      refine g_icmpY X20 hx 221 (hb hby at_209) (XT.ii_lt_t (by decide)) (by decide) (by decide) ?_
      refine g_iload X20 hx 223 rfl (hb hby at_221) rfl ?_
      refine g_iconst X20 hx 224 rfl (3 : Int32) rfl (hb hby at_223) ?_
      refine g_icmpY X20 hx 236 (hb hby at_224) (XT.ii_lt_t (by decide)) (by decide) (by decide) ?_
      refine g_iconst X20 hx 237 rfl (1 : Int32) rfl (hb hby at_236) ?_
      refine g_goto X20 hx 241 (hb hby at_237) (by decide) (by decide) ?_
      refine g_istore X20 hx 243 rfl (hb hby at_241) #[.val (.int p1), .val (.int p2), .val (.int p3), .val (.int p4), .val (.int (0 : Int32)), .val (.int (Int32.ofNat d0)), .val (.int (Int32.ofNat d1)), .val (.int (Int32.ofNat d2)), .val (.int (Int32.ofNat pad)), .val (.int (-1 : Int32)), .val (.int (Int32.ofNat N)), .val (.ref o1), .val (.ref o2), .val (.ref o4), .val (.ref b20), .val (.int (1 : Int32))] rfl ?_
      refine g_iload X20 hx 245 rfl (hb hby at_243) rfl ?_
      refine g_ifN X20 hx 248 rfl (hb hby at_245) (XT.i0_eq_f (by decide)) ?_
      refine g_aload X20 hx 250 rfl (hb hby at_248) rfl rfl ?_
      refine g_aload X20 hx 252 rfl (hb hby at_250) rfl rfl ?_
      refine g_acmpN X20 hx 255 rfl (hb hby at_252) rfl rfl (XT.aa_eq_f nbd) ?_
      refine g_iconst X20 hx 256 rfl (1 : Int32) rfl (hb hby at_255) ?_
      refine g_goto X20 hx 260 (hb hby at_256) (by decide) (by decide) ?_
      exact g_retZ X20 hx hret hlk rfl (hb hby at_260) ⟨rfl, N20⟩ (by decide) (by decide)
  | 1, _ =>
    show Goes p e below (s₁.setTop (mkF m 46 #[.val (.int p1), .val (.int p2), .val (.int p3), .val (.int p4), .val (.int (1 : Int32)), .val (.int (Int32.ofNat d0)), .val (.int (Int32.ofNat d1)), .val (.int (Int32.ofNat d2)), .val (.int (Int32.ofNat pad)), .unset, .unset, .unset, .unset, .unset, .unset, .unset] [])) _
    refine g_iload X0 hx 48 rfl (hb hby at_46) rfl ?_
    refine g_ifY X0 hx 55 (hb hby at_48) (XT.i0_ne_t (by decide)) (by decide) (by decide) ?_
    refine g_iload X0 hx 57 rfl (hb hby at_55) rfl ?_
    refine g_iconst X0 hx 58 rfl (1 : Int32) rfl (hb hby at_57) ?_
    refine g_icmpN X0 hx 61 rfl (hb hby at_58) (XT.ii_ne_f rfl) ?_
    refine g_iload X0 hx 63 rfl (hb hby at_61) rfl ?_
    refine g_goto X0 hx 79 (hb hby at_63) (by decide) (by decide) ?_
    refine g_istore X0 hx 81 rfl (hb hby at_79) #[.val (.int p1), .val (.int p2), .val (.int p3), .val (.int p4), .val (.int (1 : Int32)), .val (.int (Int32.ofNat d0)), .val (.int (Int32.ofNat d1)), .val (.int (Int32.ofNat d2)), .val (.int (Int32.ofNat pad)), .val (.int (Int32.ofNat d0)), .unset, .unset, .unset, .unset, .unset, .unset] rfl ?_
    refine g_iload X0 hx 83 rfl (hb hby at_81) rfl ?_
    refine g_iconst X0 hx 84 rfl (1 : Int32) rfl (hb hby at_83) ?_
    refine g_iadd X0 hx 85 rfl (hb hby at_84) ?_
    refine g_iload X0 hx 87 rfl (hb hby at_85) rfl ?_
    refine g_iadd X0 hx 88 rfl (hb hby at_87) ?_
    refine g_istore X0 hx 90 rfl (hb hby at_88) #[.val (.int p1), .val (.int p2), .val (.int p3), .val (.int p4), .val (.int (1 : Int32)), .val (.int (Int32.ofNat d0)), .val (.int (Int32.ofNat d1)), .val (.int (Int32.ofNat d2)), .val (.int (Int32.ofNat pad)), .val (.int (Int32.ofNat d0)), .val (.int (((Int32.ofNat d0) + (1 : Int32)) + (Int32.ofNat pad))), .unset, .unset, .unset, .unset, .unset] rfl ?_
    obtain ⟨N, hN⟩ : ∃ z : Nat, z = d0 + 1 + pad := ⟨_, rfl⟩
    have hNe : ((Int32.ofNat d0) + (1 : Int32)) + (Int32.ofNat pad) = Int32.ofNat N := by
      rw [hN]; simp only [Int32.ofNat_add]; rfl
    rw [hNe]
    have hN100 : N < 100 := by omega
    refine g_iload X0 hx 92 rfl (hb hby at_90) rfl ?_
    refine g_newarr X0 hx hZ 94 rfl (hw _ (List.mem_of_getElem? (i := 0) rfl)) e0 (hb hby at_92) 1 rfl 1 (Nat.le_refl _) (by decide) (by decide) (by decide) "[I" (by decide) ?_
    intro T22 h22 o22 g22 X22 e22 E22 A22 Ex22
    have ge_o22 : n0 ≤ o22 := Nat.le_trans Z0 (Nat.le_of_eq g22.symm)
    have Al22 : Al Z h22 o22 .int [.int (0 : Int32)] := A22
    refine g_astore X22 hx 96 rfl (hb hby at_94) rfl #[.val (.int p1), .val (.int p2), .val (.int p3), .val (.int p4), .val (.int (1 : Int32)), .val (.int (Int32.ofNat d0)), .val (.int (Int32.ofNat d1)), .val (.int (Int32.ofNat d2)), .val (.int (Int32.ofNat pad)), .val (.int (Int32.ofNat d0)), .val (.int (Int32.ofNat N)), .val (.ref o22), .unset, .unset, .unset, .unset] rfl ?_
    refine g_iload X22 hx 98 rfl (hb hby at_96) rfl ?_
    refine g_newarr X22 hx hZ 100 rfl (hw _ (List.mem_of_getElem? (i := 0) rfl)) e22 (hb hby at_98) 1 rfl 1 (Nat.le_refl _) (by decide) (by decide) (by decide) "[I" (by decide) ?_
    intro T23 h23 o23 g23 X23 e23 E23 A23 Ex23
    have ne_o22_o23 : o22 ≠ o23 := Nat.ne_of_lt (Nat.lt_of_lt_of_eq Ex22.lt g23.symm)
    have Zl24 : n0 ≤ h22.size := (Nat.le_trans Z0 E22.1)
    have ge_o23 : n0 ≤ o23 := Nat.le_trans Zl24 (Nat.le_of_eq g23.symm)
    have Al23 : Al Z h23 o23 .int [.int (0 : Int32)] := A23
    refine g_astore X23 hx 102 rfl (hb hby at_100) rfl #[.val (.int p1), .val (.int p2), .val (.int p3), .val (.int p4), .val (.int (1 : Int32)), .val (.int (Int32.ofNat d0)), .val (.int (Int32.ofNat d1)), .val (.int (Int32.ofNat d2)), .val (.int (Int32.ofNat pad)), .val (.int (Int32.ofNat d0)), .val (.int (Int32.ofNat N)), .val (.ref o22), .val (.ref o23), .unset, .unset, .unset] rfl ?_
    refine g_iload X23 hx 104 rfl (hb hby at_102) rfl ?_
    refine g_ifN X23 hx 107 rfl (hb hby at_104) (XT.i0_le_f (by decide)) ?_
    refine g_aload X23 hx 109 rfl (hb hby at_107) rfl rfl ?_
    refine g_iconst X23 hx 110 rfl (0 : Int32) rfl (hb hby at_109) ?_
    refine g_iload X23 hx 112 rfl (hb hby at_110) rfl ?_
    have Al25 := (Al22.ext E23)
    refine g_iastore X23 hx hZ 113 rfl (hb hby at_112) e23 Al25 0 rfl (show 0 < 1 by decide) ?_
    intro T26 h26 X26 e26 W26 B26
    have N26 := Fr.snoc X26 N0 ge_o22
    have Al26 : Al Z h26 o22 .int [.int (Int32.ofNat d0)] := B26
    refine g_aload X26 hx 115 rfl (hb hby at_113) rfl rfl ?_
    refine g_iconst X26 hx 116 rfl (0 : Int32) rfl (hb hby at_115) ?_
    refine g_iload_n X26 hx 117 rfl (hb hby at_116) rfl ?_
    refine g_ldcI X26 hx 119 rfl hown hZ (hw _ (List.mem_of_getElem? (i := 26) rfl)) (hb hby at_117) ?_
    refine g_iand X26 hx 120 rfl (hb hby at_119) ?_
    have Al27 := (Al23.other W26 (Ne.symm ne_o22_o23))
    refine g_iastore X26 hx hZ 121 rfl (hb hby at_120) e26 Al27 0 rfl (show 0 < 1 by decide) ?_
    intro T28 h28 X28 e28 W28 B28
    have N28 := Fr.snoc X28 N26 ge_o23
    have Al28 : Al Z h28 o23 .int [.int (p2 &&& (2147483647 : Int32))] := B28
    refine g_iload X28 hx 123 rfl (hb hby at_121) rfl ?_
    refine g_iconst X28 hx 124 rfl (1 : Int32) rfl (hb hby at_123) ?_
    refine g_icmpY X28 hx 141 (hb hby at_124) (XT.ii_le_t (by decide)) (by decide) (by decide) ?_
    refine g_iload X28 hx 143 rfl (hb hby at_141) rfl ?_
    refine g_iconst X28 hx 144 rfl (2 : Int32) rfl (hb hby at_143) ?_
    refine g_icmpY X28 hx 161 (hb hby at_144) (XT.ii_le_t (by decide)) (by decide) (by decide) ?_
    refine g_new X28 hx hZ 164 rfl hown (hw _ (List.mem_of_getElem? (i := 1) rfl)) (hw _ (List.mem_of_getElem? (i := 2) rfl)) (hw _ (List.mem_of_getElem? (i := 3) rfl)) e28 (hb hby at_161) (by decide) (by decide) ?_
    intro T29 h29 o29 g29 X29 e29 E29 A29 D29
    have Exa30 := (((Ex22.ext E23).wr W26).wr W28)
    have ne_o22_o29 : o22 ≠ o29 := Nat.ne_of_lt (Nat.lt_of_lt_of_eq Exa30.lt g29.symm)
    have Exa31 := ((Ex23.wr W26).wr W28)
    have ne_o23_o29 : o23 ≠ o29 := Nat.ne_of_lt (Nat.lt_of_lt_of_eq Exa31.lt g29.symm)
    have Zl32 : n0 ≤ h28.size := (Nat.le_trans (Nat.le_trans (Nat.le_trans Zl24 E23.1) (Nat.le_of_eq W26.size.symm)) (Nat.le_of_eq W28.size.symm))
    have ge_o29 : n0 ≤ o29 := Nat.le_trans Zl32 (Nat.le_of_eq g29.symm)
    refine g_dup X29 hx 165 rfl (hb hby at_164) rfl ?_
    refine g_aload X29 hx 167 rfl (hb hby at_165) rfl rfl ?_
    refine g_aload X29 hx 169 rfl (hb hby at_167) rfl rfl ?_
    refine g_iload X29 hx 171 rfl (hb hby at_169) rfl ?_
    rcases Nat.lt_or_ge 2 N with cN | cN
    · have Al33 := ((Al26.other W28 ne_o22_o23).ext E29)
      have Al34 := (Al28.ext E29)
      have ltd : o22 < h29.size := Al33.lt
      have Zl36 : n0 ≤ h29.size := (Nat.le_trans Zl32 E29.1)
      refine g_callI X29 hx hZ 174 rfl (y := (⟨"com/example/cranfield/cranfield/index/FieldLengths", "<init>", "([I[II)V"⟩ : MethodName)) rfl hown (hw _ (List.mem_of_getElem? (i := 4) rfl)) (hw _ (List.mem_of_getElem? (i := 5) rfl)) (hw _ (List.mem_of_getElem? (i := 3) rfl)) (hw _ (List.mem_of_getElem? (i := 6) rfl)) (by decide) o29 [.ref o22, .ref o23, .int (Int32.ofNat N)] [.ref o29] (rmS1 l Z a0 hw [] o29 o22 o23 N d0 (p2 &&& (2147483647 : Int32)) _ _ _ h29 n0 Zl36 A29 ge_o29 (D29 (Or.inr (hw _ (List.mem_of_getElem? (i := 11) rfl))) (ty := .int) (by decide)) (D29 (Or.inr (hw _ (List.mem_of_getElem? (i := 18) rfl))) (ty := .array .int) (by decide)) (D29 (Or.inr (hw _ (List.mem_of_getElem? (i := 20) rfl))) (ty := .array .int) (by decide)) Al33 Al34 ne_o22_o29 ne_o23_o29 cN hN100) e29 (lenOf pd_3 rfl) rfl (by rw [hml]; rfl) (hb hby at_171) (by decide) 1 (Nat.le_of_eq rfl) (by decide) (by decide) (by decide) ?_
      rintro _ T35 L35 X35 ⟨rfl, N35q, K35, E35, F35, G35⟩
      have N35 := Fr.app N28 N35q
      show Goes p e below (T35.setTop (mkF m 174 #[.val (.int p1), .val (.int p2), .val (.int p3), .val (.int p4), .val (.int (1 : Int32)), .val (.int (Int32.ofNat d0)), .val (.int (Int32.ofNat d1)), .val (.int (Int32.ofNat d2)), .val (.int (Int32.ofNat pad)), .val (.int (Int32.ofNat d0)), .val (.int (Int32.ofNat N)), .val (.ref o22), .val (.ref o23), .unset, .unset, .unset] [.ref o29])) _
      refine g_astore X35 hx 176 rfl (hb hby at_174) rfl #[.val (.int p1), .val (.int p2), .val (.int p3), .val (.int p4), .val (.int (1 : Int32)), .val (.int (Int32.ofNat d0)), .val (.int (Int32.ofNat d1)), .val (.int (Int32.ofNat d2)), .val (.int (Int32.ofNat pad)), .val (.int (Int32.ofNat d0)), .val (.int (Int32.ofNat N)), .val (.ref o22), .val (.ref o23), .val (.ref o29), .unset, .unset] rfl ?_
      refine g_aload X35 hx 178 rfl (hb hby at_176) rfl rfl ?_
      have Al37 := (Al33.keep K35 (ninS ne_o22_o29 nin0))
      have ltd2 : o22 < T35.heap.size := Al37.lt
      have hfit : ∀ v ∈ ([.int (Int32.ofNat d0)] : List Value), fits .int v = true := by
        intro v hv
        simp only [List.mem_cons, List.not_mem_nil, or_false] at hv
        rcases hv with rfl <;> rfl
      have Exa38 := ((Exa30.ext E29).keep K35)
      have Zl40 : n0 ≤ T35.heap.size := (Nat.le_trans Zl36 K35.1)
      refine g_callV X35 hx hZ 181 rfl (y := (⟨"com/example/cranfield/cranfield/index/FieldLengths", "documents", "()[I"⟩ : MethodName)) hown (hw _ (List.mem_of_getElem? (i := 21) rfl)) (hw _ (List.mem_of_getElem? (i := 22) rfl)) (hw _ (List.mem_of_getElem? (i := 24) rfl)) (hw _ (List.mem_of_getElem? (i := 23) rfl)) (hw _ (List.mem_of_getElem? (i := 3) rfl)) (hw _ (List.mem_of_getElem? (i := 25) rfl)) (by decide) o29 [] [] (rmK l Z a0 hw [] o29 o22 [.int (Int32.ofNat d0)] T35.heap n0 Zl40 G35 Al37 Exa38 (show 1 ≤ 3 by decide) hfit) rfl E35 (lenOf pd_4 rfl) rfl (by rw [hml]; rfl) (hb hby at_178) (by decide) 0 (Nat.le_of_eq rfl) (by decide) (by decide) (by decide) ?_
      rintro _ T39 L39 X39 ⟨b39, rfl, N39q, K39, hb39, B39⟩
      have N39 := Fr.app N35 N39q
      show Goes p e below (T39.setTop (mkF m 181 #[.val (.int p1), .val (.int p2), .val (.int p3), .val (.int p4), .val (.int (1 : Int32)), .val (.int (Int32.ofNat d0)), .val (.int (Int32.ofNat d1)), .val (.int (Int32.ofNat d2)), .val (.int (Int32.ofNat pad)), .val (.int (Int32.ofNat d0)), .val (.int (Int32.ofNat N)), .val (.ref o22), .val (.ref o23), .val (.ref o29), .unset, .unset] [.ref b39])) _
      have Alb39 : Al Z T39.heap b39 .int [.int (Int32.ofNat d0)] := B39
      have nbd : ¬ (Value.ref b39 = Value.ref o22) := fun z => Nat.ne_of_lt (Nat.lt_of_lt_of_le ltd2 hb39) (Value.ref.inj z).symm
      refine g_astore X39 hx 183 rfl (hb hby at_181) rfl #[.val (.int p1), .val (.int p2), .val (.int p3), .val (.int p4), .val (.int (1 : Int32)), .val (.int (Int32.ofNat d0)), .val (.int (Int32.ofNat d1)), .val (.int (Int32.ofNat d2)), .val (.int (Int32.ofNat pad)), .val (.int (Int32.ofNat d0)), .val (.int (Int32.ofNat N)), .val (.ref o22), .val (.ref o23), .val (.ref o29), .val (.ref b39), .unset] rfl ?_
      refine g_aload X39 hx 185 rfl (hb hby at_183) rfl rfl ?_
      refine g_alen X39 hx hZ 186 rfl (hb hby at_185) rfl Alb39 (1 : Int32) rfl ?_
      refine g_iload X39 hx 188 rfl (hb hby at_186) rfl ?_
      refine g_icmpN X39 hx 191 rfl (hb hby at_188) (XT.ii_ne_f rfl) ?_
      refine g_iload X39 hx 193 rfl (hb hby at_191) rfl ?_
      refine g_iconst X39 hx 194 rfl (1 : Int32) rfl (hb hby at_193) ?_
      refine g_icmpN X39 hx 197 rfl (hb hby at_194) (XT.ii_lt_f (by decide)) ?_
      refine g_aload X39 hx 199 rfl (hb hby at_197) rfl rfl ?_
      refine g_iconst X39 hx 200 rfl (0 : Int32) rfl (hb hby at_199) ?_
      refine g_iaload X39 hx hZ 201 rfl (hb hby at_200) rfl Alb39 0 rfl (.int (Int32.ofNat d0)) rfl ?_
      refine g_iload X39 hx 203 rfl (hb hby at_201) rfl ?_
      refine g_icmpN X39 hx 206 rfl (hb hby at_203) (XT.ii_ne_f rfl) ?_
      refine g_iload X39 hx 208 rfl (hb hby at_206) rfl ?_
      refine g_iconst X39 hx 209 rfl (2 : Int32) rfl (hb hby at_208) ?_
      refine g_icmpY X39 hx 221 (hb hby at_209) (XT.ii_lt_t (by decide)) (by decide) (by decide) ?_
      refine g_iload X39 hx 223 rfl (hb hby at_221) rfl ?_
      refine g_iconst X39 hx 224 rfl (3 : Int32) rfl (hb hby at_223) ?_
      refine g_icmpY X39 hx 236 (hb hby at_224) (XT.ii_lt_t (by decide)) (by decide) (by decide) ?_
      refine g_iconst X39 hx 237 rfl (1 : Int32) rfl (hb hby at_236) ?_
      refine g_goto X39 hx 241 (hb hby at_237) (by decide) (by decide) ?_
      refine g_istore X39 hx 243 rfl (hb hby at_241) #[.val (.int p1), .val (.int p2), .val (.int p3), .val (.int p4), .val (.int (1 : Int32)), .val (.int (Int32.ofNat d0)), .val (.int (Int32.ofNat d1)), .val (.int (Int32.ofNat d2)), .val (.int (Int32.ofNat pad)), .val (.int (Int32.ofNat d0)), .val (.int (Int32.ofNat N)), .val (.ref o22), .val (.ref o23), .val (.ref o29), .val (.ref b39), .val (.int (1 : Int32))] rfl ?_
      refine g_iload X39 hx 245 rfl (hb hby at_243) rfl ?_
      refine g_ifN X39 hx 248 rfl (hb hby at_245) (XT.i0_eq_f (by decide)) ?_
      refine g_aload X39 hx 250 rfl (hb hby at_248) rfl rfl ?_
      refine g_aload X39 hx 252 rfl (hb hby at_250) rfl rfl ?_
      refine g_acmpN X39 hx 255 rfl (hb hby at_252) rfl rfl (XT.aa_eq_f nbd) ?_
      refine g_iconst X39 hx 256 rfl (1 : Int32) rfl (hb hby at_255) ?_
      refine g_goto X39 hx 260 (hb hby at_256) (by decide) (by decide) ?_
      exact g_retZ X39 hx hret hlk rfl (hb hby at_260) ⟨rfl, N39⟩ (by decide) (by decide)
    · have Al41 := ((Al26.other W28 ne_o22_o23).ext E29)
      have Al42 := (Al28.ext E29)
      have ltd : o22 < h29.size := Al41.lt
      have Zl44 : n0 ≤ h29.size := (Nat.le_trans Zl32 E29.1)
      refine g_callI X29 hx hZ 174 rfl (y := (⟨"com/example/cranfield/cranfield/index/FieldLengths", "<init>", "([I[II)V"⟩ : MethodName)) rfl hown (hw _ (List.mem_of_getElem? (i := 4) rfl)) (hw _ (List.mem_of_getElem? (i := 5) rfl)) (hw _ (List.mem_of_getElem? (i := 3) rfl)) (hw _ (List.mem_of_getElem? (i := 6) rfl)) (by decide) o29 [.ref o22, .ref o23, .int (Int32.ofNat N)] [.ref o29] (rmD1 l Z a0 hw [] o29 o22 o23 N d0 (p2 &&& (2147483647 : Int32)) _ _ _ h29 n0 Zl44 A29 ge_o29 (D29 (Or.inr (hw _ (List.mem_of_getElem? (i := 11) rfl))) (ty := .int) (by decide)) (D29 (Or.inr (hw _ (List.mem_of_getElem? (i := 18) rfl))) (ty := .array .int) (by decide)) (D29 (Or.inr (hw _ (List.mem_of_getElem? (i := 20) rfl))) (ty := .array .int) (by decide)) Al41 Al42 ne_o22_o29 ne_o23_o29 (by omega) hN100 (by omega)) e29 (lenOf pd_3 rfl) rfl (by rw [hml]; rfl) (hb hby at_171) (by decide) 1 (Nat.le_of_eq rfl) (by decide) (by decide) (by decide) ?_
      rintro _ T43 L43 X43 ⟨rfl, N43q, K43, E43, F43, G43, t, H43, A43⟩
      have N43 := Fr.app N28 N43q
      show Goes p e below (T43.setTop (mkF m 174 #[.val (.int p1), .val (.int p2), .val (.int p3), .val (.int p4), .val (.int (1 : Int32)), .val (.int (Int32.ofNat d0)), .val (.int (Int32.ofNat d1)), .val (.int (Int32.ofNat d2)), .val (.int (Int32.ofNat pad)), .val (.int (Int32.ofNat d0)), .val (.int (Int32.ofNat N)), .val (.ref o22), .val (.ref o23), .unset, .unset, .unset] [.ref o29])) _
      refine g_astore X43 hx 176 rfl (hb hby at_174) rfl #[.val (.int p1), .val (.int p2), .val (.int p3), .val (.int p4), .val (.int (1 : Int32)), .val (.int (Int32.ofNat d0)), .val (.int (Int32.ofNat d1)), .val (.int (Int32.ofNat d2)), .val (.int (Int32.ofNat pad)), .val (.int (Int32.ofNat d0)), .val (.int (Int32.ofNat N)), .val (.ref o22), .val (.ref o23), .val (.ref o29), .unset, .unset] rfl ?_
      refine g_aload X43 hx 178 rfl (hb hby at_176) rfl rfl ?_
      have Al45 := (Al41.keep K43 (ninS ne_o22_o29 nin0))
      have ltd2 : o22 < T43.heap.size := Al45.lt
      have hres := own_res1 d0 N (p2 &&& (2147483647 : Int32)) (by omega) (own_ge0 _)
      have Zl47 : n0 ≤ T43.heap.size := (Nat.le_trans Zl44 K43.1)
      refine g_callV X43 hx hZ 181 rfl (y := (⟨"com/example/cranfield/cranfield/index/FieldLengths", "documents", "()[I"⟩ : MethodName)) hown (hw _ (List.mem_of_getElem? (i := 21) rfl)) (hw _ (List.mem_of_getElem? (i := 22) rfl)) (hw _ (List.mem_of_getElem? (i := 24) rfl)) (hw _ (List.mem_of_getElem? (i := 23) rfl)) (hw _ (List.mem_of_getElem? (i := 3) rfl)) (hw _ (List.mem_of_getElem? (i := 25) rfl)) (by decide) o29 [] [] (rmN l Z a0 hw [] o29 t 1 N (own_g1 d0 (p2 &&& (2147483647 : Int32))) T43.heap n0 Zl47 G43 F43 H43 A43 (by decide) hN100 (Nat.le_of_eq hres.2)) rfl E43 (lenOf pd_4 rfl) rfl (by rw [hml]; rfl) (hb hby at_178) (by decide) 0 (Nat.le_of_eq rfl) (by decide) (by decide) (by decide) ?_
      rintro _ T46 L46 X46 ⟨b46, rfl, N46q, K46, hb46, B46⟩
      have N46 := Fr.app N43 N46q
      show Goes p e below (T46.setTop (mkF m 181 #[.val (.int p1), .val (.int p2), .val (.int p3), .val (.int p4), .val (.int (1 : Int32)), .val (.int (Int32.ofNat d0)), .val (.int (Int32.ofNat d1)), .val (.int (Int32.ofNat d2)), .val (.int (Int32.ofNat pad)), .val (.int (Int32.ofNat d0)), .val (.int (Int32.ofNat N)), .val (.ref o22), .val (.ref o23), .val (.ref o29), .unset, .unset] [.ref b46])) _
      rw [hres.1] at B46
      have Alb46 : Al Z T46.heap b46 .int [.int (Int32.ofNat d0)] := B46
      have nbd : ¬ (Value.ref b46 = Value.ref o22) := fun z => Nat.ne_of_lt (Nat.lt_of_lt_of_le ltd2 hb46) (Value.ref.inj z).symm
      refine g_astore X46 hx 183 rfl (hb hby at_181) rfl #[.val (.int p1), .val (.int p2), .val (.int p3), .val (.int p4), .val (.int (1 : Int32)), .val (.int (Int32.ofNat d0)), .val (.int (Int32.ofNat d1)), .val (.int (Int32.ofNat d2)), .val (.int (Int32.ofNat pad)), .val (.int (Int32.ofNat d0)), .val (.int (Int32.ofNat N)), .val (.ref o22), .val (.ref o23), .val (.ref o29), .val (.ref b46), .unset] rfl ?_
      refine g_aload X46 hx 185 rfl (hb hby at_183) rfl rfl ?_
      refine g_alen X46 hx hZ 186 rfl (hb hby at_185) rfl Alb46 (1 : Int32) rfl ?_
      refine g_iload X46 hx 188 rfl (hb hby at_186) rfl ?_
      refine g_icmpN X46 hx 191 rfl (hb hby at_188) (XT.ii_ne_f rfl) ?_
      refine g_iload X46 hx 193 rfl (hb hby at_191) rfl ?_
      refine g_iconst X46 hx 194 rfl (1 : Int32) rfl (hb hby at_193) ?_
      refine g_icmpN X46 hx 197 rfl (hb hby at_194) (XT.ii_lt_f (by decide)) ?_
      refine g_aload X46 hx 199 rfl (hb hby at_197) rfl rfl ?_
      refine g_iconst X46 hx 200 rfl (0 : Int32) rfl (hb hby at_199) ?_
      refine g_iaload X46 hx hZ 201 rfl (hb hby at_200) rfl Alb46 0 rfl (.int (Int32.ofNat d0)) rfl ?_
      refine g_iload X46 hx 203 rfl (hb hby at_201) rfl ?_
      refine g_icmpN X46 hx 206 rfl (hb hby at_203) (XT.ii_ne_f rfl) ?_
      refine g_iload X46 hx 208 rfl (hb hby at_206) rfl ?_
      refine g_iconst X46 hx 209 rfl (2 : Int32) rfl (hb hby at_208) ?_
      refine g_icmpY X46 hx 221 (hb hby at_209) (XT.ii_lt_t (by decide)) (by decide) (by decide) ?_
      refine g_iload X46 hx 223 rfl (hb hby at_221) rfl ?_
      refine g_iconst X46 hx 224 rfl (3 : Int32) rfl (hb hby at_223) ?_
      refine g_icmpY X46 hx 236 (hb hby at_224) (XT.ii_lt_t (by decide)) (by decide) (by decide) ?_
      refine g_iconst X46 hx 237 rfl (1 : Int32) rfl (hb hby at_236) ?_
      refine g_goto X46 hx 241 (hb hby at_237) (by decide) (by decide) ?_
      refine g_istore X46 hx 243 rfl (hb hby at_241) #[.val (.int p1), .val (.int p2), .val (.int p3), .val (.int p4), .val (.int (1 : Int32)), .val (.int (Int32.ofNat d0)), .val (.int (Int32.ofNat d1)), .val (.int (Int32.ofNat d2)), .val (.int (Int32.ofNat pad)), .val (.int (Int32.ofNat d0)), .val (.int (Int32.ofNat N)), .val (.ref o22), .val (.ref o23), .val (.ref o29), .val (.ref b46), .val (.int (1 : Int32))] rfl ?_
      refine g_iload X46 hx 245 rfl (hb hby at_243) rfl ?_
      refine g_ifN X46 hx 248 rfl (hb hby at_245) (XT.i0_eq_f (by decide)) ?_
      refine g_aload X46 hx 250 rfl (hb hby at_248) rfl rfl ?_
      refine g_aload X46 hx 252 rfl (hb hby at_250) rfl rfl ?_
      refine g_acmpN X46 hx 255 rfl (hb hby at_252) rfl rfl (XT.aa_eq_f nbd) ?_
      refine g_iconst X46 hx 256 rfl (1 : Int32) rfl (hb hby at_255) ?_
      refine g_goto X46 hx 260 (hb hby at_256) (by decide) (by decide) ?_
      exact g_retZ X46 hx hret hlk rfl (hb hby at_260) ⟨rfl, N46⟩ (by decide) (by decide)
  | 2, _ =>
    show Goes p e below (s₁.setTop (mkF m 46 #[.val (.int p1), .val (.int p2), .val (.int p3), .val (.int p4), .val (.int (2 : Int32)), .val (.int (Int32.ofNat d0)), .val (.int (Int32.ofNat d1)), .val (.int (Int32.ofNat d2)), .val (.int (Int32.ofNat pad)), .unset, .unset, .unset, .unset, .unset, .unset, .unset] [])) _
    refine g_iload X0 hx 48 rfl (hb hby at_46) rfl ?_
    refine g_ifY X0 hx 55 (hb hby at_48) (XT.i0_ne_t (by decide)) (by decide) (by decide) ?_
    refine g_iload X0 hx 57 rfl (hb hby at_55) rfl ?_
    refine g_iconst X0 hx 58 rfl (1 : Int32) rfl (hb hby at_57) ?_
    refine g_icmpY X0 hx 66 (hb hby at_58) (XT.ii_ne_t (by decide)) (by decide) (by decide) ?_
    refine g_iload X0 hx 68 rfl (hb hby at_66) rfl ?_
    refine g_iconst X0 hx 69 rfl (2 : Int32) rfl (hb hby at_68) ?_
    refine g_icmpN X0 hx 72 rfl (hb hby at_69) (XT.ii_ne_f rfl) ?_
    refine g_iload X0 hx 74 rfl (hb hby at_72) rfl ?_
    refine g_goto X0 hx 79 (hb hby at_74) (by decide) (by decide) ?_
    refine g_istore X0 hx 81 rfl (hb hby at_79) #[.val (.int p1), .val (.int p2), .val (.int p3), .val (.int p4), .val (.int (2 : Int32)), .val (.int (Int32.ofNat d0)), .val (.int (Int32.ofNat d1)), .val (.int (Int32.ofNat d2)), .val (.int (Int32.ofNat pad)), .val (.int (Int32.ofNat d1)), .unset, .unset, .unset, .unset, .unset, .unset] rfl ?_
    refine g_iload X0 hx 83 rfl (hb hby at_81) rfl ?_
    refine g_iconst X0 hx 84 rfl (1 : Int32) rfl (hb hby at_83) ?_
    refine g_iadd X0 hx 85 rfl (hb hby at_84) ?_
    refine g_iload X0 hx 87 rfl (hb hby at_85) rfl ?_
    refine g_iadd X0 hx 88 rfl (hb hby at_87) ?_
    refine g_istore X0 hx 90 rfl (hb hby at_88) #[.val (.int p1), .val (.int p2), .val (.int p3), .val (.int p4), .val (.int (2 : Int32)), .val (.int (Int32.ofNat d0)), .val (.int (Int32.ofNat d1)), .val (.int (Int32.ofNat d2)), .val (.int (Int32.ofNat pad)), .val (.int (Int32.ofNat d1)), .val (.int (((Int32.ofNat d1) + (1 : Int32)) + (Int32.ofNat pad))), .unset, .unset, .unset, .unset, .unset] rfl ?_
    obtain ⟨N, hN⟩ : ∃ z : Nat, z = d1 + 1 + pad := ⟨_, rfl⟩
    have hNe : ((Int32.ofNat d1) + (1 : Int32)) + (Int32.ofNat pad) = Int32.ofNat N := by
      rw [hN]; simp only [Int32.ofNat_add]; rfl
    rw [hNe]
    have hN100 : N < 100 := by omega
    refine g_iload X0 hx 92 rfl (hb hby at_90) rfl ?_
    refine g_newarr X0 hx hZ 94 rfl (hw _ (List.mem_of_getElem? (i := 0) rfl)) e0 (hb hby at_92) 2 rfl 2 (Nat.le_refl _) (by decide) (by decide) (by decide) "[I" (by decide) ?_
    intro T48 h48 o48 g48 X48 e48 E48 A48 Ex48
    have ge_o48 : n0 ≤ o48 := Nat.le_trans Z0 (Nat.le_of_eq g48.symm)
    have Al48 : Al Z h48 o48 .int [.int (0 : Int32), .int (0 : Int32)] := A48
    refine g_astore X48 hx 96 rfl (hb hby at_94) rfl #[.val (.int p1), .val (.int p2), .val (.int p3), .val (.int p4), .val (.int (2 : Int32)), .val (.int (Int32.ofNat d0)), .val (.int (Int32.ofNat d1)), .val (.int (Int32.ofNat d2)), .val (.int (Int32.ofNat pad)), .val (.int (Int32.ofNat d1)), .val (.int (Int32.ofNat N)), .val (.ref o48), .unset, .unset, .unset, .unset] rfl ?_
    refine g_iload X48 hx 98 rfl (hb hby at_96) rfl ?_
    refine g_newarr X48 hx hZ 100 rfl (hw _ (List.mem_of_getElem? (i := 0) rfl)) e48 (hb hby at_98) 2 rfl 2 (Nat.le_refl _) (by decide) (by decide) (by decide) "[I" (by decide) ?_
    intro T49 h49 o49 g49 X49 e49 E49 A49 Ex49
    have ne_o48_o49 : o48 ≠ o49 := Nat.ne_of_lt (Nat.lt_of_lt_of_eq Ex48.lt g49.symm)
    have Zl50 : n0 ≤ h48.size := (Nat.le_trans Z0 E48.1)
    have ge_o49 : n0 ≤ o49 := Nat.le_trans Zl50 (Nat.le_of_eq g49.symm)
    have Al49 : Al Z h49 o49 .int [.int (0 : Int32), .int (0 : Int32)] := A49
    refine g_astore X49 hx 102 rfl (hb hby at_100) rfl #[.val (.int p1), .val (.int p2), .val (.int p3), .val (.int p4), .val (.int (2 : Int32)), .val (.int (Int32.ofNat d0)), .val (.int (Int32.ofNat d1)), .val (.int (Int32.ofNat d2)), .val (.int (Int32.ofNat pad)), .val (.int (Int32.ofNat d1)), .val (.int (Int32.ofNat N)), .val (.ref o48), .val (.ref o49), .unset, .unset, .unset] rfl ?_
    refine g_iload X49 hx 104 rfl (hb hby at_102) rfl ?_
    refine g_ifN X49 hx 107 rfl (hb hby at_104) (XT.i0_le_f (by decide)) ?_
    refine g_aload X49 hx 109 rfl (hb hby at_107) rfl rfl ?_
    refine g_iconst X49 hx 110 rfl (0 : Int32) rfl (hb hby at_109) ?_
    refine g_iload X49 hx 112 rfl (hb hby at_110) rfl ?_
    have Al51 := (Al48.ext E49)
    refine g_iastore X49 hx hZ 113 rfl (hb hby at_112) e49 Al51 0 rfl (show 0 < 2 by decide) ?_
    intro T52 h52 X52 e52 W52 B52
    have N52 := Fr.snoc X52 N0 ge_o48
    have Al52 : Al Z h52 o48 .int [.int (Int32.ofNat d0), .int (0 : Int32)] := B52
    refine g_aload X52 hx 115 rfl (hb hby at_113) rfl rfl ?_
    refine g_iconst X52 hx 116 rfl (0 : Int32) rfl (hb hby at_115) ?_
    refine g_iload_n X52 hx 117 rfl (hb hby at_116) rfl ?_
    refine g_ldcI X52 hx 119 rfl hown hZ (hw _ (List.mem_of_getElem? (i := 26) rfl)) (hb hby at_117) ?_
    refine g_iand X52 hx 120 rfl (hb hby at_119) ?_
    have Al53 := (Al49.other W52 (Ne.symm ne_o48_o49))
    refine g_iastore X52 hx hZ 121 rfl (hb hby at_120) e52 Al53 0 rfl (show 0 < 2 by decide) ?_
    intro T54 h54 X54 e54 W54 B54
    have N54 := Fr.snoc X54 N52 ge_o49
    have Al54 : Al Z h54 o49 .int [.int (p2 &&& (2147483647 : Int32)), .int (0 : Int32)] := B54
    refine g_iload X54 hx 123 rfl (hb hby at_121) rfl ?_
    refine g_iconst X54 hx 124 rfl (1 : Int32) rfl (hb hby at_123) ?_
    refine g_icmpN X54 hx 127 rfl (hb hby at_124) (XT.ii_le_f (by decide)) ?_
    refine g_aload X54 hx 129 rfl (hb hby at_127) rfl rfl ?_
    refine g_iconst X54 hx 130 rfl (1 : Int32) rfl (hb hby at_129) ?_
    refine g_iload X54 hx 132 rfl (hb hby at_130) rfl ?_
    have Al55 := (Al52.other W54 ne_o48_o49)
    refine g_iastore X54 hx hZ 133 rfl (hb hby at_132) e54 Al55 1 rfl (show 1 < 2 by decide) ?_
    intro T56 h56 X56 e56 W56 B56
    have N56 := Fr.snoc X56 N54 ge_o48
    have Al56 : Al Z h56 o48 .int [.int (Int32.ofNat d0), .int (Int32.ofNat d1)] := B56
    refine g_aload X56 hx 135 rfl (hb hby at_133) rfl rfl ?_
    refine g_iconst X56 hx 136 rfl (1 : Int32) rfl (hb hby at_135) ?_
    refine g_iload_n X56 hx 137 rfl (hb hby at_136) rfl ?_
    refine g_ldcI X56 hx 139 rfl hown hZ (hw _ (List.mem_of_getElem? (i := 26) rfl)) (hb hby at_137) ?_
    refine g_iand X56 hx 140 rfl (hb hby at_139) ?_
    have Al57 := (Al54.other W56 (Ne.symm ne_o48_o49))
    refine g_iastore X56 hx hZ 141 rfl (hb hby at_140) e56 Al57 1 rfl (show 1 < 2 by decide) ?_
    intro T58 h58 X58 e58 W58 B58
    have N58 := Fr.snoc X58 N56 ge_o49
    have Al58 : Al Z h58 o49 .int [.int (p2 &&& (2147483647 : Int32)), .int (p3 &&& (2147483647 : Int32))] := B58
    refine g_iload X58 hx 143 rfl (hb hby at_141) rfl ?_
    refine g_iconst X58 hx 144 rfl (2 : Int32) rfl (hb hby at_143) ?_
    refine g_icmpY X58 hx 161 (hb hby at_144) (XT.ii_le_t (by decide)) (by decide) (by decide) ?_
    refine g_new X58 hx hZ 164 rfl hown (hw _ (List.mem_of_getElem? (i := 1) rfl)) (hw _ (List.mem_of_getElem? (i := 2) rfl)) (hw _ (List.mem_of_getElem? (i := 3) rfl)) e58 (hb hby at_161) (by decide) (by decide) ?_
    intro T59 h59 o59 g59 X59 e59 E59 A59 D59
    have Exa60 := (((((Ex48.ext E49).wr W52).wr W54).wr W56).wr W58)
    have ne_o48_o59 : o48 ≠ o59 := Nat.ne_of_lt (Nat.lt_of_lt_of_eq Exa60.lt g59.symm)
    have Exa61 := ((((Ex49.wr W52).wr W54).wr W56).wr W58)
    have ne_o49_o59 : o49 ≠ o59 := Nat.ne_of_lt (Nat.lt_of_lt_of_eq Exa61.lt g59.symm)
    have Zl62 : n0 ≤ h58.size := (Nat.le_trans (Nat.le_trans (Nat.le_trans (Nat.le_trans (Nat.le_trans Zl50 E49.1) (Nat.le_of_eq W52.size.symm)) (Nat.le_of_eq W54.size.symm)) (Nat.le_of_eq W56.size.symm)) (Nat.le_of_eq W58.size.symm))
    have ge_o59 : n0 ≤ o59 := Nat.le_trans Zl62 (Nat.le_of_eq g59.symm)
    refine g_dup X59 hx 165 rfl (hb hby at_164) rfl ?_
    refine g_aload X59 hx 167 rfl (hb hby at_165) rfl rfl ?_
    refine g_aload X59 hx 169 rfl (hb hby at_167) rfl rfl ?_
    refine g_iload X59 hx 171 rfl (hb hby at_169) rfl ?_
    rcases Nat.lt_or_ge 4 N with cN | cN
    · have Al63 := ((Al56.other W58 ne_o48_o49).ext E59)
      have Al64 := (Al58.ext E59)
      have ltd : o48 < h59.size := Al63.lt
      have Zl66 : n0 ≤ h59.size := (Nat.le_trans Zl62 E59.1)
      refine g_callI X59 hx hZ 174 rfl (y := (⟨"com/example/cranfield/cranfield/index/FieldLengths", "<init>", "([I[II)V"⟩ : MethodName)) rfl hown (hw _ (List.mem_of_getElem? (i := 4) rfl)) (hw _ (List.mem_of_getElem? (i := 5) rfl)) (hw _ (List.mem_of_getElem? (i := 3) rfl)) (hw _ (List.mem_of_getElem? (i := 6) rfl)) (by decide) o59 [.ref o48, .ref o49, .int (Int32.ofNat N)] [.ref o59] (rmS2 l Z a0 hw [] o59 o48 o49 N d0 d1 (p2 &&& (2147483647 : Int32)) (p3 &&& (2147483647 : Int32)) _ _ _ h59 n0 Zl66 A59 ge_o59 (D59 (Or.inr (hw _ (List.mem_of_getElem? (i := 11) rfl))) (ty := .int) (by decide)) (D59 (Or.inr (hw _ (List.mem_of_getElem? (i := 18) rfl))) (ty := .array .int) (by decide)) (D59 (Or.inr (hw _ (List.mem_of_getElem? (i := 20) rfl))) (ty := .array .int) (by decide)) Al63 Al64 ne_o48_o59 ne_o49_o59 cN hN100) e59 (lenOf pd_3 rfl) rfl (by rw [hml]; rfl) (hb hby at_171) (by decide) 1 (Nat.le_of_eq rfl) (by decide) (by decide) (by decide) ?_
      rintro _ T65 L65 X65 ⟨rfl, N65q, K65, E65, F65, G65⟩
      have N65 := Fr.app N58 N65q
      show Goes p e below (T65.setTop (mkF m 174 #[.val (.int p1), .val (.int p2), .val (.int p3), .val (.int p4), .val (.int (2 : Int32)), .val (.int (Int32.ofNat d0)), .val (.int (Int32.ofNat d1)), .val (.int (Int32.ofNat d2)), .val (.int (Int32.ofNat pad)), .val (.int (Int32.ofNat d1)), .val (.int (Int32.ofNat N)), .val (.ref o48), .val (.ref o49), .unset, .unset, .unset] [.ref o59])) _
      refine g_astore X65 hx 176 rfl (hb hby at_174) rfl #[.val (.int p1), .val (.int p2), .val (.int p3), .val (.int p4), .val (.int (2 : Int32)), .val (.int (Int32.ofNat d0)), .val (.int (Int32.ofNat d1)), .val (.int (Int32.ofNat d2)), .val (.int (Int32.ofNat pad)), .val (.int (Int32.ofNat d1)), .val (.int (Int32.ofNat N)), .val (.ref o48), .val (.ref o49), .val (.ref o59), .unset, .unset] rfl ?_
      refine g_aload X65 hx 178 rfl (hb hby at_176) rfl rfl ?_
      have Al67 := (Al63.keep K65 (ninS ne_o48_o59 nin0))
      have ltd2 : o48 < T65.heap.size := Al67.lt
      have hfit : ∀ v ∈ ([.int (Int32.ofNat d0), .int (Int32.ofNat d1)] : List Value), fits .int v = true := by
        intro v hv
        simp only [List.mem_cons, List.not_mem_nil, or_false] at hv
        rcases hv with rfl | rfl <;> rfl
      have Exa68 := ((Exa60.ext E59).keep K65)
      have Zl70 : n0 ≤ T65.heap.size := (Nat.le_trans Zl66 K65.1)
      refine g_callV X65 hx hZ 181 rfl (y := (⟨"com/example/cranfield/cranfield/index/FieldLengths", "documents", "()[I"⟩ : MethodName)) hown (hw _ (List.mem_of_getElem? (i := 21) rfl)) (hw _ (List.mem_of_getElem? (i := 22) rfl)) (hw _ (List.mem_of_getElem? (i := 24) rfl)) (hw _ (List.mem_of_getElem? (i := 23) rfl)) (hw _ (List.mem_of_getElem? (i := 3) rfl)) (hw _ (List.mem_of_getElem? (i := 25) rfl)) (by decide) o59 [] [] (rmK l Z a0 hw [] o59 o48 [.int (Int32.ofNat d0), .int (Int32.ofNat d1)] T65.heap n0 Zl70 G65 Al67 Exa68 (show 2 ≤ 3 by decide) hfit) rfl E65 (lenOf pd_4 rfl) rfl (by rw [hml]; rfl) (hb hby at_178) (by decide) 0 (Nat.le_of_eq rfl) (by decide) (by decide) (by decide) ?_
      rintro _ T69 L69 X69 ⟨b69, rfl, N69q, K69, hb69, B69⟩
      have N69 := Fr.app N65 N69q
      show Goes p e below (T69.setTop (mkF m 181 #[.val (.int p1), .val (.int p2), .val (.int p3), .val (.int p4), .val (.int (2 : Int32)), .val (.int (Int32.ofNat d0)), .val (.int (Int32.ofNat d1)), .val (.int (Int32.ofNat d2)), .val (.int (Int32.ofNat pad)), .val (.int (Int32.ofNat d1)), .val (.int (Int32.ofNat N)), .val (.ref o48), .val (.ref o49), .val (.ref o59), .unset, .unset] [.ref b69])) _
      have Alb69 : Al Z T69.heap b69 .int [.int (Int32.ofNat d0), .int (Int32.ofNat d1)] := B69
      have nbd : ¬ (Value.ref b69 = Value.ref o48) := fun z => Nat.ne_of_lt (Nat.lt_of_lt_of_le ltd2 hb69) (Value.ref.inj z).symm
      refine g_astore X69 hx 183 rfl (hb hby at_181) rfl #[.val (.int p1), .val (.int p2), .val (.int p3), .val (.int p4), .val (.int (2 : Int32)), .val (.int (Int32.ofNat d0)), .val (.int (Int32.ofNat d1)), .val (.int (Int32.ofNat d2)), .val (.int (Int32.ofNat pad)), .val (.int (Int32.ofNat d1)), .val (.int (Int32.ofNat N)), .val (.ref o48), .val (.ref o49), .val (.ref o59), .val (.ref b69), .unset] rfl ?_
      refine g_aload X69 hx 185 rfl (hb hby at_183) rfl rfl ?_
      refine g_alen X69 hx hZ 186 rfl (hb hby at_185) rfl Alb69 (2 : Int32) rfl ?_
      refine g_iload X69 hx 188 rfl (hb hby at_186) rfl ?_
      refine g_icmpN X69 hx 191 rfl (hb hby at_188) (XT.ii_ne_f rfl) ?_
      refine g_iload X69 hx 193 rfl (hb hby at_191) rfl ?_
      refine g_iconst X69 hx 194 rfl (1 : Int32) rfl (hb hby at_193) ?_
      refine g_icmpN X69 hx 197 rfl (hb hby at_194) (XT.ii_lt_f (by decide)) ?_
      refine g_aload X69 hx 199 rfl (hb hby at_197) rfl rfl ?_
      refine g_iconst X69 hx 200 rfl (0 : Int32) rfl (hb hby at_199) ?_
      refine g_iaload X69 hx hZ 201 rfl (hb hby at_200) rfl Alb69 0 rfl (.int (Int32.ofNat d0)) rfl ?_
      refine g_iload X69 hx 203 rfl (hb hby at_201) rfl ?_
      refine g_icmpN X69 hx 206 rfl (hb hby at_203) (XT.ii_ne_f rfl) ?_
      refine g_iload X69 hx 208 rfl (hb hby at_206) rfl ?_
      refine g_iconst X69 hx 209 rfl (2 : Int32) rfl (hb hby at_208) ?_
      refine g_icmpN X69 hx 212 rfl (hb hby at_209) (XT.ii_lt_f (by decide)) ?_
      refine g_aload X69 hx 214 rfl (hb hby at_212) rfl rfl ?_
      refine g_iconst X69 hx 215 rfl (1 : Int32) rfl (hb hby at_214) ?_
      refine g_iaload X69 hx hZ 216 rfl (hb hby at_215) rfl Alb69 1 rfl (.int (Int32.ofNat d1)) rfl ?_
      refine g_iload X69 hx 218 rfl (hb hby at_216) rfl ?_
      refine g_icmpN X69 hx 221 rfl (hb hby at_218) (XT.ii_ne_f rfl) ?_
      refine g_iload X69 hx 223 rfl (hb hby at_221) rfl ?_
      refine g_iconst X69 hx 224 rfl (3 : Int32) rfl (hb hby at_223) ?_
      refine g_icmpY X69 hx 236 (hb hby at_224) (XT.ii_lt_t (by decide)) (by decide) (by decide) ?_
      refine g_iconst X69 hx 237 rfl (1 : Int32) rfl (hb hby at_236) ?_
      refine g_goto X69 hx 241 (hb hby at_237) (by decide) (by decide) ?_
      refine g_istore X69 hx 243 rfl (hb hby at_241) #[.val (.int p1), .val (.int p2), .val (.int p3), .val (.int p4), .val (.int (2 : Int32)), .val (.int (Int32.ofNat d0)), .val (.int (Int32.ofNat d1)), .val (.int (Int32.ofNat d2)), .val (.int (Int32.ofNat pad)), .val (.int (Int32.ofNat d1)), .val (.int (Int32.ofNat N)), .val (.ref o48), .val (.ref o49), .val (.ref o59), .val (.ref b69), .val (.int (1 : Int32))] rfl ?_
      refine g_iload X69 hx 245 rfl (hb hby at_243) rfl ?_
      refine g_ifN X69 hx 248 rfl (hb hby at_245) (XT.i0_eq_f (by decide)) ?_
      refine g_aload X69 hx 250 rfl (hb hby at_248) rfl rfl ?_
      refine g_aload X69 hx 252 rfl (hb hby at_250) rfl rfl ?_
      refine g_acmpN X69 hx 255 rfl (hb hby at_252) rfl rfl (XT.aa_eq_f nbd) ?_
      refine g_iconst X69 hx 256 rfl (1 : Int32) rfl (hb hby at_255) ?_
      refine g_goto X69 hx 260 (hb hby at_256) (by decide) (by decide) ?_
      exact g_retZ X69 hx hret hlk rfl (hb hby at_260) ⟨rfl, N69⟩ (by decide) (by decide)
    · have Al71 := ((Al56.other W58 ne_o48_o49).ext E59)
      have Al72 := (Al58.ext E59)
      have ltd : o48 < h59.size := Al71.lt
      have Zl74 : n0 ≤ h59.size := (Nat.le_trans Zl62 E59.1)
      refine g_callI X59 hx hZ 174 rfl (y := (⟨"com/example/cranfield/cranfield/index/FieldLengths", "<init>", "([I[II)V"⟩ : MethodName)) rfl hown (hw _ (List.mem_of_getElem? (i := 4) rfl)) (hw _ (List.mem_of_getElem? (i := 5) rfl)) (hw _ (List.mem_of_getElem? (i := 3) rfl)) (hw _ (List.mem_of_getElem? (i := 6) rfl)) (by decide) o59 [.ref o48, .ref o49, .int (Int32.ofNat N)] [.ref o59] (rmD2 l Z a0 hw [] o59 o48 o49 N d0 d1 (p2 &&& (2147483647 : Int32)) (p3 &&& (2147483647 : Int32)) _ _ _ h59 n0 Zl74 A59 ge_o59 (D59 (Or.inr (hw _ (List.mem_of_getElem? (i := 11) rfl))) (ty := .int) (by decide)) (D59 (Or.inr (hw _ (List.mem_of_getElem? (i := 18) rfl))) (ty := .array .int) (by decide)) (D59 (Or.inr (hw _ (List.mem_of_getElem? (i := 20) rfl))) (ty := .array .int) (by decide)) Al71 Al72 ne_o48_o59 ne_o49_o59 (by omega) hN100 (by omega) (by omega)) e59 (lenOf pd_3 rfl) rfl (by rw [hml]; rfl) (hb hby at_171) (by decide) 1 (Nat.le_of_eq rfl) (by decide) (by decide) (by decide) ?_
      rintro _ T73 L73 X73 ⟨rfl, N73q, K73, E73, F73, G73, t, H73, A73⟩
      have N73 := Fr.app N58 N73q
      show Goes p e below (T73.setTop (mkF m 174 #[.val (.int p1), .val (.int p2), .val (.int p3), .val (.int p4), .val (.int (2 : Int32)), .val (.int (Int32.ofNat d0)), .val (.int (Int32.ofNat d1)), .val (.int (Int32.ofNat d2)), .val (.int (Int32.ofNat pad)), .val (.int (Int32.ofNat d1)), .val (.int (Int32.ofNat N)), .val (.ref o48), .val (.ref o49), .unset, .unset, .unset] [.ref o59])) _
      refine g_astore X73 hx 176 rfl (hb hby at_174) rfl #[.val (.int p1), .val (.int p2), .val (.int p3), .val (.int p4), .val (.int (2 : Int32)), .val (.int (Int32.ofNat d0)), .val (.int (Int32.ofNat d1)), .val (.int (Int32.ofNat d2)), .val (.int (Int32.ofNat pad)), .val (.int (Int32.ofNat d1)), .val (.int (Int32.ofNat N)), .val (.ref o48), .val (.ref o49), .val (.ref o59), .unset, .unset] rfl ?_
      refine g_aload X73 hx 178 rfl (hb hby at_176) rfl rfl ?_
      have Al75 := (Al71.keep K73 (ninS ne_o48_o59 nin0))
      have ltd2 : o48 < T73.heap.size := Al75.lt
      have hres := own_res2 d0 d1 N (p2 &&& (2147483647 : Int32)) (p3 &&& (2147483647 : Int32)) (by omega) (by omega) (own_ge0 _) (own_ge0 _)
      have Zl77 : n0 ≤ T73.heap.size := (Nat.le_trans Zl74 K73.1)
      refine g_callV X73 hx hZ 181 rfl (y := (⟨"com/example/cranfield/cranfield/index/FieldLengths", "documents", "()[I"⟩ : MethodName)) hown (hw _ (List.mem_of_getElem? (i := 21) rfl)) (hw _ (List.mem_of_getElem? (i := 22) rfl)) (hw _ (List.mem_of_getElem? (i := 24) rfl)) (hw _ (List.mem_of_getElem? (i := 23) rfl)) (hw _ (List.mem_of_getElem? (i := 3) rfl)) (hw _ (List.mem_of_getElem? (i := 25) rfl)) (by decide) o59 [] [] (rmN l Z a0 hw [] o59 t 2 N (own_g2 d0 d1 (p2 &&& (2147483647 : Int32)) (p3 &&& (2147483647 : Int32))) T73.heap n0 Zl77 G73 F73 H73 A73 (by decide) hN100 (Nat.le_of_eq hres.2)) rfl E73 (lenOf pd_4 rfl) rfl (by rw [hml]; rfl) (hb hby at_178) (by decide) 0 (Nat.le_of_eq rfl) (by decide) (by decide) (by decide) ?_
      rintro _ T76 L76 X76 ⟨b76, rfl, N76q, K76, hb76, B76⟩
      have N76 := Fr.app N73 N76q
      show Goes p e below (T76.setTop (mkF m 181 #[.val (.int p1), .val (.int p2), .val (.int p3), .val (.int p4), .val (.int (2 : Int32)), .val (.int (Int32.ofNat d0)), .val (.int (Int32.ofNat d1)), .val (.int (Int32.ofNat d2)), .val (.int (Int32.ofNat pad)), .val (.int (Int32.ofNat d1)), .val (.int (Int32.ofNat N)), .val (.ref o48), .val (.ref o49), .val (.ref o59), .unset, .unset] [.ref b76])) _
      rw [hres.1] at B76
      have Alb76 : Al Z T76.heap b76 .int [.int (Int32.ofNat d0), .int (Int32.ofNat d1)] := B76
      have nbd : ¬ (Value.ref b76 = Value.ref o48) := fun z => Nat.ne_of_lt (Nat.lt_of_lt_of_le ltd2 hb76) (Value.ref.inj z).symm
      refine g_astore X76 hx 183 rfl (hb hby at_181) rfl #[.val (.int p1), .val (.int p2), .val (.int p3), .val (.int p4), .val (.int (2 : Int32)), .val (.int (Int32.ofNat d0)), .val (.int (Int32.ofNat d1)), .val (.int (Int32.ofNat d2)), .val (.int (Int32.ofNat pad)), .val (.int (Int32.ofNat d1)), .val (.int (Int32.ofNat N)), .val (.ref o48), .val (.ref o49), .val (.ref o59), .val (.ref b76), .unset] rfl ?_
      refine g_aload X76 hx 185 rfl (hb hby at_183) rfl rfl ?_
      refine g_alen X76 hx hZ 186 rfl (hb hby at_185) rfl Alb76 (2 : Int32) rfl ?_
      refine g_iload X76 hx 188 rfl (hb hby at_186) rfl ?_
      refine g_icmpN X76 hx 191 rfl (hb hby at_188) (XT.ii_ne_f rfl) ?_
      refine g_iload X76 hx 193 rfl (hb hby at_191) rfl ?_
      refine g_iconst X76 hx 194 rfl (1 : Int32) rfl (hb hby at_193) ?_
      refine g_icmpN X76 hx 197 rfl (hb hby at_194) (XT.ii_lt_f (by decide)) ?_
      refine g_aload X76 hx 199 rfl (hb hby at_197) rfl rfl ?_
      refine g_iconst X76 hx 200 rfl (0 : Int32) rfl (hb hby at_199) ?_
      refine g_iaload X76 hx hZ 201 rfl (hb hby at_200) rfl Alb76 0 rfl (.int (Int32.ofNat d0)) rfl ?_
      refine g_iload X76 hx 203 rfl (hb hby at_201) rfl ?_
      refine g_icmpN X76 hx 206 rfl (hb hby at_203) (XT.ii_ne_f rfl) ?_
      refine g_iload X76 hx 208 rfl (hb hby at_206) rfl ?_
      refine g_iconst X76 hx 209 rfl (2 : Int32) rfl (hb hby at_208) ?_
      refine g_icmpN X76 hx 212 rfl (hb hby at_209) (XT.ii_lt_f (by decide)) ?_
      refine g_aload X76 hx 214 rfl (hb hby at_212) rfl rfl ?_
      refine g_iconst X76 hx 215 rfl (1 : Int32) rfl (hb hby at_214) ?_
      refine g_iaload X76 hx hZ 216 rfl (hb hby at_215) rfl Alb76 1 rfl (.int (Int32.ofNat d1)) rfl ?_
      refine g_iload X76 hx 218 rfl (hb hby at_216) rfl ?_
      refine g_icmpN X76 hx 221 rfl (hb hby at_218) (XT.ii_ne_f rfl) ?_
      refine g_iload X76 hx 223 rfl (hb hby at_221) rfl ?_
      refine g_iconst X76 hx 224 rfl (3 : Int32) rfl (hb hby at_223) ?_
      refine g_icmpY X76 hx 236 (hb hby at_224) (XT.ii_lt_t (by decide)) (by decide) (by decide) ?_
      refine g_iconst X76 hx 237 rfl (1 : Int32) rfl (hb hby at_236) ?_
      refine g_goto X76 hx 241 (hb hby at_237) (by decide) (by decide) ?_
      refine g_istore X76 hx 243 rfl (hb hby at_241) #[.val (.int p1), .val (.int p2), .val (.int p3), .val (.int p4), .val (.int (2 : Int32)), .val (.int (Int32.ofNat d0)), .val (.int (Int32.ofNat d1)), .val (.int (Int32.ofNat d2)), .val (.int (Int32.ofNat pad)), .val (.int (Int32.ofNat d1)), .val (.int (Int32.ofNat N)), .val (.ref o48), .val (.ref o49), .val (.ref o59), .val (.ref b76), .val (.int (1 : Int32))] rfl ?_
      refine g_iload X76 hx 245 rfl (hb hby at_243) rfl ?_
      refine g_ifN X76 hx 248 rfl (hb hby at_245) (XT.i0_eq_f (by decide)) ?_
      refine g_aload X76 hx 250 rfl (hb hby at_248) rfl rfl ?_
      refine g_aload X76 hx 252 rfl (hb hby at_250) rfl rfl ?_
      refine g_acmpN X76 hx 255 rfl (hb hby at_252) rfl rfl (XT.aa_eq_f nbd) ?_
      refine g_iconst X76 hx 256 rfl (1 : Int32) rfl (hb hby at_255) ?_
      refine g_goto X76 hx 260 (hb hby at_256) (by decide) (by decide) ?_
      exact g_retZ X76 hx hret hlk rfl (hb hby at_260) ⟨rfl, N76⟩ (by decide) (by decide)
  | 3, _ =>
    show Goes p e below (s₁.setTop (mkF m 46 #[.val (.int p1), .val (.int p2), .val (.int p3), .val (.int p4), .val (.int (3 : Int32)), .val (.int (Int32.ofNat d0)), .val (.int (Int32.ofNat d1)), .val (.int (Int32.ofNat d2)), .val (.int (Int32.ofNat pad)), .unset, .unset, .unset, .unset, .unset, .unset, .unset] [])) _
    refine g_iload X0 hx 48 rfl (hb hby at_46) rfl ?_
    refine g_ifY X0 hx 55 (hb hby at_48) (XT.i0_ne_t (by decide)) (by decide) (by decide) ?_
    refine g_iload X0 hx 57 rfl (hb hby at_55) rfl ?_
    refine g_iconst X0 hx 58 rfl (1 : Int32) rfl (hb hby at_57) ?_
    refine g_icmpY X0 hx 66 (hb hby at_58) (XT.ii_ne_t (by decide)) (by decide) (by decide) ?_
    refine g_iload X0 hx 68 rfl (hb hby at_66) rfl ?_
    refine g_iconst X0 hx 69 rfl (2 : Int32) rfl (hb hby at_68) ?_
    refine g_icmpY X0 hx 77 (hb hby at_69) (XT.ii_ne_t (by decide)) (by decide) (by decide) ?_
    refine g_iload X0 hx 79 rfl (hb hby at_77) rfl ?_
    refine g_istore X0 hx 81 rfl (hb hby at_79) #[.val (.int p1), .val (.int p2), .val (.int p3), .val (.int p4), .val (.int (3 : Int32)), .val (.int (Int32.ofNat d0)), .val (.int (Int32.ofNat d1)), .val (.int (Int32.ofNat d2)), .val (.int (Int32.ofNat pad)), .val (.int (Int32.ofNat d2)), .unset, .unset, .unset, .unset, .unset, .unset] rfl ?_
    refine g_iload X0 hx 83 rfl (hb hby at_81) rfl ?_
    refine g_iconst X0 hx 84 rfl (1 : Int32) rfl (hb hby at_83) ?_
    refine g_iadd X0 hx 85 rfl (hb hby at_84) ?_
    refine g_iload X0 hx 87 rfl (hb hby at_85) rfl ?_
    refine g_iadd X0 hx 88 rfl (hb hby at_87) ?_
    refine g_istore X0 hx 90 rfl (hb hby at_88) #[.val (.int p1), .val (.int p2), .val (.int p3), .val (.int p4), .val (.int (3 : Int32)), .val (.int (Int32.ofNat d0)), .val (.int (Int32.ofNat d1)), .val (.int (Int32.ofNat d2)), .val (.int (Int32.ofNat pad)), .val (.int (Int32.ofNat d2)), .val (.int (((Int32.ofNat d2) + (1 : Int32)) + (Int32.ofNat pad))), .unset, .unset, .unset, .unset, .unset] rfl ?_
    refine g_iload X0 hx 92 rfl (hb hby at_90) rfl ?_
    refine g_newarr X0 hx hZ 94 rfl (hw _ (List.mem_of_getElem? (i := 0) rfl)) e0 (hb hby at_92) 3 rfl 3 (Nat.le_refl _) (by decide) (by decide) (by decide) "[I" (by decide) ?_
    intro T78 h78 o78 g78 X78 e78 E78 A78 Ex78
    have ge_o78 : n0 ≤ o78 := Nat.le_trans Z0 (Nat.le_of_eq g78.symm)
    have Al78 : Al Z h78 o78 .int [.int (0 : Int32), .int (0 : Int32), .int (0 : Int32)] := A78
    refine g_astore X78 hx 96 rfl (hb hby at_94) rfl #[.val (.int p1), .val (.int p2), .val (.int p3), .val (.int p4), .val (.int (3 : Int32)), .val (.int (Int32.ofNat d0)), .val (.int (Int32.ofNat d1)), .val (.int (Int32.ofNat d2)), .val (.int (Int32.ofNat pad)), .val (.int (Int32.ofNat d2)), .val (.int (((Int32.ofNat d2) + (1 : Int32)) + (Int32.ofNat pad))), .val (.ref o78), .unset, .unset, .unset, .unset] rfl ?_
    refine g_iload X78 hx 98 rfl (hb hby at_96) rfl ?_
    refine g_newarr X78 hx hZ 100 rfl (hw _ (List.mem_of_getElem? (i := 0) rfl)) e78 (hb hby at_98) 3 rfl 3 (Nat.le_refl _) (by decide) (by decide) (by decide) "[I" (by decide) ?_
    intro T79 h79 o79 g79 X79 e79 E79 A79 Ex79
    have ne_o78_o79 : o78 ≠ o79 := Nat.ne_of_lt (Nat.lt_of_lt_of_eq Ex78.lt g79.symm)
    have Zl80 : n0 ≤ h78.size := (Nat.le_trans Z0 E78.1)
    have ge_o79 : n0 ≤ o79 := Nat.le_trans Zl80 (Nat.le_of_eq g79.symm)
    have Al79 : Al Z h79 o79 .int [.int (0 : Int32), .int (0 : Int32), .int (0 : Int32)] := A79
    refine g_astore X79 hx 102 rfl (hb hby at_100) rfl #[.val (.int p1), .val (.int p2), .val (.int p3), .val (.int p4), .val (.int (3 : Int32)), .val (.int (Int32.ofNat d0)), .val (.int (Int32.ofNat d1)), .val (.int (Int32.ofNat d2)), .val (.int (Int32.ofNat pad)), .val (.int (Int32.ofNat d2)), .val (.int (((Int32.ofNat d2) + (1 : Int32)) + (Int32.ofNat pad))), .val (.ref o78), .val (.ref o79), .unset, .unset, .unset] rfl ?_
    refine g_iload X79 hx 104 rfl (hb hby at_102) rfl ?_
    obtain ⟨N, hN⟩ : ∃ z : Nat, z = d2 + 1 + pad := ⟨_, rfl⟩
    have hNe : ((Int32.ofNat d2) + (1 : Int32)) + (Int32.ofNat pad) = Int32.ofNat N := by
      rw [hN]; simp only [Int32.ofNat_add]; rfl
    rw [hNe]
    have hN100 : N < 100 := by omega
    refine g_ifN X79 hx 107 rfl (hb hby at_104) (XT.i0_le_f (by decide)) ?_
    refine g_aload X79 hx 109 rfl (hb hby at_107) rfl rfl ?_
    refine g_iconst X79 hx 110 rfl (0 : Int32) rfl (hb hby at_109) ?_
    refine g_iload X79 hx 112 rfl (hb hby at_110) rfl ?_
    have Al81 := (Al78.ext E79)
    refine g_iastore X79 hx hZ 113 rfl (hb hby at_112) e79 Al81 0 rfl (show 0 < 3 by decide) ?_
    intro T82 h82 X82 e82 W82 B82
    have N82 := Fr.snoc X82 N0 ge_o78
    have Al82 : Al Z h82 o78 .int [.int (Int32.ofNat d0), .int (0 : Int32), .int (0 : Int32)] := B82
    refine g_aload X82 hx 115 rfl (hb hby at_113) rfl rfl ?_
    refine g_iconst X82 hx 116 rfl (0 : Int32) rfl (hb hby at_115) ?_
    refine g_iload_n X82 hx 117 rfl (hb hby at_116) rfl ?_
    refine g_ldcI X82 hx 119 rfl hown hZ (hw _ (List.mem_of_getElem? (i := 26) rfl)) (hb hby at_117) ?_
    refine g_iand X82 hx 120 rfl (hb hby at_119) ?_
    have Al83 := (Al79.other W82 (Ne.symm ne_o78_o79))
    refine g_iastore X82 hx hZ 121 rfl (hb hby at_120) e82 Al83 0 rfl (show 0 < 3 by decide) ?_
    intro T84 h84 X84 e84 W84 B84
    have N84 := Fr.snoc X84 N82 ge_o79
    have Al84 : Al Z h84 o79 .int [.int (p2 &&& (2147483647 : Int32)), .int (0 : Int32), .int (0 : Int32)] := B84
    refine g_iload X84 hx 123 rfl (hb hby at_121) rfl ?_
    refine g_iconst X84 hx 124 rfl (1 : Int32) rfl (hb hby at_123) ?_
    refine g_icmpN X84 hx 127 rfl (hb hby at_124) (XT.ii_le_f (by decide)) ?_
    refine g_aload X84 hx 129 rfl (hb hby at_127) rfl rfl ?_
    refine g_iconst X84 hx 130 rfl (1 : Int32) rfl (hb hby at_129) ?_
    refine g_iload X84 hx 132 rfl (hb hby at_130) rfl ?_
    have Al85 := (Al82.other W84 ne_o78_o79)
    refine g_iastore X84 hx hZ 133 rfl (hb hby at_132) e84 Al85 1 rfl (show 1 < 3 by decide) ?_
    intro T86 h86 X86 e86 W86 B86
    have N86 := Fr.snoc X86 N84 ge_o78
    have Al86 : Al Z h86 o78 .int [.int (Int32.ofNat d0), .int (Int32.ofNat d1), .int (0 : Int32)] := B86
    refine g_aload X86 hx 135 rfl (hb hby at_133) rfl rfl ?_
    refine g_iconst X86 hx 136 rfl (1 : Int32) rfl (hb hby at_135) ?_
    refine g_iload_n X86 hx 137 rfl (hb hby at_136) rfl ?_
    refine g_ldcI X86 hx 139 rfl hown hZ (hw _ (List.mem_of_getElem? (i := 26) rfl)) (hb hby at_137) ?_
    refine g_iand X86 hx 140 rfl (hb hby at_139) ?_
    have Al87 := (Al84.other W86 (Ne.symm ne_o78_o79))
    refine g_iastore X86 hx hZ 141 rfl (hb hby at_140) e86 Al87 1 rfl (show 1 < 3 by decide) ?_
    intro T88 h88 X88 e88 W88 B88
    have N88 := Fr.snoc X88 N86 ge_o79
    have Al88 : Al Z h88 o79 .int [.int (p2 &&& (2147483647 : Int32)), .int (p3 &&& (2147483647 : Int32)), .int (0 : Int32)] := B88
    refine g_iload X88 hx 143 rfl (hb hby at_141) rfl ?_
    refine g_iconst X88 hx 144 rfl (2 : Int32) rfl (hb hby at_143) ?_
    refine g_icmpN X88 hx 147 rfl (hb hby at_144) (XT.ii_le_f (by decide)) ?_
    refine g_aload X88 hx 149 rfl (hb hby at_147) rfl rfl ?_
    refine g_iconst X88 hx 150 rfl (2 : Int32) rfl (hb hby at_149) ?_
    refine g_iload X88 hx 152 rfl (hb hby at_150) rfl ?_
    have Al89 := (Al86.other W88 ne_o78_o79)
    refine g_iastore X88 hx hZ 153 rfl (hb hby at_152) e88 Al89 2 rfl (show 2 < 3 by decide) ?_
    intro T90 h90 X90 e90 W90 B90
    have N90 := Fr.snoc X90 N88 ge_o78
    have Al90 : Al Z h90 o78 .int [.int (Int32.ofNat d0), .int (Int32.ofNat d1), .int (Int32.ofNat d2)] := B90
    refine g_aload X90 hx 155 rfl (hb hby at_153) rfl rfl ?_
    refine g_iconst X90 hx 156 rfl (2 : Int32) rfl (hb hby at_155) ?_
    refine g_iload_n X90 hx 157 rfl (hb hby at_156) rfl ?_
    refine g_ldcI X90 hx 159 rfl hown hZ (hw _ (List.mem_of_getElem? (i := 26) rfl)) (hb hby at_157) ?_
    refine g_iand X90 hx 160 rfl (hb hby at_159) ?_
    have Al91 := (Al88.other W90 (Ne.symm ne_o78_o79))
    refine g_iastore X90 hx hZ 161 rfl (hb hby at_160) e90 Al91 2 rfl (show 2 < 3 by decide) ?_
    intro T92 h92 X92 e92 W92 B92
    have N92 := Fr.snoc X92 N90 ge_o79
    have Al92 : Al Z h92 o79 .int [.int (p2 &&& (2147483647 : Int32)), .int (p3 &&& (2147483647 : Int32)), .int (p4 &&& (2147483647 : Int32))] := B92
    refine g_new X92 hx hZ 164 rfl hown (hw _ (List.mem_of_getElem? (i := 1) rfl)) (hw _ (List.mem_of_getElem? (i := 2) rfl)) (hw _ (List.mem_of_getElem? (i := 3) rfl)) e92 (hb hby at_161) (by decide) (by decide) ?_
    intro T93 h93 o93 g93 X93 e93 E93 A93 D93
    have Exa94 := (((((((Ex78.ext E79).wr W82).wr W84).wr W86).wr W88).wr W90).wr W92)
    have ne_o78_o93 : o78 ≠ o93 := Nat.ne_of_lt (Nat.lt_of_lt_of_eq Exa94.lt g93.symm)
    have Exa95 := ((((((Ex79.wr W82).wr W84).wr W86).wr W88).wr W90).wr W92)
    have ne_o79_o93 : o79 ≠ o93 := Nat.ne_of_lt (Nat.lt_of_lt_of_eq Exa95.lt g93.symm)
    have Zl96 : n0 ≤ h92.size := (Nat.le_trans (Nat.le_trans (Nat.le_trans (Nat.le_trans (Nat.le_trans (Nat.le_trans (Nat.le_trans Zl80 E79.1) (Nat.le_of_eq W82.size.symm)) (Nat.le_of_eq W84.size.symm)) (Nat.le_of_eq W86.size.symm)) (Nat.le_of_eq W88.size.symm)) (Nat.le_of_eq W90.size.symm)) (Nat.le_of_eq W92.size.symm))
    have ge_o93 : n0 ≤ o93 := Nat.le_trans Zl96 (Nat.le_of_eq g93.symm)
    refine g_dup X93 hx 165 rfl (hb hby at_164) rfl ?_
    refine g_aload X93 hx 167 rfl (hb hby at_165) rfl rfl ?_
    refine g_aload X93 hx 169 rfl (hb hby at_167) rfl rfl ?_
    refine g_iload X93 hx 171 rfl (hb hby at_169) rfl ?_
    rcases Nat.lt_or_ge 6 N with cN | cN
    · have Al97 := ((Al90.other W92 ne_o78_o79).ext E93)
      have Al98 := (Al92.ext E93)
      have ltd : o78 < h93.size := Al97.lt
      have Zl100 : n0 ≤ h93.size := (Nat.le_trans Zl96 E93.1)
      refine g_callI X93 hx hZ 174 rfl (y := (⟨"com/example/cranfield/cranfield/index/FieldLengths", "<init>", "([I[II)V"⟩ : MethodName)) rfl hown (hw _ (List.mem_of_getElem? (i := 4) rfl)) (hw _ (List.mem_of_getElem? (i := 5) rfl)) (hw _ (List.mem_of_getElem? (i := 3) rfl)) (hw _ (List.mem_of_getElem? (i := 6) rfl)) (by decide) o93 [.ref o78, .ref o79, .int (Int32.ofNat N)] [.ref o93] (rmS3 l Z a0 hw [] o93 o78 o79 N d0 d1 d2 (p2 &&& (2147483647 : Int32)) (p3 &&& (2147483647 : Int32)) (p4 &&& (2147483647 : Int32)) _ _ _ h93 n0 Zl100 A93 ge_o93 (D93 (Or.inr (hw _ (List.mem_of_getElem? (i := 11) rfl))) (ty := .int) (by decide)) (D93 (Or.inr (hw _ (List.mem_of_getElem? (i := 18) rfl))) (ty := .array .int) (by decide)) (D93 (Or.inr (hw _ (List.mem_of_getElem? (i := 20) rfl))) (ty := .array .int) (by decide)) Al97 Al98 ne_o78_o93 ne_o79_o93 cN hN100) e93 (lenOf pd_3 rfl) rfl (by rw [hml]; rfl) (hb hby at_171) (by decide) 1 (Nat.le_of_eq rfl) (by decide) (by decide) (by decide) ?_
      rintro _ T99 L99 X99 ⟨rfl, N99q, K99, E99, F99, G99⟩
      have N99 := Fr.app N92 N99q
      show Goes p e below (T99.setTop (mkF m 174 #[.val (.int p1), .val (.int p2), .val (.int p3), .val (.int p4), .val (.int (3 : Int32)), .val (.int (Int32.ofNat d0)), .val (.int (Int32.ofNat d1)), .val (.int (Int32.ofNat d2)), .val (.int (Int32.ofNat pad)), .val (.int (Int32.ofNat d2)), .val (.int (Int32.ofNat N)), .val (.ref o78), .val (.ref o79), .unset, .unset, .unset] [.ref o93])) _
      refine g_astore X99 hx 176 rfl (hb hby at_174) rfl #[.val (.int p1), .val (.int p2), .val (.int p3), .val (.int p4), .val (.int (3 : Int32)), .val (.int (Int32.ofNat d0)), .val (.int (Int32.ofNat d1)), .val (.int (Int32.ofNat d2)), .val (.int (Int32.ofNat pad)), .val (.int (Int32.ofNat d2)), .val (.int (Int32.ofNat N)), .val (.ref o78), .val (.ref o79), .val (.ref o93), .unset, .unset] rfl ?_
      refine g_aload X99 hx 178 rfl (hb hby at_176) rfl rfl ?_
      have Al101 := (Al97.keep K99 (ninS ne_o78_o93 nin0))
      have ltd2 : o78 < T99.heap.size := Al101.lt
      have hfit : ∀ v ∈ ([.int (Int32.ofNat d0), .int (Int32.ofNat d1), .int (Int32.ofNat d2)] : List Value), fits .int v = true := by
        intro v hv
        simp only [List.mem_cons, List.not_mem_nil, or_false] at hv
        rcases hv with rfl | rfl | rfl <;> rfl
      have Exa102 := ((Exa94.ext E93).keep K99)
      have Zl104 : n0 ≤ T99.heap.size := (Nat.le_trans Zl100 K99.1)
      refine g_callV X99 hx hZ 181 rfl (y := (⟨"com/example/cranfield/cranfield/index/FieldLengths", "documents", "()[I"⟩ : MethodName)) hown (hw _ (List.mem_of_getElem? (i := 21) rfl)) (hw _ (List.mem_of_getElem? (i := 22) rfl)) (hw _ (List.mem_of_getElem? (i := 24) rfl)) (hw _ (List.mem_of_getElem? (i := 23) rfl)) (hw _ (List.mem_of_getElem? (i := 3) rfl)) (hw _ (List.mem_of_getElem? (i := 25) rfl)) (by decide) o93 [] [] (rmK l Z a0 hw [] o93 o78 [.int (Int32.ofNat d0), .int (Int32.ofNat d1), .int (Int32.ofNat d2)] T99.heap n0 Zl104 G99 Al101 Exa102 (show 3 ≤ 3 by decide) hfit) rfl E99 (lenOf pd_4 rfl) rfl (by rw [hml]; rfl) (hb hby at_178) (by decide) 0 (Nat.le_of_eq rfl) (by decide) (by decide) (by decide) ?_
      rintro _ T103 L103 X103 ⟨b103, rfl, N103q, K103, hb103, B103⟩
      have N103 := Fr.app N99 N103q
      show Goes p e below (T103.setTop (mkF m 181 #[.val (.int p1), .val (.int p2), .val (.int p3), .val (.int p4), .val (.int (3 : Int32)), .val (.int (Int32.ofNat d0)), .val (.int (Int32.ofNat d1)), .val (.int (Int32.ofNat d2)), .val (.int (Int32.ofNat pad)), .val (.int (Int32.ofNat d2)), .val (.int (Int32.ofNat N)), .val (.ref o78), .val (.ref o79), .val (.ref o93), .unset, .unset] [.ref b103])) _
      have Alb103 : Al Z T103.heap b103 .int [.int (Int32.ofNat d0), .int (Int32.ofNat d1), .int (Int32.ofNat d2)] := B103
      have nbd : ¬ (Value.ref b103 = Value.ref o78) := fun z => Nat.ne_of_lt (Nat.lt_of_lt_of_le ltd2 hb103) (Value.ref.inj z).symm
      refine g_astore X103 hx 183 rfl (hb hby at_181) rfl #[.val (.int p1), .val (.int p2), .val (.int p3), .val (.int p4), .val (.int (3 : Int32)), .val (.int (Int32.ofNat d0)), .val (.int (Int32.ofNat d1)), .val (.int (Int32.ofNat d2)), .val (.int (Int32.ofNat pad)), .val (.int (Int32.ofNat d2)), .val (.int (Int32.ofNat N)), .val (.ref o78), .val (.ref o79), .val (.ref o93), .val (.ref b103), .unset] rfl ?_
      refine g_aload X103 hx 185 rfl (hb hby at_183) rfl rfl ?_
      refine g_alen X103 hx hZ 186 rfl (hb hby at_185) rfl Alb103 (3 : Int32) rfl ?_
      refine g_iload X103 hx 188 rfl (hb hby at_186) rfl ?_
      refine g_icmpN X103 hx 191 rfl (hb hby at_188) (XT.ii_ne_f rfl) ?_
      refine g_iload X103 hx 193 rfl (hb hby at_191) rfl ?_
      refine g_iconst X103 hx 194 rfl (1 : Int32) rfl (hb hby at_193) ?_
      refine g_icmpN X103 hx 197 rfl (hb hby at_194) (XT.ii_lt_f (by decide)) ?_
      refine g_aload X103 hx 199 rfl (hb hby at_197) rfl rfl ?_
      refine g_iconst X103 hx 200 rfl (0 : Int32) rfl (hb hby at_199) ?_
      refine g_iaload X103 hx hZ 201 rfl (hb hby at_200) rfl Alb103 0 rfl (.int (Int32.ofNat d0)) rfl ?_
      refine g_iload X103 hx 203 rfl (hb hby at_201) rfl ?_
      refine g_icmpN X103 hx 206 rfl (hb hby at_203) (XT.ii_ne_f rfl) ?_
      refine g_iload X103 hx 208 rfl (hb hby at_206) rfl ?_
      refine g_iconst X103 hx 209 rfl (2 : Int32) rfl (hb hby at_208) ?_
      refine g_icmpN X103 hx 212 rfl (hb hby at_209) (XT.ii_lt_f (by decide)) ?_
      refine g_aload X103 hx 214 rfl (hb hby at_212) rfl rfl ?_
      refine g_iconst X103 hx 215 rfl (1 : Int32) rfl (hb hby at_214) ?_
      refine g_iaload X103 hx hZ 216 rfl (hb hby at_215) rfl Alb103 1 rfl (.int (Int32.ofNat d1)) rfl ?_
      refine g_iload X103 hx 218 rfl (hb hby at_216) rfl ?_
      refine g_icmpN X103 hx 221 rfl (hb hby at_218) (XT.ii_ne_f rfl) ?_
      refine g_iload X103 hx 223 rfl (hb hby at_221) rfl ?_
      refine g_iconst X103 hx 224 rfl (3 : Int32) rfl (hb hby at_223) ?_
      refine g_icmpN X103 hx 227 rfl (hb hby at_224) (XT.ii_lt_f (by decide)) ?_
      refine g_aload X103 hx 229 rfl (hb hby at_227) rfl rfl ?_
      refine g_iconst X103 hx 230 rfl (2 : Int32) rfl (hb hby at_229) ?_
      refine g_iaload X103 hx hZ 231 rfl (hb hby at_230) rfl Alb103 2 rfl (.int (Int32.ofNat d2)) rfl ?_
      refine g_iload X103 hx 233 rfl (hb hby at_231) rfl ?_
      refine g_icmpN X103 hx 236 rfl (hb hby at_233) (XT.ii_ne_f rfl) ?_
      refine g_iconst X103 hx 237 rfl (1 : Int32) rfl (hb hby at_236) ?_
      refine g_goto X103 hx 241 (hb hby at_237) (by decide) (by decide) ?_
      refine g_istore X103 hx 243 rfl (hb hby at_241) #[.val (.int p1), .val (.int p2), .val (.int p3), .val (.int p4), .val (.int (3 : Int32)), .val (.int (Int32.ofNat d0)), .val (.int (Int32.ofNat d1)), .val (.int (Int32.ofNat d2)), .val (.int (Int32.ofNat pad)), .val (.int (Int32.ofNat d2)), .val (.int (Int32.ofNat N)), .val (.ref o78), .val (.ref o79), .val (.ref o93), .val (.ref b103), .val (.int (1 : Int32))] rfl ?_
      refine g_iload X103 hx 245 rfl (hb hby at_243) rfl ?_
      refine g_ifN X103 hx 248 rfl (hb hby at_245) (XT.i0_eq_f (by decide)) ?_
      refine g_aload X103 hx 250 rfl (hb hby at_248) rfl rfl ?_
      refine g_aload X103 hx 252 rfl (hb hby at_250) rfl rfl ?_
      refine g_acmpN X103 hx 255 rfl (hb hby at_252) rfl rfl (XT.aa_eq_f nbd) ?_
      refine g_iconst X103 hx 256 rfl (1 : Int32) rfl (hb hby at_255) ?_
      refine g_goto X103 hx 260 (hb hby at_256) (by decide) (by decide) ?_
      exact g_retZ X103 hx hret hlk rfl (hb hby at_260) ⟨rfl, N103⟩ (by decide) (by decide)
    · have Al105 := ((Al90.other W92 ne_o78_o79).ext E93)
      have Al106 := (Al92.ext E93)
      have ltd : o78 < h93.size := Al105.lt
      have Zl108 : n0 ≤ h93.size := (Nat.le_trans Zl96 E93.1)
      refine g_callI X93 hx hZ 174 rfl (y := (⟨"com/example/cranfield/cranfield/index/FieldLengths", "<init>", "([I[II)V"⟩ : MethodName)) rfl hown (hw _ (List.mem_of_getElem? (i := 4) rfl)) (hw _ (List.mem_of_getElem? (i := 5) rfl)) (hw _ (List.mem_of_getElem? (i := 3) rfl)) (hw _ (List.mem_of_getElem? (i := 6) rfl)) (by decide) o93 [.ref o78, .ref o79, .int (Int32.ofNat N)] [.ref o93] (rmD3 l Z a0 hw [] o93 o78 o79 N d0 d1 d2 (p2 &&& (2147483647 : Int32)) (p3 &&& (2147483647 : Int32)) (p4 &&& (2147483647 : Int32)) _ _ _ h93 n0 Zl108 A93 ge_o93 (D93 (Or.inr (hw _ (List.mem_of_getElem? (i := 11) rfl))) (ty := .int) (by decide)) (D93 (Or.inr (hw _ (List.mem_of_getElem? (i := 18) rfl))) (ty := .array .int) (by decide)) (D93 (Or.inr (hw _ (List.mem_of_getElem? (i := 20) rfl))) (ty := .array .int) (by decide)) Al105 Al106 ne_o78_o93 ne_o79_o93 (by omega) hN100 (by omega) (by omega) (by omega)) e93 (lenOf pd_3 rfl) rfl (by rw [hml]; rfl) (hb hby at_171) (by decide) 1 (Nat.le_of_eq rfl) (by decide) (by decide) (by decide) ?_
      rintro _ T107 L107 X107 ⟨rfl, N107q, K107, E107, F107, G107, t, H107, A107⟩
      have N107 := Fr.app N92 N107q
      show Goes p e below (T107.setTop (mkF m 174 #[.val (.int p1), .val (.int p2), .val (.int p3), .val (.int p4), .val (.int (3 : Int32)), .val (.int (Int32.ofNat d0)), .val (.int (Int32.ofNat d1)), .val (.int (Int32.ofNat d2)), .val (.int (Int32.ofNat pad)), .val (.int (Int32.ofNat d2)), .val (.int (Int32.ofNat N)), .val (.ref o78), .val (.ref o79), .unset, .unset, .unset] [.ref o93])) _
      refine g_astore X107 hx 176 rfl (hb hby at_174) rfl #[.val (.int p1), .val (.int p2), .val (.int p3), .val (.int p4), .val (.int (3 : Int32)), .val (.int (Int32.ofNat d0)), .val (.int (Int32.ofNat d1)), .val (.int (Int32.ofNat d2)), .val (.int (Int32.ofNat pad)), .val (.int (Int32.ofNat d2)), .val (.int (Int32.ofNat N)), .val (.ref o78), .val (.ref o79), .val (.ref o93), .unset, .unset] rfl ?_
      refine g_aload X107 hx 178 rfl (hb hby at_176) rfl rfl ?_
      have Al109 := (Al105.keep K107 (ninS ne_o78_o93 nin0))
      have ltd2 : o78 < T107.heap.size := Al109.lt
      have hres := own_res3 d0 d1 d2 N (p2 &&& (2147483647 : Int32)) (p3 &&& (2147483647 : Int32)) (p4 &&& (2147483647 : Int32)) (by omega) (by omega) (by omega) (own_ge0 _) (own_ge0 _) (own_ge0 _)
      have Zl111 : n0 ≤ T107.heap.size := (Nat.le_trans Zl108 K107.1)
      refine g_callV X107 hx hZ 181 rfl (y := (⟨"com/example/cranfield/cranfield/index/FieldLengths", "documents", "()[I"⟩ : MethodName)) hown (hw _ (List.mem_of_getElem? (i := 21) rfl)) (hw _ (List.mem_of_getElem? (i := 22) rfl)) (hw _ (List.mem_of_getElem? (i := 24) rfl)) (hw _ (List.mem_of_getElem? (i := 23) rfl)) (hw _ (List.mem_of_getElem? (i := 3) rfl)) (hw _ (List.mem_of_getElem? (i := 25) rfl)) (by decide) o93 [] [] (rmN l Z a0 hw [] o93 t 3 N (own_g3 d0 d1 d2 (p2 &&& (2147483647 : Int32)) (p3 &&& (2147483647 : Int32)) (p4 &&& (2147483647 : Int32))) T107.heap n0 Zl111 G107 F107 H107 A107 (by decide) hN100 (Nat.le_of_eq hres.2)) rfl E107 (lenOf pd_4 rfl) rfl (by rw [hml]; rfl) (hb hby at_178) (by decide) 0 (Nat.le_of_eq rfl) (by decide) (by decide) (by decide) ?_
      rintro _ T110 L110 X110 ⟨b110, rfl, N110q, K110, hb110, B110⟩
      have N110 := Fr.app N107 N110q
      show Goes p e below (T110.setTop (mkF m 181 #[.val (.int p1), .val (.int p2), .val (.int p3), .val (.int p4), .val (.int (3 : Int32)), .val (.int (Int32.ofNat d0)), .val (.int (Int32.ofNat d1)), .val (.int (Int32.ofNat d2)), .val (.int (Int32.ofNat pad)), .val (.int (Int32.ofNat d2)), .val (.int (Int32.ofNat N)), .val (.ref o78), .val (.ref o79), .val (.ref o93), .unset, .unset] [.ref b110])) _
      rw [hres.1] at B110
      have Alb110 : Al Z T110.heap b110 .int [.int (Int32.ofNat d0), .int (Int32.ofNat d1), .int (Int32.ofNat d2)] := B110
      have nbd : ¬ (Value.ref b110 = Value.ref o78) := fun z => Nat.ne_of_lt (Nat.lt_of_lt_of_le ltd2 hb110) (Value.ref.inj z).symm
      refine g_astore X110 hx 183 rfl (hb hby at_181) rfl #[.val (.int p1), .val (.int p2), .val (.int p3), .val (.int p4), .val (.int (3 : Int32)), .val (.int (Int32.ofNat d0)), .val (.int (Int32.ofNat d1)), .val (.int (Int32.ofNat d2)), .val (.int (Int32.ofNat pad)), .val (.int (Int32.ofNat d2)), .val (.int (Int32.ofNat N)), .val (.ref o78), .val (.ref o79), .val (.ref o93), .val (.ref b110), .unset] rfl ?_
      refine g_aload X110 hx 185 rfl (hb hby at_183) rfl rfl ?_
      refine g_alen X110 hx hZ 186 rfl (hb hby at_185) rfl Alb110 (3 : Int32) rfl ?_
      refine g_iload X110 hx 188 rfl (hb hby at_186) rfl ?_
      refine g_icmpN X110 hx 191 rfl (hb hby at_188) (XT.ii_ne_f rfl) ?_
      refine g_iload X110 hx 193 rfl (hb hby at_191) rfl ?_
      refine g_iconst X110 hx 194 rfl (1 : Int32) rfl (hb hby at_193) ?_
      refine g_icmpN X110 hx 197 rfl (hb hby at_194) (XT.ii_lt_f (by decide)) ?_
      refine g_aload X110 hx 199 rfl (hb hby at_197) rfl rfl ?_
      refine g_iconst X110 hx 200 rfl (0 : Int32) rfl (hb hby at_199) ?_
      refine g_iaload X110 hx hZ 201 rfl (hb hby at_200) rfl Alb110 0 rfl (.int (Int32.ofNat d0)) rfl ?_
      refine g_iload X110 hx 203 rfl (hb hby at_201) rfl ?_
      refine g_icmpN X110 hx 206 rfl (hb hby at_203) (XT.ii_ne_f rfl) ?_
      refine g_iload X110 hx 208 rfl (hb hby at_206) rfl ?_
      refine g_iconst X110 hx 209 rfl (2 : Int32) rfl (hb hby at_208) ?_
      refine g_icmpN X110 hx 212 rfl (hb hby at_209) (XT.ii_lt_f (by decide)) ?_
      refine g_aload X110 hx 214 rfl (hb hby at_212) rfl rfl ?_
      refine g_iconst X110 hx 215 rfl (1 : Int32) rfl (hb hby at_214) ?_
      refine g_iaload X110 hx hZ 216 rfl (hb hby at_215) rfl Alb110 1 rfl (.int (Int32.ofNat d1)) rfl ?_
      refine g_iload X110 hx 218 rfl (hb hby at_216) rfl ?_
      refine g_icmpN X110 hx 221 rfl (hb hby at_218) (XT.ii_ne_f rfl) ?_
      refine g_iload X110 hx 223 rfl (hb hby at_221) rfl ?_
      refine g_iconst X110 hx 224 rfl (3 : Int32) rfl (hb hby at_223) ?_
      refine g_icmpN X110 hx 227 rfl (hb hby at_224) (XT.ii_lt_f (by decide)) ?_
      refine g_aload X110 hx 229 rfl (hb hby at_227) rfl rfl ?_
      refine g_iconst X110 hx 230 rfl (2 : Int32) rfl (hb hby at_229) ?_
      refine g_iaload X110 hx hZ 231 rfl (hb hby at_230) rfl Alb110 2 rfl (.int (Int32.ofNat d2)) rfl ?_
      refine g_iload X110 hx 233 rfl (hb hby at_231) rfl ?_
      refine g_icmpN X110 hx 236 rfl (hb hby at_233) (XT.ii_ne_f rfl) ?_
      refine g_iconst X110 hx 237 rfl (1 : Int32) rfl (hb hby at_236) ?_
      refine g_goto X110 hx 241 (hb hby at_237) (by decide) (by decide) ?_
      refine g_istore X110 hx 243 rfl (hb hby at_241) #[.val (.int p1), .val (.int p2), .val (.int p3), .val (.int p4), .val (.int (3 : Int32)), .val (.int (Int32.ofNat d0)), .val (.int (Int32.ofNat d1)), .val (.int (Int32.ofNat d2)), .val (.int (Int32.ofNat pad)), .val (.int (Int32.ofNat d2)), .val (.int (Int32.ofNat N)), .val (.ref o78), .val (.ref o79), .val (.ref o93), .val (.ref b110), .val (.int (1 : Int32))] rfl ?_
      refine g_iload X110 hx 245 rfl (hb hby at_243) rfl ?_
      refine g_ifN X110 hx 248 rfl (hb hby at_245) (XT.i0_eq_f (by decide)) ?_
      refine g_aload X110 hx 250 rfl (hb hby at_248) rfl rfl ?_
      refine g_aload X110 hx 252 rfl (hb hby at_250) rfl rfl ?_
      refine g_acmpN X110 hx 255 rfl (hb hby at_252) rfl rfl (XT.aa_eq_f nbd) ?_
      refine g_iconst X110 hx 256 rfl (1 : Int32) rfl (hb hby at_255) ?_
      refine g_goto X110 hx 260 (hb hby at_256) (by decide) (by decide) ?_
      exact g_retZ X110 hx hret hlk rfl (hb hby at_260) ⟨rfl, N110⟩ (by decide) (by decide)
set_option maxRecDepth 65536 in
set_option maxHeartbeats 40000000 in
theorem comes_1 {Post : Tables → Env → Array Value → State → Outcome → State → Prop} (hpost : ∀ tb e args s v u, (limb_1_1.after args s (.returned v) u = true ∧ limb_1_2.after args s (.returned v) u = true ∧ True) → FrameEnd s (.returned v) u (Jvm.fieldLocs frame_1_writes args s ++ Jvm.arrayLocs frame_1_arrays args s ++ Jvm.staticLocs frame_1_statics s) 24 128 → Post tb e args s (.returned v) u) :
    ArmFor flags0 classFile x code maxLocals ret World_1 tables_1 room_1 Calls_1 rest_1 Pre_1 Post := by
  intro l hfl _ _ p e ha hc hk s m args below hf hA hF happ hP
  obtain ⟨hcalls, hrest, hpre⟩ := hP
  obtain ⟨-, -, -, hnamed, -, -, -, hat⟩ := (Spec.applies_iff hf).mp happ
  obtain ⟨hg, hn⟩ := and_e (Cond.before_iff.mp (show (Jvm.Cond.and given_1 narrow_1).before args s = true from hpre))
  obtain ⟨h1, hr1⟩ := and_e hg
  obtain ⟨hk1, hr2⟩ := and_e hr1
  obtain ⟨hk2, hr3⟩ := and_e hr2
  obtain ⟨hk3, hr4⟩ := and_e hr3
  obtain ⟨w0, w1, w2, w3, rfl⟩ : ∃ w0 w1 w2 w3 : Value, args = #[w0, w1, w2, w3] := by
    have hs : args.size = 4 := by simpa [Cond.value, given_1] using h1
    obtain ⟨L⟩ := args
    match L, hs with
    | [w0, w1, w2, w3], _ => exact ⟨w0, w1, w2, w3, rfl⟩
  have hw := fun d (hd : d ∈ tables_1) => atoms_spec (ws := Jvm.Cond.code x code maxLocals ret :: tables_1) hat d (List.mem_cons_of_mem _ hd)
  have hfit : Fit s := fun {y c} hc i hi => by
    obtain ⟨ha, rfl⟩ := Array.getElem?_eq_some_iff.mp hc
    have q := List.all_eq_true.mp ((Array.all_eq_true_iff_forall_mem.mp hF) _ (Array.getElem_mem ha)) i (List.mem_range.mpr hi)
    simpa [Array.getElem?_eq_getElem hi] using q
  obtain ⟨i0, e0⟩ := is_v hk1
  obtain rfl : w0 = (.int i0) := Option.some.inj e0
  obtain ⟨i1, e1⟩ := is_v hk2
  obtain rfl : w1 = (.int i1) := Option.some.inj e1
  obtain ⟨i2, e2⟩ := is_v hk3
  obtain rfl : w2 = (.int i2) := Option.some.inj e2
  obtain ⟨i3, e3⟩ := is_v hr4
  obtain rfl : w3 = (.int i3) := Option.some.inj e3
  obtain ⟨n, o, h1, h2, h3, _, L, rfl, ⟨rfl, N⟩, hq⟩ := rm0 l s _ hw tables_1 i0 i1 i2 i3  s.heap s.heap.size (Nat.le_refl _)  p e ha hc hk s m _ below hf ((Spec.applies_iff_loose hf).mp happ).1 ⟨rfl, State.Warmed39.refl s, rfl⟩ trivial
  refine ⟨n, _, h1, h2, h3, hpost _ _ _ _ _ _ ⟨Cond.after_iff.mpr rfl, Cond.after_iff.mpr (eq_i res_at (Term.int_eval (1)) rfl), trivial⟩ ⟨hq.1, hq.2.1, (hq.2.2.sift fun y hy => Or.inr (N y hy)).mono (by decide) (by decide)⟩⟩
theorem main_1_1 : Claimed_1_1 := comes_1 fun _ _ _ _ _ _ h hF => ⟨h.1, hF⟩
theorem main_1_2 : Claimed_1_2 := comes_1 fun _ _ _ _ _ _ h hF => ⟨h.2.1, hF⟩
end Jvm.Pilot.@@N@@
namespace Jvm.Pilot.@@N@@
open Jvm Jvm.ClassFile Sem Op Lib Jvm.Free Jvm.Stand Jvm.Pilot.@@N@@.Jvm.D
/-! MADE BY PROGRAM (witnessworld.py) out of the Statement's table words and the real class files: 10 classes; the members and pool entries that the words name. The judged class is class 1, her method 1. -/
namespace start1
open Jvm.ClassFile
def u (s : String) : CpInfo := .utf8 (stringToUtf16 s)
/-- a pool by its gaps: so many unusable entries, then the entry; so many at the end -/
def gap : Nat → List CpInfo → List CpInfo
  | 0, r => r
  | n + 1, r => .unusable :: gap n r
def poolList (es : List (Nat × CpInfo)) (last : Nat) : List CpInfo := es.foldr (fun e r => gap e.1 (e.2 :: r)) (gap last [])
def pool (es : List (Nat × CpInfo)) (last : Nat) : Array CpInfo := ⟨poolList es last⟩
def fileOf (pool : Array CpInfo) (this : Nat) (attrs : Array Attribute := #[]) (ms : Array MethodInfo := #[]) (fl : Nat := 33) (sup : Nat := 0) (ifs : Array Nat := #[]) (fds : Array FieldInfo := #[]) : ClassFile where
  minorVersion := 0
  majorVersion := 65
  constantPool := pool
  accessFlags := fl
  thisClass := this
  superClass := sup
  interfaces := ifs
  fields := fds
  methods := ms
  attributes := attrs
def plain (name : String) (sup : Option ClassId) : Class where
  name := name
  kind := .ordinary
  loader := none
  accessFlags := 33
  super := sup
  interfaces := #[]
  cf := none
  fields := #[]
  methods := #[]
  instanceTypes := #[]
  staticTypes := #[]
  resolved := #[]
  callSites := []
  init := .initialized
  statics := none
  mirror := none

def pool0 : Array CpInfo := pool [(5, u "<init>"), (0, u "()V"), (1, .class_ 10), (1, u "java/lang/Object"), (85, u "clone"), (0, u "()Ljava/lang/Object;")] 26

def k0c0 : Code := { maxStack := 0, maxLocals := 1, code := object_method_1_code, exceptionTable := #[], attributes := #[] }
def k0m0 : Method := { name := "<init>", desc := "()V", sig := { parameters := [], returnType := none }, accessFlags := 1, code := some k0c0 }
def k0m1 : Method := { name := "clone", desc := "()Ljava/lang/Object;", sig := { parameters := [], returnType := some (.object "java/lang/Object") }, accessFlags := 260, code := none }
/-- java/lang/Object -/
def k0 : Class := { plain "java/lang/Object" none with
  accessFlags := 33
  interfaces := #[]
  cf := some (fileOf pool0 8 #[] #[{ accessFlags := 1, nameIndex := 5, descriptorIndex := 6, attributes := #[] }, { accessFlags := 260, nameIndex := 96, descriptorIndex := 97, attributes := #[] }] 33 0 #[] #[])
  fields := #[]
  methods := #[k0m0, k0m1]
  instanceTypes := #[]
  staticTypes := #[]
  resolved := Array.replicate 124 none
  statics := none }

def pool1 : Array CpInfo := pool [(2, .class_ 4), (1, u "java/lang/Object"), (0, u "<init>"), (0, u "()V"), (0, .integer 2147483647), (0, .class_ 9), (0, u "com/example/cranfield/cranfield/index/FieldLengths"), (0, .methodref 8 11), (0, .nameAndType 5 12), (0, u "([I[II)V"), (0, .methodref 8 14), (0, .nameAndType 15 16), (0, u "documents"), (0, u "()[I"), (0, .class_ 18), (0, u "com/example/cranfield/cranfield/index/FieldLengthsDocumentsPinLaw"), (2, u "law"), (0, u "(IIII)Z")] 5

def k1m0 : Method := { name := "<init>", desc := "()V", sig := { parameters := [], returnType := none }, accessFlags := 1, code := none }
def k1c1 : Code := { maxStack := 5, maxLocals := 16, code := code, exceptionTable := #[], attributes := #[] }
def k1m1 : Method := { name := "law", desc := "(IIII)Z", sig := { parameters := [.int, .int, .int, .int], returnType := some .boolean }, accessFlags := 9, code := some k1c1 }
/-- com/example/cranfield/cranfield/index/FieldLengthsDocumentsPinLaw -/
def k1 : Class := { plain "com/example/cranfield/cranfield/index/FieldLengthsDocumentsPinLaw" (some 0) with
  accessFlags := 49
  interfaces := #[]
  cf := some (fileOf pool1 17 #[] #[{ accessFlags := 1, nameIndex := 5, descriptorIndex := 6, attributes := #[] }, { accessFlags := 9, nameIndex := 21, descriptorIndex := 22, attributes := #[] }] 49 2 #[] #[])
  fields := #[]
  methods := #[k1m0, k1m1]
  instanceTypes := #[]
  staticTypes := #[]
  resolved := Array.replicate 28 none
  statics := none }

def pool2 : Array CpInfo := pool [(1, .methodref 2 3), (0, .class_ 4), (0, .nameAndType 5 6), (0, u "java/lang/Object"), (0, u "<init>"), (0, u "()V"), (0, .fieldref 8 9), (0, .class_ 10), (0, .nameAndType 11 12), (0, u "com/example/cranfield/cranfield/index/FieldLengths"), (0, u "documentCount"), (0, u "I"), (0, .long 2), (1, .methodref 16 17), (0, .class_ 18), (0, .nameAndType 19 20), (0, u "java/util/Arrays"), (0, u "fill"), (0, u "([II)V"), (0, .fieldref 8 22), (0, .nameAndType 23 24), (0, u "docs"), (0, u "[I"), (0, .fieldref 8 26), (0, .nameAndType 27 24), (0, u "lengths"), (15, u "()Ljava/lang/Object;"), (10, u "documents"), (0, u "()[I"), (6, u "([I[II)V"), (0, .methodref 64 65), (0, .class_ 24), (0, .nameAndType 66 43), (0, u "clone")] 13

def k2c0 : Code := { maxStack := 6, maxLocals := 6, code := prog_39_method_1_code, exceptionTable := #[], attributes := #[] }
def k2m0 : Method := { name := "<init>", desc := "([I[II)V", sig := { parameters := [(.array .int), (.array .int), .int], returnType := none }, accessFlags := 0, code := some k2c0 }
def k2c1 : Code := { maxStack := 3, maxLocals := 4, code := prog_39_method_3_code, exceptionTable := #[], attributes := #[] }
def k2m1 : Method := { name := "documents", desc := "()[I", sig := { parameters := [], returnType := some (.array .int) }, accessFlags := 0, code := some k2c1 }
/-- com/example/cranfield/cranfield/index/FieldLengths -/
def k2 : Class := { plain "com/example/cranfield/cranfield/index/FieldLengths" (some 0) with
  accessFlags := 48
  interfaces := #[]
  cf := some (fileOf pool2 8 #[] #[{ accessFlags := 0, nameIndex := 5, descriptorIndex := 62, attributes := #[] }, { accessFlags := 0, nameIndex := 54, descriptorIndex := 55, attributes := #[] }] 48 2 #[] #[{ accessFlags := 18, nameIndex := 23, descriptorIndex := 24, attributes := #[] }, { accessFlags := 18, nameIndex := 27, descriptorIndex := 24, attributes := #[] }, { accessFlags := 18, nameIndex := 11, descriptorIndex := 12, attributes := #[] }])
  fields := #[{ name := "docs", type := (.array .int), accessFlags := 18, slot := 0, constantValue := 0 }, { name := "lengths", type := (.array .int), accessFlags := 18, slot := 1, constantValue := 0 }, { name := "documentCount", type := .int, accessFlags := 18, slot := 2, constantValue := 0 }]
  methods := #[k2m0, k2m1]
  instanceTypes := #[(.array .int), (.array .int), .int]
  staticTypes := #[]
  resolved := Array.replicate 80 none
  statics := none }

def pool3 : Array CpInfo := pool [(2, .class_ 4), (1, u "java/lang/Object"), (0, u "<init>"), (0, u "()V"), (7, .class_ 16), (1, u "java/util/Arrays"), (57, .class_ 76), (1, u "java/util/Arrays$NaturalOrder"), (36, .class_ 115), (1, u "java/util/Arrays$LegacyMergeSort"), (1, u "Z"), (257, .class_ 376), (0, u "java/util/Arrays$ArrayList"), (68, u "$assertionsDisabled"), (269, u "MIN_ARRAY_SORT_GRAN"), (0, u "I"), (2, u "INSERTIONSORT_THRESHOLD"), (120, u "fill"), (4, u "([II)V"), (129, .class_ 976), (0, u "java/util/Arrays$ArrayItr")] 52

def k3m0 : Method := { name := "<init>", desc := "()V", sig := { parameters := [], returnType := none }, accessFlags := 2, code := none }
def k3c1 : Code := { maxStack := 3, maxLocals := 4, code := jdk_65_method_103_code, exceptionTable := #[], attributes := #[] }
def k3m1 : Method := { name := "fill", desc := "([II)V", sig := { parameters := [(.array .int), .int], returnType := none }, accessFlags := 9, code := some k3c1 }
/-- java/util/Arrays -/
def k3 : Class := { plain "java/util/Arrays" (some 0) with
  accessFlags := 49
  interfaces := #[]
  cf := some (fileOf pool3 14 #[.nestMembers #[975, 375, 113, 74]] #[{ accessFlags := 2, nameIndex := 5, descriptorIndex := 6, attributes := #[] }, { accessFlags := 9, nameIndex := 840, descriptorIndex := 845, attributes := #[] }] 49 2 #[] #[{ accessFlags := 26, nameIndex := 715, descriptorIndex := 716, attributes := #[] }, { accessFlags := 26, nameIndex := 719, descriptorIndex := 716, attributes := #[] }, { accessFlags := 4120, nameIndex := 445, descriptorIndex := 117, attributes := #[] }])
  fields := #[{ name := "MIN_ARRAY_SORT_GRAN", type := .int, accessFlags := 26, slot := 0, constantValue := 0 }, { name := "INSERTIONSORT_THRESHOLD", type := .int, accessFlags := 26, slot := 1, constantValue := 0 }, { name := "$assertionsDisabled", type := .boolean, accessFlags := 4120, slot := 2, constantValue := 0 }]
  methods := #[k3m0, k3m1]
  instanceTypes := #[]
  staticTypes := #[.int, .int, .boolean]
  resolved := Array.replicate 1029 none
  statics := none }

def pool4 : Array CpInfo := pool [(1, .class_ 2), (0, u "java/lang/Cloneable"), (0, .class_ 4), (0, u "java/lang/Object")] 2

/-- java/lang/Cloneable -/
def k4 : Class := { plain "java/lang/Cloneable" (some 0) with
  accessFlags := 1537
  interfaces := #[]
  cf := some (fileOf pool4 1 #[] #[] 1537 3 #[] #[])
  fields := #[]
  methods := #[]
  instanceTypes := #[]
  staticTypes := #[]
  resolved := Array.replicate 7 none
  statics := none }

def pool5 : Array CpInfo := pool [(1, u "java/io/Serializable"), (0, .class_ 1), (0, u "java/lang/Object"), (0, .class_ 3)] 3

/-- java/io/Serializable -/
def k5 : Class := { plain "java/io/Serializable" (some 0) with
  accessFlags := 1537
  interfaces := #[]
  cf := some (fileOf pool5 2 #[] #[] 1537 4 #[] #[])
  fields := #[]
  methods := #[]
  instanceTypes := #[]
  staticTypes := #[]
  resolved := Array.replicate 8 none
  statics := none }

/-- the primitive byte -/
def k6 : Class := { plain "byte" none with kind := .primitive 'B', accessFlags := 0x411 }
/-- [B -/
def k7 : Class := { plain "[B" (some 0) with kind := .array 6 .byte, interfaces := #[4, 5], accessFlags := 1041 }

/-- the primitive int -/
def k8 : Class := { plain "int" none with kind := .primitive 'I', accessFlags := 0x411 }
/-- [I -/
def k9 : Class := { plain "[I" (some 0) with kind := .array 8 .int, interfaces := #[4, 5], accessFlags := 1041 }

def heap : Heap := #[]
def classes : Array Class := #[k0, k1, k2, k3, k4, k5, k6, k7, k8, k9]
def interned : List (Array UInt16 × Addr) := []
def slotsUsed : Nat := 0
def theMethod : MethodId := ⟨1, 1⟩
def args0 : Array Value := #[.int 3, .int 5, .int 6, .int 7]
def aboutOver (below : List Frame) : State where
  vm := { classes := classes, interned := interned.toArray }
  heap := heap
  slotsUsed := slotsUsed
  threads := #[{ frames := .invoking theMethod args0 :: below }]
def below0 : List Frame := [.native { method := ⟨0, 0⟩, args := #[] }]
def about1 : State := aboutOver below0
def p0 : Program := .bare "" "" ""
def e0 : Env := launch0.env 0 0 0
theorem w_frames : about1.frames = Frame.invoking theMethod args0 :: below0 := rfl
set_option maxRecDepth 65536 in
theorem w_args : argsFit about1.vm theMethod args0 = true := by decide +kernel
set_option maxRecDepth 65536 in
theorem w_heap : heapFits about1 = true := by decide +kernel
set_option maxRecDepth 65536 in
theorem w_runnable : about1.curStatus? = some .runnable := by decide +kernel
set_option maxRecDepth 65536 in
theorem w_alone : about1.alone = true := by decide +kernel
set_option maxRecDepth 65536 in
theorem w_named : about1.methodNamed? x = some theMethod := by decide +kernel
set_option maxRecDepth 65536 in
theorem w_hears : about1.hears theMethod below0 = true := by decide +kernel
set_option maxRecDepth 65536 in
theorem w_ripe : about1.ripe theMethod args0 below0 = true := by decide +kernel
theorem w_running : about1.status = .running := rfl
set_option maxRecDepth 65536 in
theorem w_room : about1.hasRoom e0.platform room_1 = true :=
  launch0.hasRoom_least _ room_1 (by decide +kernel) (by decide +kernel) (by decide +kernel) (by decide +kernel) (by decide +kernel) (by decide +kernel)
theorem allAtoms_all (ts : List Jvm.Cond) (a : Array Jvm.Value) (st : Jvm.State) : (allAtoms ts).before a st = ts.all (fun c => c.before a st) := by
  induction ts with
  | nil => rfl
  | cons c t ih =>
    show (Jvm.Cond.and c (allAtoms t)).before a st = _
    rw [Jvm.Cond.before_and, ih, List.all_cons]
def words1 : List Jvm.Cond := Jvm.Cond.code x code maxLocals ret :: tables_1
/-- a 'code' word, met by the world's own term for the bytes: nothing is compared byte by byte -/
theorem code_word {y : MethodName} {bytes : ByteArray} {mx : Nat} {rt : Option FieldType} {a : Array Value} {s : State} {m : MethodId} {meth : Method} {c : Code} (h1 : s.methodNamed? y = some m) (h2 : s.vm.method? m = some meth) (h3 : meth.code = some c) (h4 : c.code = bytes)
    (h5 : (c.maxLocals == mx && c.exceptionTable.isEmpty && decide (c.maxStack ≤ mostOperands) && decide (meth.sig.returnType = rt) && !meth.locks && decide (parseMethodDescriptor y.desc = some meth.sig)) = true) : (Jvm.Cond.code y bytes mx rt).before a s = true := by
  simp only [Bool.and_eq_true, beq_iff_eq, Bool.not_eq_true', decide_eq_true_eq] at h5
  obtain ⟨⟨⟨⟨⟨g1, g2⟩, g3⟩, g4⟩, g5⟩, g6⟩ := h5
  simp [Cond.before, Cond.holds, Cond.value, h1, h2, h3, h4, g1, g2, g3, g4, g5, g6]
def isCode : Jvm.Cond → Bool
  | .code _ _ _ _ => true
  | _ => false
theorem all_split {L : List Jvm.Cond} {P : Jvm.Cond → Bool} (h1 : L.all (fun c => isCode c || P c) = true) (h2 : ∀ c ∈ L.filter isCode, P c = true) : L.all P = true := by
  refine List.all_eq_true.mpr fun c hc => ?_
  have h := List.all_eq_true.mp h1 c hc
  rcases Bool.eq_false_or_eq_true (isCode c) with hi | hi
  · exact h2 c (List.mem_filter.mpr ⟨hc, hi⟩)
  · simpa [hi] using h
set_option maxRecDepth 65536 in
theorem w_c0 : (Jvm.Cond.code x code maxLocals ret).before args0 about1 = true := code_word (m := ⟨1, 1⟩) (meth := k1m1) (c := k1c1) (by decide +kernel) rfl rfl rfl (by decide +kernel)
set_option maxRecDepth 65536 in
theorem w_c1 : (Jvm.Cond.code ({ cls := "com/example/cranfield/cranfield/index/FieldLengths", name := "<init>", desc := "([I[II)V" } : Jvm.MethodName) prog_39_method_1_code (6 : Nat) (Option.none : Option Jvm.ClassFile.FieldType)).before args0 about1 = true := code_word (m := ⟨2, 0⟩) (meth := k2m0) (c := k2c0) (by decide +kernel) rfl rfl rfl (by decide +kernel)
set_option maxRecDepth 65536 in
theorem w_c2 : (Jvm.Cond.code ({ cls := "java/lang/Object", name := "<init>", desc := "()V" } : Jvm.MethodName) object_method_1_code (1 : Nat) (Option.none : Option Jvm.ClassFile.FieldType)).before args0 about1 = true := code_word (m := ⟨0, 0⟩) (meth := k0m0) (c := k0c0) (by decide +kernel) rfl rfl rfl (by decide +kernel)
set_option maxRecDepth 65536 in
theorem w_c3 : (Jvm.Cond.code ({ cls := "java/util/Arrays", name := "fill", desc := "([II)V" } : Jvm.MethodName) jdk_65_method_103_code (4 : Nat) (Option.none : Option Jvm.ClassFile.FieldType)).before args0 about1 = true := code_word (m := ⟨3, 1⟩) (meth := k3m1) (c := k3c1) (by decide +kernel) rfl rfl rfl (by decide +kernel)
set_option maxRecDepth 65536 in
theorem w_c4 : (Jvm.Cond.code ({ cls := "com/example/cranfield/cranfield/index/FieldLengths", name := "documents", desc := "()[I" } : Jvm.MethodName) prog_39_method_3_code (4 : Nat) (Option.some (Jvm.ClassFile.FieldType.array Jvm.ClassFile.FieldType.int))).before args0 about1 = true := code_word (m := ⟨2, 1⟩) (meth := k2m1) (c := k2c1) (by decide +kernel) rfl rfl rfl (by decide +kernel)
def codes1 : List Jvm.Cond := [Jvm.Cond.code x code maxLocals ret, Jvm.Cond.code ({ cls := "com/example/cranfield/cranfield/index/FieldLengths", name := "<init>", desc := "([I[II)V" } : Jvm.MethodName) prog_39_method_1_code (6 : Nat) (Option.none : Option Jvm.ClassFile.FieldType), Jvm.Cond.code ({ cls := "java/lang/Object", name := "<init>", desc := "()V" } : Jvm.MethodName) object_method_1_code (1 : Nat) (Option.none : Option Jvm.ClassFile.FieldType), Jvm.Cond.code ({ cls := "java/util/Arrays", name := "fill", desc := "([II)V" } : Jvm.MethodName) jdk_65_method_103_code (4 : Nat) (Option.none : Option Jvm.ClassFile.FieldType), Jvm.Cond.code ({ cls := "com/example/cranfield/cranfield/index/FieldLengths", name := "documents", desc := "()[I" } : Jvm.MethodName) prog_39_method_3_code (4 : Nat) (Option.some (Jvm.ClassFile.FieldType.array Jvm.ClassFile.FieldType.int))]
set_option maxRecDepth 65536 in
theorem codes_eq : words1.filter isCode = codes1 := rfl
theorem w_codes : ∀ c ∈ words1.filter isCode, c.before args0 about1 = true := by
  rw [codes_eq]
  intro c hc
  simp only [codes1, List.mem_cons, List.not_mem_nil, or_false] at hc
  rcases hc with rfl | rfl | rfl | rfl | rfl
  · exact w_c0
  · exact w_c1
  · exact w_c2
  · exact w_c3
  · exact w_c4
set_option maxRecDepth 65536 in
theorem w_t1 : (words1.take 24).all (fun c => isCode c || c.before args0 about1) = true := by decide +kernel
set_option maxRecDepth 65536 in
theorem w_t2 : (words1.drop 24).all (fun c => isCode c || c.before args0 about1) = true := by decide +kernel
theorem w_tables : (allAtoms (Jvm.Cond.code x code maxLocals ret :: tables_1)).before args0 about1 = true := by
  rw [allAtoms_all]
  show words1.all (fun c => c.before args0 about1) = true
  refine all_split ?_ w_codes
  rw [← List.take_append_drop 24 words1, List.all_append, w_t1, w_t2]
  rfl
set_option maxRecDepth 65536 in
theorem w_case : (Jvm.Cond.and given_1 narrow_1).before args0 about1 = true := by decide +kernel
theorem w_applies : (headSpec (Jvm.Cond.code x code maxLocals ret :: tables_1) room_1).applies x e0.platform about1 = true :=
  (Spec.applies_iff w_frames).mpr ⟨w_running, w_runnable, w_alone, w_named, w_hears, w_ripe, w_room, w_tables⟩
theorem atStart : AtStart classFile x code maxLocals ret World_1 tables_1 room_1 Calls_1 rest_1 Pre_1 launch0 p0 e0 about1 theMethod args0 below0 :=
  ⟨lists_1, trivial, launch0.admits_env _ _ _, launch0.least_env, fairChoices_fair.cas, fairChoices_fair.clock, w_frames, w_args, w_heap, w_applies, trivial, trivial, w_case⟩
end start1
theorem witness_1 : WitnessClaimed_1 := ⟨start1.p0, start1.e0, start1.about1, start1.theMethod, start1.args0, start1.below0, start1.atStart⟩
end Jvm.Pilot.@@N@@
