import JvmDerived
import JvmDerived.Pilot.@@N@@Statement
import JvmDerived.Pilot.@@N@@Code
set_option linter.unusedVariables false
set_option linter.unusedSimpArgs false
namespace Jvm.Pilot.@@N@@
open Jvm Jvm.ClassFile Sem Op Lib Jvm.Free Jvm.Stand Jvm.LawKit Jvm.RoadKit Bundle Jvm.Pilot.@@N@@.Jvm.D
section OwnKit
variable {p : Program} {l : Launch} {e : Env} {R : Room} {s : State} {m : MethodId} {args : Array Value} {below : List Frame} {meth : Method} {c : Code} {T : State} {locs : List Loc} {cells slots : Nat} {P : State → Outcome → Prop} {Z : State} {a0 : Array Value} {h : Heap} {pc : Nat} {Ls : Array Slot} {st : List Value}
def Goes (p : Program) (e : Env) (below : List Frame) (S : State) (P : State → Outcome → Prop) : Prop := ∃ (U : State) (o : Outcome), Steps p.tables e below S U ∧ U.status = .running ∧ Ended U below o ∧ P U o
def Endz (s : State) (kc ks : Nat) (Q : Option Value → Heap → List Loc → Prop) (U : State) (o : Outcome) : Prop := ∃ v L, o = .returned v ∧ Q v U.heap L ∧ FrameEnd s o U L kc ks
theorem go {S S' : State} (hs : ∀ t, Steps p.tables e below S' t → Steps p.tables e below S t) (k : Goes p e below S' P) : Goes p e below S P := by
  obtain ⟨U, o, k1, k2⟩ := k
  exact ⟨U, o, hs U k1, k2⟩
theorem goT {S S' : State} (hs : Steps p.tables e below S S') (k : Goes p e below S' P) : Goes p e below S P := by
  obtain ⟨U, o, k1, k2⟩ := k
  exact ⟨U, o, hs.trans k1, k2⟩
theorem own_cast {g g' : JFrame} (q : g = g') (k : Goes p e below (T.setTop g') P) : Goes p e below (T.setTop g) P := q ▸ k
abbrev OwnMet (l : Launch) (Z : State) (y : MethodName) (bytes : ByteArray) (maxL : Nat) (ret : Option FieldType) (ws : List Jvm.Cond) (rm : Room) (as' : Array Value) (h : Heap) (Q : Option Value → Heap → List Loc → Prop) : Prop := MetFree l y (head1 (Jvm.Cond.code y bytes maxL ret :: ws) rm) (fun a U => a = as' ∧ Z.Warmed39 U.vm ∧ U.heap = h) (fun _ _ _ _ _ => True) (fun _ U o U' => ∃ v L, o = .returned v ∧ Q v U'.heap L ∧ FrameEnd U o U' L rm.cells rm.slots)
theorem own_body {y : MethodName} {bytes : ByteArray} {maxL : Nat} {ret : Option FieldType} {ws : List Jvm.Cond} {rm : Room} {as' : Array Value} {Q : Option Value → Heap → List Loc → Prop} (hpn : plainFor y = true)
    (B : ∀ (p : Program) (e : Env) (s : State) (m : MethodId) (below : List Frame) (meth : Method) (c : Code) (s₁ : State), p.tables.exec = Jvm.exec → c.code = bytes → c.maxLocals = maxL → s.vm.findClass y.cls = some m.cls → meth.name = y.name → meth.sig.returnType = ret → meth.locks = false → Z.Warmed39 s.vm → Stand p l e rm s m as' below meth c s₁ [] 0 0 → s₁.heap = h → Goes p e below (s₁.setTop (entryFrame m as' maxL)) (Endz s rm.cells rm.slots Q)) : OwnMet l Z y bytes maxL ret ws rm as' h Q := by
  refine MetFree.of_bodySF hpn hisR ?_
  intro p e s m args below meth c s₁ Bd hml0 hP hK
  obtain ⟨rfl, hZ, hh⟩ := hP
  exact B p e s m below meth c s₁ Bd.exec Bd.bytes hml0 (findClass_of_methodNamed Bd.named) (name_of_methodNamed Bd.named Bd.method).1 Bd.returns (BodyLoose.notSynchronized Bd) hZ (Stand.of_body Bd) (by rw [← hh, Bd.state]; rfl)
theorem g_ret {w : Value} {t : FieldType} {i : Instr} {kc ks : Nat} {Q : Option Value → Heap → List Loc → Prop} (X : Stand p l e R s m args below meth c T locs cells slots) (hx : p.tables.exec = Jvm.exec) (hret : meth.sig.returnType = some t) (hlk : meth.locks = false) (hn : narrow t w = w)
    (hi : (i = .ireturn ∧ (t = .int ∨ t = .boolean ∨ t = .byte ∨ t = .char ∨ t = .short) ∧ ∃ z, w = .int z) ∨ (i = .lreturn ∧ t = .long ∧ ∃ z, w = .long z) ∨ (i = .dreturn ∧ t = .double ∧ ∃ z, w = .double z) ∨ (i = .freturn ∧ t = .float ∧ ∃ z, w = .float z) ∨ (i = .areturn ∧ t.isReference = true ∧ w.isRef = true))
    (hd : decode c.code pc = .ok (i, 1)) (hQ : Q (some w) T.heap locs) (hc : cells ≤ kc) (hs : slots ≤ ks) : Goes p e below (T.setTop (mkF m pc Ls (w :: st))) (Endz s kc ks Q) := by
  obtain ⟨fs, hr, hrun, hended, hW, hsame⟩ := X.leave (v := some w) (fun h => by rw [hret] at h; cases h) hlk
  exact ⟨_, _, retOut X hx hret hn hi hd hr, hrun, hended, _, _, rfl, hQ, ⟨_, rfl⟩, hW, hsame.mono hc hs⟩
theorem g_retI {z : Int32} {kc ks : Nat} {Q : Option Value → Heap → List Loc → Prop} (X : Stand p l e R s m args below meth c T locs cells slots) (hx : p.tables.exec = Jvm.exec) (hret : meth.sig.returnType = some .int) (hlk : meth.locks = false) (hd : decode c.code pc = .ok (.ireturn, 1)) (hQ : Q (some (.int z)) T.heap locs) (hc : cells ≤ kc) (hs : slots ≤ ks) : Goes p e below (T.setTop (mkF m pc Ls (.int z :: st))) (Endz s kc ks Q) :=
  g_ret X hx hret hlk rfl (Or.inl ⟨rfl, Or.inl rfl, z, rfl⟩) hd hQ hc hs
theorem g_retZ {z : Int32} {kc ks : Nat} {Q : Option Value → Heap → List Loc → Prop} (X : Stand p l e R s m args below meth c T locs cells slots) (hx : p.tables.exec = Jvm.exec) (hret : meth.sig.returnType = some .boolean) (hlk : meth.locks = false) (hn : narrow .boolean (.int z) = .int z) (hd : decode c.code pc = .ok (.ireturn, 1)) (hQ : Q (some (.int z)) T.heap locs) (hc : cells ≤ kc) (hs : slots ≤ ks) : Goes p e below (T.setTop (mkF m pc Ls (.int z :: st))) (Endz s kc ks Q) :=
  g_ret X hx hret hlk hn (Or.inl ⟨rfl, Or.inr (Or.inl rfl), z, rfl⟩) hd hQ hc hs
theorem g_retJ {z : Int64} {kc ks : Nat} {Q : Option Value → Heap → List Loc → Prop} (X : Stand p l e R s m args below meth c T locs cells slots) (hx : p.tables.exec = Jvm.exec) (hret : meth.sig.returnType = some .long) (hlk : meth.locks = false) (hd : decode c.code pc = .ok (.lreturn, 1)) (hQ : Q (some (.long z)) T.heap locs) (hc : cells ≤ kc) (hs : slots ≤ ks) : Goes p e below (T.setTop (mkF m pc Ls (.long z :: st))) (Endz s kc ks Q) :=
  g_ret X hx hret hlk rfl (Or.inr (Or.inl ⟨rfl, rfl, z, rfl⟩)) hd hQ hc hs
theorem g_retA {w : Value} {t : FieldType} {kc ks : Nat} {Q : Option Value → Heap → List Loc → Prop} (X : Stand p l e R s m args below meth c T locs cells slots) (hx : p.tables.exec = Jvm.exec) (hret : meth.sig.returnType = some t) (hlk : meth.locks = false) (hn : narrow t w = w) (ht : t.isReference = true) (hw : w.isRef = true) (hd : decode c.code pc = .ok (.areturn, 1)) (hQ : Q (some w) T.heap locs) (hc : cells ≤ kc) (hs : slots ≤ ks) : Goes p e below (T.setTop (mkF m pc Ls (w :: st))) (Endz s kc ks Q) :=
  g_ret X hx hret hlk hn (Or.inr (Or.inr (Or.inr (Or.inr ⟨rfl, ht, hw⟩)))) hd hQ hc hs
theorem g_ret0 {kc ks : Nat} {Q : Option Value → Heap → List Loc → Prop} (X : Stand p l e R s m args below meth c T locs cells slots) (hx : p.tables.exec = Jvm.exec) (hret : meth.sig.returnType = none) (hlk : meth.locks = false) (hd : decode c.code pc = .ok (.return_, 1)) (hQ : Q none T.heap locs) (hc : cells ≤ kc) (hs : slots ≤ ks) : Goes p e below (T.setTop (mkF m pc Ls [])) (Endz s kc ks Q) := by
  obtain ⟨fs, hr, hrun, hended, hW, hsame⟩ := X.leave (v := none) (fun _ => rfl) hlk
  exact ⟨_, _, X.returnOut hx hret hd hr, hrun, hended, _, _, rfl, hQ, ⟨_, rfl⟩, hW, hsame.mono hc hs⟩
theorem g_iadd (X : Stand p l e R s m args below meth c T locs cells slots) (hx : p.tables.exec = Jvm.exec) (pc' : Nat) (hpc : pc + 1 = pc') {x y : Int32} (hd : decode c.code pc = .ok (.iadd, 1))  (K : Goes p e below (T.setTop (mkF m pc' Ls (.int (x + y) :: st))) P) : Goes p e below (T.setTop (mkF m pc Ls (.int y :: .int x :: st))) P := by
  subst hpc; exact go (fun _ q => XS.iadd X.here hx rfl hd rfl q) K
theorem g_isub (X : Stand p l e R s m args below meth c T locs cells slots) (hx : p.tables.exec = Jvm.exec) (pc' : Nat) (hpc : pc + 1 = pc') {x y : Int32} (hd : decode c.code pc = .ok (.isub, 1))  (K : Goes p e below (T.setTop (mkF m pc' Ls (.int (x - y) :: st))) P) : Goes p e below (T.setTop (mkF m pc Ls (.int y :: .int x :: st))) P := by
  subst hpc; exact go (fun _ q => XS.isub X.here hx rfl hd rfl q) K
theorem g_imul (X : Stand p l e R s m args below meth c T locs cells slots) (hx : p.tables.exec = Jvm.exec) (pc' : Nat) (hpc : pc + 1 = pc') {x y : Int32} (hd : decode c.code pc = .ok (.imul, 1))  (K : Goes p e below (T.setTop (mkF m pc' Ls (.int (x * y) :: st))) P) : Goes p e below (T.setTop (mkF m pc Ls (.int y :: .int x :: st))) P := by
  subst hpc; exact go (fun _ q => XS.imul X.here hx rfl hd rfl q) K
theorem g_iand (X : Stand p l e R s m args below meth c T locs cells slots) (hx : p.tables.exec = Jvm.exec) (pc' : Nat) (hpc : pc + 1 = pc') {x y : Int32} (hd : decode c.code pc = .ok (.iand, 1))  (K : Goes p e below (T.setTop (mkF m pc' Ls (.int (x &&& y) :: st))) P) : Goes p e below (T.setTop (mkF m pc Ls (.int y :: .int x :: st))) P := by
  subst hpc; exact go (fun _ q => XS.iand X.here hx rfl hd rfl q) K
theorem g_ior (X : Stand p l e R s m args below meth c T locs cells slots) (hx : p.tables.exec = Jvm.exec) (pc' : Nat) (hpc : pc + 1 = pc') {x y : Int32} (hd : decode c.code pc = .ok (.ior, 1))  (K : Goes p e below (T.setTop (mkF m pc' Ls (.int (x ||| y) :: st))) P) : Goes p e below (T.setTop (mkF m pc Ls (.int y :: .int x :: st))) P := by
  subst hpc; exact go (fun _ q => XT.ior X.here hx rfl hd rfl q) K
theorem g_ixor (X : Stand p l e R s m args below meth c T locs cells slots) (hx : p.tables.exec = Jvm.exec) (pc' : Nat) (hpc : pc + 1 = pc') {x y : Int32} (hd : decode c.code pc = .ok (.ixor, 1))  (K : Goes p e below (T.setTop (mkF m pc' Ls (.int (x ^^^ y) :: st))) P) : Goes p e below (T.setTop (mkF m pc Ls (.int y :: .int x :: st))) P := by
  subst hpc; exact go (fun _ q => XT.ixor X.here hx rfl hd rfl q) K
theorem g_ishl (X : Stand p l e R s m args below meth c T locs cells slots) (hx : p.tables.exec = Jvm.exec) (pc' : Nat) (hpc : pc + 1 = pc') {x y : Int32} (hd : decode c.code pc = .ok (.ishl, 1))  (K : Goes p e below (T.setTop (mkF m pc' Ls (.int (x <<< (y &&& 31)) :: st))) P) : Goes p e below (T.setTop (mkF m pc Ls (.int y :: .int x :: st))) P := by
  subst hpc; exact go (fun _ q => XT.ishl X.here hx rfl hd rfl q) K
theorem g_ishr (X : Stand p l e R s m args below meth c T locs cells slots) (hx : p.tables.exec = Jvm.exec) (pc' : Nat) (hpc : pc + 1 = pc') {x y : Int32} (hd : decode c.code pc = .ok (.ishr, 1))  (K : Goes p e below (T.setTop (mkF m pc' Ls (.int (x >>> (y &&& 31)) :: st))) P) : Goes p e below (T.setTop (mkF m pc Ls (.int y :: .int x :: st))) P := by
  subst hpc; exact go (fun _ q => XT.ishr X.here hx rfl hd rfl q) K
theorem g_iushr (X : Stand p l e R s m args below meth c T locs cells slots) (hx : p.tables.exec = Jvm.exec) (pc' : Nat) (hpc : pc + 1 = pc') {x y : Int32} (hd : decode c.code pc = .ok (.iushr, 1))  (K : Goes p e below (T.setTop (mkF m pc' Ls (.int (XT.ushr x y) :: st))) P) : Goes p e below (T.setTop (mkF m pc Ls (.int y :: .int x :: st))) P := by
  subst hpc; exact go (fun _ q => XT.iushr X.here hx rfl hd rfl q) K
theorem g_idiv (X : Stand p l e R s m args below meth c T locs cells slots) (hx : p.tables.exec = Jvm.exec) (pc' : Nat) (hpc : pc + 1 = pc') {x y : Int32} (hd : decode c.code pc = .ok (.idiv, 1)) (hy : y ≠ 0) (K : Goes p e below (T.setTop (mkF m pc' Ls (.int (x / y) :: st))) P) : Goes p e below (T.setTop (mkF m pc Ls (.int y :: .int x :: st))) P := by
  subst hpc; exact go (fun _ q => XS.idiv X.here hx rfl hd rfl hy q) K
theorem g_irem (X : Stand p l e R s m args below meth c T locs cells slots) (hx : p.tables.exec = Jvm.exec) (pc' : Nat) (hpc : pc + 1 = pc') {x y : Int32} (hd : decode c.code pc = .ok (.irem, 1)) (hy : y ≠ 0) (K : Goes p e below (T.setTop (mkF m pc' Ls (.int (x % y) :: st))) P) : Goes p e below (T.setTop (mkF m pc Ls (.int y :: .int x :: st))) P := by
  subst hpc; exact go (fun _ q => iremM X hx rfl hd rfl hy q) K
theorem g_ineg (X : Stand p l e R s m args below meth c T locs cells slots) (hx : p.tables.exec = Jvm.exec) (pc' : Nat) (hpc : pc + 1 = pc') {x : Int32} (hd : decode c.code pc = .ok (.ineg, 1))  (K : Goes p e below (T.setTop (mkF m pc' Ls (.int (-x) :: st))) P) : Goes p e below (T.setTop (mkF m pc Ls (.int x :: st))) P := by
  subst hpc; exact go (fun _ q => XS.ineg X.here hx rfl hd rfl q) K
theorem g_ladd (X : Stand p l e R s m args below meth c T locs cells slots) (hx : p.tables.exec = Jvm.exec) (pc' : Nat) (hpc : pc + 1 = pc') {x y : Int64} (hd : decode c.code pc = .ok (.ladd, 1))  (K : Goes p e below (T.setTop (mkF m pc' Ls (.long (x + y) :: st))) P) : Goes p e below (T.setTop (mkF m pc Ls (.long y :: .long x :: st))) P := by
  subst hpc; exact go (fun _ q => XT.ladd X.here hx rfl hd rfl q) K
theorem g_lsub (X : Stand p l e R s m args below meth c T locs cells slots) (hx : p.tables.exec = Jvm.exec) (pc' : Nat) (hpc : pc + 1 = pc') {x y : Int64} (hd : decode c.code pc = .ok (.lsub, 1))  (K : Goes p e below (T.setTop (mkF m pc' Ls (.long (x - y) :: st))) P) : Goes p e below (T.setTop (mkF m pc Ls (.long y :: .long x :: st))) P := by
  subst hpc; exact go (fun _ q => XT.lsub X.here hx rfl hd rfl q) K
theorem g_lmul (X : Stand p l e R s m args below meth c T locs cells slots) (hx : p.tables.exec = Jvm.exec) (pc' : Nat) (hpc : pc + 1 = pc') {x y : Int64} (hd : decode c.code pc = .ok (.lmul, 1))  (K : Goes p e below (T.setTop (mkF m pc' Ls (.long (x * y) :: st))) P) : Goes p e below (T.setTop (mkF m pc Ls (.long y :: .long x :: st))) P := by
  subst hpc; exact go (fun _ q => XT.lmul X.here hx rfl hd rfl q) K
theorem g_land (X : Stand p l e R s m args below meth c T locs cells slots) (hx : p.tables.exec = Jvm.exec) (pc' : Nat) (hpc : pc + 1 = pc') {x y : Int64} (hd : decode c.code pc = .ok (.land, 1))  (K : Goes p e below (T.setTop (mkF m pc' Ls (.long (x &&& y) :: st))) P) : Goes p e below (T.setTop (mkF m pc Ls (.long y :: .long x :: st))) P := by
  subst hpc; exact go (fun _ q => XT.land X.here hx rfl hd rfl q) K
theorem g_lor (X : Stand p l e R s m args below meth c T locs cells slots) (hx : p.tables.exec = Jvm.exec) (pc' : Nat) (hpc : pc + 1 = pc') {x y : Int64} (hd : decode c.code pc = .ok (.lor, 1))  (K : Goes p e below (T.setTop (mkF m pc' Ls (.long (x ||| y) :: st))) P) : Goes p e below (T.setTop (mkF m pc Ls (.long y :: .long x :: st))) P := by
  subst hpc; exact go (fun _ q => XT.lor X.here hx rfl hd rfl q) K
theorem g_lxor (X : Stand p l e R s m args below meth c T locs cells slots) (hx : p.tables.exec = Jvm.exec) (pc' : Nat) (hpc : pc + 1 = pc') {x y : Int64} (hd : decode c.code pc = .ok (.lxor, 1))  (K : Goes p e below (T.setTop (mkF m pc' Ls (.long (x ^^^ y) :: st))) P) : Goes p e below (T.setTop (mkF m pc Ls (.long y :: .long x :: st))) P := by
  subst hpc; exact go (fun _ q => XT.lxor X.here hx rfl hd rfl q) K
theorem g_lshl (X : Stand p l e R s m args below meth c T locs cells slots) (hx : p.tables.exec = Jvm.exec) (pc' : Nat) (hpc : pc + 1 = pc') {x : Int64} {y : Int32} (hd : decode c.code pc = .ok (.lshl, 1))  (K : Goes p e below (T.setTop (mkF m pc' Ls (.long (x <<< (y.toInt64 &&& 63)) :: st))) P) : Goes p e below (T.setTop (mkF m pc Ls (.int y :: .long x :: st))) P := by
  subst hpc; exact go (fun _ q => XT.lshl X.here hx rfl hd rfl q) K
theorem g_lshr (X : Stand p l e R s m args below meth c T locs cells slots) (hx : p.tables.exec = Jvm.exec) (pc' : Nat) (hpc : pc + 1 = pc') {x : Int64} {y : Int32} (hd : decode c.code pc = .ok (.lshr, 1))  (K : Goes p e below (T.setTop (mkF m pc' Ls (.long (x >>> (y.toInt64 &&& 63)) :: st))) P) : Goes p e below (T.setTop (mkF m pc Ls (.int y :: .long x :: st))) P := by
  subst hpc; exact go (fun _ q => XT.lshr X.here hx rfl hd rfl q) K
theorem g_lushr (X : Stand p l e R s m args below meth c T locs cells slots) (hx : p.tables.exec = Jvm.exec) (pc' : Nat) (hpc : pc + 1 = pc') {x : Int64} {y : Int32} (hd : decode c.code pc = .ok (.lushr, 1))  (K : Goes p e below (T.setTop (mkF m pc' Ls (.long (XT.ushrL x y) :: st))) P) : Goes p e below (T.setTop (mkF m pc Ls (.int y :: .long x :: st))) P := by
  subst hpc; exact go (fun _ q => XT.lushr X.here hx rfl hd rfl q) K
theorem g_ldiv (X : Stand p l e R s m args below meth c T locs cells slots) (hx : p.tables.exec = Jvm.exec) (pc' : Nat) (hpc : pc + 1 = pc') {x y : Int64} (hd : decode c.code pc = .ok (.ldiv, 1)) (hy : y ≠ 0) (K : Goes p e below (T.setTop (mkF m pc' Ls (.long (x / y) :: st))) P) : Goes p e below (T.setTop (mkF m pc Ls (.long y :: .long x :: st))) P := by
  subst hpc; exact go (fun _ q => XT.ldiv X.here hx rfl hd rfl hy q) K
theorem g_lrem (X : Stand p l e R s m args below meth c T locs cells slots) (hx : p.tables.exec = Jvm.exec) (pc' : Nat) (hpc : pc + 1 = pc') {x y : Int64} (hd : decode c.code pc = .ok (.lrem, 1)) (hy : y ≠ 0) (K : Goes p e below (T.setTop (mkF m pc' Ls (.long (x % y) :: st))) P) : Goes p e below (T.setTop (mkF m pc Ls (.long y :: .long x :: st))) P := by
  subst hpc; exact go (fun _ q => XT.lrem X.here hx rfl hd rfl hy (by rw [lrem_mod]; exact q)) K
theorem g_lneg (X : Stand p l e R s m args below meth c T locs cells slots) (hx : p.tables.exec = Jvm.exec) (pc' : Nat) (hpc : pc + 1 = pc') {x : Int64} (hd : decode c.code pc = .ok (.lneg, 1))  (K : Goes p e below (T.setTop (mkF m pc' Ls (.long (-x) :: st))) P) : Goes p e below (T.setTop (mkF m pc Ls (.long x :: st))) P := by
  subst hpc; exact go (fun _ q => XT.lneg X.here hx rfl hd rfl q) K
theorem g_i2l (X : Stand p l e R s m args below meth c T locs cells slots) (hx : p.tables.exec = Jvm.exec) (pc' : Nat) (hpc : pc + 1 = pc') {x : Int32} (hd : decode c.code pc = .ok (.i2l, 1))  (K : Goes p e below (T.setTop (mkF m pc' Ls (.long x.toInt64 :: st))) P) : Goes p e below (T.setTop (mkF m pc Ls (.int x :: st))) P := by
  subst hpc; exact go (fun _ q => XT.i2l X.here hx rfl hd rfl q) K
theorem g_l2i (X : Stand p l e R s m args below meth c T locs cells slots) (hx : p.tables.exec = Jvm.exec) (pc' : Nat) (hpc : pc + 1 = pc') {x : Int64} (hd : decode c.code pc = .ok (.l2i, 1))  (K : Goes p e below (T.setTop (mkF m pc' Ls (.int x.toInt32 :: st))) P) : Goes p e below (T.setTop (mkF m pc Ls (.long x :: st))) P := by
  subst hpc; exact go (fun _ q => XT.l2i X.here hx rfl hd rfl q) K
theorem g_i2b (X : Stand p l e R s m args below meth c T locs cells slots) (hx : p.tables.exec = Jvm.exec) (pc' : Nat) (hpc : pc + 1 = pc') {x : Int32} (hd : decode c.code pc = .ok (.i2b, 1))  (K : Goes p e below (T.setTop (mkF m pc' Ls (.int x.toInt8.toInt32 :: st))) P) : Goes p e below (T.setTop (mkF m pc Ls (.int x :: st))) P := by
  subst hpc; exact go (fun _ q => XT.i2b X.here hx rfl hd rfl q) K
theorem g_i2c (X : Stand p l e R s m args below meth c T locs cells slots) (hx : p.tables.exec = Jvm.exec) (pc' : Nat) (hpc : pc + 1 = pc') {x : Int32} (hd : decode c.code pc = .ok (.i2c, 1))  (K : Goes p e below (T.setTop (mkF m pc' Ls (.int x.toUInt32.toUInt16.toUInt32.toInt32 :: st))) P) : Goes p e below (T.setTop (mkF m pc Ls (.int x :: st))) P := by
  subst hpc; exact go (fun _ q => XT.i2c X.here hx rfl hd rfl q) K
theorem g_i2s (X : Stand p l e R s m args below meth c T locs cells slots) (hx : p.tables.exec = Jvm.exec) (pc' : Nat) (hpc : pc + 1 = pc') {x : Int32} (hd : decode c.code pc = .ok (.i2s, 1))  (K : Goes p e below (T.setTop (mkF m pc' Ls (.int x.toInt16.toInt32 :: st))) P) : Goes p e below (T.setTop (mkF m pc Ls (.int x :: st))) P := by
  subst hpc; exact go (fun _ q => XT.i2s X.here hx rfl hd rfl q) K
theorem g_lcmp (X : Stand p l e R s m args below meth c T locs cells slots) (hx : p.tables.exec = Jvm.exec) (pc' : Nat) (hpc : pc + 1 = pc') {x y : Int64} (hd : decode c.code pc = .ok (.lcmp, 1))  (K : Goes p e below (T.setTop (mkF m pc' Ls (.int (XT.cmpL x y) :: st))) P) : Goes p e below (T.setTop (mkF m pc Ls (.long y :: .long x :: st))) P := by
  subst hpc; exact go (fun _ q => XT.lcmp X.here hx rfl hd rfl q) K
theorem g_dup (X : Stand p l e R s m args below meth c T locs cells slots) (hx : p.tables.exec = Jvm.exec) (pc' : Nat) (hpc : pc + 1 = pc') {x : Value} (hd : decode c.code pc = .ok (.dup, 1)) (hc : x.category = 1) (K : Goes p e below (T.setTop (mkF m pc' Ls (x :: x :: st))) P) : Goes p e below (T.setTop (mkF m pc Ls (x :: st))) P := by
  subst hpc; exact go (fun _ q => XS.dup X.here hx rfl hd rfl hc q) K
theorem g_pop (X : Stand p l e R s m args below meth c T locs cells slots) (hx : p.tables.exec = Jvm.exec) (pc' : Nat) (hpc : pc + 1 = pc') {x : Value} (hd : decode c.code pc = .ok (.pop, 1)) (hc : x.category = 1) (K : Goes p e below (T.setTop (mkF m pc' Ls (st))) P) : Goes p e below (T.setTop (mkF m pc Ls (x :: st))) P := by
  subst hpc; exact go (fun _ q => XT.pop X.here hx rfl hd rfl hc q) K
theorem g_dup_x1 (X : Stand p l e R s m args below meth c T locs cells slots) (hx : p.tables.exec = Jvm.exec) (pc' : Nat) (hpc : pc + 1 = pc') {x y : Value} (hd : decode c.code pc = .ok (.dup_x1, 1)) (hc : x.category = 1) (hc' : y.category = 1) (K : Goes p e below (T.setTop (mkF m pc' Ls (x :: y :: x :: st))) P) : Goes p e below (T.setTop (mkF m pc Ls (x :: y :: st))) P := by
  subst hpc; exact go (fun _ q => XT.dupX1 X.here hx rfl hd rfl hc hc' q) K
theorem g_dup2 (X : Stand p l e R s m args below meth c T locs cells slots) (hx : p.tables.exec = Jvm.exec) (pc' : Nat) (hpc : pc + 1 = pc') {x y : Value} (hd : decode c.code pc = .ok (.dup2, 1)) (hc : x.category = 1) (hc' : y.category = 1) (K : Goes p e below (T.setTop (mkF m pc' Ls (x :: y :: x :: y :: st))) P) : Goes p e below (T.setTop (mkF m pc Ls (x :: y :: st))) P := by
  subst hpc; exact go (fun _ q => XT.dup2 X.here hx rfl hd rfl hc hc' q) K
theorem g_dup2L (X : Stand p l e R s m args below meth c T locs cells slots) (hx : p.tables.exec = Jvm.exec) (pc' : Nat) (hpc : pc + 1 = pc') {x : Int64} (hd : decode c.code pc = .ok (.dup2, 1))  (K : Goes p e below (T.setTop (mkF m pc' Ls (.long x :: .long x :: st))) P) : Goes p e below (T.setTop (mkF m pc Ls (.long x :: st))) P := by
  subst hpc; exact go (fun _ q => XT.dup2L X.here hx rfl hd rfl q) K
theorem g_iconst (X : Stand p l e R s m args below meth c T locs cells slots) (hx : p.tables.exec = Jvm.exec) (pc' : Nat) (hpc : pc + 1 = pc') {i : Int} (v : Int32) (hv : Int32.ofInt i = v) (hd : decode c.code pc = .ok (.iconst i, 1))  (K : Goes p e below (T.setTop (mkF m pc' Ls (.int v :: st))) P) : Goes p e below (T.setTop (mkF m pc Ls (st))) P := by
  subst hpc; exact go (fun _ q => XS.iconst X.here hx rfl hd (by rw [hv]; exact q)) K
theorem g_bipush (X : Stand p l e R s m args below meth c T locs cells slots) (hx : p.tables.exec = Jvm.exec) (pc' : Nat) (hpc : pc + 2 = pc') {i : Int} (v : Int32) (hv : (Int8.ofInt i).toInt32 = v) (hd : decode c.code pc = .ok (.bipush i, 2))  (K : Goes p e below (T.setTop (mkF m pc' Ls (.int v :: st))) P) : Goes p e below (T.setTop (mkF m pc Ls (st))) P := by
  subst hpc; exact go (fun _ q => XS.bipush X.here hx rfl hd (by rw [hv]; exact q)) K
theorem g_sipush (X : Stand p l e R s m args below meth c T locs cells slots) (hx : p.tables.exec = Jvm.exec) (pc' : Nat) (hpc : pc + 3 = pc') {i : Int} (v : Int32) (hv : (Int16.ofInt i).toInt32 = v) (hd : decode c.code pc = .ok (.sipush i, 3))  (K : Goes p e below (T.setTop (mkF m pc' Ls (.int v :: st))) P) : Goes p e below (T.setTop (mkF m pc Ls (st))) P := by
  subst hpc; exact go (fun _ q => XS.sipush X.here hx rfl hd (by rw [hv]; exact q)) K
theorem g_lconst (X : Stand p l e R s m args below meth c T locs cells slots) (hx : p.tables.exec = Jvm.exec) (pc' : Nat) (hpc : pc + 1 = pc') {k : Fin 2} (v : Int64) (hv : Int64.ofNat k = v) (hd : decode c.code pc = .ok (.lconst k, 1))  (K : Goes p e below (T.setTop (mkF m pc' Ls (.long v :: st))) P) : Goes p e below (T.setTop (mkF m pc Ls (st))) P := by
  subst hpc; exact go (fun _ q => XT.lconst X.here hx rfl hd (by rw [hv]; exact q)) K
theorem g_aconst_null (X : Stand p l e R s m args below meth c T locs cells slots) (hx : p.tables.exec = Jvm.exec) (pc' : Nat) (hpc : pc + 1 = pc')  (hd : decode c.code pc = .ok (.aconst_null, 1))  (K : Goes p e below (T.setTop (mkF m pc' Ls (.null :: st))) P) : Goes p e below (T.setTop (mkF m pc Ls (st))) P := by
  subst hpc; exact go (fun _ q => XS.aconstNull X.here hx rfl hd q) K
theorem g_ldcI (X : Stand p l e R s m args below meth c T locs cells slots) (hx : p.tables.exec = Jvm.exec) (pc' : Nat) (hpc : pc + 2 = pc') {own : String} {index : Nat} {v : Int32} (hown : s.vm.findClass own = some m.cls) (hZ : Z.Warmed39 s.vm) (w : (Jvm.Cond.constant own index v).before a0 Z = true) (hd : decode c.code pc = .ok (.ldc index, 2))  (K : Goes p e below (T.setTop (mkF m pc' Ls (.int v :: st))) P) : Goes p e below (T.setTop (mkF m pc Ls (st))) P := by
  subst hpc; exact go (fun _ q => X.ldcInt hx hown (mvT hZ w) (g := mkF m pc Ls st) rfl hd _ q) K
theorem g_ldcJ (X : Stand p l e R s m args below meth c T locs cells slots) (hx : p.tables.exec = Jvm.exec) (pc' : Nat) (hpc : pc + 3 = pc') {own : String} {index : Nat} {v : Int64} (hown : s.vm.findClass own = some m.cls) (hZ : Z.Warmed39 s.vm) (w : (Jvm.Cond.constantLong own index v).before a0 Z = true) (hd : decode c.code pc = .ok (.ldc2_w index, 3))  (K : Goes p e below (T.setTop (mkF m pc' Ls (.long v :: st))) P) : Goes p e below (T.setTop (mkF m pc Ls (st))) P := by
  subst hpc; exact go (fun _ q => X.ldc2Long hx hown (mvT hZ w) (g := mkF m pc Ls st) rfl hd _ q) K
theorem g_iload_n (X : Stand p l e R s m args below meth c T locs cells slots) (hx : p.tables.exec = Jvm.exec) (pc' : Nat) (hpc : pc + 1 = pc') {k : Fin 4} {v : Int32} (hd : decode c.code pc = .ok (.iload_n k, 1)) (hl : Ls[k.val]? = some (.val (.int v))) (K : Goes p e below (T.setTop (mkF m pc' Ls (.int v :: st))) P) : Goes p e below (T.setTop (mkF m pc Ls (st))) P := by
  subst hpc; exact go (fun _ q => XS.iloadN X.here hx rfl hd hl q) K
theorem g_iload (X : Stand p l e R s m args below meth c T locs cells slots) (hx : p.tables.exec = Jvm.exec) (pc' : Nat) (hpc : pc + 2 = pc') {k : Nat} {v : Int32} (hd : decode c.code pc = .ok (.iload k, 2)) (hl : Ls[k]? = some (.val (.int v))) (K : Goes p e below (T.setTop (mkF m pc' Ls (.int v :: st))) P) : Goes p e below (T.setTop (mkF m pc Ls (st))) P := by
  subst hpc; exact go (fun _ q => XS.iload X.here hx rfl hd hl q) K
theorem g_lload_n (X : Stand p l e R s m args below meth c T locs cells slots) (hx : p.tables.exec = Jvm.exec) (pc' : Nat) (hpc : pc + 1 = pc') {k : Fin 4} {v : Int64} (hd : decode c.code pc = .ok (.lload_n k, 1)) (hl : Ls[k.val]? = some (.val (.long v))) (K : Goes p e below (T.setTop (mkF m pc' Ls (.long v :: st))) P) : Goes p e below (T.setTop (mkF m pc Ls (st))) P := by
  subst hpc; exact go (fun _ q => XT.lloadN X.here hx rfl hd hl q) K
theorem g_lload (X : Stand p l e R s m args below meth c T locs cells slots) (hx : p.tables.exec = Jvm.exec) (pc' : Nat) (hpc : pc + 2 = pc') {k : Nat} {v : Int64} (hd : decode c.code pc = .ok (.lload k, 2)) (hl : Ls[k]? = some (.val (.long v))) (K : Goes p e below (T.setTop (mkF m pc' Ls (.long v :: st))) P) : Goes p e below (T.setTop (mkF m pc Ls (st))) P := by
  subst hpc; exact go (fun _ q => XT.lload X.here hx rfl hd hl q) K
theorem g_aload_n (X : Stand p l e R s m args below meth c T locs cells slots) (hx : p.tables.exec = Jvm.exec) (pc' : Nat) (hpc : pc + 1 = pc') {k : Fin 4} {v : Value} (hd : decode c.code pc = .ok (.aload_n k, 1)) (hl : Ls[k.val]? = some (.val v)) (hv : v.isRef = true) (K : Goes p e below (T.setTop (mkF m pc' Ls (v :: st))) P) : Goes p e below (T.setTop (mkF m pc Ls (st))) P := by
  subst hpc; exact go (fun _ q => XS.aloadN X.here hx rfl hd hl hv q) K
theorem g_aload (X : Stand p l e R s m args below meth c T locs cells slots) (hx : p.tables.exec = Jvm.exec) (pc' : Nat) (hpc : pc + 2 = pc') {k : Nat} {v : Value} (hd : decode c.code pc = .ok (.aload k, 2)) (hl : Ls[k]? = some (.val v)) (hv : v.isRef = true) (K : Goes p e below (T.setTop (mkF m pc' Ls (v :: st))) P) : Goes p e below (T.setTop (mkF m pc Ls (st))) P := by
  subst hpc; exact go (fun _ q => XS.aload X.here hx rfl hd hl hv q) K
theorem g_istore_n (X : Stand p l e R s m args below meth c T locs cells slots) (hx : p.tables.exec = Jvm.exec) (pc' : Nat) (hpc : pc + 1 = pc') {k : Fin 4} {x : Int32} (hd : decode c.code pc = .ok (.istore_n k, 1))  (l' : Array Slot) (hl : storeLocals Ls k.val (.int x) = some l') (K : Goes p e below (T.setTop (mkF m pc' l' st)) P) : Goes p e below (T.setTop (mkF m pc Ls (.int x :: st))) P := by
  subst hpc; exact go (fun _ q => XS.istoreN X.here hx rfl hd rfl hl q) K
theorem g_istore (X : Stand p l e R s m args below meth c T locs cells slots) (hx : p.tables.exec = Jvm.exec) (pc' : Nat) (hpc : pc + 2 = pc') {k : Nat} {x : Int32} (hd : decode c.code pc = .ok (.istore k, 2))  (l' : Array Slot) (hl : storeLocals Ls k (.int x) = some l') (K : Goes p e below (T.setTop (mkF m pc' l' st)) P) : Goes p e below (T.setTop (mkF m pc Ls (.int x :: st))) P := by
  subst hpc; exact go (fun _ q => XS.istore X.here hx rfl hd rfl hl q) K
theorem g_lstore_n (X : Stand p l e R s m args below meth c T locs cells slots) (hx : p.tables.exec = Jvm.exec) (pc' : Nat) (hpc : pc + 1 = pc') {k : Fin 4} {x : Int64} (hd : decode c.code pc = .ok (.lstore_n k, 1))  (l' : Array Slot) (hl : storeLocals Ls k.val (.long x) = some l') (K : Goes p e below (T.setTop (mkF m pc' l' st)) P) : Goes p e below (T.setTop (mkF m pc Ls (.long x :: st))) P := by
  subst hpc; exact go (fun _ q => XT.lstoreN X.here hx rfl hd rfl hl q) K
theorem g_lstore (X : Stand p l e R s m args below meth c T locs cells slots) (hx : p.tables.exec = Jvm.exec) (pc' : Nat) (hpc : pc + 2 = pc') {k : Nat} {x : Int64} (hd : decode c.code pc = .ok (.lstore k, 2))  (l' : Array Slot) (hl : storeLocals Ls k (.long x) = some l') (K : Goes p e below (T.setTop (mkF m pc' l' st)) P) : Goes p e below (T.setTop (mkF m pc Ls (.long x :: st))) P := by
  subst hpc; exact go (fun _ q => XT.lstore X.here hx rfl hd rfl hl q) K
theorem g_astore_n (X : Stand p l e R s m args below meth c T locs cells slots) (hx : p.tables.exec = Jvm.exec) (pc' : Nat) (hpc : pc + 1 = pc') {k : Fin 4} {x : Value} (hd : decode c.code pc = .ok (.astore_n k, 1)) (hv : x.isRef = true) (l' : Array Slot) (hl : storeLocals Ls k.val x = some l') (K : Goes p e below (T.setTop (mkF m pc' l' st)) P) : Goes p e below (T.setTop (mkF m pc Ls (x :: st))) P := by
  subst hpc; exact go (fun _ q => XS.astoreN X.here hx rfl hd rfl hv hl q) K
theorem g_astore (X : Stand p l e R s m args below meth c T locs cells slots) (hx : p.tables.exec = Jvm.exec) (pc' : Nat) (hpc : pc + 2 = pc') {k : Nat} {x : Value} (hd : decode c.code pc = .ok (.astore k, 2)) (hv : x.isRef = true) (l' : Array Slot) (hl : storeLocals Ls k x = some l') (K : Goes p e below (T.setTop (mkF m pc' l' st)) P) : Goes p e below (T.setTop (mkF m pc Ls (x :: st))) P := by
  subst hpc; exact go (fun _ q => XS.astore X.here hx rfl hd rfl hv hl q) K
theorem g_iinc (X : Stand p l e R s m args below meth c T locs cells slots) (hx : p.tables.exec = Jvm.exec) (pc' : Nat) (hpc : pc + 3 = pc') {k : Nat} {cst : Int} {x : Int32} (hd : decode c.code pc = .ok (.iinc k cst, 3)) (v : Int32) (hv : x + Int32.ofInt cst = v) (hl : Ls[k]? = some (.val (.int x))) (l' : Array Slot) (hl' : storeLocals Ls k (.int v) = some l') (K : Goes p e below (T.setTop (mkF m pc' l' st)) P) : Goes p e below (T.setTop (mkF m pc Ls st)) P := by
  subst hpc; subst hv; exact go (fun _ q => XS.iinc X.here hx rfl hd hl hl' q) K
theorem g_goto (X : Stand p l e R s m args below meth c T locs cells slots) (hx : p.tables.exec = Jvm.exec) (pc' : Nat) {o : Int} (hd : decode c.code pc = .ok (.goto o, 3)) (ho : 0 ≤ (pc : Int) + o) (hp : ((pc : Int) + o).toNat = pc') (K : Goes p e below (T.setTop (mkF m pc' Ls st)) P) : Goes p e below (T.setTop (mkF m pc Ls st)) P :=
  go (fun _ q => XS.goto X.here hx rfl rfl hd ho hp q) K
theorem g_ifY (X : Stand p l e R s m args below meth c T locs cells slots) (hx : p.tables.exec = Jvm.exec) (pc' : Nat) {o : Int} {cd : ClassFile.Cond} {x : Int32} (hd : decode c.code pc = .ok (.ifCond cd o, 3)) (hc : ifCond.holds cd x = true) (ho : 0 ≤ (pc : Int) + o) (hp : ((pc : Int) + o).toNat = pc') (K : Goes p e below (T.setTop (mkF m pc' Ls st)) P) : Goes p e below (T.setTop (mkF m pc Ls (.int x :: st))) P :=
  go (fun _ q => XS.ifYes X.here hx rfl rfl hd rfl hc ho hp q) K
theorem g_ifN (X : Stand p l e R s m args below meth c T locs cells slots) (hx : p.tables.exec = Jvm.exec) (pc' : Nat) (hpc : pc + 3 = pc') {o : Int} {cd : ClassFile.Cond} {x : Int32} (hd : decode c.code pc = .ok (.ifCond cd o, 3)) (hc : ifCond.holds cd x = false) (K : Goes p e below (T.setTop (mkF m pc' Ls st)) P) : Goes p e below (T.setTop (mkF m pc Ls (.int x :: st))) P := by
  subst hpc; exact go (fun _ q => XS.ifNo X.here hx rfl hd rfl hc q) K
theorem g_icmpY (X : Stand p l e R s m args below meth c T locs cells slots) (hx : p.tables.exec = Jvm.exec) (pc' : Nat) {o : Int} {cd : ClassFile.Cond} {x y : Int32} (hd : decode c.code pc = .ok (.if_icmp cd o, 3)) (hc : if_icmp.holds cd x y = true) (ho : 0 ≤ (pc : Int) + o) (hp : ((pc : Int) + o).toNat = pc') (K : Goes p e below (T.setTop (mkF m pc' Ls st)) P) : Goes p e below (T.setTop (mkF m pc Ls (.int y :: .int x :: st))) P :=
  go (fun _ q => XS.icmpYes X.here hx rfl rfl hd rfl hc ho hp q) K
theorem g_icmpN (X : Stand p l e R s m args below meth c T locs cells slots) (hx : p.tables.exec = Jvm.exec) (pc' : Nat) (hpc : pc + 3 = pc') {o : Int} {cd : ClassFile.Cond} {x y : Int32} (hd : decode c.code pc = .ok (.if_icmp cd o, 3)) (hc : if_icmp.holds cd x y = false) (K : Goes p e below (T.setTop (mkF m pc' Ls st)) P) : Goes p e below (T.setTop (mkF m pc Ls (.int y :: .int x :: st))) P := by
  subst hpc; exact go (fun _ q => XS.icmpNo X.here hx rfl hd rfl hc q) K
theorem g_acmpY (X : Stand p l e R s m args below meth c T locs cells slots) (hx : p.tables.exec = Jvm.exec) (pc' : Nat) {o : Int} {cd : ClassFile.ACond} {x y : Value} (hd : decode c.code pc = .ok (.if_acmp cd o, 3)) (h1 : x.isRef = true) (h2 : y.isRef = true) (hc : XT.acmp cd x y = true) (ho : 0 ≤ (pc : Int) + o) (hp : ((pc : Int) + o).toNat = pc') (K : Goes p e below (T.setTop (mkF m pc' Ls st)) P) : Goes p e below (T.setTop (mkF m pc Ls (y :: x :: st))) P :=
  go (fun _ q => XT.acmpYes X.here hx rfl rfl hd rfl h1 h2 hc ho hp q) K
theorem g_acmpN (X : Stand p l e R s m args below meth c T locs cells slots) (hx : p.tables.exec = Jvm.exec) (pc' : Nat) (hpc : pc + 3 = pc') {o : Int} {cd : ClassFile.ACond} {x y : Value} (hd : decode c.code pc = .ok (.if_acmp cd o, 3)) (h1 : x.isRef = true) (h2 : y.isRef = true) (hc : XT.acmp cd x y = false) (K : Goes p e below (T.setTop (mkF m pc' Ls st)) P) : Goes p e below (T.setTop (mkF m pc Ls (y :: x :: st))) P := by
  subst hpc; exact go (fun _ q => XT.acmpNo X.here hx rfl hd rfl h1 h2 hc q) K
theorem g_ifnonnullY (X : Stand p l e R s m args below meth c T locs cells slots) (hx : p.tables.exec = Jvm.exec) (pc' : Nat) {o : Int} {b : Addr} (hd : decode c.code pc = .ok (.ifnonnull o, 3)) (ho : 0 ≤ (pc : Int) + o) (hp : ((pc : Int) + o).toNat = pc') (K : Goes p e below (T.setTop (mkF m pc' Ls st)) P) : Goes p e below (T.setTop (mkF m pc Ls (.ref b :: st))) P :=
  go (fun _ q => XT.ifnonnullYes X.here hx rfl rfl hd rfl ho hp q) K
theorem g_ifnonnullN (X : Stand p l e R s m args below meth c T locs cells slots) (hx : p.tables.exec = Jvm.exec) (pc' : Nat) (hpc : pc + 3 = pc') {o : Int} (hd : decode c.code pc = .ok (.ifnonnull o, 3)) (K : Goes p e below (T.setTop (mkF m pc' Ls st)) P) : Goes p e below (T.setTop (mkF m pc Ls (.null :: st))) P := by
  subst hpc; exact go (fun _ q => XT.ifnonnullNo X.here hx rfl hd rfl q) K
def b2i (b : Bool) : Int32 := if b then 1 else 0
theorem b2i_nar (b : Bool) : narrow .boolean (.int (b2i b)) = .int (b2i b) := by cases b <;> rfl
theorem bb_eq_t {b : Bool} (q : ¬ b = true) : ifCond.holds .eq (b2i b) = true := by cases b <;> first | rfl | exact absurd rfl q
theorem bb_eq_f {b : Bool} (q : b = true) : ifCond.holds .eq (b2i b) = false := by subst q; rfl
theorem bb_ne_t {b : Bool} (q : b = true) : ifCond.holds .ne (b2i b) = true := by subst q; rfl
theorem bb_ne_f {b : Bool} (q : ¬ b = true) : ifCond.holds .ne (b2i b) = false := by cases b <;> first | rfl | exact absurd rfl q
theorem b2_eq_t {a b : Bool} (q : a = b) : if_icmp.holds .eq (b2i a) (b2i b) = true := by subst q; cases a <;> rfl
theorem b2_eq_f {a b : Bool} (q : ¬ a = b) : if_icmp.holds .eq (b2i a) (b2i b) = false := by cases a <;> cases b <;> first | rfl | exact absurd rfl q
theorem b2_ne_t {a b : Bool} (q : ¬ a = b) : if_icmp.holds .ne (b2i a) (b2i b) = true := by cases a <;> cases b <;> first | rfl | exact absurd rfl q
theorem b2_ne_f {a b : Bool} (q : a = b) : if_icmp.holds .ne (b2i a) (b2i b) = false := by subst q; cases a <;> rfl
theorem g_getF (X : Stand p l e R s m args below meth c T locs cells slots) (hx : p.tables.exec = Jvm.exec) (hZ : Z.Warmed39 s.vm) (pc' : Nat) (hpc : pc + 3 = pc') {own O n d : String} {index : Nat} (hown : s.vm.findClass own = some m.cls) (w : (Jvm.Cond.fieldLink own index O n d).before a0 Z = true) (eT : T.heap = h) {a : Addr} {v : Value} (F : Fld Z h a O n d v) (hd : decode c.code pc = .ok (.getfield index, 3)) (K : ∀ T', Stand p l e R s m args below meth c T' locs cells slots → T'.heap = h → Goes p e below (T'.setTop (mkF m pc' Ls (v :: st))) P) : Goes p e below (T.setTop (mkF m pc Ls (.ref a :: st))) P := by
  subst hpc
  obtain ⟨T', X', e', st'⟩ := getF X hx hZ hown (host := "") (Or.inl w) Via.refl eT F (g := mkF m pc Ls (.ref a :: st)) rfl rfl hd
  exact go st' (K T' X' e')
theorem g_putF (X : Stand p l e R s m args below meth c T locs cells slots) (hx : p.tables.exec = Jvm.exec) (hZ : Z.Warmed39 s.vm) (pc' : Nat) (hpc : pc + 3 = pc') {own O n d C : String} {index kk : Nat} {ty : FieldType} (hown : s.vm.findClass own = some m.cls) (w : (Jvm.Cond.fieldLink own index O n d).before a0 Z = true) (eT : T.heap = h) {a : Addr} {v old : Value} (F : Fld Z h a O n d old) (E : Exa Z h a C) (L : (Jvm.Cond.lays C O n d).before a0 Z = true ∨ ((Jvm.Cond.laysFinal C O n d).before a0 Z = true ∧ own = O ∧ meth.name = "<init>")) (wi : (Jvm.Cond.instantiable C kk).before a0 Z = true) (hty : parseFieldDescriptor d = some ty) (hn : narrow ty v = v) (hf : fits ty v = true) (hd : decode c.code pc = .ok (.putfield index, 3)) (K : ∀ T' h', Stand p l e R s m args below meth c T' (locs ++ [⟨a, Jvm.RoadKit.slotOf Z O n d⟩]) cells slots → T'.heap = h' → Wr h h' a (Jvm.RoadKit.slotOf Z O n d) v → Goes p e below (T'.setTop (mkF m pc' Ls st)) P) : Goes p e below (T.setTop (mkF m pc Ls (v :: .ref a :: st))) P := by
  subst hpc
  obtain ⟨T', h', X', e', W', st'⟩ := putF X hx hZ hown (host := "") (Or.inl w) Via.refl eT F E L wi hty hn hf (g := mkF m pc Ls (v :: .ref a :: st)) rfl rfl hd
  exact go st' (K T' h' X' e' W')
theorem g_getS (X : Stand p l e R s m args below meth c T locs cells slots) (hx : p.tables.exec = Jvm.exec) (hZ : Z.Warmed39 s.vm) (pc' : Nat) (hpc : pc + 3 = pc') {own O n d : String} {index : Nat} (hown : s.vm.findClass own = some m.cls) (w : (Jvm.Cond.fieldLink own index O n d).before a0 Z = true) (eT : T.heap = h) {v : Value} (F : Sta Z h O n d v) (hd : decode c.code pc = .ok (.getstatic index, 3)) (K : ∀ T', Stand p l e R s m args below meth c T' locs cells slots → T'.heap = h → Goes p e below (T'.setTop (mkF m pc' Ls (v :: st))) P) : Goes p e below (T.setTop (mkF m pc Ls st)) P := by
  subst hpc
  obtain ⟨T', X', e', st'⟩ := getS (host := "") X hx hZ hown w Via.refl eT F (g := mkF m pc Ls st) rfl hd
  exact go st' (K T' X' e')
theorem g_new (X : Stand p l e R s m args below meth c T locs cells slots) (hx : p.tables.exec = Jvm.exec) (hZ : Z.Warmed39 s.vm) (pc' : Nat) (hpc : pc + 3 = pc') {own C : String} {index n : Nat} (hown : s.vm.findClass own = some m.cls) (w : (Jvm.Cond.classLink own index C).before a0 Z = true) (wi : (Jvm.Cond.instantiable C n).before a0 Z = true) (wz : (Jvm.Cond.initialized C).before a0 Z = true) (eT : T.heap = h) (hd : decode c.code pc = .ok (.new index, 3)) (hc : cells + 1 ≤ R.cells) (hl : slots + n ≤ R.slots) (K : ∀ T' h' a, a = h.size → Stand p l e R s m args below meth c T' locs (cells + 1) (slots + n) → T'.heap = h' → Ext h h' → Exa Z h' a C → (∀ {O nm d : String} {ty : FieldType}, Laid Z a0 C O nm d → parseFieldDescriptor d = some ty → Fld Z h' a O nm d (defaultValue ty)) → Goes p e below (T'.setTop (mkF m pc' Ls (.ref a :: st))) P) : Goes p e below (T.setTop (mkF m pc Ls st)) P := by
  subst hpc
  obtain ⟨T', h', X', e', E', A', D', -, st'⟩ := newO X hx hZ hown w wi wz eT (g := mkF m pc Ls st) rfl hd hc hl
  exact go st' (K T' h' _ rfl X' e' E' A' D')
theorem g_initO (X : Stand p l e R s m args below meth c T locs cells slots) (hx : p.tables.exec = Jvm.exec) (hZ : Z.Warmed39 s.vm) (pc' : Nat) (hpc : pc + 3 = pc') {own : String} {idx : Nat} (hown : s.vm.findClass own = some m.cls) (w1 : (Jvm.Cond.methodLink own idx Lib.objectInit).before a0 Z = true) (w2 : (Jvm.Cond.instanceMethod Lib.objectInit).before a0 Z = true) (w3 : (Jvm.Cond.code Lib.objectInit ⟨#[0xb1]⟩ 1 none).before a0 Z = true) (eT : T.heap = h) (hsize : Ls.size = c.maxLocals) {a : Addr} (hd : decode c.code pc = .ok (.invokespecial idx, 3)) (hf : 1 ≤ R.frames) (W : Nat) (hW : 2 * 0 + (st.map fun v => v.category).sum ≤ W) (hl : W + 12 ≤ R.locals) (K : ∀ T', Stand p l e R s m args below meth c T' locs cells slots → T'.heap = h → Goes p e below (T'.setTop (mkF m pc' Ls st)) P) : Goes p e below (T.setTop (mkF m pc Ls (.ref a :: st))) P := by
  subst hpc
  obtain ⟨T', X', e', st'⟩ := initO X hx hZ hown w1 w2 w3 eT (g := mkF m pc Ls (.ref a :: st)) rfl hsize rfl hd hf hW hl
  exact go st' (K T' X' e')
theorem g_callS (X : Stand p l e R s m args below meth c T locs cells slots) (hx : p.tables.exec = Jvm.exec) (hZ : Z.Warmed39 s.vm) (pc' : Nat) (hpc : pc + 3 = pc') {own : String} {index : Nat} {y : MethodName} {bytes : ByteArray} {maxL : Nat} {ret : Option FieldType} {rm : Room} {Q : Option Value → Heap → List Loc → Prop} (hown : s.vm.findClass own = some m.cls) (w1 : (Jvm.Cond.methodLink own index y).before a0 Z = true) (w2 : (Jvm.Cond.static y).before a0 Z = true) (w3 : (Jvm.Cond.initialized y.cls).before a0 Z = true) (w4 : (Jvm.Cond.code y bytes maxL ret).before a0 Z = true) (hy : y.cls ≠ "java/lang/invoke/MethodHandle" ∧ y.cls ≠ "java/lang/invoke/VarHandle") (argsL rest : List Value) (hM : OwnMet l Z y bytes maxL ret [] rm argsL.toArray h Q) (eT : T.heap = h) (hlen : ∀ sig, parseMethodDescriptor y.desc = some sig → argsL.length = sig.parameters.length) (hst : st = argsL.reverse ++ rest) (hsize : Ls.size = c.maxLocals) (hd : decode c.code pc = .ok (.invokestatic index, 3)) (hf : rm.frames + 1 ≤ R.frames) (W : Nat) (hW : 2 * 0 + (rest.map fun v => v.category).sum ≤ W) (hl : W + (maxL + 11) + rm.locals ≤ R.locals) (hc : cells + rm.cells ≤ R.cells) (hs : slots + rm.slots ≤ R.slots) (K : ∀ v T' L', Stand p l e R s m args below meth c T' (locs ++ L') (cells + rm.cells) (slots + rm.slots) → Q v T'.heap L' → Goes p e below (T'.setTop (mkF m pc' Ls (v.toList ++ rest))) P) : Goes p e below (T.setTop (mkF m pc Ls st)) P := by
  subst hpc; subst hst
  obtain ⟨v, _, ⟨T', L', k', n'⟩, -, X', ⟨Lc, hQ, e1, e2, e3⟩, st'⟩ := Jvm.LawKit.callS X hx (y := y) hown (mvT hZ w1) (mvT hZ w2) (mvT hZ w3) (mvT hZ w4) hy (backOf (W := W) hM hZ w4 w3 hf hl) (g := mkF m pc Ls (argsL.reverse ++ rest)) rfl hsize (argsL := argsL) (rest := rest) hlen rfl hW hd (fun _ _ => ⟨rfl, eT, hc, hs⟩)
  dsimp only [Pt.U, Pt.locs, Pt.cells, Pt.slots] at X' e1 e2 e3 st' hQ
  subst e1 e2 e3
  exact go st' (K v T' Lc X' hQ)
theorem g_callI (X : Stand p l e R s m args below meth c T locs cells slots) (hx : p.tables.exec = Jvm.exec) (hZ : Z.Warmed39 s.vm) (pc' : Nat) (hpc : pc + 3 = pc') {own : String} {index : Nat} {y : MethodName} {bytes : ByteArray} {maxL : Nat} {rm : Room} {Q : Option Value → Heap → List Loc → Prop} (hy1 : y.name = "<init>") (hown : s.vm.findClass own = some m.cls) (w1 : (Jvm.Cond.methodLink own index y).before a0 Z = true) (w2 : (Jvm.Cond.instanceMethod y).before a0 Z = true) (w3 : (Jvm.Cond.initialized y.cls).before a0 Z = true) (w4 : (Jvm.Cond.code y bytes maxL none).before a0 Z = true) (hy : y.cls ≠ "java/lang/invoke/MethodHandle" ∧ y.cls ≠ "java/lang/invoke/VarHandle") (a : Addr) (argsL rest : List Value) (hM : OwnMet l Z y bytes maxL none [] rm (.ref a :: argsL).toArray h Q) (eT : T.heap = h) (hlen : ∀ sig, parseMethodDescriptor y.desc = some sig → argsL.length = sig.parameters.length) (hst : st = argsL.reverse ++ .ref a :: rest) (hsize : Ls.size = c.maxLocals) (hd : decode c.code pc = .ok (.invokespecial index, 3)) (hf : rm.frames + 1 ≤ R.frames) (W : Nat) (hW : 2 * 0 + (rest.map fun v => v.category).sum ≤ W) (hl : W + (maxL + 11) + rm.locals ≤ R.locals) (hc : cells + rm.cells ≤ R.cells) (hs : slots + rm.slots ≤ R.slots) (K : ∀ v T' L', Stand p l e R s m args below meth c T' (locs ++ L') (cells + rm.cells) (slots + rm.slots) → Q v T'.heap L' → Goes p e below (T'.setTop (mkF m pc' Ls (v.toList ++ rest))) P) : Goes p e below (T.setTop (mkF m pc Ls st)) P := by
  subst hpc; subst hst
  obtain ⟨v, _, ⟨T', L', k', n'⟩, -, X', ⟨Lc, hQ, e1, e2, e3⟩, st'⟩ := X.specialBack hx (y := y) hy1 hown (mvT hZ w1) (mvT hZ w2) (mvT hZ w4) hy (backOf (W := W) hM hZ w4 w3 hf hl) (g := mkF m pc Ls (argsL.reverse ++ .ref a :: rest)) rfl hsize (Steps.refl _) (a := a) (argsL := argsL) (rest := rest) hlen rfl hW hd (fun _ _ => ⟨rfl, eT, hc, hs⟩)
  dsimp only [Pt.U, Pt.locs, Pt.cells, Pt.slots] at X' e1 e2 e3 st' hQ
  subst e1 e2 e3
  exact goT st' (K v T' Lc X' hQ)
theorem g_callV (X : Stand p l e R s m args below meth c T locs cells slots) (hx : p.tables.exec = Jvm.exec) (hZ : Z.Warmed39 s.vm) (pc' : Nat) (hpc : pc + 3 = pc') {own C : String} {index : Nat} {y : MethodName} {bytes : ByteArray} {maxL : Nat} {ret : Option FieldType} {rm : Room} {Q : Option Value → Heap → List Loc → Prop} (hown : s.vm.findClass own = some m.cls) (w1 : (Jvm.Cond.methodLink own index y).before a0 Z = true) (w2 : (Jvm.Cond.declares y).before a0 Z = true) (w5 : (Jvm.Cond.selects C y y).before a0 Z = true) (w6 : (Jvm.Cond.instanceMethod y).before a0 Z = true) (w3 : (Jvm.Cond.initialized y.cls).before a0 Z = true) (w4 : (Jvm.Cond.code y bytes maxL ret).before a0 Z = true) (hy : y.cls ≠ "java/lang/invoke/MethodHandle" ∧ y.cls ≠ "java/lang/invoke/VarHandle") (a : Addr) (argsL rest : List Value) (hM : OwnMet l Z y bytes maxL ret [] rm (.ref a :: argsL).toArray h Q) (eT : T.heap = h) (Ex : Exa Z h a C) (hlen : ∀ sig, parseMethodDescriptor y.desc = some sig → argsL.length = sig.parameters.length) (hst : st = argsL.reverse ++ .ref a :: rest) (hsize : Ls.size = c.maxLocals) (hd : decode c.code pc = .ok (.invokevirtual index, 3)) (hf : rm.frames + 1 ≤ R.frames) (W : Nat) (hW : 2 * 0 + (rest.map fun v => v.category).sum ≤ W) (hl : W + (maxL + 11) + rm.locals ≤ R.locals) (hc : cells + rm.cells ≤ R.cells) (hs : slots + rm.slots ≤ R.slots) (K : ∀ v T' L', Stand p l e R s m args below meth c T' (locs ++ L') (cells + rm.cells) (slots + rm.slots) → Q v T'.heap L' → Goes p e below (T'.setTop (mkF m pc' Ls (v.toList ++ rest))) P) : Goes p e below (T.setTop (mkF m pc Ls st)) P := by
  subst hpc; subst hst
  obtain ⟨cq, kq, qa, qb, qc⟩ := isOf hZ eT Ex
  obtain ⟨v, _, ⟨T', L', k', n'⟩, -, X', ⟨Lc, hQ, e1, e2, e3⟩, st'⟩ := X.virtualBack hx (y := y) (z := y) hown (mvT hZ w1) (mvT hZ w2) (notFace_of_selects (args := #[]) (mvT hZ w5)) (mvT hZ w5) (mvT hZ w6) hy (backOf (W := W) hM hZ w4 w3 hf hl) qa qc (g := mkF m pc Ls (argsL.reverse ++ .ref a :: rest)) rfl hsize (Steps.refl _) (argsL := argsL) (rest := rest) hlen rfl hW hd (fun _ _ => ⟨rfl, eT, hc, hs⟩)
  dsimp only [Pt.U, Pt.locs, Pt.cells, Pt.slots] at X' e1 e2 e3 st' hQ
  subst e1 e2 e3
  exact goT st' (K v T' Lc X' hQ)
def Al (Z : State) (h : Heap) (a : Addr) (ty : FieldType) (vs : List Value) : Prop := ∃ c : Cell, Arr Z h a c ty ∧ c.slots.toList = vs ∧ vs.length < 2147483648
theorem Al.lt {a : Addr} {ty : FieldType} {vs : List Value} (F : Al Z h a ty vs) : a < h.size := by obtain ⟨c, A, -⟩ := F; exact A.lt
theorem Al.ext {h' : Heap} {a : Addr} {ty : FieldType} {vs : List Value} (F : Al Z h a ty vs) (E : Ext h h') : Al Z h' a ty vs := by obtain ⟨c, A, r⟩ := F; exact ⟨c, A.ext E, r⟩
theorem Al.other {h' : Heap} {a b : Addr} {sl : Nat} {v : Value} {ty : FieldType} {vs : List Value} (F : Al Z h b ty vs) (W : Wr h h' a sl v) (q : b ≠ a) : Al Z h' b ty vs := by obtain ⟨c, A, r⟩ := F; exact ⟨c, A.other W q, r⟩
theorem Al.keep {h' : Heap} {a : Addr} {ws : List Addr} {ty : FieldType} {vs : List Value} (F : Al Z h a ty vs) (K : Keep h h' ws) (q : a ∉ ws) : Al Z h' a ty vs := by obtain ⟨c, A, r⟩ := F; exact ⟨c, ⟨K.2.1 a c A.1 q, A.2⟩, r⟩
theorem Al.same {h' : Heap} {a : Addr} {i : Nat} {v : Value} {ty : FieldType} {vs : List Value} (F : Al Z h a ty vs) (W : Wr h h' a i v) : Al Z h' a ty (vs.set i v) := by
  obtain ⟨c, A, r1, r2⟩ := F
  exact ⟨_, A.same W, by rw [← r1]; simp [Cell.setSlot], by rw [List.length_set]; exact r2⟩
theorem own_ix {j : Int32} {i : Nat} (hj : j.toInt = (i : Int)) : j.toNatClampNeg = i ∧ ¬ j < 0 := by
  refine ⟨by simp only [Int32.toNatClampNeg]; omega, fun q => ?_⟩
  rw [Int32.lt_iff_toInt_lt] at q; simp only [Int32.reduceToInt] at q; omega
theorem Al.cell {a : Addr} {ty : FieldType} {vs : List Value} (F : Al Z h a ty vs) {j : Int32} {i : Nat} (hj : j.toInt = (i : Int)) (hi : i < vs.length) : ∃ c : Cell, Arr Z h a c ty ∧ c.slots.toList = vs ∧ ¬ (j < 0 ∨ c.slots.size ≤ j.toNatClampNeg) ∧ c.slots[j.toNatClampNeg]? = vs[i]? := by
  obtain ⟨c, A, r1, r2⟩ := F
  obtain ⟨q1, q2⟩ := own_ix hj
  have hs : c.slots.size = vs.length := by rw [← r1]; simp
  exact ⟨c, A, r1, fun q => q.elim q2 (by rw [q1, hs]; omega), by rw [q1, ← r1, Array.getElem?_toList]⟩
theorem g_alen (X : Stand p l e R s m args below meth c T locs cells slots) (hx : p.tables.exec = Jvm.exec) (hZ : Z.Warmed39 s.vm) (pc' : Nat) (hpc : pc + 1 = pc') (hd : decode c.code pc = .ok (.arraylength, 1)) (eT : T.heap = h) {a : Addr} {ty : FieldType} {vs : List Value} (A : Al Z h a ty vs) (n : Int32) (hn : Int32.ofNat vs.length = n) (K : Goes p e below (T.setTop (mkF m pc' Ls (.int n :: st))) P) : Goes p e below (T.setTop (mkF m pc Ls (.ref a :: st))) P := by
  subst hpc
  obtain ⟨c, A, r1, r2⟩ := A
  have hs : c.slots.size.toInt32 = n := by rw [← hn, ← r1]; simp
  exact go (fun _ q => X.arraylength hx (by rw [eT]; exact A.1) (State.isArrayOf_alike hZ.alike A.2.1) (g := mkF m pc Ls (.ref a :: st)) rfl rfl hd _ (by rw [hs]; exact q)) K
theorem g_iaload (X : Stand p l e R s m args below meth c T locs cells slots) (hx : p.tables.exec = Jvm.exec) (hZ : Z.Warmed39 s.vm) (pc' : Nat) (hpc : pc + 1 = pc') (hd : decode c.code pc = .ok (.iaload, 1)) (eT : T.heap = h) {a : Addr} {vs : List Value} (A : Al Z h a .int vs) {j : Int32} (i : Nat) (hj : j.toInt = (i : Int)) (v : Value) (hv : vs[i]? = some v) (K : Goes p e below (T.setTop (mkF m pc' Ls (v :: st))) P) : Goes p e below (T.setTop (mkF m pc Ls (.int j :: .ref a :: st))) P := by
  subst hpc
  obtain ⟨c, A, r1, r2, r3⟩ := A.cell hj (List.getElem?_eq_some_iff.mp hv).1
  exact go (fun _ q => X.iaload hx (by rw [eT]; exact A.1) (State.isArrayOf_alike hZ.alike A.2.1) A.2.2 r2 (r3.trans hv) (g := mkF m pc Ls (.int j :: .ref a :: st)) rfl rfl hd _ q) K
theorem g_laload (X : Stand p l e R s m args below meth c T locs cells slots) (hx : p.tables.exec = Jvm.exec) (hZ : Z.Warmed39 s.vm) (pc' : Nat) (hpc : pc + 1 = pc') (hd : decode c.code pc = .ok (.laload, 1)) (eT : T.heap = h) {a : Addr} {vs : List Value} (A : Al Z h a .long vs) {j : Int32} (i : Nat) (hj : j.toInt = (i : Int)) (v : Value) (hv : vs[i]? = some v) (K : Goes p e below (T.setTop (mkF m pc' Ls (v :: st))) P) : Goes p e below (T.setTop (mkF m pc Ls (.int j :: .ref a :: st))) P := by
  subst hpc
  obtain ⟨c, A, r1, r2, r3⟩ := A.cell hj (List.getElem?_eq_some_iff.mp hv).1
  exact go (fun _ q => X.laload hx (by rw [eT]; exact A.1) (State.isArrayOf_alike hZ.alike A.2.1) A.2.2 r2 (r3.trans hv) (g := mkF m pc Ls (.int j :: .ref a :: st)) rfl rfl hd _ q) K
theorem g_baload (X : Stand p l e R s m args below meth c T locs cells slots) (hx : p.tables.exec = Jvm.exec) (hZ : Z.Warmed39 s.vm) (pc' : Nat) (hpc : pc + 1 = pc') (hd : decode c.code pc = .ok (.baload, 1)) (eT : T.heap = h) {a : Addr} {vs : List Value} (A : Al Z h a .byte vs) {j : Int32} (i : Nat) (hj : j.toInt = (i : Int)) (v : Value) (hv : vs[i]? = some v) (K : Goes p e below (T.setTop (mkF m pc' Ls (v :: st))) P) : Goes p e below (T.setTop (mkF m pc Ls (.int j :: .ref a :: st))) P := by
  subst hpc
  obtain ⟨c, A, r1, r2, r3⟩ := A.cell hj (List.getElem?_eq_some_iff.mp hv).1
  exact go (fun _ q => X.baloadBytes hx (by rw [eT]; exact A.1) (State.isArrayOf_alike hZ.alike A.2.1) A.2.2 r2 (r3.trans hv) (g := mkF m pc Ls (.int j :: .ref a :: st)) rfl rfl hd _ q) K
theorem g_caload (X : Stand p l e R s m args below meth c T locs cells slots) (hx : p.tables.exec = Jvm.exec) (hZ : Z.Warmed39 s.vm) (pc' : Nat) (hpc : pc + 1 = pc') (hd : decode c.code pc = .ok (.caload, 1)) (eT : T.heap = h) {a : Addr} {vs : List Value} (A : Al Z h a .char vs) {j : Int32} (i : Nat) (hj : j.toInt = (i : Int)) (v : Value) (hv : vs[i]? = some v) (K : Goes p e below (T.setTop (mkF m pc' Ls (v :: st))) P) : Goes p e below (T.setTop (mkF m pc Ls (.int j :: .ref a :: st))) P := by
  subst hpc
  obtain ⟨c, A, r1, r2, r3⟩ := A.cell hj (List.getElem?_eq_some_iff.mp hv).1
  exact go (fun _ q => X.caload hx (by rw [eT]; exact A.1) (State.isArrayOf_alike hZ.alike A.2.1) A.2.2 r2 (r3.trans hv) (g := mkF m pc Ls (.int j :: .ref a :: st)) rfl rfl hd _ q) K
theorem g_iastore (X : Stand p l e R s m args below meth c T locs cells slots) (hx : p.tables.exec = Jvm.exec) (hZ : Z.Warmed39 s.vm) (pc' : Nat) (hpc : pc + 1 = pc') (hd : decode c.code pc = .ok (.iastore, 1)) (eT : T.heap = h) {a : Addr} {vs : List Value} (A : Al Z h a .int vs) {j : Int32} {x : Int32} (i : Nat) (hj : j.toInt = (i : Int)) (hi : i < vs.length) (K : ∀ T' h', Stand p l e R s m args below meth c T' (locs ++ [⟨a, i⟩]) cells slots → T'.heap = h' → Wr h h' a i (.int x) → Al Z h' a .int (vs.set i (.int x)) → Goes p e below (T'.setTop (mkF m pc' Ls st)) P) : Goes p e below (T.setTop (mkF m pc Ls (.int x :: .int j :: .ref a :: st))) P := by
  subst hpc
  obtain ⟨c, Ar, r1, r2, r3⟩ := A.cell hj hi
  obtain ⟨T', h', X', e', W', st'⟩ := stI X hx hZ eT Ar r2 (g := mkF m pc Ls (.int x :: .int j :: .ref a :: st)) rfl rfl hd
  rw [(own_ix hj).1] at X' W'
  exact go st' (K T' h' X' e' W' (A.same W'))
theorem g_lastore (X : Stand p l e R s m args below meth c T locs cells slots) (hx : p.tables.exec = Jvm.exec) (hZ : Z.Warmed39 s.vm) (pc' : Nat) (hpc : pc + 1 = pc') (hd : decode c.code pc = .ok (.lastore, 1)) (eT : T.heap = h) {a : Addr} {vs : List Value} (A : Al Z h a .long vs) {j : Int32} {x : Int64} (i : Nat) (hj : j.toInt = (i : Int)) (hi : i < vs.length) (K : ∀ T' h', Stand p l e R s m args below meth c T' (locs ++ [⟨a, i⟩]) cells slots → T'.heap = h' → Wr h h' a i (.long x) → Al Z h' a .long (vs.set i (.long x)) → Goes p e below (T'.setTop (mkF m pc' Ls st)) P) : Goes p e below (T.setTop (mkF m pc Ls (.long x :: .int j :: .ref a :: st))) P := by
  subst hpc
  obtain ⟨c, Ar, r1, r2, r3⟩ := A.cell hj hi
  obtain ⟨T', h', X', e', W', st'⟩ := stJ X hx hZ eT Ar r2 (g := mkF m pc Ls (.long x :: .int j :: .ref a :: st)) rfl rfl hd
  rw [(own_ix hj).1] at X' W'
  exact go st' (K T' h' X' e' W' (A.same W'))
theorem g_bastore (X : Stand p l e R s m args below meth c T locs cells slots) (hx : p.tables.exec = Jvm.exec) (hZ : Z.Warmed39 s.vm) (pc' : Nat) (hpc : pc + 1 = pc') (hd : decode c.code pc = .ok (.bastore, 1)) (eT : T.heap = h) {a : Addr} {vs : List Value} (A : Al Z h a .byte vs) {j : Int32} {x : Int32} (i : Nat) (hj : j.toInt = (i : Int)) (hi : i < vs.length) (K : ∀ T' h', Stand p l e R s m args below meth c T' (locs ++ [⟨a, i⟩]) cells slots → T'.heap = h' → Wr h h' a i (.int (nar .byte x)) → Al Z h' a .byte (vs.set i (.int (nar .byte x))) → Goes p e below (T'.setTop (mkF m pc' Ls st)) P) : Goes p e below (T.setTop (mkF m pc Ls (.int x :: .int j :: .ref a :: st))) P := by
  subst hpc
  obtain ⟨c, Ar, r1, r2, r3⟩ := A.cell hj hi
  obtain ⟨T', h', X', e', W', st'⟩ := stB X hx hZ eT Ar r2 (g := mkF m pc Ls (.int x :: .int j :: .ref a :: st)) rfl rfl hd
  rw [(own_ix hj).1] at X' W'
  exact go st' (K T' h' X' e' W' (A.same W'))
theorem g_castore (X : Stand p l e R s m args below meth c T locs cells slots) (hx : p.tables.exec = Jvm.exec) (hZ : Z.Warmed39 s.vm) (pc' : Nat) (hpc : pc + 1 = pc') (hd : decode c.code pc = .ok (.castore, 1)) (eT : T.heap = h) {a : Addr} {vs : List Value} (A : Al Z h a .char vs) {j : Int32} {x : Int32} (i : Nat) (hj : j.toInt = (i : Int)) (hi : i < vs.length) (K : ∀ T' h', Stand p l e R s m args below meth c T' (locs ++ [⟨a, i⟩]) cells slots → T'.heap = h' → Wr h h' a i (.int (nar .char x)) → Al Z h' a .char (vs.set i (.int (nar .char x))) → Goes p e below (T'.setTop (mkF m pc' Ls st)) P) : Goes p e below (T.setTop (mkF m pc Ls (.int x :: .int j :: .ref a :: st))) P := by
  subst hpc
  obtain ⟨c, Ar, r1, r2, r3⟩ := A.cell hj hi
  obtain ⟨T', h', X', e', W', st'⟩ := stC X hx hZ eT Ar r2 (g := mkF m pc Ls (.int x :: .int j :: .ref a :: st)) rfl rfl hd
  rw [(own_ix hj).1] at X' W'
  exact go st' (K T' h' X' e' W' (A.same W'))
theorem g_newarr (X : Stand p l e R s m args below meth c T locs cells slots) (hx : p.tables.exec = Jvm.exec) (hZ : Z.Warmed39 s.vm) (pc' : Nat) (hpc : pc + 2 = pc') {aty : ArrayType} (w : (Jvm.Cond.arrayClass (newarray.typeOf aty)).before a0 Z = true) (eT : T.heap = h) (hd : decode c.code pc = .ok (.newarray aty, 2)) {n : Int32} (k : Nat) (hn : n.toInt = (k : Int)) (cap : Nat) (hcap : k ≤ cap) (hb : cap * 8 ≤ 536870912) (hc : cells + 1 ≤ R.cells) (hl : slots + cap ≤ R.slots) (ad : String) (had : "[" ++ (newarray.typeOf aty).toString = ad) (K : ∀ T' h' a, a = h.size → Stand p l e R s m args below meth c T' locs (cells + 1) (slots + cap) → T'.heap = h' → Ext h h' → Al Z h' a (newarray.typeOf aty) (List.replicate k (defaultValue (newarray.typeOf aty))) → Exa Z h' a ad → Goes p e below (T'.setTop (mkF m pc' Ls (.ref a :: st))) P) : Goes p e below (T.setTop (mkF m pc Ls (.int n :: st))) P := by
  subst hpc
  obtain ⟨q1, q2⟩ := own_ix hn
  obtain ⟨T', h', cA, X', e', E', A', Ex', st'⟩ := newPE X hx hZ w eT (g := mkF m pc Ls (.int n :: st)) rfl hd rfl q2 (cap := cap) (by rw [q1]; exact hcap) hb hc hl had
  refine go st' (K T' h' _ rfl X' e' E' ⟨_, A', by simp [newA, q1], ?_⟩ Ex')
  rw [List.length_replicate]
  have := Int32.toInt_lt n
  omega
theorem own_narb (x : Int32) : nar .byte x.toInt8.toInt32 = x.toInt8.toInt32 := by show x.toInt8.toInt32.toInt8.toInt32 = _; simp
theorem g_cast (X : Stand p l e R s m args below meth c T locs cells slots) (hx : p.tables.exec = Jvm.exec) (hZ : Z.Warmed39 s.vm) (pc' : Nat) (hpc : pc + 3 = pc') {own K : String} {index : Nat} (hown : s.vm.findClass own = some m.cls) (w : (Jvm.Cond.classLink own index K).before a0 Z = true) (eT : T.heap = h) {a : Addr} (F : Ins Z h a K true) (hd : decode c.code pc = .ok (.checkcast index, 3)) (K2 : ∀ T', Stand p l e R s m args below meth c T' locs cells slots → T'.heap = h → Goes p e below (T'.setTop (mkF m pc' Ls (.ref a :: st))) P) : Goes p e below (T.setTop (mkF m pc Ls (.ref a :: st))) P := by
  subst hpc
  obtain ⟨T', X', e', st'⟩ := castY X hx hZ hown w eT F (g := mkF m pc Ls (.ref a :: st)) rfl rfl hd
  exact go st' (K2 T' X' e')
theorem own_fitc {a : Addr} {ty : FieldType} {vs : List Value} {c : Cell} (A : Arr Z h a c ty) (r : c.slots.toList = vs) (hfit : ∀ v ∈ vs, fits ty v = true) : FitC Z c := fitC_of A fun i hi v hv => hfit v (by rw [← r]; rw [← Array.getElem?_toList] at hv; exact List.mem_of_getElem? hv)
theorem g_clone (X : Stand p l e R s m args below meth c T locs cells slots) (hx : p.tables.exec = Jvm.exec) (hZ : Z.Warmed39 s.vm) (pc' : Nat) (hpc : pc + 3 = pc') {own ad : String} {index : Nat} (hown : s.vm.findClass own = some m.cls) (w1 : (Jvm.Cond.methodLink own index ⟨ad, "clone", "()Ljava/lang/Object;"⟩).before a0 Z = true) (w2 : (Jvm.Cond.sameMethod ad "java/lang/Object" "clone" "()Ljava/lang/Object;").before a0 Z = true) (w3 : (Jvm.Cond.native ⟨"java/lang/Object", "clone", "()Ljava/lang/Object;"⟩).before a0 Z = true) (w4 : (Jvm.Cond.instanceMethod ⟨"java/lang/Object", "clone", "()Ljava/lang/Object;"⟩).before a0 Z = true) (w5 : (Jvm.Cond.selects ad ⟨ad, "clone", "()Ljava/lang/Object;"⟩ ⟨"java/lang/Object", "clone", "()Ljava/lang/Object;"⟩).before a0 Z = true) (w6 : (Jvm.Cond.castable ad "java/lang/Cloneable").before a0 Z = true) (eT : T.heap = h) {a : Addr} {ty : FieldType} {vs : List Value} (A : Al Z h a ty vs) (Ex : Exa Z h a ad) (hfit : ∀ v ∈ vs, fits ty v = true) (hd : decode c.code pc = .ok (.invokevirtual index, 3)) (hsize : Ls.size = c.maxLocals) (hf : 1 ≤ R.frames) (W : Nat) (hW : 2 * 0 + (st.map fun v => v.category).sum ≤ W) (hl : W + 14 ≤ R.locals) (cap : Nat) (hcap : vs.length ≤ cap) (hc : cells + 1 ≤ R.cells) (hs : slots + cap ≤ R.slots) (K : ∀ T' h' b, b = h.size → Stand p l e R s m args below meth c T' locs (cells + 1) (slots + cap) → T'.heap = h' → Ext h h' → Al Z h' b ty vs → Exa Z h' b ad → Goes p e below (T'.setTop (mkF m pc' Ls (.ref b :: st))) P) : Goes p e below (T.setTop (mkF m pc Ls (.ref a :: st))) P := by
  subst hpc
  obtain ⟨c, Ar, r1, r2⟩ := A
  obtain ⟨T', h', X', e', E', A', Ex', st'⟩ := cloneA X hx hZ hown w1 w2 w3 w4 w5 w6 eT Ar Ex (own_fitc Ar r1 hfit) (g := mkF m pc Ls (.ref a :: st)) rfl hsize rfl hd hf hW hl (by rw [← r1] at hcap; simpa using hcap) hc hs
  exact go st' (K T' h' _ rfl X' e' E' ⟨_, A', r1, r2⟩ Ex')
theorem own_arv {a : Addr} {ty : FieldType} {vs : List Value} (d : Value) (A : Al Z h a ty vs) (hfit : ∀ v ∈ vs, fits ty v = true) : ∃ k, Arv Z h a k ty (Int32.ofNat vs.length) vs d := by
  obtain ⟨c, Ar, r1, r2⟩ := A
  have hs : c.slots.size = vs.length := by rw [← r1]; simp
  have h1 : (Int32.ofNat vs.length).toInt = (vs.length : Int) := Int32.toInt_ofNat_of_lt r2
  obtain ⟨q1, q2⟩ := own_ix h1
  have hv : ∀ i, i < c.slots.size → c.slots[i]? = some (vs.getD i d) := fun i hi => by
    rw [← Array.getElem?_toList, r1, List.getD_eq_getElem?_getD, List.getElem?_eq_getElem (by omega)]; rfl
  refine ⟨c.cls, c, Ar, rfl, by rw [hs, q1], q2, hv, fun i hi => hfit _ ?_⟩
  have := hv i hi
  rw [← Array.getElem?_toList, r1] at this
  exact List.mem_of_getElem? this
theorem own_al {a : Addr} {k : ClassId} {ty : FieldType} {z : Int32} {vs : List Value} {d : Value} (A : Arv Z h a k ty z vs d) (hl : vs.length = z.toNatClampNeg) : Al Z h a ty vs := by
  obtain ⟨c, Ar, -, S, M, H, -⟩ := A
  refine ⟨c, Ar, ?_, ?_⟩
  · apply List.ext_getElem?
    intro i
    rw [Array.getElem?_toList]
    by_cases hi : i < c.slots.size
    · rw [H i hi, List.getD_eq_getElem?_getD, List.getElem?_eq_getElem (by omega)]; rfl
    · rw [Array.getElem?_eq_none (by omega), List.getElem?_eq_none (by omega)]
  · have := (back32 M).2; omega
theorem g_acopy (X : Stand p l e R s m args below meth c T locs cells slots) (hx : p.tables.exec = Jvm.exec) (hZ : Z.Warmed39 s.vm) (pc' : Nat) (hpc : pc + 3 = pc') {own : String} {index : Nat} (hown : s.vm.findClass own = some m.cls) (w1 : (Jvm.Cond.methodLink own index Jvm.Stand.acN).before a0 Z = true) (w2 : (Jvm.Cond.native Jvm.Stand.acN).before a0 Z = true) (w3 : (Jvm.Cond.static Jvm.Stand.acN).before a0 Z = true) (w4 : (Jvm.Cond.initialized "java/lang/System").before a0 Z = true) (eT : T.heap = h) {a b : Addr} {ty : FieldType} {vs vd : List Value} (A : Al Z h a ty vs) (B : Al Z h b ty vd) (hp : refKind ty = false) (hfit : ∀ v ∈ vs, fits ty v = true) (hfit2 : ∀ v ∈ vd, fits ty v = true) {nn : Int32} (n : Nat) (hn : nn.toInt = (n : Int)) (h1 : n ≤ vs.length) (h2 : n ≤ vd.length) {n0 : Nat} (N : Fr n0 locs) (ge : n0 ≤ b) (hd : decode c.code pc = .ok (.invokestatic index, 3)) (hsize : Ls.size = c.maxLocals) (hf : 1 ≤ R.frames) (W : Nat) (hW : 2 * 0 + (st.map fun v => v.category).sum ≤ W) (hlo : W + (nativeFrameWords "java/lang/System" "arraycopy" 5 + 11) ≤ R.locals) (K : ∀ T' h' L, Stand p l e R s m args below meth c T' L cells slots → T'.heap = h' → Fr n0 L → Keep h h' [b] → Al Z h' b ty (vs.take n ++ vd.drop n) → Goes p e below (T'.setTop (mkF m pc' Ls st)) P) : Goes p e below (T.setTop (mkF m pc Ls (.int nn :: .int 0 :: .ref b :: .int 0 :: .ref a :: st))) P := by
  subst hpc
  obtain ⟨ka, Aa⟩ := own_arv (.int 0) A hfit
  obtain ⟨kb, Ab⟩ := own_arv (.int 0) B hfit2
  obtain ⟨q1, q2⟩ := own_ix hn
  have l1 : (Int32.ofNat vs.length).toNatClampNeg = vs.length := (own_ix (Int32.toInt_ofNat_of_lt A.choose_spec.2.2)).1
  have l2 : (Int32.ofNat vd.length).toNatClampNeg = vd.length := (own_ix (Int32.toInt_ofNat_of_lt B.choose_spec.2.2)).1
  have z0 : (0 : Int32).toNatClampNeg = 0 := rfl
  obtain ⟨T', h', L, X', e', N', K', A', st'⟩ := cpA X hx hZ hown w1 w2 w3 w4 eT Aa Ab (us := (List.range nn.toNatClampNeg).map fun i => vs.getD ((0 : Int32).toNatClampNeg + i) (.int 0)) (Or.inl ⟨rfl, hp⟩) (sp := 0) (dp := 0) (nn := nn) (by decide) (by decide) q2 (by rw [q1, l1, z0]; omega) (by rw [q1, l2, z0]; omega) rfl (by rw [q1, z0]; omega) N ge (g := mkF m pc Ls (.int nn :: .int 0 :: .ref b :: .int 0 :: .ref a :: st)) rfl hsize rfl hd hf hW hlo
  have hu : vd.take (0 : Int32).toNatClampNeg ++ ((List.range nn.toNatClampNeg).map fun i => vs.getD ((0 : Int32).toNatClampNeg + i) (.int 0)) ++ vd.drop ((0 : Int32).toNatClampNeg + nn.toNatClampNeg) = vs.take n ++ vd.drop n := by
    rw [z0, q1, List.take_zero, List.nil_append, Nat.zero_add]
    congr 1
    apply List.ext_getElem?
    intro i
    by_cases hi : i < n
    · rw [List.getElem?_take_of_lt hi, List.getElem?_map, List.getElem?_range hi, Option.map_some, Nat.zero_add, List.getD_eq_getElem?_getD, List.getElem?_eq_getElem (by omega)]; rfl
    · rw [List.getElem?_eq_none (by simp; omega), List.getElem?_eq_none (by simp; omega)]
  rw [hu] at A'
  exact go st' (K T' h' L X' e' N' K' (own_al A' (by rw [l2]; simp; omega)))
theorem own_eqI {args : Array Value} {first s : State} {o : Option Outcome} {idx : List Nat} {a : Term} {k : Int32} (q : (Jvm.Cond.eq a (Jvm.Term.int k)).value args first o s idx = some true) : a.eval args first o idx s = some (.int k) := by
  obtain ⟨x, y, h1, h2, h3, h4⟩ := cmp_v (Or.inl q)
  have h5 : y = .int k := (Option.some.inj ((Term.int_eval k).symm.trans h2)).symm
  subst h5
  obtain ⟨z, rfl⟩ := h4
  have h6 : z = k := gotT (Cond.eq_ints h1 h2) q
  rw [h1, h6]
theorem own_nar_ref {v : Value} {C : String} (q : v.isRef = true) : narrow (.object C) v = v := by cases v <;> simp [Value.isRef] at q <;> rfl
theorem own_fit_ref {v : Value} {C : String} (q : v.isRef = true) : fits (.object C) v = true := by cases v <;> simp [Value.isRef] at q <;> rfl
theorem own_sixteen (x : Int32) : x.toInt = (x.toBitVec.toNat : Int) ∨ x.toInt = (x.toBitVec.toNat : Int) - 4294967296 := by
  show x.toBitVec.toInt = _ ∨ x.toBitVec.toInt = _
  rw [BitVec.toInt_eq_toNat_cond]; split <;> omega
end OwnKit

theorem own_pos (b t : Int32) (k : Nat) (hk : k < 9) : ([.int b, .int (b + t), .int (b + ((2 : Int32) * t)), .int (b + ((3 : Int32) * t)), .int (b + ((4 : Int32) * t)), .int (b + ((5 : Int32) * t)), .int (b + ((6 : Int32) * t)), .int (b + ((7 : Int32) * t)), .int (b + ((8 : Int32) * t))] : List Value)[k]? = some (.int (b + (Int32.ofNat k * t))) := by
  match k, hk with
  | 0, _ => show some (Value.int b) = some (Value.int (b + (0 : Int32) * t)); rw [Int32.zero_mul, Int32.add_zero]
  | 1, _ => show some (Value.int (b + t)) = some (Value.int (b + (1 : Int32) * t)); rw [Int32.one_mul]
  | 2, _ => rfl
  | 3, _ => rfl
  | 4, _ => rfl
  | 5, _ => rfl
  | 6, _ => rfl
  | 7, _ => rfl
  | 8, _ => rfl
theorem own_m31 (x : Int32) : 0 ≤ (x &&& (2147483647 : Int32)).toInt := by
  have := c_mask x 2147483647 31 (by decide) (by decide); omega
theorem own_f (x : Int32) (h : 0 ≤ x.toInt) : 1 ≤ (x % (3 : Int32) + (1 : Int32)).toInt ∧ (x % (3 : Int32) + (1 : Int32)).toInt ≤ 3 := by
  have h1 := c_irem x 3 3 rfl
  have h2 := c_iadd (x % 3) 1
  have h3 := rng32 (x % 3 + 1)
  have e1 : (1 : Int32).toInt = 1 := rfl
  rw [e1] at h2
  omega
theorem own_d (x y : Int32) (h : 0 ≤ x.toInt) (hy : 0 < y.toInt) : 0 ≤ (x / y).toInt := (c_idivV x y h hy).1
theorem own_u (x : Int32) : 0 ≤ (XT.ushr x (2 : Int32)).toInt := by
  have : (XT.ushr x (2 : Int32)).toInt = (x.toInt % 4294967296) / (2 ^ 2 : Nat) := c_iushr x 2 2 (by decide) (by decide)
  omega
theorem own_ofNat (x : Int32) (k : Nat) (h : x.toInt = (k : Int)) : x = Int32.ofNat k := by
  have h3 := rng32 x
  apply Int32.toInt_inj.mp
  rw [Int32.toInt_ofNat_of_lt (by omega)]; exact h
theorem own_add (x y : Int32) (h1 : 0 ≤ x.toInt) (h2 : x.toInt ≤ 100) (h3 : 0 ≤ y.toInt) (h4 : y.toInt ≤ 100) : (x + y).toInt = x.toInt + y.toInt := by
  have h := c_iadd x y
  have hr := rng32 (x + y)
  omega

theorem d1_0 : decode prog_51_method_1_code 0 = .ok (.aload_n 0, 1) := by decide +kernel
theorem d1_1 : decode prog_51_method_1_code 1 = .ok (.invokespecial 1, 3) := by decide +kernel
theorem d1_4 : decode prog_51_method_1_code 4 = .ok (.aload_n 0, 1) := by decide +kernel
theorem d1_5 : decode prog_51_method_1_code 5 = .ok (.aload_n 1, 1) := by decide +kernel
theorem d1_6 : decode prog_51_method_1_code 6 = .ok (.putfield 7, 3) := by decide +kernel
theorem d1_9 : decode prog_51_method_1_code 9 = .ok (.aload_n 0, 1) := by decide +kernel
theorem d1_10 : decode prog_51_method_1_code 10 = .ok (.aload_n 2, 1) := by decide +kernel
theorem d1_11 : decode prog_51_method_1_code 11 = .ok (.putfield 13, 3) := by decide +kernel
theorem d1_14 : decode prog_51_method_1_code 14 = .ok (.aload_n 0, 1) := by decide +kernel
theorem d1_15 : decode prog_51_method_1_code 15 = .ok (.aload_n 3, 1) := by decide +kernel
theorem d1_16 : decode prog_51_method_1_code 16 = .ok (.putfield 16, 3) := by decide +kernel
theorem d1_19 : decode prog_51_method_1_code 19 = .ok (.aload_n 0, 1) := by decide +kernel
theorem d1_20 : decode prog_51_method_1_code 20 = .ok (.aload_n 1, 1) := by decide +kernel
theorem d1_21 : decode prog_51_method_1_code 21 = .ok (.arraylength, 1) := by decide +kernel
theorem d1_22 : decode prog_51_method_1_code 22 = .ok (.newarray .int, 2) := by decide +kernel
theorem d1_24 : decode prog_51_method_1_code 24 = .ok (.putfield 19, 3) := by decide +kernel
theorem d1_27 : decode prog_51_method_1_code 27 = .ok (.iconst 1, 1) := by decide +kernel
theorem d1_28 : decode prog_51_method_1_code 28 = .ok (.istore 4, 2) := by decide +kernel
theorem d1_30 : decode prog_51_method_1_code 30 = .ok (.iload 4, 2) := by decide +kernel
theorem d1_32 : decode prog_51_method_1_code 32 = .ok (.aload_n 1, 1) := by decide +kernel
theorem d1_33 : decode prog_51_method_1_code 33 = .ok (.arraylength, 1) := by decide +kernel
theorem d1_34 : decode prog_51_method_1_code 34 = .ok (.if_icmp .ge 32, 3) := by decide +kernel
theorem d1_37 : decode prog_51_method_1_code 37 = .ok (.aload_n 0, 1) := by decide +kernel
theorem d1_38 : decode prog_51_method_1_code 38 = .ok (.getfield 19, 3) := by decide +kernel
theorem d1_41 : decode prog_51_method_1_code 41 = .ok (.iload 4, 2) := by decide +kernel
theorem d1_43 : decode prog_51_method_1_code 43 = .ok (.aload_n 0, 1) := by decide +kernel
theorem d1_44 : decode prog_51_method_1_code 44 = .ok (.getfield 19, 3) := by decide +kernel
theorem d1_47 : decode prog_51_method_1_code 47 = .ok (.iload 4, 2) := by decide +kernel
theorem d1_49 : decode prog_51_method_1_code 49 = .ok (.iconst 1, 1) := by decide +kernel
theorem d1_50 : decode prog_51_method_1_code 50 = .ok (.isub, 1) := by decide +kernel
theorem d1_51 : decode prog_51_method_1_code 51 = .ok (.iaload, 1) := by decide +kernel
theorem d1_52 : decode prog_51_method_1_code 52 = .ok (.aload_n 2, 1) := by decide +kernel
theorem d1_53 : decode prog_51_method_1_code 53 = .ok (.iload 4, 2) := by decide +kernel
theorem d1_55 : decode prog_51_method_1_code 55 = .ok (.iconst 1, 1) := by decide +kernel
theorem d1_56 : decode prog_51_method_1_code 56 = .ok (.isub, 1) := by decide +kernel
theorem d1_57 : decode prog_51_method_1_code 57 = .ok (.iaload, 1) := by decide +kernel
theorem d1_58 : decode prog_51_method_1_code 58 = .ok (.iadd, 1) := by decide +kernel
theorem d1_59 : decode prog_51_method_1_code 59 = .ok (.iastore, 1) := by decide +kernel
theorem d1_60 : decode prog_51_method_1_code 60 = .ok (.iinc 4 1, 3) := by decide +kernel
theorem d1_63 : decode prog_51_method_1_code 63 = .ok (.goto (-33), 3) := by decide +kernel
theorem d1_66 : decode prog_51_method_1_code 66 = .ok (.return_, 1) := by decide +kernel
theorem pn_0 : plainName "com/example/cranfield/cranfield/index/Postings" = true := by first | (simp [plainName, overriddenIn]; done) | decide +kernel
theorem pd_0 : parseMethodDescriptor "()V" = some ⟨[], none⟩ := by decide +kernel
theorem ef_1_rmI (m : MethodId) (a1 : Addr) (d : Addr) (f : Addr) (ps : Addr) (f0 : Int32) (f1 : Int32) (f2 : Int32) (u_docs : Value) (u_freqs : Value) (u_positions : Value) (u_starts : Value)  : entryFrame m #[(.ref a1), (.ref d), (.ref f), (.ref ps)] 5 = mkF m 0 #[.val (.ref a1), .val (.ref d), .val (.ref f), .val (.ref ps), .unset] [] := by first | (simp [entryFrame, mkF, argsToLocals, Value.category, maxLocals]; done) | rfl
def Q_rmI (Z : State) (a1 : Addr) (d : Addr) (f : Addr) (ps : Addr) (f0 : Int32) (f1 : Int32) (f2 : Int32) (u_docs : Value) (u_freqs : Value) (u_positions : Value) (u_starts : Value) (h0 : Heap) (n0 : Nat) (v : Option Value) (h : Heap) (L : List Loc) : Prop := v = none ∧ Fr n0 L ∧ Keep h0 h [a1] ∧ Exa Z h a1 "com/example/cranfield/cranfield/index/Postings" ∧ Fld Z h a1 "com/example/cranfield/cranfield/index/Postings" "positions" "[I" (.ref ps) ∧ ∃ st, Fld Z h a1 "com/example/cranfield/cranfield/index/Postings" "starts" "[I" (.ref st) ∧ Al Z h st .int [.int 0, .int ((0 : Int32) + f0), .int ((0 : Int32) + f0 + f1)]
set_option maxRecDepth 65536 in
set_option maxHeartbeats 40000000 in
theorem rmI (l : Launch) (Z : State) (a0 : Array Value) (hw : ∀ d ∈ tables_1, d.before a0 Z = true) (ws : List Jvm.Cond) (a1 : Addr) (d : Addr) (f : Addr) (ps : Addr) (f0 : Int32) (f1 : Int32) (f2 : Int32) (u_docs : Value) (u_freqs : Value) (u_positions : Value) (u_starts : Value) (h0 : Heap) (n0 : Nat) (Z0 : n0 ≤ h0.size) (E1 : Exa Z h0 a1 "com/example/cranfield/cranfield/index/Postings") (g1 : n0 ≤ a1) (F_docs : Fld Z h0 a1 "com/example/cranfield/cranfield/index/Postings" "docs" "[I" u_docs) (F_freqs : Fld Z h0 a1 "com/example/cranfield/cranfield/index/Postings" "freqs" "[I" u_freqs) (F_positions : Fld Z h0 a1 "com/example/cranfield/cranfield/index/Postings" "positions" "[I" u_positions) (F_starts : Fld Z h0 a1 "com/example/cranfield/cranfield/index/Postings" "starts" "[I" u_starts) (Ad : Al Z h0 d .int [.int 0, .int 1, .int 2]) (Af : Al Z h0 f .int [.int f0, .int f1, .int f2]) (ned : d ≠ a1) (nef : f ≠ a1) :
    OwnMet l Z (⟨"com/example/cranfield/cranfield/index/Postings", "<init>", "([I[I[I)V"⟩ : MethodName) prog_51_method_1_code 5 none ws ({ frames := 1, cells := 1, slots := 3, locals := 12 } : Room) #[(.ref a1), (.ref d), (.ref f), (.ref ps)] h0 (Q_rmI Z a1 d f ps f0 f1 f2 u_docs u_freqs u_positions u_starts h0 n0) := by
  refine own_body (plainFor_of_name pn_0) ?_
  intro p e s m below meth c s₁ hx hby hml hown hnm hret hlk hZ X0 e0
  have N0 := Fr.nil n0
  refine own_cast (ef_1_rmI m a1 d f ps f0 f1 f2 u_docs u_freqs u_positions u_starts ) ?_
  refine g_aload_n X0 hx 1 rfl (hb hby d1_0) rfl rfl ?_
  refine g_initO X0 hx hZ 4 rfl hown (hw _ (List.mem_of_getElem? (i := 9) rfl)) (hw _ (List.mem_of_getElem? (i := 10) rfl)) (hw _ (List.mem_of_getElem? (i := 11) rfl)) e0 (by rw [hml]; rfl) (hb hby d1_1) (by decide) 0 (Nat.le_of_eq rfl) (by decide) ?_
  intro T1 X1 e1
  refine g_aload_n X1 hx 5 rfl (hb hby d1_4) rfl rfl ?_
  refine g_aload_n X1 hx 6 rfl (hb hby d1_5) rfl rfl ?_
  refine g_putF X1 hx hZ 9 rfl hown (hw _ (List.mem_of_getElem? (i := 12) rfl)) e1 F_docs E1 (Or.inr ⟨(hw _ (List.mem_of_getElem? (i := 13) rfl)), rfl, hnm⟩) (hw _ (List.mem_of_getElem? (i := 4) rfl)) (ty := .array .int) (by decide) rfl rfl (hb hby d1_6) ?_
  intro T2 h2 X2 e2 W2
  have Fw2 := F_docs.same W2
  have N2 := Fr.snoc X2 N0 g1
  refine g_aload_n X2 hx 10 rfl (hb hby d1_9) rfl rfl ?_
  refine g_aload_n X2 hx 11 rfl (hb hby d1_10) rfl rfl ?_
  have Fld3 := (F_freqs.other W2 (Or.inr (slot_ne (Or.inr (hw _ (List.mem_of_getElem? (i := 15) rfl))) (Or.inr (hw _ (List.mem_of_getElem? (i := 13) rfl))) (by decide) (t := .array .int) (t' := .array .int) (by decide) (by decide))))
  have Exa4 := (E1.wr W2)
  refine g_putF X2 hx hZ 14 rfl hown (hw _ (List.mem_of_getElem? (i := 14) rfl)) e2 Fld3 Exa4 (Or.inr ⟨(hw _ (List.mem_of_getElem? (i := 15) rfl)), rfl, hnm⟩) (hw _ (List.mem_of_getElem? (i := 4) rfl)) (ty := .array .int) (by decide) rfl rfl (hb hby d1_11) ?_
  intro T5 h5 X5 e5 W5
  have Fw5 := Fld3.same W5
  have N5 := Fr.snoc X5 N2 g1
  refine g_aload_n X5 hx 15 rfl (hb hby d1_14) rfl rfl ?_
  refine g_aload_n X5 hx 16 rfl (hb hby d1_15) rfl rfl ?_
  have Fld6 := ((F_positions.other W2 (Or.inr (slot_ne (Or.inr (hw _ (List.mem_of_getElem? (i := 17) rfl))) (Or.inr (hw _ (List.mem_of_getElem? (i := 13) rfl))) (by decide) (t := .array .int) (t' := .array .int) (by decide) (by decide)))).other W5 (Or.inr (slot_ne (Or.inr (hw _ (List.mem_of_getElem? (i := 17) rfl))) (Or.inr (hw _ (List.mem_of_getElem? (i := 15) rfl))) (by decide) (t := .array .int) (t' := .array .int) (by decide) (by decide))))
  have Exa7 := (Exa4.wr W5)
  refine g_putF X5 hx hZ 19 rfl hown (hw _ (List.mem_of_getElem? (i := 16) rfl)) e5 Fld6 Exa7 (Or.inr ⟨(hw _ (List.mem_of_getElem? (i := 17) rfl)), rfl, hnm⟩) (hw _ (List.mem_of_getElem? (i := 4) rfl)) (ty := .array .int) (by decide) rfl rfl (hb hby d1_16) ?_
  intro T8 h8 X8 e8 W8
  have Fw8 := Fld6.same W8
  have N8 := Fr.snoc X8 N5 g1
  refine g_aload_n X8 hx 20 rfl (hb hby d1_19) rfl rfl ?_
  refine g_aload_n X8 hx 21 rfl (hb hby d1_20) rfl rfl ?_
  have Al9 := (((Ad.other W2 ned).other W5 ned).other W8 ned)
  refine g_alen X8 hx hZ 22 rfl (hb hby d1_21) e8 Al9 (3 : Int32) rfl ?_
  refine g_newarr X8 hx hZ 24 rfl (hw _ (List.mem_of_getElem? (i := 2) rfl)) e8 (hb hby d1_22) 3 rfl 3 (Nat.le_refl _) (by decide) (by decide) (by decide) "[I" (by decide) ?_
  intro T10 h10 o10 g10 X10 e10 E10 A10 Ex10
  have Exa11 := (Exa7.wr W8)
  have ne_a1_o10 : a1 ≠ o10 := Nat.ne_of_lt (Nat.lt_of_lt_of_eq Exa11.lt g10.symm)
  have ne_d_o10 : d ≠ o10 := Nat.ne_of_lt (Nat.lt_of_lt_of_eq Al9.lt g10.symm)
  have Al12 := (((Af.other W2 nef).other W5 nef).other W8 nef)
  have ne_f_o10 : f ≠ o10 := Nat.ne_of_lt (Nat.lt_of_lt_of_eq Al12.lt g10.symm)
  have Zl13 : n0 ≤ h8.size := (Nat.le_trans (Nat.le_trans (Nat.le_trans Z0 (Nat.le_of_eq W2.size.symm)) (Nat.le_of_eq W5.size.symm)) (Nat.le_of_eq W8.size.symm))
  have ge_o10 : n0 ≤ o10 := Nat.le_trans Zl13 (Nat.le_of_eq g10.symm)
  have hz_o10 : h0.size ≤ o10 := Nat.le_trans ((((Keep.refl h0 [a1]).wr W2 (Or.inl (List.mem_of_getElem? (i := 0) rfl))).wr W5 (Or.inl (List.mem_of_getElem? (i := 0) rfl))).wr W8 (Or.inl (List.mem_of_getElem? (i := 0) rfl))).1 (Nat.le_of_eq g10.symm)
  have Al10 : Al Z h10 o10 .int [.int (0 : Int32), .int (0 : Int32), .int (0 : Int32)] := A10
  have Fld14 := ((((F_starts.other W2 (Or.inr (slot_ne (Or.inr (hw _ (List.mem_of_getElem? (i := 19) rfl))) (Or.inr (hw _ (List.mem_of_getElem? (i := 13) rfl))) (by decide) (t := .array .int) (t' := .array .int) (by decide) (by decide)))).other W5 (Or.inr (slot_ne (Or.inr (hw _ (List.mem_of_getElem? (i := 19) rfl))) (Or.inr (hw _ (List.mem_of_getElem? (i := 15) rfl))) (by decide) (t := .array .int) (t' := .array .int) (by decide) (by decide)))).other W8 (Or.inr (slot_ne (Or.inr (hw _ (List.mem_of_getElem? (i := 19) rfl))) (Or.inr (hw _ (List.mem_of_getElem? (i := 17) rfl))) (by decide) (t := .array .int) (t' := .array .int) (by decide) (by decide)))).ext E10)
  have Exa15 := (Exa11.ext E10)
  refine g_putF X10 hx hZ 27 rfl hown (hw _ (List.mem_of_getElem? (i := 18) rfl)) e10 Fld14 Exa15 (Or.inr ⟨(hw _ (List.mem_of_getElem? (i := 19) rfl)), rfl, hnm⟩) (hw _ (List.mem_of_getElem? (i := 4) rfl)) (ty := .array .int) (by decide) rfl rfl (hb hby d1_24) ?_
  intro T16 h16 X16 e16 W16
  have Fw16 := Fld14.same W16
  have N16 := Fr.snoc X16 N8 g1
  refine g_iconst X16 hx 28 rfl (1 : Int32) rfl (hb hby d1_27) ?_
  refine g_istore X16 hx 30 rfl (hb hby d1_28) #[.val (.ref a1), .val (.ref d), .val (.ref f), .val (.ref ps), .val (.int (1 : Int32))] rfl ?_
  refine g_iload X16 hx 32 rfl (hb hby d1_30) rfl ?_
  refine g_aload_n X16 hx 33 rfl (hb hby d1_32) rfl rfl ?_
  have Al17 := ((Al9.ext E10).other W16 ned)
  refine g_alen X16 hx hZ 34 rfl (hb hby d1_33) e16 Al17 (3 : Int32) rfl ?_
  refine g_icmpN X16 hx 37 rfl (hb hby d1_34) (XT.ii_ge_f (by decide)) ?_
  refine g_aload_n X16 hx 38 rfl (hb hby d1_37) rfl rfl ?_
  refine g_getF X16 hx hZ 41 rfl hown (hw _ (List.mem_of_getElem? (i := 18) rfl)) e16 Fw16 (hb hby d1_38) ?_
  intro T18 X18 e18
  refine g_iload X18 hx 43 rfl (hb hby d1_41) rfl ?_
  refine g_aload_n X18 hx 44 rfl (hb hby d1_43) rfl rfl ?_
  refine g_getF X18 hx hZ 47 rfl hown (hw _ (List.mem_of_getElem? (i := 18) rfl)) e18 Fw16 (hb hby d1_44) ?_
  intro T19 X19 e19
  refine g_iload X19 hx 49 rfl (hb hby d1_47) rfl ?_
  refine g_iconst X19 hx 50 rfl (1 : Int32) rfl (hb hby d1_49) ?_
  refine g_isub X19 hx 51 rfl (hb hby d1_50) ?_
  show Goes p e below (T19.setTop (mkF m 51 #[.val (.ref a1), .val (.ref d), .val (.ref f), .val (.ref ps), .val (.int (1 : Int32))] [.int (0 : Int32), .ref o10, .int (1 : Int32), .ref o10])) _
  have Al20 := (Al10.other W16 (Ne.symm ne_a1_o10))
  refine g_iaload X19 hx hZ 52 rfl (hb hby d1_51) e19 Al20 0 rfl (.int (0 : Int32)) rfl ?_
  refine g_aload_n X19 hx 53 rfl (hb hby d1_52) rfl rfl ?_
  refine g_iload X19 hx 55 rfl (hb hby d1_53) rfl ?_
  refine g_iconst X19 hx 56 rfl (1 : Int32) rfl (hb hby d1_55) ?_
  refine g_isub X19 hx 57 rfl (hb hby d1_56) ?_
  show Goes p e below (T19.setTop (mkF m 57 #[.val (.ref a1), .val (.ref d), .val (.ref f), .val (.ref ps), .val (.int (1 : Int32))] [.int (0 : Int32), .ref f, .int (0 : Int32), .int (1 : Int32), .ref o10])) _
  have Al21 := ((Al12.ext E10).other W16 nef)
  refine g_iaload X19 hx hZ 58 rfl (hb hby d1_57) e19 Al21 0 rfl (.int f0) rfl ?_
  refine g_iadd X19 hx 59 rfl (hb hby d1_58) ?_
  refine g_iastore X19 hx hZ 60 rfl (hb hby d1_59) e19 Al20 1 rfl (show 1 < 3 by decide) ?_
  intro T22 h22 X22 e22 W22 B22
  have N22 := Fr.snoc X22 N16 ge_o10
  have Al22 : Al Z h22 o10 .int [.int (0 : Int32), .int ((0 : Int32) + f0), .int (0 : Int32)] := B22
  refine g_iinc X22 hx 63 rfl (hb hby d1_60) (2 : Int32) rfl rfl #[.val (.ref a1), .val (.ref d), .val (.ref f), .val (.ref ps), .val (.int (2 : Int32))] rfl ?_
  refine g_goto X22 hx 30 (hb hby d1_63) (by decide) (by decide) ?_
  refine g_iload X22 hx 32 rfl (hb hby d1_30) rfl ?_
  refine g_aload_n X22 hx 33 rfl (hb hby d1_32) rfl rfl ?_
  have Al23 := (Al17.other W22 ne_d_o10)
  refine g_alen X22 hx hZ 34 rfl (hb hby d1_33) e22 Al23 (3 : Int32) rfl ?_
  refine g_icmpN X22 hx 37 rfl (hb hby d1_34) (XT.ii_ge_f (by decide)) ?_
  refine g_aload_n X22 hx 38 rfl (hb hby d1_37) rfl rfl ?_
  have Fld24 := (Fw16.other W22 (Or.inl ne_a1_o10))
  refine g_getF X22 hx hZ 41 rfl hown (hw _ (List.mem_of_getElem? (i := 18) rfl)) e22 Fld24 (hb hby d1_38) ?_
  intro T25 X25 e25
  refine g_iload X25 hx 43 rfl (hb hby d1_41) rfl ?_
  refine g_aload_n X25 hx 44 rfl (hb hby d1_43) rfl rfl ?_
  refine g_getF X25 hx hZ 47 rfl hown (hw _ (List.mem_of_getElem? (i := 18) rfl)) e25 Fld24 (hb hby d1_44) ?_
  intro T26 X26 e26
  refine g_iload X26 hx 49 rfl (hb hby d1_47) rfl ?_
  refine g_iconst X26 hx 50 rfl (1 : Int32) rfl (hb hby d1_49) ?_
  refine g_isub X26 hx 51 rfl (hb hby d1_50) ?_
  show Goes p e below (T26.setTop (mkF m 51 #[.val (.ref a1), .val (.ref d), .val (.ref f), .val (.ref ps), .val (.int (2 : Int32))] [.int (1 : Int32), .ref o10, .int (2 : Int32), .ref o10])) _
  refine g_iaload X26 hx hZ 52 rfl (hb hby d1_51) e26 Al22 1 rfl (.int ((0 : Int32) + f0)) rfl ?_
  refine g_aload_n X26 hx 53 rfl (hb hby d1_52) rfl rfl ?_
  refine g_iload X26 hx 55 rfl (hb hby d1_53) rfl ?_
  refine g_iconst X26 hx 56 rfl (1 : Int32) rfl (hb hby d1_55) ?_
  refine g_isub X26 hx 57 rfl (hb hby d1_56) ?_
  show Goes p e below (T26.setTop (mkF m 57 #[.val (.ref a1), .val (.ref d), .val (.ref f), .val (.ref ps), .val (.int (2 : Int32))] [.int (1 : Int32), .ref f, .int ((0 : Int32) + f0), .int (2 : Int32), .ref o10])) _
  have Al27 := (Al21.other W22 ne_f_o10)
  refine g_iaload X26 hx hZ 58 rfl (hb hby d1_57) e26 Al27 1 rfl (.int f1) rfl ?_
  refine g_iadd X26 hx 59 rfl (hb hby d1_58) ?_
  refine g_iastore X26 hx hZ 60 rfl (hb hby d1_59) e26 Al22 2 rfl (show 2 < 3 by decide) ?_
  intro T28 h28 X28 e28 W28 B28
  have N28 := Fr.snoc X28 N22 ge_o10
  have Al28 : Al Z h28 o10 .int [.int (0 : Int32), .int ((0 : Int32) + f0), .int (((0 : Int32) + f0) + f1)] := B28
  refine g_iinc X28 hx 63 rfl (hb hby d1_60) (3 : Int32) rfl rfl #[.val (.ref a1), .val (.ref d), .val (.ref f), .val (.ref ps), .val (.int (3 : Int32))] rfl ?_
  refine g_goto X28 hx 30 (hb hby d1_63) (by decide) (by decide) ?_
  refine g_iload X28 hx 32 rfl (hb hby d1_30) rfl ?_
  refine g_aload_n X28 hx 33 rfl (hb hby d1_32) rfl rfl ?_
  have Al29 := (Al23.other W28 ne_d_o10)
  refine g_alen X28 hx hZ 34 rfl (hb hby d1_33) e28 Al29 (3 : Int32) rfl ?_
  refine g_icmpY X28 hx 66 (hb hby d1_34) (XT.ii_ge_t (by decide)) (by decide) (by decide) ?_
  have Exa30 := (((Exa15.wr W16).wr W22).wr W28)
  have Fld31 := ((((Fw8.ext E10).other W16 (Or.inr (slot_ne (Or.inr (hw _ (List.mem_of_getElem? (i := 17) rfl))) (Or.inr (hw _ (List.mem_of_getElem? (i := 19) rfl))) (by decide) (t := .array .int) (t' := .array .int) (by decide) (by decide)))).other W22 (Or.inl ne_a1_o10)).other W28 (Or.inl ne_a1_o10))
  have Fld32 := (Fld24.other W28 (Or.inl ne_a1_o10))
  exact g_ret0 X28 hx hret hlk (hb hby d1_66) (by rw [e28]; exact ⟨rfl, N28, ((((((((Keep.refl h0 [a1]).wr W2 (Or.inl (List.mem_of_getElem? (i := 0) rfl))).wr W5 (Or.inl (List.mem_of_getElem? (i := 0) rfl))).wr W8 (Or.inl (List.mem_of_getElem? (i := 0) rfl))).ext E10).wr W16 (Or.inl (List.mem_of_getElem? (i := 0) rfl))).wr W22 (Or.inr hz_o10)).wr W28 (Or.inr hz_o10)), Exa30, Fld31, _, Fld32, Al28⟩) (by decide) (by decide)
theorem d3_0 : decode prog_51_method_6_code 0 = .ok (.aload_n 0, 1) := by decide +kernel
theorem d3_1 : decode prog_51_method_6_code 1 = .ok (.getfield 16, 3) := by decide +kernel
theorem d3_4 : decode prog_51_method_6_code 4 = .ok (.aload_n 0, 1) := by decide +kernel
theorem d3_5 : decode prog_51_method_6_code 5 = .ok (.getfield 19, 3) := by decide +kernel
theorem d3_8 : decode prog_51_method_6_code 8 = .ok (.iload_n 1, 1) := by decide +kernel
theorem d3_9 : decode prog_51_method_6_code 9 = .ok (.iaload, 1) := by decide +kernel
theorem d3_10 : decode prog_51_method_6_code 10 = .ok (.iload_n 2, 1) := by decide +kernel
theorem d3_11 : decode prog_51_method_6_code 11 = .ok (.iadd, 1) := by decide +kernel
theorem d3_12 : decode prog_51_method_6_code 12 = .ok (.iaload, 1) := by decide +kernel
theorem d3_13 : decode prog_51_method_6_code 13 = .ok (.ireturn, 1) := by decide +kernel
theorem ef_3_rmP (m : MethodId) (a1 : Addr) (p2 : Int32) (p3 : Int32) (st : Addr) (ps : Addr) (vs : List Value) (vp : List Value) (i : Nat) (k : Nat) (sv : Int32) (w : Int32)  : entryFrame m #[(.ref a1), (.int p2), (.int p3)] 3 = mkF m 0 #[.val (.ref a1), .val (.int p2), .val (.int p3)] [] := by first | (simp [entryFrame, mkF, argsToLocals, Value.category, maxLocals]; done) | rfl
def Q_rmP (Z : State) (a1 : Addr) (p2 : Int32) (p3 : Int32) (st : Addr) (ps : Addr) (vs : List Value) (vp : List Value) (i : Nat) (k : Nat) (sv : Int32) (w : Int32) (h0 : Heap) (n0 : Nat) (v : Option Value) (h : Heap) (L : List Loc) : Prop := v = some (.int w) ∧ Fr n0 L ∧ h = h0
set_option maxRecDepth 65536 in
set_option maxHeartbeats 40000000 in
theorem rmP (l : Launch) (Z : State) (a0 : Array Value) (hw : ∀ d ∈ tables_1, d.before a0 Z = true) (ws : List Jvm.Cond) (a1 : Addr) (p2 : Int32) (p3 : Int32) (st : Addr) (ps : Addr) (vs : List Value) (vp : List Value) (i : Nat) (k : Nat) (sv : Int32) (w : Int32) (h0 : Heap) (n0 : Nat) (Z0 : n0 ≤ h0.size) (F1 : Fld Z h0 a1 "com/example/cranfield/cranfield/index/Postings" "positions" "[I" (.ref ps)) (F2 : Fld Z h0 a1 "com/example/cranfield/cranfield/index/Postings" "starts" "[I" (.ref st)) (As : Al Z h0 st .int vs) (Ap : Al Z h0 ps .int vp) (hi : p2.toInt = (i : Int)) (hv : vs[i]? = some (.int sv)) (hk : (sv + p3).toInt = (k : Int)) (hw2 : vp[k]? = some (.int w)) :
    OwnMet l Z (⟨"com/example/cranfield/cranfield/index/Postings", "position", "(II)I"⟩ : MethodName) prog_51_method_6_code 3 (some .int) ws ({ frames := 0, cells := 0, slots := 0, locals := 0 } : Room) #[(.ref a1), (.int p2), (.int p3)] h0 (Q_rmP Z a1 p2 p3 st ps vs vp i k sv w h0 n0) := by
  refine own_body (plainFor_of_name pn_0) ?_
  intro p e s m below meth c s₁ hx hby hml hown hnm hret hlk hZ X0 e0
  have N0 := Fr.nil n0
  refine own_cast (ef_3_rmP m a1 p2 p3 st ps vs vp i k sv w ) ?_
  refine g_aload_n X0 hx 1 rfl (hb hby d3_0) rfl rfl ?_
  refine g_getF X0 hx hZ 4 rfl hown (hw _ (List.mem_of_getElem? (i := 16) rfl)) e0 F1 (hb hby d3_1) ?_
  intro T1 X1 e1
  refine g_aload_n X1 hx 5 rfl (hb hby d3_4) rfl rfl ?_
  refine g_getF X1 hx hZ 8 rfl hown (hw _ (List.mem_of_getElem? (i := 18) rfl)) e1 F2 (hb hby d3_5) ?_
  intro T2 X2 e2
  refine g_iload_n X2 hx 9 rfl (hb hby d3_8) rfl ?_
  refine g_iaload X2 hx hZ 10 rfl (hb hby d3_9) e2 As i hi (.int sv) hv ?_
  refine g_iload_n X2 hx 11 rfl (hb hby d3_10) rfl ?_
  refine g_iadd X2 hx 12 rfl (hb hby d3_11) ?_
  refine g_iaload X2 hx hZ 13 rfl (hb hby d3_12) e2 Ap k hk (.int w) hw2 ?_
  exact g_retI X2 hx hret hlk (hb hby d3_13) ⟨rfl, N0, e2⟩ (by decide) (by decide)
theorem pn_1 : plainName "com/example/cranfield/cranfield/index/PostingsPositionPinLaw" = true := by first | (simp [plainName, overriddenIn]; done) | decide +kernel
theorem pd_1 : parseMethodDescriptor "([I[I[I)V" = some ⟨[.array .int, .array .int, .array .int], none⟩ := by decide +kernel
theorem pd_2 : parseMethodDescriptor "(II)I" = some ⟨[.int, .int], some .int⟩ := by decide +kernel
theorem ef_0_rm0 (m : MethodId) (p1 : Int32) (p2 : Int32) (p3 : Int32) (p4 : Int32)  : entryFrame m #[(.int p1), (.int p2), (.int p3), (.int p4)] maxLocals = mkF m 0 #[.val (.int p1), .val (.int p2), .val (.int p3), .val (.int p4), .unset, .unset, .unset, .unset, .unset, .unset, .unset, .unset, .unset, .unset, .unset, .unset, .unset, .unset, .unset] [] := by first | (simp [entryFrame, mkF, argsToLocals, Value.category, maxLocals]; done) | rfl
def Q_rm0 (Z : State) (p1 : Int32) (p2 : Int32) (p3 : Int32) (p4 : Int32) (h0 : Heap) (n0 : Nat) (v : Option Value) (h : Heap) (L : List Loc) : Prop := v = some (.int 1) ∧ Fr n0 L
set_option maxRecDepth 65536 in
set_option maxHeartbeats 40000000 in
theorem rm0 (l : Launch) (Z : State) (a0 : Array Value) (hw : ∀ d ∈ tables_1, d.before a0 Z = true) (ws : List Jvm.Cond) (p1 : Int32) (p2 : Int32) (p3 : Int32) (p4 : Int32) (h0 : Heap) (n0 : Nat) (Z0 : n0 ≤ h0.size)  :
    OwnMet l Z x code maxLocals ret ws room_1 #[(.int p1), (.int p2), (.int p3), (.int p4)] h0 (Q_rm0 Z p1 p2 p3 p4 h0 n0) := by
  refine own_body (plainFor_of_name pn_1) ?_
  intro p e s m below meth c s₁ hx hby hml hown hnm hret hlk hZ X0 e0
  have N0 := Fr.nil n0
  refine own_cast (ef_0_rm0 m p1 p2 p3 p4 ) ?_
  refine g_iload_n X0 hx 1 rfl (hb hby at_0) rfl ?_
  refine g_ldcI X0 hx 3 rfl hown hZ (hw _ (List.mem_of_getElem? (i := 0) rfl)) (hb hby at_1) ?_
  refine g_iand X0 hx 4 rfl (hb hby at_3) ?_
  refine g_istore X0 hx 6 rfl (hb hby at_4) #[.val (.int p1), .val (.int p2), .val (.int p3), .val (.int p4), .val (.int (p1 &&& (1073741823 : Int32))), .unset, .unset, .unset, .unset, .unset, .unset, .unset, .unset, .unset, .unset, .unset, .unset, .unset, .unset] rfl ?_
  generalize hv_b : p1 &&& (1073741823 : Int32) = b
  refine g_iload_n X0 hx 7 rfl (hb hby at_6) rfl ?_
  refine g_sipush X0 hx 10 rfl (255 : Int32) rfl (hb hby at_7) ?_
  refine g_iand X0 hx 11 rfl (hb hby at_10) ?_
  refine g_iconst X0 hx 12 rfl (1 : Int32) rfl (hb hby at_11) ?_
  refine g_iadd X0 hx 13 rfl (hb hby at_12) ?_
  refine g_istore X0 hx 15 rfl (hb hby at_13) #[.val (.int p1), .val (.int p2), .val (.int p3), .val (.int p4), .val (.int b), .val (.int ((p2 &&& (255 : Int32)) + (1 : Int32))), .unset, .unset, .unset, .unset, .unset, .unset, .unset, .unset, .unset, .unset, .unset, .unset, .unset] rfl ?_
  generalize hv_t : (p2 &&& (255 : Int32)) + (1 : Int32) = t
  refine g_iload_n X0 hx 16 rfl (hb hby at_15) rfl ?_
  refine g_ldcI X0 hx 18 rfl hown hZ (hw _ (List.mem_of_getElem? (i := 1) rfl)) (hb hby at_16) ?_
  refine g_iand X0 hx 19 rfl (hb hby at_18) ?_
  refine g_istore X0 hx 21 rfl (hb hby at_19) #[.val (.int p1), .val (.int p2), .val (.int p3), .val (.int p4), .val (.int b), .val (.int t), .val (.int (p3 &&& (2147483647 : Int32))), .unset, .unset, .unset, .unset, .unset, .unset, .unset, .unset, .unset, .unset, .unset, .unset] rfl ?_
  have hfs := own_m31 p3
  generalize hfsv : p3 &&& (2147483647 : Int32) = fs at hfs ⊢
  refine g_iload X0 hx 23 rfl (hb hby at_21) rfl ?_
  refine g_iconst X0 hx 24 rfl (3 : Int32) rfl (hb hby at_23) ?_
  refine g_irem X0 hx 25 rfl (hb hby at_24) (by decide) ?_
  refine g_iconst X0 hx 26 rfl (1 : Int32) rfl (hb hby at_25) ?_
  refine g_iadd X0 hx 27 rfl (hb hby at_26) ?_
  refine g_istore X0 hx 29 rfl (hb hby at_27) #[.val (.int p1), .val (.int p2), .val (.int p3), .val (.int p4), .val (.int b), .val (.int t), .val (.int fs), .val (.int ((fs % (3 : Int32)) + (1 : Int32))), .unset, .unset, .unset, .unset, .unset, .unset, .unset, .unset, .unset, .unset, .unset] rfl ?_
  refine g_iload X0 hx 31 rfl (hb hby at_29) rfl ?_
  refine g_iconst X0 hx 32 rfl (3 : Int32) rfl (hb hby at_31) ?_
  refine g_idiv X0 hx 33 rfl (hb hby at_32) (by decide) ?_
  refine g_iconst X0 hx 34 rfl (3 : Int32) rfl (hb hby at_33) ?_
  refine g_irem X0 hx 35 rfl (hb hby at_34) (by decide) ?_
  refine g_iconst X0 hx 36 rfl (1 : Int32) rfl (hb hby at_35) ?_
  refine g_iadd X0 hx 37 rfl (hb hby at_36) ?_
  refine g_istore X0 hx 39 rfl (hb hby at_37) #[.val (.int p1), .val (.int p2), .val (.int p3), .val (.int p4), .val (.int b), .val (.int t), .val (.int fs), .val (.int ((fs % (3 : Int32)) + (1 : Int32))), .val (.int (((fs / (3 : Int32)) % (3 : Int32)) + (1 : Int32))), .unset, .unset, .unset, .unset, .unset, .unset, .unset, .unset, .unset, .unset] rfl ?_
  refine g_iload X0 hx 41 rfl (hb hby at_39) rfl ?_
  refine g_bipush X0 hx 43 rfl (9 : Int32) rfl (hb hby at_41) ?_
  refine g_idiv X0 hx 44 rfl (hb hby at_43) (by decide) ?_
  refine g_iconst X0 hx 45 rfl (3 : Int32) rfl (hb hby at_44) ?_
  refine g_irem X0 hx 46 rfl (hb hby at_45) (by decide) ?_
  refine g_iconst X0 hx 47 rfl (1 : Int32) rfl (hb hby at_46) ?_
  refine g_iadd X0 hx 48 rfl (hb hby at_47) ?_
  refine g_istore X0 hx 50 rfl (hb hby at_48) #[.val (.int p1), .val (.int p2), .val (.int p3), .val (.int p4), .val (.int b), .val (.int t), .val (.int fs), .val (.int ((fs % (3 : Int32)) + (1 : Int32))), .val (.int (((fs / (3 : Int32)) % (3 : Int32)) + (1 : Int32))), .val (.int (((fs / (9 : Int32)) % (3 : Int32)) + (1 : Int32))), .unset, .unset, .unset, .unset, .unset, .unset, .unset, .unset, .unset] rfl ?_
  have bf0 : 1 ≤ ((fs % (3 : Int32)) + (1 : Int32)).toInt ∧ ((fs % (3 : Int32)) + (1 : Int32)).toInt ≤ 3 := own_f fs hfs
  generalize hf0 : (fs % (3 : Int32)) + (1 : Int32) = f0 at bf0 ⊢
  have bf1 : 1 ≤ (((fs / (3 : Int32)) % (3 : Int32)) + (1 : Int32)).toInt ∧ (((fs / (3 : Int32)) % (3 : Int32)) + (1 : Int32)).toInt ≤ 3 := own_f _ (own_d fs 3 hfs (by decide))
  generalize hf1 : ((fs / (3 : Int32)) % (3 : Int32)) + (1 : Int32) = f1 at bf1 ⊢
  have bf2 : 1 ≤ (((fs / (9 : Int32)) % (3 : Int32)) + (1 : Int32)).toInt ∧ (((fs / (9 : Int32)) % (3 : Int32)) + (1 : Int32)).toInt ≤ 3 := own_f _ (own_d fs 9 hfs (by decide))
  generalize hf2 : ((fs / (9 : Int32)) % (3 : Int32)) + (1 : Int32) = f2 at bf2 ⊢
  refine g_iconst X0 hx 51 rfl (3 : Int32) rfl (hb hby at_50) ?_
  refine g_newarr X0 hx hZ 53 rfl (hw _ (List.mem_of_getElem? (i := 2) rfl)) e0 (hb hby at_51) 3 rfl 3 (Nat.le_refl _) (by decide) (by decide) (by decide) "[I" (by decide) ?_
  intro T1 h1 o1 g1 X1 e1 E1 A1 Ex1
  have ge_o1 : n0 ≤ o1 := Nat.le_trans Z0 (Nat.le_of_eq g1.symm)
  have Al1 : Al Z h1 o1 .int [.int (0 : Int32), .int (0 : Int32), .int (0 : Int32)] := A1
  refine g_dup X1 hx 54 rfl (hb hby at_53) rfl ?_
  refine g_iconst X1 hx 55 rfl (0 : Int32) rfl (hb hby at_54) ?_
  refine g_iconst X1 hx 56 rfl (0 : Int32) rfl (hb hby at_55) ?_
  refine g_iastore X1 hx hZ 57 rfl (hb hby at_56) e1 Al1 0 rfl (show 0 < 3 by decide) ?_
  intro T2 h2 X2 e2 W2 B2
  have N2 := Fr.snoc X2 N0 ge_o1
  have Al2 : Al Z h2 o1 .int [.int (0 : Int32), .int (0 : Int32), .int (0 : Int32)] := B2
  refine g_dup X2 hx 58 rfl (hb hby at_57) rfl ?_
  refine g_iconst X2 hx 59 rfl (1 : Int32) rfl (hb hby at_58) ?_
  refine g_iconst X2 hx 60 rfl (1 : Int32) rfl (hb hby at_59) ?_
  refine g_iastore X2 hx hZ 61 rfl (hb hby at_60) e2 Al2 1 rfl (show 1 < 3 by decide) ?_
  intro T3 h3 X3 e3 W3 B3
  have N3 := Fr.snoc X3 N2 ge_o1
  have Al3 : Al Z h3 o1 .int [.int (0 : Int32), .int (1 : Int32), .int (0 : Int32)] := B3
  refine g_dup X3 hx 62 rfl (hb hby at_61) rfl ?_
  refine g_iconst X3 hx 63 rfl (2 : Int32) rfl (hb hby at_62) ?_
  refine g_iconst X3 hx 64 rfl (2 : Int32) rfl (hb hby at_63) ?_
  refine g_iastore X3 hx hZ 65 rfl (hb hby at_64) e3 Al3 2 rfl (show 2 < 3 by decide) ?_
  intro T4 h4 X4 e4 W4 B4
  have N4 := Fr.snoc X4 N3 ge_o1
  have Al4 : Al Z h4 o1 .int [.int (0 : Int32), .int (1 : Int32), .int (2 : Int32)] := B4
  refine g_astore X4 hx 67 rfl (hb hby at_65) rfl #[.val (.int p1), .val (.int p2), .val (.int p3), .val (.int p4), .val (.int b), .val (.int t), .val (.int fs), .val (.int f0), .val (.int f1), .val (.int f2), .val (.ref o1), .unset, .unset, .unset, .unset, .unset, .unset, .unset, .unset] rfl ?_
  refine g_iconst X4 hx 68 rfl (3 : Int32) rfl (hb hby at_67) ?_
  refine g_newarr X4 hx hZ 70 rfl (hw _ (List.mem_of_getElem? (i := 2) rfl)) e4 (hb hby at_68) 3 rfl 3 (Nat.le_refl _) (by decide) (by decide) (by decide) "[I" (by decide) ?_
  intro T5 h5 o5 g5 X5 e5 E5 A5 Ex5
  have Exa6 := (((Ex1.wr W2).wr W3).wr W4)
  have ne_o1_o5 : o1 ≠ o5 := Nat.ne_of_lt (Nat.lt_of_lt_of_eq Exa6.lt g5.symm)
  have Zl7 : n0 ≤ h4.size := (Nat.le_trans (Nat.le_trans (Nat.le_trans (Nat.le_trans Z0 E1.1) (Nat.le_of_eq W2.size.symm)) (Nat.le_of_eq W3.size.symm)) (Nat.le_of_eq W4.size.symm))
  have ge_o5 : n0 ≤ o5 := Nat.le_trans Zl7 (Nat.le_of_eq g5.symm)
  have Al5 : Al Z h5 o5 .int [.int (0 : Int32), .int (0 : Int32), .int (0 : Int32)] := A5
  refine g_dup X5 hx 71 rfl (hb hby at_70) rfl ?_
  refine g_iconst X5 hx 72 rfl (0 : Int32) rfl (hb hby at_71) ?_
  refine g_iload X5 hx 74 rfl (hb hby at_72) rfl ?_
  refine g_iastore X5 hx hZ 75 rfl (hb hby at_74) e5 Al5 0 rfl (show 0 < 3 by decide) ?_
  intro T8 h8 X8 e8 W8 B8
  have N8 := Fr.snoc X8 N4 ge_o5
  have Al8 : Al Z h8 o5 .int [.int f0, .int (0 : Int32), .int (0 : Int32)] := B8
  refine g_dup X8 hx 76 rfl (hb hby at_75) rfl ?_
  refine g_iconst X8 hx 77 rfl (1 : Int32) rfl (hb hby at_76) ?_
  refine g_iload X8 hx 79 rfl (hb hby at_77) rfl ?_
  refine g_iastore X8 hx hZ 80 rfl (hb hby at_79) e8 Al8 1 rfl (show 1 < 3 by decide) ?_
  intro T9 h9 X9 e9 W9 B9
  have N9 := Fr.snoc X9 N8 ge_o5
  have Al9 : Al Z h9 o5 .int [.int f0, .int f1, .int (0 : Int32)] := B9
  refine g_dup X9 hx 81 rfl (hb hby at_80) rfl ?_
  refine g_iconst X9 hx 82 rfl (2 : Int32) rfl (hb hby at_81) ?_
  refine g_iload X9 hx 84 rfl (hb hby at_82) rfl ?_
  refine g_iastore X9 hx hZ 85 rfl (hb hby at_84) e9 Al9 2 rfl (show 2 < 3 by decide) ?_
  intro T10 h10 X10 e10 W10 B10
  have N10 := Fr.snoc X10 N9 ge_o5
  have Al10 : Al Z h10 o5 .int [.int f0, .int f1, .int f2] := B10
  refine g_astore X10 hx 87 rfl (hb hby at_85) rfl #[.val (.int p1), .val (.int p2), .val (.int p3), .val (.int p4), .val (.int b), .val (.int t), .val (.int fs), .val (.int f0), .val (.int f1), .val (.int f2), .val (.ref o1), .val (.ref o5), .unset, .unset, .unset, .unset, .unset, .unset, .unset] rfl ?_
  refine g_bipush X10 hx 89 rfl (9 : Int32) rfl (hb hby at_87) ?_
  refine g_newarr X10 hx hZ 91 rfl (hw _ (List.mem_of_getElem? (i := 2) rfl)) e10 (hb hby at_89) 9 rfl 9 (Nat.le_refl _) (by decide) (by decide) (by decide) "[I" (by decide) ?_
  intro T11 h11 o11 g11 X11 e11 E11 A11 Ex11
  have Exa12 := ((((Exa6.ext E5).wr W8).wr W9).wr W10)
  have ne_o1_o11 : o1 ≠ o11 := Nat.ne_of_lt (Nat.lt_of_lt_of_eq Exa12.lt g11.symm)
  have Exa13 := (((Ex5.wr W8).wr W9).wr W10)
  have ne_o5_o11 : o5 ≠ o11 := Nat.ne_of_lt (Nat.lt_of_lt_of_eq Exa13.lt g11.symm)
  have Zl14 : n0 ≤ h10.size := (Nat.le_trans (Nat.le_trans (Nat.le_trans (Nat.le_trans Zl7 E5.1) (Nat.le_of_eq W8.size.symm)) (Nat.le_of_eq W9.size.symm)) (Nat.le_of_eq W10.size.symm))
  have ge_o11 : n0 ≤ o11 := Nat.le_trans Zl14 (Nat.le_of_eq g11.symm)
  have Al11 : Al Z h11 o11 .int [.int (0 : Int32), .int (0 : Int32), .int (0 : Int32), .int (0 : Int32), .int (0 : Int32), .int (0 : Int32), .int (0 : Int32), .int (0 : Int32), .int (0 : Int32)] := A11
  refine g_dup X11 hx 92 rfl (hb hby at_91) rfl ?_
  refine g_iconst X11 hx 93 rfl (0 : Int32) rfl (hb hby at_92) ?_
  refine g_iload X11 hx 95 rfl (hb hby at_93) rfl ?_
  refine g_iastore X11 hx hZ 96 rfl (hb hby at_95) e11 Al11 0 rfl (show 0 < 9 by decide) ?_
  intro T15 h15 X15 e15 W15 B15
  have N15 := Fr.snoc X15 N10 ge_o11
  have Al15 : Al Z h15 o11 .int [.int b, .int (0 : Int32), .int (0 : Int32), .int (0 : Int32), .int (0 : Int32), .int (0 : Int32), .int (0 : Int32), .int (0 : Int32), .int (0 : Int32)] := B15
  refine g_dup X15 hx 97 rfl (hb hby at_96) rfl ?_
  refine g_iconst X15 hx 98 rfl (1 : Int32) rfl (hb hby at_97) ?_
  refine g_iload X15 hx 100 rfl (hb hby at_98) rfl ?_
  refine g_iload X15 hx 102 rfl (hb hby at_100) rfl ?_
  refine g_iadd X15 hx 103 rfl (hb hby at_102) ?_
  refine g_iastore X15 hx hZ 104 rfl (hb hby at_103) e15 Al15 1 rfl (show 1 < 9 by decide) ?_
  intro T16 h16 X16 e16 W16 B16
  have N16 := Fr.snoc X16 N15 ge_o11
  have Al16 : Al Z h16 o11 .int [.int b, .int (b + t), .int (0 : Int32), .int (0 : Int32), .int (0 : Int32), .int (0 : Int32), .int (0 : Int32), .int (0 : Int32), .int (0 : Int32)] := B16
  refine g_dup X16 hx 105 rfl (hb hby at_104) rfl ?_
  refine g_iconst X16 hx 106 rfl (2 : Int32) rfl (hb hby at_105) ?_
  refine g_iload X16 hx 108 rfl (hb hby at_106) rfl ?_
  refine g_iconst X16 hx 109 rfl (2 : Int32) rfl (hb hby at_108) ?_
  refine g_iload X16 hx 111 rfl (hb hby at_109) rfl ?_
  refine g_imul X16 hx 112 rfl (hb hby at_111) ?_
  refine g_iadd X16 hx 113 rfl (hb hby at_112) ?_
  refine g_iastore X16 hx hZ 114 rfl (hb hby at_113) e16 Al16 2 rfl (show 2 < 9 by decide) ?_
  intro T17 h17 X17 e17 W17 B17
  have N17 := Fr.snoc X17 N16 ge_o11
  have Al17 : Al Z h17 o11 .int [.int b, .int (b + t), .int (b + ((2 : Int32) * t)), .int (0 : Int32), .int (0 : Int32), .int (0 : Int32), .int (0 : Int32), .int (0 : Int32), .int (0 : Int32)] := B17
  refine g_dup X17 hx 115 rfl (hb hby at_114) rfl ?_
  refine g_iconst X17 hx 116 rfl (3 : Int32) rfl (hb hby at_115) ?_
  refine g_iload X17 hx 118 rfl (hb hby at_116) rfl ?_
  refine g_iconst X17 hx 119 rfl (3 : Int32) rfl (hb hby at_118) ?_
  refine g_iload X17 hx 121 rfl (hb hby at_119) rfl ?_
  refine g_imul X17 hx 122 rfl (hb hby at_121) ?_
  refine g_iadd X17 hx 123 rfl (hb hby at_122) ?_
  refine g_iastore X17 hx hZ 124 rfl (hb hby at_123) e17 Al17 3 rfl (show 3 < 9 by decide) ?_
  intro T18 h18 X18 e18 W18 B18
  have N18 := Fr.snoc X18 N17 ge_o11
  have Al18 : Al Z h18 o11 .int [.int b, .int (b + t), .int (b + ((2 : Int32) * t)), .int (b + ((3 : Int32) * t)), .int (0 : Int32), .int (0 : Int32), .int (0 : Int32), .int (0 : Int32), .int (0 : Int32)] := B18
  refine g_dup X18 hx 125 rfl (hb hby at_124) rfl ?_
  refine g_iconst X18 hx 126 rfl (4 : Int32) rfl (hb hby at_125) ?_
  refine g_iload X18 hx 128 rfl (hb hby at_126) rfl ?_
  refine g_iconst X18 hx 129 rfl (4 : Int32) rfl (hb hby at_128) ?_
  refine g_iload X18 hx 131 rfl (hb hby at_129) rfl ?_
  refine g_imul X18 hx 132 rfl (hb hby at_131) ?_
  refine g_iadd X18 hx 133 rfl (hb hby at_132) ?_
  refine g_iastore X18 hx hZ 134 rfl (hb hby at_133) e18 Al18 4 rfl (show 4 < 9 by decide) ?_
  intro T19 h19 X19 e19 W19 B19
  have N19 := Fr.snoc X19 N18 ge_o11
  have Al19 : Al Z h19 o11 .int [.int b, .int (b + t), .int (b + ((2 : Int32) * t)), .int (b + ((3 : Int32) * t)), .int (b + ((4 : Int32) * t)), .int (0 : Int32), .int (0 : Int32), .int (0 : Int32), .int (0 : Int32)] := B19
  refine g_dup X19 hx 135 rfl (hb hby at_134) rfl ?_
  refine g_iconst X19 hx 136 rfl (5 : Int32) rfl (hb hby at_135) ?_
  refine g_iload X19 hx 138 rfl (hb hby at_136) rfl ?_
  refine g_iconst X19 hx 139 rfl (5 : Int32) rfl (hb hby at_138) ?_
  refine g_iload X19 hx 141 rfl (hb hby at_139) rfl ?_
  refine g_imul X19 hx 142 rfl (hb hby at_141) ?_
  refine g_iadd X19 hx 143 rfl (hb hby at_142) ?_
  refine g_iastore X19 hx hZ 144 rfl (hb hby at_143) e19 Al19 5 rfl (show 5 < 9 by decide) ?_
  intro T20 h20 X20 e20 W20 B20
  have N20 := Fr.snoc X20 N19 ge_o11
  have Al20 : Al Z h20 o11 .int [.int b, .int (b + t), .int (b + ((2 : Int32) * t)), .int (b + ((3 : Int32) * t)), .int (b + ((4 : Int32) * t)), .int (b + ((5 : Int32) * t)), .int (0 : Int32), .int (0 : Int32), .int (0 : Int32)] := B20
  refine g_dup X20 hx 145 rfl (hb hby at_144) rfl ?_
  refine g_bipush X20 hx 147 rfl (6 : Int32) rfl (hb hby at_145) ?_
  refine g_iload X20 hx 149 rfl (hb hby at_147) rfl ?_
  refine g_bipush X20 hx 151 rfl (6 : Int32) rfl (hb hby at_149) ?_
  refine g_iload X20 hx 153 rfl (hb hby at_151) rfl ?_
  refine g_imul X20 hx 154 rfl (hb hby at_153) ?_
  refine g_iadd X20 hx 155 rfl (hb hby at_154) ?_
  refine g_iastore X20 hx hZ 156 rfl (hb hby at_155) e20 Al20 6 rfl (show 6 < 9 by decide) ?_
  intro T21 h21 X21 e21 W21 B21
  have N21 := Fr.snoc X21 N20 ge_o11
  have Al21 : Al Z h21 o11 .int [.int b, .int (b + t), .int (b + ((2 : Int32) * t)), .int (b + ((3 : Int32) * t)), .int (b + ((4 : Int32) * t)), .int (b + ((5 : Int32) * t)), .int (b + ((6 : Int32) * t)), .int (0 : Int32), .int (0 : Int32)] := B21
  refine g_dup X21 hx 157 rfl (hb hby at_156) rfl ?_
  refine g_bipush X21 hx 159 rfl (7 : Int32) rfl (hb hby at_157) ?_
  refine g_iload X21 hx 161 rfl (hb hby at_159) rfl ?_
  refine g_bipush X21 hx 163 rfl (7 : Int32) rfl (hb hby at_161) ?_
  refine g_iload X21 hx 165 rfl (hb hby at_163) rfl ?_
  refine g_imul X21 hx 166 rfl (hb hby at_165) ?_
  refine g_iadd X21 hx 167 rfl (hb hby at_166) ?_
  refine g_iastore X21 hx hZ 168 rfl (hb hby at_167) e21 Al21 7 rfl (show 7 < 9 by decide) ?_
  intro T22 h22 X22 e22 W22 B22
  have N22 := Fr.snoc X22 N21 ge_o11
  have Al22 : Al Z h22 o11 .int [.int b, .int (b + t), .int (b + ((2 : Int32) * t)), .int (b + ((3 : Int32) * t)), .int (b + ((4 : Int32) * t)), .int (b + ((5 : Int32) * t)), .int (b + ((6 : Int32) * t)), .int (b + ((7 : Int32) * t)), .int (0 : Int32)] := B22
  refine g_dup X22 hx 169 rfl (hb hby at_168) rfl ?_
  refine g_bipush X22 hx 171 rfl (8 : Int32) rfl (hb hby at_169) ?_
  refine g_iload X22 hx 173 rfl (hb hby at_171) rfl ?_
  refine g_bipush X22 hx 175 rfl (8 : Int32) rfl (hb hby at_173) ?_
  refine g_iload X22 hx 177 rfl (hb hby at_175) rfl ?_
  refine g_imul X22 hx 178 rfl (hb hby at_177) ?_
  refine g_iadd X22 hx 179 rfl (hb hby at_178) ?_
  refine g_iastore X22 hx hZ 180 rfl (hb hby at_179) e22 Al22 8 rfl (show 8 < 9 by decide) ?_
  intro T23 h23 X23 e23 W23 B23
  have N23 := Fr.snoc X23 N22 ge_o11
  have Al23 : Al Z h23 o11 .int [.int b, .int (b + t), .int (b + ((2 : Int32) * t)), .int (b + ((3 : Int32) * t)), .int (b + ((4 : Int32) * t)), .int (b + ((5 : Int32) * t)), .int (b + ((6 : Int32) * t)), .int (b + ((7 : Int32) * t)), .int (b + ((8 : Int32) * t))] := B23
  refine g_astore X23 hx 182 rfl (hb hby at_180) rfl #[.val (.int p1), .val (.int p2), .val (.int p3), .val (.int p4), .val (.int b), .val (.int t), .val (.int fs), .val (.int f0), .val (.int f1), .val (.int f2), .val (.ref o1), .val (.ref o5), .val (.ref o11), .unset, .unset, .unset, .unset, .unset, .unset] rfl ?_
  refine g_new X23 hx hZ 185 rfl hown (hw _ (List.mem_of_getElem? (i := 3) rfl)) (hw _ (List.mem_of_getElem? (i := 4) rfl)) (hw _ (List.mem_of_getElem? (i := 5) rfl)) e23 (hb hby at_182) (by decide) (by decide) ?_
  intro T24 h24 o24 g24 X24 e24 E24 A24 D24
  have Exa25 := ((((((((((Exa12.ext E11).wr W15).wr W16).wr W17).wr W18).wr W19).wr W20).wr W21).wr W22).wr W23)
  have ne_o1_o24 : o1 ≠ o24 := Nat.ne_of_lt (Nat.lt_of_lt_of_eq Exa25.lt g24.symm)
  have Exa26 := ((((((((((Exa13.ext E11).wr W15).wr W16).wr W17).wr W18).wr W19).wr W20).wr W21).wr W22).wr W23)
  have ne_o5_o24 : o5 ≠ o24 := Nat.ne_of_lt (Nat.lt_of_lt_of_eq Exa26.lt g24.symm)
  have Exa27 := (((((((((Ex11.wr W15).wr W16).wr W17).wr W18).wr W19).wr W20).wr W21).wr W22).wr W23)
  have ne_o11_o24 : o11 ≠ o24 := Nat.ne_of_lt (Nat.lt_of_lt_of_eq Exa27.lt g24.symm)
  have Zl28 : n0 ≤ h23.size := (Nat.le_trans (Nat.le_trans (Nat.le_trans (Nat.le_trans (Nat.le_trans (Nat.le_trans (Nat.le_trans (Nat.le_trans (Nat.le_trans (Nat.le_trans Zl14 E11.1) (Nat.le_of_eq W15.size.symm)) (Nat.le_of_eq W16.size.symm)) (Nat.le_of_eq W17.size.symm)) (Nat.le_of_eq W18.size.symm)) (Nat.le_of_eq W19.size.symm)) (Nat.le_of_eq W20.size.symm)) (Nat.le_of_eq W21.size.symm)) (Nat.le_of_eq W22.size.symm)) (Nat.le_of_eq W23.size.symm))
  have ge_o24 : n0 ≤ o24 := Nat.le_trans Zl28 (Nat.le_of_eq g24.symm)
  refine g_dup X24 hx 186 rfl (hb hby at_185) rfl ?_
  refine g_aload X24 hx 188 rfl (hb hby at_186) rfl rfl ?_
  refine g_aload X24 hx 190 rfl (hb hby at_188) rfl rfl ?_
  refine g_aload X24 hx 192 rfl (hb hby at_190) rfl rfl ?_
  have Al29 := (((((((((((((((Al4.ext E5).other W8 ne_o1_o5).other W9 ne_o1_o5).other W10 ne_o1_o5).ext E11).other W15 ne_o1_o11).other W16 ne_o1_o11).other W17 ne_o1_o11).other W18 ne_o1_o11).other W19 ne_o1_o11).other W20 ne_o1_o11).other W21 ne_o1_o11).other W22 ne_o1_o11).other W23 ne_o1_o11).ext E24)
  have Al30 := (((((((((((Al10.ext E11).other W15 ne_o5_o11).other W16 ne_o5_o11).other W17 ne_o5_o11).other W18 ne_o5_o11).other W19 ne_o5_o11).other W20 ne_o5_o11).other W21 ne_o5_o11).other W22 ne_o5_o11).other W23 ne_o5_o11).ext E24)
  have Zl32 : n0 ≤ h24.size := (Nat.le_trans Zl28 E24.1)
  refine g_callI X24 hx hZ 195 rfl (y := (⟨"com/example/cranfield/cranfield/index/Postings", "<init>", "([I[I[I)V"⟩ : MethodName)) rfl hown (hw _ (List.mem_of_getElem? (i := 6) rfl)) (hw _ (List.mem_of_getElem? (i := 7) rfl)) (hw _ (List.mem_of_getElem? (i := 5) rfl)) (hw _ (List.mem_of_getElem? (i := 8) rfl)) (by decide) o24 [.ref o1, .ref o5, .ref o11] [.ref o24] (rmI l Z a0 hw [] o24 o1 o5 o11 f0 f1 f2 _ _ _ _ h24 n0 Zl32 A24 ge_o24 (D24 (Or.inr (hw _ (List.mem_of_getElem? (i := 13) rfl))) (ty := .array .int) (by decide)) (D24 (Or.inr (hw _ (List.mem_of_getElem? (i := 15) rfl))) (ty := .array .int) (by decide)) (D24 (Or.inr (hw _ (List.mem_of_getElem? (i := 17) rfl))) (ty := .array .int) (by decide)) (D24 (Or.inr (hw _ (List.mem_of_getElem? (i := 19) rfl))) (ty := .array .int) (by decide)) Al29 Al30 ne_o1_o24 ne_o5_o24) e24 (lenOf pd_1 rfl) rfl (by rw [hml]; rfl) (hb hby at_192) (by decide) 1 (Nat.le_of_eq rfl) (by decide) (by decide) (by decide) ?_
  rintro _ T31 L31 X31 ⟨rfl, N31q, K31, E31, F31, st, G31, S31⟩
  have N31 := Fr.app N23 N31q
  show Goes p e below (T31.setTop (mkF m 195 #[.val (.int p1), .val (.int p2), .val (.int p3), .val (.int p4), .val (.int b), .val (.int t), .val (.int fs), .val (.int f0), .val (.int f1), .val (.int f2), .val (.ref o1), .val (.ref o5), .val (.ref o11), .unset, .unset, .unset, .unset, .unset, .unset] [.ref o24])) _
  refine g_astore X31 hx 197 rfl (hb hby at_195) rfl #[.val (.int p1), .val (.int p2), .val (.int p3), .val (.int p4), .val (.int b), .val (.int t), .val (.int fs), .val (.int f0), .val (.int f1), .val (.int f2), .val (.ref o1), .val (.ref o5), .val (.ref o11), .val (.ref o24), .unset, .unset, .unset, .unset, .unset] rfl ?_
  refine g_iload_n X31 hx 198 rfl (hb hby at_197) rfl ?_
  refine g_ldcI X31 hx 200 rfl hown hZ (hw _ (List.mem_of_getElem? (i := 1) rfl)) (hb hby at_198) ?_
  refine g_iand X31 hx 201 rfl (hb hby at_200) ?_
  refine g_iconst X31 hx 202 rfl (3 : Int32) rfl (hb hby at_201) ?_
  refine g_irem X31 hx 203 rfl (hb hby at_202) (by decide) ?_
  refine g_istore X31 hx 205 rfl (hb hby at_203) #[.val (.int p1), .val (.int p2), .val (.int p3), .val (.int p4), .val (.int b), .val (.int t), .val (.int fs), .val (.int f0), .val (.int f1), .val (.int f2), .val (.ref o1), .val (.ref o5), .val (.ref o11), .val (.ref o24), .val (.int ((p4 &&& (2147483647 : Int32)) % (3 : Int32))), .unset, .unset, .unset, .unset] rfl ?_
  have bi : 0 ≤ ((p4 &&& (2147483647 : Int32)) % (3 : Int32)).toInt ∧ ((p4 &&& (2147483647 : Int32)) % (3 : Int32)).toInt < 3 := by
    have h1 := own_m31 p4; have h2 := c_irem (p4 &&& (2147483647 : Int32)) 3 3 rfl; omega
  generalize hiv : (p4 &&& (2147483647 : Int32)) % (3 : Int32) = i at bi ⊢
  have hu := own_u p4
  generalize huv : XT.ushr p4 (2 : Int32) = u at hu
  refine g_iload X31 hx 207 rfl (hb hby at_205) rfl ?_
  by_cases c207 : i = 0
  · refine g_ifN X31 hx 210 rfl (hb hby at_207) (XT.i0_ne_f c207) ?_
    refine g_iload X31 hx 212 rfl (hb hby at_210) rfl ?_
    refine g_istore X31 hx 214 rfl (hb hby at_212) #[.val (.int p1), .val (.int p2), .val (.int p3), .val (.int p4), .val (.int b), .val (.int t), .val (.int fs), .val (.int f0), .val (.int f1), .val (.int f2), .val (.ref o1), .val (.ref o5), .val (.ref o11), .val (.ref o24), .val (.int i), .val (.int f0), .unset, .unset, .unset] rfl ?_
    refine g_iconst X31 hx 215 rfl (0 : Int32) rfl (hb hby at_214) ?_
    refine g_istore X31 hx 217 rfl (hb hby at_215) #[.val (.int p1), .val (.int p2), .val (.int p3), .val (.int p4), .val (.int b), .val (.int t), .val (.int fs), .val (.int f0), .val (.int f1), .val (.int f2), .val (.ref o1), .val (.ref o5), .val (.ref o11), .val (.ref o24), .val (.int i), .val (.int f0), .val (.int (0 : Int32)), .unset, .unset] rfl ?_
    refine g_goto X31 hx 248 (hb hby at_217) (by decide) (by decide) ?_
    refine g_iload_n X31 hx 249 rfl (hb hby at_248) rfl ?_
    refine g_iconst X31 hx 250 rfl (2 : Int32) rfl (hb hby at_249) ?_
    refine g_iushr X31 hx 251 rfl (hb hby at_250) ?_
    refine g_iload X31 hx 253 rfl (hb hby at_251) rfl ?_
    have hi0 : i.toInt = ((0 : Nat) : Int) := by rw [c207]; rfl
    have hz : f0 ≠ 0 := fun q => by rw [q] at bf0; have e0 : (0 : Int32).toInt = 0 := rfl; omega
    rw [huv]
    refine g_irem X31 hx 254 rfl (hb hby at_253) hz ?_
    have bj : 0 ≤ (u % f0).toInt ∧ (u % f0).toInt < f0.toInt := by have h := (c_iremV u f0).1 hu (by omega); omega
    refine g_istore X31 hx 256 rfl (hb hby at_254) #[.val (.int p1), .val (.int p2), .val (.int p3), .val (.int p4), .val (.int b), .val (.int t), .val (.int fs), .val (.int f0), .val (.int f1), .val (.int f2), .val (.ref o1), .val (.ref o5), .val (.ref o11), .val (.ref o24), .val (.int i), .val (.int f0), .val (.int (0 : Int32)), .val (.int (u % f0)), .unset] rfl ?_
    generalize hjv : u % f0 = j at bj ⊢
    refine g_iload X31 hx 258 rfl (hb hby at_256) rfl ?_
    refine g_iload X31 hx 260 rfl (hb hby at_258) rfl ?_
    refine g_iload X31 hx 262 rfl (hb hby at_260) rfl ?_
    refine g_iadd X31 hx 263 rfl (hb hby at_262) ?_
    refine g_iload X31 hx 265 rfl (hb hby at_263) rfl ?_
    refine g_imul X31 hx 266 rfl (hb hby at_265) ?_
    refine g_iadd X31 hx 267 rfl (hb hby at_266) ?_
    refine g_istore X31 hx 269 rfl (hb hby at_267) #[.val (.int p1), .val (.int p2), .val (.int p3), .val (.int p4), .val (.int b), .val (.int t), .val (.int fs), .val (.int f0), .val (.int f1), .val (.int f2), .val (.ref o1), .val (.ref o5), .val (.ref o11), .val (.ref o24), .val (.int i), .val (.int f0), .val (.int (0 : Int32)), .val (.int j), .val (.int (b + (((0 : Int32) + j) * t)))] rfl ?_
    refine g_aload X31 hx 271 rfl (hb hby at_269) rfl rfl ?_
    refine g_iload X31 hx 273 rfl (hb hby at_271) rfl ?_
    refine g_iload X31 hx 275 rfl (hb hby at_273) rfl ?_
    have hs1 : 0 ≤ ((0 : Int32)).toInt ∧ ((0 : Int32)).toInt ≤ 6 := by decide
    have hsj := own_add ((0 : Int32)) j (by omega) (by omega) (by omega) (by omega)
    have e0 : (0 : Int32).toInt = 0 := rfl
    obtain ⟨k, hk⟩ : ∃ k : Nat, ((0 : Int32) + j).toInt = (k : Int) := ⟨((0 : Int32) + j).toInt.toNat, by omega⟩
    have hk9 : k < 9 := by omega
    have hexp : b + (((0 : Int32) + j) * t) = b + (Int32.ofNat k * t) := by rw [own_ofNat _ k hk]
    have hsk : ((0 : Int32) + j).toInt = (k : Int) := by rw [← hk]
    have Al33 := ((Al23.ext E24).keep K31 (ninS ne_o11_o24 nin0))
    have Zl35 : n0 ≤ T31.heap.size := (Nat.le_trans Zl32 K31.1)
    refine g_callV X31 hx hZ 278 rfl (y := (⟨"com/example/cranfield/cranfield/index/Postings", "position", "(II)I"⟩ : MethodName)) hown (hw _ (List.mem_of_getElem? (i := 20) rfl)) (hw _ (List.mem_of_getElem? (i := 21) rfl)) (hw _ (List.mem_of_getElem? (i := 23) rfl)) (hw _ (List.mem_of_getElem? (i := 22) rfl)) (hw _ (List.mem_of_getElem? (i := 5) rfl)) (hw _ (List.mem_of_getElem? (i := 24) rfl)) (by decide) o24 [.int i, .int j] [] (rmP l Z a0 hw [] o24 i j st o11 _ _ 0 k (0 : Int32) (b + (Int32.ofNat k * t)) T31.heap n0 Zl35 F31 G31 S31 Al33 hi0 rfl hsk (own_pos b t k hk9)) rfl E31 (lenOf pd_2 rfl) rfl (by rw [hml]; rfl) (hb hby at_275) (by decide) 0 (Nat.le_of_eq rfl) (by decide) (by decide) (by decide) ?_
    rintro _ T34 L34 X34 ⟨rfl, N34q, e34⟩
    have N34 := Fr.app N31 N34q
    show Goes p e below (T34.setTop (mkF m 278 #[.val (.int p1), .val (.int p2), .val (.int p3), .val (.int p4), .val (.int b), .val (.int t), .val (.int fs), .val (.int f0), .val (.int f1), .val (.int f2), .val (.ref o1), .val (.ref o5), .val (.ref o11), .val (.ref o24), .val (.int i), .val (.int f0), .val (.int (0 : Int32)), .val (.int j), .val (.int (b + (((0 : Int32) + j) * t)))] [.int (b + (Int32.ofNat k * t))])) _
    refine g_iload X34 hx 280 rfl (hb hby at_278) rfl ?_
    refine g_icmpN X34 hx 283 rfl (hb hby at_280) (XT.ii_ne_f hexp.symm) ?_
    refine g_iconst X34 hx 284 rfl (1 : Int32) rfl (hb hby at_283) ?_
    refine g_goto X34 hx 288 (hb hby at_284) (by decide) (by decide) ?_
    exact g_retZ X34 hx hret hlk rfl (hb hby at_288) ⟨rfl, N34⟩ (by decide) (by decide)
  · refine g_ifY X31 hx 220 (hb hby at_207) (XT.i0_ne_t c207) (by decide) (by decide) ?_
    refine g_iload X31 hx 222 rfl (hb hby at_220) rfl ?_
    refine g_iconst X31 hx 223 rfl (1 : Int32) rfl (hb hby at_222) ?_
    by_cases c223 : i = (1 : Int32)
    · refine g_icmpN X31 hx 226 rfl (hb hby at_223) (XT.ii_ne_f c223) ?_
      refine g_iload X31 hx 228 rfl (hb hby at_226) rfl ?_
      refine g_istore X31 hx 230 rfl (hb hby at_228) #[.val (.int p1), .val (.int p2), .val (.int p3), .val (.int p4), .val (.int b), .val (.int t), .val (.int fs), .val (.int f0), .val (.int f1), .val (.int f2), .val (.ref o1), .val (.ref o5), .val (.ref o11), .val (.ref o24), .val (.int i), .val (.int f1), .unset, .unset, .unset] rfl ?_
      refine g_iload X31 hx 232 rfl (hb hby at_230) rfl ?_
      refine g_istore X31 hx 234 rfl (hb hby at_232) #[.val (.int p1), .val (.int p2), .val (.int p3), .val (.int p4), .val (.int b), .val (.int t), .val (.int fs), .val (.int f0), .val (.int f1), .val (.int f2), .val (.ref o1), .val (.ref o5), .val (.ref o11), .val (.ref o24), .val (.int i), .val (.int f1), .val (.int f0), .unset, .unset] rfl ?_
      refine g_goto X31 hx 248 (hb hby at_234) (by decide) (by decide) ?_
      refine g_iload_n X31 hx 249 rfl (hb hby at_248) rfl ?_
      refine g_iconst X31 hx 250 rfl (2 : Int32) rfl (hb hby at_249) ?_
      refine g_iushr X31 hx 251 rfl (hb hby at_250) ?_
      refine g_iload X31 hx 253 rfl (hb hby at_251) rfl ?_
      have hi0 : i.toInt = ((1 : Nat) : Int) := by rw [c223]; rfl
      have hz : f1 ≠ 0 := fun q => by rw [q] at bf1; have e0 : (0 : Int32).toInt = 0 := rfl; omega
      rw [huv]
      refine g_irem X31 hx 254 rfl (hb hby at_253) hz ?_
      have bj : 0 ≤ (u % f1).toInt ∧ (u % f1).toInt < f1.toInt := by have h := (c_iremV u f1).1 hu (by omega); omega
      refine g_istore X31 hx 256 rfl (hb hby at_254) #[.val (.int p1), .val (.int p2), .val (.int p3), .val (.int p4), .val (.int b), .val (.int t), .val (.int fs), .val (.int f0), .val (.int f1), .val (.int f2), .val (.ref o1), .val (.ref o5), .val (.ref o11), .val (.ref o24), .val (.int i), .val (.int f1), .val (.int f0), .val (.int (u % f1)), .unset] rfl ?_
      generalize hjv : u % f1 = j at bj ⊢
      refine g_iload X31 hx 258 rfl (hb hby at_256) rfl ?_
      refine g_iload X31 hx 260 rfl (hb hby at_258) rfl ?_
      refine g_iload X31 hx 262 rfl (hb hby at_260) rfl ?_
      refine g_iadd X31 hx 263 rfl (hb hby at_262) ?_
      refine g_iload X31 hx 265 rfl (hb hby at_263) rfl ?_
      refine g_imul X31 hx 266 rfl (hb hby at_265) ?_
      refine g_iadd X31 hx 267 rfl (hb hby at_266) ?_
      refine g_istore X31 hx 269 rfl (hb hby at_267) #[.val (.int p1), .val (.int p2), .val (.int p3), .val (.int p4), .val (.int b), .val (.int t), .val (.int fs), .val (.int f0), .val (.int f1), .val (.int f2), .val (.ref o1), .val (.ref o5), .val (.ref o11), .val (.ref o24), .val (.int i), .val (.int f1), .val (.int f0), .val (.int j), .val (.int (b + ((f0 + j) * t)))] rfl ?_
      refine g_aload X31 hx 271 rfl (hb hby at_269) rfl rfl ?_
      refine g_iload X31 hx 273 rfl (hb hby at_271) rfl ?_
      refine g_iload X31 hx 275 rfl (hb hby at_273) rfl ?_
      have hs1 : 0 ≤ (f0).toInt ∧ (f0).toInt ≤ 6 := by omega
      have hsj := own_add (f0) j (by omega) (by omega) (by omega) (by omega)
      obtain ⟨k, hk⟩ : ∃ k : Nat, (f0 + j).toInt = (k : Int) := ⟨(f0 + j).toInt.toNat, by omega⟩
      have hk9 : k < 9 := by omega
      have hexp : b + ((f0 + j) * t) = b + (Int32.ofNat k * t) := by rw [own_ofNat _ k hk]
      have hsk : (((0 : Int32) + f0) + j).toInt = (k : Int) := by rw [← hk]; rw [Int32.zero_add]
      have Al36 := ((Al23.ext E24).keep K31 (ninS ne_o11_o24 nin0))
      have Zl38 : n0 ≤ T31.heap.size := (Nat.le_trans Zl32 K31.1)
      refine g_callV X31 hx hZ 278 rfl (y := (⟨"com/example/cranfield/cranfield/index/Postings", "position", "(II)I"⟩ : MethodName)) hown (hw _ (List.mem_of_getElem? (i := 20) rfl)) (hw _ (List.mem_of_getElem? (i := 21) rfl)) (hw _ (List.mem_of_getElem? (i := 23) rfl)) (hw _ (List.mem_of_getElem? (i := 22) rfl)) (hw _ (List.mem_of_getElem? (i := 5) rfl)) (hw _ (List.mem_of_getElem? (i := 24) rfl)) (by decide) o24 [.int i, .int j] [] (rmP l Z a0 hw [] o24 i j st o11 _ _ 1 k ((0 : Int32) + f0) (b + (Int32.ofNat k * t)) T31.heap n0 Zl38 F31 G31 S31 Al36 hi0 rfl hsk (own_pos b t k hk9)) rfl E31 (lenOf pd_2 rfl) rfl (by rw [hml]; rfl) (hb hby at_275) (by decide) 0 (Nat.le_of_eq rfl) (by decide) (by decide) (by decide) ?_
      rintro _ T37 L37 X37 ⟨rfl, N37q, e37⟩
      have N37 := Fr.app N31 N37q
      show Goes p e below (T37.setTop (mkF m 278 #[.val (.int p1), .val (.int p2), .val (.int p3), .val (.int p4), .val (.int b), .val (.int t), .val (.int fs), .val (.int f0), .val (.int f1), .val (.int f2), .val (.ref o1), .val (.ref o5), .val (.ref o11), .val (.ref o24), .val (.int i), .val (.int f1), .val (.int f0), .val (.int j), .val (.int (b + ((f0 + j) * t)))] [.int (b + (Int32.ofNat k * t))])) _
      refine g_iload X37 hx 280 rfl (hb hby at_278) rfl ?_
      refine g_icmpN X37 hx 283 rfl (hb hby at_280) (XT.ii_ne_f hexp.symm) ?_
      refine g_iconst X37 hx 284 rfl (1 : Int32) rfl (hb hby at_283) ?_
      refine g_goto X37 hx 288 (hb hby at_284) (by decide) (by decide) ?_
      exact g_retZ X37 hx hret hlk rfl (hb hby at_288) ⟨rfl, N37⟩ (by decide) (by decide)
    · refine g_icmpY X31 hx 237 (hb hby at_223) (XT.ii_ne_t c223) (by decide) (by decide) ?_
      refine g_iload X31 hx 239 rfl (hb hby at_237) rfl ?_
      refine g_istore X31 hx 241 rfl (hb hby at_239) #[.val (.int p1), .val (.int p2), .val (.int p3), .val (.int p4), .val (.int b), .val (.int t), .val (.int fs), .val (.int f0), .val (.int f1), .val (.int f2), .val (.ref o1), .val (.ref o5), .val (.ref o11), .val (.ref o24), .val (.int i), .val (.int f2), .unset, .unset, .unset] rfl ?_
      refine g_iload X31 hx 243 rfl (hb hby at_241) rfl ?_
      refine g_iload X31 hx 245 rfl (hb hby at_243) rfl ?_
      refine g_iadd X31 hx 246 rfl (hb hby at_245) ?_
      refine g_istore X31 hx 248 rfl (hb hby at_246) #[.val (.int p1), .val (.int p2), .val (.int p3), .val (.int p4), .val (.int b), .val (.int t), .val (.int fs), .val (.int f0), .val (.int f1), .val (.int f2), .val (.ref o1), .val (.ref o5), .val (.ref o11), .val (.ref o24), .val (.int i), .val (.int f2), .val (.int (f0 + f1)), .unset, .unset] rfl ?_
      refine g_iload_n X31 hx 249 rfl (hb hby at_248) rfl ?_
      refine g_iconst X31 hx 250 rfl (2 : Int32) rfl (hb hby at_249) ?_
      refine g_iushr X31 hx 251 rfl (hb hby at_250) ?_
      refine g_iload X31 hx 253 rfl (hb hby at_251) rfl ?_
      have hi0 : i.toInt = ((2 : Nat) : Int) := by
        have q0 : i.toInt ≠ 0 := fun q => c207 (Int32.toInt_inj.mp q)
        have q1 : i.toInt ≠ 1 := fun q => c223 (Int32.toInt_inj.mp q)
        omega
      have hz : f2 ≠ 0 := fun q => by rw [q] at bf2; have e0 : (0 : Int32).toInt = 0 := rfl; omega
      rw [huv]
      refine g_irem X31 hx 254 rfl (hb hby at_253) hz ?_
      have bj : 0 ≤ (u % f2).toInt ∧ (u % f2).toInt < f2.toInt := by have h := (c_iremV u f2).1 hu (by omega); omega
      refine g_istore X31 hx 256 rfl (hb hby at_254) #[.val (.int p1), .val (.int p2), .val (.int p3), .val (.int p4), .val (.int b), .val (.int t), .val (.int fs), .val (.int f0), .val (.int f1), .val (.int f2), .val (.ref o1), .val (.ref o5), .val (.ref o11), .val (.ref o24), .val (.int i), .val (.int f2), .val (.int (f0 + f1)), .val (.int (u % f2)), .unset] rfl ?_
      generalize hjv : u % f2 = j at bj ⊢
      refine g_iload X31 hx 258 rfl (hb hby at_256) rfl ?_
      refine g_iload X31 hx 260 rfl (hb hby at_258) rfl ?_
      refine g_iload X31 hx 262 rfl (hb hby at_260) rfl ?_
      refine g_iadd X31 hx 263 rfl (hb hby at_262) ?_
      refine g_iload X31 hx 265 rfl (hb hby at_263) rfl ?_
      refine g_imul X31 hx 266 rfl (hb hby at_265) ?_
      refine g_iadd X31 hx 267 rfl (hb hby at_266) ?_
      refine g_istore X31 hx 269 rfl (hb hby at_267) #[.val (.int p1), .val (.int p2), .val (.int p3), .val (.int p4), .val (.int b), .val (.int t), .val (.int fs), .val (.int f0), .val (.int f1), .val (.int f2), .val (.ref o1), .val (.ref o5), .val (.ref o11), .val (.ref o24), .val (.int i), .val (.int f2), .val (.int (f0 + f1)), .val (.int j), .val (.int (b + (((f0 + f1) + j) * t)))] rfl ?_
      refine g_aload X31 hx 271 rfl (hb hby at_269) rfl rfl ?_
      refine g_iload X31 hx 273 rfl (hb hby at_271) rfl ?_
      refine g_iload X31 hx 275 rfl (hb hby at_273) rfl ?_
      have hs1 : 0 ≤ (f0 + f1).toInt ∧ (f0 + f1).toInt ≤ 6 := by have := own_add f0 f1 (by omega) (by omega) (by omega) (by omega); omega
      have hs2 := own_add f0 f1 (by omega) (by omega) (by omega) (by omega)
      have hsj := own_add (f0 + f1) j (by omega) (by omega) (by omega) (by omega)
      obtain ⟨k, hk⟩ : ∃ k : Nat, (f0 + f1 + j).toInt = (k : Int) := ⟨(f0 + f1 + j).toInt.toNat, by omega⟩
      have hk9 : k < 9 := by omega
      have hexp : b + (((f0 + f1) + j) * t) = b + (Int32.ofNat k * t) := by rw [own_ofNat _ k hk]
      have hsk : (((0 : Int32) + f0 + f1) + j).toInt = (k : Int) := by rw [← hk]; rw [Int32.zero_add]
      have Al39 := ((Al23.ext E24).keep K31 (ninS ne_o11_o24 nin0))
      have Zl41 : n0 ≤ T31.heap.size := (Nat.le_trans Zl32 K31.1)
      refine g_callV X31 hx hZ 278 rfl (y := (⟨"com/example/cranfield/cranfield/index/Postings", "position", "(II)I"⟩ : MethodName)) hown (hw _ (List.mem_of_getElem? (i := 20) rfl)) (hw _ (List.mem_of_getElem? (i := 21) rfl)) (hw _ (List.mem_of_getElem? (i := 23) rfl)) (hw _ (List.mem_of_getElem? (i := 22) rfl)) (hw _ (List.mem_of_getElem? (i := 5) rfl)) (hw _ (List.mem_of_getElem? (i := 24) rfl)) (by decide) o24 [.int i, .int j] [] (rmP l Z a0 hw [] o24 i j st o11 _ _ 2 k ((0 : Int32) + f0 + f1) (b + (Int32.ofNat k * t)) T31.heap n0 Zl41 F31 G31 S31 Al39 hi0 rfl hsk (own_pos b t k hk9)) rfl E31 (lenOf pd_2 rfl) rfl (by rw [hml]; rfl) (hb hby at_275) (by decide) 0 (Nat.le_of_eq rfl) (by decide) (by decide) (by decide) ?_
      rintro _ T40 L40 X40 ⟨rfl, N40q, e40⟩
      have N40 := Fr.app N31 N40q
      show Goes p e below (T40.setTop (mkF m 278 #[.val (.int p1), .val (.int p2), .val (.int p3), .val (.int p4), .val (.int b), .val (.int t), .val (.int fs), .val (.int f0), .val (.int f1), .val (.int f2), .val (.ref o1), .val (.ref o5), .val (.ref o11), .val (.ref o24), .val (.int i), .val (.int f2), .val (.int (f0 + f1)), .val (.int j), .val (.int (b + (((f0 + f1) + j) * t)))] [.int (b + (Int32.ofNat k * t))])) _
      refine g_iload X40 hx 280 rfl (hb hby at_278) rfl ?_
      refine g_icmpN X40 hx 283 rfl (hb hby at_280) (XT.ii_ne_f hexp.symm) ?_
      refine g_iconst X40 hx 284 rfl (1 : Int32) rfl (hb hby at_283) ?_
      refine g_goto X40 hx 288 (hb hby at_284) (by decide) (by decide) ?_
      exact g_retZ X40 hx hret hlk rfl (hb hby at_288) ⟨rfl, N40⟩ (by decide) (by decide)
set_option maxRecDepth 65536 in
set_option maxHeartbeats 40000000 in
theorem comes_1 {Post : Tables → Env → Array Value → State → Outcome → State → Prop} (hpost : ∀ tb e args s v u, (limb_1_1.after args s (.returned v) u = true ∧ limb_1_2.after args s (.returned v) u = true ∧ True) → FrameEnd s (.returned v) u (Jvm.fieldLocs frame_1_writes args s ++ Jvm.arrayLocs frame_1_arrays args s ++ Jvm.staticLocs frame_1_statics s) 24 128 → Post tb e args s (.returned v) u) :
    ArmFor flags0 classFile x code maxLocals ret World_1 tables_1 room_1 Calls_1 rest_1 Pre_1 Post := by
  intro l hfl _ _ p e ha hc hk s m args below hf hA hF happ hP
  obtain ⟨hcalls, hrest, hpre⟩ := hP
  obtain ⟨-, -, -, hnamed, -, -, -, hat⟩ := (Spec.applies_iff hf).mp happ
  obtain ⟨hg, hn⟩ := and_e (Cond.before_iff.mp (show (Jvm.Cond.and given_1 narrow_1).before args s = true from hpre))
  obtain ⟨h1, hr1⟩ := and_e hg
  obtain ⟨hk1, hr2⟩ := and_e hr1
  obtain ⟨hk2, hr3⟩ := and_e hr2
  obtain ⟨hk3, hr4⟩ := and_e hr3
  obtain ⟨w0, w1, w2, w3, rfl⟩ : ∃ w0 w1 w2 w3 : Value, args = #[w0, w1, w2, w3] := by
    have hs : args.size = 4 := by simpa [Cond.value, given_1] using h1
    obtain ⟨L⟩ := args
    match L, hs with
    | [w0, w1, w2, w3], _ => exact ⟨w0, w1, w2, w3, rfl⟩
  have hw := fun d (hd : d ∈ tables_1) => atoms_spec (ws := Jvm.Cond.code x code maxLocals ret :: tables_1) hat d (List.mem_cons_of_mem _ hd)
  have hfit : Fit s := fun {y c} hc i hi => by
    obtain ⟨ha, rfl⟩ := Array.getElem?_eq_some_iff.mp hc
    have q := List.all_eq_true.mp ((Array.all_eq_true_iff_forall_mem.mp hF) _ (Array.getElem_mem ha)) i (List.mem_range.mpr hi)
    simpa [Array.getElem?_eq_getElem hi] using q
  obtain ⟨i0, e0⟩ := is_v hk1
  obtain rfl : w0 = (.int i0) := Option.some.inj e0
  obtain ⟨i1, e1⟩ := is_v hk2
  obtain rfl : w1 = (.int i1) := Option.some.inj e1
  obtain ⟨i2, e2⟩ := is_v hk3
  obtain rfl : w2 = (.int i2) := Option.some.inj e2
  obtain ⟨i3, e3⟩ := is_v hr4
  obtain rfl : w3 = (.int i3) := Option.some.inj e3
  obtain ⟨n, o, h1, h2, h3, _, L, rfl, ⟨rfl, N⟩, hq⟩ := rm0 l s _ hw tables_1 i0 i1 i2 i3  s.heap s.heap.size (Nat.le_refl _)  p e ha hc hk s m _ below hf ((Spec.applies_iff_loose hf).mp happ).1 ⟨rfl, State.Warmed39.refl s, rfl⟩ trivial
  refine ⟨n, _, h1, h2, h3, hpost _ _ _ _ _ _ ⟨Cond.after_iff.mpr rfl, Cond.after_iff.mpr (eq_i res_at (Term.int_eval (1)) rfl), trivial⟩ ⟨hq.1, hq.2.1, (hq.2.2.sift fun y hy => Or.inr (N y hy)).mono (by decide) (by decide)⟩⟩
theorem main_1_1 : Claimed_1_1 := comes_1 fun _ _ _ _ _ _ h hF => ⟨h.1, hF⟩
theorem main_1_2 : Claimed_1_2 := comes_1 fun _ _ _ _ _ _ h hF => ⟨h.2.1, hF⟩
end Jvm.Pilot.@@N@@
namespace Jvm.Pilot.@@N@@
open Jvm Jvm.ClassFile Sem Op Lib Jvm.Free Jvm.Stand Jvm.Pilot.@@N@@.Jvm.D
/-! MADE BY PROGRAM (witnessworld.py) out of the Statement's table words and the real class files: 9 classes; the members and pool entries that the words name. The judged class is class 1, her method 1. -/
namespace start1
open Jvm.ClassFile
def u (s : String) : CpInfo := .utf8 (stringToUtf16 s)
/-- a pool by its gaps: so many unusable entries, then the entry; so many at the end -/
def gap : Nat → List CpInfo → List CpInfo
  | 0, r => r
  | n + 1, r => .unusable :: gap n r
def poolList (es : List (Nat × CpInfo)) (last : Nat) : List CpInfo := es.foldr (fun e r => gap e.1 (e.2 :: r)) (gap last [])
def pool (es : List (Nat × CpInfo)) (last : Nat) : Array CpInfo := ⟨poolList es last⟩
def fileOf (pool : Array CpInfo) (this : Nat) (attrs : Array Attribute := #[]) (ms : Array MethodInfo := #[]) (fl : Nat := 33) (sup : Nat := 0) (ifs : Array Nat := #[]) (fds : Array FieldInfo := #[]) : ClassFile where
  minorVersion := 0
  majorVersion := 65
  constantPool := pool
  accessFlags := fl
  thisClass := this
  superClass := sup
  interfaces := ifs
  fields := fds
  methods := ms
  attributes := attrs
def plain (name : String) (sup : Option ClassId) : Class where
  name := name
  kind := .ordinary
  loader := none
  accessFlags := 33
  super := sup
  interfaces := #[]
  cf := none
  fields := #[]
  methods := #[]
  instanceTypes := #[]
  staticTypes := #[]
  resolved := #[]
  callSites := []
  init := .initialized
  statics := none
  mirror := none

def pool0 : Array CpInfo := pool [(5, u "<init>"), (0, u "()V"), (1, .class_ 10), (1, u "java/lang/Object")] 113

def k0c0 : Code := { maxStack := 0, maxLocals := 1, code := object_method_1_code, exceptionTable := #[], attributes := #[] }
def k0m0 : Method := { name := "<init>", desc := "()V", sig := { parameters := [], returnType := none }, accessFlags := 1, code := some k0c0 }
/-- java/lang/Object -/
def k0 : Class := { plain "java/lang/Object" none with
  accessFlags := 33
  interfaces := #[]
  cf := some (fileOf pool0 8 #[] #[{ accessFlags := 1, nameIndex := 5, descriptorIndex := 6, attributes := #[] }] 33 0 #[] #[])
  fields := #[]
  methods := #[k0m0]
  instanceTypes := #[]
  staticTypes := #[]
  resolved := Array.replicate 124 none
  statics := none }

def pool1 : Array CpInfo := pool [(2, .class_ 4), (1, u "java/lang/Object"), (0, u "<init>"), (0, u "()V"), (0, .integer 1073741823), (0, .integer 2147483647), (0, .class_ 10), (0, u "com/example/cranfield/cranfield/index/Postings"), (0, .methodref 9 12), (0, .nameAndType 5 13), (0, u "([I[I[I)V"), (0, .methodref 9 15), (0, .nameAndType 16 17), (0, u "position"), (0, u "(II)I"), (0, .class_ 19), (0, u "com/example/cranfield/cranfield/index/PostingsPositionPinLaw"), (2, u "law"), (0, u "(IIII)Z")] 5

def k1m0 : Method := { name := "<init>", desc := "()V", sig := { parameters := [], returnType := none }, accessFlags := 1, code := none }
def k1c1 : Code := { maxStack := 6, maxLocals := 19, code := code, exceptionTable := #[], attributes := #[] }
def k1m1 : Method := { name := "law", desc := "(IIII)Z", sig := { parameters := [.int, .int, .int, .int], returnType := some .boolean }, accessFlags := 9, code := some k1c1 }
/-- com/example/cranfield/cranfield/index/PostingsPositionPinLaw -/
def k1 : Class := { plain "com/example/cranfield/cranfield/index/PostingsPositionPinLaw" (some 0) with
  accessFlags := 49
  interfaces := #[]
  cf := some (fileOf pool1 18 #[] #[{ accessFlags := 1, nameIndex := 5, descriptorIndex := 6, attributes := #[] }, { accessFlags := 9, nameIndex := 22, descriptorIndex := 23, attributes := #[] }] 49 2 #[] #[])
  fields := #[]
  methods := #[k1m0, k1m1]
  instanceTypes := #[]
  staticTypes := #[]
  resolved := Array.replicate 29 none
  statics := none }

def pool2 : Array CpInfo := pool [(1, .methodref 2 3), (0, .class_ 4), (0, .nameAndType 5 6), (0, u "java/lang/Object"), (0, u "<init>"), (0, u "()V"), (0, .fieldref 8 9), (0, .class_ 10), (0, .nameAndType 11 12), (0, u "com/example/cranfield/cranfield/index/Postings"), (0, u "docs"), (0, u "[I"), (0, .fieldref 8 14), (0, .nameAndType 15 12), (0, u "freqs"), (0, .fieldref 8 17), (0, .nameAndType 18 12), (0, u "positions"), (0, .fieldref 8 20), (0, .nameAndType 21 12), (0, u "starts"), (32, u "([I[I[I)V"), (12, u "position"), (0, u "(II)I")] 2

def k2c0 : Code := { maxStack := 6, maxLocals := 5, code := prog_51_method_1_code, exceptionTable := #[], attributes := #[] }
def k2m0 : Method := { name := "<init>", desc := "([I[I[I)V", sig := { parameters := [(.array .int), (.array .int), (.array .int)], returnType := none }, accessFlags := 0, code := some k2c0 }
def k2c1 : Code := { maxStack := 3, maxLocals := 3, code := prog_51_method_6_code, exceptionTable := #[], attributes := #[] }
def k2m1 : Method := { name := "position", desc := "(II)I", sig := { parameters := [.int, .int], returnType := some .int }, accessFlags := 1, code := some k2c1 }
/-- com/example/cranfield/cranfield/index/Postings -/
def k2 : Class := { plain "com/example/cranfield/cranfield/index/Postings" (some 0) with
  accessFlags := 49
  interfaces := #[]
  cf := some (fileOf pool2 8 #[] #[{ accessFlags := 0, nameIndex := 5, descriptorIndex := 54, attributes := #[] }, { accessFlags := 1, nameIndex := 67, descriptorIndex := 68, attributes := #[] }] 49 2 #[] #[{ accessFlags := 18, nameIndex := 11, descriptorIndex := 12, attributes := #[] }, { accessFlags := 18, nameIndex := 15, descriptorIndex := 12, attributes := #[] }, { accessFlags := 18, nameIndex := 18, descriptorIndex := 12, attributes := #[] }, { accessFlags := 18, nameIndex := 21, descriptorIndex := 12, attributes := #[] }])
  fields := #[{ name := "docs", type := (.array .int), accessFlags := 18, slot := 0, constantValue := 0 }, { name := "freqs", type := (.array .int), accessFlags := 18, slot := 1, constantValue := 0 }, { name := "positions", type := (.array .int), accessFlags := 18, slot := 2, constantValue := 0 }, { name := "starts", type := (.array .int), accessFlags := 18, slot := 3, constantValue := 0 }]
  methods := #[k2m0, k2m1]
  instanceTypes := #[(.array .int), (.array .int), (.array .int), (.array .int)]
  staticTypes := #[]
  resolved := Array.replicate 71 none
  statics := none }

def pool3 : Array CpInfo := pool [(1, u "java/lang/Cloneable"), (0, .class_ 1), (0, u "java/lang/Object"), (0, .class_ 3)] 3

/-- java/lang/Cloneable -/
def k3 : Class := { plain "java/lang/Cloneable" (some 0) with
  accessFlags := 1537
  interfaces := #[]
  cf := some (fileOf pool3 2 #[] #[] 1537 4 #[] #[])
  fields := #[]
  methods := #[]
  instanceTypes := #[]
  staticTypes := #[]
  resolved := Array.replicate 8 none
  statics := none }

def pool4 : Array CpInfo := pool [(1, u "java/io/Serializable"), (0, .class_ 1), (0, u "java/lang/Object"), (0, .class_ 3)] 3

/-- java/io/Serializable -/
def k4 : Class := { plain "java/io/Serializable" (some 0) with
  accessFlags := 1537
  interfaces := #[]
  cf := some (fileOf pool4 2 #[] #[] 1537 4 #[] #[])
  fields := #[]
  methods := #[]
  instanceTypes := #[]
  staticTypes := #[]
  resolved := Array.replicate 8 none
  statics := none }

/-- the primitive byte -/
def k5 : Class := { plain "byte" none with kind := .primitive 'B', accessFlags := 0x411 }
/-- [B -/
def k6 : Class := { plain "[B" (some 0) with kind := .array 5 .byte, interfaces := #[3, 4], accessFlags := 1041 }

/-- the primitive int -/
def k7 : Class := { plain "int" none with kind := .primitive 'I', accessFlags := 0x411 }
/-- [I -/
def k8 : Class := { plain "[I" (some 0) with kind := .array 7 .int, interfaces := #[3, 4], accessFlags := 1041 }

def heap : Heap := #[]
def classes : Array Class := #[k0, k1, k2, k3, k4, k5, k6, k7, k8]
def interned : List (Array UInt16 × Addr) := []
def slotsUsed : Nat := 0
def theMethod : MethodId := ⟨1, 1⟩
def args0 : Array Value := #[.int 5, .int 7, .int 11, .int 13]
def aboutOver (below : List Frame) : State where
  vm := { classes := classes, interned := interned.toArray }
  heap := heap
  slotsUsed := slotsUsed
  threads := #[{ frames := .invoking theMethod args0 :: below }]
def below0 : List Frame := [.native { method := ⟨0, 0⟩, args := #[] }]
def about1 : State := aboutOver below0
def p0 : Program := .bare "" "" ""
def e0 : Env := launch0.env 0 0 0
theorem w_frames : about1.frames = Frame.invoking theMethod args0 :: below0 := rfl
set_option maxRecDepth 65536 in
theorem w_args : argsFit about1.vm theMethod args0 = true := by decide +kernel
set_option maxRecDepth 65536 in
theorem w_heap : heapFits about1 = true := by decide +kernel
set_option maxRecDepth 65536 in
theorem w_runnable : about1.curStatus? = some .runnable := by decide +kernel
set_option maxRecDepth 65536 in
theorem w_alone : about1.alone = true := by decide +kernel
set_option maxRecDepth 65536 in
theorem w_named : about1.methodNamed? x = some theMethod := by decide +kernel
set_option maxRecDepth 65536 in
theorem w_hears : about1.hears theMethod below0 = true := by decide +kernel
set_option maxRecDepth 65536 in
theorem w_ripe : about1.ripe theMethod args0 below0 = true := by decide +kernel
theorem w_running : about1.status = .running := rfl
set_option maxRecDepth 65536 in
theorem w_room : about1.hasRoom e0.platform room_1 = true :=
  launch0.hasRoom_least _ room_1 (by decide +kernel) (by decide +kernel) (by decide +kernel) (by decide +kernel) (by decide +kernel) (by decide +kernel)
theorem allAtoms_all (ts : List Jvm.Cond) (a : Array Jvm.Value) (st : Jvm.State) : (allAtoms ts).before a st = ts.all (fun c => c.before a st) := by
  induction ts with
  | nil => rfl
  | cons c t ih =>
    show (Jvm.Cond.and c (allAtoms t)).before a st = _
    rw [Jvm.Cond.before_and, ih, List.all_cons]
def words1 : List Jvm.Cond := Jvm.Cond.code x code maxLocals ret :: tables_1
/-- a 'code' word, met by the world's own term for the bytes: nothing is compared byte by byte -/
theorem code_word {y : MethodName} {bytes : ByteArray} {mx : Nat} {rt : Option FieldType} {a : Array Value} {s : State} {m : MethodId} {meth : Method} {c : Code} (h1 : s.methodNamed? y = some m) (h2 : s.vm.method? m = some meth) (h3 : meth.code = some c) (h4 : c.code = bytes)
    (h5 : (c.maxLocals == mx && c.exceptionTable.isEmpty && decide (c.maxStack ≤ mostOperands) && decide (meth.sig.returnType = rt) && !meth.locks && decide (parseMethodDescriptor y.desc = some meth.sig)) = true) : (Jvm.Cond.code y bytes mx rt).before a s = true := by
  simp only [Bool.and_eq_true, beq_iff_eq, Bool.not_eq_true', decide_eq_true_eq] at h5
  obtain ⟨⟨⟨⟨⟨g1, g2⟩, g3⟩, g4⟩, g5⟩, g6⟩ := h5
  simp [Cond.before, Cond.holds, Cond.value, h1, h2, h3, h4, g1, g2, g3, g4, g5, g6]
def isCode : Jvm.Cond → Bool
  | .code _ _ _ _ => true
  | _ => false
theorem all_split {L : List Jvm.Cond} {P : Jvm.Cond → Bool} (h1 : L.all (fun c => isCode c || P c) = true) (h2 : ∀ c ∈ L.filter isCode, P c = true) : L.all P = true := by
  refine List.all_eq_true.mpr fun c hc => ?_
  have h := List.all_eq_true.mp h1 c hc
  rcases Bool.eq_false_or_eq_true (isCode c) with hi | hi
  · exact h2 c (List.mem_filter.mpr ⟨hc, hi⟩)
  · simpa [hi] using h
set_option maxRecDepth 65536 in
theorem w_c0 : (Jvm.Cond.code x code maxLocals ret).before args0 about1 = true := code_word (m := ⟨1, 1⟩) (meth := k1m1) (c := k1c1) (by decide +kernel) rfl rfl rfl (by decide +kernel)
set_option maxRecDepth 65536 in
theorem w_c1 : (Jvm.Cond.code ({ cls := "com/example/cranfield/cranfield/index/Postings", name := "<init>", desc := "([I[I[I)V" } : Jvm.MethodName) prog_51_method_1_code (5 : Nat) (Option.none : Option Jvm.ClassFile.FieldType)).before args0 about1 = true := code_word (m := ⟨2, 0⟩) (meth := k2m0) (c := k2c0) (by decide +kernel) rfl rfl rfl (by decide +kernel)
set_option maxRecDepth 65536 in
theorem w_c2 : (Jvm.Cond.code ({ cls := "java/lang/Object", name := "<init>", desc := "()V" } : Jvm.MethodName) object_method_1_code (1 : Nat) (Option.none : Option Jvm.ClassFile.FieldType)).before args0 about1 = true := code_word (m := ⟨0, 0⟩) (meth := k0m0) (c := k0c0) (by decide +kernel) rfl rfl rfl (by decide +kernel)
set_option maxRecDepth 65536 in
theorem w_c3 : (Jvm.Cond.code ({ cls := "com/example/cranfield/cranfield/index/Postings", name := "position", desc := "(II)I" } : Jvm.MethodName) prog_51_method_6_code (3 : Nat) (Option.some Jvm.ClassFile.FieldType.int)).before args0 about1 = true := code_word (m := ⟨2, 1⟩) (meth := k2m1) (c := k2c1) (by decide +kernel) rfl rfl rfl (by decide +kernel)
def codes1 : List Jvm.Cond := [Jvm.Cond.code x code maxLocals ret, Jvm.Cond.code ({ cls := "com/example/cranfield/cranfield/index/Postings", name := "<init>", desc := "([I[I[I)V" } : Jvm.MethodName) prog_51_method_1_code (5 : Nat) (Option.none : Option Jvm.ClassFile.FieldType), Jvm.Cond.code ({ cls := "java/lang/Object", name := "<init>", desc := "()V" } : Jvm.MethodName) object_method_1_code (1 : Nat) (Option.none : Option Jvm.ClassFile.FieldType), Jvm.Cond.code ({ cls := "com/example/cranfield/cranfield/index/Postings", name := "position", desc := "(II)I" } : Jvm.MethodName) prog_51_method_6_code (3 : Nat) (Option.some Jvm.ClassFile.FieldType.int)]
set_option maxRecDepth 65536 in
theorem codes_eq : words1.filter isCode = codes1 := rfl
theorem w_codes : ∀ c ∈ words1.filter isCode, c.before args0 about1 = true := by
  rw [codes_eq]
  intro c hc
  simp only [codes1, List.mem_cons, List.not_mem_nil, or_false] at hc
  rcases hc with rfl | rfl | rfl | rfl
  · exact w_c0
  · exact w_c1
  · exact w_c2
  · exact w_c3
set_option maxRecDepth 65536 in
theorem w_t1 : (words1.take 24).all (fun c => isCode c || c.before args0 about1) = true := by decide +kernel
set_option maxRecDepth 65536 in
theorem w_t2 : (words1.drop 24).all (fun c => isCode c || c.before args0 about1) = true := by decide +kernel
theorem w_tables : (allAtoms (Jvm.Cond.code x code maxLocals ret :: tables_1)).before args0 about1 = true := by
  rw [allAtoms_all]
  show words1.all (fun c => c.before args0 about1) = true
  refine all_split ?_ w_codes
  rw [← List.take_append_drop 24 words1, List.all_append, w_t1, w_t2]
  rfl
set_option maxRecDepth 65536 in
theorem w_case : (Jvm.Cond.and given_1 narrow_1).before args0 about1 = true := by decide +kernel
theorem w_applies : (headSpec (Jvm.Cond.code x code maxLocals ret :: tables_1) room_1).applies x e0.platform about1 = true :=
  (Spec.applies_iff w_frames).mpr ⟨w_running, w_runnable, w_alone, w_named, w_hears, w_ripe, w_room, w_tables⟩
theorem atStart : AtStart classFile x code maxLocals ret World_1 tables_1 room_1 Calls_1 rest_1 Pre_1 launch0 p0 e0 about1 theMethod args0 below0 :=
  ⟨lists_1, trivial, launch0.admits_env _ _ _, launch0.least_env, fairChoices_fair.cas, fairChoices_fair.clock, w_frames, w_args, w_heap, w_applies, trivial, trivial, w_case⟩
end start1
theorem witness_1 : WitnessClaimed_1 := ⟨start1.p0, start1.e0, start1.about1, start1.theMethod, start1.args0, start1.below0, start1.atStart⟩
end Jvm.Pilot.@@N@@
