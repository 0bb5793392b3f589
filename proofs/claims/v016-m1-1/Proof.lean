import JvmDerived
import JvmDerived.Pilot.@@N@@Statement
import JvmDerived.Pilot.@@N@@Code
set_option linter.unusedVariables false
set_option linter.unusedSimpArgs false
namespace Jvm.Pilot.@@N@@
open Jvm Jvm.ClassFile Sem Op Lib Jvm.Free Jvm.Stand Jvm.LawKit Jvm.RoadKit Bundle Jvm.Pilot.@@N@@.Jvm.D

section Own
variable {p : Program} {l : Launch} {e : Env} {R : Room} {s : State} {m : MethodId} {args : Array Value} {below : List Frame} {meth : Method} {c : Code} {T : State} {locs : List Loc} {cells slots : Nat} {Z : State} {h : Heap} {y : MethodName} {bytes : ByteArray} {maxL : Nat} {ret : Option FieldType} {E : Outcome → State → Prop} {Q : Option Value → Heap → List Loc → Prop} {kc ks : Nat} {Ls : Array Slot} {st : List Value} {pc : Nat} {a0 : Array Value}
/-- what stays as it is through the walk of one body -/
def own_C (Z : State) (y : MethodName) (bytes : ByteArray) (maxL : Nat) (ret : Option FieldType) (p : Program) (s : State) (m : MethodId) (meth : Method) (c : Code) : Prop :=
  p.tables.exec = Jvm.exec ∧ c.code = bytes ∧ c.maxLocals = maxL ∧ s.vm.findClass y.cls = some m.cls ∧ Z.Warmed39 s.vm ∧ meth.sig.returnType = ret ∧ meth.locks = false ∧ meth.name = y.name
/-- the walk stands at T, whose heap is h -/
def own_S (Z : State) (y : MethodName) (bytes : ByteArray) (maxL : Nat) (ret : Option FieldType) (p : Program) (l : Launch) (e : Env) (R : Room) (s : State) (m : MethodId) (args : Array Value) (below : List Frame) (meth : Method) (c : Code) (T : State) (h : Heap) (locs : List Loc) (cells slots : Nat) : Prop :=
  own_C Z y bytes maxL ret p s m meth c ∧ Stand p l e R s m args below meth c T locs cells slots ∧ T.heap = h
/-- from S the run ends, and its end is as Q says -/
def own_G (p : Program) (e : Env) (below : List Frame) (E : Outcome → State → Prop) (S : State) : Prop :=
  ∃ t o, Steps p.tables e below S t ∧ t.status = .running ∧ Ended t below o ∧ E o t
def own_E (s : State) (Q : Option Value → Heap → List Loc → Prop) (kc ks : Nat) (o : Outcome) (t : State) : Prop := ∃ v L, o = .returned v ∧ Q v t.heap L ∧ FrameEnd s o t L kc ks
theorem own_st {S S' : State} (hs : ∀ t, Steps p.tables e below S' t → Steps p.tables e below S t) (K : own_G p e below E S') : own_G p e below E S := by
  obtain ⟨t, o, h1, r⟩ := K
  exact ⟨t, o, hs t h1, r⟩
theorem own_S.x (Y : own_S Z y bytes maxL ret p l e R s m args below meth c T h locs cells slots) : p.tables.exec = Jvm.exec := Y.1.1
theorem own_S.d (Y : own_S Z y bytes maxL ret p l e R s m args below meth c T h locs cells slots) {pc : Nat} {r : Except ClassFile.DecodeError (ClassFile.Instr × Nat)} (hd : decode bytes pc = r) : decode c.code pc = r := hb Y.1.2.1 hd
theorem own_S.own (Y : own_S Z y bytes maxL ret p l e R s m args below meth c T h locs cells slots) : s.vm.findClass y.cls = some m.cls := Y.1.2.2.2.1
theorem own_S.warm (Y : own_S Z y bytes maxL ret p l e R s m args below meth c T h locs cells slots) : Z.Warmed39 s.vm := Y.1.2.2.2.2.1
theorem own_S.X (Y : own_S Z y bytes maxL ret p l e R s m args below meth c T h locs cells slots) : Stand p l e R s m args below meth c T locs cells slots := Y.2.1
theorem own_S.eT (Y : own_S Z y bytes maxL ret p l e R s m args below meth c T h locs cells slots) : T.heap = h := Y.2.2
/-- the contract of a body -/
def own_M (l : Launch) (y : MethodName) (bytes : ByteArray) (maxL : Nat) (ret : Option FieldType) (ws : List Jvm.Cond) (rm : Room) (Z : State) (as' : Array Value) (h : Heap) (Q : Option Value → Heap → List Loc → Prop) : Prop :=
  MetFree l y (head1 (Jvm.Cond.code y bytes maxL ret :: ws) rm) (fun a U => a = as' ∧ Z.Warmed39 U.vm ∧ U.heap = h) (fun _ _ _ _ _ => True) (fun _ U o U' => ∃ v L, o = .returned v ∧ Q v U'.heap L ∧ FrameEnd U o U' L rm.cells rm.slots)
theorem own_met {ws : List Jvm.Cond} {rm : Room} {as' : Array Value} (hp : plainFor y = true) {Lf : Array Slot} (hE : ∀ m, entryFrame m as' maxL = mkF m 0 Lf [])
    (body : ∀ p e s m below meth c T, own_S Z y bytes maxL ret p l e rm s m as' below meth c T h [] 0 0 → own_G p e below (own_E s Q rm.cells rm.slots) (T.setTop (mkF m 0 Lf []))) : own_M l y bytes maxL ret ws rm Z as' h Q := by
  refine MetFree.of_bodySF (maxLocals := maxL) hp hisR ?_
  intro p e s m args below meth c s₁ Bd hml0 hP hK
  obtain ⟨rfl, hZ, hh⟩ := hP
  obtain ⟨t, o, h1, h2, h3, h4⟩ := body p e s m below meth c s₁ ⟨⟨Bd.exec, Bd.bytes, hml0, findClass_of_methodNamed Bd.named, hZ, Bd.returns, Bd.notSynchronized, (name_of_methodNamed Bd.named Bd.method).1⟩, Stand.of_body Bd, by rw [← hh, Bd.state]; rfl⟩
  exact ⟨t, o, castTop (hE m) h1, h2, h3, h4⟩
theorem own_wd {ts : List Jvm.Cond} (hw : ∀ d ∈ ts, d.before a0 Z = true) (i : Nat) {d : Jvm.Cond} (hi : ts[i]? = some d) : d.before a0 Z = true := hw d (List.mem_of_getElem? hi)
theorem own_M.weak {ws : List Jvm.Cond} {rm : Room} {as' : Array Value} {Q' : Option Value → Heap → List Loc → Prop} (M : own_M l y bytes maxL ret ws rm Z as' h Q) (hQ : ∀ v h' L, Q v h' L → Q' v h' L) : own_M l y bytes maxL ret ws rm Z as' h Q' := by
  intro p e ha hc hk s m args below hf happ hP hK
  obtain ⟨n, o, h1, h2, h3, v, L, h4, h5, h6⟩ := M p e ha hc hk s m args below hf happ hP hK
  exact ⟨n, o, h1, h2, h3, v, L, h4, hQ _ _ _ h5, h6⟩
theorem own_aloadN (pc' : Nat) (Y : own_S Z y bytes maxL ret p l e R s m args below meth c T h locs cells slots) {k : Fin 4} {v : Value} (hd : decode bytes pc = .ok (.aload_n k, 1)) (hl : Ls[k.val]? = some (.val v)) (hv : v.isRef = true) (hp : pc + 1 = pc') (K : own_G p e below E (T.setTop (mkF m pc' Ls (v :: st)))) : own_G p e below E (T.setTop (mkF m pc Ls (st))) := by
  subst hp
  exact own_st (fun t k => XS.aloadN Y.X.here Y.x rfl (Y.d hd) hl hv k) K
theorem own_aload (pc' : Nat) (Y : own_S Z y bytes maxL ret p l e R s m args below meth c T h locs cells slots) {k : Nat} {v : Value} (hd : decode bytes pc = .ok (.aload k, 2)) (hl : Ls[k]? = some (.val v)) (hv : v.isRef = true) (hp : pc + 2 = pc') (K : own_G p e below E (T.setTop (mkF m pc' Ls (v :: st)))) : own_G p e below E (T.setTop (mkF m pc Ls (st))) := by
  subst hp
  exact own_st (fun t k => XS.aload Y.X.here Y.x rfl (Y.d hd) hl hv k) K
theorem own_iloadN (pc' : Nat) (Y : own_S Z y bytes maxL ret p l e R s m args below meth c T h locs cells slots) {k : Fin 4} {v : Int32} (hd : decode bytes pc = .ok (.iload_n k, 1)) (hl : Ls[k.val]? = some (.val (.int v))) (hp : pc + 1 = pc') (K : own_G p e below E (T.setTop (mkF m pc' Ls (.int v :: st)))) : own_G p e below E (T.setTop (mkF m pc Ls (st))) := by
  subst hp
  exact own_st (fun t k => XS.iloadN Y.X.here Y.x rfl (Y.d hd) hl k) K
theorem own_iload (pc' : Nat) (Y : own_S Z y bytes maxL ret p l e R s m args below meth c T h locs cells slots) {k : Nat} {v : Int32} (hd : decode bytes pc = .ok (.iload k, 2)) (hl : Ls[k]? = some (.val (.int v))) (hp : pc + 2 = pc') (K : own_G p e below E (T.setTop (mkF m pc' Ls (.int v :: st)))) : own_G p e below E (T.setTop (mkF m pc Ls (st))) := by
  subst hp
  exact own_st (fun t k => XS.iload Y.X.here Y.x rfl (Y.d hd) hl k) K
theorem own_lloadN (pc' : Nat) (Y : own_S Z y bytes maxL ret p l e R s m args below meth c T h locs cells slots) {k : Fin 4} {v : Int64} (hd : decode bytes pc = .ok (.lload_n k, 1)) (hl : Ls[k.val]? = some (.val (.long v))) (hp : pc + 1 = pc') (K : own_G p e below E (T.setTop (mkF m pc' Ls (.long v :: st)))) : own_G p e below E (T.setTop (mkF m pc Ls (st))) := by
  subst hp
  exact own_st (fun t k => XS.lloadN Y.X.here Y.x rfl (Y.d hd) hl k) K
theorem own_lload (pc' : Nat) (Y : own_S Z y bytes maxL ret p l e R s m args below meth c T h locs cells slots) {k : Nat} {v : Int64} (hd : decode bytes pc = .ok (.lload k, 2)) (hl : Ls[k]? = some (.val (.long v))) (hp : pc + 2 = pc') (K : own_G p e below E (T.setTop (mkF m pc' Ls (.long v :: st)))) : own_G p e below E (T.setTop (mkF m pc Ls (st))) := by
  subst hp
  exact own_st (fun t k => XS.lload Y.X.here Y.x rfl (Y.d hd) hl k) K
theorem own_iconst (pc' : Nat) (Y : own_S Z y bytes maxL ret p l e R s m args below meth c T h locs cells slots) {i : Int} (v : Int32) (hd : decode bytes pc = .ok (.iconst i, 1)) (hv : Int32.ofInt i = v) (hp : pc + 1 = pc') (K : own_G p e below E (T.setTop (mkF m pc' Ls (.int v :: st)))) : own_G p e below E (T.setTop (mkF m pc Ls (st))) := by
  subst hp
  exact own_st (fun t k => XT.iconstV Y.X.here Y.x rfl v (Y.d hd) hv k) K
theorem own_bipush (pc' : Nat) (Y : own_S Z y bytes maxL ret p l e R s m args below meth c T h locs cells slots) {i : Int} (v : Int32) (hd : decode bytes pc = .ok (.bipush i, 2)) (hv : (Int8.ofInt i).toInt32 = v) (hp : pc + 2 = pc') (K : own_G p e below E (T.setTop (mkF m pc' Ls (.int v :: st)))) : own_G p e below E (T.setTop (mkF m pc Ls (st))) := by
  subst hp
  exact own_st (fun t k => XT.bipushV Y.X.here Y.x rfl v (Y.d hd) hv k) K
theorem own_sipush (pc' : Nat) (Y : own_S Z y bytes maxL ret p l e R s m args below meth c T h locs cells slots) {i : Int} (v : Int32) (hd : decode bytes pc = .ok (.sipush i, 3)) (hv : (Int16.ofInt i).toInt32 = v) (hp : pc + 3 = pc') (K : own_G p e below E (T.setTop (mkF m pc' Ls (.int v :: st)))) : own_G p e below E (T.setTop (mkF m pc Ls (st))) := by
  subst hp
  exact own_st (fun t k => XT.sipushV Y.X.here Y.x rfl v (Y.d hd) hv k) K
theorem own_lconst (pc' : Nat) (Y : own_S Z y bytes maxL ret p l e R s m args below meth c T h locs cells slots) {i : Fin 2} (v : Int64) (hd : decode bytes pc = .ok (.lconst i, 1)) (hv : Int64.ofNat i = v) (hp : pc + 1 = pc') (K : own_G p e below E (T.setTop (mkF m pc' Ls (.long v :: st)))) : own_G p e below E (T.setTop (mkF m pc Ls (st))) := by
  subst hp
  exact own_st (fun t k => XT.lconstV Y.X.here Y.x rfl v (Y.d hd) hv k) K
theorem own_aconst_null (pc' : Nat) (Y : own_S Z y bytes maxL ret p l e R s m args below meth c T h locs cells slots)  (hd : decode bytes pc = .ok (.aconst_null, 1))  (hp : pc + 1 = pc') (K : own_G p e below E (T.setTop (mkF m pc' Ls (.null :: st)))) : own_G p e below E (T.setTop (mkF m pc Ls (st))) := by
  subst hp
  exact own_st (fun t k => XS.aconstNull Y.X.here Y.x rfl (Y.d hd) k) K
theorem own_iadd (pc' : Nat) (Y : own_S Z y bytes maxL ret p l e R s m args below meth c T h locs cells slots) {x z : Int32} (hd : decode bytes pc = .ok (.iadd, 1))  (hp : pc + 1 = pc') (K : own_G p e below E (T.setTop (mkF m pc' Ls (.int (x + z) :: st)))) : own_G p e below E (T.setTop (mkF m pc Ls (.int z :: .int x :: st))) := by
  subst hp
  exact own_st (fun t k => XS.iadd Y.X.here Y.x rfl (Y.d hd) rfl k) K
theorem own_isub (pc' : Nat) (Y : own_S Z y bytes maxL ret p l e R s m args below meth c T h locs cells slots) {x z : Int32} (hd : decode bytes pc = .ok (.isub, 1))  (hp : pc + 1 = pc') (K : own_G p e below E (T.setTop (mkF m pc' Ls (.int (x - z) :: st)))) : own_G p e below E (T.setTop (mkF m pc Ls (.int z :: .int x :: st))) := by
  subst hp
  exact own_st (fun t k => XS.isub Y.X.here Y.x rfl (Y.d hd) rfl k) K
theorem own_imul (pc' : Nat) (Y : own_S Z y bytes maxL ret p l e R s m args below meth c T h locs cells slots) {x z : Int32} (hd : decode bytes pc = .ok (.imul, 1))  (hp : pc + 1 = pc') (K : own_G p e below E (T.setTop (mkF m pc' Ls (.int (x * z) :: st)))) : own_G p e below E (T.setTop (mkF m pc Ls (.int z :: .int x :: st))) := by
  subst hp
  exact own_st (fun t k => XS.imul Y.X.here Y.x rfl (Y.d hd) rfl k) K
theorem own_iand (pc' : Nat) (Y : own_S Z y bytes maxL ret p l e R s m args below meth c T h locs cells slots) {x z : Int32} (hd : decode bytes pc = .ok (.iand, 1))  (hp : pc + 1 = pc') (K : own_G p e below E (T.setTop (mkF m pc' Ls (.int (x &&& z) :: st)))) : own_G p e below E (T.setTop (mkF m pc Ls (.int z :: .int x :: st))) := by
  subst hp
  exact own_st (fun t k => XS.iand Y.X.here Y.x rfl (Y.d hd) rfl k) K
theorem own_ior (pc' : Nat) (Y : own_S Z y bytes maxL ret p l e R s m args below meth c T h locs cells slots) {x z : Int32} (hd : decode bytes pc = .ok (.ior, 1))  (hp : pc + 1 = pc') (K : own_G p e below E (T.setTop (mkF m pc' Ls (.int (x ||| z) :: st)))) : own_G p e below E (T.setTop (mkF m pc Ls (.int z :: .int x :: st))) := by
  subst hp
  exact own_st (fun t k => XS.ior Y.X.here Y.x rfl (Y.d hd) rfl k) K
theorem own_ixor (pc' : Nat) (Y : own_S Z y bytes maxL ret p l e R s m args below meth c T h locs cells slots) {x z : Int32} (hd : decode bytes pc = .ok (.ixor, 1))  (hp : pc + 1 = pc') (K : own_G p e below E (T.setTop (mkF m pc' Ls (.int (x ^^^ z) :: st)))) : own_G p e below E (T.setTop (mkF m pc Ls (.int z :: .int x :: st))) := by
  subst hp
  exact own_st (fun t k => XS.ixor Y.X.here Y.x rfl (Y.d hd) rfl k) K
theorem own_ishl (pc' : Nat) (Y : own_S Z y bytes maxL ret p l e R s m args below meth c T h locs cells slots) {x z : Int32} (hd : decode bytes pc = .ok (.ishl, 1))  (hp : pc + 1 = pc') (K : own_G p e below E (T.setTop (mkF m pc' Ls (.int (x <<< (z &&& 31)) :: st)))) : own_G p e below E (T.setTop (mkF m pc Ls (.int z :: .int x :: st))) := by
  subst hp
  exact own_st (fun t k => XS.ishl Y.X.here Y.x rfl (Y.d hd) rfl k) K
theorem own_ishr (pc' : Nat) (Y : own_S Z y bytes maxL ret p l e R s m args below meth c T h locs cells slots) {x z : Int32} (hd : decode bytes pc = .ok (.ishr, 1))  (hp : pc + 1 = pc') (K : own_G p e below E (T.setTop (mkF m pc' Ls (.int (x >>> (z &&& 31)) :: st)))) : own_G p e below E (T.setTop (mkF m pc Ls (.int z :: .int x :: st))) := by
  subst hp
  exact own_st (fun t k => XS.ishr Y.X.here Y.x rfl (Y.d hd) rfl k) K
theorem own_iushr (pc' : Nat) (Y : own_S Z y bytes maxL ret p l e R s m args below meth c T h locs cells slots) {x z : Int32} (hd : decode bytes pc = .ok (.iushr, 1))  (hp : pc + 1 = pc') (K : own_G p e below E (T.setTop (mkF m pc' Ls (.int ((x.toUInt32 >>> (z &&& 31).toUInt32).toInt32) :: st)))) : own_G p e below E (T.setTop (mkF m pc Ls (.int z :: .int x :: st))) := by
  subst hp
  exact own_st (fun t k => XS.iushr Y.X.here Y.x rfl (Y.d hd) rfl k) K
theorem own_ladd (pc' : Nat) (Y : own_S Z y bytes maxL ret p l e R s m args below meth c T h locs cells slots) {x z : Int64} (hd : decode bytes pc = .ok (.ladd, 1))  (hp : pc + 1 = pc') (K : own_G p e below E (T.setTop (mkF m pc' Ls (.long (x + z) :: st)))) : own_G p e below E (T.setTop (mkF m pc Ls (.long z :: .long x :: st))) := by
  subst hp
  exact own_st (fun t k => XS.ladd Y.X.here Y.x rfl (Y.d hd) rfl k) K
theorem own_lsub (pc' : Nat) (Y : own_S Z y bytes maxL ret p l e R s m args below meth c T h locs cells slots) {x z : Int64} (hd : decode bytes pc = .ok (.lsub, 1))  (hp : pc + 1 = pc') (K : own_G p e below E (T.setTop (mkF m pc' Ls (.long (x - z) :: st)))) : own_G p e below E (T.setTop (mkF m pc Ls (.long z :: .long x :: st))) := by
  subst hp
  exact own_st (fun t k => XS.lsub Y.X.here Y.x rfl (Y.d hd) rfl k) K
theorem own_lmul (pc' : Nat) (Y : own_S Z y bytes maxL ret p l e R s m args below meth c T h locs cells slots) {x z : Int64} (hd : decode bytes pc = .ok (.lmul, 1))  (hp : pc + 1 = pc') (K : own_G p e below E (T.setTop (mkF m pc' Ls (.long (x * z) :: st)))) : own_G p e below E (T.setTop (mkF m pc Ls (.long z :: .long x :: st))) := by
  subst hp
  exact own_st (fun t k => XS.lmul Y.X.here Y.x rfl (Y.d hd) rfl k) K
theorem own_land (pc' : Nat) (Y : own_S Z y bytes maxL ret p l e R s m args below meth c T h locs cells slots) {x z : Int64} (hd : decode bytes pc = .ok (.land, 1))  (hp : pc + 1 = pc') (K : own_G p e below E (T.setTop (mkF m pc' Ls (.long (x &&& z) :: st)))) : own_G p e below E (T.setTop (mkF m pc Ls (.long z :: .long x :: st))) := by
  subst hp
  exact own_st (fun t k => XS.land Y.X.here Y.x rfl (Y.d hd) rfl k) K
theorem own_lor (pc' : Nat) (Y : own_S Z y bytes maxL ret p l e R s m args below meth c T h locs cells slots) {x z : Int64} (hd : decode bytes pc = .ok (.lor, 1))  (hp : pc + 1 = pc') (K : own_G p e below E (T.setTop (mkF m pc' Ls (.long (x ||| z) :: st)))) : own_G p e below E (T.setTop (mkF m pc Ls (.long z :: .long x :: st))) := by
  subst hp
  exact own_st (fun t k => XS.lor Y.X.here Y.x rfl (Y.d hd) rfl k) K
theorem own_lxor (pc' : Nat) (Y : own_S Z y bytes maxL ret p l e R s m args below meth c T h locs cells slots) {x z : Int64} (hd : decode bytes pc = .ok (.lxor, 1))  (hp : pc + 1 = pc') (K : own_G p e below E (T.setTop (mkF m pc' Ls (.long (x ^^^ z) :: st)))) : own_G p e below E (T.setTop (mkF m pc Ls (.long z :: .long x :: st))) := by
  subst hp
  exact own_st (fun t k => XS.lxor Y.X.here Y.x rfl (Y.d hd) rfl k) K
theorem own_lshl (pc' : Nat) (Y : own_S Z y bytes maxL ret p l e R s m args below meth c T h locs cells slots) {x : Int64} {z : Int32} (hd : decode bytes pc = .ok (.lshl, 1))  (hp : pc + 1 = pc') (K : own_G p e below E (T.setTop (mkF m pc' Ls (.long (x <<< (z &&& 0x3f).toInt64) :: st)))) : own_G p e below E (T.setTop (mkF m pc Ls (.int z :: .long x :: st))) := by
  subst hp
  exact own_st (fun t k => XS.lshl Y.X.here Y.x rfl (Y.d hd) rfl k) K
theorem own_lshr (pc' : Nat) (Y : own_S Z y bytes maxL ret p l e R s m args below meth c T h locs cells slots) {x : Int64} {z : Int32} (hd : decode bytes pc = .ok (.lshr, 1))  (hp : pc + 1 = pc') (K : own_G p e below E (T.setTop (mkF m pc' Ls (.long (x >>> (z &&& 0x3f).toInt64) :: st)))) : own_G p e below E (T.setTop (mkF m pc Ls (.int z :: .long x :: st))) := by
  subst hp
  exact own_st (fun t k => XS.lshr Y.X.here Y.x rfl (Y.d hd) rfl k) K
theorem own_lushr (pc' : Nat) (Y : own_S Z y bytes maxL ret p l e R s m args below meth c T h locs cells slots) {x : Int64} {z : Int32} (hd : decode bytes pc = .ok (.lushr, 1))  (hp : pc + 1 = pc') (K : own_G p e below E (T.setTop (mkF m pc' Ls (.long ((x.toUInt64 >>> (z &&& 0x3f).toInt64.toUInt64).toInt64) :: st)))) : own_G p e below E (T.setTop (mkF m pc Ls (.int z :: .long x :: st))) := by
  subst hp
  exact own_st (fun t k => XS.lushr Y.X.here Y.x rfl (Y.d hd) rfl k) K
theorem own_idiv (pc' : Nat) (Y : own_S Z y bytes maxL ret p l e R s m args below meth c T h locs cells slots) {x z : Int32} (hd : decode bytes pc = .ok (.idiv, 1)) (hz : z ≠ 0) (hp : pc + 1 = pc') (K : own_G p e below E (T.setTop (mkF m pc' Ls (.int (x / z) :: st)))) : own_G p e below E (T.setTop (mkF m pc Ls (.int z :: .int x :: st))) := by
  subst hp
  exact own_st (fun t k => XS.idiv Y.X.here Y.x rfl (Y.d hd) rfl hz k) K
theorem own_irem (pc' : Nat) (Y : own_S Z y bytes maxL ret p l e R s m args below meth c T h locs cells slots) {x z : Int32} (hd : decode bytes pc = .ok (.irem, 1)) (hz : z ≠ 0) (hp : pc + 1 = pc') (K : own_G p e below E (T.setTop (mkF m pc' Ls (.int (x % z) :: st)))) : own_G p e below E (T.setTop (mkF m pc Ls (.int z :: .int x :: st))) := by
  subst hp
  exact own_st (fun t k => iremM Y.X Y.x rfl (Y.d hd) rfl hz k) K
theorem own_ldiv (pc' : Nat) (Y : own_S Z y bytes maxL ret p l e R s m args below meth c T h locs cells slots) {x z : Int64} (hd : decode bytes pc = .ok (.ldiv, 1)) (hz : z ≠ 0) (hp : pc + 1 = pc') (K : own_G p e below E (T.setTop (mkF m pc' Ls (.long (x / z) :: st)))) : own_G p e below E (T.setTop (mkF m pc Ls (.long z :: .long x :: st))) := by
  subst hp
  exact own_st (fun t k => XS.ldiv Y.X.here Y.x rfl (Y.d hd) rfl hz k) K
theorem own_lrem (pc' : Nat) (Y : own_S Z y bytes maxL ret p l e R s m args below meth c T h locs cells slots) {x z : Int64} (hd : decode bytes pc = .ok (.lrem, 1)) (hz : z ≠ 0) (hp : pc + 1 = pc') (K : own_G p e below E (T.setTop (mkF m pc' Ls (.long (x - (x / z) * z) :: st)))) : own_G p e below E (T.setTop (mkF m pc Ls (.long z :: .long x :: st))) := by
  subst hp
  exact own_st (fun t k => XS.lrem Y.X.here Y.x rfl (Y.d hd) rfl hz k) K
theorem own_ineg (pc' : Nat) (Y : own_S Z y bytes maxL ret p l e R s m args below meth c T h locs cells slots) {x : Int32} (hd : decode bytes pc = .ok (.ineg, 1))  (hp : pc + 1 = pc') (K : own_G p e below E (T.setTop (mkF m pc' Ls (.int (-x) :: st)))) : own_G p e below E (T.setTop (mkF m pc Ls (.int x :: st))) := by
  subst hp
  exact own_st (fun t k => XS.ineg Y.X.here Y.x rfl (Y.d hd) rfl k) K
theorem own_i2b (pc' : Nat) (Y : own_S Z y bytes maxL ret p l e R s m args below meth c T h locs cells slots) {x : Int32} (hd : decode bytes pc = .ok (.i2b, 1))  (hp : pc + 1 = pc') (K : own_G p e below E (T.setTop (mkF m pc' Ls (.int (x.toInt8.toInt32) :: st)))) : own_G p e below E (T.setTop (mkF m pc Ls (.int x :: st))) := by
  subst hp
  exact own_st (fun t k => XS.i2b Y.X.here Y.x rfl (Y.d hd) rfl k) K
theorem own_i2c (pc' : Nat) (Y : own_S Z y bytes maxL ret p l e R s m args below meth c T h locs cells slots) {x : Int32} (hd : decode bytes pc = .ok (.i2c, 1))  (hp : pc + 1 = pc') (K : own_G p e below E (T.setTop (mkF m pc' Ls (.int (x.toUInt32.toUInt16.toUInt32.toInt32) :: st)))) : own_G p e below E (T.setTop (mkF m pc Ls (.int x :: st))) := by
  subst hp
  exact own_st (fun t k => XS.i2c Y.X.here Y.x rfl (Y.d hd) rfl k) K
theorem own_i2s (pc' : Nat) (Y : own_S Z y bytes maxL ret p l e R s m args below meth c T h locs cells slots) {x : Int32} (hd : decode bytes pc = .ok (.i2s, 1))  (hp : pc + 1 = pc') (K : own_G p e below E (T.setTop (mkF m pc' Ls (.int (x.toInt16.toInt32) :: st)))) : own_G p e below E (T.setTop (mkF m pc Ls (.int x :: st))) := by
  subst hp
  exact own_st (fun t k => XS.i2s Y.X.here Y.x rfl (Y.d hd) rfl k) K
theorem own_i2l (pc' : Nat) (Y : own_S Z y bytes maxL ret p l e R s m args below meth c T h locs cells slots) {x : Int32} (hd : decode bytes pc = .ok (.i2l, 1))  (hp : pc + 1 = pc') (K : own_G p e below E (T.setTop (mkF m pc' Ls (.long x.toInt64 :: st)))) : own_G p e below E (T.setTop (mkF m pc Ls (.int x :: st))) := by
  subst hp
  exact own_st (fun t k => XS.i2l Y.X.here Y.x rfl (Y.d hd) rfl k) K
theorem own_l2i (pc' : Nat) (Y : own_S Z y bytes maxL ret p l e R s m args below meth c T h locs cells slots) {x : Int64} (hd : decode bytes pc = .ok (.l2i, 1))  (hp : pc + 1 = pc') (K : own_G p e below E (T.setTop (mkF m pc' Ls (.int x.toInt32 :: st)))) : own_G p e below E (T.setTop (mkF m pc Ls (.long x :: st))) := by
  subst hp
  exact own_st (fun t k => XS.l2i Y.X.here Y.x rfl (Y.d hd) rfl k) K
theorem own_lneg (pc' : Nat) (Y : own_S Z y bytes maxL ret p l e R s m args below meth c T h locs cells slots) {x : Int64} (hd : decode bytes pc = .ok (.lneg, 1))  (hp : pc + 1 = pc') (K : own_G p e below E (T.setTop (mkF m pc' Ls (.long (-x) :: st)))) : own_G p e below E (T.setTop (mkF m pc Ls (.long x :: st))) := by
  subst hp
  exact own_st (fun t k => XS.lneg Y.X.here Y.x rfl (Y.d hd) rfl k) K
theorem own_lcmp (pc' : Nat) (Y : own_S Z y bytes maxL ret p l e R s m args below meth c T h locs cells slots) {x z : Int64} (hd : decode bytes pc = .ok (.lcmp, 1))  (hp : pc + 1 = pc') (K : own_G p e below E (T.setTop (mkF m pc' Ls (.int (lcmpW x z) :: st)))) : own_G p e below E (T.setTop (mkF m pc Ls (.long z :: .long x :: st))) := by
  subst hp
  exact own_st (fun t k => XS.lcmp Y.X.here Y.x rfl (Y.d hd) rfl k) K
theorem own_dup (pc' : Nat) (Y : own_S Z y bytes maxL ret p l e R s m args below meth c T h locs cells slots) {x : Value} (hd : decode bytes pc = .ok (.dup, 1)) (hc : x.category = 1) (hp : pc + 1 = pc') (K : own_G p e below E (T.setTop (mkF m pc' Ls (x :: x :: st)))) : own_G p e below E (T.setTop (mkF m pc Ls (x :: st))) := by
  subst hp
  exact own_st (fun t k => XS.dup Y.X.here Y.x rfl (Y.d hd) rfl hc k) K
theorem own_dupX1 (pc' : Nat) (Y : own_S Z y bytes maxL ret p l e R s m args below meth c T h locs cells slots) {x z : Value} (hd : decode bytes pc = .ok (.dup_x1, 1)) (hc : x.category = 1) (hc' : z.category = 1) (hp : pc + 1 = pc') (K : own_G p e below E (T.setTop (mkF m pc' Ls (x :: z :: x :: st)))) : own_G p e below E (T.setTop (mkF m pc Ls (x :: z :: st))) := by
  subst hp
  exact own_st (fun t k => XS.dupX1 Y.X.here Y.x rfl (Y.d hd) rfl hc hc' k) K
theorem own_pop (pc' : Nat) (Y : own_S Z y bytes maxL ret p l e R s m args below meth c T h locs cells slots) {x : Value} (hd : decode bytes pc = .ok (.pop, 1)) (hc : x.category = 1) (hp : pc + 1 = pc') (K : own_G p e below E (T.setTop (mkF m pc' Ls (st)))) : own_G p e below E (T.setTop (mkF m pc Ls (x :: st))) := by
  subst hp
  exact own_st (fun t k => XS.pop Y.X.here Y.x rfl (Y.d hd) rfl hc k) K
theorem own_istoreN (pc' : Nat) (Y : own_S Z y bytes maxL ret p l e R s m args below meth c T h locs cells slots) (Ls' : Array Slot) {k : Fin 4} {x : Int32} (hd : decode bytes pc = .ok (.istore_n k, 1)) (hl : storeLocals Ls k.val (.int x) = some Ls') (hp : pc + 1 = pc') (K : own_G p e below E (T.setTop (mkF m pc' Ls' (st)))) : own_G p e below E (T.setTop (mkF m pc Ls (.int x :: st))) := by
  subst hp
  exact own_st (fun t k => XS.istoreN Y.X.here Y.x rfl (Y.d hd) rfl hl k) K
theorem own_istore (pc' : Nat) (Y : own_S Z y bytes maxL ret p l e R s m args below meth c T h locs cells slots) (Ls' : Array Slot) {k : Nat} {x : Int32} (hd : decode bytes pc = .ok (.istore k, 2)) (hl : storeLocals Ls k (.int x) = some Ls') (hp : pc + 2 = pc') (K : own_G p e below E (T.setTop (mkF m pc' Ls' (st)))) : own_G p e below E (T.setTop (mkF m pc Ls (.int x :: st))) := by
  subst hp
  exact own_st (fun t k => XS.istore Y.X.here Y.x rfl (Y.d hd) rfl hl k) K
theorem own_lstoreN (pc' : Nat) (Y : own_S Z y bytes maxL ret p l e R s m args below meth c T h locs cells slots) (Ls' : Array Slot) {k : Fin 4} {x : Int64} (hd : decode bytes pc = .ok (.lstore_n k, 1)) (hl : storeLocals Ls k.val (.long x) = some Ls') (hp : pc + 1 = pc') (K : own_G p e below E (T.setTop (mkF m pc' Ls' (st)))) : own_G p e below E (T.setTop (mkF m pc Ls (.long x :: st))) := by
  subst hp
  exact own_st (fun t k => XS.lstoreN Y.X.here Y.x rfl (Y.d hd) rfl hl k) K
theorem own_lstore (pc' : Nat) (Y : own_S Z y bytes maxL ret p l e R s m args below meth c T h locs cells slots) (Ls' : Array Slot) {k : Nat} {x : Int64} (hd : decode bytes pc = .ok (.lstore k, 2)) (hl : storeLocals Ls k (.long x) = some Ls') (hp : pc + 2 = pc') (K : own_G p e below E (T.setTop (mkF m pc' Ls' (st)))) : own_G p e below E (T.setTop (mkF m pc Ls (.long x :: st))) := by
  subst hp
  exact own_st (fun t k => XS.lstore Y.X.here Y.x rfl (Y.d hd) rfl hl k) K
theorem own_astoreN (pc' : Nat) (Y : own_S Z y bytes maxL ret p l e R s m args below meth c T h locs cells slots) (Ls' : Array Slot) {k : Fin 4} {x : Value} (hd : decode bytes pc = .ok (.astore_n k, 1)) (hv : x.isRef = true) (hl : storeLocals Ls k.val (x) = some Ls') (hp : pc + 1 = pc') (K : own_G p e below E (T.setTop (mkF m pc' Ls' (st)))) : own_G p e below E (T.setTop (mkF m pc Ls (x :: st))) := by
  subst hp
  exact own_st (fun t k => XS.astoreN Y.X.here Y.x rfl (Y.d hd) rfl hv hl k) K
theorem own_astore (pc' : Nat) (Y : own_S Z y bytes maxL ret p l e R s m args below meth c T h locs cells slots) (Ls' : Array Slot) {k : Nat} {x : Value} (hd : decode bytes pc = .ok (.astore k, 2)) (hv : x.isRef = true) (hl : storeLocals Ls k (x) = some Ls') (hp : pc + 2 = pc') (K : own_G p e below E (T.setTop (mkF m pc' Ls' (st)))) : own_G p e below E (T.setTop (mkF m pc Ls (x :: st))) := by
  subst hp
  exact own_st (fun t k => XS.astore Y.X.here Y.x rfl (Y.d hd) rfl hv hl k) K
theorem own_iinc (pc' : Nat) (Y : own_S Z y bytes maxL ret p l e R s m args below meth c T h locs cells slots) (Ls' : Array Slot) (v : Int32) {k : Nat} {cst : Int} {x : Int32} (hd : decode bytes pc = .ok (.iinc k cst, 3)) (hv : Int32.ofInt cst = v) (hl : Ls[k]? = some (.val (.int x))) (hl' : storeLocals Ls k (.int (x + v)) = some Ls') (hp : pc + 3 = pc') (K : own_G p e below E (T.setTop (mkF m pc' Ls' (st)))) : own_G p e below E (T.setTop (mkF m pc Ls (st))) := by
  subst hp
  exact own_st (fun t k => XT.iincV Y.X.here Y.x rfl v (Y.d hd) hv hl hl' k) K
theorem own_dloadN (pc' : Nat) (Y : own_S Z y bytes maxL ret p l e R s m args below meth c T h locs cells slots) {k : Fin 4} {v : UInt64} (hd : decode bytes pc = .ok (.dload_n k, 1)) (hl : Ls[k.val]? = some (.val (.double v))) (hp : pc + 1 = pc') (K : own_G p e below E (T.setTop (mkF m pc' Ls (.double v :: st)))) : own_G p e below E (T.setTop (mkF m pc Ls (st))) := by
  subst hp
  exact own_st (fun t k => XS.dloadN Y.X.here Y.x rfl (Y.d hd) hl k) K
theorem own_dload (pc' : Nat) (Y : own_S Z y bytes maxL ret p l e R s m args below meth c T h locs cells slots) {k : Nat} {v : UInt64} (hd : decode bytes pc = .ok (.dload k, 2)) (hl : Ls[k]? = some (.val (.double v))) (hp : pc + 2 = pc') (K : own_G p e below E (T.setTop (mkF m pc' Ls (.double v :: st)))) : own_G p e below E (T.setTop (mkF m pc Ls (st))) := by
  subst hp
  exact own_st (fun t k => XS.dload Y.X.here Y.x rfl (Y.d hd) hl k) K
theorem own_dstoreN (pc' : Nat) (Y : own_S Z y bytes maxL ret p l e R s m args below meth c T h locs cells slots) (Ls' : Array Slot) {k : Fin 4} {x : UInt64} (hd : decode bytes pc = .ok (.dstore_n k, 1)) (hl : storeLocals Ls k.val (.double x) = some Ls') (hp : pc + 1 = pc') (K : own_G p e below E (T.setTop (mkF m pc' Ls' (st)))) : own_G p e below E (T.setTop (mkF m pc Ls (.double x :: st))) := by
  subst hp
  exact own_st (fun t k => XS.dstoreN Y.X.here Y.x rfl (Y.d hd) rfl hl k) K
theorem own_dstore (pc' : Nat) (Y : own_S Z y bytes maxL ret p l e R s m args below meth c T h locs cells slots) (Ls' : Array Slot) {k : Nat} {x : UInt64} (hd : decode bytes pc = .ok (.dstore k, 2)) (hl : storeLocals Ls k (.double x) = some Ls') (hp : pc + 2 = pc') (K : own_G p e below E (T.setTop (mkF m pc' Ls' (st)))) : own_G p e below E (T.setTop (mkF m pc Ls (.double x :: st))) := by
  subst hp
  exact own_st (fun t k => XS.dstore Y.X.here Y.x rfl (Y.d hd) rfl hl k) K
theorem own_i2d (pc' : Nat) (Y : own_S Z y bytes maxL ret p l e R s m args below meth c T h locs cells slots) {x : Int32} (hd : decode bytes pc = .ok (.i2d, 1))  (hp : pc + 1 = pc') (K : own_G p e below E (T.setTop (mkF m pc' Ls (.double (FP.l2d x.toInt64) :: st)))) : own_G p e below E (T.setTop (mkF m pc Ls (.int x :: st))) := by
  subst hp
  exact own_st (fun t k => XS.i2dS Y.X.here Y.x rfl (Y.d hd) rfl (i2d_w x) k) K
theorem own_l2d (pc' : Nat) (Y : own_S Z y bytes maxL ret p l e R s m args below meth c T h locs cells slots) {x : Int64} (hd : decode bytes pc = .ok (.l2d, 1))  (hp : pc + 1 = pc') (K : own_G p e below E (T.setTop (mkF m pc' Ls (.double (FP.l2d x) :: st)))) : own_G p e below E (T.setTop (mkF m pc Ls (.long x :: st))) := by
  subst hp
  exact own_st (fun t k => XS.l2dS Y.X.here Y.x rfl (Y.d hd) rfl rfl k) K
theorem own_dsub (pc' : Nat) (Y : own_S Z y bytes maxL ret p l e R s m args below meth c T h locs cells slots) {x z : Int64} (hbx : B53 x) (hbz : B53 z) (hd : decode bytes pc = .ok (.dsub, 1))  (hp : pc + 1 = pc') (K : own_G p e below E (T.setTop (mkF m pc' Ls (.double (FP.l2d (x - z)) :: st)))) : own_G p e below E (T.setTop (mkF m pc Ls (.double (FP.l2d z) :: .double (FP.l2d x) :: st))) := by
  subst hp
  exact own_st (fun t k => XS.dsubS Y.X.here Y.x rfl (Y.d hd) rfl (nn_w (dsub_w hbx hbz)) (dsub_w hbx hbz) k) K
theorem own_dcmp (pc' : Nat) (Y : own_S Z y bytes maxL ret p l e R s m args below meth c T h locs cells slots) {o : CmpOp} {x z : Int64} (hbx : B53 x) (hbz : B53 z) (hd : decode bytes pc = .ok (.dcmp o, 1))  (hp : pc + 1 = pc') (K : own_G p e below E (T.setTop (mkF m pc' Ls (.int (lcmpW x z) :: st)))) : own_G p e below E (T.setTop (mkF m pc Ls (.double (FP.l2d z) :: .double (FP.l2d x) :: st))) := by
  subst hp
  exact own_st (fun t k => XS.dcmpS Y.X.here Y.x rfl (Y.d hd) rfl (dcmpV_w hbx hbz o) k) K
theorem own_pc {pc pc' : Nat} {o : Int} (hp : (pc : Int) + o = (pc' : Int)) : 0 ≤ (pc : Int) + o ∧ ((pc : Int) + o).toNat = pc' := by rw [hp]; exact ⟨Int.natCast_nonneg _, Int.toNat_natCast _⟩
theorem own_goto (pc' : Nat) (Y : own_S Z y bytes maxL ret p l e R s m args below meth c T h locs cells slots) {o : Int} (hd : decode bytes pc = .ok (.goto o, 3)) (hp : (pc : Int) + o = (pc' : Int)) (K : own_G p e below E (T.setTop (mkF m pc' Ls st))) : own_G p e below E (T.setTop (mkF m pc Ls st)) :=
  own_st (fun t k => XS.goto Y.X.here Y.x rfl rfl (Y.d hd) (own_pc hp).1 (own_pc hp).2 k) K
theorem own_ifT (pc' : Nat) (Y : own_S Z y bytes maxL ret p l e R s m args below meth c T h locs cells slots) {cd : ClassFile.Cond} {o : Int} {x : Int32} (hd : decode bytes pc = .ok (.ifCond cd o, 3)) (hc : ifCond.holds cd x = true) (hp : (pc : Int) + o = (pc' : Int)) (K : own_G p e below E (T.setTop (mkF m pc' Ls st))) : own_G p e below E (T.setTop (mkF m pc Ls (.int x :: st))) :=
  own_st (fun t k => XS.ifYes Y.X.here Y.x rfl rfl (Y.d hd) rfl hc (own_pc hp).1 (own_pc hp).2 k) K
theorem own_ifF (pc' : Nat) (Y : own_S Z y bytes maxL ret p l e R s m args below meth c T h locs cells slots) {cd : ClassFile.Cond} {o : Int} {x : Int32} (hd : decode bytes pc = .ok (.ifCond cd o, 3)) (hc : ifCond.holds cd x = false) (hp : pc + 3 = pc') (K : own_G p e below E (T.setTop (mkF m pc' Ls st))) : own_G p e below E (T.setTop (mkF m pc Ls (.int x :: st))) := by
  subst hp
  exact own_st (fun t k => XS.ifNo Y.X.here Y.x rfl (Y.d hd) rfl hc k) K
theorem own_icT (pc' : Nat) (Y : own_S Z y bytes maxL ret p l e R s m args below meth c T h locs cells slots) {cd : ClassFile.Cond} {o : Int} {x z : Int32} (hd : decode bytes pc = .ok (.if_icmp cd o, 3)) (hc : if_icmp.holds cd x z = true) (hp : (pc : Int) + o = (pc' : Int)) (K : own_G p e below E (T.setTop (mkF m pc' Ls st))) : own_G p e below E (T.setTop (mkF m pc Ls (.int z :: .int x :: st))) :=
  own_st (fun t k => XS.icmpYes Y.X.here Y.x rfl rfl (Y.d hd) rfl hc (own_pc hp).1 (own_pc hp).2 k) K
theorem own_icF (pc' : Nat) (Y : own_S Z y bytes maxL ret p l e R s m args below meth c T h locs cells slots) {cd : ClassFile.Cond} {o : Int} {x z : Int32} (hd : decode bytes pc = .ok (.if_icmp cd o, 3)) (hc : if_icmp.holds cd x z = false) (hp : pc + 3 = pc') (K : own_G p e below E (T.setTop (mkF m pc' Ls st))) : own_G p e below E (T.setTop (mkF m pc Ls (.int z :: .int x :: st))) := by
  subst hp
  exact own_st (fun t k => XS.icmpNo Y.X.here Y.x rfl (Y.d hd) rfl hc k) K
theorem own_if_eq (pc' pc'' : Nat) (Y : own_S Z y bytes maxL ret p l e R s m args below meth c T h locs cells slots) {x : Int32} {o : Int} (hd : decode bytes pc = .ok (.ifCond .eq o, 3)) (hp : (pc : Int) + o = (pc' : Int)) (hp' : pc + 3 = pc'') (KT : x = 0 → own_G p e below E (T.setTop (mkF m pc' Ls st))) (KF : ¬ x = 0 → own_G p e below E (T.setTop (mkF m pc'' Ls st))) : own_G p e below E (T.setTop (mkF m pc Ls (.int x :: st))) :=
  (Decidable.em (x = 0)).elim (fun q => own_ifT pc' Y hd (XT.i0_eq_t q) hp (KT q)) (fun q => own_ifF pc'' Y hd (XT.i0_eq_f q) hp' (KF q))
theorem own_ic_eq (pc' pc'' : Nat) (Y : own_S Z y bytes maxL ret p l e R s m args below meth c T h locs cells slots) {x z : Int32} {o : Int} (hd : decode bytes pc = .ok (.if_icmp .eq o, 3)) (hp : (pc : Int) + o = (pc' : Int)) (hp' : pc + 3 = pc'') (KT : x = z → own_G p e below E (T.setTop (mkF m pc' Ls st))) (KF : ¬ x = z → own_G p e below E (T.setTop (mkF m pc'' Ls st))) : own_G p e below E (T.setTop (mkF m pc Ls (.int z :: .int x :: st))) :=
  (Decidable.em (x = z)).elim (fun q => own_icT pc' Y hd (XT.ii_eq_t q) hp (KT q)) (fun q => own_icF pc'' Y hd (XT.ii_eq_f q) hp' (KF q))
theorem own_if_ne (pc' pc'' : Nat) (Y : own_S Z y bytes maxL ret p l e R s m args below meth c T h locs cells slots) {x : Int32} {o : Int} (hd : decode bytes pc = .ok (.ifCond .ne o, 3)) (hp : (pc : Int) + o = (pc' : Int)) (hp' : pc + 3 = pc'') (KT : ¬ x = 0 → own_G p e below E (T.setTop (mkF m pc' Ls st))) (KF : x = 0 → own_G p e below E (T.setTop (mkF m pc'' Ls st))) : own_G p e below E (T.setTop (mkF m pc Ls (.int x :: st))) :=
  (Decidable.em (x = 0)).elim (fun q => own_ifF pc'' Y hd (XT.i0_ne_f q) hp' (KF q)) (fun q => own_ifT pc' Y hd (XT.i0_ne_t q) hp (KT q))
theorem own_ic_ne (pc' pc'' : Nat) (Y : own_S Z y bytes maxL ret p l e R s m args below meth c T h locs cells slots) {x z : Int32} {o : Int} (hd : decode bytes pc = .ok (.if_icmp .ne o, 3)) (hp : (pc : Int) + o = (pc' : Int)) (hp' : pc + 3 = pc'') (KT : ¬ x = z → own_G p e below E (T.setTop (mkF m pc' Ls st))) (KF : x = z → own_G p e below E (T.setTop (mkF m pc'' Ls st))) : own_G p e below E (T.setTop (mkF m pc Ls (.int z :: .int x :: st))) :=
  (Decidable.em (x = z)).elim (fun q => own_icF pc'' Y hd (XT.ii_ne_f q) hp' (KF q)) (fun q => own_icT pc' Y hd (XT.ii_ne_t q) hp (KT q))
theorem own_if_lt (pc' pc'' : Nat) (Y : own_S Z y bytes maxL ret p l e R s m args below meth c T h locs cells slots) {x : Int32} {o : Int} (hd : decode bytes pc = .ok (.ifCond .lt o, 3)) (hp : (pc : Int) + o = (pc' : Int)) (hp' : pc + 3 = pc'') (KT : x < 0 → own_G p e below E (T.setTop (mkF m pc' Ls st))) (KF : ¬ x < 0 → own_G p e below E (T.setTop (mkF m pc'' Ls st))) : own_G p e below E (T.setTop (mkF m pc Ls (.int x :: st))) :=
  (Decidable.em (x < 0)).elim (fun q => own_ifT pc' Y hd (XT.i0_lt_t q) hp (KT q)) (fun q => own_ifF pc'' Y hd (XT.i0_lt_f q) hp' (KF q))
theorem own_ic_lt (pc' pc'' : Nat) (Y : own_S Z y bytes maxL ret p l e R s m args below meth c T h locs cells slots) {x z : Int32} {o : Int} (hd : decode bytes pc = .ok (.if_icmp .lt o, 3)) (hp : (pc : Int) + o = (pc' : Int)) (hp' : pc + 3 = pc'') (KT : x < z → own_G p e below E (T.setTop (mkF m pc' Ls st))) (KF : ¬ x < z → own_G p e below E (T.setTop (mkF m pc'' Ls st))) : own_G p e below E (T.setTop (mkF m pc Ls (.int z :: .int x :: st))) :=
  (Decidable.em (x < z)).elim (fun q => own_icT pc' Y hd (XT.ii_lt_t q) hp (KT q)) (fun q => own_icF pc'' Y hd (XT.ii_lt_f q) hp' (KF q))
theorem own_if_ge (pc' pc'' : Nat) (Y : own_S Z y bytes maxL ret p l e R s m args below meth c T h locs cells slots) {x : Int32} {o : Int} (hd : decode bytes pc = .ok (.ifCond .ge o, 3)) (hp : (pc : Int) + o = (pc' : Int)) (hp' : pc + 3 = pc'') (KT : ¬ x < 0 → own_G p e below E (T.setTop (mkF m pc' Ls st))) (KF : x < 0 → own_G p e below E (T.setTop (mkF m pc'' Ls st))) : own_G p e below E (T.setTop (mkF m pc Ls (.int x :: st))) :=
  (Decidable.em (x < 0)).elim (fun q => own_ifF pc'' Y hd (XT.i0_ge_f q) hp' (KF q)) (fun q => own_ifT pc' Y hd (XT.i0_ge_t q) hp (KT q))
theorem own_ic_ge (pc' pc'' : Nat) (Y : own_S Z y bytes maxL ret p l e R s m args below meth c T h locs cells slots) {x z : Int32} {o : Int} (hd : decode bytes pc = .ok (.if_icmp .ge o, 3)) (hp : (pc : Int) + o = (pc' : Int)) (hp' : pc + 3 = pc'') (KT : ¬ x < z → own_G p e below E (T.setTop (mkF m pc' Ls st))) (KF : x < z → own_G p e below E (T.setTop (mkF m pc'' Ls st))) : own_G p e below E (T.setTop (mkF m pc Ls (.int z :: .int x :: st))) :=
  (Decidable.em (x < z)).elim (fun q => own_icF pc'' Y hd (XT.ii_ge_f q) hp' (KF q)) (fun q => own_icT pc' Y hd (XT.ii_ge_t q) hp (KT q))
theorem own_if_gt (pc' pc'' : Nat) (Y : own_S Z y bytes maxL ret p l e R s m args below meth c T h locs cells slots) {x : Int32} {o : Int} (hd : decode bytes pc = .ok (.ifCond .gt o, 3)) (hp : (pc : Int) + o = (pc' : Int)) (hp' : pc + 3 = pc'') (KT : 0 < x → own_G p e below E (T.setTop (mkF m pc' Ls st))) (KF : ¬ 0 < x → own_G p e below E (T.setTop (mkF m pc'' Ls st))) : own_G p e below E (T.setTop (mkF m pc Ls (.int x :: st))) :=
  (Decidable.em (0 < x)).elim (fun q => own_ifT pc' Y hd (XT.i0_gt_t q) hp (KT q)) (fun q => own_ifF pc'' Y hd (XT.i0_gt_f q) hp' (KF q))
theorem own_ic_gt (pc' pc'' : Nat) (Y : own_S Z y bytes maxL ret p l e R s m args below meth c T h locs cells slots) {x z : Int32} {o : Int} (hd : decode bytes pc = .ok (.if_icmp .gt o, 3)) (hp : (pc : Int) + o = (pc' : Int)) (hp' : pc + 3 = pc'') (KT : z < x → own_G p e below E (T.setTop (mkF m pc' Ls st))) (KF : ¬ z < x → own_G p e below E (T.setTop (mkF m pc'' Ls st))) : own_G p e below E (T.setTop (mkF m pc Ls (.int z :: .int x :: st))) :=
  (Decidable.em (z < x)).elim (fun q => own_icT pc' Y hd (XT.ii_gt_t q) hp (KT q)) (fun q => own_icF pc'' Y hd (XT.ii_gt_f q) hp' (KF q))
theorem own_if_le (pc' pc'' : Nat) (Y : own_S Z y bytes maxL ret p l e R s m args below meth c T h locs cells slots) {x : Int32} {o : Int} (hd : decode bytes pc = .ok (.ifCond .le o, 3)) (hp : (pc : Int) + o = (pc' : Int)) (hp' : pc + 3 = pc'') (KT : ¬ 0 < x → own_G p e below E (T.setTop (mkF m pc' Ls st))) (KF : 0 < x → own_G p e below E (T.setTop (mkF m pc'' Ls st))) : own_G p e below E (T.setTop (mkF m pc Ls (.int x :: st))) :=
  (Decidable.em (0 < x)).elim (fun q => own_ifF pc'' Y hd (XT.i0_le_f q) hp' (KF q)) (fun q => own_ifT pc' Y hd (XT.i0_le_t q) hp (KT q))
theorem own_ic_le (pc' pc'' : Nat) (Y : own_S Z y bytes maxL ret p l e R s m args below meth c T h locs cells slots) {x z : Int32} {o : Int} (hd : decode bytes pc = .ok (.if_icmp .le o, 3)) (hp : (pc : Int) + o = (pc' : Int)) (hp' : pc + 3 = pc'') (KT : ¬ z < x → own_G p e below E (T.setTop (mkF m pc' Ls st))) (KF : z < x → own_G p e below E (T.setTop (mkF m pc'' Ls st))) : own_G p e below E (T.setTop (mkF m pc Ls (.int z :: .int x :: st))) :=
  (Decidable.em (z < x)).elim (fun q => own_icF pc'' Y hd (XT.ii_le_f q) hp' (KF q)) (fun q => own_icT pc' Y hd (XT.ii_le_t q) hp (KT q))
theorem own_acmp (pc' : Nat) (same : Bool) (Y : own_S Z y bytes maxL ret p l e R s m args below meth c T h locs cells slots) {cd : ACond} {o : Int} {x z : Value} (hd : decode bytes pc = .ok (.if_acmp cd o, 3)) (h1 : x.isRef = true) (h2 : z.isRef = true) (hq : decide (x = z) = same) (ho : 0 ≤ (pc : Int) + o) (hp : pc' = if acV cd same = true then ((pc : Int) + o).toNat else pc + 3) (K : own_G p e below E (T.setTop (mkF m pc' Ls st))) : own_G p e below E (T.setTop (mkF m pc Ls (z :: x :: st))) :=
  own_st (fun t k => Jvm.RoadKit.acmp Y.X Y.x rfl h1 h2 rfl (Y.d hd) rfl hq ho hp k) K
theorem own_ifnullT (pc' : Nat) (Y : own_S Z y bytes maxL ret p l e R s m args below meth c T h locs cells slots) {o : Int} (hd : decode bytes pc = .ok (.ifnull o, 3)) (hp : (pc : Int) + o = (pc' : Int)) (K : own_G p e below E (T.setTop (mkF m pc' Ls st))) : own_G p e below E (T.setTop (mkF m pc Ls (.null :: st))) :=
  own_st (fun t k => XS.ifnullYes Y.X.here Y.x rfl rfl (Y.d hd) rfl (own_pc hp).1 (own_pc hp).2 k) K
theorem own_ifnonnullT (pc' : Nat) (Y : own_S Z y bytes maxL ret p l e R s m args below meth c T h locs cells slots) {b : Addr} {o : Int} (hd : decode bytes pc = .ok (.ifnonnull o, 3)) (hp : (pc : Int) + o = (pc' : Int)) (K : own_G p e below E (T.setTop (mkF m pc' Ls st))) : own_G p e below E (T.setTop (mkF m pc Ls (.ref b :: st))) :=
  own_st (fun t k => XS.ifnonnullYes Y.X.here Y.x rfl rfl (Y.d hd) rfl (own_pc hp).1 (own_pc hp).2 k) K
theorem own_ifnullF (pc' : Nat) (Y : own_S Z y bytes maxL ret p l e R s m args below meth c T h locs cells slots) {b : Addr} {o : Int} (hd : decode bytes pc = .ok (.ifnull o, 3)) (hp : pc + 3 = pc') (K : own_G p e below E (T.setTop (mkF m pc' Ls st))) : own_G p e below E (T.setTop (mkF m pc Ls (.ref b :: st))) := by
  subst hp
  exact own_st (fun t k => XS.ifnullNo Y.X.here Y.x rfl (Y.d hd) rfl k) K
theorem own_ifnonnullF (pc' : Nat) (Y : own_S Z y bytes maxL ret p l e R s m args below meth c T h locs cells slots) {o : Int} (hd : decode bytes pc = .ok (.ifnonnull o, 3)) (hp : pc + 3 = pc') (K : own_G p e below E (T.setTop (mkF m pc' Ls st))) : own_G p e below E (T.setTop (mkF m pc Ls (.null :: st))) := by
  subst hp
  exact own_st (fun t k => XS.ifnonnullNo Y.X.here Y.x rfl (Y.d hd) rfl k) K
theorem own_tswIn (pc' : Nat) (Y : own_S Z y bytes maxL ret p l e R s m args below meth c T h locs cells slots) {dflt low high : Int} {offs : Array Int} {len : Nat} {o : Int} {i : Int32} (hd : decode bytes pc = .ok (.tableswitch dflt low high offs, len)) (hin : ¬ (i.toInt < low ∨ i.toInt > high)) (hoff : offs[(i.toInt - low).toNat]? = some o) (hp : (pc : Int) + o = (pc' : Int)) (K : own_G p e below E (T.setTop (mkF m pc' Ls st))) : own_G p e below E (T.setTop (mkF m pc Ls (.int i :: st))) :=
  own_st (fun t k => XS.tswIn Y.X.here Y.x rfl rfl (Y.d hd) rfl hin hoff (own_pc hp).1 (own_pc hp).2 k) K
theorem own_tswOut (pc' : Nat) (Y : own_S Z y bytes maxL ret p l e R s m args below meth c T h locs cells slots) {o low high : Int} {offs : Array Int} {len : Nat} {i : Int32} (hd : decode bytes pc = .ok (.tableswitch o low high offs, len)) (hout : i.toInt < low ∨ i.toInt > high) (hp : (pc : Int) + o = (pc' : Int)) (K : own_G p e below E (T.setTop (mkF m pc' Ls st))) : own_G p e below E (T.setTop (mkF m pc Ls (.int i :: st))) :=
  own_st (fun t k => XS.tswOut Y.X.here Y.x rfl rfl (Y.d hd) rfl hout (own_pc hp).1 (own_pc hp).2 k) K
theorem own_ldcI (pc' : Nat) (Y : own_S Z y bytes maxL ret p l e R s m args below meth c T h locs cells slots) {index : Nat} {v : Int32} (w : (Jvm.Cond.constant y.cls index v).before a0 Z = true) (hd : decode bytes pc = .ok (.ldc index, 2)) (hp : pc + 2 = pc') (K : own_G p e below E (T.setTop (mkF m pc' Ls (.int v :: st)))) : own_G p e below E (T.setTop (mkF m pc Ls st)) := by
  subst hp
  exact own_st (fun t k => Y.X.ldcInt Y.x Y.own (mvT Y.warm w) (g := mkF m pc Ls st) rfl (Y.d hd) t k) K
theorem own_ldc2J (pc' : Nat) (Y : own_S Z y bytes maxL ret p l e R s m args below meth c T h locs cells slots) {index : Nat} {v : Int64} (w : (Jvm.Cond.constantLong y.cls index v).before a0 Z = true) (hd : decode bytes pc = .ok (.ldc2_w index, 3)) (hp : pc + 3 = pc') (K : own_G p e below E (T.setTop (mkF m pc' Ls (.long v :: st)))) : own_G p e below E (T.setTop (mkF m pc Ls st)) := by
  subst hp
  exact own_st (fun t k => Y.X.ldc2Long Y.x Y.own (mvT Y.warm w) (g := mkF m pc Ls st) rfl (Y.d hd) t k) K
theorem own_getS (pc' : Nat) (Y : own_S Z y bytes maxL ret p l e R s m args below meth c T h locs cells slots) {R0 O n d host : String} {index : Nat} (w : (Jvm.Cond.fieldLink y.cls index R0 n d).before a0 Z = true ∨ (Jvm.Cond.fieldLinkNest y.cls index R0 n d host).before a0 Z = true) (via : Via Z R0 O n d) {v : Value} (F : Sta Z h O n d v) (hd : decode bytes pc = .ok (.getstatic index, 3)) (hp : pc + 3 = pc') (K : ∀ T', own_S Z y bytes maxL ret p l e R s m args below meth c T' h locs cells slots → own_G p e below E (T'.setTop (mkF m pc' Ls (v :: st)))) : own_G p e below E (T.setTop (mkF m pc Ls st)) := by
  subst hp
  obtain ⟨T', X', e', st'⟩ := getS2 Y.X Y.x Y.warm Y.own w via Y.eT F (g := mkF m pc Ls st) rfl (Y.d hd)
  exact own_st st' (K T' ⟨Y.1, X', e'⟩)
theorem own_getF (pc' : Nat) (Y : own_S Z y bytes maxL ret p l e R s m args below meth c T h locs cells slots) {R0 O n d host : String} {index : Nat} (w : (Jvm.Cond.fieldLink y.cls index R0 n d).before a0 Z = true ∨ (Jvm.Cond.fieldLinkNest y.cls index R0 n d host).before a0 Z = true) (via : Via Z R0 O n d) {a : Addr} {v : Value} (F : Fld Z h a O n d v) (hd : decode bytes pc = .ok (.getfield index, 3)) (hp : pc + 3 = pc') (K : ∀ T', own_S Z y bytes maxL ret p l e R s m args below meth c T' h locs cells slots → own_G p e below E (T'.setTop (mkF m pc' Ls (v :: st)))) : own_G p e below E (T.setTop (mkF m pc Ls (.ref a :: st))) := by
  subst hp
  obtain ⟨T', X', e', st'⟩ := getF Y.X Y.x Y.warm Y.own w via Y.eT F (g := mkF m pc Ls (.ref a :: st)) rfl rfl (Y.d hd)
  exact own_st st' (K T' ⟨Y.1, X', e'⟩)
theorem own_putF (pc' : Nat) (Y : own_S Z y bytes maxL ret p l e R s m args below meth c T h locs cells slots) {R0 O n d host : String} {index : Nat} {C : String} {kk : Nat} {ty : FieldType} (w : (Jvm.Cond.fieldLink y.cls index R0 n d).before a0 Z = true ∨ (Jvm.Cond.fieldLinkNest y.cls index R0 n d host).before a0 Z = true) (via : Via Z R0 O n d) {a : Addr} {v old : Value} (F : Fld Z h a O n d old) (EX : Exa Z h a C) (Lw : (Jvm.Cond.lays C O n d).before a0 Z = true ∨ ((Jvm.Cond.laysFinal C O n d).before a0 Z = true ∧ y.cls = O ∧ y.name = "<init>")) (wi : (Jvm.Cond.instantiable C kk).before a0 Z = true) (hty : parseFieldDescriptor d = some ty) (hn : narrow ty v = v) (hf : fits ty v = true) (hd : decode bytes pc = .ok (.putfield index, 3)) (hp : pc + 3 = pc')
    (K : ∀ T' h', own_S Z y bytes maxL ret p l e R s m args below meth c T' h' (locs ++ [⟨a, Jvm.RoadKit.slotOf Z O n d⟩]) cells slots → Wr h h' a (Jvm.RoadKit.slotOf Z O n d) v → own_G p e below E (T'.setTop (mkF m pc' Ls st))) : own_G p e below E (T.setTop (mkF m pc Ls (v :: .ref a :: st))) := by
  subst hp
  obtain ⟨T', h', X', e', W', st'⟩ := putF Y.X Y.x Y.warm Y.own w via Y.eT F EX (Lw.imp id fun q => ⟨q.1, q.2.1, Y.1.2.2.2.2.2.2.2.trans q.2.2⟩) wi hty hn hf (g := mkF m pc Ls (v :: .ref a :: st)) rfl rfl (Y.d hd)
  exact own_st st' (K T' h' ⟨Y.1, X', e'⟩ W')
theorem own_putFN (pc' : Nat) (Y : own_S Z y bytes maxL ret p l e R s m args below meth c T h locs cells slots) {R0 O n d : String} {index : Nat} {C : String} {kk : Nat} {ty : FieldType} (w : (Jvm.Cond.fieldLink y.cls index R0 n d).before a0 Z = true) (via : Via Z R0 O n d) {a : Addr} {v v' old : Value} (F : Fld Z h a O n d old) (EX : Exa Z h a C) (Lw : (Jvm.Cond.lays C O n d).before a0 Z = true ∨ ((Jvm.Cond.laysFinal C O n d).before a0 Z = true ∧ y.cls = O ∧ y.name = "<init>")) (wi : (Jvm.Cond.instantiable C kk).before a0 Z = true) (hty : parseFieldDescriptor d = some ty) (hn : narrow ty v = v') (hf : fits ty v' = true) (hd : decode bytes pc = .ok (.putfield index, 3)) (hp : pc + 3 = pc')
    (K : ∀ T' h', own_S Z y bytes maxL ret p l e R s m args below meth c T' h' (locs ++ [⟨a, Jvm.RoadKit.slotOf Z O n d⟩]) cells slots → Wr h h' a (Jvm.RoadKit.slotOf Z O n d) v' → own_G p e below E (T'.setTop (mkF m pc' Ls st))) : own_G p e below E (T.setTop (mkF m pc Ls (v :: .ref a :: st))) := by
  subst hp
  obtain ⟨T', h', X', e', W', st'⟩ := putFN Y.X Y.x Y.warm Y.own w via Y.eT F EX (Lw.imp id fun q => ⟨q.1, q.2.1, Y.1.2.2.2.2.2.2.2.trans q.2.2⟩) wi hty hn hf (g := mkF m pc Ls (v :: .ref a :: st)) rfl rfl (Y.d hd)
  exact own_st st' (K T' h' ⟨Y.1, X', e'⟩ W')
theorem own_newO (pc' : Nat) (Y : own_S Z y bytes maxL ret p l e R s m args below meth c T h locs cells slots) {C : String} {index n : Nat} (w : (Jvm.Cond.classLink y.cls index C).before a0 Z = true) (wi : (Jvm.Cond.instantiable C n).before a0 Z = true) (wz : (Jvm.Cond.initialized C).before a0 Z = true) (hd : decode bytes pc = .ok (.new index, 3)) (hc : cells + 1 ≤ R.cells) (hl : slots + n ≤ R.slots) (hp : pc + 3 = pc')
    (K : ∀ T' h' a, own_S Z y bytes maxL ret p l e R s m args below meth c T' h' locs (cells + 1) (slots + n) → a = h.size → Ext h h' → Exa Z h' a C → (∀ {O nm d : String} {ty : FieldType}, Laid Z a0 C O nm d → parseFieldDescriptor d = some ty → Fld Z h' a O nm d (defaultValue ty)) → own_G p e below E (T'.setTop (mkF m pc' Ls (.ref a :: st)))) : own_G p e below E (T.setTop (mkF m pc Ls st)) := by
  subst hp
  obtain ⟨T', h', X', e', E', A', D', -, st'⟩ := newO Y.X Y.x Y.warm Y.own w wi wz Y.eT (g := mkF m pc Ls st) rfl (Y.d hd) hc hl
  exact own_st st' (K T' h' _ ⟨Y.1, X', e'⟩ rfl E' A' D')
theorem own_initO (pc' : Nat) (Y : own_S Z y bytes maxL ret p l e R s m args below meth c T h locs cells slots) {idx : Nat} {a : Addr} (w1 : (Jvm.Cond.methodLink y.cls idx Lib.objectInit).before a0 Z = true) (w2 : (Jvm.Cond.instanceMethod Lib.objectInit).before a0 Z = true) (w3 : (Jvm.Cond.code Lib.objectInit ⟨#[0xb1]⟩ 1 none).before a0 Z = true) (hd : decode bytes pc = .ok (.invokespecial idx, 3)) (hLs : Ls.size = maxL) (hf : 1 ≤ R.frames) (hl : (st.map fun v => v.category).sum + 12 ≤ R.locals) (hp : pc + 3 = pc') (K : ∀ T', own_S Z y bytes maxL ret p l e R s m args below meth c T' h locs cells slots → own_G p e below E (T'.setTop (mkF m pc' Ls st))) : own_G p e below E (T.setTop (mkF m pc Ls (.ref a :: st))) := by
  subst hp
  obtain ⟨T', X', e', st'⟩ := initO Y.X Y.x Y.warm Y.own w1 w2 w3 Y.eT (g := mkF m pc Ls (.ref a :: st)) rfl (hLs.trans Y.1.2.2.1.symm) rfl (Y.d hd) hf (W := (st.map fun v => v.category).sum) (by show 2 * 0 + _ ≤ _; omega) hl
  exact own_st st' (K T' ⟨Y.1, X', e'⟩)
theorem own_cast (pc' : Nat) (Y : own_S Z y bytes maxL ret p l e R s m args below meth c T h locs cells slots) {K0 : String} {index : Nat} {a : Addr} (w : (Jvm.Cond.classLink y.cls index K0).before a0 Z = true) (F : Ins Z h a K0 true) (hd : decode bytes pc = .ok (.checkcast index, 3)) (hp : pc + 3 = pc') (K : ∀ T', own_S Z y bytes maxL ret p l e R s m args below meth c T' h locs cells slots → own_G p e below E (T'.setTop (mkF m pc' Ls (.ref a :: st)))) : own_G p e below E (T.setTop (mkF m pc Ls (.ref a :: st))) := by
  subst hp
  obtain ⟨T', X', e', st'⟩ := castY Y.X Y.x Y.warm Y.own w Y.eT F (g := mkF m pc Ls (.ref a :: st)) rfl rfl (Y.d hd)
  exact own_st st' (K T' ⟨Y.1, X', e'⟩)
theorem own_inst (pc' : Nat) (Y : own_S Z y bytes maxL ret p l e R s m args below meth c T h locs cells slots) {K0 : String} {index : Nat} {a : Addr} (w : (Jvm.Cond.classLink y.cls index K0).before a0 Z = true) (F : Ins Z h a K0 true) (hd : decode bytes pc = .ok (.instanceof index, 3)) (hp : pc + 3 = pc') (K : ∀ T', own_S Z y bytes maxL ret p l e R s m args below meth c T' h locs cells slots → own_G p e below E (T'.setTop (mkF m pc' Ls (.int 1 :: st)))) : own_G p e below E (T.setTop (mkF m pc Ls (.ref a :: st))) := by
  subst hp
  obtain ⟨T', X', e', st'⟩ := instY Y.X Y.x Y.warm Y.own w Y.eT F (g := mkF m pc Ls (.ref a :: st)) rfl rfl (Y.d hd)
  exact own_st st' (K T' ⟨Y.1, X', e'⟩)
theorem own_instNull (pc' : Nat) (Y : own_S Z y bytes maxL ret p l e R s m args below meth c T h locs cells slots) {index : Nat} (hd : decode bytes pc = .ok (.instanceof index, 3)) (hp : pc + 3 = pc') (K : own_G p e below E (T.setTop (mkF m pc' Ls (.int 0 :: st)))) : own_G p e below E (T.setTop (mkF m pc Ls (.null :: st))) := by
  subst hp
  exact own_st (fun t k => Y.X.instanceofNull Y.x (g := mkF m pc Ls (.null :: st)) rfl rfl (Y.d hd) t k) K
theorem own_newP (pc' : Nat) (Y : own_S Z y bytes maxL ret p l e R s m args below meth c T h locs cells slots) {aty : ArrayType} (w : (Jvm.Cond.arrayClass (newarray.typeOf aty)).before a0 Z = true) {n : Int32} (cap : Nat) (hd : decode bytes pc = .ok (.newarray aty, 2)) (hn : ¬ n < 0) (hcap : n.toNatClampNeg ≤ cap) (hb : cap * 8 ≤ 536870912) (hc : cells + 1 ≤ R.cells) (hl : slots + cap ≤ R.slots) (hp : pc + 2 = pc')
    (K : ∀ T' h' a kA, own_S Z y bytes maxL ret p l e R s m args below meth c T' h' locs (cells + 1) (slots + cap) → a = h.size → Ext h h' → Arv Z h' a kA (newarray.typeOf aty) n [] (defaultValue (newarray.typeOf aty)) → own_G p e below E (T'.setTop (mkF m pc' Ls (.ref a :: st)))) : own_G p e below E (T.setTop (mkF m pc Ls (.int n :: st))) := by
  subst hp
  obtain ⟨T', h', kA, X', e', E', A', st'⟩ := newP Y.X Y.x Y.warm w Y.eT (g := mkF m pc Ls (.int n :: st)) rfl (Y.d hd) rfl hn (cap := cap) hcap hb hc hl
  exact own_st st' (K T' h' _ kA ⟨Y.1, X', e'⟩ rfl E' (Arv.new A' hn))
theorem own_newR (pc' : Nat) (Y : own_S Z y bytes maxL ret p l e R s m args below meth c T h locs cells slots) {C : String} {index : Nat} (w1 : (Jvm.Cond.classLink y.cls index C).before a0 Z = true) (w2 : (Jvm.Cond.arrayOver (.object C)).before a0 Z = true) {n : Int32} (cap : Nat) (hd : decode bytes pc = .ok (.anewarray index, 3)) (hn : ¬ n < 0) (hcap : n.toNatClampNeg ≤ cap) (hb : cap * 8 ≤ 536870912) (hc : cells + 1 ≤ R.cells) (hl : slots + cap ≤ R.slots) (hp : pc + 3 = pc')
    (K : ∀ T' h' a kA, own_S Z y bytes maxL ret p l e R s m args below meth c T' h' locs (cells + 1) (slots + cap) → a = h.size → Ext h h' → Arv Z h' a kA (.object C) n [] .null → Ovr Z kA C → own_G p e below E (T'.setTop (mkF m pc' Ls (.ref a :: st)))) : own_G p e below E (T.setTop (mkF m pc Ls (.int n :: st))) := by
  subst hp
  obtain ⟨T', h', kA, X', e', E', A', O', st'⟩ := newR Y.X Y.x Y.warm Y.own w1 w2 Y.eT (g := mkF m pc Ls (.int n :: st)) rfl (Y.d hd) rfl hn (cap := cap) hcap hb hc hl
  exact own_st st' (K T' h' _ kA ⟨Y.1, X', e'⟩ rfl E' (Arv.new A' hn) O')
theorem own_stC (pc' : Nat) (Y : own_S Z y bytes maxL ret p l e R s m args below meth c T h locs cells slots) {a : Addr} {kA : ClassId} {n j : Int32} {vs : List Value} {dv : Value} {x : Int32} (A : Arv Z h a kA .char n vs dv) (hd : decode bytes pc = .ok (.castore, 1)) (hj : ¬ j < 0 ∧ j < n) (hp : pc + 1 = pc')
    (K : ∀ T' h', own_S Z y bytes maxL ret p l e R s m args below meth c T' h' (locs ++ [⟨a, j.toNatClampNeg⟩]) cells slots → Wr h h' a j.toNatClampNeg (.int (nar .char x)) → (∀ (i : Nat), j.toNatClampNeg = i → i < vs.length → fits .char (.int (nar .char x)) = true → Arv Z h' a kA .char n (vs.set i (.int (nar .char x))) dv) → own_G p e below E (T'.setTop (mkF m pc' Ls st))) : own_G p e below E (T.setTop (mkF m pc Ls (.int x :: .int j :: .ref a :: st))) := by
  subst hp
  obtain ⟨cl, A1, q1, q2, q3, q4, q5⟩ := A
  obtain ⟨T', h', X', e', W', st'⟩ := stC Y.X Y.x Y.warm Y.eT A1 (j := j) (inb_of q2 hj) (g := mkF m pc Ls (.int x :: .int j :: .ref a :: st)) rfl rfl (Y.d hd)
  exact own_st st' (K T' h' ⟨Y.1, X', e'⟩ W' fun i hi hl hf => Arv.set A1 q1 q2 q3 q4 q5 hf W' i hi hl)
theorem own_stI (pc' : Nat) (Y : own_S Z y bytes maxL ret p l e R s m args below meth c T h locs cells slots) {a : Addr} {kA : ClassId} {n j : Int32} {vs : List Value} {dv : Value} {x : Int32} (A : Arv Z h a kA .int n vs dv) (hd : decode bytes pc = .ok (.iastore, 1)) (hj : ¬ j < 0 ∧ j < n) (hp : pc + 1 = pc')
    (K : ∀ T' h', own_S Z y bytes maxL ret p l e R s m args below meth c T' h' (locs ++ [⟨a, j.toNatClampNeg⟩]) cells slots → Wr h h' a j.toNatClampNeg (.int x) → (∀ (i : Nat), j.toNatClampNeg = i → i < vs.length → fits .int (.int x) = true → Arv Z h' a kA .int n (vs.set i (.int x)) dv) → own_G p e below E (T'.setTop (mkF m pc' Ls st))) : own_G p e below E (T.setTop (mkF m pc Ls (.int x :: .int j :: .ref a :: st))) := by
  subst hp
  obtain ⟨cl, A1, q1, q2, q3, q4, q5⟩ := A
  obtain ⟨T', h', X', e', W', st'⟩ := stI Y.X Y.x Y.warm Y.eT A1 (j := j) (inb_of q2 hj) (g := mkF m pc Ls (.int x :: .int j :: .ref a :: st)) rfl rfl (Y.d hd)
  exact own_st st' (K T' h' ⟨Y.1, X', e'⟩ W' fun i hi hl hf => Arv.set A1 q1 q2 q3 q4 q5 hf W' i hi hl)
theorem own_stB (pc' : Nat) (Y : own_S Z y bytes maxL ret p l e R s m args below meth c T h locs cells slots) {a : Addr} {kA : ClassId} {n j : Int32} {vs : List Value} {dv : Value} {x : Int32} (A : Arv Z h a kA .byte n vs dv) (hd : decode bytes pc = .ok (.bastore, 1)) (hj : ¬ j < 0 ∧ j < n) (hp : pc + 1 = pc')
    (K : ∀ T' h', own_S Z y bytes maxL ret p l e R s m args below meth c T' h' (locs ++ [⟨a, j.toNatClampNeg⟩]) cells slots → Wr h h' a j.toNatClampNeg (.int (nar .byte x)) → (∀ (i : Nat), j.toNatClampNeg = i → i < vs.length → fits .byte (.int (nar .byte x)) = true → Arv Z h' a kA .byte n (vs.set i (.int (nar .byte x))) dv) → own_G p e below E (T'.setTop (mkF m pc' Ls st))) : own_G p e below E (T.setTop (mkF m pc Ls (.int x :: .int j :: .ref a :: st))) := by
  subst hp
  obtain ⟨cl, A1, q1, q2, q3, q4, q5⟩ := A
  obtain ⟨T', h', X', e', W', st'⟩ := stB Y.X Y.x Y.warm Y.eT A1 (j := j) (inb_of q2 hj) (g := mkF m pc Ls (.int x :: .int j :: .ref a :: st)) rfl rfl (Y.d hd)
  exact own_st st' (K T' h' ⟨Y.1, X', e'⟩ W' fun i hi hl hf => Arv.set A1 q1 q2 q3 q4 q5 hf W' i hi hl)
theorem own_stJ (pc' : Nat) (Y : own_S Z y bytes maxL ret p l e R s m args below meth c T h locs cells slots) {a : Addr} {kA : ClassId} {n j : Int32} {vs : List Value} {dv : Value} {x : Int64} (A : Arv Z h a kA .long n vs dv) (hd : decode bytes pc = .ok (.lastore, 1)) (hj : ¬ j < 0 ∧ j < n) (hp : pc + 1 = pc')
    (K : ∀ T' h', own_S Z y bytes maxL ret p l e R s m args below meth c T' h' (locs ++ [⟨a, j.toNatClampNeg⟩]) cells slots → Wr h h' a j.toNatClampNeg (.long x) → (∀ (i : Nat), j.toNatClampNeg = i → i < vs.length → fits .long (.long x) = true → Arv Z h' a kA .long n (vs.set i (.long x)) dv) → own_G p e below E (T'.setTop (mkF m pc' Ls st))) : own_G p e below E (T.setTop (mkF m pc Ls (.long x :: .int j :: .ref a :: st))) := by
  subst hp
  obtain ⟨cl, A1, q1, q2, q3, q4, q5⟩ := A
  obtain ⟨T', h', X', e', W', st'⟩ := stJ Y.X Y.x Y.warm Y.eT A1 (j := j) (inb_of q2 hj) (g := mkF m pc Ls (.long x :: .int j :: .ref a :: st)) rfl rfl (Y.d hd)
  exact own_st st' (K T' h' ⟨Y.1, X', e'⟩ W' fun i hi hl hf => Arv.set A1 q1 q2 q3 q4 q5 hf W' i hi hl)
theorem own_stR (pc' : Nat) (Y : own_S Z y bytes maxL ret p l e R s m args below meth c T h locs cells slots) {a : Addr} {kA : ClassId} {n j : Int32} {vs : List Value} {dv : Value} {v : Value} {ty : FieldType} (A : Arv Z h a kA ty n vs dv) (hty : ty.isReference = true) (F : Sto Z h a v) (hfit : fits ty v = true) (hd : decode bytes pc = .ok (.aastore, 1)) (hj : ¬ j < 0 ∧ j < n) (hp : pc + 1 = pc')
    (K : ∀ T' h', own_S Z y bytes maxL ret p l e R s m args below meth c T' h' (locs ++ [⟨a, j.toNatClampNeg⟩]) cells slots → Wr h h' a j.toNatClampNeg v → (∀ (i : Nat), j.toNatClampNeg = i → i < vs.length → Arv Z h' a kA ty n (vs.set i v) dv) → own_G p e below E (T'.setTop (mkF m pc' Ls st))) : own_G p e below E (T.setTop (mkF m pc Ls (v :: .int j :: .ref a :: st))) := by
  subst hp
  obtain ⟨cl, A1, q1, q2, q3, q4, q5⟩ := A
  obtain ⟨T', h', X', e', W', st'⟩ := stR Y.X Y.x Y.warm Y.eT A1 (j := j) (inb_of q2 hj) hty F (g := mkF m pc Ls (v :: .int j :: .ref a :: st)) rfl rfl (Y.d hd)
  exact own_st st' (K T' h' ⟨Y.1, X', e'⟩ W' fun i hi hl => Arv.set A1 q1 q2 q3 q4 q5 hfit W' i hi hl)
theorem own_caload (pc' : Nat) (Y : own_S Z y bytes maxL ret p l e R s m args below meth c T h locs cells slots) {a : Addr} {kA : ClassId} {n j : Int32} {vs : List Value} {dv : Value} (A : Arv Z h a kA .char n vs dv) {v : Value} (hd : decode bytes pc = .ok (.caload, 1)) (hj : ¬ j < 0 ∧ j < n) (hv : vs.getD j.toNatClampNeg dv = v) (hp : pc + 1 = pc') (K : own_G p e below E (T.setTop (mkF m pc' Ls (v :: st)))) : own_G p e below E (T.setTop (mkF m pc Ls (.int j :: .ref a :: st))) := by
  subst hp
  obtain ⟨cl, A1, q1, q2, q3, q4, q5⟩ := A
  exact own_st (fun t k => Y.X.caload Y.x (j := j) (v := v) (by rw [Y.eT]; exact A1.1) (State.isArrayOf_alike Y.warm.alike A1.2.1) A1.2.2 (inb_of q2 hj) (q4.at (inb_of q2 hj) hv) (g := mkF m pc Ls (.int j :: .ref a :: st)) rfl rfl (Y.d hd) t k) K
theorem own_iaload (pc' : Nat) (Y : own_S Z y bytes maxL ret p l e R s m args below meth c T h locs cells slots) {a : Addr} {kA : ClassId} {n j : Int32} {vs : List Value} {dv : Value} (A : Arv Z h a kA .int n vs dv) {v : Value} (hd : decode bytes pc = .ok (.iaload, 1)) (hj : ¬ j < 0 ∧ j < n) (hv : vs.getD j.toNatClampNeg dv = v) (hp : pc + 1 = pc') (K : own_G p e below E (T.setTop (mkF m pc' Ls (v :: st)))) : own_G p e below E (T.setTop (mkF m pc Ls (.int j :: .ref a :: st))) := by
  subst hp
  obtain ⟨cl, A1, q1, q2, q3, q4, q5⟩ := A
  exact own_st (fun t k => Y.X.iaload Y.x (j := j) (v := v) (by rw [Y.eT]; exact A1.1) (State.isArrayOf_alike Y.warm.alike A1.2.1) A1.2.2 (inb_of q2 hj) (q4.at (inb_of q2 hj) hv) (g := mkF m pc Ls (.int j :: .ref a :: st)) rfl rfl (Y.d hd) t k) K
theorem own_baload (pc' : Nat) (Y : own_S Z y bytes maxL ret p l e R s m args below meth c T h locs cells slots) {a : Addr} {kA : ClassId} {n j : Int32} {vs : List Value} {dv : Value} (A : Arv Z h a kA .byte n vs dv) {v : Value} (hd : decode bytes pc = .ok (.baload, 1)) (hj : ¬ j < 0 ∧ j < n) (hv : vs.getD j.toNatClampNeg dv = v) (hp : pc + 1 = pc') (K : own_G p e below E (T.setTop (mkF m pc' Ls (v :: st)))) : own_G p e below E (T.setTop (mkF m pc Ls (.int j :: .ref a :: st))) := by
  subst hp
  obtain ⟨cl, A1, q1, q2, q3, q4, q5⟩ := A
  exact own_st (fun t k => Y.X.baloadBytes Y.x (j := j) (v := v) (by rw [Y.eT]; exact A1.1) (State.isArrayOf_alike Y.warm.alike A1.2.1) A1.2.2 (inb_of q2 hj) (q4.at (inb_of q2 hj) hv) (g := mkF m pc Ls (.int j :: .ref a :: st)) rfl rfl (Y.d hd) t k) K
theorem own_laload (pc' : Nat) (Y : own_S Z y bytes maxL ret p l e R s m args below meth c T h locs cells slots) {a : Addr} {kA : ClassId} {n j : Int32} {vs : List Value} {dv : Value} (A : Arv Z h a kA .long n vs dv) {v : Value} (hd : decode bytes pc = .ok (.laload, 1)) (hj : ¬ j < 0 ∧ j < n) (hv : vs.getD j.toNatClampNeg dv = v) (hp : pc + 1 = pc') (K : own_G p e below E (T.setTop (mkF m pc' Ls (v :: st)))) : own_G p e below E (T.setTop (mkF m pc Ls (.int j :: .ref a :: st))) := by
  subst hp
  obtain ⟨cl, A1, q1, q2, q3, q4, q5⟩ := A
  exact own_st (fun t k => Y.X.laload Y.x (j := j) (v := v) (by rw [Y.eT]; exact A1.1) (State.isArrayOf_alike Y.warm.alike A1.2.1) A1.2.2 (inb_of q2 hj) (q4.at (inb_of q2 hj) hv) (g := mkF m pc Ls (.int j :: .ref a :: st)) rfl rfl (Y.d hd) t k) K
theorem own_aaload (pc' : Nat) (Y : own_S Z y bytes maxL ret p l e R s m args below meth c T h locs cells slots) {a : Addr} {kA : ClassId} {n j : Int32} {vs : List Value} {dv : Value} {ty : FieldType} (A : Arv Z h a kA ty n vs dv) (hty : ty.isReference = true) {v : Value} (hd : decode bytes pc = .ok (.aaload, 1)) (hj : ¬ j < 0 ∧ j < n) (hv : vs.getD j.toNatClampNeg dv = v) (hp : pc + 1 = pc') (K : own_G p e below E (T.setTop (mkF m pc' Ls (v :: st)))) : own_G p e below E (T.setTop (mkF m pc Ls (.int j :: .ref a :: st))) := by
  subst hp
  obtain ⟨cl, A1, q1, q2, q3, q4, q5⟩ := A
  exact own_st (fun t k => Y.X.aaload Y.x (j := j) (v := v) (by rw [Y.eT]; exact A1.1) (State.isArrayOf_alike Y.warm.alike A1.2.1) hty A1.2.2 (inb_of q2 hj) (q4.at (inb_of q2 hj) hv) (g := mkF m pc Ls (.int j :: .ref a :: st)) rfl rfl (Y.d hd) t k) K
theorem own_alen (pc' : Nat) (Y : own_S Z y bytes maxL ret p l e R s m args below meth c T h locs cells slots) {a : Addr} {kA : ClassId} {n : Int32} {vs : List Value} {dv : Value} {ty : FieldType} (A : Arv Z h a kA ty n vs dv) (hd : decode bytes pc = .ok (.arraylength, 1)) (hp : pc + 1 = pc') (K : own_G p e below E (T.setTop (mkF m pc' Ls (.int n :: st)))) : own_G p e below E (T.setTop (mkF m pc Ls (.ref a :: st))) := by
  subst hp
  obtain ⟨cl, A1, q1, q2, q3, q4, q5⟩ := A
  refine own_st (fun t k => Y.X.arraylength Y.x (by rw [Y.eT]; exact A1.1) (State.isArrayOf_alike Y.warm.alike A1.2.1) (g := mkF m pc Ls (.ref a :: st)) rfl rfl (Y.d hd) t k) ?_
  rw [len_of q2 q3]
  exact K
theorem own_callS (pc' : Nat) (Y : own_S Z y bytes maxL ret p l e R s m args below meth c T h locs cells slots) {yc : MethodName} {bc : ByteArray} {mc : Nat} {rc : Option FieldType} {rm : Room} {index : Nat} {Qc : Option Value → Heap → List Loc → Prop} (argsL rest : List Value) (w1 : (Jvm.Cond.methodLink y.cls index yc).before a0 Z = true) (w2 : (Jvm.Cond.static yc).before a0 Z = true) (w3 : (Jvm.Cond.initialized yc.cls).before a0 Z = true) (w4 : (Jvm.Cond.code yc bc mc rc).before a0 Z = true) (hM : own_M l yc bc mc rc [] rm Z argsL.toArray h Qc) (hd : decode bytes pc = .ok (.invokestatic index, 3)) (hy : (yc.cls ≠ "java/lang/invoke/MethodHandle" ∧ yc.cls ≠ "java/lang/invoke/VarHandle")) (hlen : ∀ sig, parseMethodDescriptor yc.desc = some sig → argsL.length = sig.parameters.length) (hst : st = argsL.reverse ++ rest) (hLs : Ls.size = maxL) (hf : rm.frames + 1 ≤ R.frames) (hl : (rest.map fun v => v.category).sum + (mc + 11) + rm.locals ≤ R.locals) (hc : cells + rm.cells ≤ R.cells) (hs : slots + rm.slots ≤ R.slots) (hp : pc + 3 = pc')
    (K : ∀ v T' h' L, own_S Z y bytes maxL ret p l e R s m args below meth c T' h' (locs ++ L) (cells + rm.cells) (slots + rm.slots) → Qc v h' L → own_G p e below E (T'.setTop (mkF m pc' Ls (v.toList ++ rest)))) : own_G p e below E (T.setTop (mkF m pc Ls st)) := by
  subst hp
  obtain ⟨v, _, ⟨T', L', k', n'⟩, -, X', P', st'⟩ := Jvm.LawKit.callS Y.X Y.x (y := yc) Y.own (mvT Y.warm w1) (mvT Y.warm w2) (mvT Y.warm w3) (mvT Y.warm w4) hy (backOf (W := (rest.map fun v => v.category).sum) hM Y.warm w4 w3 hf hl) (g := mkF m pc Ls st) rfl (hLs.trans Y.1.2.2.1.symm) (argsL := argsL) (rest := rest) hlen hst (by show 2 * 0 + _ ≤ _; omega) (Y.d hd) (fun _ _ => ⟨rfl, Y.eT, hc, hs⟩)
  obtain ⟨Lc, hQ, l1, y1, z1⟩ := P'
  dsimp only [Pt.U, Pt.locs, Pt.cells, Pt.slots] at l1 y1 z1 hQ
  dsimp only [Pt.U, Pt.locs, Pt.cells, Pt.slots] at X' st'
  subst l1 y1 z1
  exact own_st st' (K v T' T'.heap Lc ⟨Y.1, X', rfl⟩ hQ)
theorem own_callI (pc' : Nat) (Y : own_S Z y bytes maxL ret p l e R s m args below meth c T h locs cells slots) {yc : MethodName} {bc : ByteArray} {mc : Nat} {rm : Room} {index : Nat} {Qc : Option Value → Heap → List Loc → Prop} (argsL rest : List Value) {a : Addr} (hini : yc.name = "<init>") (w1 : (Jvm.Cond.methodLink y.cls index yc).before a0 Z = true) (w2 : (Jvm.Cond.instanceMethod yc).before a0 Z = true) (w3 : (Jvm.Cond.initialized yc.cls).before a0 Z = true) (w4 : (Jvm.Cond.code yc bc mc none).before a0 Z = true) (hM : own_M l yc bc mc none [] rm Z (.ref a :: argsL).toArray h Qc) (hd : decode bytes pc = .ok (.invokespecial index, 3)) (hy : (yc.cls ≠ "java/lang/invoke/MethodHandle" ∧ yc.cls ≠ "java/lang/invoke/VarHandle")) (hlen : ∀ sig, parseMethodDescriptor yc.desc = some sig → argsL.length = sig.parameters.length) (hst : st = argsL.reverse ++ .ref a :: rest) (hLs : Ls.size = maxL) (hf : rm.frames + 1 ≤ R.frames) (hl : (rest.map fun v => v.category).sum + (mc + 11) + rm.locals ≤ R.locals) (hc : cells + rm.cells ≤ R.cells) (hs : slots + rm.slots ≤ R.slots) (hp : pc + 3 = pc')
    (K : ∀ v T' h' L, own_S Z y bytes maxL ret p l e R s m args below meth c T' h' (locs ++ L) (cells + rm.cells) (slots + rm.slots) → Qc v h' L → own_G p e below E (T'.setTop (mkF m pc' Ls (v.toList ++ rest)))) : own_G p e below E (T.setTop (mkF m pc Ls st)) := by
  subst hp
  obtain ⟨v, _, ⟨T', L', k', n'⟩, -, X', P', st'⟩ := Y.X.specialBack Y.x (y := yc) hini Y.own (mvT Y.warm w1) (mvT Y.warm w2) (mvT Y.warm w4) hy (backOf (W := (rest.map fun v => v.category).sum) hM Y.warm w4 w3 hf hl) (g := mkF m pc Ls st) rfl (hLs.trans Y.1.2.2.1.symm) (Steps.refl _) (a := a) (argsL := argsL) (rest := rest) hlen hst (by show 2 * 0 + _ ≤ _; omega) (Y.d hd) (fun _ _ => ⟨rfl, Y.eT, hc, hs⟩)
  obtain ⟨Lc, hQ, l1, y1, z1⟩ := P'
  dsimp only [Pt.U, Pt.locs, Pt.cells, Pt.slots] at l1 y1 z1 hQ
  dsimp only [Pt.U, Pt.locs, Pt.cells, Pt.slots] at X' st'
  subst l1 y1 z1
  exact own_st (fun t k => st'.trans k) (K v T' T'.heap Lc ⟨Y.1, X', rfl⟩ hQ)
theorem own_callV (pc' : Nat) (Y : own_S Z y bytes maxL ret p l e R s m args below meth c T h locs cells slots) {yc : MethodName} {bc : ByteArray} {mc : Nat} {rc : Option FieldType} {rm : Room} {index : Nat} {Qc : Option Value → Heap → List Loc → Prop} {yr : MethodName} {C : String} (argsL rest : List Value) {a : Addr} (EX : Exa Z h a C) (w1 : (Jvm.Cond.methodLink y.cls index yr).before a0 Z = true) (wd : (Jvm.Cond.declares yr).before a0 Z = true) (nf : NotFace s yr) (ws : (Jvm.Cond.selects C yr yc).before a0 Z = true) (w2 : (Jvm.Cond.instanceMethod yc).before a0 Z = true) (w3 : (Jvm.Cond.initialized yc.cls).before a0 Z = true) (w4 : (Jvm.Cond.code yc bc mc rc).before a0 Z = true) (hM : own_M l yc bc mc rc [] rm Z (.ref a :: argsL).toArray h Qc) (hd : decode bytes pc = .ok (.invokevirtual index, 3)) (hy : (yr.cls ≠ "java/lang/invoke/MethodHandle" ∧ yr.cls ≠ "java/lang/invoke/VarHandle")) (hlen : ∀ sig, parseMethodDescriptor yr.desc = some sig → argsL.length = sig.parameters.length) (hst : st = argsL.reverse ++ .ref a :: rest) (hLs : Ls.size = maxL) (hf : rm.frames + 1 ≤ R.frames) (hl : (rest.map fun v => v.category).sum + (mc + 11) + rm.locals ≤ R.locals) (hc : cells + rm.cells ≤ R.cells) (hs : slots + rm.slots ≤ R.slots) (hp : pc + 3 = pc')
    (K : ∀ v T' h' L, own_S Z y bytes maxL ret p l e R s m args below meth c T' h' (locs ++ L) (cells + rm.cells) (slots + rm.slots) → Qc v h' L → own_G p e below E (T'.setTop (mkF m pc' Ls (v.toList ++ rest)))) : own_G p e below E (T.setTop (mkF m pc Ls st)) := by
  subst hp
  obtain ⟨cq, kq, qa, qb, qc⟩ := isOf Y.warm Y.eT EX
  obtain ⟨v, _, ⟨T', L', k', n'⟩, -, X', P', st'⟩ := Y.X.virtualBack Y.x (y := yr) (z := yc) Y.own (mvT Y.warm w1) (mvT Y.warm wd) nf (mvT Y.warm ws) (mvT Y.warm w2) hy (backOf (W := (rest.map fun v => v.category).sum) hM Y.warm w4 w3 hf hl) qa qc (g := mkF m pc Ls st) rfl (hLs.trans Y.1.2.2.1.symm) (Steps.refl _) (argsL := argsL) (rest := rest) hlen hst (by show 2 * 0 + _ ≤ _; omega) (Y.d hd) (fun _ _ => ⟨rfl, Y.eT, hc, hs⟩)
  obtain ⟨Lc, hQ, l1, y1, z1⟩ := P'
  dsimp only [Pt.U, Pt.locs, Pt.cells, Pt.slots] at l1 y1 z1 hQ
  dsimp only [Pt.U, Pt.locs, Pt.cells, Pt.slots] at X' st'
  subst l1 y1 z1
  exact own_st (fun t k => st'.trans k) (K v T' T'.heap Lc ⟨Y.1, X', rfl⟩ hQ)
theorem own_callUp (pc' : Nat) (Y : own_S Z y bytes maxL ret p l e R s m args below meth c T h locs cells slots) {yc : MethodName} {bc : ByteArray} {mc : Nat} {rc : Option FieldType} {rm : Room} {index : Nat} {Qc : Option Value → Heap → List Loc → Prop} {yr : MethodName} {C owner : String} (argsL rest : List Value) {a : Addr} (EX : Exa Z h a C) (w1 : (Jvm.Cond.methodLink y.cls index yr).before a0 Z = true) (wm : (Jvm.Cond.sameMethod yr.cls owner yr.name yr.desc).before a0 Z = true) (wd : (Jvm.Cond.declares ⟨owner, yr.name, yr.desc⟩).before a0 Z = true) (ws : (Jvm.Cond.selects C yr yc).before a0 Z = true) (w2 : (Jvm.Cond.instanceMethod yc).before a0 Z = true) (w3 : (Jvm.Cond.initialized yc.cls).before a0 Z = true) (w4 : (Jvm.Cond.code yc bc mc rc).before a0 Z = true) (hM : own_M l yc bc mc rc [] rm Z (.ref a :: argsL).toArray h Qc) (hd : decode bytes pc = .ok (.invokevirtual index, 3)) (hy : owner ≠ "java/lang/invoke/MethodHandle" ∧ owner ≠ "java/lang/invoke/VarHandle") (hlen : ∀ sig, parseMethodDescriptor yr.desc = some sig → argsL.length = sig.parameters.length) (hst : st = argsL.reverse ++ .ref a :: rest) (hLs : Ls.size = maxL) (hf : rm.frames + 1 ≤ R.frames) (hl : (rest.map fun v => v.category).sum + (mc + 11) + rm.locals ≤ R.locals) (hc : cells + rm.cells ≤ R.cells) (hs : slots + rm.slots ≤ R.slots) (hp : pc + 3 = pc')
    (K : ∀ v T' h' L, own_S Z y bytes maxL ret p l e R s m args below meth c T' h' (locs ++ L) (cells + rm.cells) (slots + rm.slots) → Qc v h' L → own_G p e below E (T'.setTop (mkF m pc' Ls (v.toList ++ rest)))) : own_G p e below E (T.setTop (mkF m pc Ls st)) := by
  subst hp
  obtain ⟨cq, kq, qa, qb, qc⟩ := isOf Y.warm Y.eT EX
  obtain ⟨v, _, ⟨T', L', k', n'⟩, -, X', P', st'⟩ := Y.X.virtualBackUp Y.x (x := yr) (y := yc) Y.own (mvT Y.warm w1) (mvT Y.warm wm) (mvT Y.warm wd) hy (mvT Y.warm ws) (mvT Y.warm w2) (backOf (W := (rest.map fun v => v.category).sum) hM Y.warm w4 w3 hf hl) qa qc (g := mkF m pc Ls st) rfl (hLs.trans Y.1.2.2.1.symm) (Steps.refl _) (argsL := argsL) (rest := rest) hlen hst (by show 2 * 0 + _ ≤ _; omega) (Y.d hd) (fun _ _ => ⟨rfl, Y.eT, hc, hs⟩)
  obtain ⟨Lc, hQ, l1, y1, z1⟩ := P'
  dsimp only [Pt.U, Pt.locs, Pt.cells, Pt.slots] at l1 y1 z1 hQ
  dsimp only [Pt.U, Pt.locs, Pt.cells, Pt.slots] at X' st'
  subst l1 y1 z1
  exact own_st (fun t k => st'.trans k) (K v T' T'.heap Lc ⟨Y.1, X', rfl⟩ hQ)
theorem own_natS (pc' : Nat) (Y : own_S Z y bytes maxL ret p l e R s m args below meth c T h locs cells slots) {yc : MethodName} {bc : ByteArray} {mc : Nat} {rc : Option FieldType} {index : Nat} {val : Value} {F : Array Value → Prop} (argsL rest : List Value) (w1 : (Jvm.Cond.methodLink y.cls index yc).before a0 Z = true) (w2 : (Jvm.Cond.static yc).before a0 Z = true) (w3 : (Jvm.Cond.initialized yc.cls).before a0 Z = true) (w4 : (Jvm.Cond.code yc bc mc rc).before a0 Z = true) (hK : (Jvm.Cond.code yc bc mc rc).before args s = true → Back l R p e below s args yc 3 (rest.map fun v => v.category).sum (fun A a' => A.cells ≤ R.cells ∧ A.slots ≤ R.slots ∧ F a') (fun A _ v B => v = some val ∧ B = A)) (hF : F argsL.toArray) (hd : decode bytes pc = .ok (.invokestatic index, 3)) (hy : (yc.cls ≠ "java/lang/invoke/MethodHandle" ∧ yc.cls ≠ "java/lang/invoke/VarHandle")) (hlen : ∀ sig, parseMethodDescriptor yc.desc = some sig → argsL.length = sig.parameters.length) (hst : st = argsL.reverse ++ rest) (hLs : Ls.size = maxL) (hc : cells ≤ R.cells) (hs : slots ≤ R.slots) (hp : pc + 3 = pc') (K : ∀ T', own_S Z y bytes maxL ret p l e R s m args below meth c T' h locs cells slots → own_G p e below E (T'.setTop (mkF m pc' Ls (val :: rest)))) : own_G p e below E (T.setTop (mkF m pc Ls st)) := by
  subst hp
  obtain ⟨T', X', e', st'⟩ := natS Y.X Y.x Y.warm Y.own w1 w2 w3 w4 hy Y.eT hK (g := mkF m pc Ls st) rfl (hLs.trans Y.1.2.2.1.symm) (argsL := argsL) (rest := rest) hlen hst (by show 2 * 0 + _ ≤ _; omega) (Y.d hd) hc hs hF rfl
  exact own_st st' (K T' ⟨Y.1, X', e'⟩)
theorem own_ret (Y : own_S Z y bytes maxL ret p l e R s m args below meth c T h locs cells slots) {w : Value} {t : FieldType} {i : Instr} (hn : narrow t w = w)
    (hi : (i = .ireturn ∧ (t = .int ∨ t = .boolean ∨ t = .byte ∨ t = .char ∨ t = .short) ∧ ∃ z, w = .int z) ∨ (i = .lreturn ∧ t = .long ∧ ∃ z, w = .long z) ∨ (i = .dreturn ∧ t = .double ∧ ∃ z, w = .double z) ∨ (i = .freturn ∧ t = .float ∧ ∃ z, w = .float z) ∨ (i = .areturn ∧ t.isReference = true ∧ w.isRef = true))
    (hret : ret = some t) (hd : decode bytes pc = .ok (i, 1)) (hc : cells ≤ kc) (hs : slots ≤ ks) (hq : Q (some w) h locs) : own_G p e below (own_E s Q kc ks) (T.setTop (mkF m pc Ls (w :: st))) := by
  obtain ⟨⟨hx, hby, hml, hown, hZ, hr0, hlk, hnm⟩, X, eT⟩ := Y
  subst eT
  obtain ⟨fs, hr, hrun, hended, hW, hsame⟩ := X.leave (v := some w) (fun q => by rw [hr0, hret] at q; cases q) hlk
  exact ⟨_, _, retOut X hx (hr0.trans hret) hn hi (hb hby hd) hr, hrun, hended, _, _, rfl, hq, ⟨_, rfl⟩, hW, hsame.mono hc hs⟩
theorem own_retI (Y : own_S Z y bytes maxL ret p l e R s m args below meth c T h locs cells slots) {z : Int32} (hret : ret = some .int) (hd : decode bytes pc = .ok (.ireturn, 1)) (hc : cells ≤ kc) (hs : slots ≤ ks) (hq : Q (some (.int z)) h locs) : own_G p e below (own_E s Q kc ks) (T.setTop (mkF m pc Ls (.int z :: st))) := own_ret Y rfl (Or.inl ⟨rfl, Or.inl rfl, _, rfl⟩) hret hd hc hs hq
theorem own_retL (Y : own_S Z y bytes maxL ret p l e R s m args below meth c T h locs cells slots) {z : Int64} (hret : ret = some .long) (hd : decode bytes pc = .ok (.lreturn, 1)) (hc : cells ≤ kc) (hs : slots ≤ ks) (hq : Q (some (.long z)) h locs) : own_G p e below (own_E s Q kc ks) (T.setTop (mkF m pc Ls (.long z :: st))) := own_ret Y rfl (Or.inr (Or.inl ⟨rfl, rfl, _, rfl⟩)) hret hd hc hs hq
theorem own_retD (Y : own_S Z y bytes maxL ret p l e R s m args below meth c T h locs cells slots) {z : UInt64} (hret : ret = some .double) (hd : decode bytes pc = .ok (.dreturn, 1)) (hc : cells ≤ kc) (hs : slots ≤ ks) (hq : Q (some (.double z)) h locs) : own_G p e below (own_E s Q kc ks) (T.setTop (mkF m pc Ls (.double z :: st))) := own_ret Y rfl (Or.inr (Or.inr (Or.inl ⟨rfl, rfl, _, rfl⟩))) hret hd hc hs hq
theorem own_retA (Y : own_S Z y bytes maxL ret p l e R s m args below meth c T h locs cells slots) {w : Value} {t : FieldType} (hret : ret = some t) (ht : t.isReference = true) (hw : w.isRef = true) (hd : decode bytes pc = .ok (.areturn, 1)) (hc : cells ≤ kc) (hs : slots ≤ ks) (hq : Q (some w) h locs) : own_G p e below (own_E s Q kc ks) (T.setTop (mkF m pc Ls (w :: st))) := own_ret Y (by cases t <;> first | rfl | (cases ht; done)) (Or.inr (Or.inr (Or.inr (Or.inr ⟨rfl, ht, hw⟩)))) hret hd hc hs hq
theorem own_retN (Y : own_S Z y bytes maxL ret p l e R s m args below meth c T h locs cells slots) {z : Int32} {t : FieldType} (hret : ret = some t) (ht : t = .boolean ∨ t = .byte ∨ t = .char ∨ t = .short) (hd : decode bytes pc = .ok (.ireturn, 1)) (hc : cells ≤ kc) (hs : slots ≤ ks) (hq : Q (some (.int (nar t z))) h locs) : own_G p e below (own_E s Q kc ks) (T.setTop (mkF m pc Ls (.int z :: st))) := by
  obtain ⟨⟨hx, hby, hml, hown, hZ, hr0, hlk, hnm⟩, X, eT⟩ := Y
  subst eT
  obtain ⟨fs, hr, hrun, hended, hW, hsame⟩ := X.leave (v := some (.int (nar t z))) (fun q => by rw [hr0, hret] at q; cases q) hlk
  exact ⟨_, _, retN X hx (hr0.trans hret) ht (hb hby hd) hr, hrun, hended, _, _, rfl, hq, ⟨_, rfl⟩, hW, hsame.mono hc hs⟩
theorem own_retV (Y : own_S Z y bytes maxL ret p l e R s m args below meth c T h locs cells slots) (hret : ret = none) (hd : decode bytes pc = .ok (.return_, 1)) (hc : cells ≤ kc) (hs : slots ≤ ks) (hq : Q none h locs) : own_G p e below (own_E s Q kc ks) (T.setTop (mkF m pc Ls [])) := by
  obtain ⟨⟨hx, hby, hml, hown, hZ, hr0, hlk, hnm⟩, X, eT⟩ := Y
  subst eT
  obtain ⟨fs, hr, hrun, hended, hW, hsame⟩ := X.leave (v := none) (fun _ => rfl) hlk
  exact ⟨_, _, X.returnOut hx (hr0.trans hret) (hb hby hd) hr, hrun, hended, _, _, rfl, hq, ⟨_, rfl⟩, hW, hsame.mono hc hs⟩
end Own

theorem own_frs {k : Nat} {locs : List Loc} {a : Addr} {sl : Nat} (N : Fr k locs) (q : k ≤ a) : Fr k (locs ++ [⟨a, sl⟩]) := N.app fun y hy => by cases List.mem_singleton.mp hy; exact q
theorem own_frY {p : Program} {l : Launch} {e : Env} {R : Room} {s : State} {m : MethodId} {args : Array Value} {below : List Frame} {meth : Method} {c : Code} {T : State} {locs : List Loc} {cells slots : Nat} {Z : State} {h : Heap} {y : MethodName} {bytes : ByteArray} {maxL : Nat} {ret : Option FieldType} {k : Nat} {a : Addr} {sl : Nat} (Y : own_S Z y bytes maxL ret p l e R s m args below meth c T h (locs ++ [⟨a, sl⟩]) cells slots) (N : Fr k locs) (q : k ≤ a) : Fr k (locs ++ [⟨a, sl⟩]) := own_frs N q
theorem own_fitR {n : String} {v : Value} (q : v.isRef = true) : narrow (.object n) v = v ∧ fits (.object n) v = true := by cases v <;> first | exact ⟨rfl, rfl⟩ | cases q
theorem own_fitA {t : FieldType} {v : Value} (q : v.isRef = true) : narrow (.array t) v = v ∧ fits (.array t) v = true := by cases v <;> first | exact ⟨rfl, rfl⟩ | cases q
theorem own_keepE {h0 h : Heap} (K : Keep h0 h []) : Ext h0 h := ⟨K.1, fun a c q => K.2.1 a c q nin0⟩
theorem own_keepF {h0 h1 h2 : Heap} {b : Addr} (E : Ext h0 h1) (g : b = h0.size) (K : Keep h1 h2 [b]) : Keep h0 h2 [] := ((Keep.refl h0 []).ext E).trans K (allS (Or.inr (Nat.le_of_eq g.symm)) all0)
theorem own_refCat {v : Value} (q : v.isRef = true) : v.category = 1 := by cases v <;> first | rfl | cases q

theorem own_ord {args : Array Value} {Z : State} {t : Term} {a : Addr} {C n d : String} {k : Int32} (ev : t.eval args Z none [] Z = some (.ref a)) (hx : (Jvm.Cond.eq (Jvm.Term.field t C n d) (Jvm.Term.int k)).value args Z none Z [] = some true) : Fld Z Z.heap a C n d (.int k) := by
  obtain ⟨u, v, e1, e2, k1, k2⟩ := cmp_v (Or.inl hx)
  rw [fld_at ev] at e1
  cases (Term.int_eval k).symm.trans e2
  obtain ⟨z, rfl⟩ := k2
  have q : some (decide (z = k)) = some true := by simpa [Jvm.Cond.value, Term.eval, ev, e1] using hx
  obtain rfl : z = k := of_decide_eq_true (Option.some.inj q)
  exact Fld.start e1

def Qv (u : Option Value) (h0 : Heap) (v : Option Value) (h : Heap) (L : List Loc) : Prop := h0 = h ∧ L = [] ∧ v = u
theorem own_a255 (b : Int32) : (b &&& 255).toUInt32.toNat = b.toUInt32.toNat % 256 := Jvm.ShelfD.StrBits.and255 b
theorem own_b8 (b : Int32) : b.toInt8.toInt32.toUInt32.toNat % 256 = b.toUInt32.toNat % 256 := by
  show ((b.toBitVec.signExtend 8).signExtend 32).toNat % 256 = b.toBitVec.toNat % 256
  have e : (((b.toBitVec.signExtend 8).signExtend 32).setWidth 8) = b.toBitVec.setWidth 8 := by
    rw [BitVec.signExtend_eq_setWidth_of_le b.toBitVec (by decide)]
    ext i hi
    simp [BitVec.getLsbD_signExtend, hi]
    omega
  have := congrArg BitVec.toNat e
  simpa [BitVec.toNat_setWidth] using this
theorem own_ch {c : Int32} (h : c.toUInt32.toUInt16.toUInt32.toInt32 = c) : c.toUInt32.toNat < 65536 := by
  have := congrArg (fun z => z.toUInt32.toNat) h
  simp at this
  omega
theorem own_i2cN (x : Int32) : x.toUInt32.toUInt16.toUInt32.toInt32.toUInt32.toNat = x.toUInt32.toNat % 65536 := by
  simp
theorem own_inj {a b : Int32} (h : a.toUInt32.toNat = b.toUInt32.toNat) : a = b := by
  have := UInt32.toNat_inj.mp h
  exact (Int32.toInt32_toUInt32 a).symm.trans ((congrArg UInt32.toInt32 this).trans (Int32.toInt32_toUInt32 b))
theorem own_pos {c : Int32} (h : c.toUInt32.toNat < 65536) : c.toInt = c.toUInt32.toNat := by
  show c.toBitVec.toInt = c.toBitVec.toNat
  have h' : c.toBitVec.toNat < 65536 := h
  rw [BitVec.toInt_eq_toNat_cond, if_pos (by omega)]
theorem own_lat {c : Int32} (h : c.toUInt32.toUInt16.toUInt32.toInt32 = c) (h1 : ¬ (255 : Int32) < c) : ((c.toInt8.toInt32.toInt8.toInt32 &&& 255).toUInt32.toUInt16.toUInt32.toInt32).toUInt32.toUInt16.toUInt32.toInt32 = c := by
  have hc := own_ch h
  have hp := own_pos hc
  rw [Int32.lt_iff_toInt_lt] at h1
  have h2 : ¬ (255 : Int) < c.toInt := h1
  apply own_inj
  rw [own_i2cN, own_i2cN, own_a255, own_b8, own_b8]
  omega
theorem own_shr (c : Int32) (h : c.toUInt32.toNat < 65536) : (c >>> ((8 : Int32) &&& 31)).toUInt32.toNat = c.toUInt32.toNat / 256 := by
  show (c.toBitVec.sshiftRight' 8#32).toNat = c.toBitVec.toNat / 256
  have h' : c.toBitVec.toNat < 65536 := h
  have hm : c.toBitVec.msb = false := by rw [BitVec.msb_eq_decide]; simp; omega
  rw [BitVec.sshiftRight_eq', BitVec.sshiftRight_eq_of_msb_false hm]
  simp [Nat.shiftRight_eq_div_pow]
theorem own_shr0 (c : Int32) : (c >>> ((0 : Int32) &&& 31)).toUInt32.toNat = c.toUInt32.toNat := by
  show (c.toBitVec.sshiftRight' 0#32).toNat = c.toBitVec.toNat
  simp
theorem own_shl (c : Int32) (h : c.toUInt32.toNat < 256) : (c <<< ((8 : Int32) &&& 31)).toUInt32.toNat = c.toUInt32.toNat * 256 := by
  show (c.toBitVec <<< 8#32).toNat = c.toBitVec.toNat * 256
  have h' : c.toBitVec.toNat < 256 := h
  simp [BitVec.toNat_shiftLeft, Nat.shiftLeft_eq]
  omega
theorem own_shl0 (c : Int32) : (c <<< ((0 : Int32) &&& 31)).toUInt32.toNat = c.toUInt32.toNat := by
  show (c.toBitVec <<< 0#32).toNat = c.toBitVec.toNat
  simp
theorem own_or8 {a b : Nat} (ha : a < 256) : a ||| b * 256 = b * 256 + a := by
  have := Nat.shiftLeft_add_eq_or_of_lt (b := a) (i := 8) ha b
  rw [Nat.shiftLeft_eq] at this
  rw [Nat.or_comm]
  exact this.symm
theorem own_u16 {c : Int32} (h : c.toUInt32.toUInt16.toUInt32.toInt32 = c) :
    ((((c >>> ((0 : Int32) &&& 31)).toInt8.toInt32.toInt8.toInt32 &&& 255) <<< ((0 : Int32) &&& 31) ||| ((c >>> ((8 : Int32) &&& 31)).toInt8.toInt32.toInt8.toInt32 &&& 255) <<< ((8 : Int32) &&& 31)).toUInt32.toUInt16.toUInt32.toInt32).toUInt32.toUInt16.toUInt32.toInt32 = c := by
  have hc := own_ch h
  apply own_inj
  rw [own_i2cN, own_i2cN, Int32.toUInt32_or, UInt32.toNat_or, own_shl0, own_shl _ (by rw [own_a255]; omega), own_a255, own_a255, own_b8, own_b8, own_b8, own_b8, own_shr0, own_shr _ hc, own_or8 (by omega)]
  omega
theorem own_nar2 (x : Int32) : x.toUInt32.toUInt16.toUInt32.toInt32.toUInt32.toUInt16.toUInt32.toInt32 = x.toUInt32.toUInt16.toUInt32.toInt32 := by
  apply own_inj; rw [own_i2cN, own_i2cN]; omega

def Dg (c : Int32) : Prop := ¬ c < 48 ∧ ¬ 57 < c
instance (c : Int32) : Decidable (Dg c) := by unfold Dg; infer_instance
def Sg (c : Int32) : Prop := c = 45 ∨ c = 43
instance (c : Int32) : Decidable (Sg c) := by unfold Sg; infer_instance
def Mk (c : Int32) : Prop := c = 101 ∨ c = 69
instance (c : Int32) : Decidable (Mk c) := by unfold Mk; infer_instance
def upd (ch : Nat → Int32) (k : Nat) (c : Int32) : Nat → Int32 := fun i => if i = k then c else ch i
def app (ch : Nat → Int32) : Nat → List Int32 → (Nat → Int32)
  | _, [] => ch
  | k, c :: cs => app (upd ch k c) (k + 1) cs
/-- the list l stands in ch from i on -/
def At (ch : Nat → Int32) (i : Nat) (l : List Int32) : Prop := ∀ j (h : j < l.length), ch (i + j) = l[j]
theorem app_lt (ch : Nat → Int32) (l : List Int32) : ∀ (k i : Nat), i < k → app ch k l i = ch i := by
  induction l generalizing ch with
  | nil => intro k i _; rfl
  | cons c cs ih => intro k i h; show app (upd ch k c) (k + 1) cs i = ch i; rw [ih _ _ _ (by omega)]; simp [upd]; omega
theorem app_at (ch : Nat → Int32) (l : List Int32) : ∀ (k : Nat), At (app ch k l) k l := by
  induction l generalizing ch with
  | nil => intro k j h; cases h
  | cons c cs ih =>
    intro k j h
    show app (upd ch k c) (k + 1) cs (k + j) = _
    cases j with
    | zero => rw [app_lt _ _ _ _ (by omega)]; simp [upd]
    | succ j => have := ih (upd ch k c) (k + 1) j (by simpa using h); rw [show k + 1 + j = k + (j + 1) by omega] at this; simpa using this
theorem app_app (ch : Nat → Int32) (l m : List Int32) : ∀ (k n : Nat), n = k + l.length → app (app ch k l) n m = app ch k (l ++ m) := by
  induction l generalizing ch with
  | nil => intro k n h; simp at h; subst h; rfl
  | cons c cs ih => intro k n h; exact ih (upd ch k c) (k + 1) n (by simp at h; omega)
theorem At.left {ch : Nat → Int32} {i : Nat} {l m : List Int32} (h : At ch i (l ++ m)) : At ch i l := fun j hj => by
  have := h j (by simp; omega); rw [this]; simp [List.getElem_append_left hj]
theorem At.right {ch : Nat → Int32} {i : Nat} {l m : List Int32} (h : At ch i (l ++ m)) : At ch (i + l.length) m := fun j hj => by
  have := h (l.length + j) (by simp; omega); rw [Nat.add_assoc, this]; simp
theorem At.congr {ch ch' : Nat → Int32} {i : Nat} {l : List Int32} (h : At ch i l) (e : ∀ j, j < l.length → ch' (i + j) = ch (i + j)) : At ch' i l := fun j hj => (e j hj).trans (h j hj)
/-- the number before the mark -/
def scan (ch : Nat → Int32) : Nat → Nat → Nat → Nat → Bool
  | _, 0, f, p => decide (0 < f ∧ p ≤ 1)
  | i, n + 1, f, p => if Dg (ch i) then scan ch (i + 1) n (f + 1) p else if ch i = 46 then scan ch (i + 1) n f (p + 1) else false
def scanL : List Int32 → Nat → Nat → Bool
  | [], f, p => decide (0 < f ∧ p ≤ 1)
  | c :: cs, f, p => if Dg c then scanL cs (f + 1) p else if c = 46 then scanL cs f (p + 1) else false
theorem scan_L (ch : Nat → Int32) (l : List Int32) : ∀ (i f p : Nat), At ch i l → scan ch i l.length f p = scanL l f p := by
  induction l with
  | nil => intro i f p _; rfl
  | cons c cs ih =>
    intro i f p h
    have h0 : ch i = c := h 0 (by simp)
    have h1 : At ch (i + 1) cs := fun j hj => by have := h (j + 1) (by simpa using hj); rw [show i + (j + 1) = i + 1 + j by omega] at this; simpa using this
    show (if Dg (ch i) then scan ch (i + 1) cs.length (f + 1) p else if ch i = 46 then scan ch (i + 1) cs.length f (p + 1) else false) = _
    rw [ih _ _ _ h1, ih _ _ _ h1, h0]; rfl
/-- is there a number in ch from s to m? -/
def Num (ch : Nat → Int32) (s m : Nat) : Bool := if s < m ∧ Sg (ch s) then scan ch (s + 1) (m - (s + 1)) 0 0 else scan ch s (m - s) 0 0
def numL : List Int32 → Bool
  | [] => scanL [] 0 0
  | c :: cs => if Sg c then scanL cs 0 0 else scanL (c :: cs) 0 0
theorem num_L (ch : Nat → Int32) (l : List Int32) (s : Nat) (h : At ch s l) : Num ch s (s + l.length) = numL l := by
  cases l with
  | nil => simp only [Num, numL, List.length_nil, Nat.add_zero]; rw [if_neg (by omega), Nat.sub_self]; rfl
  | cons c cs =>
    have h0 : ch s = c := h 0 (by simp)
    have h1 : At ch (s + 1) cs := fun j hj => by have := h (j + 1) (by simpa using hj); rw [show s + (j + 1) = s + 1 + j by omega] at this; simpa using this
    simp only [Num, numL, List.length_cons]
    have hl : s < s + (cs.length + 1) := by omega
    by_cases q : Sg c
    · rw [if_pos ⟨hl, h0 ▸ q⟩, if_pos q, show s + (cs.length + 1) - (s + 1) = cs.length by omega]; exact scan_L _ _ _ _ _ h1
    · rw [if_neg (fun z => q (h0 ▸ z.2)), if_neg q, show s + (cs.length + 1) - s = (c :: cs).length by simp]; exact scan_L _ _ _ _ _ h
/-- an exponent ends at d -/
def IsE (ch : Nat → Int32) (s d : Nat) : Prop := ∃ m, s ≤ m ∧ Mk (ch m) ∧ (d = m + 1 ∨ (d = m + 2 ∧ Sg (ch (m + 1)))) ∧ Num ch s m = true
/-- the value of n digits from i on -/
def val (ch : Nat → Int32) (i : Nat) : Nat → Nat
  | 0 => 0
  | n + 1 => val ch i n * 10 + ((ch (i + n)).toUInt32.toNat - 48)
theorem val_le (ch : Nat → Int32) (i n : Nat) : ∀ k, val ch i n ≤ val ch i (n + k) := by
  intro k; induction k with
  | zero => exact Nat.le_refl _
  | succ k ih => show _ ≤ val ch i (n + k) * 10 + _; omega
def dgc (vn j : Nat) : Int32 := Int32.ofNat (48 + vn / 10 ^ j % 10)
theorem dgc_nat (vn j : Nat) : (dgc vn j).toUInt32.toNat = 48 + vn / 10 ^ j % 10 := by
  show (BitVec.ofNat 32 _).toNat = _
  rw [BitVec.toNat_ofNat]
  have := Nat.mod_lt (vn / 10 ^ j) (show 0 < 10 by decide)
  omega
theorem val_dg (ch : Nat → Int32) (i w vn : Nat) (h : ∀ n, n < w → ch (i + n) = dgc vn (w - 1 - n)) (hv : vn < 10 ^ w) : ∀ n, n ≤ w → val ch i n = vn / 10 ^ (w - n) := by
  intro n; induction n with
  | zero => intro _; show 0 = _; rw [Nat.sub_zero, Nat.div_eq_of_lt hv]
  | succ n ih =>
    intro hn
    show val ch i n * 10 + ((ch (i + n)).toUInt32.toNat - 48) = _
    rw [ih (by omega), h n (by omega), dgc_nat]
    have e : w - n = (w - (n + 1)) + 1 := by omega
    have e2 : w - 1 - n = w - (n + 1) := by omega
    rw [e, e2, Nat.pow_succ, ← Nat.div_div_eq_div_mul]
    omega
theorem dgc_dg (vn j : Nat) : Dg (dgc vn j) := by
  have h : ∀ t : Fin 10, Dg (Int32.ofNat (48 + t.1)) := by decide
  exact h ⟨vn / 10 ^ j % 10, Nat.mod_lt _ (by decide)⟩
/-- one call of dig -/
def stepD (ch : Nat → Int32) (e w vn j : Nat) : Nat → Int32 := if j < w then upd ch (e - 1 - j) (dgc vn j) else ch
def digs (ch : Nat → Int32) (e w vn : Nat) : Nat → (Nat → Int32)
  | 0 => ch
  | n + 1 => stepD (digs ch e w vn n) e w vn n
theorem digs_spec (ch : Nat → Int32) (e w vn : Nat) (hw : w ≤ e) : ∀ n i, i < e → digs ch e w vn n i = if e - 1 - i < n ∧ e - 1 - i < w then dgc vn (e - 1 - i) else ch i := by
  intro n; induction n with
  | zero => intro i _; rw [if_neg (by omega)]; rfl
  | succ n ih =>
    intro i hi
    show stepD (digs ch e w vn n) e w vn n i = _
    unfold stepD
    by_cases q : n < w
    · rw [if_pos q]; unfold upd
      by_cases r : i = e - 1 - n
      · subst r; rw [if_pos rfl, if_pos (by omega)]; rw [show e - 1 - (e - 1 - n) = n by omega]
      · rw [if_neg r, ih i hi]
        by_cases u : e - 1 - i < n ∧ e - 1 - i < w
        · rw [if_pos u, if_pos (by omega)]
        · rw [if_neg u, if_neg (by omega)]
    · rw [if_neg q, ih i hi]
      by_cases u : e - 1 - i < n ∧ e - 1 - i < w
      · rw [if_pos u, if_pos (by omega)]
      · rw [if_neg u, if_neg (by omega)]
/-- the text -/
def msL (ms : Int32) : List Int32 := if ms = 1 then [45] else if ms = 2 then [43] else if ms = 3 then [45, 43] else []
def mkL (mk m1 m2 x : Int32) : List Int32 := if mk = 1 then [m1] else if mk = 2 then [m1, 46] else if mk = 3 then [46, m1] else if mk = 4 then [m1, 46, m2] else if mk = 5 then [46] else if mk = 6 then [m1, 46, m2, 46] else if mk = 7 then [m1, x, m2] else []
def mmL (mm q : Int32) : List Int32 := if mm = 0 then [101] else if mm = 1 then [69] else if mm = 2 then [q] else []
def esL (es : Int32) : List Int32 := if es = 1 then [45] else if es = 2 then [43] else if es = 3 then [43, 45] else []
theorem sg_dg {c : Int32} (h : Dg c) : ¬ Sg c := by rintro (rfl | rfl) <;> revert h <;> decide
theorem mk_dg {c : Int32} (h : Dg c) : ¬ Mk c := by rintro (rfl | rfl) <;> revert h <;> decide
theorem mk_sg {c : Int32} (h : Mk c) : ¬ Sg c := by rintro (rfl | rfl) <;> revert h <;> decide
theorem numL_eq {ms mk m1 m2 x : Int32} (hms : ms = 0 ∨ ms = 1 ∨ ms = 2 ∨ ms = 3) (hmk : mk = 0 ∨ mk = 1 ∨ mk = 2 ∨ mk = 3 ∨ mk = 4 ∨ mk = 5 ∨ mk = 6 ∨ mk = 7) (h1 : Dg m1) (h2 : Dg m2) (hx : ¬ Dg x ∧ ¬ x = 46 ∧ ¬ Mk x) :
    numL (msL ms ++ mkL mk m1 m2 x) = decide (¬ ms = 3 ∧ ¬ mk < 1 ∧ ¬ 4 < mk) := by
  have a1 : ¬ Sg m1 := sg_dg h1
  have d46 : ¬ Dg 46 := by decide
  have d43 : ¬ Dg 43 := by decide
  have s46 : ¬ Sg 46 := by decide
  have s45 : Sg 45 := by decide
  have s43 : Sg 43 := by decide
  obtain ⟨x1, x2, -⟩ := hx
  rcases hms with rfl | rfl | rfl | rfl <;> rcases hmk with rfl | rfl | rfl | rfl | rfl | rfl | rfl | rfl <;>
    simp [msL, mkL, numL, scanL, a1, h1, h2, x1, x2, d46, d43, s46, s45, s43]
theorem msL_sub {ms : Int32} : ∀ c ∈ msL ms, c = 45 ∨ c = 43 := by
  intro c h; unfold msL at h; split at h <;> (try split at h) <;> (try split at h) <;> simp_all
theorem esL_sub {es : Int32} : ∀ c ∈ esL es, c = 45 ∨ c = 43 := by
  intro c h; unfold esL at h
  repeat' split at h
  all_goals simp at h
  all_goals first | (rcases h with rfl | rfl <;> simp) | (subst h; simp)
theorem mkL_sub {mk m1 m2 x : Int32} : ∀ c ∈ mkL mk m1 m2 x, c = m1 ∨ c = 46 ∨ c = m2 ∨ c = x := by
  intro c h; unfold mkL at h
  repeat' split at h
  all_goals simp at h
  all_goals first | (rcases h with rfl | rfl | rfl | rfl <;> simp) | (rcases h with rfl | rfl | rfl <;> simp) | (rcases h with rfl | rfl <;> simp) | (subst h; simp)
def Form (ms mk mm es q : Int32) : Prop := (¬ mm = 3 ∧ (¬ mm = 2 ∨ q = 101 ∨ q = 69)) ∧ (¬ ms = 3 ∧ ¬ mk < 1 ∧ ¬ 4 < mk) ∧ ¬ es = 3
theorem run_at {ch : Nat → Int32} {s p e i : Nat} (hsp : s < p) (hpe : p ≤ e) (hs : s ≤ i) (hi : i ≤ e) (hr : ∀ j, i ≤ j → j < e → Dg (ch j)) (hst : i = s ∨ ¬ Dg (ch (i - 1))) (hd : ∀ j, p ≤ j → j < e → Dg (ch j)) (hn : ¬ Dg (ch (p - 1))) : i = p := by
  by_cases h1 : i < p
  · exact absurd (hr (p - 1) (by omega) (by omega)) hn
  · by_cases h2 : p < i
    · rcases hst with h | h
      · omega
      · exact absurd (hd (i - 1) (by omega) (by omega)) h
    · omega
theorem marks {mm q : Int32} (hmm : mm = 0 ∨ mm = 1 ∨ mm = 2 ∨ mm = 3) (h : ¬ mm = 3 ∧ (¬ mm = 2 ∨ q = 101 ∨ q = 69)) : ∃ c, mmL mm q = [c] ∧ Mk c := by
  rcases hmm with rfl | rfl | rfl | rfl
  · exact ⟨101, rfl, by decide⟩
  · exact ⟨69, rfl, by decide⟩
  · refine ⟨q, rfl, ?_⟩
    rcases h.2 with h | rfl | rfl
    · exact absurd rfl h
    · decide
    · decide
  · exact absurd rfl h.1
theorem nomarks {mm q : Int32} (hmm : mm = 0 ∨ mm = 1 ∨ mm = 2 ∨ mm = 3) (h : ¬ (¬ mm = 3 ∧ (¬ mm = 2 ∨ q = 101 ∨ q = 69))) : ∀ c ∈ mmL mm q, ¬ Mk c := by
  rcases hmm with rfl | rfl | rfl | rfl
  · exact absurd ⟨by decide, Or.inl (by decide)⟩ h
  · exact absurd ⟨by decide, Or.inl (by decide)⟩ h
  · intro c hc; have : c = q := by simpa [mmL] using hc
    subst this; intro hm; exact h ⟨by decide, Or.inr hm⟩
  · intro c hc; simp [mmL] at hc
theorem resT {ch : Nat → Int32} {s p e i w vn : Nat} {ms mk mm es q m1 m2 x r : Int32} (hms : ms = 0 ∨ ms = 1 ∨ ms = 2 ∨ ms = 3) (hmk : mk = 0 ∨ mk = 1 ∨ mk = 2 ∨ mk = 3 ∨ mk = 4 ∨ mk = 5 ∨ mk = 6 ∨ mk = 7) (hmm : mm = 0 ∨ mm = 1 ∨ mm = 2 ∨ mm = 3) (hes : es = 0 ∨ es = 1 ∨ es = 2 ∨ es = 3)
    (h1 : Dg m1) (h2 : Dg m2) (hx : ¬ Dg x ∧ ¬ x = 46 ∧ ¬ Mk x) (hF : At ch s (msL ms ++ (mkL mk m1 m2 x ++ (mmL mm q ++ esL es)))) (hp : p = s + (msL ms ++ (mkL mk m1 m2 x ++ (mmL mm q ++ esL es))).length) (he : e = p + w)
    (hd : ∀ n, n < w → ch (p + n) = dgc vn (w - 1 - n)) (hv : vn < 10 ^ w) (hs : s ≤ i) (hi : i ≤ e) (hrun : ∀ j, i ≤ j → j < e → Dg (ch j)) (hst : i = s ∨ ¬ Dg (ch (i - 1)))
    (hr : (1000000000 < val ch i (e - i) ∧ IsE ch s i → r = 0) ∧ (¬ (1000000000 < val ch i (e - i) ∧ IsE ch s i) → r = 1)) : (1000000000 < vn ∧ Form ms mk mm es q → r = 0) ∧ (¬ (1000000000 < vn ∧ Form ms mk mm es q) → r = 1) := by
  have hdig : ∀ j, p ≤ j → j < e → Dg (ch j) := fun j a b => by
    have := hd (j - p) (by omega); rw [show p + (j - p) = j by omega] at this; rw [this]; exact dgc_dg _ _
  -- the marked text
  by_cases hM : ¬ mm = 3 ∧ (¬ mm = 2 ∨ q = 101 ∨ q = 69)
  · obtain ⟨c, hc, hmc⟩ := marks hmm hM
    rw [hc] at hF hp
    have hAB : At ch s (msL ms ++ mkL mk m1 m2 x) := by rw [← List.append_assoc] at hF; exact hF.left
    have hR : At ch (s + (msL ms ++ mkL mk m1 m2 x).length) ([c] ++ esL es) := by rw [← List.append_assoc] at hF; exact hF.right
    have hp' : p = s + (msL ms ++ mkL mk m1 m2 x).length + (1 + (esL es).length) := by rw [hp]; simp; omega
    have hN := num_L ch _ s hAB
    rw [numL_eq hms hmk h1 h2 hx] at hN
    generalize hmm0 : s + (msL ms ++ mkL mk m1 m2 x).length = M at *
    have hsM : s ≤ M := by omega
    have hcM : ch M = c := by have := hR 0 (by simp); simpa using this
    -- the last sign before the digits is no digit
    have hlast : ¬ Dg (ch (p - 1)) ∧ ∀ m, (p = m + 1 ∨ (p = m + 2 ∧ Sg (ch (m + 1)))) → Mk (ch m) → (¬ es = 3 ∧ m = M) := by
      rcases hes with rfl | rfl | rfl | rfl
      · have hp0 : p = M + 1 := by rw [hp']; simp [esL]
        refine ⟨?_, fun m hm hk => ⟨by decide, ?_⟩⟩
        · rw [hp0, Nat.add_sub_cancel, hcM]; exact fun z => mk_dg z hmc
        · rcases hm with hm | ⟨hm, hs'⟩
          · omega
          · have : m + 1 = M := by omega
            rw [this, hcM] at hs'; exact absurd hs' (mk_sg hmc)
      · have hp0 : p = M + 2 := by rw [hp']; simp [esL]
        have hc1 : ch (M + 1) = 45 := by have := hR 1 (by simp [esL]); simpa [esL] using this
        refine ⟨?_, fun m hm hk => ⟨by decide, ?_⟩⟩
        · rw [hp0, show M + 2 - 1 = M + 1 by omega, hc1]; decide
        · rcases hm with hm | ⟨hm, hs'⟩
          · have : m = M + 1 := by omega
            rw [this, hc1] at hk; exact absurd hk (by decide)
          · omega
      · have hp0 : p = M + 2 := by rw [hp']; simp [esL]
        have hc1 : ch (M + 1) = 43 := by have := hR 1 (by simp [esL]); simpa [esL] using this
        refine ⟨?_, fun m hm hk => ⟨by decide, ?_⟩⟩
        · rw [hp0, show M + 2 - 1 = M + 1 by omega, hc1]; decide
        · rcases hm with hm | ⟨hm, hs'⟩
          · have : m = M + 1 := by omega
            rw [this, hc1] at hk; exact absurd hk (by decide)
          · omega
      · have hp0 : p = M + 3 := by rw [hp']; simp [esL]
        have hc1 : ch (M + 1) = 43 := by have := hR 1 (by simp [esL]); simpa [esL] using this
        have hc2 : ch (M + 2) = 45 := by have := hR 2 (by simp [esL]); simpa [esL] using this
        refine ⟨?_, fun m hm hk => ?_⟩
        · rw [hp0, show M + 3 - 1 = M + 2 by omega, hc2]; decide
        · rcases hm with hm | ⟨hm, hs'⟩
          · have : m = M + 2 := by omega
            rw [this, hc2] at hk; exact absurd hk (by decide)
          · have : m = M + 1 := by omega
            rw [this, hc1] at hk; exact absurd hk (by decide)
    have hip : i = p := run_at (by omega) (by omega) hs hi hrun hst hdig hlast.1
    subst hip
    have hval : val ch i (e - i) = vn := by
      rw [he, show i + w - i = w by omega, val_dg ch i w vn hd hv w (Nat.le_refl _), Nat.sub_self]; simp
    rw [hval] at hr
    have hE : IsE ch s i ↔ Form ms mk mm es q := by
      constructor
      · rintro ⟨m, a, b, cc, d⟩
        obtain ⟨e1, e2⟩ := hlast.2 m cc b
        rw [e2, hN] at d
        exact ⟨hM, of_decide_eq_true d, e1⟩
      · rintro ⟨-, a, b⟩
        refine ⟨M, hsM, by rw [hcM]; exact hmc, ?_, by rw [hN]; exact decide_eq_true a⟩
        rcases hes with rfl | rfl | rfl | rfl
        · exact Or.inl (by rw [hp']; simp [esL])
        · exact Or.inr ⟨by rw [hp']; simp [esL], by have := hR 1 (by simp [esL]); rw [show ch (M + 1) = 45 by simpa [esL] using this]; decide⟩
        · exact Or.inr ⟨by rw [hp']; simp [esL], by have := hR 1 (by simp [esL]); rw [show ch (M + 1) = 43 by simpa [esL] using this]; decide⟩
        · exact absurd rfl b
    exact ⟨fun z => hr.1 ⟨z.1, hE.mpr z.2⟩, fun z => hr.2 fun u => z ⟨u.1, hE.mp u.2⟩⟩
  · have hF' : ¬ (1000000000 < vn ∧ Form ms mk mm es q) := fun z => hM z.2.1
    refine ⟨fun z => absurd z hF', fun _ => hr.2 ?_⟩
    rintro ⟨-, m, a, b, cc, -⟩
    have hme : m < e := by omega
    by_cases hmp : m < p
    · have := hF (m - s) (by omega)
      rw [show s + (m - s) = m by omega] at this
      have hmem : ch m ∈ (msL ms ++ (mkL mk m1 m2 x ++ (mmL mm q ++ esL es))) := by rw [this]; exact List.getElem_mem _
      rw [List.mem_append, List.mem_append, List.mem_append] at hmem
      rcases hmem with h | h | h | h
      · rcases msL_sub _ h with h | h <;> (rw [h] at b; exact absurd b (by decide))
      · rcases mkL_sub _ h with h | h | h | h
        · rw [h] at b; exact mk_dg h1 b
        · rw [h] at b; exact absurd b (by decide)
        · rw [h] at b; exact mk_dg h2 b
        · rw [h] at b; exact hx.2.2 b
      · exact nomarks hmm hM _ h b
      · rcases esL_sub _ h with h | h <;> (rw [h] at b; exact absurd b (by decide))
    · exact mk_dg (hdig m (by omega) hme) b

theorem own_oInt {k : Nat} (h : k < 2 ^ 31) : (Int32.ofNat k).toInt = k := by
  show (BitVec.ofNat 32 k).toInt = k
  rw [BitVec.toInt_eq_toNat_cond, BitVec.toNat_ofNat]
  have : k % 2 ^ 32 = k := by omega
  rw [this, if_pos (by omega)]
theorem own_oadd (k : Nat) : Int32.ofNat k + (1 : Int32) = Int32.ofNat (k + 1) := by
  rw [Int32.ofNat_add]; rfl
theorem own_osub {k : Nat} (h : 1 ≤ k) : Int32.ofNat k - (1 : Int32) = Int32.ofNat (k - 1) := by
  have e : k = (k - 1) + 1 := by omega
  rw [e, ← own_oadd, Int32.add_sub_cancel]; rfl
theorem own_oaddm {k : Nat} (h : 1 ≤ k) : Int32.ofNat k + (-1 : Int32) = Int32.ofNat (k - 1) := by
  rw [← own_osub h, Int32.sub_eq_add_neg]
theorem own_olt {a b : Nat} (ha : a < 2 ^ 31) (hb : b < 2 ^ 31) : Int32.ofNat a < Int32.ofNat b ↔ a < b := by
  rw [Int32.lt_iff_toInt_lt, own_oInt ha, own_oInt hb]; omega
theorem own_oclamp {k : Nat} (h : k < 2 ^ 31) : (Int32.ofNat k).toNatClampNeg = k := by
  show (Int32.ofNat k).toInt.toNat = k
  rw [own_oInt h]; rfl
theorem own_inR {k : Nat} (h : k < 28) : ¬ Int32.ofNat k < 0 ∧ Int32.ofNat k < (28 : Int32) := by
  constructor
  · exact fun z => absurd ((own_olt (by omega) (by decide)).mp (show Int32.ofNat k < Int32.ofNat 0 from z)) (by omega)
  · exact (own_olt (by omega) (by decide)).mpr h
theorem own_oaddN (a b : Nat) : Int32.ofNat a + Int32.ofNat b = Int32.ofNat (a + b) := (Int32.ofNat_add a b).symm
theorem own_ix {e j : Nat} (h : j + 1 ≤ e) : Int32.ofNat e - (1 : Int32) - Int32.ofNat j = Int32.ofNat (e - 1 - j) := by
  rw [own_osub (by omega)]
  have e1 : e - 1 = (e - 1 - j) + j := by omega
  rw [show Int32.ofNat (e - 1) = Int32.ofNat (e - 1 - j) + Int32.ofNat j by rw [← Int32.ofNat_add, ← e1], Int32.add_sub_cancel]
theorem own_mask {x n : Int32} {k : Nat} (hn : n.toBitVec.toNat = k) (hk : k < 2 ^ 31) : ∃ a, a ≤ k ∧ x &&& n = Int32.ofNat a := by
  refine ⟨(x &&& n).toBitVec.toNat, ?_, ?_⟩
  · show (x.toBitVec &&& n.toBitVec).toNat ≤ k
    rw [BitVec.toNat_and, hn]; exact Nat.and_le_right
  · apply Int32.toBitVec_inj.mp
    show (x &&& n).toBitVec = BitVec.ofNat 32 _
    rw [BitVec.ofNat_toNat, BitVec.setWidth_eq]
theorem own_m3 (x : Int32) : x &&& (3 : Int32) = 0 ∨ x &&& (3 : Int32) = 1 ∨ x &&& (3 : Int32) = 2 ∨ x &&& (3 : Int32) = 3 := by
  obtain ⟨a, h, e⟩ := own_mask (x := x) (n := 3) (k := 3) rfl (by decide)
  rw [e]
  have : a = 0 ∨ a = 1 ∨ a = 2 ∨ a = 3 := by omega
  rcases this with rfl | rfl | rfl | rfl <;> decide
theorem own_m7 (x : Int32) : x &&& (7 : Int32) = 0 ∨ x &&& (7 : Int32) = 1 ∨ x &&& (7 : Int32) = 2 ∨ x &&& (7 : Int32) = 3 ∨ x &&& (7 : Int32) = 4 ∨ x &&& (7 : Int32) = 5 ∨ x &&& (7 : Int32) = 6 ∨ x &&& (7 : Int32) = 7 := by
  obtain ⟨a, h, e⟩ := own_mask (x := x) (n := 7) (k := 7) rfl (by decide)
  rw [e]
  have : a = 0 ∨ a = 1 ∨ a = 2 ∨ a = 3 ∨ a = 4 ∨ a = 5 ∨ a = 6 ∨ a = 7 := by omega
  rcases this with rfl | rfl | rfl | rfl | rfl | rfl | rfl | rfl <;> decide
theorem own_remN {a n : Nat} (ha : a < 2 ^ 31) (hn : 0 < n) (hn2 : n < 2 ^ 31) : Int32.ofNat a % Int32.ofNat n = Int32.ofNat (a % n) := by
  apply Int32.toInt_inj.mp
  rw [Int32.toInt_mod, own_oInt ha, own_oInt hn2, own_oInt (by have := Nat.mod_lt a hn; omega), Int.tmod_eq_emod_of_nonneg (by omega)]
  first | exact (Int.natCast_emod a n).symm | rfl | norm_cast
theorem own_rem (x : Int32) (n : Nat) (hn : 0 < n) (hn2 : n < 2 ^ 31) : ∃ a, a < n ∧ (x &&& (2147483647 : Int32)) % Int32.ofNat n = Int32.ofNat a := by
  obtain ⟨a, h, e⟩ := own_mask (x := x) (n := 2147483647) (k := 2147483647) rfl (by decide)
  exact ⟨a % n, Nat.mod_lt _ hn, by rw [e, own_remN (by omega) hn hn2]⟩
theorem own_dgm (x : Int32) : Dg (((48 : Int32) + (x &&& (2147483647 : Int32)) % (10 : Int32)).toUInt32.toUInt16.toUInt32.toInt32) := by
  obtain ⟨a, h, e⟩ := own_rem x 10 (by decide) (by decide)
  rw [show (10 : Int32) = Int32.ofNat 10 from rfl, e]
  have h2 : ∀ t : Fin 10, Dg (((48 : Int32) + Int32.ofNat t.1).toUInt32.toUInt16.toUInt32.toInt32) := by decide
  exact h2 ⟨a, h⟩
theorem own_qInt {k : Nat} (h : k < 2 ^ 63) : (Int64.ofNat k).toInt = k := by
  show (BitVec.ofNat 64 k).toInt = k
  rw [BitVec.toInt_eq_toNat_cond, BitVec.toNat_ofNat]
  have : k % 2 ^ 64 = k := by omega
  rw [this, if_pos (by omega)]
theorem own_qlt {a b : Nat} (ha : a < 2 ^ 63) (hb : b < 2 ^ 63) : Int64.ofNat a < Int64.ofNat b ↔ a < b := by
  rw [Int64.lt_iff_toInt_lt, own_qInt ha, own_qInt hb]; omega
theorem own_bm {x : Int} (h : -(2 ^ 63) ≤ x ∧ x < 2 ^ 63) : x.bmod (2 ^ 64) = x := by
  rw [Int.bmod_eq_of_le (by omega) (by omega)]
theorem own_qdiv {a b : Nat} (ha : a < 2 ^ 63) (hb : b < 2 ^ 63) : Int64.ofNat a / Int64.ofNat b = Int64.ofNat (a / b) := by
  apply Int64.toInt_inj.mp
  have h1 : a / b ≤ a := Nat.div_le_self _ _
  have h0 : (0 : Int) ≤ ((a / b : Nat) : Int) := Int.natCast_nonneg _
  rw [Int64.toInt_div, own_qInt ha, own_qInt hb, own_qInt (by omega), Int.tdiv_eq_ediv_of_nonneg (by omega), ← Int.natCast_ediv, own_bm (by omega)]
theorem own_qmul {a b : Nat} (h : a * b < 2 ^ 63) (ha : a < 2 ^ 63) (hb : b < 2 ^ 63) : Int64.ofNat a * Int64.ofNat b = Int64.ofNat (a * b) := by
  apply Int64.toInt_inj.mp
  rw [Int64.toInt_mul, own_qInt ha, own_qInt hb, own_qInt h, ← Int.natCast_mul, own_bm (by omega)]
theorem own_qsub {a b : Nat} (h : b ≤ a) (ha : a < 2 ^ 63) : Int64.ofNat a - Int64.ofNat b = Int64.ofNat (a - b) := by
  apply Int64.toInt_inj.mp
  rw [Int64.toInt_sub, own_qInt ha, own_qInt (by omega), own_qInt (by omega), show (a : Int) - (b : Int) = ((a - b : Nat) : Int) by omega, own_bm (by omega)]
theorem own_qadd {a b : Nat} (h : a + b < 2 ^ 63) : Int64.ofNat a + Int64.ofNat b = Int64.ofNat (a + b) := by
  apply Int64.toInt_inj.mp
  rw [Int64.toInt_add, own_qInt (by omega), own_qInt (by omega), own_qInt h, ← Int.natCast_add, own_bm (by omega)]
theorem own_qrem {a b : Nat} (ha : a < 2 ^ 63) (hb : b < 2 ^ 63) : Int64.ofNat a - (Int64.ofNat a / Int64.ofNat b) * Int64.ofNat b = Int64.ofNat (a % b) := by
  have h1 : a / b * b ≤ a := Nat.div_mul_le_self a b
  have h2 : a / b ≤ a := Nat.div_le_self _ _
  rw [own_qdiv ha hb, own_qmul (by omega) (by omega) hb, own_qsub h1 ha]
  congr 1
  have := Nat.div_add_mod a b
  rw [Nat.mul_comm] at this
  omega
theorem own_qmask (x : Int64) : ∃ a, a < 2 ^ 63 ∧ x &&& (9223372036854775807 : Int64) = Int64.ofNat a := by
  refine ⟨(x &&& (9223372036854775807 : Int64)).toBitVec.toNat, ?_, ?_⟩
  · have : (x.toBitVec &&& (9223372036854775807 : Int64).toBitVec).toNat ≤ 9223372036854775807 := by
      rw [BitVec.toNat_and]; exact Nat.and_le_right
    exact Nat.lt_of_le_of_lt this (by decide)
  · apply Int64.toBitVec_inj.mp
    show (x &&& (9223372036854775807 : Int64)).toBitVec = BitVec.ofNat 64 _
    rw [BitVec.ofNat_toNat, BitVec.setWidth_eq]
theorem own_val (x : Int64) {b : Nat} (hb : 0 < b) (hb2 : b < 2 ^ 63) : ∃ vn, vn < b ∧ (x &&& (9223372036854775807 : Int64)) - ((x &&& (9223372036854775807 : Int64)) / Int64.ofNat b) * Int64.ofNat b = Int64.ofNat vn := by
  obtain ⟨a, h, e⟩ := own_qmask x
  exact ⟨a % b, Nat.mod_lt _ hb, by rw [e, own_qrem h hb2]⟩
theorem own_qto32 {k : Nat} (h : k < 2 ^ 31) : (Int64.ofNat k).toInt32 = Int32.ofNat k := by
  apply Int32.toInt_inj.mp
  rw [Int64.toInt_toInt32, own_qInt (by omega), own_oInt h, Int.bmod_eq_of_le (by omega) (by omega)]
theorem own_dgv {vn b j : Nat} (hb : b = 10 ^ j) (hv : vn < 2 ^ 63) (hb2 : b < 2 ^ 63) : (((48 : Int64) + ((Int64.ofNat vn / Int64.ofNat b) - ((Int64.ofNat vn / Int64.ofNat b) / (10 : Int64)) * (10 : Int64))).toInt32.toUInt32.toUInt16.toUInt32.toInt32).toUInt32.toUInt16.toUInt32.toInt32 = dgc vn j := by
  have h2 : vn / b ≤ vn := Nat.div_le_self _ _
  have h3 : vn / b % 10 < 10 := Nat.mod_lt _ (by decide)
  rw [own_qdiv hv hb2, show (10 : Int64) = Int64.ofNat 10 from rfl, own_qrem (by omega) (by decide), show (48 : Int64) = Int64.ofNat 48 from rfl, own_qadd (by omega), own_qto32 (by omega)]
  unfold dgc
  rw [← hb]
  have h4 : ∀ t : Fin 10, ((Int32.ofNat (48 + t.1)).toUInt32.toUInt16.toUInt32.toInt32).toUInt32.toUInt16.toUInt32.toInt32 = Int32.ofNat (48 + t.1) := by decide
  exact h4 ⟨_, h3⟩
theorem own_cToN {c : Int32} (h : Dg c) : 48 ≤ c.toUInt32.toNat ∧ c.toUInt32.toNat ≤ 57 ∧ c.toInt64 = Int64.ofNat c.toUInt32.toNat := by
  obtain ⟨h1, h2⟩ := h
  rw [Int32.lt_iff_toInt_lt] at h1 h2
  have e1 : (48 : Int32).toInt = 48 := rfl
  have e2 : (57 : Int32).toInt = 57 := rfl
  rw [e1] at h1; rw [e2] at h2
  have h3 : c.toInt = c.toUInt32.toNat := by
    have : c.toInt = c.toBitVec.toInt := rfl
    rw [this, BitVec.toInt_eq_toNat_cond] at h1 h2 ⊢
    show _ = ((c.toBitVec.toNat : Nat) : Int)
    split
    · rfl
    · have := c.toBitVec.isLt; split at h1 <;> omega
  refine ⟨by omega, by omega, ?_⟩
  apply Int64.toInt_inj.mp
  rw [Int32.toInt_toInt64, own_qInt (by omega), h3]
theorem own_step10 {a : Nat} {c : Int32} (ha : a ≤ 1000000000) (h : Dg c) : Int64.ofNat a * (10 : Int64) + c.toInt64 - (48 : Int64) = Int64.ofNat (a * 10 + (c.toUInt32.toNat - 48)) := by
  obtain ⟨h1, h2, h3⟩ := own_cToN h
  rw [h3, show (10 : Int64) = Int64.ofNat 10 from rfl, own_qmul (by omega) (by omega) (by decide), own_qadd (by omega), show (48 : Int64) = Int64.ofNat 48 from rfl, own_qsub (by omega) (by omega)]
  congr 1; omega

theorem dany_0 : decode method_3_code 0 = .ok (.iload_n 0, 1) := by decide +kernel
theorem dany_1 : decode method_3_code 1 = .ok (.bipush 7, 2) := by decide +kernel
theorem dany_3 : decode method_3_code 3 = .ok (.iand, 1) := by decide +kernel
theorem dany_4 : decode method_3_code 4 = .ok (.istore_n 2, 1) := by decide +kernel
theorem dany_5 : decode method_3_code 5 = .ok (.iload_n 2, 1) := by decide +kernel
theorem dany_6 : decode method_3_code 6 = .ok (.ifCond .ne 15, 3) := by decide +kernel
theorem dany_9 : decode method_3_code 9 = .ok (.bipush 48, 2) := by decide +kernel
theorem dany_11 : decode method_3_code 11 = .ok (.iload_n 1, 1) := by decide +kernel
theorem dany_12 : decode method_3_code 12 = .ok (.ldc 7, 2) := by decide +kernel
theorem dany_14 : decode method_3_code 14 = .ok (.iand, 1) := by decide +kernel
theorem dany_15 : decode method_3_code 15 = .ok (.bipush 10, 2) := by decide +kernel
theorem dany_17 : decode method_3_code 17 = .ok (.irem, 1) := by decide +kernel
theorem dany_18 : decode method_3_code 18 = .ok (.iadd, 1) := by decide +kernel
theorem dany_19 : decode method_3_code 19 = .ok (.i2c, 1) := by decide +kernel
theorem dany_20 : decode method_3_code 20 = .ok (.ireturn, 1) := by decide +kernel
theorem dany_21 : decode method_3_code 21 = .ok (.iload_n 2, 1) := by decide +kernel
theorem dany_22 : decode method_3_code 22 = .ok (.iconst 1, 1) := by decide +kernel
theorem dany_23 : decode method_3_code 23 = .ok (.if_icmp .ne 6, 3) := by decide +kernel
theorem dany_26 : decode method_3_code 26 = .ok (.bipush 46, 2) := by decide +kernel
theorem dany_28 : decode method_3_code 28 = .ok (.ireturn, 1) := by decide +kernel
theorem dany_29 : decode method_3_code 29 = .ok (.iload_n 2, 1) := by decide +kernel
theorem dany_30 : decode method_3_code 30 = .ok (.iconst 2, 1) := by decide +kernel
theorem dany_31 : decode method_3_code 31 = .ok (.if_icmp .ne 6, 3) := by decide +kernel
theorem dany_34 : decode method_3_code 34 = .ok (.bipush 101, 2) := by decide +kernel
theorem dany_36 : decode method_3_code 36 = .ok (.ireturn, 1) := by decide +kernel
theorem dany_37 : decode method_3_code 37 = .ok (.iload_n 2, 1) := by decide +kernel
theorem dany_38 : decode method_3_code 38 = .ok (.iconst 3, 1) := by decide +kernel
theorem dany_39 : decode method_3_code 39 = .ok (.if_icmp .ne 6, 3) := by decide +kernel
theorem dany_42 : decode method_3_code 42 = .ok (.bipush 69, 2) := by decide +kernel
theorem dany_44 : decode method_3_code 44 = .ok (.ireturn, 1) := by decide +kernel
theorem dany_45 : decode method_3_code 45 = .ok (.iload_n 2, 1) := by decide +kernel
theorem dany_46 : decode method_3_code 46 = .ok (.iconst 4, 1) := by decide +kernel
theorem dany_47 : decode method_3_code 47 = .ok (.if_icmp .ne 6, 3) := by decide +kernel
theorem dany_50 : decode method_3_code 50 = .ok (.bipush 45, 2) := by decide +kernel
theorem dany_52 : decode method_3_code 52 = .ok (.ireturn, 1) := by decide +kernel
theorem dany_53 : decode method_3_code 53 = .ok (.iload_n 2, 1) := by decide +kernel
theorem dany_54 : decode method_3_code 54 = .ok (.iconst 5, 1) := by decide +kernel
theorem dany_55 : decode method_3_code 55 = .ok (.if_icmp .ne 6, 3) := by decide +kernel
theorem dany_58 : decode method_3_code 58 = .ok (.bipush 43, 2) := by decide +kernel
theorem dany_60 : decode method_3_code 60 = .ok (.ireturn, 1) := by decide +kernel
theorem dany_61 : decode method_3_code 61 = .ok (.iload_n 1, 1) := by decide +kernel
theorem dany_62 : decode method_3_code 62 = .ok (.ldc 8, 2) := by decide +kernel
theorem dany_64 : decode method_3_code 64 = .ok (.iand, 1) := by decide +kernel
theorem dany_65 : decode method_3_code 65 = .ok (.i2c, 1) := by decide +kernel
theorem dany_66 : decode method_3_code 66 = .ok (.ireturn, 1) := by decide +kernel
theorem plany : plainFor (⟨"com/example/cardinal_verbs/cardinalverbs/ReadLimitExponentWithinPinLaw", "any", "(II)C"⟩ : MethodName) = true := by first | exact plainFor_of_name (by first | (simp [plainName, overriddenIn]; done) | decide +kernel) | decide +kernel
theorem disd_0 : decode method_2_code 0 = .ok (.iload_n 0, 1) := by decide +kernel
theorem disd_1 : decode method_2_code 1 = .ok (.bipush 48, 2) := by decide +kernel
theorem disd_3 : decode method_2_code 3 = .ok (.if_icmp .lt 13, 3) := by decide +kernel
theorem disd_6 : decode method_2_code 6 = .ok (.iload_n 0, 1) := by decide +kernel
theorem disd_7 : decode method_2_code 7 = .ok (.bipush 57, 2) := by decide +kernel
theorem disd_9 : decode method_2_code 9 = .ok (.if_icmp .gt 7, 3) := by decide +kernel
theorem disd_12 : decode method_2_code 12 = .ok (.iconst 1, 1) := by decide +kernel
theorem disd_13 : decode method_2_code 13 = .ok (.goto 4, 3) := by decide +kernel
theorem disd_16 : decode method_2_code 16 = .ok (.iconst 0, 1) := by decide +kernel
theorem disd_17 : decode method_2_code 17 = .ok (.ireturn, 1) := by decide +kernel
theorem plisd : plainFor (⟨"com/example/cardinal_verbs/cardinalverbs/ReadLimitExponentWithinPinLaw", "isDigit", "(C)Z"⟩ : MethodName) = true := by first | exact plainFor_of_name (by first | (simp [plainName, overriddenIn]; done) | decide +kernel) | decide +kernel
theorem ddig_0 : decode method_4_code 0 = .ok (.iload 7, 2) := by decide +kernel
theorem ddig_2 : decode method_4_code 2 = .ok (.iload_n 2, 1) := by decide +kernel
theorem ddig_3 : decode method_4_code 3 = .ok (.if_icmp .ge 25, 3) := by decide +kernel
theorem ddig_6 : decode method_4_code 6 = .ok (.aload_n 0, 1) := by decide +kernel
theorem ddig_7 : decode method_4_code 7 = .ok (.iload_n 1, 1) := by decide +kernel
theorem ddig_8 : decode method_4_code 8 = .ok (.iconst 1, 1) := by decide +kernel
theorem ddig_9 : decode method_4_code 9 = .ok (.isub, 1) := by decide +kernel
theorem ddig_10 : decode method_4_code 10 = .ok (.iload 7, 2) := by decide +kernel
theorem ddig_12 : decode method_4_code 12 = .ok (.isub, 1) := by decide +kernel
theorem ddig_13 : decode method_4_code 13 = .ok (.ldc2_w 9, 3) := by decide +kernel
theorem ddig_16 : decode method_4_code 16 = .ok (.lload_n 3, 1) := by decide +kernel
theorem ddig_17 : decode method_4_code 17 = .ok (.lload 5, 2) := by decide +kernel
theorem ddig_19 : decode method_4_code 19 = .ok (.ldiv, 1) := by decide +kernel
theorem ddig_20 : decode method_4_code 20 = .ok (.ldc2_w 11, 3) := by decide +kernel
theorem ddig_23 : decode method_4_code 23 = .ok (.lrem, 1) := by decide +kernel
theorem ddig_24 : decode method_4_code 24 = .ok (.ladd, 1) := by decide +kernel
theorem ddig_25 : decode method_4_code 25 = .ok (.l2i, 1) := by decide +kernel
theorem ddig_26 : decode method_4_code 26 = .ok (.i2c, 1) := by decide +kernel
theorem ddig_27 : decode method_4_code 27 = .ok (.castore, 1) := by decide +kernel
theorem ddig_28 : decode method_4_code 28 = .ok (.return_, 1) := by decide +kernel
theorem pldig : plainFor (⟨"com/example/cardinal_verbs/cardinalverbs/ReadLimitExponentWithinPinLaw", "dig", "([CIIJJI)V"⟩ : MethodName) = true := by first | exact plainFor_of_name (by first | (simp [plainName, overriddenIn]; done) | decide +kernel) | decide +kernel
theorem dew_0 : decode prog_13_method_6_code 0 = .ok (.iload_n 2, 1) := by decide +kernel
theorem dew_1 : decode prog_13_method_6_code 1 = .ok (.istore_n 3, 1) := by decide +kernel
theorem dew_2 : decode prog_13_method_6_code 2 = .ok (.iload_n 3, 1) := by decide +kernel
theorem dew_3 : decode prog_13_method_6_code 3 = .ok (.iload_n 1, 1) := by decide +kernel
theorem dew_4 : decode prog_13_method_6_code 4 = .ok (.if_icmp .le 20, 3) := by decide +kernel
theorem dew_7 : decode prog_13_method_6_code 7 = .ok (.aload_n 0, 1) := by decide +kernel
theorem dew_8 : decode prog_13_method_6_code 8 = .ok (.iload_n 3, 1) := by decide +kernel
theorem dew_9 : decode prog_13_method_6_code 9 = .ok (.iconst 1, 1) := by decide +kernel
theorem dew_10 : decode prog_13_method_6_code 10 = .ok (.isub, 1) := by decide +kernel
theorem dew_11 : decode prog_13_method_6_code 11 = .ok (.caload, 1) := by decide +kernel
theorem dew_12 : decode prog_13_method_6_code 12 = .ok (.invokestatic 59, 3) := by decide +kernel
theorem dew_15 : decode prog_13_method_6_code 15 = .ok (.ifCond .eq 9, 3) := by decide +kernel
theorem dew_18 : decode prog_13_method_6_code 18 = .ok (.iinc 3 (-1), 3) := by decide +kernel
theorem dew_21 : decode prog_13_method_6_code 21 = .ok (.goto (-19), 3) := by decide +kernel
theorem dew_24 : decode prog_13_method_6_code 24 = .ok (.lconst 0, 1) := by decide +kernel
theorem dew_25 : decode prog_13_method_6_code 25 = .ok (.lstore 4, 2) := by decide +kernel
theorem dew_27 : decode prog_13_method_6_code 27 = .ok (.iload_n 3, 1) := by decide +kernel
theorem dew_28 : decode prog_13_method_6_code 28 = .ok (.istore 6, 2) := by decide +kernel
theorem dew_30 : decode prog_13_method_6_code 30 = .ok (.iload 6, 2) := by decide +kernel
theorem dew_32 : decode prog_13_method_6_code 32 = .ok (.iload_n 2, 1) := by decide +kernel
theorem dew_33 : decode prog_13_method_6_code 33 = .ok (.if_icmp .ge 40, 3) := by decide +kernel
theorem dew_36 : decode prog_13_method_6_code 36 = .ok (.lload 4, 2) := by decide +kernel
theorem dew_38 : decode prog_13_method_6_code 38 = .ok (.getstatic 7, 3) := by decide +kernel
theorem dew_41 : decode prog_13_method_6_code 41 = .ok (.getfield 32, 3) := by decide +kernel
theorem dew_44 : decode prog_13_method_6_code 44 = .ok (.i2l, 1) := by decide +kernel
theorem dew_45 : decode prog_13_method_6_code 45 = .ok (.lcmp, 1) := by decide +kernel
theorem dew_46 : decode prog_13_method_6_code 46 = .ok (.ifCond .gt 27, 3) := by decide +kernel
theorem dew_49 : decode prog_13_method_6_code 49 = .ok (.lload 4, 2) := by decide +kernel
theorem dew_51 : decode prog_13_method_6_code 51 = .ok (.ldc2_w 63, 3) := by decide +kernel
theorem dew_54 : decode prog_13_method_6_code 54 = .ok (.lmul, 1) := by decide +kernel
theorem dew_55 : decode prog_13_method_6_code 55 = .ok (.aload_n 0, 1) := by decide +kernel
theorem dew_56 : decode prog_13_method_6_code 56 = .ok (.iload 6, 2) := by decide +kernel
theorem dew_58 : decode prog_13_method_6_code 58 = .ok (.caload, 1) := by decide +kernel
theorem dew_59 : decode prog_13_method_6_code 59 = .ok (.i2l, 1) := by decide +kernel
theorem dew_60 : decode prog_13_method_6_code 60 = .ok (.ladd, 1) := by decide +kernel
theorem dew_61 : decode prog_13_method_6_code 61 = .ok (.ldc2_w 65, 3) := by decide +kernel
theorem dew_64 : decode prog_13_method_6_code 64 = .ok (.lsub, 1) := by decide +kernel
theorem dew_65 : decode prog_13_method_6_code 65 = .ok (.lstore 4, 2) := by decide +kernel
theorem dew_67 : decode prog_13_method_6_code 67 = .ok (.iinc 6 1, 3) := by decide +kernel
theorem dew_70 : decode prog_13_method_6_code 70 = .ok (.goto (-40), 3) := by decide +kernel
theorem dew_73 : decode prog_13_method_6_code 73 = .ok (.lload 4, 2) := by decide +kernel
theorem dew_75 : decode prog_13_method_6_code 75 = .ok (.getstatic 7, 3) := by decide +kernel
theorem dew_78 : decode prog_13_method_6_code 78 = .ok (.getfield 32, 3) := by decide +kernel
theorem dew_81 : decode prog_13_method_6_code 81 = .ok (.i2l, 1) := by decide +kernel
theorem dew_82 : decode prog_13_method_6_code 82 = .ok (.lcmp, 1) := by decide +kernel
theorem dew_83 : decode prog_13_method_6_code 83 = .ok (.ifCond .le 12, 3) := by decide +kernel
theorem dew_86 : decode prog_13_method_6_code 86 = .ok (.aload_n 0, 1) := by decide +kernel
theorem dew_87 : decode prog_13_method_6_code 87 = .ok (.iload_n 1, 1) := by decide +kernel
theorem dew_88 : decode prog_13_method_6_code 88 = .ok (.iload_n 3, 1) := by decide +kernel
theorem dew_89 : decode prog_13_method_6_code 89 = .ok (.invokestatic 67, 3) := by decide +kernel
theorem dew_92 : decode prog_13_method_6_code 92 = .ok (.ifCond .ne 7, 3) := by decide +kernel
theorem dew_95 : decode prog_13_method_6_code 95 = .ok (.iconst 1, 1) := by decide +kernel
theorem dew_96 : decode prog_13_method_6_code 96 = .ok (.goto 4, 3) := by decide +kernel
theorem dew_99 : decode prog_13_method_6_code 99 = .ok (.iconst 0, 1) := by decide +kernel
theorem dew_100 : decode prog_13_method_6_code 100 = .ok (.ireturn, 1) := by decide +kernel
theorem plew : plainFor (⟨"com/example/cardinal_verbs/cardinalverbs/ReadLimit", "exponentWithin", "([CII)Z"⟩ : MethodName) = true := by first | exact plainFor_of_name (by first | (simp [plainName, overriddenIn]; done) | decide +kernel) | decide +kernel
theorem drid_0 : decode prog_13_method_8_code 0 = .ok (.iload_n 0, 1) := by decide +kernel
theorem drid_1 : decode prog_13_method_8_code 1 = .ok (.bipush 48, 2) := by decide +kernel
theorem drid_3 : decode prog_13_method_8_code 3 = .ok (.if_icmp .lt 13, 3) := by decide +kernel
theorem drid_6 : decode prog_13_method_8_code 6 = .ok (.iload_n 0, 1) := by decide +kernel
theorem drid_7 : decode prog_13_method_8_code 7 = .ok (.bipush 57, 2) := by decide +kernel
theorem drid_9 : decode prog_13_method_8_code 9 = .ok (.if_icmp .gt 7, 3) := by decide +kernel
theorem drid_12 : decode prog_13_method_8_code 12 = .ok (.iconst 1, 1) := by decide +kernel
theorem drid_13 : decode prog_13_method_8_code 13 = .ok (.goto 4, 3) := by decide +kernel
theorem drid_16 : decode prog_13_method_8_code 16 = .ok (.iconst 0, 1) := by decide +kernel
theorem drid_17 : decode prog_13_method_8_code 17 = .ok (.ireturn, 1) := by decide +kernel
theorem plrid : plainFor (⟨"com/example/cardinal_verbs/cardinalverbs/ReadLimit", "isDigit", "(C)Z"⟩ : MethodName) = true := by first | exact plainFor_of_name (by first | (simp [plainName, overriddenIn]; done) | decide +kernel) | decide +kernel
theorem die_0 : decode prog_13_method_7_code 0 = .ok (.iload_n 2, 1) := by decide +kernel
theorem die_1 : decode prog_13_method_7_code 1 = .ok (.iconst 1, 1) := by decide +kernel
theorem die_2 : decode prog_13_method_7_code 2 = .ok (.isub, 1) := by decide +kernel
theorem die_3 : decode prog_13_method_7_code 3 = .ok (.istore_n 3, 1) := by decide +kernel
theorem die_4 : decode prog_13_method_7_code 4 = .ok (.iload_n 3, 1) := by decide +kernel
theorem die_5 : decode prog_13_method_7_code 5 = .ok (.iload_n 1, 1) := by decide +kernel
theorem die_6 : decode prog_13_method_7_code 6 = .ok (.if_icmp .lt 15, 3) := by decide +kernel
theorem die_9 : decode prog_13_method_7_code 9 = .ok (.aload_n 0, 1) := by decide +kernel
theorem die_10 : decode prog_13_method_7_code 10 = .ok (.iload_n 3, 1) := by decide +kernel
theorem die_11 : decode prog_13_method_7_code 11 = .ok (.caload, 1) := by decide +kernel
theorem die_12 : decode prog_13_method_7_code 12 = .ok (.invokestatic 71, 3) := by decide +kernel
theorem die_15 : decode prog_13_method_7_code 15 = .ok (.ifCond .eq 6, 3) := by decide +kernel
theorem die_18 : decode prog_13_method_7_code 18 = .ok (.iinc 3 (-1), 3) := by decide +kernel
theorem die_21 : decode prog_13_method_7_code 21 = .ok (.iload_n 3, 1) := by decide +kernel
theorem die_22 : decode prog_13_method_7_code 22 = .ok (.iload_n 1, 1) := by decide +kernel
theorem die_23 : decode prog_13_method_7_code 23 = .ok (.if_icmp .lt 19, 3) := by decide +kernel
theorem die_26 : decode prog_13_method_7_code 26 = .ok (.aload_n 0, 1) := by decide +kernel
theorem die_27 : decode prog_13_method_7_code 27 = .ok (.iload_n 3, 1) := by decide +kernel
theorem die_28 : decode prog_13_method_7_code 28 = .ok (.caload, 1) := by decide +kernel
theorem die_29 : decode prog_13_method_7_code 29 = .ok (.bipush 101, 2) := by decide +kernel
theorem die_31 : decode prog_13_method_7_code 31 = .ok (.if_icmp .eq 13, 3) := by decide +kernel
theorem die_34 : decode prog_13_method_7_code 34 = .ok (.aload_n 0, 1) := by decide +kernel
theorem die_35 : decode prog_13_method_7_code 35 = .ok (.iload_n 3, 1) := by decide +kernel
theorem die_36 : decode prog_13_method_7_code 36 = .ok (.caload, 1) := by decide +kernel
theorem die_37 : decode prog_13_method_7_code 37 = .ok (.bipush 69, 2) := by decide +kernel
theorem die_39 : decode prog_13_method_7_code 39 = .ok (.if_icmp .eq 5, 3) := by decide +kernel
theorem die_42 : decode prog_13_method_7_code 42 = .ok (.iconst 0, 1) := by decide +kernel
theorem die_43 : decode prog_13_method_7_code 43 = .ok (.ireturn, 1) := by decide +kernel
theorem die_44 : decode prog_13_method_7_code 44 = .ok (.iconst 0, 1) := by decide +kernel
theorem die_45 : decode prog_13_method_7_code 45 = .ok (.istore 4, 2) := by decide +kernel
theorem die_47 : decode prog_13_method_7_code 47 = .ok (.iconst 0, 1) := by decide +kernel
theorem die_48 : decode prog_13_method_7_code 48 = .ok (.istore 5, 2) := by decide +kernel
theorem die_50 : decode prog_13_method_7_code 50 = .ok (.iload_n 3, 1) := by decide +kernel
theorem die_51 : decode prog_13_method_7_code 51 = .ok (.iload_n 1, 1) := by decide +kernel
theorem die_52 : decode prog_13_method_7_code 52 = .ok (.if_icmp .le 18, 3) := by decide +kernel
theorem die_55 : decode prog_13_method_7_code 55 = .ok (.aload_n 0, 1) := by decide +kernel
theorem die_56 : decode prog_13_method_7_code 56 = .ok (.iload_n 1, 1) := by decide +kernel
theorem die_57 : decode prog_13_method_7_code 57 = .ok (.caload, 1) := by decide +kernel
theorem die_58 : decode prog_13_method_7_code 58 = .ok (.invokestatic 71, 3) := by decide +kernel
theorem die_61 : decode prog_13_method_7_code 61 = .ok (.ifCond .eq 9, 3) := by decide +kernel
theorem die_64 : decode prog_13_method_7_code 64 = .ok (.iload_n 1, 1) := by decide +kernel
theorem die_65 : decode prog_13_method_7_code 65 = .ok (.iconst 1, 1) := by decide +kernel
theorem die_66 : decode prog_13_method_7_code 66 = .ok (.iadd, 1) := by decide +kernel
theorem die_67 : decode prog_13_method_7_code 67 = .ok (.goto 4, 3) := by decide +kernel
theorem die_70 : decode prog_13_method_7_code 70 = .ok (.iload_n 1, 1) := by decide +kernel
theorem die_71 : decode prog_13_method_7_code 71 = .ok (.istore 6, 2) := by decide +kernel
theorem die_73 : decode prog_13_method_7_code 73 = .ok (.iload 6, 2) := by decide +kernel
theorem die_75 : decode prog_13_method_7_code 75 = .ok (.iload_n 3, 1) := by decide +kernel
theorem die_76 : decode prog_13_method_7_code 76 = .ok (.if_icmp .ge 42, 3) := by decide +kernel
theorem die_79 : decode prog_13_method_7_code 79 = .ok (.aload_n 0, 1) := by decide +kernel
theorem die_80 : decode prog_13_method_7_code 80 = .ok (.iload 6, 2) := by decide +kernel
theorem die_82 : decode prog_13_method_7_code 82 = .ok (.caload, 1) := by decide +kernel
theorem die_83 : decode prog_13_method_7_code 83 = .ok (.invokestatic 59, 3) := by decide +kernel
theorem die_86 : decode prog_13_method_7_code 86 = .ok (.ifCond .eq 9, 3) := by decide +kernel
theorem die_89 : decode prog_13_method_7_code 89 = .ok (.iinc 4 1, 3) := by decide +kernel
theorem die_92 : decode prog_13_method_7_code 92 = .ok (.goto 20, 3) := by decide +kernel
theorem die_95 : decode prog_13_method_7_code 95 = .ok (.aload_n 0, 1) := by decide +kernel
theorem die_96 : decode prog_13_method_7_code 96 = .ok (.iload 6, 2) := by decide +kernel
theorem die_98 : decode prog_13_method_7_code 98 = .ok (.caload, 1) := by decide +kernel
theorem die_99 : decode prog_13_method_7_code 99 = .ok (.bipush 46, 2) := by decide +kernel
theorem die_101 : decode prog_13_method_7_code 101 = .ok (.if_icmp .ne 9, 3) := by decide +kernel
theorem die_104 : decode prog_13_method_7_code 104 = .ok (.iinc 5 1, 3) := by decide +kernel
theorem die_107 : decode prog_13_method_7_code 107 = .ok (.goto 5, 3) := by decide +kernel
theorem die_110 : decode prog_13_method_7_code 110 = .ok (.iconst 0, 1) := by decide +kernel
theorem die_111 : decode prog_13_method_7_code 111 = .ok (.ireturn, 1) := by decide +kernel
theorem die_112 : decode prog_13_method_7_code 112 = .ok (.iinc 6 1, 3) := by decide +kernel
theorem die_115 : decode prog_13_method_7_code 115 = .ok (.goto (-42), 3) := by decide +kernel
theorem die_118 : decode prog_13_method_7_code 118 = .ok (.iload 4, 2) := by decide +kernel
theorem die_120 : decode prog_13_method_7_code 120 = .ok (.ifCond .le 13, 3) := by decide +kernel
theorem die_123 : decode prog_13_method_7_code 123 = .ok (.iload 5, 2) := by decide +kernel
theorem die_125 : decode prog_13_method_7_code 125 = .ok (.iconst 1, 1) := by decide +kernel
theorem die_126 : decode prog_13_method_7_code 126 = .ok (.if_icmp .gt 7, 3) := by decide +kernel
theorem die_129 : decode prog_13_method_7_code 129 = .ok (.iconst 1, 1) := by decide +kernel
theorem die_130 : decode prog_13_method_7_code 130 = .ok (.goto 4, 3) := by decide +kernel
theorem die_133 : decode prog_13_method_7_code 133 = .ok (.iconst 0, 1) := by decide +kernel
theorem die_134 : decode prog_13_method_7_code 134 = .ok (.ireturn, 1) := by decide +kernel
theorem plie : plainFor (⟨"com/example/cardinal_verbs/cardinalverbs/ReadLimit", "isExponent", "([CII)Z"⟩ : MethodName) = true := by first | exact plainFor_of_name (by first | (simp [plainName, overriddenIn]; done) | decide +kernel) | decide +kernel
theorem dsg_0 : decode prog_13_method_9_code 0 = .ok (.iload_n 0, 1) := by decide +kernel
theorem dsg_1 : decode prog_13_method_9_code 1 = .ok (.bipush 45, 2) := by decide +kernel
theorem dsg_3 : decode prog_13_method_9_code 3 = .ok (.if_icmp .eq 9, 3) := by decide +kernel
theorem dsg_6 : decode prog_13_method_9_code 6 = .ok (.iload_n 0, 1) := by decide +kernel
theorem dsg_7 : decode prog_13_method_9_code 7 = .ok (.bipush 43, 2) := by decide +kernel
theorem dsg_9 : decode prog_13_method_9_code 9 = .ok (.if_icmp .ne 7, 3) := by decide +kernel
theorem dsg_12 : decode prog_13_method_9_code 12 = .ok (.iconst 1, 1) := by decide +kernel
theorem dsg_13 : decode prog_13_method_9_code 13 = .ok (.goto 4, 3) := by decide +kernel
theorem dsg_16 : decode prog_13_method_9_code 16 = .ok (.iconst 0, 1) := by decide +kernel
theorem dsg_17 : decode prog_13_method_9_code 17 = .ok (.ireturn, 1) := by decide +kernel
theorem plsg : plainFor (⟨"com/example/cardinal_verbs/cardinalverbs/ReadLimit", "isSign", "(C)Z"⟩ : MethodName) = true := by first | exact plainFor_of_name (by first | (simp [plainName, overriddenIn]; done) | decide +kernel) | decide +kernel
theorem pl0 : plainFor x = true := by first | exact plainFor_of_name (by first | (simp [plainName, overriddenIn]; done) | decide +kernel) | decide +kernel
theorem pdany : parseMethodDescriptor "(II)C" = some ⟨[.int, .int], some .char⟩ := by decide +kernel
theorem pdisd : parseMethodDescriptor "(C)Z" = some ⟨[.char], some .boolean⟩ := by decide +kernel
theorem pddig : parseMethodDescriptor "([CIIJJI)V" = some ⟨[(.array .char), .int, .int, .long, .long, .int], none⟩ := by decide +kernel
theorem pdew : parseMethodDescriptor "([CII)Z" = some ⟨[(.array .char), .int, .int], some .boolean⟩ := by decide +kernel
theorem pdrid : parseMethodDescriptor "(C)Z" = some ⟨[.char], some .boolean⟩ := by decide +kernel
theorem pdie : parseMethodDescriptor "([CII)Z" = some ⟨[(.array .char), .int, .int], some .boolean⟩ := by decide +kernel
theorem pdsg : parseMethodDescriptor "(C)Z" = some ⟨[.char], some .boolean⟩ := by decide +kernel
def PL : List Value := [(.long (1 : Int64)), (.long (10 : Int64)), (.long (100 : Int64)), (.long (1000 : Int64)), (.long (10000 : Int64)), (.long (100000 : Int64)), (.long (1000000 : Int64)), (.long (10000000 : Int64)), (.long (100000000 : Int64)), (.long (1000000000 : Int64)), (.long (10000000000 : Int64)), (.long (100000000000 : Int64)), (.long (1000000000000 : Int64))]
def AT (Z : State) (h : Heap) (t : Addr) (kt : ClassId) (ch : Nat → Int32) : Prop := ∃ vs : List Value, Arv Z h t kt .char (28 : Int32) vs (.int (0 : Int32)) ∧ vs.length = 28 ∧ ∀ i, i < 28 → vs.getD i (.int (0 : Int32)) = .int (ch i)
def WD (Z : State) (h : Heap) (n0 : Nat) (locs : List Loc) (t : Addr) (kt : ClassId) (ch : Nat → Int32) (pa : Addr) (kp : ClassId) : Prop := AT Z h t kt ch ∧ Arv Z h pa kp .long (13 : Int32) PL (.long (0 : Int64)) ∧ Old Z n0 h ∧ Fr n0 locs
theorem own_pl {w : Nat} (h : w < 13) : PL.getD w (.long (0 : Int64)) = .long (Int64.ofNat (10 ^ w)) := by
  match w, h with
  | 0, _ => rfl
  | 1, _ => rfl
  | 2, _ => rfl
  | 3, _ => rfl
  | 4, _ => rfl
  | 5, _ => rfl
  | 6, _ => rfl
  | 7, _ => rfl
  | 8, _ => rfl
  | 9, _ => rfl
  | 10, _ => rfl
  | 11, _ => rfl
  | 12, _ => rfl
theorem own_lcgt {x y : Int64} : (0 : Int32) < lcmpW x y ↔ y < x := by
  unfold lcmpW
  by_cases h : x > y
  · rw [if_pos h]; exact ⟨fun _ => h, fun _ => by decide⟩
  · rw [if_neg h]
    refine ⟨fun z => ?_, fun z => absurd z h⟩
    by_cases k : x = y
    · rw [if_pos k] at z; exact absurd z (by decide)
    · rw [if_neg k] at z; exact absurd z (by decide)
theorem own_predlt {k : Nat} (h : k < 2 ^ 31) : Int32.ofNat k - (1 : Int32) < Int32.ofNat k := by
  cases k with
  | zero => decide
  | succ k => rw [own_osub (by omega)]; exact (own_olt (by omega) h).mpr (by omega)
theorem own_ldT {p : Program} {l : Launch} {e : Env} {R : Room} {s : State} {m : MethodId} {args : Array Value} {below : List Frame} {meth : Method} {c : Code} {T : State} {Z : State} {h : Heap} {locs : List Loc} {cells slots : Nat} {y : MethodName} {bytes : ByteArray} {maxL : Nat} {ret : Option FieldType} {E : Outcome → State → Prop} {Ls : Array Slot} {st : List Value} {pc : Nat} (pc' : Nat) (Y : own_S Z y bytes maxL ret p l e R s m args below meth c T h locs cells slots) {t : Addr} {kt : ClassId} {ch : Nat → Int32} {j : Int32} {k : Nat} (A : AT Z h t kt ch) (hj : j = Int32.ofNat k) (hk : k < 28) (hd : decode bytes pc = .ok (.caload, 1)) (hp : pc + 1 = pc') (KK : own_G p e below E (T.setTop (mkF m pc' Ls (.int (ch k) :: st)))) : own_G p e below E (T.setTop (mkF m pc Ls (.int j :: .ref t :: st))) := by
  obtain ⟨vs, A1, hl, hv⟩ := A
  subst hj
  exact own_caload pc' Y A1 hd (own_inR hk) (by rw [own_oclamp (by omega)]; exact hv k hk) hp KK
theorem own_putT {p : Program} {l : Launch} {e : Env} {R : Room} {s : State} {m : MethodId} {args : Array Value} {below : List Frame} {meth : Method} {c : Code} {T : State} {Z : State} {h : Heap} {locs : List Loc} {cells slots : Nat} {y : MethodName} {bytes : ByteArray} {maxL : Nat} {ret : Option FieldType} {E : Outcome → State → Prop} {Ls : Array Slot} {st : List Value} {pc : Nat} (pc' : Nat) (Y : own_S Z y bytes maxL ret p l e R s m args below meth c T h locs cells slots) {n0 : Nat} {t pa : Addr} {kt kp : ClassId} {ch : Nat → Int32} {j x c' : Int32} {k : Nat} (D : WD Z h n0 locs t kt ch pa kp) (gt : n0 ≤ t) (npt : pa ≠ t) (hj : j = Int32.ofNat k) (hk : k < 28) (hx : nar .char x = c') (hd : decode bytes pc = .ok (.castore, 1)) (hp : pc + 1 = pc')
    (KK : ∀ T' h' locs', own_S Z y bytes maxL ret p l e R s m args below meth c T' h' locs' cells slots → WD Z h' n0 locs' t kt (upd ch k c') pa kp → own_G p e below E (T'.setTop (mkF m pc' Ls st))) : own_G p e below E (T.setTop (mkF m pc Ls (.int x :: .int j :: .ref t :: st))) := by
  obtain ⟨⟨vs, A1, hl, hv⟩, P1, O1, N1⟩ := D
  subst hj hx
  refine own_stC pc' Y A1 hd (own_inR hk) hp fun T' h' Y' W' A' => KK T' h' _ Y' ⟨⟨vs.set k (.int (nar .char x)), A' k (own_oclamp (by omega)) (by rw [hl]; exact hk) (fits_nar_char x), by simp [hl], fun i hi => ?_⟩, P1.other W' npt, O1.wr W' gt, own_frY Y' N1 gt⟩
  unfold upd
  by_cases q : i = k
  · subst q; simp [List.getD, hl, hk]
  · rw [if_neg q, ← hv i hi]; simp [List.getD, List.getElem?_set, Ne.symm q]

set_option maxRecDepth 65536 in
set_option maxHeartbeats 4000000 in
theorem c_isd (l : Launch) (Z : State) (a0 : Array Value) (hw : ∀ d ∈ tables_1, d.before a0 Z = true) (cc : Int32) (h0 : Heap) : own_M l (⟨"com/example/cardinal_verbs/cardinalverbs/ReadLimitExponentWithinPinLaw", "isDigit", "(C)Z"⟩ : MethodName) method_2_code 1 (some .boolean) [] ({ frames := 0, cells := 0, slots := 0, locals := 0 } : Room) Z #[.int cc] h0 (Qv (some (.int (if Dg cc then (1 : Int32) else (0 : Int32)))) h0) := by
  refine own_met plisd (Lf := #[.val (.int cc)]) (fun m => by first | (simp [entryFrame, mkF, argsToLocals, Value.category]; done) | rfl) ?_
  intro p e s m below meth c T Y
  refine own_iloadN 1 Y disd_0 rfl rfl ?_
  refine own_bipush 3 Y (48 : Int32) disd_1 rfl rfl ?_
  refine own_ic_lt 16 6 Y disd_3 (by decide) rfl (fun q3 => ?_) (fun q3 => ?_)
  · refine own_iconst 17 Y (0 : Int32) disd_16 rfl rfl ?_
    exact own_retN Y (t := .boolean) rfl (by simp) disd_17 (by decide) (by decide) ⟨rfl, rfl, (congrArg (fun z => some (Value.int z)) (if_neg (fun z => z.1 q3))).symm⟩
  · refine own_iloadN 7 Y disd_6 rfl rfl ?_
    refine own_bipush 9 Y (57 : Int32) disd_7 rfl rfl ?_
    refine own_ic_gt 16 12 Y disd_9 (by decide) rfl (fun q9 => ?_) (fun q9 => ?_)
    · refine own_iconst 17 Y (0 : Int32) disd_16 rfl rfl ?_
      exact own_retN Y (t := .boolean) rfl (by simp) disd_17 (by decide) (by decide) ⟨rfl, rfl, (congrArg (fun z => some (Value.int z)) (if_neg (fun z => z.2 q9))).symm⟩
    · refine own_iconst 13 Y (1 : Int32) disd_12 rfl rfl ?_
      refine own_goto 17 Y disd_13 (by decide) ?_
      exact own_retN Y (t := .boolean) rfl (by simp) disd_17 (by decide) (by decide) ⟨rfl, rfl, (congrArg (fun z => some (Value.int z)) (if_pos ⟨q3, q9⟩)).symm⟩
set_option maxRecDepth 65536 in
set_option maxHeartbeats 4000000 in
theorem c_rid (l : Launch) (Z : State) (a0 : Array Value) (hw : ∀ d ∈ tables_1, d.before a0 Z = true) (cc : Int32) (h0 : Heap) : own_M l (⟨"com/example/cardinal_verbs/cardinalverbs/ReadLimit", "isDigit", "(C)Z"⟩ : MethodName) prog_13_method_8_code 1 (some .boolean) [] ({ frames := 0, cells := 0, slots := 0, locals := 0 } : Room) Z #[.int cc] h0 (Qv (some (.int (if Dg cc then (1 : Int32) else (0 : Int32)))) h0) := by
  refine own_met plrid (Lf := #[.val (.int cc)]) (fun m => by first | (simp [entryFrame, mkF, argsToLocals, Value.category]; done) | rfl) ?_
  intro p e s m below meth c T Y
  refine own_iloadN 1 Y drid_0 rfl rfl ?_
  refine own_bipush 3 Y (48 : Int32) drid_1 rfl rfl ?_
  refine own_ic_lt 16 6 Y drid_3 (by decide) rfl (fun q3 => ?_) (fun q3 => ?_)
  · refine own_iconst 17 Y (0 : Int32) drid_16 rfl rfl ?_
    exact own_retN Y (t := .boolean) rfl (by simp) drid_17 (by decide) (by decide) ⟨rfl, rfl, (congrArg (fun z => some (Value.int z)) (if_neg (fun z => z.1 q3))).symm⟩
  · refine own_iloadN 7 Y drid_6 rfl rfl ?_
    refine own_bipush 9 Y (57 : Int32) drid_7 rfl rfl ?_
    refine own_ic_gt 16 12 Y drid_9 (by decide) rfl (fun q9 => ?_) (fun q9 => ?_)
    · refine own_iconst 17 Y (0 : Int32) drid_16 rfl rfl ?_
      exact own_retN Y (t := .boolean) rfl (by simp) drid_17 (by decide) (by decide) ⟨rfl, rfl, (congrArg (fun z => some (Value.int z)) (if_neg (fun z => z.2 q9))).symm⟩
    · refine own_iconst 13 Y (1 : Int32) drid_12 rfl rfl ?_
      refine own_goto 17 Y drid_13 (by decide) ?_
      exact own_retN Y (t := .boolean) rfl (by simp) drid_17 (by decide) (by decide) ⟨rfl, rfl, (congrArg (fun z => some (Value.int z)) (if_pos ⟨q3, q9⟩)).symm⟩
set_option maxRecDepth 65536 in
set_option maxHeartbeats 4000000 in
theorem c_sg (l : Launch) (Z : State) (a0 : Array Value) (hw : ∀ d ∈ tables_1, d.before a0 Z = true) (cc : Int32) (h0 : Heap) : own_M l (⟨"com/example/cardinal_verbs/cardinalverbs/ReadLimit", "isSign", "(C)Z"⟩ : MethodName) prog_13_method_9_code 1 (some .boolean) [] ({ frames := 0, cells := 0, slots := 0, locals := 0 } : Room) Z #[.int cc] h0 (Qv (some (.int (if Sg cc then (1 : Int32) else (0 : Int32)))) h0) := by
  refine own_met plsg (Lf := #[.val (.int cc)]) (fun m => by first | (simp [entryFrame, mkF, argsToLocals, Value.category]; done) | rfl) ?_
  intro p e s m below meth c T Y
  refine own_iloadN 1 Y dsg_0 rfl rfl ?_
  refine own_bipush 3 Y (45 : Int32) dsg_1 rfl rfl ?_
  refine own_ic_eq 12 6 Y dsg_3 (by decide) rfl (fun q3 => ?_) (fun q3 => ?_)
  · refine own_iconst 13 Y (1 : Int32) dsg_12 rfl rfl ?_
    refine own_goto 17 Y dsg_13 (by decide) ?_
    exact own_retN Y (t := .boolean) rfl (by simp) dsg_17 (by decide) (by decide) ⟨rfl, rfl, (congrArg (fun z => some (Value.int z)) (if_pos (Or.inl q3))).symm⟩
  · refine own_iloadN 7 Y dsg_6 rfl rfl ?_
    refine own_bipush 9 Y (43 : Int32) dsg_7 rfl rfl ?_
    refine own_ic_ne 16 12 Y dsg_9 (by decide) rfl (fun q9 => ?_) (fun q9 => ?_)
    · refine own_iconst 17 Y (0 : Int32) dsg_16 rfl rfl ?_
      exact own_retN Y (t := .boolean) rfl (by simp) dsg_17 (by decide) (by decide) ⟨rfl, rfl, (congrArg (fun z => some (Value.int z)) (if_neg (fun z => z.elim q3 q9))).symm⟩
    · refine own_iconst 13 Y (1 : Int32) dsg_12 rfl rfl ?_
      refine own_goto 17 Y dsg_13 (by decide) ?_
      exact own_retN Y (t := .boolean) rfl (by simp) dsg_17 (by decide) (by decide) ⟨rfl, rfl, (congrArg (fun z => some (Value.int z)) (if_pos (Or.inr q9))).symm⟩
def Qany (h0 : Heap) (v : Option Value) (h : Heap) (L : List Loc) : Prop := h0 = h ∧ L = [] ∧ ∃ cc : Int32, nar .char cc = cc ∧ v = some (.int cc)
set_option maxRecDepth 65536 in
set_option maxHeartbeats 4000000 in
theorem c_any (l : Launch) (Z : State) (a0 : Array Value) (hw : ∀ d ∈ tables_1, d.before a0 Z = true) (x0 x1 : Int32) (h0 : Heap) : own_M l (⟨"com/example/cardinal_verbs/cardinalverbs/ReadLimitExponentWithinPinLaw", "any", "(II)C"⟩ : MethodName) method_3_code 3 (some .char) [] ({ frames := 0, cells := 0, slots := 0, locals := 0 } : Room) Z #[.int x0, .int x1] h0 (Qany h0) := by
  refine own_met plany (Lf := #[.val (.int x0), .val (.int x1), .unset]) (fun m => by first | (simp [entryFrame, mkF, argsToLocals, Value.category]; done) | rfl) ?_
  intro p e s m below meth c T Y
  refine own_iloadN 1 Y dany_0 rfl rfl ?_
  refine own_bipush 3 Y (7 : Int32) dany_1 rfl rfl ?_
  refine own_iand 4 Y dany_3 rfl ?_
  refine own_istoreN 5 Y #[.val (.int x0), .val (.int x1), .val (.int (x0 &&& (7 : Int32)))] dany_4 rfl rfl ?_
  refine own_iloadN 6 Y dany_5 rfl rfl ?_
  refine own_if_ne 21 9 Y dany_6 (by decide) rfl (fun q6 => ?_) (fun q6 => ?_)
  · refine own_iloadN 22 Y dany_21 rfl rfl ?_
    refine own_iconst 23 Y (1 : Int32) dany_22 rfl rfl ?_
    refine own_ic_ne 29 26 Y dany_23 (by decide) rfl (fun q23 => ?_) (fun q23 => ?_)
    · refine own_iloadN 30 Y dany_29 rfl rfl ?_
      refine own_iconst 31 Y (2 : Int32) dany_30 rfl rfl ?_
      refine own_ic_ne 37 34 Y dany_31 (by decide) rfl (fun q31 => ?_) (fun q31 => ?_)
      · refine own_iloadN 38 Y dany_37 rfl rfl ?_
        refine own_iconst 39 Y (3 : Int32) dany_38 rfl rfl ?_
        refine own_ic_ne 45 42 Y dany_39 (by decide) rfl (fun q39 => ?_) (fun q39 => ?_)
        · refine own_iloadN 46 Y dany_45 rfl rfl ?_
          refine own_iconst 47 Y (4 : Int32) dany_46 rfl rfl ?_
          refine own_ic_ne 53 50 Y dany_47 (by decide) rfl (fun q47 => ?_) (fun q47 => ?_)
          · refine own_iloadN 54 Y dany_53 rfl rfl ?_
            refine own_iconst 55 Y (5 : Int32) dany_54 rfl rfl ?_
            refine own_ic_ne 61 58 Y dany_55 (by decide) rfl (fun q55 => ?_) (fun q55 => ?_)
            · refine own_iloadN 62 Y dany_61 rfl rfl ?_
              refine own_ldcI 64 Y (own_wd hw 40 rfl) dany_62 rfl ?_
              refine own_iand 65 Y dany_64 rfl ?_
              refine own_i2c 66 Y dany_65 rfl ?_
              exact own_retN Y (t := .char) rfl (by simp) dany_66 (by decide) (by decide) ⟨rfl, rfl, _, own_nar2 _, rfl⟩
            · refine own_bipush 60 Y (43 : Int32) dany_58 rfl rfl ?_
              exact own_retN Y (t := .char) rfl (by simp) dany_60 (by decide) (by decide) ⟨rfl, rfl, _, own_nar2 _, rfl⟩
          · refine own_bipush 52 Y (45 : Int32) dany_50 rfl rfl ?_
            exact own_retN Y (t := .char) rfl (by simp) dany_52 (by decide) (by decide) ⟨rfl, rfl, _, own_nar2 _, rfl⟩
        · refine own_bipush 44 Y (69 : Int32) dany_42 rfl rfl ?_
          exact own_retN Y (t := .char) rfl (by simp) dany_44 (by decide) (by decide) ⟨rfl, rfl, _, own_nar2 _, rfl⟩
      · refine own_bipush 36 Y (101 : Int32) dany_34 rfl rfl ?_
        exact own_retN Y (t := .char) rfl (by simp) dany_36 (by decide) (by decide) ⟨rfl, rfl, _, own_nar2 _, rfl⟩
    · refine own_bipush 28 Y (46 : Int32) dany_26 rfl rfl ?_
      exact own_retN Y (t := .char) rfl (by simp) dany_28 (by decide) (by decide) ⟨rfl, rfl, _, own_nar2 _, rfl⟩
  · refine own_bipush 11 Y (48 : Int32) dany_9 rfl rfl ?_
    refine own_iloadN 12 Y dany_11 rfl rfl ?_
    refine own_ldcI 14 Y (own_wd hw 13 rfl) dany_12 rfl ?_
    refine own_iand 15 Y dany_14 rfl ?_
    refine own_bipush 17 Y (10 : Int32) dany_15 rfl rfl ?_
    refine own_irem 18 Y dany_17 (by decide) rfl ?_
    refine own_iadd 19 Y dany_18 rfl ?_
    refine own_i2c 20 Y dany_19 rfl ?_
    exact own_retN Y (t := .char) rfl (by simp) dany_20 (by decide) (by decide) ⟨rfl, rfl, _, own_nar2 _, rfl⟩
def Qdig (Z : State) (n0 : Nat) (t : Addr) (kt : ClassId) (ch : Nat → Int32) (pa : Addr) (kp : ClassId) (v : Option Value) (h : Heap) (L : List Loc) : Prop := v = none ∧ WD Z h n0 L t kt ch pa kp
set_option maxRecDepth 65536 in
set_option maxHeartbeats 4000000 in
theorem c_dig (l : Launch) (Z : State) (a0 : Array Value) (hw : ∀ d ∈ tables_1, d.before a0 Z = true) (t pa : Addr) (kt kp : ClassId) (ch : Nat → Int32) (en wn vn jn : Nat) (ww jj : Int32) (vv pj : Int64) (h0 : Heap) (n0 : Nat) (hpj : pj ≠ 0) (gt : n0 ≤ t) (npt : pa ≠ t) (hjw : jj < ww ↔ jn < wn) (hix : jn < wn → Int32.ofNat en - (1 : Int32) - jj = Int32.ofNat (en - 1 - jn)) (hk : jn < wn → en - 1 - jn < 28) (hdg : nar .char (((48 : Int64) + ((vv / pj) - ((vv / pj) / (10 : Int64)) * (10 : Int64))).toInt32.toUInt32.toUInt16.toUInt32.toInt32) = dgc vn jn) (D : WD Z h0 n0 [] t kt ch pa kp) : own_M l (⟨"com/example/cardinal_verbs/cardinalverbs/ReadLimitExponentWithinPinLaw", "dig", "([CIIJJI)V"⟩ : MethodName) method_4_code 8 none [] ({ frames := 0, cells := 0, slots := 0, locals := 0 } : Room) Z #[.ref t, .int (Int32.ofNat en), .int ww, .long vv, .long pj, .int jj] h0 (Qdig Z n0 t kt (stepD ch en wn vn jn) pa kp) := by
  refine own_met pldig (Lf := #[.val (.ref t), .val (.int (Int32.ofNat en)), .val (.int ww), .val (.long vv), .second, .val (.long pj), .second, .val (.int jj)]) (fun m => by first | (simp [entryFrame, mkF, argsToLocals, Value.category]; done) | rfl) ?_
  intro p e s m below meth c T Y
  refine own_iload 2 Y ddig_0 rfl rfl ?_
  refine own_iloadN 3 Y ddig_2 rfl rfl ?_
  refine own_ic_ge 28 6 Y ddig_3 (by decide) rfl (fun q3 => ?_) (fun q3 => ?_)
  · exact own_retV Y rfl ddig_28 (by decide) (by decide) ⟨rfl, by unfold stepD; rw [if_neg (fun z => q3 (hjw.mpr z))]; exact D⟩
  · refine own_aloadN 7 Y ddig_6 rfl rfl rfl ?_
    refine own_iloadN 8 Y ddig_7 rfl rfl ?_
    refine own_iconst 9 Y (1 : Int32) ddig_8 rfl rfl ?_
    refine own_isub 10 Y ddig_9 rfl ?_
    refine own_iload 12 Y ddig_10 rfl rfl ?_
    refine own_isub 13 Y ddig_12 rfl ?_
    refine own_ldc2J 16 Y (own_wd hw 26 rfl) ddig_13 rfl ?_
    refine own_lloadN 17 Y ddig_16 rfl rfl ?_
    refine own_lload 19 Y ddig_17 rfl rfl ?_
    refine own_ldiv 20 Y ddig_19 hpj rfl ?_
    refine own_ldc2J 23 Y (own_wd hw 1 rfl) ddig_20 rfl ?_
    refine own_lrem 24 Y ddig_23 (by decide) rfl ?_
    refine own_ladd 25 Y ddig_24 rfl ?_
    refine own_l2i 26 Y ddig_25 rfl ?_
    refine own_i2c 27 Y ddig_26 rfl ?_
    have hjn := hjw.mp q3
    refine own_putT 28 Y D gt npt (hix hjn) (hk hjn) hdg ddig_27 rfl fun T1 h1 L1 Y1 D => ?_
    exact own_retV Y1 rfl ddig_28 (by decide) (by decide) ⟨rfl, by unfold stepD; rw [if_pos hjn]; exact D⟩
set_option maxRecDepth 65536 in
set_option maxHeartbeats 4000000 in
theorem ie_turn {p : Program} {l : Launch} {e : Env} {R : Room} {s : State} {m : MethodId} {args : Array Value} {below : List Frame} {meth : Method} {c : Code} {T : State} {Z : State} {h : Heap} {a0 : Array Value} {E : Outcome → State → Prop} (hw : ∀ d ∈ tables_1, d.before a0 Z = true) (t : Addr) (kt : ClassId) (ch : Nat → Int32) (sn dn M f0 p0 i : Nat) (A : AT Z h t kt ch) (hR : 1 ≤ R.frames) (hRl : 30 ≤ R.locals) (hiM : i < M) (hM : M < 28) (hi28 : i < 28) (Y : own_S Z (⟨"com/example/cardinal_verbs/cardinalverbs/ReadLimit", "isExponent", "([CII)Z"⟩ : MethodName) prog_13_method_7_code 7 (some .boolean) p l e R s m args below meth c T h [] 0 0) (KD : ∀ (T : State), own_S Z (⟨"com/example/cardinal_verbs/cardinalverbs/ReadLimit", "isExponent", "([CII)Z"⟩ : MethodName) prog_13_method_7_code 7 (some .boolean) p l e R s m args below meth c T h [] 0 0 → Dg (ch i) → own_G p e below E (T.setTop (mkF m 73 #[.val (.ref t), .val (.int (Int32.ofNat sn)), .val (.int (Int32.ofNat dn)), .val (.int (Int32.ofNat M)), .val (.int (Int32.ofNat (f0 + 1))), .val (.int (Int32.ofNat p0)), .val (.int (Int32.ofNat (i + 1)))] []))) (KP : ∀ (T : State), own_S Z (⟨"com/example/cardinal_verbs/cardinalverbs/ReadLimit", "isExponent", "([CII)Z"⟩ : MethodName) prog_13_method_7_code 7 (some .boolean) p l e R s m args below meth c T h [] 0 0 → (¬ Dg (ch i) ∧ ch i = 46) → own_G p e below E (T.setTop (mkF m 73 #[.val (.ref t), .val (.int (Int32.ofNat sn)), .val (.int (Int32.ofNat dn)), .val (.int (Int32.ofNat M)), .val (.int (Int32.ofNat f0)), .val (.int (Int32.ofNat (p0 + 1))), .val (.int (Int32.ofNat (i + 1)))] []))) (KB : ∀ (T : State), own_S Z (⟨"com/example/cardinal_verbs/cardinalverbs/ReadLimit", "isExponent", "([CII)Z"⟩ : MethodName) prog_13_method_7_code 7 (some .boolean) p l e R s m args below meth c T h [] 0 0 → (¬ Dg (ch i) ∧ ¬ ch i = 46) → own_G p e below E (T.setTop (mkF m 110 #[.val (.ref t), .val (.int (Int32.ofNat sn)), .val (.int (Int32.ofNat dn)), .val (.int (Int32.ofNat M)), .val (.int (Int32.ofNat f0)), .val (.int (Int32.ofNat p0)), .val (.int (Int32.ofNat i))] []))) : own_G p e below E (T.setTop (mkF m 73 #[.val (.ref t), .val (.int (Int32.ofNat sn)), .val (.int (Int32.ofNat dn)), .val (.int (Int32.ofNat M)), .val (.int (Int32.ofNat f0)), .val (.int (Int32.ofNat p0)), .val (.int (Int32.ofNat i))] [])) := by
  refine own_iload 75 Y die_73 rfl rfl ?_
  refine own_iloadN 76 Y die_75 rfl rfl ?_
  refine own_icF 79 Y die_76 (XT.ii_ge_f ((own_olt (by omega) (by omega)).mpr hiM)) rfl ?_
  refine own_aloadN 80 Y die_79 rfl rfl rfl ?_
  refine own_iload 82 Y die_80 rfl rfl ?_
  refine own_ldT 83 Y A rfl hi28 die_82 rfl ?_
  refine own_callS 86 Y [(.int (ch i))] [] (own_wd hw 31 rfl) (own_wd hw 32 rfl) (own_wd hw 29 rfl) (own_wd hw 33 rfl) (c_rid l Z a0 hw (ch i) _) die_83 (by decide) (lenOf pdrid rfl) rfl rfl (Nat.le_trans (by decide) hR) (Nat.le_trans (by decide) hRl) (Nat.zero_le _) (Nat.zero_le _) rfl fun v1 T1 h1 L1 Y1 hQ1 => ?_
  obtain ⟨rfl, rfl, rfl⟩ := hQ1
  by_cases hD : Dg (ch i)
  · rw [if_pos hD]
    show own_G p e below _ (T1.setTop (mkF m 86 #[.val (.ref t), .val (.int (Int32.ofNat sn)), .val (.int (Int32.ofNat dn)), .val (.int (Int32.ofNat M)), .val (.int (Int32.ofNat f0)), .val (.int (Int32.ofNat p0)), .val (.int (Int32.ofNat i))] [(.int (1 : Int32))]))
    refine own_ifF 89 Y1 die_86 (XT.i0_eq_f (by decide)) rfl ?_
    refine own_iinc 92 Y1 #[.val (.ref t), .val (.int (Int32.ofNat sn)), .val (.int (Int32.ofNat dn)), .val (.int (Int32.ofNat M)), .val (.int ((Int32.ofNat f0) + (1 : Int32))), .val (.int (Int32.ofNat p0)), .val (.int (Int32.ofNat i))] (1 : Int32) die_89 rfl rfl rfl rfl ?_
    rw [own_oadd f0]
    refine own_goto 112 Y1 die_92 (by decide) ?_
    refine own_iinc 115 Y1 #[.val (.ref t), .val (.int (Int32.ofNat sn)), .val (.int (Int32.ofNat dn)), .val (.int (Int32.ofNat M)), .val (.int (Int32.ofNat (f0 + 1))), .val (.int (Int32.ofNat p0)), .val (.int ((Int32.ofNat i) + (1 : Int32)))] (1 : Int32) die_112 rfl rfl rfl rfl ?_
    rw [own_oadd i]
    refine own_goto 73 Y1 die_115 (by decide) ?_
    exact KD _ Y1 hD
  · rw [if_neg hD]
    show own_G p e below _ (T1.setTop (mkF m 86 #[.val (.ref t), .val (.int (Int32.ofNat sn)), .val (.int (Int32.ofNat dn)), .val (.int (Int32.ofNat M)), .val (.int (Int32.ofNat f0)), .val (.int (Int32.ofNat p0)), .val (.int (Int32.ofNat i))] [(.int (0 : Int32))]))
    refine own_ifT 95 Y1 die_86 (XT.i0_eq_t (by decide)) (by decide) ?_
    refine own_aloadN 96 Y1 die_95 rfl rfl rfl ?_
    refine own_iload 98 Y1 die_96 rfl rfl ?_
    refine own_ldT 99 Y1 A rfl hi28 die_98 rfl ?_
    refine own_bipush 101 Y1 (46 : Int32) die_99 rfl rfl ?_
    by_cases h46 : ch i = 46
    · refine own_icF 104 Y1 die_101 (XT.ii_ne_f h46) rfl ?_
      refine own_iinc 107 Y1 #[.val (.ref t), .val (.int (Int32.ofNat sn)), .val (.int (Int32.ofNat dn)), .val (.int (Int32.ofNat M)), .val (.int (Int32.ofNat f0)), .val (.int ((Int32.ofNat p0) + (1 : Int32))), .val (.int (Int32.ofNat i))] (1 : Int32) die_104 rfl rfl rfl rfl ?_
      rw [own_oadd p0]
      refine own_goto 112 Y1 die_107 (by decide) ?_
      refine own_iinc 115 Y1 #[.val (.ref t), .val (.int (Int32.ofNat sn)), .val (.int (Int32.ofNat dn)), .val (.int (Int32.ofNat M)), .val (.int (Int32.ofNat f0)), .val (.int (Int32.ofNat (p0 + 1))), .val (.int ((Int32.ofNat i) + (1 : Int32)))] (1 : Int32) die_112 rfl rfl rfl rfl ?_
      rw [own_oadd i]
      refine own_goto 73 Y1 die_115 (by decide) ?_
      exact KP _ Y1 ⟨hD, h46⟩
    · refine own_icT 110 Y1 die_101 (XT.ii_ne_t h46) (by decide) ?_
      exact KB _ Y1 ⟨hD, h46⟩
set_option maxRecDepth 65536 in
set_option maxHeartbeats 4000000 in
theorem ie_end {p : Program} {l : Launch} {e : Env} {R : Room} {s : State} {m : MethodId} {args : Array Value} {below : List Frame} {meth : Method} {c : Code} {T : State} {Z : State} {h : Heap} {a0 : Array Value} {Q : Option Value → Heap → List Loc → Prop} (hw : ∀ d ∈ tables_1, d.before a0 Z = true) (t : Addr) (kt : ClassId) (ch : Nat → Int32) (sn dn M f0 p0 : Nat) (A : AT Z h t kt ch) (hR : 1 ≤ R.frames) (hRl : 30 ≤ R.locals) (hM : M < 28) (hf28 : f0 < 2 ^ 31) (hp28 : p0 < 2 ^ 31) (hQ1 : scan ch M 0 f0 p0 = true → Q (some (.int 1)) h []) (hQ0 : scan ch M 0 f0 p0 = false → Q (some (.int 0)) h []) (Y : own_S Z (⟨"com/example/cardinal_verbs/cardinalverbs/ReadLimit", "isExponent", "([CII)Z"⟩ : MethodName) prog_13_method_7_code 7 (some .boolean) p l e R s m args below meth c T h [] 0 0)  : own_G p e below (own_E s Q 0 0) (T.setTop (mkF m 73 #[.val (.ref t), .val (.int (Int32.ofNat sn)), .val (.int (Int32.ofNat dn)), .val (.int (Int32.ofNat M)), .val (.int (Int32.ofNat f0)), .val (.int (Int32.ofNat p0)), .val (.int (Int32.ofNat M))] [])) := by
  refine own_iload 75 Y die_73 rfl rfl ?_
  refine own_iloadN 76 Y die_75 rfl rfl ?_
  refine own_icT 118 Y die_76 (XT.ii_ge_t (fun z => Nat.lt_irrefl _ ((own_olt (by omega) (by omega)).mp z))) (by decide) ?_
  by_cases hf : 0 < f0
  · refine own_iload 120 Y die_118 rfl rfl ?_
    refine own_ifF 123 Y die_120 (XT.i0_le_f ((own_olt (a := 0) (by decide) (by omega)).mpr hf)) rfl ?_
    by_cases hp1 : 1 < p0
    · refine own_iload 125 Y die_123 rfl rfl ?_
      refine own_iconst 126 Y (1 : Int32) die_125 rfl rfl ?_
      refine own_icT 133 Y die_126 (XT.ii_gt_t ((own_olt (a := 1) (by decide) (by omega)).mpr hp1)) (by decide) ?_
      refine own_iconst 134 Y (0 : Int32) die_133 rfl rfl ?_
      exact own_retN Y (t := .boolean) rfl (by simp) die_134 (by decide) (by decide) (hQ0 (decide_eq_false (fun z => Nat.not_lt.mpr z.2 hp1)))
    · refine own_iload 125 Y die_123 rfl rfl ?_
      refine own_iconst 126 Y (1 : Int32) die_125 rfl rfl ?_
      refine own_icF 129 Y die_126 (XT.ii_gt_f (fun z => hp1 ((own_olt (a := 1) (by decide) (by omega)).mp z))) rfl ?_
      refine own_iconst 130 Y (1 : Int32) die_129 rfl rfl ?_
      refine own_goto 134 Y die_130 (by decide) ?_
      exact own_retN Y (t := .boolean) rfl (by simp) die_134 (by decide) (by decide) (hQ1 (decide_eq_true ⟨hf, by omega⟩))
  · refine own_iload 120 Y die_118 rfl rfl ?_
    refine own_ifT 133 Y die_120 (XT.i0_le_t (fun z => hf ((own_olt (a := 0) (by decide) (by omega)).mp z))) (by decide) ?_
    refine own_iconst 134 Y (0 : Int32) die_133 rfl rfl ?_
    exact own_retN Y (t := .boolean) rfl (by simp) die_134 (by decide) (by decide) (hQ0 (decide_eq_false (fun z => hf z.1)))
set_option maxRecDepth 65536 in
set_option maxHeartbeats 4000000 in
theorem ie_bad {p : Program} {l : Launch} {e : Env} {R : Room} {s : State} {m : MethodId} {args : Array Value} {below : List Frame} {meth : Method} {c : Code} {T : State} {Z : State} {h : Heap} {a0 : Array Value} {Q : Option Value → Heap → List Loc → Prop} (hw : ∀ d ∈ tables_1, d.before a0 Z = true) (t : Addr) (kt : ClassId) (ch : Nat → Int32) (sn dn M f0 p0 i : Nat) (A : AT Z h t kt ch) (hR : 1 ≤ R.frames) (hRl : 30 ≤ R.locals) (hQ0 : Q (some (.int 0)) h []) (Y : own_S Z (⟨"com/example/cardinal_verbs/cardinalverbs/ReadLimit", "isExponent", "([CII)Z"⟩ : MethodName) prog_13_method_7_code 7 (some .boolean) p l e R s m args below meth c T h [] 0 0)  : own_G p e below (own_E s Q 0 0) (T.setTop (mkF m 110 #[.val (.ref t), .val (.int (Int32.ofNat sn)), .val (.int (Int32.ofNat dn)), .val (.int (Int32.ofNat M)), .val (.int (Int32.ofNat f0)), .val (.int (Int32.ofNat p0)), .val (.int (Int32.ofNat i))] [])) := by
  refine own_iconst 111 Y (0 : Int32) die_110 rfl rfl ?_
  exact own_retN Y (t := .boolean) rfl (by simp) die_111 (by decide) (by decide) hQ0
theorem ie_loop {p : Program} {l : Launch} {e : Env} {R : Room} {s : State} {m : MethodId} {args : Array Value} {below : List Frame} {meth : Method} {c : Code} {Z : State} {h : Heap} {a0 : Array Value} {Q : Option Value → Heap → List Loc → Prop} (hw : ∀ d ∈ tables_1, d.before a0 Z = true) (t : Addr) (kt : ClassId) (ch : Nat → Int32) (sn dn M : Nat) (A : AT Z h t kt ch) (hR : 1 ≤ R.frames) (hRl : 30 ≤ R.locals) (hM : M < 28) : ∀ (n i f0 p0 : Nat) (T : State), own_S Z (⟨"com/example/cardinal_verbs/cardinalverbs/ReadLimit", "isExponent", "([CII)Z"⟩ : MethodName) prog_13_method_7_code 7 (some .boolean) p l e R s m args below meth c T h [] 0 0 → i + n = M → f0 + n < 2 ^ 31 → p0 + n < 2 ^ 31 → (scan ch i n f0 p0 = true → Q (some (.int 1)) h []) → (scan ch i n f0 p0 = false → Q (some (.int 0)) h []) → own_G p e below (own_E s Q 0 0) (T.setTop (mkF m 73 #[.val (.ref t), .val (.int (Int32.ofNat sn)), .val (.int (Int32.ofNat dn)), .val (.int (Int32.ofNat M)), .val (.int (Int32.ofNat f0)), .val (.int (Int32.ofNat p0)), .val (.int (Int32.ofNat i))] [])) := by
  intro n
  induction n with
  | zero =>
    intro i f0 p0 T Y hi hf hp q1 q0
    obtain rfl : i = M := hi
    exact ie_end (a0 := a0) hw t kt ch sn dn i f0 p0 A hR hRl hM (by omega) (by omega) q1 q0 Y
  | succ n ih =>
    intro i f0 p0 T Y hi hf hp q1 q0
    refine ie_turn (a0 := a0) hw t kt ch sn dn M f0 p0 i A hR hRl (by omega) hM (by omega) Y (fun T Y hD => ?_) (fun T Y hD => ?_) (fun T Y hD => ?_)
    · exact ih (i + 1) (f0 + 1) p0 T Y (by omega) (by omega) (by omega) (fun z => q1 (by rw [scan, if_pos hD]; exact z)) (fun z => q0 (by rw [scan, if_pos hD]; exact z))
    · exact ih (i + 1) f0 (p0 + 1) T Y (by omega) (by omega) (by omega) (fun z => q1 (by rw [scan, if_neg hD.1, if_pos hD.2]; exact z)) (fun z => q0 (by rw [scan, if_neg hD.1, if_pos hD.2]; exact z))
    · exact ie_bad (a0 := a0) hw t kt ch sn dn M f0 p0 i A hR hRl (q0 (by rw [scan, if_neg hD.1, if_neg hD.2])) Y
set_option maxRecDepth 65536 in
set_option maxHeartbeats 4000000 in
theorem ie_21 {p : Program} {l : Launch} {e : Env} {R : Room} {s : State} {m : MethodId} {args : Array Value} {below : List Frame} {meth : Method} {c : Code} {T : State} {Z : State} {h : Heap} {a0 : Array Value} {Q : Option Value → Heap → List Loc → Prop} (hw : ∀ d ∈ tables_1, d.before a0 Z = true) (t : Addr) (kt : ClassId) (ch : Nat → Int32) (sn dn M : Nat) (A : AT Z h t kt ch) (hR : 1 ≤ R.frames) (hRl : 30 ≤ R.locals) (hM : M < 28) (hsM : sn ≤ M) (hQ1 : (Mk (ch M) ∧ Num ch sn M = true) → Q (some (.int 1)) h []) (hQ0 : ¬ (Mk (ch M) ∧ Num ch sn M = true) → Q (some (.int 0)) h []) (Y : own_S Z (⟨"com/example/cardinal_verbs/cardinalverbs/ReadLimit", "isExponent", "([CII)Z"⟩ : MethodName) prog_13_method_7_code 7 (some .boolean) p l e R s m args below meth c T h [] 0 0)  : own_G p e below (own_E s Q 0 0) (T.setTop (mkF m 21 #[.val (.ref t), .val (.int (Int32.ofNat sn)), .val (.int (Int32.ofNat dn)), .val (.int (Int32.ofNat M)), .unset, .unset, .unset] [])) := by
  refine own_iloadN 22 Y die_21 rfl rfl ?_
  refine own_iloadN 23 Y die_22 rfl rfl ?_
  refine own_icF 26 Y die_23 (XT.ii_lt_f (fun z => Nat.not_lt.mpr hsM ((own_olt (by omega) (by omega)).mp z))) rfl ?_
  refine own_aloadN 27 Y die_26 rfl rfl rfl ?_
  refine own_iloadN 28 Y die_27 rfl rfl ?_
  refine own_ldT 29 Y A rfl hM die_28 rfl ?_
  refine own_bipush 31 Y (101 : Int32) die_29 rfl rfl ?_
  by_cases h1 : ch M = 101
  · refine own_icT 44 Y die_31 (XT.ii_eq_t h1) (by decide) ?_
    refine own_iconst 45 Y (0 : Int32) die_44 rfl rfl ?_
    refine own_istore 47 Y #[.val (.ref t), .val (.int (Int32.ofNat sn)), .val (.int (Int32.ofNat dn)), .val (.int (Int32.ofNat M)), .val (.int (0 : Int32)), .unset, .unset] die_45 rfl rfl ?_
    refine own_iconst 48 Y (0 : Int32) die_47 rfl rfl ?_
    refine own_istore 50 Y #[.val (.ref t), .val (.int (Int32.ofNat sn)), .val (.int (Int32.ofNat dn)), .val (.int (Int32.ofNat M)), .val (.int (0 : Int32)), .val (.int (0 : Int32)), .unset] die_48 rfl rfl ?_
    refine own_iloadN 51 Y die_50 rfl rfl ?_
    refine own_iloadN 52 Y die_51 rfl rfl ?_
    by_cases h5 : sn < M
    · refine own_icF 55 Y die_52 (XT.ii_le_f ((own_olt (by omega) (by omega)).mpr h5)) rfl ?_
      refine own_aloadN 56 Y die_55 rfl rfl rfl ?_
      refine own_iloadN 57 Y die_56 rfl rfl ?_
      refine own_ldT 58 Y A rfl (by omega) die_57 rfl ?_
      refine own_callS 61 Y [(.int (ch sn))] [] (own_wd hw 44 rfl) (own_wd hw 45 rfl) (own_wd hw 29 rfl) (own_wd hw 46 rfl) (c_sg l Z a0 hw (ch sn) _) die_58 (by decide) (lenOf pdsg rfl) rfl rfl (Nat.le_trans (by decide) hR) (Nat.le_trans (by decide) hRl) (Nat.zero_le _) (Nat.zero_le _) rfl fun v1 T1 h1 L1 Y1 hQ1 => ?_
      obtain ⟨rfl, rfl, rfl⟩ := hQ1
      by_cases hS : Sg (ch sn)
      · rw [if_pos hS]
        show own_G p e below _ (T1.setTop (mkF m 61 #[.val (.ref t), .val (.int (Int32.ofNat sn)), .val (.int (Int32.ofNat dn)), .val (.int (Int32.ofNat M)), .val (.int (0 : Int32)), .val (.int (0 : Int32)), .unset] [(.int (1 : Int32))]))
        refine own_ifF 64 Y1 die_61 (XT.i0_eq_f (by decide)) rfl ?_
        refine own_iloadN 65 Y1 die_64 rfl rfl ?_
        refine own_iconst 66 Y1 (1 : Int32) die_65 rfl rfl ?_
        refine own_iadd 67 Y1 die_66 rfl ?_
        rw [own_oadd sn]
        refine own_goto 71 Y1 die_67 (by decide) ?_
        refine own_istore 73 Y1 #[.val (.ref t), .val (.int (Int32.ofNat sn)), .val (.int (Int32.ofNat dn)), .val (.int (Int32.ofNat M)), .val (.int (0 : Int32)), .val (.int (0 : Int32)), .val (.int (Int32.ofNat (sn + 1)))] die_71 rfl rfl ?_
        have eN : Num ch sn M = scan ch (sn + 1) (M - (sn + 1)) 0 0 := by unfold Num; rw [if_pos ⟨h5, hS⟩]
        exact ie_loop (a0 := a0) hw t kt ch sn dn M A hR hRl hM (M - (sn + 1)) (sn + 1) 0 0 _ Y1 (by omega) (by omega) (by omega) (fun z => hQ1 ⟨(Or.inl h1), eN.trans z⟩) (fun z => hQ0 (fun u => by rw [eN, z] at u; cases u.2))
      · rw [if_neg hS]
        show own_G p e below _ (T1.setTop (mkF m 61 #[.val (.ref t), .val (.int (Int32.ofNat sn)), .val (.int (Int32.ofNat dn)), .val (.int (Int32.ofNat M)), .val (.int (0 : Int32)), .val (.int (0 : Int32)), .unset] [(.int (0 : Int32))]))
        refine own_ifT 70 Y1 die_61 (XT.i0_eq_t (by decide)) (by decide) ?_
        refine own_iloadN 71 Y1 die_70 rfl rfl ?_
        refine own_istore 73 Y1 #[.val (.ref t), .val (.int (Int32.ofNat sn)), .val (.int (Int32.ofNat dn)), .val (.int (Int32.ofNat M)), .val (.int (0 : Int32)), .val (.int (0 : Int32)), .val (.int (Int32.ofNat sn))] die_71 rfl rfl ?_
        have eN : Num ch sn M = scan ch sn (M - sn) 0 0 := by unfold Num; rw [if_neg (fun z => hS z.2)]
        exact ie_loop (a0 := a0) hw t kt ch sn dn M A hR hRl hM (M - sn) sn 0 0 _ Y1 (by omega) (by omega) (by omega) (fun z => hQ1 ⟨(Or.inl h1), eN.trans z⟩) (fun z => hQ0 (fun u => by rw [eN, z] at u; cases u.2))
    · refine own_icT 70 Y die_52 (XT.ii_le_t (fun z => h5 ((own_olt (by omega) (by omega)).mp z))) (by decide) ?_
      refine own_iloadN 71 Y die_70 rfl rfl ?_
      refine own_istore 73 Y #[.val (.ref t), .val (.int (Int32.ofNat sn)), .val (.int (Int32.ofNat dn)), .val (.int (Int32.ofNat M)), .val (.int (0 : Int32)), .val (.int (0 : Int32)), .val (.int (Int32.ofNat sn))] die_71 rfl rfl ?_
      have eN : Num ch sn M = scan ch sn (M - sn) 0 0 := by unfold Num; rw [if_neg (fun z => h5 z.1)]
      exact ie_loop (a0 := a0) hw t kt ch sn dn M A hR hRl hM (M - sn) sn 0 0 _ Y (by omega) (by omega) (by omega) (fun z => hQ1 ⟨(Or.inl h1), eN.trans z⟩) (fun z => hQ0 (fun u => by rw [eN, z] at u; cases u.2))
  · refine own_icF 34 Y die_31 (XT.ii_eq_f h1) rfl ?_
    refine own_aloadN 35 Y die_34 rfl rfl rfl ?_
    refine own_iloadN 36 Y die_35 rfl rfl ?_
    refine own_ldT 37 Y A rfl hM die_36 rfl ?_
    refine own_bipush 39 Y (69 : Int32) die_37 rfl rfl ?_
    by_cases h2 : ch M = 69
    · refine own_icT 44 Y die_39 (XT.ii_eq_t h2) (by decide) ?_
      refine own_iconst 45 Y (0 : Int32) die_44 rfl rfl ?_
      refine own_istore 47 Y #[.val (.ref t), .val (.int (Int32.ofNat sn)), .val (.int (Int32.ofNat dn)), .val (.int (Int32.ofNat M)), .val (.int (0 : Int32)), .unset, .unset] die_45 rfl rfl ?_
      refine own_iconst 48 Y (0 : Int32) die_47 rfl rfl ?_
      refine own_istore 50 Y #[.val (.ref t), .val (.int (Int32.ofNat sn)), .val (.int (Int32.ofNat dn)), .val (.int (Int32.ofNat M)), .val (.int (0 : Int32)), .val (.int (0 : Int32)), .unset] die_48 rfl rfl ?_
      refine own_iloadN 51 Y die_50 rfl rfl ?_
      refine own_iloadN 52 Y die_51 rfl rfl ?_
      by_cases h5 : sn < M
      · refine own_icF 55 Y die_52 (XT.ii_le_f ((own_olt (by omega) (by omega)).mpr h5)) rfl ?_
        refine own_aloadN 56 Y die_55 rfl rfl rfl ?_
        refine own_iloadN 57 Y die_56 rfl rfl ?_
        refine own_ldT 58 Y A rfl (by omega) die_57 rfl ?_
        refine own_callS 61 Y [(.int (ch sn))] [] (own_wd hw 44 rfl) (own_wd hw 45 rfl) (own_wd hw 29 rfl) (own_wd hw 46 rfl) (c_sg l Z a0 hw (ch sn) _) die_58 (by decide) (lenOf pdsg rfl) rfl rfl (Nat.le_trans (by decide) hR) (Nat.le_trans (by decide) hRl) (Nat.zero_le _) (Nat.zero_le _) rfl fun v2 T2 h2 L2 Y2 hQ2 => ?_
        obtain ⟨rfl, rfl, rfl⟩ := hQ2
        by_cases hS : Sg (ch sn)
        · rw [if_pos hS]
          show own_G p e below _ (T2.setTop (mkF m 61 #[.val (.ref t), .val (.int (Int32.ofNat sn)), .val (.int (Int32.ofNat dn)), .val (.int (Int32.ofNat M)), .val (.int (0 : Int32)), .val (.int (0 : Int32)), .unset] [(.int (1 : Int32))]))
          refine own_ifF 64 Y2 die_61 (XT.i0_eq_f (by decide)) rfl ?_
          refine own_iloadN 65 Y2 die_64 rfl rfl ?_
          refine own_iconst 66 Y2 (1 : Int32) die_65 rfl rfl ?_
          refine own_iadd 67 Y2 die_66 rfl ?_
          rw [own_oadd sn]
          refine own_goto 71 Y2 die_67 (by decide) ?_
          refine own_istore 73 Y2 #[.val (.ref t), .val (.int (Int32.ofNat sn)), .val (.int (Int32.ofNat dn)), .val (.int (Int32.ofNat M)), .val (.int (0 : Int32)), .val (.int (0 : Int32)), .val (.int (Int32.ofNat (sn + 1)))] die_71 rfl rfl ?_
          have eN : Num ch sn M = scan ch (sn + 1) (M - (sn + 1)) 0 0 := by unfold Num; rw [if_pos ⟨h5, hS⟩]
          exact ie_loop (a0 := a0) hw t kt ch sn dn M A hR hRl hM (M - (sn + 1)) (sn + 1) 0 0 _ Y2 (by omega) (by omega) (by omega) (fun z => hQ1 ⟨(Or.inr h2), eN.trans z⟩) (fun z => hQ0 (fun u => by rw [eN, z] at u; cases u.2))
        · rw [if_neg hS]
          show own_G p e below _ (T2.setTop (mkF m 61 #[.val (.ref t), .val (.int (Int32.ofNat sn)), .val (.int (Int32.ofNat dn)), .val (.int (Int32.ofNat M)), .val (.int (0 : Int32)), .val (.int (0 : Int32)), .unset] [(.int (0 : Int32))]))
          refine own_ifT 70 Y2 die_61 (XT.i0_eq_t (by decide)) (by decide) ?_
          refine own_iloadN 71 Y2 die_70 rfl rfl ?_
          refine own_istore 73 Y2 #[.val (.ref t), .val (.int (Int32.ofNat sn)), .val (.int (Int32.ofNat dn)), .val (.int (Int32.ofNat M)), .val (.int (0 : Int32)), .val (.int (0 : Int32)), .val (.int (Int32.ofNat sn))] die_71 rfl rfl ?_
          have eN : Num ch sn M = scan ch sn (M - sn) 0 0 := by unfold Num; rw [if_neg (fun z => hS z.2)]
          exact ie_loop (a0 := a0) hw t kt ch sn dn M A hR hRl hM (M - sn) sn 0 0 _ Y2 (by omega) (by omega) (by omega) (fun z => hQ1 ⟨(Or.inr h2), eN.trans z⟩) (fun z => hQ0 (fun u => by rw [eN, z] at u; cases u.2))
      · refine own_icT 70 Y die_52 (XT.ii_le_t (fun z => h5 ((own_olt (by omega) (by omega)).mp z))) (by decide) ?_
        refine own_iloadN 71 Y die_70 rfl rfl ?_
        refine own_istore 73 Y #[.val (.ref t), .val (.int (Int32.ofNat sn)), .val (.int (Int32.ofNat dn)), .val (.int (Int32.ofNat M)), .val (.int (0 : Int32)), .val (.int (0 : Int32)), .val (.int (Int32.ofNat sn))] die_71 rfl rfl ?_
        have eN : Num ch sn M = scan ch sn (M - sn) 0 0 := by unfold Num; rw [if_neg (fun z => h5 z.1)]
        exact ie_loop (a0 := a0) hw t kt ch sn dn M A hR hRl hM (M - sn) sn 0 0 _ Y (by omega) (by omega) (by omega) (fun z => hQ1 ⟨(Or.inr h2), eN.trans z⟩) (fun z => hQ0 (fun u => by rw [eN, z] at u; cases u.2))
    · refine own_icF 42 Y die_39 (XT.ii_eq_f h2) rfl ?_
      refine own_iconst 43 Y (0 : Int32) die_42 rfl rfl ?_
      exact own_retN Y (t := .boolean) rfl (by simp) die_43 (by decide) (by decide) (hQ0 (fun u => u.1.elim h1 h2))
def Qie (ch : Nat → Int32) (sn dn : Nat) (h0 : Heap) (v : Option Value) (h : Heap) (L : List Loc) : Prop := h0 = h ∧ L = [] ∧ ((IsE ch sn dn ∧ v = some (.int 1)) ∨ (¬ IsE ch sn dn ∧ v = some (.int 0)))
set_option maxRecDepth 65536 in
set_option maxHeartbeats 4000000 in
theorem c_ie (l : Launch) (Z : State) (a0 : Array Value) (hw : ∀ d ∈ tables_1, d.before a0 Z = true) (t : Addr) (kt : ClassId) (ch : Nat → Int32) (sn dn : Nat) (h0 : Heap) (A : AT Z h0 t kt ch) (hsd0 : sn ≤ dn) (hdn : dn < 28) : own_M l (⟨"com/example/cardinal_verbs/cardinalverbs/ReadLimit", "isExponent", "([CII)Z"⟩ : MethodName) prog_13_method_7_code 7 (some .boolean) [] ({ frames := 1, cells := 0, slots := 0, locals := 30 } : Room) Z #[.ref t, .int (Int32.ofNat sn), .int (Int32.ofNat dn)] h0 (Qie ch sn dn h0) := by
  refine own_met plie (Lf := #[.val (.ref t), .val (.int (Int32.ofNat sn)), .val (.int (Int32.ofNat dn)), .unset, .unset, .unset, .unset]) (fun m => by first | (simp [entryFrame, mkF, argsToLocals, Value.category]; done) | rfl) ?_
  intro p e s m below meth c T Y
  by_cases hsd : sn < dn
  · refine own_iloadN 1 Y die_0 rfl rfl ?_
    refine own_iconst 2 Y (1 : Int32) die_1 rfl rfl ?_
    refine own_isub 3 Y die_2 rfl ?_
    obtain ⟨M, rfl⟩ : ∃ M, dn = M + 1 := ⟨dn - 1, by omega⟩
    rw [own_osub (Nat.le_add_left 1 M)]
    show own_G p e below _ (State.setTop _ (mkF m 3 #[.val (.ref t), .val (.int (Int32.ofNat sn)), .val (.int (Int32.ofNat (M + 1))), .unset, .unset, .unset, .unset] [(.int (Int32.ofNat M))]))
    refine own_istoreN 4 Y #[.val (.ref t), .val (.int (Int32.ofNat sn)), .val (.int (Int32.ofNat (M + 1))), .val (.int (Int32.ofNat M)), .unset, .unset, .unset] die_3 rfl rfl ?_
    refine own_iloadN 5 Y die_4 rfl rfl ?_
    refine own_iloadN 6 Y die_5 rfl rfl ?_
    refine own_icF 9 Y die_6 (XT.ii_lt_f (fun z => absurd ((own_olt (by omega) (by omega)).mp z) (by omega))) rfl ?_
    refine own_aloadN 10 Y die_9 rfl rfl rfl ?_
    refine own_iloadN 11 Y die_10 rfl rfl ?_
    refine own_ldT 12 Y A rfl (by omega) die_11 rfl ?_
    refine own_callS 15 Y [(.int (ch M))] [] (own_wd hw 44 rfl) (own_wd hw 45 rfl) (own_wd hw 29 rfl) (own_wd hw 46 rfl) (c_sg l Z a0 hw (ch M) _) die_12 (by decide) (lenOf pdsg rfl) rfl rfl (by decide) (Nat.le_of_ble_eq_true rfl) (by decide) (by decide) rfl fun v1 T1 h1 L1 Y1 hQ1 => ?_
    obtain ⟨rfl, rfl, rfl⟩ := hQ1
    by_cases hS : Sg (ch M)
    · rw [if_pos hS]
      show own_G p e below _ (T1.setTop (mkF m 15 #[.val (.ref t), .val (.int (Int32.ofNat sn)), .val (.int (Int32.ofNat (M + 1))), .val (.int (Int32.ofNat M)), .unset, .unset, .unset] [(.int (1 : Int32))]))
      refine own_ifF 18 Y1 die_15 (XT.i0_eq_f (by decide)) rfl ?_
      by_cases hms : sn < M
      · refine own_iinc 21 Y1 #[.val (.ref t), .val (.int (Int32.ofNat sn)), .val (.int (Int32.ofNat (M + 1))), .val (.int ((Int32.ofNat M) + (-1 : Int32))), .unset, .unset, .unset] (-1 : Int32) die_18 rfl rfl rfl rfl ?_
        rw [own_oaddm (k := M) (by omega)]
        have hno : ¬ (Mk (ch (M - 1)) ∧ Num ch sn (M - 1) = true) → ¬ IsE ch sn (M + 1) := by
          rintro u ⟨m', a1, a2, a3 | ⟨a3, a4⟩, a5⟩
          · have e0 : m' = M := by omega
            rw [e0] at a2; exact mk_sg a2 hS
          · have e0 : m' = M - 1 := by omega
            rw [e0] at a2 a5; exact u ⟨a2, a5⟩
        have hye : (Mk (ch (M - 1)) ∧ Num ch sn (M - 1) = true) → IsE ch sn (M + 1) := fun u => ⟨M - 1, by omega, u.1, Or.inr ⟨by omega, by rw [show M - 1 + 1 = M from (by omega)]; exact hS⟩, u.2⟩
        exact ie_21 (a0 := a0) hw t kt ch sn (M + 1) (M - 1) A (by decide) (by decide) (by omega) (by omega) (fun u => ⟨rfl, rfl, Or.inl ⟨hye u, rfl⟩⟩) (fun u => ⟨rfl, rfl, Or.inr ⟨hno u, rfl⟩⟩) Y1
      · refine own_iinc 21 Y1 #[.val (.ref t), .val (.int (Int32.ofNat sn)), .val (.int (Int32.ofNat (M + 1))), .val (.int ((Int32.ofNat M) + (-1 : Int32))), .unset, .unset, .unset] (-1 : Int32) die_18 rfl rfl rfl rfl ?_
        refine own_iloadN 22 Y1 die_21 rfl rfl ?_
        refine own_iloadN 23 Y1 die_22 rfl rfl ?_
        have hlt2 : Int32.ofNat M + (-1 : Int32) < Int32.ofNat sn := (show M = sn by omega) ▸ (Int32.sub_eq_add_neg (Int32.ofNat M) 1) ▸ own_predlt (k := M) (by omega)
        refine own_icT 42 Y1 die_23 (XT.ii_lt_t hlt2) (by decide) ?_
        refine own_iconst 43 Y1 (0 : Int32) die_42 rfl rfl ?_
        exact own_retN Y1 (t := .boolean) rfl (by simp) die_43 (by decide) (by decide) ⟨rfl, rfl, Or.inr ⟨fun z => by obtain ⟨m', a1, a2, a3 | ⟨a3, a4⟩, a5⟩ := z <;> first | omega | (obtain rfl : m' = M := (by omega); exact mk_sg a2 hS), rfl⟩⟩
    · rw [if_neg hS]
      show own_G p e below _ (T1.setTop (mkF m 15 #[.val (.ref t), .val (.int (Int32.ofNat sn)), .val (.int (Int32.ofNat (M + 1))), .val (.int (Int32.ofNat M)), .unset, .unset, .unset] [(.int (0 : Int32))]))
      refine own_ifT 21 Y1 die_15 (XT.i0_eq_t (by decide)) (by decide) ?_
      have hno : ¬ (Mk (ch M) ∧ Num ch sn M = true) → ¬ IsE ch sn (M + 1) := by
        rintro u ⟨m', a1, a2, a3 | ⟨a3, a4⟩, a5⟩
        · have e0 : m' = M := by omega
          rw [e0] at a2 a5; exact u ⟨a2, a5⟩
        · have e0 : m' + 1 = M := by omega
          rw [e0] at a4; exact hS a4
      exact ie_21 (a0 := a0) hw t kt ch sn (M + 1) M A (by decide) (by decide) (by omega) (by omega) (fun u => ⟨rfl, rfl, Or.inl ⟨⟨M, by omega, u.1, Or.inl rfl, u.2⟩, rfl⟩⟩) (fun u => ⟨rfl, rfl, Or.inr ⟨hno u, rfl⟩⟩) Y1
  · have hlt : dn = sn → Int32.ofNat dn - (1 : Int32) < Int32.ofNat sn := fun z => by subst z; exact own_predlt (by omega)
    refine own_iloadN 1 Y die_0 rfl rfl ?_
    refine own_iconst 2 Y (1 : Int32) die_1 rfl rfl ?_
    refine own_isub 3 Y die_2 rfl ?_
    refine own_istoreN 4 Y #[.val (.ref t), .val (.int (Int32.ofNat sn)), .val (.int (Int32.ofNat dn)), .val (.int ((Int32.ofNat dn) - (1 : Int32))), .unset, .unset, .unset] die_3 rfl rfl ?_
    refine own_iloadN 5 Y die_4 rfl rfl ?_
    refine own_iloadN 6 Y die_5 rfl rfl ?_
    refine own_icT 21 Y die_6 (XT.ii_lt_t (hlt (by omega))) (by decide) ?_
    refine own_iloadN 22 Y die_21 rfl rfl ?_
    refine own_iloadN 23 Y die_22 rfl rfl ?_
    refine own_icT 42 Y die_23 (XT.ii_lt_t (hlt (by omega))) (by decide) ?_
    refine own_iconst 43 Y (0 : Int32) die_42 rfl rfl ?_
    exact own_retN Y (t := .boolean) rfl (by simp) die_43 (by decide) (by decide) ⟨rfl, rfl, Or.inr ⟨fun z => by obtain ⟨m', a1, a2, a3 | ⟨a3, a4⟩, a5⟩ := z <;> first | omega | (obtain rfl : m' = M := (by omega); exact mk_sg a2 hS), rfl⟩⟩
set_option maxRecDepth 65536 in
set_option maxHeartbeats 4000000 in
theorem ew_turn1 {p : Program} {l : Launch} {e : Env} {R : Room} {s : State} {m : MethodId} {args : Array Value} {below : List Frame} {meth : Method} {c : Code} {T : State} {Z : State} {h : Heap} {a0 : Array Value} {E : Outcome → State → Prop} (hw : ∀ d ∈ tables_1, d.before a0 Z = true) (t : Addr) (kt : ClassId) (ch : Nat → Int32) (sn en : Nat) (A : AT Z h t kt ch) (hen : en < 28) (hR : 2 ≤ R.frames) (hRl : 60 ≤ R.locals) (i : Nat) (hsi : sn < i) (hie : i ≤ en) (Y : own_S Z (⟨"com/example/cardinal_verbs/cardinalverbs/ReadLimit", "exponentWithin", "([CII)Z"⟩ : MethodName) prog_13_method_6_code 7 (some .boolean) p l e R s m args below meth c T h [] 0 0) (KD : ∀ (T : State), own_S Z (⟨"com/example/cardinal_verbs/cardinalverbs/ReadLimit", "exponentWithin", "([CII)Z"⟩ : MethodName) prog_13_method_6_code 7 (some .boolean) p l e R s m args below meth c T h [] 0 0 → Dg (ch (i - 1)) → own_G p e below E (T.setTop (mkF m 2 #[.val (.ref t), .val (.int (Int32.ofNat sn)), .val (.int (Int32.ofNat en)), .val (.int (Int32.ofNat (i - 1))), .unset, .unset, .unset] []))) (KN : ∀ (T : State), own_S Z (⟨"com/example/cardinal_verbs/cardinalverbs/ReadLimit", "exponentWithin", "([CII)Z"⟩ : MethodName) prog_13_method_6_code 7 (some .boolean) p l e R s m args below meth c T h [] 0 0 → ¬ Dg (ch (i - 1)) → own_G p e below E (T.setTop (mkF m 24 #[.val (.ref t), .val (.int (Int32.ofNat sn)), .val (.int (Int32.ofNat en)), .val (.int (Int32.ofNat i)), .unset, .unset, .unset] []))) : own_G p e below E (T.setTop (mkF m 2 #[.val (.ref t), .val (.int (Int32.ofNat sn)), .val (.int (Int32.ofNat en)), .val (.int (Int32.ofNat i)), .unset, .unset, .unset] [])) := by
  refine own_iloadN 3 Y dew_2 rfl rfl ?_
  refine own_iloadN 4 Y dew_3 rfl rfl ?_
  refine own_icF 7 Y dew_4 (XT.ii_le_f ((own_olt (by omega) (by omega)).mpr hsi)) rfl ?_
  refine own_aloadN 8 Y dew_7 rfl rfl rfl ?_
  refine own_iloadN 9 Y dew_8 rfl rfl ?_
  refine own_iconst 10 Y (1 : Int32) dew_9 rfl rfl ?_
  refine own_isub 11 Y dew_10 rfl ?_
  refine own_ldT 12 Y A (own_osub (by omega)) (by omega) dew_11 rfl ?_
  refine own_callS 15 Y [(.int (ch (i - 1)))] [] (own_wd hw 31 rfl) (own_wd hw 32 rfl) (own_wd hw 29 rfl) (own_wd hw 33 rfl) (c_rid l Z a0 hw (ch (i - 1)) _) dew_12 (by decide) (lenOf pdrid rfl) rfl rfl (Nat.le_trans (by decide) hR) (Nat.le_trans (by decide) hRl) (Nat.zero_le _) (Nat.zero_le _) rfl fun v1 T1 h1 L1 Y1 hQ1 => ?_
  obtain ⟨rfl, rfl, rfl⟩ := hQ1
  by_cases hD : Dg (ch (i - 1))
  · rw [if_pos hD]
    show own_G p e below _ (T1.setTop (mkF m 15 #[.val (.ref t), .val (.int (Int32.ofNat sn)), .val (.int (Int32.ofNat en)), .val (.int (Int32.ofNat i)), .unset, .unset, .unset] [(.int (1 : Int32))]))
    refine own_ifF 18 Y1 dew_15 (XT.i0_eq_f (by decide)) rfl ?_
    refine own_iinc 21 Y1 #[.val (.ref t), .val (.int (Int32.ofNat sn)), .val (.int (Int32.ofNat en)), .val (.int ((Int32.ofNat i) + (-1 : Int32))), .unset, .unset, .unset] (-1 : Int32) dew_18 rfl rfl rfl rfl ?_
    rw [own_oaddm (k := i) (by omega)]
    refine own_goto 2 Y1 dew_21 (by decide) ?_
    exact KD _ Y1 hD
  · rw [if_neg hD]
    show own_G p e below _ (T1.setTop (mkF m 15 #[.val (.ref t), .val (.int (Int32.ofNat sn)), .val (.int (Int32.ofNat en)), .val (.int (Int32.ofNat i)), .unset, .unset, .unset] [(.int (0 : Int32))]))
    refine own_ifT 24 Y1 dew_15 (XT.i0_eq_t (by decide)) (by decide) ?_
    exact KN _ Y1 hD
set_option maxRecDepth 65536 in
set_option maxHeartbeats 4000000 in
theorem ew_exit1 {p : Program} {l : Launch} {e : Env} {R : Room} {s : State} {m : MethodId} {args : Array Value} {below : List Frame} {meth : Method} {c : Code} {T : State} {Z : State} {h : Heap} {a0 : Array Value} {E : Outcome → State → Prop} (hw : ∀ d ∈ tables_1, d.before a0 Z = true) (t : Addr) (kt : ClassId) (ch : Nat → Int32) (sn en : Nat) (A : AT Z h t kt ch) (hen : en < 28) (hR : 2 ≤ R.frames) (hRl : 60 ≤ R.locals) (hie : sn ≤ en) (Y : own_S Z (⟨"com/example/cardinal_verbs/cardinalverbs/ReadLimit", "exponentWithin", "([CII)Z"⟩ : MethodName) prog_13_method_6_code 7 (some .boolean) p l e R s m args below meth c T h [] 0 0) (KN : ∀ (T : State), own_S Z (⟨"com/example/cardinal_verbs/cardinalverbs/ReadLimit", "exponentWithin", "([CII)Z"⟩ : MethodName) prog_13_method_6_code 7 (some .boolean) p l e R s m args below meth c T h [] 0 0 → own_G p e below E (T.setTop (mkF m 24 #[.val (.ref t), .val (.int (Int32.ofNat sn)), .val (.int (Int32.ofNat en)), .val (.int (Int32.ofNat sn)), .unset, .unset, .unset] []))) : own_G p e below E (T.setTop (mkF m 2 #[.val (.ref t), .val (.int (Int32.ofNat sn)), .val (.int (Int32.ofNat en)), .val (.int (Int32.ofNat sn)), .unset, .unset, .unset] [])) := by
  refine own_iloadN 3 Y dew_2 rfl rfl ?_
  refine own_iloadN 4 Y dew_3 rfl rfl ?_
  refine own_icT 24 Y dew_4 (XT.ii_le_t (fun z => Nat.lt_irrefl _ ((own_olt (by omega) (by omega)).mp z))) (by decide) ?_
  exact KN _ Y
theorem ew_loop1 {p : Program} {l : Launch} {e : Env} {R : Room} {s : State} {m : MethodId} {args : Array Value} {below : List Frame} {meth : Method} {c : Code} {Z : State} {h : Heap} {a0 : Array Value} {E : Outcome → State → Prop} (hw : ∀ d ∈ tables_1, d.before a0 Z = true) (t : Addr) (kt : ClassId) (ch : Nat → Int32) (sn en : Nat) (A : AT Z h t kt ch) (hen : en < 28) (hR : 2 ≤ R.frames) (hRl : 60 ≤ R.locals) (KK : ∀ (T : State) (i : Nat), own_S Z (⟨"com/example/cardinal_verbs/cardinalverbs/ReadLimit", "exponentWithin", "([CII)Z"⟩ : MethodName) prog_13_method_6_code 7 (some .boolean) p l e R s m args below meth c T h [] 0 0 → sn ≤ i → i ≤ en → (∀ j, i ≤ j → j < en → Dg (ch j)) → (i = sn ∨ ¬ Dg (ch (i - 1))) → own_G p e below E (T.setTop (mkF m 24 #[.val (.ref t), .val (.int (Int32.ofNat sn)), .val (.int (Int32.ofNat en)), .val (.int (Int32.ofNat i)), .unset, .unset, .unset] []))) : ∀ (n i : Nat) (T : State), own_S Z (⟨"com/example/cardinal_verbs/cardinalverbs/ReadLimit", "exponentWithin", "([CII)Z"⟩ : MethodName) prog_13_method_6_code 7 (some .boolean) p l e R s m args below meth c T h [] 0 0 → i = sn + n → i ≤ en → (∀ j, i ≤ j → j < en → Dg (ch j)) → own_G p e below E (T.setTop (mkF m 2 #[.val (.ref t), .val (.int (Int32.ofNat sn)), .val (.int (Int32.ofNat en)), .val (.int (Int32.ofNat i)), .unset, .unset, .unset] [])) := by
  intro n
  induction n with
  | zero =>
    intro i T Y hi hie hr
    obtain rfl : i = sn := hi
    exact ew_exit1 (a0 := a0) hw t kt ch i en A hen hR hRl hie Y fun T Y => KK T i Y (Nat.le_refl _) hie hr (Or.inl rfl)
  | succ n ih =>
    intro i T Y hi hie hr
    refine ew_turn1 (a0 := a0) hw t kt ch sn en A hen hR hRl i (by omega) hie Y (fun T Y hD => ?_) (fun T Y hD => KK T i Y (by omega) hie hr (Or.inr hD))
    exact ih (i - 1) T Y (by omega) (by omega) fun j a b => by
      by_cases q : j = i - 1
      · rw [q]; exact hD
      · exact hr j (by omega) b
set_option maxRecDepth 65536 in
set_option maxHeartbeats 4000000 in
theorem ew_turn2 {p : Program} {l : Launch} {e : Env} {R : Room} {s : State} {m : MethodId} {args : Array Value} {below : List Frame} {meth : Method} {c : Code} {T : State} {Z : State} {h : Heap} {a0 : Array Value} {E : Outcome → State → Prop} (hw : ∀ d ∈ tables_1, d.before a0 Z = true) (t : Addr) (kt : ClassId) (ch : Nat → Int32) (sn en : Nat) (A : AT Z h t kt ch) (hen : en < 28) (hR : 2 ≤ R.frames) (hRl : 60 ≤ R.locals) (i0 a i : Nat) (hie : i < en) (ha : a ≤ 1000000000) (hD : Dg (ch i)) (exa : Addr) (n0 : Nat) (O : Old Z n0 h) (S_ex : Sta Z Z.heap "com/example/cardinal_verbs/cardinalverbs/ReadLimit" "EXPONENT" "Lcom/example/cardinal_verbs/cardinalverbs/ReadLimit;" (.ref exa)) (F_most : Fld Z Z.heap exa "com/example/cardinal_verbs/cardinalverbs/ReadLimit" "most" "I" (.int (1000000000 : Int32))) (Y : own_S Z (⟨"com/example/cardinal_verbs/cardinalverbs/ReadLimit", "exponentWithin", "([CII)Z"⟩ : MethodName) prog_13_method_6_code 7 (some .boolean) p l e R s m args below meth c T h [] 0 0) (KK : ∀ (T : State), own_S Z (⟨"com/example/cardinal_verbs/cardinalverbs/ReadLimit", "exponentWithin", "([CII)Z"⟩ : MethodName) prog_13_method_6_code 7 (some .boolean) p l e R s m args below meth c T h [] 0 0 → own_G p e below E (T.setTop (mkF m 30 #[.val (.ref t), .val (.int (Int32.ofNat sn)), .val (.int (Int32.ofNat en)), .val (.int (Int32.ofNat i0)), .val (.long (Int64.ofNat (a * 10 + ((ch i).toUInt32.toNat - 48)))), .second, .val (.int (Int32.ofNat (i + 1)))] []))) : own_G p e below E (T.setTop (mkF m 30 #[.val (.ref t), .val (.int (Int32.ofNat sn)), .val (.int (Int32.ofNat en)), .val (.int (Int32.ofNat i0)), .val (.long (Int64.ofNat a)), .second, .val (.int (Int32.ofNat i))] [])) := by
  refine own_iload 32 Y dew_30 rfl rfl ?_
  refine own_iloadN 33 Y dew_32 rfl rfl ?_
  refine own_icF 36 Y dew_33 (XT.ii_ge_f ((own_olt (by omega) (by omega)).mpr hie)) rfl ?_
  refine own_lload 38 Y dew_36 rfl rfl ?_
  refine own_getS 41 Y (host := "") (Or.inl (own_wd hw 34 rfl)) Via.refl (S_ex.ext O.2) dew_38 rfl fun T2 Y1 => ?_
  refine own_getF 44 Y1 (host := "") (Or.inl (own_wd hw 36 rfl)) Via.refl (F_most.ext O.2) dew_41 rfl fun T4 Y3 => ?_
  refine own_i2l 45 Y3 dew_44 rfl ?_
  refine own_lcmp 46 Y3 dew_45 rfl ?_
  refine own_ifF 49 Y3 dew_46 (XT.i0_gt_f (fun z => Nat.not_lt.mpr ha ((own_qlt (by omega) (by omega)).mp (own_lcgt.mp z)))) rfl ?_
  refine own_lload 51 Y3 dew_49 rfl rfl ?_
  refine own_ldc2J 54 Y3 (own_wd hw 38 rfl) dew_51 rfl ?_
  refine own_lmul 55 Y3 dew_54 rfl ?_
  refine own_aloadN 56 Y3 dew_55 rfl rfl rfl ?_
  refine own_iload 58 Y3 dew_56 rfl rfl ?_
  refine own_ldT 59 Y3 A rfl (by omega) dew_58 rfl ?_
  refine own_i2l 60 Y3 dew_59 rfl ?_
  refine own_ladd 61 Y3 dew_60 rfl ?_
  refine own_ldc2J 64 Y3 (own_wd hw 39 rfl) dew_61 rfl ?_
  refine own_lsub 65 Y3 dew_64 rfl ?_
  rw [own_step10 ha hD]
  refine own_lstore 67 Y3 #[.val (.ref t), .val (.int (Int32.ofNat sn)), .val (.int (Int32.ofNat en)), .val (.int (Int32.ofNat i0)), .val (.long (Int64.ofNat (a * 10 + ((ch i).toUInt32.toNat - 48)))), .second, .val (.int (Int32.ofNat i))] dew_65 rfl rfl ?_
  refine own_iinc 70 Y3 #[.val (.ref t), .val (.int (Int32.ofNat sn)), .val (.int (Int32.ofNat en)), .val (.int (Int32.ofNat i0)), .val (.long (Int64.ofNat (a * 10 + ((ch i).toUInt32.toNat - 48)))), .second, .val (.int ((Int32.ofNat i) + (1 : Int32)))] (1 : Int32) dew_67 rfl rfl rfl rfl ?_
  rw [own_oadd i]
  refine own_goto 30 Y3 dew_70 (by decide) ?_
  exact KK _ Y3
set_option maxRecDepth 65536 in
set_option maxHeartbeats 4000000 in
theorem ew_exit2 {p : Program} {l : Launch} {e : Env} {R : Room} {s : State} {m : MethodId} {args : Array Value} {below : List Frame} {meth : Method} {c : Code} {T : State} {Z : State} {h : Heap} {a0 : Array Value} {E : Outcome → State → Prop} (hw : ∀ d ∈ tables_1, d.before a0 Z = true) (t : Addr) (kt : ClassId) (ch : Nat → Int32) (sn en : Nat) (A : AT Z h t kt ch) (hen : en < 28) (hR : 2 ≤ R.frames) (hRl : 60 ≤ R.locals) (i0 a : Nat) (Y : own_S Z (⟨"com/example/cardinal_verbs/cardinalverbs/ReadLimit", "exponentWithin", "([CII)Z"⟩ : MethodName) prog_13_method_6_code 7 (some .boolean) p l e R s m args below meth c T h [] 0 0) (KK : ∀ (T : State), own_S Z (⟨"com/example/cardinal_verbs/cardinalverbs/ReadLimit", "exponentWithin", "([CII)Z"⟩ : MethodName) prog_13_method_6_code 7 (some .boolean) p l e R s m args below meth c T h [] 0 0 → own_G p e below E (T.setTop (mkF m 73 #[.val (.ref t), .val (.int (Int32.ofNat sn)), .val (.int (Int32.ofNat en)), .val (.int (Int32.ofNat i0)), .val (.long (Int64.ofNat a)), .second, .val (.int (Int32.ofNat en))] []))) : own_G p e below E (T.setTop (mkF m 30 #[.val (.ref t), .val (.int (Int32.ofNat sn)), .val (.int (Int32.ofNat en)), .val (.int (Int32.ofNat i0)), .val (.long (Int64.ofNat a)), .second, .val (.int (Int32.ofNat en))] [])) := by
  refine own_iload 32 Y dew_30 rfl rfl ?_
  refine own_iloadN 33 Y dew_32 rfl rfl ?_
  refine own_icT 73 Y dew_33 (XT.ii_ge_t (fun z => Nat.lt_irrefl _ ((own_olt (by omega) (by omega)).mp z))) (by decide) ?_
  exact KK _ Y
set_option maxRecDepth 65536 in
set_option maxHeartbeats 4000000 in
theorem ew_exit3 {p : Program} {l : Launch} {e : Env} {R : Room} {s : State} {m : MethodId} {args : Array Value} {below : List Frame} {meth : Method} {c : Code} {T : State} {Z : State} {h : Heap} {a0 : Array Value} {E : Outcome → State → Prop} (hw : ∀ d ∈ tables_1, d.before a0 Z = true) (t : Addr) (kt : ClassId) (ch : Nat → Int32) (sn en : Nat) (A : AT Z h t kt ch) (hen : en < 28) (hR : 2 ≤ R.frames) (hRl : 60 ≤ R.locals) (i0 a i : Nat) (hie : i < en) (ha : 1000000000 < a) (ha2 : a < 2 ^ 63) (exa : Addr) (n0 : Nat) (O : Old Z n0 h) (S_ex : Sta Z Z.heap "com/example/cardinal_verbs/cardinalverbs/ReadLimit" "EXPONENT" "Lcom/example/cardinal_verbs/cardinalverbs/ReadLimit;" (.ref exa)) (F_most : Fld Z Z.heap exa "com/example/cardinal_verbs/cardinalverbs/ReadLimit" "most" "I" (.int (1000000000 : Int32))) (Y : own_S Z (⟨"com/example/cardinal_verbs/cardinalverbs/ReadLimit", "exponentWithin", "([CII)Z"⟩ : MethodName) prog_13_method_6_code 7 (some .boolean) p l e R s m args below meth c T h [] 0 0) (KK : ∀ (T : State), own_S Z (⟨"com/example/cardinal_verbs/cardinalverbs/ReadLimit", "exponentWithin", "([CII)Z"⟩ : MethodName) prog_13_method_6_code 7 (some .boolean) p l e R s m args below meth c T h [] 0 0 → own_G p e below E (T.setTop (mkF m 73 #[.val (.ref t), .val (.int (Int32.ofNat sn)), .val (.int (Int32.ofNat en)), .val (.int (Int32.ofNat i0)), .val (.long (Int64.ofNat a)), .second, .val (.int (Int32.ofNat i))] []))) : own_G p e below E (T.setTop (mkF m 30 #[.val (.ref t), .val (.int (Int32.ofNat sn)), .val (.int (Int32.ofNat en)), .val (.int (Int32.ofNat i0)), .val (.long (Int64.ofNat a)), .second, .val (.int (Int32.ofNat i))] [])) := by
  refine own_iload 32 Y dew_30 rfl rfl ?_
  refine own_iloadN 33 Y dew_32 rfl rfl ?_
  refine own_icF 36 Y dew_33 (XT.ii_ge_f ((own_olt (by omega) (by omega)).mpr hie)) rfl ?_
  refine own_lload 38 Y dew_36 rfl rfl ?_
  refine own_getS 41 Y (host := "") (Or.inl (own_wd hw 34 rfl)) Via.refl (S_ex.ext O.2) dew_38 rfl fun T2 Y1 => ?_
  refine own_getF 44 Y1 (host := "") (Or.inl (own_wd hw 36 rfl)) Via.refl (F_most.ext O.2) dew_41 rfl fun T4 Y3 => ?_
  refine own_i2l 45 Y3 dew_44 rfl ?_
  refine own_lcmp 46 Y3 dew_45 rfl ?_
  refine own_ifT 73 Y3 dew_46 (XT.i0_gt_t (own_lcgt.mpr ((own_qlt (by omega) (by omega)).mpr ha))) (by decide) ?_
  exact KK _ Y3
set_option maxRecDepth 65536 in
set_option maxHeartbeats 4000000 in
theorem ew_73 {p : Program} {l : Launch} {e : Env} {R : Room} {s : State} {m : MethodId} {args : Array Value} {below : List Frame} {meth : Method} {c : Code} {T : State} {Z : State} {h : Heap} {a0 : Array Value} {Q : Option Value → Heap → List Loc → Prop} (hw : ∀ d ∈ tables_1, d.before a0 Z = true) (t : Addr) (kt : ClassId) (ch : Nat → Int32) (sn en : Nat) (A : AT Z h t kt ch) (hen : en < 28) (hR : 2 ≤ R.frames) (hRl : 60 ≤ R.locals) (i0 a i : Nat) (hsi : sn ≤ i0) (hie : i0 ≤ en) (ha2 : a < 2 ^ 63) (exa : Addr) (n0 : Nat) (O : Old Z n0 h) (S_ex : Sta Z Z.heap "com/example/cardinal_verbs/cardinalverbs/ReadLimit" "EXPONENT" "Lcom/example/cardinal_verbs/cardinalverbs/ReadLimit;" (.ref exa)) (F_most : Fld Z Z.heap exa "com/example/cardinal_verbs/cardinalverbs/ReadLimit" "most" "I" (.int (1000000000 : Int32))) (hQ0 : 1000000000 < a ∧ IsE ch sn i0 → Q (some (.int 0)) h []) (hQ1 : ¬ (1000000000 < a ∧ IsE ch sn i0) → Q (some (.int 1)) h []) (Y : own_S Z (⟨"com/example/cardinal_verbs/cardinalverbs/ReadLimit", "exponentWithin", "([CII)Z"⟩ : MethodName) prog_13_method_6_code 7 (some .boolean) p l e R s m args below meth c T h [] 0 0)  : own_G p e below (own_E s Q 0 0) (T.setTop (mkF m 73 #[.val (.ref t), .val (.int (Int32.ofNat sn)), .val (.int (Int32.ofNat en)), .val (.int (Int32.ofNat i0)), .val (.long (Int64.ofNat a)), .second, .val (.int (Int32.ofNat i))] [])) := by
  refine own_lload 75 Y dew_73 rfl rfl ?_
  refine own_getS 78 Y (host := "") (Or.inl (own_wd hw 34 rfl)) Via.refl (S_ex.ext O.2) dew_75 rfl fun T2 Y1 => ?_
  refine own_getF 81 Y1 (host := "") (Or.inl (own_wd hw 36 rfl)) Via.refl (F_most.ext O.2) dew_78 rfl fun T4 Y3 => ?_
  refine own_i2l 82 Y3 dew_81 rfl ?_
  refine own_lcmp 83 Y3 dew_82 rfl ?_
  by_cases hb : 1000000000 < a
  · refine own_ifF 86 Y3 dew_83 (XT.i0_le_f (own_lcgt.mpr ((own_qlt (by omega) (by omega)).mpr hb))) rfl ?_
    refine own_aloadN 87 Y3 dew_86 rfl rfl rfl ?_
    refine own_iloadN 88 Y3 dew_87 rfl rfl ?_
    refine own_iloadN 89 Y3 dew_88 rfl rfl ?_
    refine own_callS 92 Y3 [(.ref t), (.int (Int32.ofNat sn)), (.int (Int32.ofNat i0))] [] (own_wd hw 41 rfl) (own_wd hw 42 rfl) (own_wd hw 29 rfl) (own_wd hw 43 rfl) (c_ie l Z a0 hw t kt ch sn i0 _ A hsi (by omega)) dew_89 (by decide) (lenOf pdie rfl) rfl rfl (Nat.le_trans (by decide) hR) (Nat.le_trans (by decide) hRl) (Nat.zero_le _) (Nat.zero_le _) rfl fun v5 T5 h5 L5 Y5 hQ5 => ?_
    obtain ⟨rfl, rfl, hE⟩ := hQ5
    rcases hE with ⟨hE, rfl⟩ | ⟨hE, rfl⟩
    · show own_G p e below _ (T5.setTop (mkF m 92 #[.val (.ref t), .val (.int (Int32.ofNat sn)), .val (.int (Int32.ofNat en)), .val (.int (Int32.ofNat i0)), .val (.long (Int64.ofNat a)), .second, .val (.int (Int32.ofNat i))] [(.int (1 : Int32))]))
      refine own_ifT 99 Y5 dew_92 (XT.i0_ne_t (by decide)) (by decide) ?_
      refine own_iconst 100 Y5 (0 : Int32) dew_99 rfl rfl ?_
      exact own_retN Y5 (t := .boolean) rfl (by simp) dew_100 (by decide) (by decide) (hQ0 ⟨hb, hE⟩)
    · show own_G p e below _ (T5.setTop (mkF m 92 #[.val (.ref t), .val (.int (Int32.ofNat sn)), .val (.int (Int32.ofNat en)), .val (.int (Int32.ofNat i0)), .val (.long (Int64.ofNat a)), .second, .val (.int (Int32.ofNat i))] [(.int (0 : Int32))]))
      refine own_ifF 95 Y5 dew_92 (XT.i0_ne_f (by decide)) rfl ?_
      refine own_iconst 96 Y5 (1 : Int32) dew_95 rfl rfl ?_
      refine own_goto 100 Y5 dew_96 (by decide) ?_
      exact own_retN Y5 (t := .boolean) rfl (by simp) dew_100 (by decide) (by decide) (hQ1 (fun z => hE z.2))
  · refine own_ifT 95 Y3 dew_83 (XT.i0_le_t (fun z => hb ((own_qlt (by omega) (by omega)).mp (own_lcgt.mp z)))) (by decide) ?_
    refine own_iconst 96 Y3 (1 : Int32) dew_95 rfl rfl ?_
    refine own_goto 100 Y3 dew_96 (by decide) ?_
    exact own_retN Y3 (t := .boolean) rfl (by simp) dew_100 (by decide) (by decide) (hQ1 (fun z => hb z.1))
theorem ew_loop2 {p : Program} {l : Launch} {e : Env} {R : Room} {s : State} {m : MethodId} {args : Array Value} {below : List Frame} {meth : Method} {c : Code} {Z : State} {h : Heap} {a0 : Array Value} {Q : Option Value → Heap → List Loc → Prop} (hw : ∀ d ∈ tables_1, d.before a0 Z = true) (t : Addr) (kt : ClassId) (ch : Nat → Int32) (sn en : Nat) (A : AT Z h t kt ch) (hen : en < 28) (hR : 2 ≤ R.frames) (hRl : 60 ≤ R.locals) (i0 : Nat) (hsi : sn ≤ i0) (hie : i0 ≤ en) (hr : ∀ j, i0 ≤ j → j < en → Dg (ch j)) (exa : Addr) (n0 : Nat) (O : Old Z n0 h) (S_ex : Sta Z Z.heap "com/example/cardinal_verbs/cardinalverbs/ReadLimit" "EXPONENT" "Lcom/example/cardinal_verbs/cardinalverbs/ReadLimit;" (.ref exa)) (F_most : Fld Z Z.heap exa "com/example/cardinal_verbs/cardinalverbs/ReadLimit" "most" "I" (.int (1000000000 : Int32))) (hQ0 : 1000000000 < val ch i0 (en - i0) ∧ IsE ch sn i0 → Q (some (.int 0)) h []) (hQ1 : ¬ (1000000000 < val ch i0 (en - i0) ∧ IsE ch sn i0) → Q (some (.int 1)) h []) : ∀ (n i a : Nat) (T : State), own_S Z (⟨"com/example/cardinal_verbs/cardinalverbs/ReadLimit", "exponentWithin", "([CII)Z"⟩ : MethodName) prog_13_method_6_code 7 (some .boolean) p l e R s m args below meth c T h [] 0 0 → i + n = en → i0 ≤ i → a = val ch i0 (i - i0) → a < 20000000000 → own_G p e below (own_E s Q 0 0) (T.setTop (mkF m 30 #[.val (.ref t), .val (.int (Int32.ofNat sn)), .val (.int (Int32.ofNat en)), .val (.int (Int32.ofNat i0)), .val (.long (Int64.ofNat a)), .second, .val (.int (Int32.ofNat i))] [])) := by
  intro n
  induction n with
  | zero =>
    intro i a T Y hi h0i ha hb
    obtain rfl : i = en := hi
    refine ew_exit2 (a0 := a0) hw t kt ch sn i A hen hR hRl i0 a Y fun T Y => ?_
    exact ew_73 (a0 := a0) hw t kt ch sn i A hen hR hRl i0 a i hsi hie (by omega) exa n0 O S_ex F_most (fun z => hQ0 (by rw [← ha]; exact z)) (fun z => hQ1 (by rw [← ha]; exact z)) Y
  | succ n ih =>
    intro i a T Y hi h0i ha hb
    by_cases q : 1000000000 < a
    · refine ew_exit3 (a0 := a0) hw t kt ch sn en A hen hR hRl i0 a i (by omega) q (by omega) exa n0 O S_ex F_most Y fun T Y => ?_
      have hv : 1000000000 < val ch i0 (en - i0) := by
        have := val_le ch i0 (i - i0) (en - i)
        rw [show i - i0 + (en - i) = en - i0 by omega] at this
        omega
      exact ew_73 (a0 := a0) hw t kt ch sn en A hen hR hRl i0 a i hsi hie (by omega) exa n0 O S_ex F_most (fun z => hQ0 ⟨hv, z.2⟩) (fun z => hQ1 fun u => z ⟨q, u.2⟩) Y
    · have hD := hr i h0i (by omega)
      have hc := (own_cToN hD).2.1
      refine ew_turn2 (a0 := a0) hw t kt ch sn en A hen hR hRl i0 a i (by omega) (by omega) hD exa n0 O S_ex F_most Y fun T Y => ?_
      refine ih (i + 1) _ T Y (by omega) (by omega) ?_ (by omega)
      rw [show i + 1 - i0 = (i - i0) + 1 by omega, val, ← ha, show i0 + (i - i0) = i by omega]
def Qew (ch : Nat → Int32) (sn en : Nat) (h0 : Heap) (v : Option Value) (h : Heap) (L : List Loc) : Prop := h0 = h ∧ L = [] ∧ ∃ (r : Int32) (i : Nat), v = some (.int r) ∧ sn ≤ i ∧ i ≤ en ∧ (∀ j, i ≤ j → j < en → Dg (ch j)) ∧ (i = sn ∨ ¬ Dg (ch (i - 1))) ∧ (1000000000 < val ch i (en - i) ∧ IsE ch sn i → r = 0) ∧ (¬ (1000000000 < val ch i (en - i) ∧ IsE ch sn i) → r = 1)
set_option maxRecDepth 65536 in
set_option maxHeartbeats 4000000 in
theorem c_ew (l : Launch) (Z : State) (a0 : Array Value) (hw : ∀ d ∈ tables_1, d.before a0 Z = true) (t : Addr) (kt : ClassId) (ch : Nat → Int32) (sn en : Nat) (h0 : Heap) (A : AT Z h0 t kt ch) (hse : sn ≤ en) (hen : en < 28) (exa : Addr) (n0 : Nat) (O : Old Z n0 h0) (S_ex : Sta Z Z.heap "com/example/cardinal_verbs/cardinalverbs/ReadLimit" "EXPONENT" "Lcom/example/cardinal_verbs/cardinalverbs/ReadLimit;" (.ref exa)) (F_most : Fld Z Z.heap exa "com/example/cardinal_verbs/cardinalverbs/ReadLimit" "most" "I" (.int (1000000000 : Int32))) : own_M l (⟨"com/example/cardinal_verbs/cardinalverbs/ReadLimit", "exponentWithin", "([CII)Z"⟩ : MethodName) prog_13_method_6_code 7 (some .boolean) [] ({ frames := 2, cells := 0, slots := 0, locals := 60 } : Room) Z #[.ref t, .int (Int32.ofNat sn), .int (Int32.ofNat en)] h0 (Qew ch sn en h0) := by
  refine own_met plew (Lf := #[.val (.ref t), .val (.int (Int32.ofNat sn)), .val (.int (Int32.ofNat en)), .unset, .unset, .unset, .unset]) (fun m => by first | (simp [entryFrame, mkF, argsToLocals, Value.category]; done) | rfl) ?_
  intro p e s m below meth c T Y
  refine own_iloadN 1 Y dew_0 rfl rfl ?_
  refine own_istoreN 2 Y #[.val (.ref t), .val (.int (Int32.ofNat sn)), .val (.int (Int32.ofNat en)), .val (.int (Int32.ofNat en)), .unset, .unset, .unset] dew_1 rfl rfl ?_
  refine ew_loop1 (a0 := a0) hw t kt ch sn en A hen (by decide) (by decide) (fun T i Y hs1 hi1 hr1 hst1 => ?_) (en - sn) en _ Y (by omega) (Nat.le_refl _) (fun j a1 a2 => absurd a2 (Nat.not_lt.mpr a1))
  refine own_lconst 25 Y (0 : Int64) dew_24 rfl rfl ?_
  refine own_lstore 27 Y #[.val (.ref t), .val (.int (Int32.ofNat sn)), .val (.int (Int32.ofNat en)), .val (.int (Int32.ofNat i)), .val (.long (0 : Int64)), .second, .unset] dew_25 rfl rfl ?_
  refine own_iloadN 28 Y dew_27 rfl rfl ?_
  refine own_istore 30 Y #[.val (.ref t), .val (.int (Int32.ofNat sn)), .val (.int (Int32.ofNat en)), .val (.int (Int32.ofNat i)), .val (.long (0 : Int64)), .second, .val (.int (Int32.ofNat i))] dew_28 rfl rfl ?_
  exact ew_loop2 (a0 := a0) hw t kt ch sn en A hen (by decide) (by decide) i hs1 hi1 hr1 exa n0 O S_ex F_most (fun z => ⟨rfl, rfl, 0, i, rfl, hs1, hi1, hr1, hst1, fun _ => rfl, fun u => absurd z u⟩) (fun z => ⟨rfl, rfl, 1, i, rfl, hs1, hi1, hr1, hst1, fun u => absurd u z, fun _ => rfl⟩) (en - i) i 0 _ Y (by omega) (Nat.le_refl _) (by rw [Nat.sub_self]; rfl) (by decide)
theorem own_z28 (i : Nat) (hi : i < 28) : (List.replicate 28 (Value.int (0 : Int32))).getD i (.int (0 : Int32)) = .int (0 : Int32) := by rw [List.getD_eq_getElem?_getD, List.getElem?_replicate, if_pos hi]; rfl
theorem own_in13 {k : Nat} (h : k < 13) : ¬ Int32.ofNat k < 0 ∧ Int32.ofNat k < (13 : Int32) := ⟨(own_inR (by omega)).1, (own_olt (by omega) (by decide)).mpr h⟩
theorem own_p13 {k : Nat} (h : k < 13) : 10 ^ k < 2 ^ 63 := Nat.lt_of_le_of_lt (Nat.pow_le_pow_right (by decide) (show k ≤ 12 by omega)) (by decide)
theorem own_pne {k : Nat} (h : k < 13) : Int64.ofNat (10 ^ k) ≠ 0 := fun z => by
  have e1 := congrArg Int64.toInt z
  rw [own_qInt (own_p13 h)] at e1
  have e2 : (0 : Int64).toInt = 0 := rfl
  have e3 := Nat.pow_pos (n := k) (show 0 < 10 by decide)
  omega
theorem own_lens (ms mk mm es m1 m2 xx qq : Int32) : (msL ms).length ≤ 2 ∧ (mkL mk m1 m2 xx).length ≤ 4 ∧ (mmL mm qq).length ≤ 1 ∧ (esL es).length ≤ 2 := by
  refine ⟨?_, ?_, ?_, ?_⟩
  · unfold msL; repeat' split
    all_goals simp
  · unfold mkL; repeat' split
    all_goals simp
  · unfold mmL; repeat' split
    all_goals simp
  · unfold esL; repeat' split
    all_goals simp
set_option maxRecDepth 65536 in
set_option maxHeartbeats 4000000 in
theorem seg_q {p : Program} {l : Launch} {e : Env} {R : Room} {s : State} {m : MethodId} {args : Array Value} {below : List Frame} {meth : Method} {c : Code} {T : State} {Z : State} {h : Heap} {a0 : Array Value} {x0 x1 x3 x4 x5 pr po qq : Int32} {x2 : Int64} {wn vn : Nat} {pa t : Addr} {kp kt : ClassId} {ch : Nat → Int32} {n0 : Nat} {locs : List Loc} {cells slots : Nat} {E : Outcome → State → Prop} (hw : ∀ d ∈ tables_1, d.before a0 Z = true) (gt : n0 ≤ t) (npt : pa ≠ t) (hR : 1 ≤ R.frames) (hRl : 30 ≤ R.locals) (hc : cells ≤ R.cells) (hs : slots ≤ R.slots) (hqq : nar .char qq = qq) (Y : own_S Z x code maxLocals ret p l e R s m args below meth c T h locs cells slots) (D : WD Z h n0 locs t kt ch pa kp) (KK : ∀ (T : State) (locs : List Loc) (qq : Int32), own_S Z x code maxLocals ret p l e R s m args below meth c T h locs cells slots → WD Z h n0 locs t kt ch pa kp → nar .char qq = qq → (¬ Dg qq ∧ ¬ Sg qq) → own_G p e below E (T.setTop (mkF m 180 #[.val (.int x0), .val (.int x1), .val (.long x2), .second, .val (.int x3), .val (.int x4), .val (.int x5), .val (.ref pa), .val (.int (Int32.ofNat wn)), .val (.long (Int64.ofNat vn)), .second, .val (.ref t), .val (.int pr), .val (.int po), .val (.int qq), .unset, .unset, .unset, .unset, .unset, .unset, .unset, .unset, .unset, .unset, .unset, .unset, .unset, .unset, .unset, .unset] []))) : own_G p e below E (T.setTop (mkF m 154 #[.val (.int x0), .val (.int x1), .val (.long x2), .second, .val (.int x3), .val (.int x4), .val (.int x5), .val (.ref pa), .val (.int (Int32.ofNat wn)), .val (.long (Int64.ofNat vn)), .second, .val (.ref t), .val (.int pr), .val (.int po), .val (.int qq), .unset, .unset, .unset, .unset, .unset, .unset, .unset, .unset, .unset, .unset, .unset, .unset, .unset, .unset, .unset, .unset] [])) := by
  refine own_iload 156 Y at_154 rfl rfl ?_
  refine own_callS 159 Y [(.int qq)] [] (own_wd hw 20 rfl) (own_wd hw 21 rfl) (own_wd hw 18 rfl) (own_wd hw 22 rfl) (c_isd l Z a0 hw qq _) at_156 (by decide) (lenOf pdisd rfl) rfl rfl (Nat.le_trans (by decide) hR) (Nat.le_trans (by decide) hRl) hc hs rfl fun v1 T1 h1 L1 Y1 hQ1 => ?_
  obtain ⟨rfl, rfl, rfl⟩ := hQ1
  by_cases hD : Dg qq
  · rw [if_pos hD]
    show own_G p e below _ (T1.setTop (mkF m 159 #[.val (.int x0), .val (.int x1), .val (.long x2), .second, .val (.int x3), .val (.int x4), .val (.int x5), .val (.ref pa), .val (.int (Int32.ofNat wn)), .val (.long (Int64.ofNat vn)), .second, .val (.ref t), .val (.int pr), .val (.int po), .val (.int qq), .unset, .unset, .unset, .unset, .unset, .unset, .unset, .unset, .unset, .unset, .unset, .unset, .unset, .unset, .unset, .unset] [(.int (1 : Int32))]))
    refine own_ifT 176 Y1 at_159 (XT.i0_ne_t (by decide)) (by decide) ?_
    refine own_bipush 178 Y1 (120 : Int32) at_176 rfl rfl ?_
    refine own_istore 180 Y1 #[.val (.int x0), .val (.int x1), .val (.long x2), .second, .val (.int x3), .val (.int x4), .val (.int x5), .val (.ref pa), .val (.int (Int32.ofNat wn)), .val (.long (Int64.ofNat vn)), .second, .val (.ref t), .val (.int pr), .val (.int po), .val (.int (120 : Int32)), .unset, .unset, .unset, .unset, .unset, .unset, .unset, .unset, .unset, .unset, .unset, .unset, .unset, .unset, .unset, .unset] at_178 rfl rfl ?_
    exact KK _ _ (120 : Int32) Y1 ⟨D.1, D.2.1, D.2.2.1, D.2.2.2.app (Fr.nil n0)⟩ rfl (by decide) 
  · rw [if_neg hD]
    show own_G p e below _ (T1.setTop (mkF m 159 #[.val (.int x0), .val (.int x1), .val (.long x2), .second, .val (.int x3), .val (.int x4), .val (.int x5), .val (.ref pa), .val (.int (Int32.ofNat wn)), .val (.long (Int64.ofNat vn)), .second, .val (.ref t), .val (.int pr), .val (.int po), .val (.int qq), .unset, .unset, .unset, .unset, .unset, .unset, .unset, .unset, .unset, .unset, .unset, .unset, .unset, .unset, .unset, .unset] [(.int (0 : Int32))]))
    refine own_ifF 162 Y1 at_159 (XT.i0_ne_f (by decide)) rfl ?_
    refine own_iload 164 Y1 at_162 rfl rfl ?_
    refine own_bipush 166 Y1 (43 : Int32) at_164 rfl rfl ?_
    refine own_ic_eq 176 169 Y1 at_166 (by decide) rfl (fun q166 => ?_) (fun q166 => ?_)
    · refine own_bipush 178 Y1 (120 : Int32) at_176 rfl rfl ?_
      refine own_istore 180 Y1 #[.val (.int x0), .val (.int x1), .val (.long x2), .second, .val (.int x3), .val (.int x4), .val (.int x5), .val (.ref pa), .val (.int (Int32.ofNat wn)), .val (.long (Int64.ofNat vn)), .second, .val (.ref t), .val (.int pr), .val (.int po), .val (.int (120 : Int32)), .unset, .unset, .unset, .unset, .unset, .unset, .unset, .unset, .unset, .unset, .unset, .unset, .unset, .unset, .unset, .unset] at_178 rfl rfl ?_
      exact KK _ _ (120 : Int32) Y1 ⟨D.1, D.2.1, D.2.2.1, D.2.2.2.app (Fr.nil n0)⟩ rfl (by decide) 
    · refine own_iload 171 Y1 at_169 rfl rfl ?_
      refine own_bipush 173 Y1 (45 : Int32) at_171 rfl rfl ?_
      refine own_ic_ne 180 176 Y1 at_173 (by decide) rfl (fun q173 => ?_) (fun q173 => ?_)
      · exact KK _ _ qq Y1 ⟨D.1, D.2.1, D.2.2.1, D.2.2.2.app (Fr.nil n0)⟩ hqq ⟨hD, fun z => z.elim q173 q166⟩
      · refine own_bipush 178 Y1 (120 : Int32) at_176 rfl rfl ?_
        refine own_istore 180 Y1 #[.val (.int x0), .val (.int x1), .val (.long x2), .second, .val (.int x3), .val (.int x4), .val (.int x5), .val (.ref pa), .val (.int (Int32.ofNat wn)), .val (.long (Int64.ofNat vn)), .second, .val (.ref t), .val (.int pr), .val (.int po), .val (.int (120 : Int32)), .unset, .unset, .unset, .unset, .unset, .unset, .unset, .unset, .unset, .unset, .unset, .unset, .unset, .unset, .unset, .unset] at_178 rfl rfl ?_
        exact KK _ _ (120 : Int32) Y1 ⟨D.1, D.2.1, D.2.2.1, D.2.2.2.app (Fr.nil n0)⟩ rfl (by decide) 
set_option maxRecDepth 65536 in
set_option maxHeartbeats 4000000 in
theorem seg_x {p : Program} {l : Launch} {e : Env} {R : Room} {s : State} {m : MethodId} {args : Array Value} {below : List Frame} {meth : Method} {c : Code} {T : State} {Z : State} {h : Heap} {a0 : Array Value} {x0 x1 x3 x4 x5 pr po qq xx : Int32} {x2 : Int64} {wn vn : Nat} {pa t : Addr} {kp kt : ClassId} {ch : Nat → Int32} {n0 : Nat} {locs : List Loc} {cells slots : Nat} {E : Outcome → State → Prop} (hw : ∀ d ∈ tables_1, d.before a0 Z = true) (gt : n0 ≤ t) (npt : pa ≠ t) (hR : 1 ≤ R.frames) (hRl : 30 ≤ R.locals) (hc : cells ≤ R.cells) (hs : slots ≤ R.slots) (hxx : nar .char xx = xx) (Y : own_S Z x code maxLocals ret p l e R s m args below meth c T h locs cells slots) (D : WD Z h n0 locs t kt ch pa kp) (KK : ∀ (T : State) (locs : List Loc) (xx : Int32), own_S Z x code maxLocals ret p l e R s m args below meth c T h locs cells slots → WD Z h n0 locs t kt ch pa kp → nar .char xx = xx → (¬ Dg xx ∧ ¬ xx = 46 ∧ ¬ Mk xx) → own_G p e below E (T.setTop (mkF m 228 #[.val (.int x0), .val (.int x1), .val (.long x2), .second, .val (.int x3), .val (.int x4), .val (.int x5), .val (.ref pa), .val (.int (Int32.ofNat wn)), .val (.long (Int64.ofNat vn)), .second, .val (.ref t), .val (.int pr), .val (.int po), .val (.int qq), .val (.int xx), .unset, .unset, .unset, .unset, .unset, .unset, .unset, .unset, .unset, .unset, .unset, .unset, .unset, .unset, .unset] []))) : own_G p e below E (T.setTop (mkF m 195 #[.val (.int x0), .val (.int x1), .val (.long x2), .second, .val (.int x3), .val (.int x4), .val (.int x5), .val (.ref pa), .val (.int (Int32.ofNat wn)), .val (.long (Int64.ofNat vn)), .second, .val (.ref t), .val (.int pr), .val (.int po), .val (.int qq), .val (.int xx), .unset, .unset, .unset, .unset, .unset, .unset, .unset, .unset, .unset, .unset, .unset, .unset, .unset, .unset, .unset] [])) := by
  refine own_iload 197 Y at_195 rfl rfl ?_
  refine own_callS 200 Y [(.int xx)] [] (own_wd hw 20 rfl) (own_wd hw 21 rfl) (own_wd hw 18 rfl) (own_wd hw 22 rfl) (c_isd l Z a0 hw xx _) at_197 (by decide) (lenOf pdisd rfl) rfl rfl (Nat.le_trans (by decide) hR) (Nat.le_trans (by decide) hRl) hc hs rfl fun v1 T1 h1 L1 Y1 hQ1 => ?_
  obtain ⟨rfl, rfl, rfl⟩ := hQ1
  by_cases hD : Dg xx
  · rw [if_pos hD]
    show own_G p e below _ (T1.setTop (mkF m 200 #[.val (.int x0), .val (.int x1), .val (.long x2), .second, .val (.int x3), .val (.int x4), .val (.int x5), .val (.ref pa), .val (.int (Int32.ofNat wn)), .val (.long (Int64.ofNat vn)), .second, .val (.ref t), .val (.int pr), .val (.int po), .val (.int qq), .val (.int xx), .unset, .unset, .unset, .unset, .unset, .unset, .unset, .unset, .unset, .unset, .unset, .unset, .unset, .unset, .unset] [(.int (1 : Int32))]))
    refine own_ifT 224 Y1 at_200 (XT.i0_ne_t (by decide)) (by decide) ?_
    refine own_bipush 226 Y1 (120 : Int32) at_224 rfl rfl ?_
    refine own_istore 228 Y1 #[.val (.int x0), .val (.int x1), .val (.long x2), .second, .val (.int x3), .val (.int x4), .val (.int x5), .val (.ref pa), .val (.int (Int32.ofNat wn)), .val (.long (Int64.ofNat vn)), .second, .val (.ref t), .val (.int pr), .val (.int po), .val (.int qq), .val (.int (120 : Int32)), .unset, .unset, .unset, .unset, .unset, .unset, .unset, .unset, .unset, .unset, .unset, .unset, .unset, .unset, .unset] at_226 rfl rfl ?_
    exact KK _ _ (120 : Int32) Y1 ⟨D.1, D.2.1, D.2.2.1, D.2.2.2.app (Fr.nil n0)⟩ rfl (by decide) 
  · rw [if_neg hD]
    show own_G p e below _ (T1.setTop (mkF m 200 #[.val (.int x0), .val (.int x1), .val (.long x2), .second, .val (.int x3), .val (.int x4), .val (.int x5), .val (.ref pa), .val (.int (Int32.ofNat wn)), .val (.long (Int64.ofNat vn)), .second, .val (.ref t), .val (.int pr), .val (.int po), .val (.int qq), .val (.int xx), .unset, .unset, .unset, .unset, .unset, .unset, .unset, .unset, .unset, .unset, .unset, .unset, .unset, .unset, .unset] [(.int (0 : Int32))]))
    refine own_ifF 203 Y1 at_200 (XT.i0_ne_f (by decide)) rfl ?_
    refine own_iload 205 Y1 at_203 rfl rfl ?_
    refine own_bipush 207 Y1 (46 : Int32) at_205 rfl rfl ?_
    refine own_ic_eq 224 210 Y1 at_207 (by decide) rfl (fun q207 => ?_) (fun q207 => ?_)
    · refine own_bipush 226 Y1 (120 : Int32) at_224 rfl rfl ?_
      refine own_istore 228 Y1 #[.val (.int x0), .val (.int x1), .val (.long x2), .second, .val (.int x3), .val (.int x4), .val (.int x5), .val (.ref pa), .val (.int (Int32.ofNat wn)), .val (.long (Int64.ofNat vn)), .second, .val (.ref t), .val (.int pr), .val (.int po), .val (.int qq), .val (.int (120 : Int32)), .unset, .unset, .unset, .unset, .unset, .unset, .unset, .unset, .unset, .unset, .unset, .unset, .unset, .unset, .unset] at_226 rfl rfl ?_
      exact KK _ _ (120 : Int32) Y1 ⟨D.1, D.2.1, D.2.2.1, D.2.2.2.app (Fr.nil n0)⟩ rfl (by decide) 
    · refine own_iload 212 Y1 at_210 rfl rfl ?_
      refine own_bipush 214 Y1 (101 : Int32) at_212 rfl rfl ?_
      refine own_ic_eq 224 217 Y1 at_214 (by decide) rfl (fun q214 => ?_) (fun q214 => ?_)
      · refine own_bipush 226 Y1 (120 : Int32) at_224 rfl rfl ?_
        refine own_istore 228 Y1 #[.val (.int x0), .val (.int x1), .val (.long x2), .second, .val (.int x3), .val (.int x4), .val (.int x5), .val (.ref pa), .val (.int (Int32.ofNat wn)), .val (.long (Int64.ofNat vn)), .second, .val (.ref t), .val (.int pr), .val (.int po), .val (.int qq), .val (.int (120 : Int32)), .unset, .unset, .unset, .unset, .unset, .unset, .unset, .unset, .unset, .unset, .unset, .unset, .unset, .unset, .unset] at_226 rfl rfl ?_
        exact KK _ _ (120 : Int32) Y1 ⟨D.1, D.2.1, D.2.2.1, D.2.2.2.app (Fr.nil n0)⟩ rfl (by decide) 
      · refine own_iload 219 Y1 at_217 rfl rfl ?_
        refine own_bipush 221 Y1 (69 : Int32) at_219 rfl rfl ?_
        refine own_ic_ne 228 224 Y1 at_221 (by decide) rfl (fun q221 => ?_) (fun q221 => ?_)
        · exact KK _ _ xx Y1 ⟨D.1, D.2.1, D.2.2.1, D.2.2.2.app (Fr.nil n0)⟩ hxx ⟨hD, q207, fun z => z.elim q214 q221⟩
        · refine own_bipush 226 Y1 (120 : Int32) at_224 rfl rfl ?_
          refine own_istore 228 Y1 #[.val (.int x0), .val (.int x1), .val (.long x2), .second, .val (.int x3), .val (.int x4), .val (.int x5), .val (.ref pa), .val (.int (Int32.ofNat wn)), .val (.long (Int64.ofNat vn)), .second, .val (.ref t), .val (.int pr), .val (.int po), .val (.int qq), .val (.int (120 : Int32)), .unset, .unset, .unset, .unset, .unset, .unset, .unset, .unset, .unset, .unset, .unset, .unset, .unset, .unset, .unset] at_226 rfl rfl ?_
          exact KK _ _ (120 : Int32) Y1 ⟨D.1, D.2.1, D.2.2.1, D.2.2.2.app (Fr.nil n0)⟩ rfl (by decide) 
set_option maxRecDepth 65536 in
set_option maxHeartbeats 4000000 in
theorem seg_k {p : Program} {l : Launch} {e : Env} {R : Room} {s : State} {m : MethodId} {args : Array Value} {below : List Frame} {meth : Method} {c : Code} {T : State} {Z : State} {h : Heap} {a0 : Array Value} {x0 x1 x3 x4 x5 pr po qq xx m1 m2 k0 ms mk mm es : Int32} {x2 : Int64} {wn vn : Nat} {pa t : Addr} {kp kt : ClassId} {ch : Nat → Int32} {n0 : Nat} {locs : List Loc} {cells slots : Nat} {E : Outcome → State → Prop} (hw : ∀ d ∈ tables_1, d.before a0 Z = true) (gt : n0 ≤ t) (npt : pa ≠ t) (hv : k0 = 0 ∨ k0 = 1 ∨ k0 = 2 ∨ k0 = 3) (hpr : nar .char pr = pr) (Y : own_S Z x code maxLocals ret p l e R s m args below meth c T h locs cells slots) (D : WD Z h n0 locs t kt ch pa kp) (KK : ∀ (T : State) (h : Heap) (locs : List Loc) (ch : Nat → Int32) (sn : Nat), sn ≤ 3 → own_S Z x code maxLocals ret p l e R s m args below meth c T h locs cells slots → WD Z h n0 locs t kt ch pa kp → own_G p e below E (T.setTop (mkF m 345 #[.val (.int x0), .val (.int x1), .val (.long x2), .second, .val (.int x3), .val (.int x4), .val (.int x5), .val (.ref pa), .val (.int (Int32.ofNat wn)), .val (.long (Int64.ofNat vn)), .second, .val (.ref t), .val (.int pr), .val (.int po), .val (.int qq), .val (.int xx), .val (.int m1), .val (.int m2), .val (.int k0), .val (.int ms), .val (.int mk), .val (.int mm), .val (.int es), .val (.int (Int32.ofNat sn)), .unset, .unset, .unset, .unset, .unset, .unset, .unset] []))) : own_G p e below E (T.setTop (mkF m 298 #[.val (.int x0), .val (.int x1), .val (.long x2), .second, .val (.int x3), .val (.int x4), .val (.int x5), .val (.ref pa), .val (.int (Int32.ofNat wn)), .val (.long (Int64.ofNat vn)), .second, .val (.ref t), .val (.int pr), .val (.int po), .val (.int qq), .val (.int xx), .val (.int m1), .val (.int m2), .val (.int k0), .val (.int ms), .val (.int mk), .val (.int mm), .val (.int es), .val (.int (Int32.ofNat 0)), .unset, .unset, .unset, .unset, .unset, .unset, .unset] [])) := by
  rcases hv with rfl | rfl | rfl | rfl
  · skip
    refine own_iload 300 Y at_298 rfl rfl ?_
    refine own_ifT 313 Y at_300 (XT.i0_le_t (by decide)) (by decide) ?_
    refine own_iload 315 Y at_313 rfl rfl ?_
    refine own_iconst 316 Y (1 : Int32) at_315 rfl rfl ?_
    refine own_icT 329 Y at_316 (XT.ii_le_t (by decide)) (by decide) ?_
    refine own_iload 331 Y at_329 rfl rfl ?_
    refine own_iconst 332 Y (2 : Int32) at_331 rfl rfl ?_
    refine own_icT 345 Y at_332 (XT.ii_le_t (by decide)) (by decide) ?_
    exact KK _ _ _ _ 0 (by decide) Y D
  · skip
    refine own_iload 300 Y at_298 rfl rfl ?_
    refine own_ifF 303 Y at_300 (XT.i0_le_f (by decide)) rfl ?_
    refine own_aload 305 Y at_303 rfl rfl rfl ?_
    refine own_iload 307 Y at_305 rfl rfl ?_
    refine own_iinc 310 Y #[.val (.int x0), .val (.int x1), .val (.long x2), .second, .val (.int x3), .val (.int x4), .val (.int x5), .val (.ref pa), .val (.int (Int32.ofNat wn)), .val (.long (Int64.ofNat vn)), .second, .val (.ref t), .val (.int pr), .val (.int po), .val (.int qq), .val (.int xx), .val (.int m1), .val (.int m2), .val (.int (1 : Int32)), .val (.int ms), .val (.int mk), .val (.int mm), .val (.int es), .val (.int ((Int32.ofNat 0) + (1 : Int32))), .unset, .unset, .unset, .unset, .unset, .unset, .unset] (1 : Int32) at_307 rfl rfl rfl rfl ?_
    rw [own_oadd 0]
    refine own_iload 312 Y at_310 rfl rfl ?_
    refine own_putT 313 Y D gt npt (k := 0) rfl (by omega) (c' := pr) hpr at_312 rfl fun T1 h1 L1 Y1 D => ?_
    refine own_iload 315 Y1 at_313 rfl rfl ?_
    refine own_iconst 316 Y1 (1 : Int32) at_315 rfl rfl ?_
    refine own_icT 329 Y1 at_316 (XT.ii_le_t (by decide)) (by decide) ?_
    refine own_iload 331 Y1 at_329 rfl rfl ?_
    refine own_iconst 332 Y1 (2 : Int32) at_331 rfl rfl ?_
    refine own_icT 345 Y1 at_332 (XT.ii_le_t (by decide)) (by decide) ?_
    exact KK _ _ _ _ 1 (by decide) Y1 D
  · skip
    refine own_iload 300 Y at_298 rfl rfl ?_
    refine own_ifF 303 Y at_300 (XT.i0_le_f (by decide)) rfl ?_
    refine own_aload 305 Y at_303 rfl rfl rfl ?_
    refine own_iload 307 Y at_305 rfl rfl ?_
    refine own_iinc 310 Y #[.val (.int x0), .val (.int x1), .val (.long x2), .second, .val (.int x3), .val (.int x4), .val (.int x5), .val (.ref pa), .val (.int (Int32.ofNat wn)), .val (.long (Int64.ofNat vn)), .second, .val (.ref t), .val (.int pr), .val (.int po), .val (.int qq), .val (.int xx), .val (.int m1), .val (.int m2), .val (.int (2 : Int32)), .val (.int ms), .val (.int mk), .val (.int mm), .val (.int es), .val (.int ((Int32.ofNat 0) + (1 : Int32))), .unset, .unset, .unset, .unset, .unset, .unset, .unset] (1 : Int32) at_307 rfl rfl rfl rfl ?_
    rw [own_oadd 0]
    refine own_iload 312 Y at_310 rfl rfl ?_
    refine own_putT 313 Y D gt npt (k := 0) rfl (by omega) (c' := pr) hpr at_312 rfl fun T2 h2 L2 Y2 D => ?_
    refine own_iload 315 Y2 at_313 rfl rfl ?_
    refine own_iconst 316 Y2 (1 : Int32) at_315 rfl rfl ?_
    refine own_icF 319 Y2 at_316 (XT.ii_le_f (by decide)) rfl ?_
    refine own_aload 321 Y2 at_319 rfl rfl rfl ?_
    refine own_iload 323 Y2 at_321 rfl rfl ?_
    refine own_iinc 326 Y2 #[.val (.int x0), .val (.int x1), .val (.long x2), .second, .val (.int x3), .val (.int x4), .val (.int x5), .val (.ref pa), .val (.int (Int32.ofNat wn)), .val (.long (Int64.ofNat vn)), .second, .val (.ref t), .val (.int pr), .val (.int po), .val (.int qq), .val (.int xx), .val (.int m1), .val (.int m2), .val (.int (2 : Int32)), .val (.int ms), .val (.int mk), .val (.int mm), .val (.int es), .val (.int ((Int32.ofNat (0 + 1)) + (1 : Int32))), .unset, .unset, .unset, .unset, .unset, .unset, .unset] (1 : Int32) at_323 rfl rfl rfl rfl ?_
    rw [own_oadd (0 + 1)]
    refine own_iload 328 Y2 at_326 rfl rfl ?_
    refine own_putT 329 Y2 D gt npt (k := (0 + 1)) rfl (by omega) (c' := pr) hpr at_328 rfl fun T3 h3 L3 Y3 D => ?_
    refine own_iload 331 Y3 at_329 rfl rfl ?_
    refine own_iconst 332 Y3 (2 : Int32) at_331 rfl rfl ?_
    refine own_icT 345 Y3 at_332 (XT.ii_le_t (by decide)) (by decide) ?_
    exact KK _ _ _ _ 2 (by decide) Y3 D
  · skip
    refine own_iload 300 Y at_298 rfl rfl ?_
    refine own_ifF 303 Y at_300 (XT.i0_le_f (by decide)) rfl ?_
    refine own_aload 305 Y at_303 rfl rfl rfl ?_
    refine own_iload 307 Y at_305 rfl rfl ?_
    refine own_iinc 310 Y #[.val (.int x0), .val (.int x1), .val (.long x2), .second, .val (.int x3), .val (.int x4), .val (.int x5), .val (.ref pa), .val (.int (Int32.ofNat wn)), .val (.long (Int64.ofNat vn)), .second, .val (.ref t), .val (.int pr), .val (.int po), .val (.int qq), .val (.int xx), .val (.int m1), .val (.int m2), .val (.int (3 : Int32)), .val (.int ms), .val (.int mk), .val (.int mm), .val (.int es), .val (.int ((Int32.ofNat 0) + (1 : Int32))), .unset, .unset, .unset, .unset, .unset, .unset, .unset] (1 : Int32) at_307 rfl rfl rfl rfl ?_
    rw [own_oadd 0]
    refine own_iload 312 Y at_310 rfl rfl ?_
    refine own_putT 313 Y D gt npt (k := 0) rfl (by omega) (c' := pr) hpr at_312 rfl fun T4 h4 L4 Y4 D => ?_
    refine own_iload 315 Y4 at_313 rfl rfl ?_
    refine own_iconst 316 Y4 (1 : Int32) at_315 rfl rfl ?_
    refine own_icF 319 Y4 at_316 (XT.ii_le_f (by decide)) rfl ?_
    refine own_aload 321 Y4 at_319 rfl rfl rfl ?_
    refine own_iload 323 Y4 at_321 rfl rfl ?_
    refine own_iinc 326 Y4 #[.val (.int x0), .val (.int x1), .val (.long x2), .second, .val (.int x3), .val (.int x4), .val (.int x5), .val (.ref pa), .val (.int (Int32.ofNat wn)), .val (.long (Int64.ofNat vn)), .second, .val (.ref t), .val (.int pr), .val (.int po), .val (.int qq), .val (.int xx), .val (.int m1), .val (.int m2), .val (.int (3 : Int32)), .val (.int ms), .val (.int mk), .val (.int mm), .val (.int es), .val (.int ((Int32.ofNat (0 + 1)) + (1 : Int32))), .unset, .unset, .unset, .unset, .unset, .unset, .unset] (1 : Int32) at_323 rfl rfl rfl rfl ?_
    rw [own_oadd (0 + 1)]
    refine own_iload 328 Y4 at_326 rfl rfl ?_
    refine own_putT 329 Y4 D gt npt (k := (0 + 1)) rfl (by omega) (c' := pr) hpr at_328 rfl fun T5 h5 L5 Y5 D => ?_
    refine own_iload 331 Y5 at_329 rfl rfl ?_
    refine own_iconst 332 Y5 (2 : Int32) at_331 rfl rfl ?_
    refine own_icF 335 Y5 at_332 (XT.ii_le_f (by decide)) rfl ?_
    refine own_aload 337 Y5 at_335 rfl rfl rfl ?_
    refine own_iload 339 Y5 at_337 rfl rfl ?_
    refine own_iinc 342 Y5 #[.val (.int x0), .val (.int x1), .val (.long x2), .second, .val (.int x3), .val (.int x4), .val (.int x5), .val (.ref pa), .val (.int (Int32.ofNat wn)), .val (.long (Int64.ofNat vn)), .second, .val (.ref t), .val (.int pr), .val (.int po), .val (.int qq), .val (.int xx), .val (.int m1), .val (.int m2), .val (.int (3 : Int32)), .val (.int ms), .val (.int mk), .val (.int mm), .val (.int es), .val (.int ((Int32.ofNat ((0 + 1) + 1)) + (1 : Int32))), .unset, .unset, .unset, .unset, .unset, .unset, .unset] (1 : Int32) at_339 rfl rfl rfl rfl ?_
    rw [own_oadd ((0 + 1) + 1)]
    refine own_iload 344 Y5 at_342 rfl rfl ?_
    refine own_putT 345 Y5 D gt npt (k := ((0 + 1) + 1)) rfl (by omega) (c' := pr) hpr at_344 rfl fun T6 h6 L6 Y6 D => ?_
    exact KK _ _ _ _ 3 (by decide) Y6 D
set_option maxRecDepth 65536 in
set_option maxHeartbeats 4000000 in
theorem seg_ms {p : Program} {l : Launch} {e : Env} {R : Room} {s : State} {m : MethodId} {args : Array Value} {below : List Frame} {meth : Method} {c : Code} {T : State} {Z : State} {h : Heap} {a0 : Array Value} {x0 x1 x3 x4 x5 pr po qq xx m1 m2 k0 ms mk mm es : Int32} {x2 : Int64} {wn vn sn : Nat} {pa t : Addr} {kp kt : ClassId} {ch : Nat → Int32} {n0 : Nat} {locs : List Loc} {cells slots : Nat} {E : Outcome → State → Prop} (hw : ∀ d ∈ tables_1, d.before a0 Z = true) (gt : n0 ≤ t) (npt : pa ≠ t) (k : Nat) (hkb : k ≤ 3) (hv : ms = 0 ∨ ms = 1 ∨ ms = 2 ∨ ms = 3)  (Y : own_S Z x code maxLocals ret p l e R s m args below meth c T h locs cells slots) (D : WD Z h n0 locs t kt ch pa kp) (KK : ∀ (T : State) (h : Heap) (locs : List Loc), own_S Z x code maxLocals ret p l e R s m args below meth c T h locs cells slots → WD Z h n0 locs t kt (app ch k (msL ms)) pa kp → own_G p e below E (T.setTop (mkF m 407 #[.val (.int x0), .val (.int x1), .val (.long x2), .second, .val (.int x3), .val (.int x4), .val (.int x5), .val (.ref pa), .val (.int (Int32.ofNat wn)), .val (.long (Int64.ofNat vn)), .second, .val (.ref t), .val (.int pr), .val (.int po), .val (.int qq), .val (.int xx), .val (.int m1), .val (.int m2), .val (.int k0), .val (.int ms), .val (.int mk), .val (.int mm), .val (.int es), .val (.int (Int32.ofNat (k + (msL ms).length))), .val (.int (Int32.ofNat sn)), .unset, .unset, .unset, .unset, .unset, .unset] []))) : own_G p e below E (T.setTop (mkF m 349 #[.val (.int x0), .val (.int x1), .val (.long x2), .second, .val (.int x3), .val (.int x4), .val (.int x5), .val (.ref pa), .val (.int (Int32.ofNat wn)), .val (.long (Int64.ofNat vn)), .second, .val (.ref t), .val (.int pr), .val (.int po), .val (.int qq), .val (.int xx), .val (.int m1), .val (.int m2), .val (.int k0), .val (.int ms), .val (.int mk), .val (.int mm), .val (.int es), .val (.int (Int32.ofNat k)), .val (.int (Int32.ofNat sn)), .unset, .unset, .unset, .unset, .unset, .unset] [])) := by
  rcases hv with rfl | rfl | rfl | rfl
  · rw [show (msL (0 : Int32)) = [] from by simp [msL]] at KK
    refine own_iload 351 Y at_349 rfl rfl ?_
    refine own_iconst 352 Y (1 : Int32) at_351 rfl rfl ?_
    refine own_icT 365 Y at_352 (XT.ii_ne_t (by decide)) (by decide) ?_
    refine own_iload 367 Y at_365 rfl rfl ?_
    refine own_iconst 368 Y (2 : Int32) at_367 rfl rfl ?_
    refine own_icT 381 Y at_368 (XT.ii_ne_t (by decide)) (by decide) ?_
    refine own_iload 383 Y at_381 rfl rfl ?_
    refine own_iconst 384 Y (3 : Int32) at_383 rfl rfl ?_
    refine own_icT 407 Y at_384 (XT.ii_ne_t (by decide)) (by decide) ?_
    exact KK _ _ _ Y D
  · rw [show (msL (1 : Int32)) = [45] from by simp [msL]] at KK
    refine own_iload 351 Y at_349 rfl rfl ?_
    refine own_iconst 352 Y (1 : Int32) at_351 rfl rfl ?_
    refine own_icF 355 Y at_352 (XT.ii_ne_f (by decide)) rfl ?_
    refine own_aload 357 Y at_355 rfl rfl rfl ?_
    refine own_iload 359 Y at_357 rfl rfl ?_
    refine own_iinc 362 Y #[.val (.int x0), .val (.int x1), .val (.long x2), .second, .val (.int x3), .val (.int x4), .val (.int x5), .val (.ref pa), .val (.int (Int32.ofNat wn)), .val (.long (Int64.ofNat vn)), .second, .val (.ref t), .val (.int pr), .val (.int po), .val (.int qq), .val (.int xx), .val (.int m1), .val (.int m2), .val (.int k0), .val (.int (1 : Int32)), .val (.int mk), .val (.int mm), .val (.int es), .val (.int ((Int32.ofNat k) + (1 : Int32))), .val (.int (Int32.ofNat sn)), .unset, .unset, .unset, .unset, .unset, .unset] (1 : Int32) at_359 rfl rfl rfl rfl ?_
    rw [own_oadd k]
    refine own_bipush 364 Y (45 : Int32) at_362 rfl rfl ?_
    refine own_putT 365 Y D gt npt (k := k) rfl (by omega) (c' := (45 : Int32)) rfl at_364 rfl fun T1 h1 L1 Y1 D => ?_
    refine own_iload 367 Y1 at_365 rfl rfl ?_
    refine own_iconst 368 Y1 (2 : Int32) at_367 rfl rfl ?_
    refine own_icT 381 Y1 at_368 (XT.ii_ne_t (by decide)) (by decide) ?_
    refine own_iload 383 Y1 at_381 rfl rfl ?_
    refine own_iconst 384 Y1 (3 : Int32) at_383 rfl rfl ?_
    refine own_icT 407 Y1 at_384 (XT.ii_ne_t (by decide)) (by decide) ?_
    exact KK _ _ _ Y1 D
  · rw [show (msL (2 : Int32)) = [43] from by simp [msL]] at KK
    refine own_iload 351 Y at_349 rfl rfl ?_
    refine own_iconst 352 Y (1 : Int32) at_351 rfl rfl ?_
    refine own_icT 365 Y at_352 (XT.ii_ne_t (by decide)) (by decide) ?_
    refine own_iload 367 Y at_365 rfl rfl ?_
    refine own_iconst 368 Y (2 : Int32) at_367 rfl rfl ?_
    refine own_icF 371 Y at_368 (XT.ii_ne_f (by decide)) rfl ?_
    refine own_aload 373 Y at_371 rfl rfl rfl ?_
    refine own_iload 375 Y at_373 rfl rfl ?_
    refine own_iinc 378 Y #[.val (.int x0), .val (.int x1), .val (.long x2), .second, .val (.int x3), .val (.int x4), .val (.int x5), .val (.ref pa), .val (.int (Int32.ofNat wn)), .val (.long (Int64.ofNat vn)), .second, .val (.ref t), .val (.int pr), .val (.int po), .val (.int qq), .val (.int xx), .val (.int m1), .val (.int m2), .val (.int k0), .val (.int (2 : Int32)), .val (.int mk), .val (.int mm), .val (.int es), .val (.int ((Int32.ofNat k) + (1 : Int32))), .val (.int (Int32.ofNat sn)), .unset, .unset, .unset, .unset, .unset, .unset] (1 : Int32) at_375 rfl rfl rfl rfl ?_
    rw [own_oadd k]
    refine own_bipush 380 Y (43 : Int32) at_378 rfl rfl ?_
    refine own_putT 381 Y D gt npt (k := k) rfl (by omega) (c' := (43 : Int32)) rfl at_380 rfl fun T2 h2 L2 Y2 D => ?_
    refine own_iload 383 Y2 at_381 rfl rfl ?_
    refine own_iconst 384 Y2 (3 : Int32) at_383 rfl rfl ?_
    refine own_icT 407 Y2 at_384 (XT.ii_ne_t (by decide)) (by decide) ?_
    exact KK _ _ _ Y2 D
  · rw [show (msL (3 : Int32)) = [45, 43] from by simp [msL]] at KK
    refine own_iload 351 Y at_349 rfl rfl ?_
    refine own_iconst 352 Y (1 : Int32) at_351 rfl rfl ?_
    refine own_icT 365 Y at_352 (XT.ii_ne_t (by decide)) (by decide) ?_
    refine own_iload 367 Y at_365 rfl rfl ?_
    refine own_iconst 368 Y (2 : Int32) at_367 rfl rfl ?_
    refine own_icT 381 Y at_368 (XT.ii_ne_t (by decide)) (by decide) ?_
    refine own_iload 383 Y at_381 rfl rfl ?_
    refine own_iconst 384 Y (3 : Int32) at_383 rfl rfl ?_
    refine own_icF 387 Y at_384 (XT.ii_ne_f (by decide)) rfl ?_
    refine own_aload 389 Y at_387 rfl rfl rfl ?_
    refine own_iload 391 Y at_389 rfl rfl ?_
    refine own_iinc 394 Y #[.val (.int x0), .val (.int x1), .val (.long x2), .second, .val (.int x3), .val (.int x4), .val (.int x5), .val (.ref pa), .val (.int (Int32.ofNat wn)), .val (.long (Int64.ofNat vn)), .second, .val (.ref t), .val (.int pr), .val (.int po), .val (.int qq), .val (.int xx), .val (.int m1), .val (.int m2), .val (.int k0), .val (.int (3 : Int32)), .val (.int mk), .val (.int mm), .val (.int es), .val (.int ((Int32.ofNat k) + (1 : Int32))), .val (.int (Int32.ofNat sn)), .unset, .unset, .unset, .unset, .unset, .unset] (1 : Int32) at_391 rfl rfl rfl rfl ?_
    rw [own_oadd k]
    refine own_bipush 396 Y (45 : Int32) at_394 rfl rfl ?_
    refine own_putT 397 Y D gt npt (k := k) rfl (by omega) (c' := (45 : Int32)) rfl at_396 rfl fun T3 h3 L3 Y3 D => ?_
    refine own_aload 399 Y3 at_397 rfl rfl rfl ?_
    refine own_iload 401 Y3 at_399 rfl rfl ?_
    refine own_iinc 404 Y3 #[.val (.int x0), .val (.int x1), .val (.long x2), .second, .val (.int x3), .val (.int x4), .val (.int x5), .val (.ref pa), .val (.int (Int32.ofNat wn)), .val (.long (Int64.ofNat vn)), .second, .val (.ref t), .val (.int pr), .val (.int po), .val (.int qq), .val (.int xx), .val (.int m1), .val (.int m2), .val (.int k0), .val (.int (3 : Int32)), .val (.int mk), .val (.int mm), .val (.int es), .val (.int ((Int32.ofNat (k + 1)) + (1 : Int32))), .val (.int (Int32.ofNat sn)), .unset, .unset, .unset, .unset, .unset, .unset] (1 : Int32) at_401 rfl rfl rfl rfl ?_
    rw [own_oadd (k + 1)]
    refine own_bipush 406 Y3 (43 : Int32) at_404 rfl rfl ?_
    refine own_putT 407 Y3 D gt npt (k := (k + 1)) rfl (by omega) (c' := (43 : Int32)) rfl at_406 rfl fun T4 h4 L4 Y4 D => ?_
    exact KK _ _ _ Y4 D
set_option maxRecDepth 65536 in
set_option maxHeartbeats 4000000 in
theorem seg_mk {p : Program} {l : Launch} {e : Env} {R : Room} {s : State} {m : MethodId} {args : Array Value} {below : List Frame} {meth : Method} {c : Code} {T : State} {Z : State} {h : Heap} {a0 : Array Value} {x0 x1 x3 x4 x5 pr po qq xx m1 m2 k0 ms mk mm es : Int32} {x2 : Int64} {wn vn sn : Nat} {pa t : Addr} {kp kt : ClassId} {ch : Nat → Int32} {n0 : Nat} {locs : List Loc} {cells slots : Nat} {E : Outcome → State → Prop} (hw : ∀ d ∈ tables_1, d.before a0 Z = true) (gt : n0 ≤ t) (npt : pa ≠ t) (k : Nat) (hkb : k ≤ 5) (hv : mk = 0 ∨ mk = 1 ∨ mk = 2 ∨ mk = 3 ∨ mk = 4 ∨ mk = 5 ∨ mk = 6 ∨ mk = 7) (hm1 : nar .char m1 = m1) (hm2 : nar .char m2 = m2) (hxx : nar .char xx = xx) (Y : own_S Z x code maxLocals ret p l e R s m args below meth c T h locs cells slots) (D : WD Z h n0 locs t kt ch pa kp) (KK : ∀ (T : State) (h : Heap) (locs : List Loc), own_S Z x code maxLocals ret p l e R s m args below meth c T h locs cells slots → WD Z h n0 locs t kt (app ch k (mkL mk m1 m2 xx)) pa kp → own_G p e below E (T.setTop (mkF m 611 #[.val (.int x0), .val (.int x1), .val (.long x2), .second, .val (.int x3), .val (.int x4), .val (.int x5), .val (.ref pa), .val (.int (Int32.ofNat wn)), .val (.long (Int64.ofNat vn)), .second, .val (.ref t), .val (.int pr), .val (.int po), .val (.int qq), .val (.int xx), .val (.int m1), .val (.int m2), .val (.int k0), .val (.int ms), .val (.int mk), .val (.int mm), .val (.int es), .val (.int (Int32.ofNat (k + (mkL mk m1 m2 xx).length))), .val (.int (Int32.ofNat sn)), .unset, .unset, .unset, .unset, .unset, .unset] []))) : own_G p e below E (T.setTop (mkF m 407 #[.val (.int x0), .val (.int x1), .val (.long x2), .second, .val (.int x3), .val (.int x4), .val (.int x5), .val (.ref pa), .val (.int (Int32.ofNat wn)), .val (.long (Int64.ofNat vn)), .second, .val (.ref t), .val (.int pr), .val (.int po), .val (.int qq), .val (.int xx), .val (.int m1), .val (.int m2), .val (.int k0), .val (.int ms), .val (.int mk), .val (.int mm), .val (.int es), .val (.int (Int32.ofNat k)), .val (.int (Int32.ofNat sn)), .unset, .unset, .unset, .unset, .unset, .unset] [])) := by
  rcases hv with rfl | rfl | rfl | rfl | rfl | rfl | rfl | rfl
  · rw [show (mkL (0 : Int32) m1 m2 xx) = [] from by simp [mkL]] at KK
    refine own_iload 409 Y at_407 rfl rfl ?_
    refine own_iconst 410 Y (1 : Int32) at_409 rfl rfl ?_
    refine own_icT 423 Y at_410 (XT.ii_ne_t (by decide)) (by decide) ?_
    refine own_iload 425 Y at_423 rfl rfl ?_
    refine own_iconst 426 Y (2 : Int32) at_425 rfl rfl ?_
    refine own_icT 449 Y at_426 (XT.ii_ne_t (by decide)) (by decide) ?_
    refine own_iload 451 Y at_449 rfl rfl ?_
    refine own_iconst 452 Y (3 : Int32) at_451 rfl rfl ?_
    refine own_icT 475 Y at_452 (XT.ii_ne_t (by decide)) (by decide) ?_
    refine own_iload 477 Y at_475 rfl rfl ?_
    refine own_iconst 478 Y (4 : Int32) at_477 rfl rfl ?_
    refine own_icT 511 Y at_478 (XT.ii_ne_t (by decide)) (by decide) ?_
    refine own_iload 513 Y at_511 rfl rfl ?_
    refine own_iconst 514 Y (5 : Int32) at_513 rfl rfl ?_
    refine own_icT 527 Y at_514 (XT.ii_ne_t (by decide)) (by decide) ?_
    refine own_iload 529 Y at_527 rfl rfl ?_
    refine own_bipush 531 Y (6 : Int32) at_529 rfl rfl ?_
    refine own_icT 574 Y at_531 (XT.ii_ne_t (by decide)) (by decide) ?_
    refine own_iload 576 Y at_574 rfl rfl ?_
    refine own_bipush 578 Y (7 : Int32) at_576 rfl rfl ?_
    refine own_icT 611 Y at_578 (XT.ii_ne_t (by decide)) (by decide) ?_
    exact KK _ _ _ Y D
  · rw [show (mkL (1 : Int32) m1 m2 xx) = [m1] from by simp [mkL]] at KK
    refine own_iload 409 Y at_407 rfl rfl ?_
    refine own_iconst 410 Y (1 : Int32) at_409 rfl rfl ?_
    refine own_icF 413 Y at_410 (XT.ii_ne_f (by decide)) rfl ?_
    refine own_aload 415 Y at_413 rfl rfl rfl ?_
    refine own_iload 417 Y at_415 rfl rfl ?_
    refine own_iinc 420 Y #[.val (.int x0), .val (.int x1), .val (.long x2), .second, .val (.int x3), .val (.int x4), .val (.int x5), .val (.ref pa), .val (.int (Int32.ofNat wn)), .val (.long (Int64.ofNat vn)), .second, .val (.ref t), .val (.int pr), .val (.int po), .val (.int qq), .val (.int xx), .val (.int m1), .val (.int m2), .val (.int k0), .val (.int ms), .val (.int (1 : Int32)), .val (.int mm), .val (.int es), .val (.int ((Int32.ofNat k) + (1 : Int32))), .val (.int (Int32.ofNat sn)), .unset, .unset, .unset, .unset, .unset, .unset] (1 : Int32) at_417 rfl rfl rfl rfl ?_
    rw [own_oadd k]
    refine own_iload 422 Y at_420 rfl rfl ?_
    refine own_putT 423 Y D gt npt (k := k) rfl (by omega) (c' := m1) hm1 at_422 rfl fun T1 h1 L1 Y1 D => ?_
    refine own_iload 425 Y1 at_423 rfl rfl ?_
    refine own_iconst 426 Y1 (2 : Int32) at_425 rfl rfl ?_
    refine own_icT 449 Y1 at_426 (XT.ii_ne_t (by decide)) (by decide) ?_
    refine own_iload 451 Y1 at_449 rfl rfl ?_
    refine own_iconst 452 Y1 (3 : Int32) at_451 rfl rfl ?_
    refine own_icT 475 Y1 at_452 (XT.ii_ne_t (by decide)) (by decide) ?_
    refine own_iload 477 Y1 at_475 rfl rfl ?_
    refine own_iconst 478 Y1 (4 : Int32) at_477 rfl rfl ?_
    refine own_icT 511 Y1 at_478 (XT.ii_ne_t (by decide)) (by decide) ?_
    refine own_iload 513 Y1 at_511 rfl rfl ?_
    refine own_iconst 514 Y1 (5 : Int32) at_513 rfl rfl ?_
    refine own_icT 527 Y1 at_514 (XT.ii_ne_t (by decide)) (by decide) ?_
    refine own_iload 529 Y1 at_527 rfl rfl ?_
    refine own_bipush 531 Y1 (6 : Int32) at_529 rfl rfl ?_
    refine own_icT 574 Y1 at_531 (XT.ii_ne_t (by decide)) (by decide) ?_
    refine own_iload 576 Y1 at_574 rfl rfl ?_
    refine own_bipush 578 Y1 (7 : Int32) at_576 rfl rfl ?_
    refine own_icT 611 Y1 at_578 (XT.ii_ne_t (by decide)) (by decide) ?_
    exact KK _ _ _ Y1 D
  · rw [show (mkL (2 : Int32) m1 m2 xx) = [m1, 46] from by simp [mkL]] at KK
    refine own_iload 409 Y at_407 rfl rfl ?_
    refine own_iconst 410 Y (1 : Int32) at_409 rfl rfl ?_
    refine own_icT 423 Y at_410 (XT.ii_ne_t (by decide)) (by decide) ?_
    refine own_iload 425 Y at_423 rfl rfl ?_
    refine own_iconst 426 Y (2 : Int32) at_425 rfl rfl ?_
    refine own_icF 429 Y at_426 (XT.ii_ne_f (by decide)) rfl ?_
    refine own_aload 431 Y at_429 rfl rfl rfl ?_
    refine own_iload 433 Y at_431 rfl rfl ?_
    refine own_iinc 436 Y #[.val (.int x0), .val (.int x1), .val (.long x2), .second, .val (.int x3), .val (.int x4), .val (.int x5), .val (.ref pa), .val (.int (Int32.ofNat wn)), .val (.long (Int64.ofNat vn)), .second, .val (.ref t), .val (.int pr), .val (.int po), .val (.int qq), .val (.int xx), .val (.int m1), .val (.int m2), .val (.int k0), .val (.int ms), .val (.int (2 : Int32)), .val (.int mm), .val (.int es), .val (.int ((Int32.ofNat k) + (1 : Int32))), .val (.int (Int32.ofNat sn)), .unset, .unset, .unset, .unset, .unset, .unset] (1 : Int32) at_433 rfl rfl rfl rfl ?_
    rw [own_oadd k]
    refine own_iload 438 Y at_436 rfl rfl ?_
    refine own_putT 439 Y D gt npt (k := k) rfl (by omega) (c' := m1) hm1 at_438 rfl fun T2 h2 L2 Y2 D => ?_
    refine own_aload 441 Y2 at_439 rfl rfl rfl ?_
    refine own_iload 443 Y2 at_441 rfl rfl ?_
    refine own_iinc 446 Y2 #[.val (.int x0), .val (.int x1), .val (.long x2), .second, .val (.int x3), .val (.int x4), .val (.int x5), .val (.ref pa), .val (.int (Int32.ofNat wn)), .val (.long (Int64.ofNat vn)), .second, .val (.ref t), .val (.int pr), .val (.int po), .val (.int qq), .val (.int xx), .val (.int m1), .val (.int m2), .val (.int k0), .val (.int ms), .val (.int (2 : Int32)), .val (.int mm), .val (.int es), .val (.int ((Int32.ofNat (k + 1)) + (1 : Int32))), .val (.int (Int32.ofNat sn)), .unset, .unset, .unset, .unset, .unset, .unset] (1 : Int32) at_443 rfl rfl rfl rfl ?_
    rw [own_oadd (k + 1)]
    refine own_bipush 448 Y2 (46 : Int32) at_446 rfl rfl ?_
    refine own_putT 449 Y2 D gt npt (k := (k + 1)) rfl (by omega) (c' := (46 : Int32)) rfl at_448 rfl fun T3 h3 L3 Y3 D => ?_
    refine own_iload 451 Y3 at_449 rfl rfl ?_
    refine own_iconst 452 Y3 (3 : Int32) at_451 rfl rfl ?_
    refine own_icT 475 Y3 at_452 (XT.ii_ne_t (by decide)) (by decide) ?_
    refine own_iload 477 Y3 at_475 rfl rfl ?_
    refine own_iconst 478 Y3 (4 : Int32) at_477 rfl rfl ?_
    refine own_icT 511 Y3 at_478 (XT.ii_ne_t (by decide)) (by decide) ?_
    refine own_iload 513 Y3 at_511 rfl rfl ?_
    refine own_iconst 514 Y3 (5 : Int32) at_513 rfl rfl ?_
    refine own_icT 527 Y3 at_514 (XT.ii_ne_t (by decide)) (by decide) ?_
    refine own_iload 529 Y3 at_527 rfl rfl ?_
    refine own_bipush 531 Y3 (6 : Int32) at_529 rfl rfl ?_
    refine own_icT 574 Y3 at_531 (XT.ii_ne_t (by decide)) (by decide) ?_
    refine own_iload 576 Y3 at_574 rfl rfl ?_
    refine own_bipush 578 Y3 (7 : Int32) at_576 rfl rfl ?_
    refine own_icT 611 Y3 at_578 (XT.ii_ne_t (by decide)) (by decide) ?_
    exact KK _ _ _ Y3 D
  · rw [show (mkL (3 : Int32) m1 m2 xx) = [46, m1] from by simp [mkL]] at KK
    refine own_iload 409 Y at_407 rfl rfl ?_
    refine own_iconst 410 Y (1 : Int32) at_409 rfl rfl ?_
    refine own_icT 423 Y at_410 (XT.ii_ne_t (by decide)) (by decide) ?_
    refine own_iload 425 Y at_423 rfl rfl ?_
    refine own_iconst 426 Y (2 : Int32) at_425 rfl rfl ?_
    refine own_icT 449 Y at_426 (XT.ii_ne_t (by decide)) (by decide) ?_
    refine own_iload 451 Y at_449 rfl rfl ?_
    refine own_iconst 452 Y (3 : Int32) at_451 rfl rfl ?_
    refine own_icF 455 Y at_452 (XT.ii_ne_f (by decide)) rfl ?_
    refine own_aload 457 Y at_455 rfl rfl rfl ?_
    refine own_iload 459 Y at_457 rfl rfl ?_
    refine own_iinc 462 Y #[.val (.int x0), .val (.int x1), .val (.long x2), .second, .val (.int x3), .val (.int x4), .val (.int x5), .val (.ref pa), .val (.int (Int32.ofNat wn)), .val (.long (Int64.ofNat vn)), .second, .val (.ref t), .val (.int pr), .val (.int po), .val (.int qq), .val (.int xx), .val (.int m1), .val (.int m2), .val (.int k0), .val (.int ms), .val (.int (3 : Int32)), .val (.int mm), .val (.int es), .val (.int ((Int32.ofNat k) + (1 : Int32))), .val (.int (Int32.ofNat sn)), .unset, .unset, .unset, .unset, .unset, .unset] (1 : Int32) at_459 rfl rfl rfl rfl ?_
    rw [own_oadd k]
    refine own_bipush 464 Y (46 : Int32) at_462 rfl rfl ?_
    refine own_putT 465 Y D gt npt (k := k) rfl (by omega) (c' := (46 : Int32)) rfl at_464 rfl fun T4 h4 L4 Y4 D => ?_
    refine own_aload 467 Y4 at_465 rfl rfl rfl ?_
    refine own_iload 469 Y4 at_467 rfl rfl ?_
    refine own_iinc 472 Y4 #[.val (.int x0), .val (.int x1), .val (.long x2), .second, .val (.int x3), .val (.int x4), .val (.int x5), .val (.ref pa), .val (.int (Int32.ofNat wn)), .val (.long (Int64.ofNat vn)), .second, .val (.ref t), .val (.int pr), .val (.int po), .val (.int qq), .val (.int xx), .val (.int m1), .val (.int m2), .val (.int k0), .val (.int ms), .val (.int (3 : Int32)), .val (.int mm), .val (.int es), .val (.int ((Int32.ofNat (k + 1)) + (1 : Int32))), .val (.int (Int32.ofNat sn)), .unset, .unset, .unset, .unset, .unset, .unset] (1 : Int32) at_469 rfl rfl rfl rfl ?_
    rw [own_oadd (k + 1)]
    refine own_iload 474 Y4 at_472 rfl rfl ?_
    refine own_putT 475 Y4 D gt npt (k := (k + 1)) rfl (by omega) (c' := m1) hm1 at_474 rfl fun T5 h5 L5 Y5 D => ?_
    refine own_iload 477 Y5 at_475 rfl rfl ?_
    refine own_iconst 478 Y5 (4 : Int32) at_477 rfl rfl ?_
    refine own_icT 511 Y5 at_478 (XT.ii_ne_t (by decide)) (by decide) ?_
    refine own_iload 513 Y5 at_511 rfl rfl ?_
    refine own_iconst 514 Y5 (5 : Int32) at_513 rfl rfl ?_
    refine own_icT 527 Y5 at_514 (XT.ii_ne_t (by decide)) (by decide) ?_
    refine own_iload 529 Y5 at_527 rfl rfl ?_
    refine own_bipush 531 Y5 (6 : Int32) at_529 rfl rfl ?_
    refine own_icT 574 Y5 at_531 (XT.ii_ne_t (by decide)) (by decide) ?_
    refine own_iload 576 Y5 at_574 rfl rfl ?_
    refine own_bipush 578 Y5 (7 : Int32) at_576 rfl rfl ?_
    refine own_icT 611 Y5 at_578 (XT.ii_ne_t (by decide)) (by decide) ?_
    exact KK _ _ _ Y5 D
  · rw [show (mkL (4 : Int32) m1 m2 xx) = [m1, 46, m2] from by simp [mkL]] at KK
    refine own_iload 409 Y at_407 rfl rfl ?_
    refine own_iconst 410 Y (1 : Int32) at_409 rfl rfl ?_
    refine own_icT 423 Y at_410 (XT.ii_ne_t (by decide)) (by decide) ?_
    refine own_iload 425 Y at_423 rfl rfl ?_
    refine own_iconst 426 Y (2 : Int32) at_425 rfl rfl ?_
    refine own_icT 449 Y at_426 (XT.ii_ne_t (by decide)) (by decide) ?_
    refine own_iload 451 Y at_449 rfl rfl ?_
    refine own_iconst 452 Y (3 : Int32) at_451 rfl rfl ?_
    refine own_icT 475 Y at_452 (XT.ii_ne_t (by decide)) (by decide) ?_
    refine own_iload 477 Y at_475 rfl rfl ?_
    refine own_iconst 478 Y (4 : Int32) at_477 rfl rfl ?_
    refine own_icF 481 Y at_478 (XT.ii_ne_f (by decide)) rfl ?_
    refine own_aload 483 Y at_481 rfl rfl rfl ?_
    refine own_iload 485 Y at_483 rfl rfl ?_
    refine own_iinc 488 Y #[.val (.int x0), .val (.int x1), .val (.long x2), .second, .val (.int x3), .val (.int x4), .val (.int x5), .val (.ref pa), .val (.int (Int32.ofNat wn)), .val (.long (Int64.ofNat vn)), .second, .val (.ref t), .val (.int pr), .val (.int po), .val (.int qq), .val (.int xx), .val (.int m1), .val (.int m2), .val (.int k0), .val (.int ms), .val (.int (4 : Int32)), .val (.int mm), .val (.int es), .val (.int ((Int32.ofNat k) + (1 : Int32))), .val (.int (Int32.ofNat sn)), .unset, .unset, .unset, .unset, .unset, .unset] (1 : Int32) at_485 rfl rfl rfl rfl ?_
    rw [own_oadd k]
    refine own_iload 490 Y at_488 rfl rfl ?_
    refine own_putT 491 Y D gt npt (k := k) rfl (by omega) (c' := m1) hm1 at_490 rfl fun T6 h6 L6 Y6 D => ?_
    refine own_aload 493 Y6 at_491 rfl rfl rfl ?_
    refine own_iload 495 Y6 at_493 rfl rfl ?_
    refine own_iinc 498 Y6 #[.val (.int x0), .val (.int x1), .val (.long x2), .second, .val (.int x3), .val (.int x4), .val (.int x5), .val (.ref pa), .val (.int (Int32.ofNat wn)), .val (.long (Int64.ofNat vn)), .second, .val (.ref t), .val (.int pr), .val (.int po), .val (.int qq), .val (.int xx), .val (.int m1), .val (.int m2), .val (.int k0), .val (.int ms), .val (.int (4 : Int32)), .val (.int mm), .val (.int es), .val (.int ((Int32.ofNat (k + 1)) + (1 : Int32))), .val (.int (Int32.ofNat sn)), .unset, .unset, .unset, .unset, .unset, .unset] (1 : Int32) at_495 rfl rfl rfl rfl ?_
    rw [own_oadd (k + 1)]
    refine own_bipush 500 Y6 (46 : Int32) at_498 rfl rfl ?_
    refine own_putT 501 Y6 D gt npt (k := (k + 1)) rfl (by omega) (c' := (46 : Int32)) rfl at_500 rfl fun T7 h7 L7 Y7 D => ?_
    refine own_aload 503 Y7 at_501 rfl rfl rfl ?_
    refine own_iload 505 Y7 at_503 rfl rfl ?_
    refine own_iinc 508 Y7 #[.val (.int x0), .val (.int x1), .val (.long x2), .second, .val (.int x3), .val (.int x4), .val (.int x5), .val (.ref pa), .val (.int (Int32.ofNat wn)), .val (.long (Int64.ofNat vn)), .second, .val (.ref t), .val (.int pr), .val (.int po), .val (.int qq), .val (.int xx), .val (.int m1), .val (.int m2), .val (.int k0), .val (.int ms), .val (.int (4 : Int32)), .val (.int mm), .val (.int es), .val (.int ((Int32.ofNat ((k + 1) + 1)) + (1 : Int32))), .val (.int (Int32.ofNat sn)), .unset, .unset, .unset, .unset, .unset, .unset] (1 : Int32) at_505 rfl rfl rfl rfl ?_
    rw [own_oadd ((k + 1) + 1)]
    refine own_iload 510 Y7 at_508 rfl rfl ?_
    refine own_putT 511 Y7 D gt npt (k := ((k + 1) + 1)) rfl (by omega) (c' := m2) hm2 at_510 rfl fun T8 h8 L8 Y8 D => ?_
    refine own_iload 513 Y8 at_511 rfl rfl ?_
    refine own_iconst 514 Y8 (5 : Int32) at_513 rfl rfl ?_
    refine own_icT 527 Y8 at_514 (XT.ii_ne_t (by decide)) (by decide) ?_
    refine own_iload 529 Y8 at_527 rfl rfl ?_
    refine own_bipush 531 Y8 (6 : Int32) at_529 rfl rfl ?_
    refine own_icT 574 Y8 at_531 (XT.ii_ne_t (by decide)) (by decide) ?_
    refine own_iload 576 Y8 at_574 rfl rfl ?_
    refine own_bipush 578 Y8 (7 : Int32) at_576 rfl rfl ?_
    refine own_icT 611 Y8 at_578 (XT.ii_ne_t (by decide)) (by decide) ?_
    exact KK _ _ _ Y8 D
  · rw [show (mkL (5 : Int32) m1 m2 xx) = [46] from by simp [mkL]] at KK
    refine own_iload 409 Y at_407 rfl rfl ?_
    refine own_iconst 410 Y (1 : Int32) at_409 rfl rfl ?_
    refine own_icT 423 Y at_410 (XT.ii_ne_t (by decide)) (by decide) ?_
    refine own_iload 425 Y at_423 rfl rfl ?_
    refine own_iconst 426 Y (2 : Int32) at_425 rfl rfl ?_
    refine own_icT 449 Y at_426 (XT.ii_ne_t (by decide)) (by decide) ?_
    refine own_iload 451 Y at_449 rfl rfl ?_
    refine own_iconst 452 Y (3 : Int32) at_451 rfl rfl ?_
    refine own_icT 475 Y at_452 (XT.ii_ne_t (by decide)) (by decide) ?_
    refine own_iload 477 Y at_475 rfl rfl ?_
    refine own_iconst 478 Y (4 : Int32) at_477 rfl rfl ?_
    refine own_icT 511 Y at_478 (XT.ii_ne_t (by decide)) (by decide) ?_
    refine own_iload 513 Y at_511 rfl rfl ?_
    refine own_iconst 514 Y (5 : Int32) at_513 rfl rfl ?_
    refine own_icF 517 Y at_514 (XT.ii_ne_f (by decide)) rfl ?_
    refine own_aload 519 Y at_517 rfl rfl rfl ?_
    refine own_iload 521 Y at_519 rfl rfl ?_
    refine own_iinc 524 Y #[.val (.int x0), .val (.int x1), .val (.long x2), .second, .val (.int x3), .val (.int x4), .val (.int x5), .val (.ref pa), .val (.int (Int32.ofNat wn)), .val (.long (Int64.ofNat vn)), .second, .val (.ref t), .val (.int pr), .val (.int po), .val (.int qq), .val (.int xx), .val (.int m1), .val (.int m2), .val (.int k0), .val (.int ms), .val (.int (5 : Int32)), .val (.int mm), .val (.int es), .val (.int ((Int32.ofNat k) + (1 : Int32))), .val (.int (Int32.ofNat sn)), .unset, .unset, .unset, .unset, .unset, .unset] (1 : Int32) at_521 rfl rfl rfl rfl ?_
    rw [own_oadd k]
    refine own_bipush 526 Y (46 : Int32) at_524 rfl rfl ?_
    refine own_putT 527 Y D gt npt (k := k) rfl (by omega) (c' := (46 : Int32)) rfl at_526 rfl fun T9 h9 L9 Y9 D => ?_
    refine own_iload 529 Y9 at_527 rfl rfl ?_
    refine own_bipush 531 Y9 (6 : Int32) at_529 rfl rfl ?_
    refine own_icT 574 Y9 at_531 (XT.ii_ne_t (by decide)) (by decide) ?_
    refine own_iload 576 Y9 at_574 rfl rfl ?_
    refine own_bipush 578 Y9 (7 : Int32) at_576 rfl rfl ?_
    refine own_icT 611 Y9 at_578 (XT.ii_ne_t (by decide)) (by decide) ?_
    exact KK _ _ _ Y9 D
  · rw [show (mkL (6 : Int32) m1 m2 xx) = [m1, 46, m2, 46] from by simp [mkL]] at KK
    refine own_iload 409 Y at_407 rfl rfl ?_
    refine own_iconst 410 Y (1 : Int32) at_409 rfl rfl ?_
    refine own_icT 423 Y at_410 (XT.ii_ne_t (by decide)) (by decide) ?_
    refine own_iload 425 Y at_423 rfl rfl ?_
    refine own_iconst 426 Y (2 : Int32) at_425 rfl rfl ?_
    refine own_icT 449 Y at_426 (XT.ii_ne_t (by decide)) (by decide) ?_
    refine own_iload 451 Y at_449 rfl rfl ?_
    refine own_iconst 452 Y (3 : Int32) at_451 rfl rfl ?_
    refine own_icT 475 Y at_452 (XT.ii_ne_t (by decide)) (by decide) ?_
    refine own_iload 477 Y at_475 rfl rfl ?_
    refine own_iconst 478 Y (4 : Int32) at_477 rfl rfl ?_
    refine own_icT 511 Y at_478 (XT.ii_ne_t (by decide)) (by decide) ?_
    refine own_iload 513 Y at_511 rfl rfl ?_
    refine own_iconst 514 Y (5 : Int32) at_513 rfl rfl ?_
    refine own_icT 527 Y at_514 (XT.ii_ne_t (by decide)) (by decide) ?_
    refine own_iload 529 Y at_527 rfl rfl ?_
    refine own_bipush 531 Y (6 : Int32) at_529 rfl rfl ?_
    refine own_icF 534 Y at_531 (XT.ii_ne_f (by decide)) rfl ?_
    refine own_aload 536 Y at_534 rfl rfl rfl ?_
    refine own_iload 538 Y at_536 rfl rfl ?_
    refine own_iinc 541 Y #[.val (.int x0), .val (.int x1), .val (.long x2), .second, .val (.int x3), .val (.int x4), .val (.int x5), .val (.ref pa), .val (.int (Int32.ofNat wn)), .val (.long (Int64.ofNat vn)), .second, .val (.ref t), .val (.int pr), .val (.int po), .val (.int qq), .val (.int xx), .val (.int m1), .val (.int m2), .val (.int k0), .val (.int ms), .val (.int (6 : Int32)), .val (.int mm), .val (.int es), .val (.int ((Int32.ofNat k) + (1 : Int32))), .val (.int (Int32.ofNat sn)), .unset, .unset, .unset, .unset, .unset, .unset] (1 : Int32) at_538 rfl rfl rfl rfl ?_
    rw [own_oadd k]
    refine own_iload 543 Y at_541 rfl rfl ?_
    refine own_putT 544 Y D gt npt (k := k) rfl (by omega) (c' := m1) hm1 at_543 rfl fun T10 h10 L10 Y10 D => ?_
    refine own_aload 546 Y10 at_544 rfl rfl rfl ?_
    refine own_iload 548 Y10 at_546 rfl rfl ?_
    refine own_iinc 551 Y10 #[.val (.int x0), .val (.int x1), .val (.long x2), .second, .val (.int x3), .val (.int x4), .val (.int x5), .val (.ref pa), .val (.int (Int32.ofNat wn)), .val (.long (Int64.ofNat vn)), .second, .val (.ref t), .val (.int pr), .val (.int po), .val (.int qq), .val (.int xx), .val (.int m1), .val (.int m2), .val (.int k0), .val (.int ms), .val (.int (6 : Int32)), .val (.int mm), .val (.int es), .val (.int ((Int32.ofNat (k + 1)) + (1 : Int32))), .val (.int (Int32.ofNat sn)), .unset, .unset, .unset, .unset, .unset, .unset] (1 : Int32) at_548 rfl rfl rfl rfl ?_
    rw [own_oadd (k + 1)]
    refine own_bipush 553 Y10 (46 : Int32) at_551 rfl rfl ?_
    refine own_putT 554 Y10 D gt npt (k := (k + 1)) rfl (by omega) (c' := (46 : Int32)) rfl at_553 rfl fun T11 h11 L11 Y11 D => ?_
    refine own_aload 556 Y11 at_554 rfl rfl rfl ?_
    refine own_iload 558 Y11 at_556 rfl rfl ?_
    refine own_iinc 561 Y11 #[.val (.int x0), .val (.int x1), .val (.long x2), .second, .val (.int x3), .val (.int x4), .val (.int x5), .val (.ref pa), .val (.int (Int32.ofNat wn)), .val (.long (Int64.ofNat vn)), .second, .val (.ref t), .val (.int pr), .val (.int po), .val (.int qq), .val (.int xx), .val (.int m1), .val (.int m2), .val (.int k0), .val (.int ms), .val (.int (6 : Int32)), .val (.int mm), .val (.int es), .val (.int ((Int32.ofNat ((k + 1) + 1)) + (1 : Int32))), .val (.int (Int32.ofNat sn)), .unset, .unset, .unset, .unset, .unset, .unset] (1 : Int32) at_558 rfl rfl rfl rfl ?_
    rw [own_oadd ((k + 1) + 1)]
    refine own_iload 563 Y11 at_561 rfl rfl ?_
    refine own_putT 564 Y11 D gt npt (k := ((k + 1) + 1)) rfl (by omega) (c' := m2) hm2 at_563 rfl fun T12 h12 L12 Y12 D => ?_
    refine own_aload 566 Y12 at_564 rfl rfl rfl ?_
    refine own_iload 568 Y12 at_566 rfl rfl ?_
    refine own_iinc 571 Y12 #[.val (.int x0), .val (.int x1), .val (.long x2), .second, .val (.int x3), .val (.int x4), .val (.int x5), .val (.ref pa), .val (.int (Int32.ofNat wn)), .val (.long (Int64.ofNat vn)), .second, .val (.ref t), .val (.int pr), .val (.int po), .val (.int qq), .val (.int xx), .val (.int m1), .val (.int m2), .val (.int k0), .val (.int ms), .val (.int (6 : Int32)), .val (.int mm), .val (.int es), .val (.int ((Int32.ofNat (((k + 1) + 1) + 1)) + (1 : Int32))), .val (.int (Int32.ofNat sn)), .unset, .unset, .unset, .unset, .unset, .unset] (1 : Int32) at_568 rfl rfl rfl rfl ?_
    rw [own_oadd (((k + 1) + 1) + 1)]
    refine own_bipush 573 Y12 (46 : Int32) at_571 rfl rfl ?_
    refine own_putT 574 Y12 D gt npt (k := (((k + 1) + 1) + 1)) rfl (by omega) (c' := (46 : Int32)) rfl at_573 rfl fun T13 h13 L13 Y13 D => ?_
    refine own_iload 576 Y13 at_574 rfl rfl ?_
    refine own_bipush 578 Y13 (7 : Int32) at_576 rfl rfl ?_
    refine own_icT 611 Y13 at_578 (XT.ii_ne_t (by decide)) (by decide) ?_
    exact KK _ _ _ Y13 D
  · rw [show (mkL (7 : Int32) m1 m2 xx) = [m1, xx, m2] from by simp [mkL]] at KK
    refine own_iload 409 Y at_407 rfl rfl ?_
    refine own_iconst 410 Y (1 : Int32) at_409 rfl rfl ?_
    refine own_icT 423 Y at_410 (XT.ii_ne_t (by decide)) (by decide) ?_
    refine own_iload 425 Y at_423 rfl rfl ?_
    refine own_iconst 426 Y (2 : Int32) at_425 rfl rfl ?_
    refine own_icT 449 Y at_426 (XT.ii_ne_t (by decide)) (by decide) ?_
    refine own_iload 451 Y at_449 rfl rfl ?_
    refine own_iconst 452 Y (3 : Int32) at_451 rfl rfl ?_
    refine own_icT 475 Y at_452 (XT.ii_ne_t (by decide)) (by decide) ?_
    refine own_iload 477 Y at_475 rfl rfl ?_
    refine own_iconst 478 Y (4 : Int32) at_477 rfl rfl ?_
    refine own_icT 511 Y at_478 (XT.ii_ne_t (by decide)) (by decide) ?_
    refine own_iload 513 Y at_511 rfl rfl ?_
    refine own_iconst 514 Y (5 : Int32) at_513 rfl rfl ?_
    refine own_icT 527 Y at_514 (XT.ii_ne_t (by decide)) (by decide) ?_
    refine own_iload 529 Y at_527 rfl rfl ?_
    refine own_bipush 531 Y (6 : Int32) at_529 rfl rfl ?_
    refine own_icT 574 Y at_531 (XT.ii_ne_t (by decide)) (by decide) ?_
    refine own_iload 576 Y at_574 rfl rfl ?_
    refine own_bipush 578 Y (7 : Int32) at_576 rfl rfl ?_
    refine own_icF 581 Y at_578 (XT.ii_ne_f (by decide)) rfl ?_
    refine own_aload 583 Y at_581 rfl rfl rfl ?_
    refine own_iload 585 Y at_583 rfl rfl ?_
    refine own_iinc 588 Y #[.val (.int x0), .val (.int x1), .val (.long x2), .second, .val (.int x3), .val (.int x4), .val (.int x5), .val (.ref pa), .val (.int (Int32.ofNat wn)), .val (.long (Int64.ofNat vn)), .second, .val (.ref t), .val (.int pr), .val (.int po), .val (.int qq), .val (.int xx), .val (.int m1), .val (.int m2), .val (.int k0), .val (.int ms), .val (.int (7 : Int32)), .val (.int mm), .val (.int es), .val (.int ((Int32.ofNat k) + (1 : Int32))), .val (.int (Int32.ofNat sn)), .unset, .unset, .unset, .unset, .unset, .unset] (1 : Int32) at_585 rfl rfl rfl rfl ?_
    rw [own_oadd k]
    refine own_iload 590 Y at_588 rfl rfl ?_
    refine own_putT 591 Y D gt npt (k := k) rfl (by omega) (c' := m1) hm1 at_590 rfl fun T14 h14 L14 Y14 D => ?_
    refine own_aload 593 Y14 at_591 rfl rfl rfl ?_
    refine own_iload 595 Y14 at_593 rfl rfl ?_
    refine own_iinc 598 Y14 #[.val (.int x0), .val (.int x1), .val (.long x2), .second, .val (.int x3), .val (.int x4), .val (.int x5), .val (.ref pa), .val (.int (Int32.ofNat wn)), .val (.long (Int64.ofNat vn)), .second, .val (.ref t), .val (.int pr), .val (.int po), .val (.int qq), .val (.int xx), .val (.int m1), .val (.int m2), .val (.int k0), .val (.int ms), .val (.int (7 : Int32)), .val (.int mm), .val (.int es), .val (.int ((Int32.ofNat (k + 1)) + (1 : Int32))), .val (.int (Int32.ofNat sn)), .unset, .unset, .unset, .unset, .unset, .unset] (1 : Int32) at_595 rfl rfl rfl rfl ?_
    rw [own_oadd (k + 1)]
    refine own_iload 600 Y14 at_598 rfl rfl ?_
    refine own_putT 601 Y14 D gt npt (k := (k + 1)) rfl (by omega) (c' := xx) hxx at_600 rfl fun T15 h15 L15 Y15 D => ?_
    refine own_aload 603 Y15 at_601 rfl rfl rfl ?_
    refine own_iload 605 Y15 at_603 rfl rfl ?_
    refine own_iinc 608 Y15 #[.val (.int x0), .val (.int x1), .val (.long x2), .second, .val (.int x3), .val (.int x4), .val (.int x5), .val (.ref pa), .val (.int (Int32.ofNat wn)), .val (.long (Int64.ofNat vn)), .second, .val (.ref t), .val (.int pr), .val (.int po), .val (.int qq), .val (.int xx), .val (.int m1), .val (.int m2), .val (.int k0), .val (.int ms), .val (.int (7 : Int32)), .val (.int mm), .val (.int es), .val (.int ((Int32.ofNat ((k + 1) + 1)) + (1 : Int32))), .val (.int (Int32.ofNat sn)), .unset, .unset, .unset, .unset, .unset, .unset] (1 : Int32) at_605 rfl rfl rfl rfl ?_
    rw [own_oadd ((k + 1) + 1)]
    refine own_iload 610 Y15 at_608 rfl rfl ?_
    refine own_putT 611 Y15 D gt npt (k := ((k + 1) + 1)) rfl (by omega) (c' := m2) hm2 at_610 rfl fun T16 h16 L16 Y16 D => ?_
    exact KK _ _ _ Y16 D
set_option maxRecDepth 65536 in
set_option maxHeartbeats 4000000 in
theorem seg_mm {p : Program} {l : Launch} {e : Env} {R : Room} {s : State} {m : MethodId} {args : Array Value} {below : List Frame} {meth : Method} {c : Code} {T : State} {Z : State} {h : Heap} {a0 : Array Value} {x0 x1 x3 x4 x5 pr po qq xx m1 m2 k0 ms mk mm es : Int32} {x2 : Int64} {wn vn sn : Nat} {pa t : Addr} {kp kt : ClassId} {ch : Nat → Int32} {n0 : Nat} {locs : List Loc} {cells slots : Nat} {E : Outcome → State → Prop} (hw : ∀ d ∈ tables_1, d.before a0 Z = true) (gt : n0 ≤ t) (npt : pa ≠ t) (k : Nat) (hkb : k ≤ 9) (hv : mm = 0 ∨ mm = 1 ∨ mm = 2 ∨ mm = 3) (hqq : nar .char qq = qq) (Y : own_S Z x code maxLocals ret p l e R s m args below meth c T h locs cells slots) (D : WD Z h n0 locs t kt ch pa kp) (KK : ∀ (T : State) (h : Heap) (locs : List Loc), own_S Z x code maxLocals ret p l e R s m args below meth c T h locs cells slots → WD Z h n0 locs t kt (app ch k (mmL mm qq)) pa kp → own_G p e below E (T.setTop (mkF m 658 #[.val (.int x0), .val (.int x1), .val (.long x2), .second, .val (.int x3), .val (.int x4), .val (.int x5), .val (.ref pa), .val (.int (Int32.ofNat wn)), .val (.long (Int64.ofNat vn)), .second, .val (.ref t), .val (.int pr), .val (.int po), .val (.int qq), .val (.int xx), .val (.int m1), .val (.int m2), .val (.int k0), .val (.int ms), .val (.int mk), .val (.int mm), .val (.int es), .val (.int (Int32.ofNat (k + (mmL mm qq).length))), .val (.int (Int32.ofNat sn)), .unset, .unset, .unset, .unset, .unset, .unset] []))) : own_G p e below E (T.setTop (mkF m 611 #[.val (.int x0), .val (.int x1), .val (.long x2), .second, .val (.int x3), .val (.int x4), .val (.int x5), .val (.ref pa), .val (.int (Int32.ofNat wn)), .val (.long (Int64.ofNat vn)), .second, .val (.ref t), .val (.int pr), .val (.int po), .val (.int qq), .val (.int xx), .val (.int m1), .val (.int m2), .val (.int k0), .val (.int ms), .val (.int mk), .val (.int mm), .val (.int es), .val (.int (Int32.ofNat k)), .val (.int (Int32.ofNat sn)), .unset, .unset, .unset, .unset, .unset, .unset] [])) := by
  rcases hv with rfl | rfl | rfl | rfl
  · rw [show (mmL (0 : Int32) qq) = [101] from by simp [mmL]] at KK
    refine own_iload 613 Y at_611 rfl rfl ?_
    refine own_ifF 616 Y at_613 (XT.i0_ne_f (by decide)) rfl ?_
    refine own_aload 618 Y at_616 rfl rfl rfl ?_
    refine own_iload 620 Y at_618 rfl rfl ?_
    refine own_iinc 623 Y #[.val (.int x0), .val (.int x1), .val (.long x2), .second, .val (.int x3), .val (.int x4), .val (.int x5), .val (.ref pa), .val (.int (Int32.ofNat wn)), .val (.long (Int64.ofNat vn)), .second, .val (.ref t), .val (.int pr), .val (.int po), .val (.int qq), .val (.int xx), .val (.int m1), .val (.int m2), .val (.int k0), .val (.int ms), .val (.int mk), .val (.int (0 : Int32)), .val (.int es), .val (.int ((Int32.ofNat k) + (1 : Int32))), .val (.int (Int32.ofNat sn)), .unset, .unset, .unset, .unset, .unset, .unset] (1 : Int32) at_620 rfl rfl rfl rfl ?_
    rw [own_oadd k]
    refine own_bipush 625 Y (101 : Int32) at_623 rfl rfl ?_
    refine own_putT 626 Y D gt npt (k := k) rfl (by omega) (c' := (101 : Int32)) rfl at_625 rfl fun T1 h1 L1 Y1 D => ?_
    refine own_iload 628 Y1 at_626 rfl rfl ?_
    refine own_iconst 629 Y1 (1 : Int32) at_628 rfl rfl ?_
    refine own_icT 642 Y1 at_629 (XT.ii_ne_t (by decide)) (by decide) ?_
    refine own_iload 644 Y1 at_642 rfl rfl ?_
    refine own_iconst 645 Y1 (2 : Int32) at_644 rfl rfl ?_
    refine own_icT 658 Y1 at_645 (XT.ii_ne_t (by decide)) (by decide) ?_
    exact KK _ _ _ Y1 D
  · rw [show (mmL (1 : Int32) qq) = [69] from by simp [mmL]] at KK
    refine own_iload 613 Y at_611 rfl rfl ?_
    refine own_ifT 626 Y at_613 (XT.i0_ne_t (by decide)) (by decide) ?_
    refine own_iload 628 Y at_626 rfl rfl ?_
    refine own_iconst 629 Y (1 : Int32) at_628 rfl rfl ?_
    refine own_icF 632 Y at_629 (XT.ii_ne_f (by decide)) rfl ?_
    refine own_aload 634 Y at_632 rfl rfl rfl ?_
    refine own_iload 636 Y at_634 rfl rfl ?_
    refine own_iinc 639 Y #[.val (.int x0), .val (.int x1), .val (.long x2), .second, .val (.int x3), .val (.int x4), .val (.int x5), .val (.ref pa), .val (.int (Int32.ofNat wn)), .val (.long (Int64.ofNat vn)), .second, .val (.ref t), .val (.int pr), .val (.int po), .val (.int qq), .val (.int xx), .val (.int m1), .val (.int m2), .val (.int k0), .val (.int ms), .val (.int mk), .val (.int (1 : Int32)), .val (.int es), .val (.int ((Int32.ofNat k) + (1 : Int32))), .val (.int (Int32.ofNat sn)), .unset, .unset, .unset, .unset, .unset, .unset] (1 : Int32) at_636 rfl rfl rfl rfl ?_
    rw [own_oadd k]
    refine own_bipush 641 Y (69 : Int32) at_639 rfl rfl ?_
    refine own_putT 642 Y D gt npt (k := k) rfl (by omega) (c' := (69 : Int32)) rfl at_641 rfl fun T2 h2 L2 Y2 D => ?_
    refine own_iload 644 Y2 at_642 rfl rfl ?_
    refine own_iconst 645 Y2 (2 : Int32) at_644 rfl rfl ?_
    refine own_icT 658 Y2 at_645 (XT.ii_ne_t (by decide)) (by decide) ?_
    exact KK _ _ _ Y2 D
  · rw [show (mmL (2 : Int32) qq) = [qq] from by simp [mmL]] at KK
    refine own_iload 613 Y at_611 rfl rfl ?_
    refine own_ifT 626 Y at_613 (XT.i0_ne_t (by decide)) (by decide) ?_
    refine own_iload 628 Y at_626 rfl rfl ?_
    refine own_iconst 629 Y (1 : Int32) at_628 rfl rfl ?_
    refine own_icT 642 Y at_629 (XT.ii_ne_t (by decide)) (by decide) ?_
    refine own_iload 644 Y at_642 rfl rfl ?_
    refine own_iconst 645 Y (2 : Int32) at_644 rfl rfl ?_
    refine own_icF 648 Y at_645 (XT.ii_ne_f (by decide)) rfl ?_
    refine own_aload 650 Y at_648 rfl rfl rfl ?_
    refine own_iload 652 Y at_650 rfl rfl ?_
    refine own_iinc 655 Y #[.val (.int x0), .val (.int x1), .val (.long x2), .second, .val (.int x3), .val (.int x4), .val (.int x5), .val (.ref pa), .val (.int (Int32.ofNat wn)), .val (.long (Int64.ofNat vn)), .second, .val (.ref t), .val (.int pr), .val (.int po), .val (.int qq), .val (.int xx), .val (.int m1), .val (.int m2), .val (.int k0), .val (.int ms), .val (.int mk), .val (.int (2 : Int32)), .val (.int es), .val (.int ((Int32.ofNat k) + (1 : Int32))), .val (.int (Int32.ofNat sn)), .unset, .unset, .unset, .unset, .unset, .unset] (1 : Int32) at_652 rfl rfl rfl rfl ?_
    rw [own_oadd k]
    refine own_iload 657 Y at_655 rfl rfl ?_
    refine own_putT 658 Y D gt npt (k := k) rfl (by omega) (c' := qq) hqq at_657 rfl fun T3 h3 L3 Y3 D => ?_
    exact KK _ _ _ Y3 D
  · rw [show (mmL (3 : Int32) qq) = [] from by simp [mmL]] at KK
    refine own_iload 613 Y at_611 rfl rfl ?_
    refine own_ifT 626 Y at_613 (XT.i0_ne_t (by decide)) (by decide) ?_
    refine own_iload 628 Y at_626 rfl rfl ?_
    refine own_iconst 629 Y (1 : Int32) at_628 rfl rfl ?_
    refine own_icT 642 Y at_629 (XT.ii_ne_t (by decide)) (by decide) ?_
    refine own_iload 644 Y at_642 rfl rfl ?_
    refine own_iconst 645 Y (2 : Int32) at_644 rfl rfl ?_
    refine own_icT 658 Y at_645 (XT.ii_ne_t (by decide)) (by decide) ?_
    exact KK _ _ _ Y D
set_option maxRecDepth 65536 in
set_option maxHeartbeats 4000000 in
theorem seg_es {p : Program} {l : Launch} {e : Env} {R : Room} {s : State} {m : MethodId} {args : Array Value} {below : List Frame} {meth : Method} {c : Code} {T : State} {Z : State} {h : Heap} {a0 : Array Value} {x0 x1 x3 x4 x5 pr po qq xx m1 m2 k0 ms mk mm es : Int32} {x2 : Int64} {wn vn sn : Nat} {pa t : Addr} {kp kt : ClassId} {ch : Nat → Int32} {n0 : Nat} {locs : List Loc} {cells slots : Nat} {E : Outcome → State → Prop} (hw : ∀ d ∈ tables_1, d.before a0 Z = true) (gt : n0 ≤ t) (npt : pa ≠ t) (k : Nat) (hkb : k ≤ 10) (hv : es = 0 ∨ es = 1 ∨ es = 2 ∨ es = 3)  (Y : own_S Z x code maxLocals ret p l e R s m args below meth c T h locs cells slots) (D : WD Z h n0 locs t kt ch pa kp) (KK : ∀ (T : State) (h : Heap) (locs : List Loc), own_S Z x code maxLocals ret p l e R s m args below meth c T h locs cells slots → WD Z h n0 locs t kt (app ch k (esL es)) pa kp → own_G p e below E (T.setTop (mkF m 716 #[.val (.int x0), .val (.int x1), .val (.long x2), .second, .val (.int x3), .val (.int x4), .val (.int x5), .val (.ref pa), .val (.int (Int32.ofNat wn)), .val (.long (Int64.ofNat vn)), .second, .val (.ref t), .val (.int pr), .val (.int po), .val (.int qq), .val (.int xx), .val (.int m1), .val (.int m2), .val (.int k0), .val (.int ms), .val (.int mk), .val (.int mm), .val (.int es), .val (.int (Int32.ofNat (k + (esL es).length))), .val (.int (Int32.ofNat sn)), .unset, .unset, .unset, .unset, .unset, .unset] []))) : own_G p e below E (T.setTop (mkF m 658 #[.val (.int x0), .val (.int x1), .val (.long x2), .second, .val (.int x3), .val (.int x4), .val (.int x5), .val (.ref pa), .val (.int (Int32.ofNat wn)), .val (.long (Int64.ofNat vn)), .second, .val (.ref t), .val (.int pr), .val (.int po), .val (.int qq), .val (.int xx), .val (.int m1), .val (.int m2), .val (.int k0), .val (.int ms), .val (.int mk), .val (.int mm), .val (.int es), .val (.int (Int32.ofNat k)), .val (.int (Int32.ofNat sn)), .unset, .unset, .unset, .unset, .unset, .unset] [])) := by
  rcases hv with rfl | rfl | rfl | rfl
  · rw [show (esL (0 : Int32)) = [] from by simp [esL]] at KK
    refine own_iload 660 Y at_658 rfl rfl ?_
    refine own_iconst 661 Y (1 : Int32) at_660 rfl rfl ?_
    refine own_icT 674 Y at_661 (XT.ii_ne_t (by decide)) (by decide) ?_
    refine own_iload 676 Y at_674 rfl rfl ?_
    refine own_iconst 677 Y (2 : Int32) at_676 rfl rfl ?_
    refine own_icT 690 Y at_677 (XT.ii_ne_t (by decide)) (by decide) ?_
    refine own_iload 692 Y at_690 rfl rfl ?_
    refine own_iconst 693 Y (3 : Int32) at_692 rfl rfl ?_
    refine own_icT 716 Y at_693 (XT.ii_ne_t (by decide)) (by decide) ?_
    exact KK _ _ _ Y D
  · rw [show (esL (1 : Int32)) = [45] from by simp [esL]] at KK
    refine own_iload 660 Y at_658 rfl rfl ?_
    refine own_iconst 661 Y (1 : Int32) at_660 rfl rfl ?_
    refine own_icF 664 Y at_661 (XT.ii_ne_f (by decide)) rfl ?_
    refine own_aload 666 Y at_664 rfl rfl rfl ?_
    refine own_iload 668 Y at_666 rfl rfl ?_
    refine own_iinc 671 Y #[.val (.int x0), .val (.int x1), .val (.long x2), .second, .val (.int x3), .val (.int x4), .val (.int x5), .val (.ref pa), .val (.int (Int32.ofNat wn)), .val (.long (Int64.ofNat vn)), .second, .val (.ref t), .val (.int pr), .val (.int po), .val (.int qq), .val (.int xx), .val (.int m1), .val (.int m2), .val (.int k0), .val (.int ms), .val (.int mk), .val (.int mm), .val (.int (1 : Int32)), .val (.int ((Int32.ofNat k) + (1 : Int32))), .val (.int (Int32.ofNat sn)), .unset, .unset, .unset, .unset, .unset, .unset] (1 : Int32) at_668 rfl rfl rfl rfl ?_
    rw [own_oadd k]
    refine own_bipush 673 Y (45 : Int32) at_671 rfl rfl ?_
    refine own_putT 674 Y D gt npt (k := k) rfl (by omega) (c' := (45 : Int32)) rfl at_673 rfl fun T1 h1 L1 Y1 D => ?_
    refine own_iload 676 Y1 at_674 rfl rfl ?_
    refine own_iconst 677 Y1 (2 : Int32) at_676 rfl rfl ?_
    refine own_icT 690 Y1 at_677 (XT.ii_ne_t (by decide)) (by decide) ?_
    refine own_iload 692 Y1 at_690 rfl rfl ?_
    refine own_iconst 693 Y1 (3 : Int32) at_692 rfl rfl ?_
    refine own_icT 716 Y1 at_693 (XT.ii_ne_t (by decide)) (by decide) ?_
    exact KK _ _ _ Y1 D
  · rw [show (esL (2 : Int32)) = [43] from by simp [esL]] at KK
    refine own_iload 660 Y at_658 rfl rfl ?_
    refine own_iconst 661 Y (1 : Int32) at_660 rfl rfl ?_
    refine own_icT 674 Y at_661 (XT.ii_ne_t (by decide)) (by decide) ?_
    refine own_iload 676 Y at_674 rfl rfl ?_
    refine own_iconst 677 Y (2 : Int32) at_676 rfl rfl ?_
    refine own_icF 680 Y at_677 (XT.ii_ne_f (by decide)) rfl ?_
    refine own_aload 682 Y at_680 rfl rfl rfl ?_
    refine own_iload 684 Y at_682 rfl rfl ?_
    refine own_iinc 687 Y #[.val (.int x0), .val (.int x1), .val (.long x2), .second, .val (.int x3), .val (.int x4), .val (.int x5), .val (.ref pa), .val (.int (Int32.ofNat wn)), .val (.long (Int64.ofNat vn)), .second, .val (.ref t), .val (.int pr), .val (.int po), .val (.int qq), .val (.int xx), .val (.int m1), .val (.int m2), .val (.int k0), .val (.int ms), .val (.int mk), .val (.int mm), .val (.int (2 : Int32)), .val (.int ((Int32.ofNat k) + (1 : Int32))), .val (.int (Int32.ofNat sn)), .unset, .unset, .unset, .unset, .unset, .unset] (1 : Int32) at_684 rfl rfl rfl rfl ?_
    rw [own_oadd k]
    refine own_bipush 689 Y (43 : Int32) at_687 rfl rfl ?_
    refine own_putT 690 Y D gt npt (k := k) rfl (by omega) (c' := (43 : Int32)) rfl at_689 rfl fun T2 h2 L2 Y2 D => ?_
    refine own_iload 692 Y2 at_690 rfl rfl ?_
    refine own_iconst 693 Y2 (3 : Int32) at_692 rfl rfl ?_
    refine own_icT 716 Y2 at_693 (XT.ii_ne_t (by decide)) (by decide) ?_
    exact KK _ _ _ Y2 D
  · rw [show (esL (3 : Int32)) = [43, 45] from by simp [esL]] at KK
    refine own_iload 660 Y at_658 rfl rfl ?_
    refine own_iconst 661 Y (1 : Int32) at_660 rfl rfl ?_
    refine own_icT 674 Y at_661 (XT.ii_ne_t (by decide)) (by decide) ?_
    refine own_iload 676 Y at_674 rfl rfl ?_
    refine own_iconst 677 Y (2 : Int32) at_676 rfl rfl ?_
    refine own_icT 690 Y at_677 (XT.ii_ne_t (by decide)) (by decide) ?_
    refine own_iload 692 Y at_690 rfl rfl ?_
    refine own_iconst 693 Y (3 : Int32) at_692 rfl rfl ?_
    refine own_icF 696 Y at_693 (XT.ii_ne_f (by decide)) rfl ?_
    refine own_aload 698 Y at_696 rfl rfl rfl ?_
    refine own_iload 700 Y at_698 rfl rfl ?_
    refine own_iinc 703 Y #[.val (.int x0), .val (.int x1), .val (.long x2), .second, .val (.int x3), .val (.int x4), .val (.int x5), .val (.ref pa), .val (.int (Int32.ofNat wn)), .val (.long (Int64.ofNat vn)), .second, .val (.ref t), .val (.int pr), .val (.int po), .val (.int qq), .val (.int xx), .val (.int m1), .val (.int m2), .val (.int k0), .val (.int ms), .val (.int mk), .val (.int mm), .val (.int (3 : Int32)), .val (.int ((Int32.ofNat k) + (1 : Int32))), .val (.int (Int32.ofNat sn)), .unset, .unset, .unset, .unset, .unset, .unset] (1 : Int32) at_700 rfl rfl rfl rfl ?_
    rw [own_oadd k]
    refine own_bipush 705 Y (43 : Int32) at_703 rfl rfl ?_
    refine own_putT 706 Y D gt npt (k := k) rfl (by omega) (c' := (43 : Int32)) rfl at_705 rfl fun T3 h3 L3 Y3 D => ?_
    refine own_aload 708 Y3 at_706 rfl rfl rfl ?_
    refine own_iload 710 Y3 at_708 rfl rfl ?_
    refine own_iinc 713 Y3 #[.val (.int x0), .val (.int x1), .val (.long x2), .second, .val (.int x3), .val (.int x4), .val (.int x5), .val (.ref pa), .val (.int (Int32.ofNat wn)), .val (.long (Int64.ofNat vn)), .second, .val (.ref t), .val (.int pr), .val (.int po), .val (.int qq), .val (.int xx), .val (.int m1), .val (.int m2), .val (.int k0), .val (.int ms), .val (.int mk), .val (.int mm), .val (.int (3 : Int32)), .val (.int ((Int32.ofNat (k + 1)) + (1 : Int32))), .val (.int (Int32.ofNat sn)), .unset, .unset, .unset, .unset, .unset, .unset] (1 : Int32) at_710 rfl rfl rfl rfl ?_
    rw [own_oadd (k + 1)]
    refine own_bipush 715 Y3 (45 : Int32) at_713 rfl rfl ?_
    refine own_putT 716 Y3 D gt npt (k := (k + 1)) rfl (by omega) (c' := (45 : Int32)) rfl at_715 rfl fun T4 h4 L4 Y4 D => ?_
    exact KK _ _ _ Y4 D
def Q0 (n0 : Nat) (v : Option Value) (h : Heap) (L : List Loc) : Prop := v = some (.int 1) ∧ Fr n0 L
set_option maxRecDepth 65536 in
set_option maxHeartbeats 4000000 in
theorem seg_tail {p : Program} {l : Launch} {e : Env} {R : Room} {s : State} {m : MethodId} {args : Array Value} {below : List Frame} {meth : Method} {c : Code} {T : State} {Z : State} {h : Heap} {a0 : Array Value} {x0 x1 x3 x4 x5 pr po qq xx m1 m2 k0 ms mk mm es : Int32} {x2 : Int64} {wn vn sn : Nat} {pa t : Addr} {n0 : Nat} {locs : List Loc} {cells slots : Nat} {kk en : Nat} {r : Int32} {kc ks : Nat} (hw : ∀ d ∈ tables_1, d.before a0 Z = true) (hv2 : vn < 2 ^ 63) (hres : (1000000000 < vn ∧ Form ms mk mm es qq → r = 0) ∧ (¬ (1000000000 < vn ∧ Form ms mk mm es qq) → r = 1)) (N : Fr n0 locs) (hkc : cells ≤ kc) (hks : slots ≤ ks) (Y : own_S Z x code maxLocals ret p l e R s m args below meth c T h locs cells slots) : own_G p e below (own_E s (Q0 n0) kc ks) (T.setTop (mkF m 954 #[.val (.int x0), .val (.int x1), .val (.long x2), .second, .val (.int x3), .val (.int x4), .val (.int x5), .val (.ref pa), .val (.int (Int32.ofNat wn)), .val (.long (Int64.ofNat vn)), .second, .val (.ref t), .val (.int pr), .val (.int po), .val (.int qq), .val (.int xx), .val (.int m1), .val (.int m2), .val (.int k0), .val (.int ms), .val (.int mk), .val (.int mm), .val (.int es), .val (.int (Int32.ofNat kk)), .val (.int (Int32.ofNat sn)), .val (.int (Int32.ofNat en)), .val (.int r), .unset, .unset, .unset, .unset] [])) := by
  refine own_iload 956 Y at_954 rfl rfl ?_
  refine own_iconst 957 Y (3 : Int32) at_956 rfl rfl ?_
  refine own_ic_eq 984 960 Y at_957 (by decide) rfl (fun q957 => ?_) (fun q957 => ?_)
  · refine own_iconst 985 Y (0 : Int32) at_984 rfl rfl ?_
    refine own_istore 987 Y #[.val (.int x0), .val (.int x1), .val (.long x2), .second, .val (.int x3), .val (.int x4), .val (.int x5), .val (.ref pa), .val (.int (Int32.ofNat wn)), .val (.long (Int64.ofNat vn)), .second, .val (.ref t), .val (.int pr), .val (.int po), .val (.int qq), .val (.int xx), .val (.int m1), .val (.int m2), .val (.int k0), .val (.int ms), .val (.int mk), .val (.int mm), .val (.int es), .val (.int (Int32.ofNat kk)), .val (.int (Int32.ofNat sn)), .val (.int (Int32.ofNat en)), .val (.int r), .val (.int (0 : Int32)), .unset, .unset, .unset] at_985 rfl rfl ?_
    refine own_iload 989 Y at_987 rfl rfl ?_
    refine own_iconst 990 Y (3 : Int32) at_989 rfl rfl ?_
    refine own_ic_eq 1009 993 Y at_990 (by decide) rfl (fun q990 => ?_) (fun q990 => ?_)
    · refine own_iconst 1010 Y (0 : Int32) at_1009 rfl rfl ?_
      refine own_istore 1012 Y #[.val (.int x0), .val (.int x1), .val (.long x2), .second, .val (.int x3), .val (.int x4), .val (.int x5), .val (.ref pa), .val (.int (Int32.ofNat wn)), .val (.long (Int64.ofNat vn)), .second, .val (.ref t), .val (.int pr), .val (.int po), .val (.int qq), .val (.int xx), .val (.int m1), .val (.int m2), .val (.int k0), .val (.int ms), .val (.int mk), .val (.int mm), .val (.int es), .val (.int (Int32.ofNat kk)), .val (.int (Int32.ofNat sn)), .val (.int (Int32.ofNat en)), .val (.int r), .val (.int (0 : Int32)), .val (.int (0 : Int32)), .unset, .unset] at_1010 rfl rfl ?_
      refine own_iload 1014 Y at_1012 rfl rfl ?_
      refine own_ifT 1032 Y at_1014 (XT.i0_eq_t (by decide)) (by decide) ?_
      refine own_iconst 1033 Y (0 : Int32) at_1032 rfl rfl ?_
      refine own_istore 1035 Y #[.val (.int x0), .val (.int x1), .val (.long x2), .second, .val (.int x3), .val (.int x4), .val (.int x5), .val (.ref pa), .val (.int (Int32.ofNat wn)), .val (.long (Int64.ofNat vn)), .second, .val (.ref t), .val (.int pr), .val (.int po), .val (.int qq), .val (.int xx), .val (.int m1), .val (.int m2), .val (.int k0), .val (.int ms), .val (.int mk), .val (.int mm), .val (.int es), .val (.int (Int32.ofNat kk)), .val (.int (Int32.ofNat sn)), .val (.int (Int32.ofNat en)), .val (.int r), .val (.int (0 : Int32)), .val (.int (0 : Int32)), .val (.int (0 : Int32)), .unset] at_1033 rfl rfl ?_
      refine own_lload 1037 Y at_1035 rfl rfl ?_
      refine own_ldc2J 1040 Y (own_wd hw 9 rfl) at_1037 rfl ?_
      refine own_lcmp 1041 Y at_1040 rfl ?_
      refine own_if_le 1049 1044 Y at_1041 (by decide) rfl (fun q1041 => ?_) (fun q1041 => ?_)
      · refine own_iconst 1050 Y (1 : Int32) at_1049 rfl rfl ?_
        refine own_goto 1054 Y at_1050 (by decide) ?_
        refine own_istore 1056 Y #[.val (.int x0), .val (.int x1), .val (.long x2), .second, .val (.int x3), .val (.int x4), .val (.int x5), .val (.ref pa), .val (.int (Int32.ofNat wn)), .val (.long (Int64.ofNat vn)), .second, .val (.ref t), .val (.int pr), .val (.int po), .val (.int qq), .val (.int xx), .val (.int m1), .val (.int m2), .val (.int k0), .val (.int ms), .val (.int mk), .val (.int mm), .val (.int es), .val (.int (Int32.ofNat kk)), .val (.int (Int32.ofNat sn)), .val (.int (Int32.ofNat en)), .val (.int r), .val (.int (0 : Int32)), .val (.int (0 : Int32)), .val (.int (0 : Int32)), .val (.int (1 : Int32))] at_1054 rfl rfl ?_
        refine own_iload 1058 Y at_1056 rfl rfl ?_
        refine own_iload 1060 Y at_1058 rfl rfl ?_
        refine own_icF 1063 Y at_1060 (XT.ii_ne_f (hres.2 (fun z => q1041 (own_lcgt.mpr ((own_qlt (by decide) hv2).mpr z.1))))) rfl ?_
        refine own_iconst 1064 Y (1 : Int32) at_1063 rfl rfl ?_
        refine own_goto 1068 Y at_1064 (by decide) ?_
        exact own_retN Y (t := .boolean) rfl (by simp) at_1068 hkc hks ⟨rfl, N⟩
      · refine own_iload 1046 Y at_1044 rfl rfl ?_
        refine own_ifF 1049 Y at_1046 (XT.i0_ne_f (by decide)) rfl ?_
        refine own_iconst 1050 Y (1 : Int32) at_1049 rfl rfl ?_
        refine own_goto 1054 Y at_1050 (by decide) ?_
        refine own_istore 1056 Y #[.val (.int x0), .val (.int x1), .val (.long x2), .second, .val (.int x3), .val (.int x4), .val (.int x5), .val (.ref pa), .val (.int (Int32.ofNat wn)), .val (.long (Int64.ofNat vn)), .second, .val (.ref t), .val (.int pr), .val (.int po), .val (.int qq), .val (.int xx), .val (.int m1), .val (.int m2), .val (.int k0), .val (.int ms), .val (.int mk), .val (.int mm), .val (.int es), .val (.int (Int32.ofNat kk)), .val (.int (Int32.ofNat sn)), .val (.int (Int32.ofNat en)), .val (.int r), .val (.int (0 : Int32)), .val (.int (0 : Int32)), .val (.int (0 : Int32)), .val (.int (1 : Int32))] at_1054 rfl rfl ?_
        refine own_iload 1058 Y at_1056 rfl rfl ?_
        refine own_iload 1060 Y at_1058 rfl rfl ?_
        refine own_icF 1063 Y at_1060 (XT.ii_ne_f (hres.2 (fun z => z.2.1.1 q957))) rfl ?_
        refine own_iconst 1064 Y (1 : Int32) at_1063 rfl rfl ?_
        refine own_goto 1068 Y at_1064 (by decide) ?_
        exact own_retN Y (t := .boolean) rfl (by simp) at_1068 hkc hks ⟨rfl, N⟩
    · refine own_iload 995 Y at_993 rfl rfl ?_
      refine own_iconst 996 Y (1 : Int32) at_995 rfl rfl ?_
      refine own_ic_lt 1009 999 Y at_996 (by decide) rfl (fun q996 => ?_) (fun q996 => ?_)
      · refine own_iconst 1010 Y (0 : Int32) at_1009 rfl rfl ?_
        refine own_istore 1012 Y #[.val (.int x0), .val (.int x1), .val (.long x2), .second, .val (.int x3), .val (.int x4), .val (.int x5), .val (.ref pa), .val (.int (Int32.ofNat wn)), .val (.long (Int64.ofNat vn)), .second, .val (.ref t), .val (.int pr), .val (.int po), .val (.int qq), .val (.int xx), .val (.int m1), .val (.int m2), .val (.int k0), .val (.int ms), .val (.int mk), .val (.int mm), .val (.int es), .val (.int (Int32.ofNat kk)), .val (.int (Int32.ofNat sn)), .val (.int (Int32.ofNat en)), .val (.int r), .val (.int (0 : Int32)), .val (.int (0 : Int32)), .unset, .unset] at_1010 rfl rfl ?_
        refine own_iload 1014 Y at_1012 rfl rfl ?_
        refine own_ifT 1032 Y at_1014 (XT.i0_eq_t (by decide)) (by decide) ?_
        refine own_iconst 1033 Y (0 : Int32) at_1032 rfl rfl ?_
        refine own_istore 1035 Y #[.val (.int x0), .val (.int x1), .val (.long x2), .second, .val (.int x3), .val (.int x4), .val (.int x5), .val (.ref pa), .val (.int (Int32.ofNat wn)), .val (.long (Int64.ofNat vn)), .second, .val (.ref t), .val (.int pr), .val (.int po), .val (.int qq), .val (.int xx), .val (.int m1), .val (.int m2), .val (.int k0), .val (.int ms), .val (.int mk), .val (.int mm), .val (.int es), .val (.int (Int32.ofNat kk)), .val (.int (Int32.ofNat sn)), .val (.int (Int32.ofNat en)), .val (.int r), .val (.int (0 : Int32)), .val (.int (0 : Int32)), .val (.int (0 : Int32)), .unset] at_1033 rfl rfl ?_
        refine own_lload 1037 Y at_1035 rfl rfl ?_
        refine own_ldc2J 1040 Y (own_wd hw 9 rfl) at_1037 rfl ?_
        refine own_lcmp 1041 Y at_1040 rfl ?_
        refine own_if_le 1049 1044 Y at_1041 (by decide) rfl (fun q1041 => ?_) (fun q1041 => ?_)
        · refine own_iconst 1050 Y (1 : Int32) at_1049 rfl rfl ?_
          refine own_goto 1054 Y at_1050 (by decide) ?_
          refine own_istore 1056 Y #[.val (.int x0), .val (.int x1), .val (.long x2), .second, .val (.int x3), .val (.int x4), .val (.int x5), .val (.ref pa), .val (.int (Int32.ofNat wn)), .val (.long (Int64.ofNat vn)), .second, .val (.ref t), .val (.int pr), .val (.int po), .val (.int qq), .val (.int xx), .val (.int m1), .val (.int m2), .val (.int k0), .val (.int ms), .val (.int mk), .val (.int mm), .val (.int es), .val (.int (Int32.ofNat kk)), .val (.int (Int32.ofNat sn)), .val (.int (Int32.ofNat en)), .val (.int r), .val (.int (0 : Int32)), .val (.int (0 : Int32)), .val (.int (0 : Int32)), .val (.int (1 : Int32))] at_1054 rfl rfl ?_
          refine own_iload 1058 Y at_1056 rfl rfl ?_
          refine own_iload 1060 Y at_1058 rfl rfl ?_
          refine own_icF 1063 Y at_1060 (XT.ii_ne_f (hres.2 (fun z => q1041 (own_lcgt.mpr ((own_qlt (by decide) hv2).mpr z.1))))) rfl ?_
          refine own_iconst 1064 Y (1 : Int32) at_1063 rfl rfl ?_
          refine own_goto 1068 Y at_1064 (by decide) ?_
          exact own_retN Y (t := .boolean) rfl (by simp) at_1068 hkc hks ⟨rfl, N⟩
        · refine own_iload 1046 Y at_1044 rfl rfl ?_
          refine own_ifF 1049 Y at_1046 (XT.i0_ne_f (by decide)) rfl ?_
          refine own_iconst 1050 Y (1 : Int32) at_1049 rfl rfl ?_
          refine own_goto 1054 Y at_1050 (by decide) ?_
          refine own_istore 1056 Y #[.val (.int x0), .val (.int x1), .val (.long x2), .second, .val (.int x3), .val (.int x4), .val (.int x5), .val (.ref pa), .val (.int (Int32.ofNat wn)), .val (.long (Int64.ofNat vn)), .second, .val (.ref t), .val (.int pr), .val (.int po), .val (.int qq), .val (.int xx), .val (.int m1), .val (.int m2), .val (.int k0), .val (.int ms), .val (.int mk), .val (.int mm), .val (.int es), .val (.int (Int32.ofNat kk)), .val (.int (Int32.ofNat sn)), .val (.int (Int32.ofNat en)), .val (.int r), .val (.int (0 : Int32)), .val (.int (0 : Int32)), .val (.int (0 : Int32)), .val (.int (1 : Int32))] at_1054 rfl rfl ?_
          refine own_iload 1058 Y at_1056 rfl rfl ?_
          refine own_iload 1060 Y at_1058 rfl rfl ?_
          refine own_icF 1063 Y at_1060 (XT.ii_ne_f (hres.2 (fun z => z.2.1.1 q957))) rfl ?_
          refine own_iconst 1064 Y (1 : Int32) at_1063 rfl rfl ?_
          refine own_goto 1068 Y at_1064 (by decide) ?_
          exact own_retN Y (t := .boolean) rfl (by simp) at_1068 hkc hks ⟨rfl, N⟩
      · refine own_iload 1001 Y at_999 rfl rfl ?_
        refine own_iconst 1002 Y (4 : Int32) at_1001 rfl rfl ?_
        refine own_ic_gt 1009 1005 Y at_1002 (by decide) rfl (fun q1002 => ?_) (fun q1002 => ?_)
        · refine own_iconst 1010 Y (0 : Int32) at_1009 rfl rfl ?_
          refine own_istore 1012 Y #[.val (.int x0), .val (.int x1), .val (.long x2), .second, .val (.int x3), .val (.int x4), .val (.int x5), .val (.ref pa), .val (.int (Int32.ofNat wn)), .val (.long (Int64.ofNat vn)), .second, .val (.ref t), .val (.int pr), .val (.int po), .val (.int qq), .val (.int xx), .val (.int m1), .val (.int m2), .val (.int k0), .val (.int ms), .val (.int mk), .val (.int mm), .val (.int es), .val (.int (Int32.ofNat kk)), .val (.int (Int32.ofNat sn)), .val (.int (Int32.ofNat en)), .val (.int r), .val (.int (0 : Int32)), .val (.int (0 : Int32)), .unset, .unset] at_1010 rfl rfl ?_
          refine own_iload 1014 Y at_1012 rfl rfl ?_
          refine own_ifT 1032 Y at_1014 (XT.i0_eq_t (by decide)) (by decide) ?_
          refine own_iconst 1033 Y (0 : Int32) at_1032 rfl rfl ?_
          refine own_istore 1035 Y #[.val (.int x0), .val (.int x1), .val (.long x2), .second, .val (.int x3), .val (.int x4), .val (.int x5), .val (.ref pa), .val (.int (Int32.ofNat wn)), .val (.long (Int64.ofNat vn)), .second, .val (.ref t), .val (.int pr), .val (.int po), .val (.int qq), .val (.int xx), .val (.int m1), .val (.int m2), .val (.int k0), .val (.int ms), .val (.int mk), .val (.int mm), .val (.int es), .val (.int (Int32.ofNat kk)), .val (.int (Int32.ofNat sn)), .val (.int (Int32.ofNat en)), .val (.int r), .val (.int (0 : Int32)), .val (.int (0 : Int32)), .val (.int (0 : Int32)), .unset] at_1033 rfl rfl ?_
          refine own_lload 1037 Y at_1035 rfl rfl ?_
          refine own_ldc2J 1040 Y (own_wd hw 9 rfl) at_1037 rfl ?_
          refine own_lcmp 1041 Y at_1040 rfl ?_
          refine own_if_le 1049 1044 Y at_1041 (by decide) rfl (fun q1041 => ?_) (fun q1041 => ?_)
          · refine own_iconst 1050 Y (1 : Int32) at_1049 rfl rfl ?_
            refine own_goto 1054 Y at_1050 (by decide) ?_
            refine own_istore 1056 Y #[.val (.int x0), .val (.int x1), .val (.long x2), .second, .val (.int x3), .val (.int x4), .val (.int x5), .val (.ref pa), .val (.int (Int32.ofNat wn)), .val (.long (Int64.ofNat vn)), .second, .val (.ref t), .val (.int pr), .val (.int po), .val (.int qq), .val (.int xx), .val (.int m1), .val (.int m2), .val (.int k0), .val (.int ms), .val (.int mk), .val (.int mm), .val (.int es), .val (.int (Int32.ofNat kk)), .val (.int (Int32.ofNat sn)), .val (.int (Int32.ofNat en)), .val (.int r), .val (.int (0 : Int32)), .val (.int (0 : Int32)), .val (.int (0 : Int32)), .val (.int (1 : Int32))] at_1054 rfl rfl ?_
            refine own_iload 1058 Y at_1056 rfl rfl ?_
            refine own_iload 1060 Y at_1058 rfl rfl ?_
            refine own_icF 1063 Y at_1060 (XT.ii_ne_f (hres.2 (fun z => q1041 (own_lcgt.mpr ((own_qlt (by decide) hv2).mpr z.1))))) rfl ?_
            refine own_iconst 1064 Y (1 : Int32) at_1063 rfl rfl ?_
            refine own_goto 1068 Y at_1064 (by decide) ?_
            exact own_retN Y (t := .boolean) rfl (by simp) at_1068 hkc hks ⟨rfl, N⟩
          · refine own_iload 1046 Y at_1044 rfl rfl ?_
            refine own_ifF 1049 Y at_1046 (XT.i0_ne_f (by decide)) rfl ?_
            refine own_iconst 1050 Y (1 : Int32) at_1049 rfl rfl ?_
            refine own_goto 1054 Y at_1050 (by decide) ?_
            refine own_istore 1056 Y #[.val (.int x0), .val (.int x1), .val (.long x2), .second, .val (.int x3), .val (.int x4), .val (.int x5), .val (.ref pa), .val (.int (Int32.ofNat wn)), .val (.long (Int64.ofNat vn)), .second, .val (.ref t), .val (.int pr), .val (.int po), .val (.int qq), .val (.int xx), .val (.int m1), .val (.int m2), .val (.int k0), .val (.int ms), .val (.int mk), .val (.int mm), .val (.int es), .val (.int (Int32.ofNat kk)), .val (.int (Int32.ofNat sn)), .val (.int (Int32.ofNat en)), .val (.int r), .val (.int (0 : Int32)), .val (.int (0 : Int32)), .val (.int (0 : Int32)), .val (.int (1 : Int32))] at_1054 rfl rfl ?_
            refine own_iload 1058 Y at_1056 rfl rfl ?_
            refine own_iload 1060 Y at_1058 rfl rfl ?_
            refine own_icF 1063 Y at_1060 (XT.ii_ne_f (hres.2 (fun z => z.2.1.1 q957))) rfl ?_
            refine own_iconst 1064 Y (1 : Int32) at_1063 rfl rfl ?_
            refine own_goto 1068 Y at_1064 (by decide) ?_
            exact own_retN Y (t := .boolean) rfl (by simp) at_1068 hkc hks ⟨rfl, N⟩
        · refine own_iconst 1006 Y (1 : Int32) at_1005 rfl rfl ?_
          refine own_goto 1010 Y at_1006 (by decide) ?_
          refine own_istore 1012 Y #[.val (.int x0), .val (.int x1), .val (.long x2), .second, .val (.int x3), .val (.int x4), .val (.int x5), .val (.ref pa), .val (.int (Int32.ofNat wn)), .val (.long (Int64.ofNat vn)), .second, .val (.ref t), .val (.int pr), .val (.int po), .val (.int qq), .val (.int xx), .val (.int m1), .val (.int m2), .val (.int k0), .val (.int ms), .val (.int mk), .val (.int mm), .val (.int es), .val (.int (Int32.ofNat kk)), .val (.int (Int32.ofNat sn)), .val (.int (Int32.ofNat en)), .val (.int r), .val (.int (0 : Int32)), .val (.int (1 : Int32)), .unset, .unset] at_1010 rfl rfl ?_
          refine own_iload 1014 Y at_1012 rfl rfl ?_
          refine own_ifT 1032 Y at_1014 (XT.i0_eq_t (by decide)) (by decide) ?_
          refine own_iconst 1033 Y (0 : Int32) at_1032 rfl rfl ?_
          refine own_istore 1035 Y #[.val (.int x0), .val (.int x1), .val (.long x2), .second, .val (.int x3), .val (.int x4), .val (.int x5), .val (.ref pa), .val (.int (Int32.ofNat wn)), .val (.long (Int64.ofNat vn)), .second, .val (.ref t), .val (.int pr), .val (.int po), .val (.int qq), .val (.int xx), .val (.int m1), .val (.int m2), .val (.int k0), .val (.int ms), .val (.int mk), .val (.int mm), .val (.int es), .val (.int (Int32.ofNat kk)), .val (.int (Int32.ofNat sn)), .val (.int (Int32.ofNat en)), .val (.int r), .val (.int (0 : Int32)), .val (.int (1 : Int32)), .val (.int (0 : Int32)), .unset] at_1033 rfl rfl ?_
          refine own_lload 1037 Y at_1035 rfl rfl ?_
          refine own_ldc2J 1040 Y (own_wd hw 9 rfl) at_1037 rfl ?_
          refine own_lcmp 1041 Y at_1040 rfl ?_
          refine own_if_le 1049 1044 Y at_1041 (by decide) rfl (fun q1041 => ?_) (fun q1041 => ?_)
          · refine own_iconst 1050 Y (1 : Int32) at_1049 rfl rfl ?_
            refine own_goto 1054 Y at_1050 (by decide) ?_
            refine own_istore 1056 Y #[.val (.int x0), .val (.int x1), .val (.long x2), .second, .val (.int x3), .val (.int x4), .val (.int x5), .val (.ref pa), .val (.int (Int32.ofNat wn)), .val (.long (Int64.ofNat vn)), .second, .val (.ref t), .val (.int pr), .val (.int po), .val (.int qq), .val (.int xx), .val (.int m1), .val (.int m2), .val (.int k0), .val (.int ms), .val (.int mk), .val (.int mm), .val (.int es), .val (.int (Int32.ofNat kk)), .val (.int (Int32.ofNat sn)), .val (.int (Int32.ofNat en)), .val (.int r), .val (.int (0 : Int32)), .val (.int (1 : Int32)), .val (.int (0 : Int32)), .val (.int (1 : Int32))] at_1054 rfl rfl ?_
            refine own_iload 1058 Y at_1056 rfl rfl ?_
            refine own_iload 1060 Y at_1058 rfl rfl ?_
            refine own_icF 1063 Y at_1060 (XT.ii_ne_f (hres.2 (fun z => q1041 (own_lcgt.mpr ((own_qlt (by decide) hv2).mpr z.1))))) rfl ?_
            refine own_iconst 1064 Y (1 : Int32) at_1063 rfl rfl ?_
            refine own_goto 1068 Y at_1064 (by decide) ?_
            exact own_retN Y (t := .boolean) rfl (by simp) at_1068 hkc hks ⟨rfl, N⟩
          · refine own_iload 1046 Y at_1044 rfl rfl ?_
            refine own_ifF 1049 Y at_1046 (XT.i0_ne_f (by decide)) rfl ?_
            refine own_iconst 1050 Y (1 : Int32) at_1049 rfl rfl ?_
            refine own_goto 1054 Y at_1050 (by decide) ?_
            refine own_istore 1056 Y #[.val (.int x0), .val (.int x1), .val (.long x2), .second, .val (.int x3), .val (.int x4), .val (.int x5), .val (.ref pa), .val (.int (Int32.ofNat wn)), .val (.long (Int64.ofNat vn)), .second, .val (.ref t), .val (.int pr), .val (.int po), .val (.int qq), .val (.int xx), .val (.int m1), .val (.int m2), .val (.int k0), .val (.int ms), .val (.int mk), .val (.int mm), .val (.int es), .val (.int (Int32.ofNat kk)), .val (.int (Int32.ofNat sn)), .val (.int (Int32.ofNat en)), .val (.int r), .val (.int (0 : Int32)), .val (.int (1 : Int32)), .val (.int (0 : Int32)), .val (.int (1 : Int32))] at_1054 rfl rfl ?_
            refine own_iload 1058 Y at_1056 rfl rfl ?_
            refine own_iload 1060 Y at_1058 rfl rfl ?_
            refine own_icF 1063 Y at_1060 (XT.ii_ne_f (hres.2 (fun z => z.2.1.1 q957))) rfl ?_
            refine own_iconst 1064 Y (1 : Int32) at_1063 rfl rfl ?_
            refine own_goto 1068 Y at_1064 (by decide) ?_
            exact own_retN Y (t := .boolean) rfl (by simp) at_1068 hkc hks ⟨rfl, N⟩
  · refine own_iload 962 Y at_960 rfl rfl ?_
    refine own_iconst 963 Y (2 : Int32) at_962 rfl rfl ?_
    refine own_ic_ne 980 966 Y at_963 (by decide) rfl (fun q963 => ?_) (fun q963 => ?_)
    · refine own_iconst 981 Y (1 : Int32) at_980 rfl rfl ?_
      refine own_goto 985 Y at_981 (by decide) ?_
      refine own_istore 987 Y #[.val (.int x0), .val (.int x1), .val (.long x2), .second, .val (.int x3), .val (.int x4), .val (.int x5), .val (.ref pa), .val (.int (Int32.ofNat wn)), .val (.long (Int64.ofNat vn)), .second, .val (.ref t), .val (.int pr), .val (.int po), .val (.int qq), .val (.int xx), .val (.int m1), .val (.int m2), .val (.int k0), .val (.int ms), .val (.int mk), .val (.int mm), .val (.int es), .val (.int (Int32.ofNat kk)), .val (.int (Int32.ofNat sn)), .val (.int (Int32.ofNat en)), .val (.int r), .val (.int (1 : Int32)), .unset, .unset, .unset] at_985 rfl rfl ?_
      refine own_iload 989 Y at_987 rfl rfl ?_
      refine own_iconst 990 Y (3 : Int32) at_989 rfl rfl ?_
      refine own_ic_eq 1009 993 Y at_990 (by decide) rfl (fun q990 => ?_) (fun q990 => ?_)
      · refine own_iconst 1010 Y (0 : Int32) at_1009 rfl rfl ?_
        refine own_istore 1012 Y #[.val (.int x0), .val (.int x1), .val (.long x2), .second, .val (.int x3), .val (.int x4), .val (.int x5), .val (.ref pa), .val (.int (Int32.ofNat wn)), .val (.long (Int64.ofNat vn)), .second, .val (.ref t), .val (.int pr), .val (.int po), .val (.int qq), .val (.int xx), .val (.int m1), .val (.int m2), .val (.int k0), .val (.int ms), .val (.int mk), .val (.int mm), .val (.int es), .val (.int (Int32.ofNat kk)), .val (.int (Int32.ofNat sn)), .val (.int (Int32.ofNat en)), .val (.int r), .val (.int (1 : Int32)), .val (.int (0 : Int32)), .unset, .unset] at_1010 rfl rfl ?_
        refine own_iload 1014 Y at_1012 rfl rfl ?_
        refine own_ifF 1017 Y at_1014 (XT.i0_eq_f (by decide)) rfl ?_
        refine own_iload 1019 Y at_1017 rfl rfl ?_
        refine own_ifT 1032 Y at_1019 (XT.i0_eq_t (by decide)) (by decide) ?_
        refine own_iconst 1033 Y (0 : Int32) at_1032 rfl rfl ?_
        refine own_istore 1035 Y #[.val (.int x0), .val (.int x1), .val (.long x2), .second, .val (.int x3), .val (.int x4), .val (.int x5), .val (.ref pa), .val (.int (Int32.ofNat wn)), .val (.long (Int64.ofNat vn)), .second, .val (.ref t), .val (.int pr), .val (.int po), .val (.int qq), .val (.int xx), .val (.int m1), .val (.int m2), .val (.int k0), .val (.int ms), .val (.int mk), .val (.int mm), .val (.int es), .val (.int (Int32.ofNat kk)), .val (.int (Int32.ofNat sn)), .val (.int (Int32.ofNat en)), .val (.int r), .val (.int (1 : Int32)), .val (.int (0 : Int32)), .val (.int (0 : Int32)), .unset] at_1033 rfl rfl ?_
        refine own_lload 1037 Y at_1035 rfl rfl ?_
        refine own_ldc2J 1040 Y (own_wd hw 9 rfl) at_1037 rfl ?_
        refine own_lcmp 1041 Y at_1040 rfl ?_
        refine own_if_le 1049 1044 Y at_1041 (by decide) rfl (fun q1041 => ?_) (fun q1041 => ?_)
        · refine own_iconst 1050 Y (1 : Int32) at_1049 rfl rfl ?_
          refine own_goto 1054 Y at_1050 (by decide) ?_
          refine own_istore 1056 Y #[.val (.int x0), .val (.int x1), .val (.long x2), .second, .val (.int x3), .val (.int x4), .val (.int x5), .val (.ref pa), .val (.int (Int32.ofNat wn)), .val (.long (Int64.ofNat vn)), .second, .val (.ref t), .val (.int pr), .val (.int po), .val (.int qq), .val (.int xx), .val (.int m1), .val (.int m2), .val (.int k0), .val (.int ms), .val (.int mk), .val (.int mm), .val (.int es), .val (.int (Int32.ofNat kk)), .val (.int (Int32.ofNat sn)), .val (.int (Int32.ofNat en)), .val (.int r), .val (.int (1 : Int32)), .val (.int (0 : Int32)), .val (.int (0 : Int32)), .val (.int (1 : Int32))] at_1054 rfl rfl ?_
          refine own_iload 1058 Y at_1056 rfl rfl ?_
          refine own_iload 1060 Y at_1058 rfl rfl ?_
          refine own_icF 1063 Y at_1060 (XT.ii_ne_f (hres.2 (fun z => q1041 (own_lcgt.mpr ((own_qlt (by decide) hv2).mpr z.1))))) rfl ?_
          refine own_iconst 1064 Y (1 : Int32) at_1063 rfl rfl ?_
          refine own_goto 1068 Y at_1064 (by decide) ?_
          exact own_retN Y (t := .boolean) rfl (by simp) at_1068 hkc hks ⟨rfl, N⟩
        · refine own_iload 1046 Y at_1044 rfl rfl ?_
          refine own_ifF 1049 Y at_1046 (XT.i0_ne_f (by decide)) rfl ?_
          refine own_iconst 1050 Y (1 : Int32) at_1049 rfl rfl ?_
          refine own_goto 1054 Y at_1050 (by decide) ?_
          refine own_istore 1056 Y #[.val (.int x0), .val (.int x1), .val (.long x2), .second, .val (.int x3), .val (.int x4), .val (.int x5), .val (.ref pa), .val (.int (Int32.ofNat wn)), .val (.long (Int64.ofNat vn)), .second, .val (.ref t), .val (.int pr), .val (.int po), .val (.int qq), .val (.int xx), .val (.int m1), .val (.int m2), .val (.int k0), .val (.int ms), .val (.int mk), .val (.int mm), .val (.int es), .val (.int (Int32.ofNat kk)), .val (.int (Int32.ofNat sn)), .val (.int (Int32.ofNat en)), .val (.int r), .val (.int (1 : Int32)), .val (.int (0 : Int32)), .val (.int (0 : Int32)), .val (.int (1 : Int32))] at_1054 rfl rfl ?_
          refine own_iload 1058 Y at_1056 rfl rfl ?_
          refine own_iload 1060 Y at_1058 rfl rfl ?_
          refine own_icF 1063 Y at_1060 (XT.ii_ne_f (hres.2 (fun z => z.2.2.1.1 q990))) rfl ?_
          refine own_iconst 1064 Y (1 : Int32) at_1063 rfl rfl ?_
          refine own_goto 1068 Y at_1064 (by decide) ?_
          exact own_retN Y (t := .boolean) rfl (by simp) at_1068 hkc hks ⟨rfl, N⟩
      · refine own_iload 995 Y at_993 rfl rfl ?_
        refine own_iconst 996 Y (1 : Int32) at_995 rfl rfl ?_
        refine own_ic_lt 1009 999 Y at_996 (by decide) rfl (fun q996 => ?_) (fun q996 => ?_)
        · refine own_iconst 1010 Y (0 : Int32) at_1009 rfl rfl ?_
          refine own_istore 1012 Y #[.val (.int x0), .val (.int x1), .val (.long x2), .second, .val (.int x3), .val (.int x4), .val (.int x5), .val (.ref pa), .val (.int (Int32.ofNat wn)), .val (.long (Int64.ofNat vn)), .second, .val (.ref t), .val (.int pr), .val (.int po), .val (.int qq), .val (.int xx), .val (.int m1), .val (.int m2), .val (.int k0), .val (.int ms), .val (.int mk), .val (.int mm), .val (.int es), .val (.int (Int32.ofNat kk)), .val (.int (Int32.ofNat sn)), .val (.int (Int32.ofNat en)), .val (.int r), .val (.int (1 : Int32)), .val (.int (0 : Int32)), .unset, .unset] at_1010 rfl rfl ?_
          refine own_iload 1014 Y at_1012 rfl rfl ?_
          refine own_ifF 1017 Y at_1014 (XT.i0_eq_f (by decide)) rfl ?_
          refine own_iload 1019 Y at_1017 rfl rfl ?_
          refine own_ifT 1032 Y at_1019 (XT.i0_eq_t (by decide)) (by decide) ?_
          refine own_iconst 1033 Y (0 : Int32) at_1032 rfl rfl ?_
          refine own_istore 1035 Y #[.val (.int x0), .val (.int x1), .val (.long x2), .second, .val (.int x3), .val (.int x4), .val (.int x5), .val (.ref pa), .val (.int (Int32.ofNat wn)), .val (.long (Int64.ofNat vn)), .second, .val (.ref t), .val (.int pr), .val (.int po), .val (.int qq), .val (.int xx), .val (.int m1), .val (.int m2), .val (.int k0), .val (.int ms), .val (.int mk), .val (.int mm), .val (.int es), .val (.int (Int32.ofNat kk)), .val (.int (Int32.ofNat sn)), .val (.int (Int32.ofNat en)), .val (.int r), .val (.int (1 : Int32)), .val (.int (0 : Int32)), .val (.int (0 : Int32)), .unset] at_1033 rfl rfl ?_
          refine own_lload 1037 Y at_1035 rfl rfl ?_
          refine own_ldc2J 1040 Y (own_wd hw 9 rfl) at_1037 rfl ?_
          refine own_lcmp 1041 Y at_1040 rfl ?_
          refine own_if_le 1049 1044 Y at_1041 (by decide) rfl (fun q1041 => ?_) (fun q1041 => ?_)
          · refine own_iconst 1050 Y (1 : Int32) at_1049 rfl rfl ?_
            refine own_goto 1054 Y at_1050 (by decide) ?_
            refine own_istore 1056 Y #[.val (.int x0), .val (.int x1), .val (.long x2), .second, .val (.int x3), .val (.int x4), .val (.int x5), .val (.ref pa), .val (.int (Int32.ofNat wn)), .val (.long (Int64.ofNat vn)), .second, .val (.ref t), .val (.int pr), .val (.int po), .val (.int qq), .val (.int xx), .val (.int m1), .val (.int m2), .val (.int k0), .val (.int ms), .val (.int mk), .val (.int mm), .val (.int es), .val (.int (Int32.ofNat kk)), .val (.int (Int32.ofNat sn)), .val (.int (Int32.ofNat en)), .val (.int r), .val (.int (1 : Int32)), .val (.int (0 : Int32)), .val (.int (0 : Int32)), .val (.int (1 : Int32))] at_1054 rfl rfl ?_
            refine own_iload 1058 Y at_1056 rfl rfl ?_
            refine own_iload 1060 Y at_1058 rfl rfl ?_
            refine own_icF 1063 Y at_1060 (XT.ii_ne_f (hres.2 (fun z => q1041 (own_lcgt.mpr ((own_qlt (by decide) hv2).mpr z.1))))) rfl ?_
            refine own_iconst 1064 Y (1 : Int32) at_1063 rfl rfl ?_
            refine own_goto 1068 Y at_1064 (by decide) ?_
            exact own_retN Y (t := .boolean) rfl (by simp) at_1068 hkc hks ⟨rfl, N⟩
          · refine own_iload 1046 Y at_1044 rfl rfl ?_
            refine own_ifF 1049 Y at_1046 (XT.i0_ne_f (by decide)) rfl ?_
            refine own_iconst 1050 Y (1 : Int32) at_1049 rfl rfl ?_
            refine own_goto 1054 Y at_1050 (by decide) ?_
            refine own_istore 1056 Y #[.val (.int x0), .val (.int x1), .val (.long x2), .second, .val (.int x3), .val (.int x4), .val (.int x5), .val (.ref pa), .val (.int (Int32.ofNat wn)), .val (.long (Int64.ofNat vn)), .second, .val (.ref t), .val (.int pr), .val (.int po), .val (.int qq), .val (.int xx), .val (.int m1), .val (.int m2), .val (.int k0), .val (.int ms), .val (.int mk), .val (.int mm), .val (.int es), .val (.int (Int32.ofNat kk)), .val (.int (Int32.ofNat sn)), .val (.int (Int32.ofNat en)), .val (.int r), .val (.int (1 : Int32)), .val (.int (0 : Int32)), .val (.int (0 : Int32)), .val (.int (1 : Int32))] at_1054 rfl rfl ?_
            refine own_iload 1058 Y at_1056 rfl rfl ?_
            refine own_iload 1060 Y at_1058 rfl rfl ?_
            refine own_icF 1063 Y at_1060 (XT.ii_ne_f (hres.2 (fun z => z.2.2.1.2.1 q996))) rfl ?_
            refine own_iconst 1064 Y (1 : Int32) at_1063 rfl rfl ?_
            refine own_goto 1068 Y at_1064 (by decide) ?_
            exact own_retN Y (t := .boolean) rfl (by simp) at_1068 hkc hks ⟨rfl, N⟩
        · refine own_iload 1001 Y at_999 rfl rfl ?_
          refine own_iconst 1002 Y (4 : Int32) at_1001 rfl rfl ?_
          refine own_ic_gt 1009 1005 Y at_1002 (by decide) rfl (fun q1002 => ?_) (fun q1002 => ?_)
          · refine own_iconst 1010 Y (0 : Int32) at_1009 rfl rfl ?_
            refine own_istore 1012 Y #[.val (.int x0), .val (.int x1), .val (.long x2), .second, .val (.int x3), .val (.int x4), .val (.int x5), .val (.ref pa), .val (.int (Int32.ofNat wn)), .val (.long (Int64.ofNat vn)), .second, .val (.ref t), .val (.int pr), .val (.int po), .val (.int qq), .val (.int xx), .val (.int m1), .val (.int m2), .val (.int k0), .val (.int ms), .val (.int mk), .val (.int mm), .val (.int es), .val (.int (Int32.ofNat kk)), .val (.int (Int32.ofNat sn)), .val (.int (Int32.ofNat en)), .val (.int r), .val (.int (1 : Int32)), .val (.int (0 : Int32)), .unset, .unset] at_1010 rfl rfl ?_
            refine own_iload 1014 Y at_1012 rfl rfl ?_
            refine own_ifF 1017 Y at_1014 (XT.i0_eq_f (by decide)) rfl ?_
            refine own_iload 1019 Y at_1017 rfl rfl ?_
            refine own_ifT 1032 Y at_1019 (XT.i0_eq_t (by decide)) (by decide) ?_
            refine own_iconst 1033 Y (0 : Int32) at_1032 rfl rfl ?_
            refine own_istore 1035 Y #[.val (.int x0), .val (.int x1), .val (.long x2), .second, .val (.int x3), .val (.int x4), .val (.int x5), .val (.ref pa), .val (.int (Int32.ofNat wn)), .val (.long (Int64.ofNat vn)), .second, .val (.ref t), .val (.int pr), .val (.int po), .val (.int qq), .val (.int xx), .val (.int m1), .val (.int m2), .val (.int k0), .val (.int ms), .val (.int mk), .val (.int mm), .val (.int es), .val (.int (Int32.ofNat kk)), .val (.int (Int32.ofNat sn)), .val (.int (Int32.ofNat en)), .val (.int r), .val (.int (1 : Int32)), .val (.int (0 : Int32)), .val (.int (0 : Int32)), .unset] at_1033 rfl rfl ?_
            refine own_lload 1037 Y at_1035 rfl rfl ?_
            refine own_ldc2J 1040 Y (own_wd hw 9 rfl) at_1037 rfl ?_
            refine own_lcmp 1041 Y at_1040 rfl ?_
            refine own_if_le 1049 1044 Y at_1041 (by decide) rfl (fun q1041 => ?_) (fun q1041 => ?_)
            · refine own_iconst 1050 Y (1 : Int32) at_1049 rfl rfl ?_
              refine own_goto 1054 Y at_1050 (by decide) ?_
              refine own_istore 1056 Y #[.val (.int x0), .val (.int x1), .val (.long x2), .second, .val (.int x3), .val (.int x4), .val (.int x5), .val (.ref pa), .val (.int (Int32.ofNat wn)), .val (.long (Int64.ofNat vn)), .second, .val (.ref t), .val (.int pr), .val (.int po), .val (.int qq), .val (.int xx), .val (.int m1), .val (.int m2), .val (.int k0), .val (.int ms), .val (.int mk), .val (.int mm), .val (.int es), .val (.int (Int32.ofNat kk)), .val (.int (Int32.ofNat sn)), .val (.int (Int32.ofNat en)), .val (.int r), .val (.int (1 : Int32)), .val (.int (0 : Int32)), .val (.int (0 : Int32)), .val (.int (1 : Int32))] at_1054 rfl rfl ?_
              refine own_iload 1058 Y at_1056 rfl rfl ?_
              refine own_iload 1060 Y at_1058 rfl rfl ?_
              refine own_icF 1063 Y at_1060 (XT.ii_ne_f (hres.2 (fun z => q1041 (own_lcgt.mpr ((own_qlt (by decide) hv2).mpr z.1))))) rfl ?_
              refine own_iconst 1064 Y (1 : Int32) at_1063 rfl rfl ?_
              refine own_goto 1068 Y at_1064 (by decide) ?_
              exact own_retN Y (t := .boolean) rfl (by simp) at_1068 hkc hks ⟨rfl, N⟩
            · refine own_iload 1046 Y at_1044 rfl rfl ?_
              refine own_ifF 1049 Y at_1046 (XT.i0_ne_f (by decide)) rfl ?_
              refine own_iconst 1050 Y (1 : Int32) at_1049 rfl rfl ?_
              refine own_goto 1054 Y at_1050 (by decide) ?_
              refine own_istore 1056 Y #[.val (.int x0), .val (.int x1), .val (.long x2), .second, .val (.int x3), .val (.int x4), .val (.int x5), .val (.ref pa), .val (.int (Int32.ofNat wn)), .val (.long (Int64.ofNat vn)), .second, .val (.ref t), .val (.int pr), .val (.int po), .val (.int qq), .val (.int xx), .val (.int m1), .val (.int m2), .val (.int k0), .val (.int ms), .val (.int mk), .val (.int mm), .val (.int es), .val (.int (Int32.ofNat kk)), .val (.int (Int32.ofNat sn)), .val (.int (Int32.ofNat en)), .val (.int r), .val (.int (1 : Int32)), .val (.int (0 : Int32)), .val (.int (0 : Int32)), .val (.int (1 : Int32))] at_1054 rfl rfl ?_
              refine own_iload 1058 Y at_1056 rfl rfl ?_
              refine own_iload 1060 Y at_1058 rfl rfl ?_
              refine own_icF 1063 Y at_1060 (XT.ii_ne_f (hres.2 (fun z => z.2.2.1.2.2 q1002))) rfl ?_
              refine own_iconst 1064 Y (1 : Int32) at_1063 rfl rfl ?_
              refine own_goto 1068 Y at_1064 (by decide) ?_
              exact own_retN Y (t := .boolean) rfl (by simp) at_1068 hkc hks ⟨rfl, N⟩
          · refine own_iconst 1006 Y (1 : Int32) at_1005 rfl rfl ?_
            refine own_goto 1010 Y at_1006 (by decide) ?_
            refine own_istore 1012 Y #[.val (.int x0), .val (.int x1), .val (.long x2), .second, .val (.int x3), .val (.int x4), .val (.int x5), .val (.ref pa), .val (.int (Int32.ofNat wn)), .val (.long (Int64.ofNat vn)), .second, .val (.ref t), .val (.int pr), .val (.int po), .val (.int qq), .val (.int xx), .val (.int m1), .val (.int m2), .val (.int k0), .val (.int ms), .val (.int mk), .val (.int mm), .val (.int es), .val (.int (Int32.ofNat kk)), .val (.int (Int32.ofNat sn)), .val (.int (Int32.ofNat en)), .val (.int r), .val (.int (1 : Int32)), .val (.int (1 : Int32)), .unset, .unset] at_1010 rfl rfl ?_
            refine own_iload 1014 Y at_1012 rfl rfl ?_
            refine own_ifF 1017 Y at_1014 (XT.i0_eq_f (by decide)) rfl ?_
            refine own_iload 1019 Y at_1017 rfl rfl ?_
            refine own_ifF 1022 Y at_1019 (XT.i0_eq_f (by decide)) rfl ?_
            refine own_iload 1024 Y at_1022 rfl rfl ?_
            refine own_iconst 1025 Y (3 : Int32) at_1024 rfl rfl ?_
            refine own_ic_eq 1032 1028 Y at_1025 (by decide) rfl (fun q1025 => ?_) (fun q1025 => ?_)
            · refine own_iconst 1033 Y (0 : Int32) at_1032 rfl rfl ?_
              refine own_istore 1035 Y #[.val (.int x0), .val (.int x1), .val (.long x2), .second, .val (.int x3), .val (.int x4), .val (.int x5), .val (.ref pa), .val (.int (Int32.ofNat wn)), .val (.long (Int64.ofNat vn)), .second, .val (.ref t), .val (.int pr), .val (.int po), .val (.int qq), .val (.int xx), .val (.int m1), .val (.int m2), .val (.int k0), .val (.int ms), .val (.int mk), .val (.int mm), .val (.int es), .val (.int (Int32.ofNat kk)), .val (.int (Int32.ofNat sn)), .val (.int (Int32.ofNat en)), .val (.int r), .val (.int (1 : Int32)), .val (.int (1 : Int32)), .val (.int (0 : Int32)), .unset] at_1033 rfl rfl ?_
              refine own_lload 1037 Y at_1035 rfl rfl ?_
              refine own_ldc2J 1040 Y (own_wd hw 9 rfl) at_1037 rfl ?_
              refine own_lcmp 1041 Y at_1040 rfl ?_
              refine own_if_le 1049 1044 Y at_1041 (by decide) rfl (fun q1041 => ?_) (fun q1041 => ?_)
              · refine own_iconst 1050 Y (1 : Int32) at_1049 rfl rfl ?_
                refine own_goto 1054 Y at_1050 (by decide) ?_
                refine own_istore 1056 Y #[.val (.int x0), .val (.int x1), .val (.long x2), .second, .val (.int x3), .val (.int x4), .val (.int x5), .val (.ref pa), .val (.int (Int32.ofNat wn)), .val (.long (Int64.ofNat vn)), .second, .val (.ref t), .val (.int pr), .val (.int po), .val (.int qq), .val (.int xx), .val (.int m1), .val (.int m2), .val (.int k0), .val (.int ms), .val (.int mk), .val (.int mm), .val (.int es), .val (.int (Int32.ofNat kk)), .val (.int (Int32.ofNat sn)), .val (.int (Int32.ofNat en)), .val (.int r), .val (.int (1 : Int32)), .val (.int (1 : Int32)), .val (.int (0 : Int32)), .val (.int (1 : Int32))] at_1054 rfl rfl ?_
                refine own_iload 1058 Y at_1056 rfl rfl ?_
                refine own_iload 1060 Y at_1058 rfl rfl ?_
                refine own_icF 1063 Y at_1060 (XT.ii_ne_f (hres.2 (fun z => q1041 (own_lcgt.mpr ((own_qlt (by decide) hv2).mpr z.1))))) rfl ?_
                refine own_iconst 1064 Y (1 : Int32) at_1063 rfl rfl ?_
                refine own_goto 1068 Y at_1064 (by decide) ?_
                exact own_retN Y (t := .boolean) rfl (by simp) at_1068 hkc hks ⟨rfl, N⟩
              · refine own_iload 1046 Y at_1044 rfl rfl ?_
                refine own_ifF 1049 Y at_1046 (XT.i0_ne_f (by decide)) rfl ?_
                refine own_iconst 1050 Y (1 : Int32) at_1049 rfl rfl ?_
                refine own_goto 1054 Y at_1050 (by decide) ?_
                refine own_istore 1056 Y #[.val (.int x0), .val (.int x1), .val (.long x2), .second, .val (.int x3), .val (.int x4), .val (.int x5), .val (.ref pa), .val (.int (Int32.ofNat wn)), .val (.long (Int64.ofNat vn)), .second, .val (.ref t), .val (.int pr), .val (.int po), .val (.int qq), .val (.int xx), .val (.int m1), .val (.int m2), .val (.int k0), .val (.int ms), .val (.int mk), .val (.int mm), .val (.int es), .val (.int (Int32.ofNat kk)), .val (.int (Int32.ofNat sn)), .val (.int (Int32.ofNat en)), .val (.int r), .val (.int (1 : Int32)), .val (.int (1 : Int32)), .val (.int (0 : Int32)), .val (.int (1 : Int32))] at_1054 rfl rfl ?_
                refine own_iload 1058 Y at_1056 rfl rfl ?_
                refine own_iload 1060 Y at_1058 rfl rfl ?_
                refine own_icF 1063 Y at_1060 (XT.ii_ne_f (hres.2 (fun z => z.2.2.2 q1025))) rfl ?_
                refine own_iconst 1064 Y (1 : Int32) at_1063 rfl rfl ?_
                refine own_goto 1068 Y at_1064 (by decide) ?_
                exact own_retN Y (t := .boolean) rfl (by simp) at_1068 hkc hks ⟨rfl, N⟩
            · refine own_iconst 1029 Y (1 : Int32) at_1028 rfl rfl ?_
              refine own_goto 1033 Y at_1029 (by decide) ?_
              refine own_istore 1035 Y #[.val (.int x0), .val (.int x1), .val (.long x2), .second, .val (.int x3), .val (.int x4), .val (.int x5), .val (.ref pa), .val (.int (Int32.ofNat wn)), .val (.long (Int64.ofNat vn)), .second, .val (.ref t), .val (.int pr), .val (.int po), .val (.int qq), .val (.int xx), .val (.int m1), .val (.int m2), .val (.int k0), .val (.int ms), .val (.int mk), .val (.int mm), .val (.int es), .val (.int (Int32.ofNat kk)), .val (.int (Int32.ofNat sn)), .val (.int (Int32.ofNat en)), .val (.int r), .val (.int (1 : Int32)), .val (.int (1 : Int32)), .val (.int (1 : Int32)), .unset] at_1033 rfl rfl ?_
              refine own_lload 1037 Y at_1035 rfl rfl ?_
              refine own_ldc2J 1040 Y (own_wd hw 9 rfl) at_1037 rfl ?_
              refine own_lcmp 1041 Y at_1040 rfl ?_
              refine own_if_le 1049 1044 Y at_1041 (by decide) rfl (fun q1041 => ?_) (fun q1041 => ?_)
              · refine own_iconst 1050 Y (1 : Int32) at_1049 rfl rfl ?_
                refine own_goto 1054 Y at_1050 (by decide) ?_
                refine own_istore 1056 Y #[.val (.int x0), .val (.int x1), .val (.long x2), .second, .val (.int x3), .val (.int x4), .val (.int x5), .val (.ref pa), .val (.int (Int32.ofNat wn)), .val (.long (Int64.ofNat vn)), .second, .val (.ref t), .val (.int pr), .val (.int po), .val (.int qq), .val (.int xx), .val (.int m1), .val (.int m2), .val (.int k0), .val (.int ms), .val (.int mk), .val (.int mm), .val (.int es), .val (.int (Int32.ofNat kk)), .val (.int (Int32.ofNat sn)), .val (.int (Int32.ofNat en)), .val (.int r), .val (.int (1 : Int32)), .val (.int (1 : Int32)), .val (.int (1 : Int32)), .val (.int (1 : Int32))] at_1054 rfl rfl ?_
                refine own_iload 1058 Y at_1056 rfl rfl ?_
                refine own_iload 1060 Y at_1058 rfl rfl ?_
                refine own_icF 1063 Y at_1060 (XT.ii_ne_f (hres.2 (fun z => q1041 (own_lcgt.mpr ((own_qlt (by decide) hv2).mpr z.1))))) rfl ?_
                refine own_iconst 1064 Y (1 : Int32) at_1063 rfl rfl ?_
                refine own_goto 1068 Y at_1064 (by decide) ?_
                exact own_retN Y (t := .boolean) rfl (by simp) at_1068 hkc hks ⟨rfl, N⟩
              · refine own_iload 1046 Y at_1044 rfl rfl ?_
                refine own_ifT 1053 Y at_1046 (XT.i0_ne_t (by decide)) (by decide) ?_
                refine own_iconst 1054 Y (0 : Int32) at_1053 rfl rfl ?_
                refine own_istore 1056 Y #[.val (.int x0), .val (.int x1), .val (.long x2), .second, .val (.int x3), .val (.int x4), .val (.int x5), .val (.ref pa), .val (.int (Int32.ofNat wn)), .val (.long (Int64.ofNat vn)), .second, .val (.ref t), .val (.int pr), .val (.int po), .val (.int qq), .val (.int xx), .val (.int m1), .val (.int m2), .val (.int k0), .val (.int ms), .val (.int mk), .val (.int mm), .val (.int es), .val (.int (Int32.ofNat kk)), .val (.int (Int32.ofNat sn)), .val (.int (Int32.ofNat en)), .val (.int r), .val (.int (1 : Int32)), .val (.int (1 : Int32)), .val (.int (1 : Int32)), .val (.int (0 : Int32))] at_1054 rfl rfl ?_
                refine own_iload 1058 Y at_1056 rfl rfl ?_
                refine own_iload 1060 Y at_1058 rfl rfl ?_
                refine own_icF 1063 Y at_1060 (XT.ii_ne_f (hres.1 ⟨(own_qlt (by decide) hv2).mp (own_lcgt.mp q1041), ⟨q957, Or.inl q963⟩, ⟨q990, q996, q1002⟩, q1025⟩)) rfl ?_
                refine own_iconst 1064 Y (1 : Int32) at_1063 rfl rfl ?_
                refine own_goto 1068 Y at_1064 (by decide) ?_
                exact own_retN Y (t := .boolean) rfl (by simp) at_1068 hkc hks ⟨rfl, N⟩
    · refine own_iload 968 Y at_966 rfl rfl ?_
      refine own_bipush 970 Y (101 : Int32) at_968 rfl rfl ?_
      refine own_ic_eq 980 973 Y at_970 (by decide) rfl (fun q970 => ?_) (fun q970 => ?_)
      · refine own_iconst 981 Y (1 : Int32) at_980 rfl rfl ?_
        refine own_goto 985 Y at_981 (by decide) ?_
        refine own_istore 987 Y #[.val (.int x0), .val (.int x1), .val (.long x2), .second, .val (.int x3), .val (.int x4), .val (.int x5), .val (.ref pa), .val (.int (Int32.ofNat wn)), .val (.long (Int64.ofNat vn)), .second, .val (.ref t), .val (.int pr), .val (.int po), .val (.int qq), .val (.int xx), .val (.int m1), .val (.int m2), .val (.int k0), .val (.int ms), .val (.int mk), .val (.int mm), .val (.int es), .val (.int (Int32.ofNat kk)), .val (.int (Int32.ofNat sn)), .val (.int (Int32.ofNat en)), .val (.int r), .val (.int (1 : Int32)), .unset, .unset, .unset] at_985 rfl rfl ?_
        refine own_iload 989 Y at_987 rfl rfl ?_
        refine own_iconst 990 Y (3 : Int32) at_989 rfl rfl ?_
        refine own_ic_eq 1009 993 Y at_990 (by decide) rfl (fun q990 => ?_) (fun q990 => ?_)
        · refine own_iconst 1010 Y (0 : Int32) at_1009 rfl rfl ?_
          refine own_istore 1012 Y #[.val (.int x0), .val (.int x1), .val (.long x2), .second, .val (.int x3), .val (.int x4), .val (.int x5), .val (.ref pa), .val (.int (Int32.ofNat wn)), .val (.long (Int64.ofNat vn)), .second, .val (.ref t), .val (.int pr), .val (.int po), .val (.int qq), .val (.int xx), .val (.int m1), .val (.int m2), .val (.int k0), .val (.int ms), .val (.int mk), .val (.int mm), .val (.int es), .val (.int (Int32.ofNat kk)), .val (.int (Int32.ofNat sn)), .val (.int (Int32.ofNat en)), .val (.int r), .val (.int (1 : Int32)), .val (.int (0 : Int32)), .unset, .unset] at_1010 rfl rfl ?_
          refine own_iload 1014 Y at_1012 rfl rfl ?_
          refine own_ifF 1017 Y at_1014 (XT.i0_eq_f (by decide)) rfl ?_
          refine own_iload 1019 Y at_1017 rfl rfl ?_
          refine own_ifT 1032 Y at_1019 (XT.i0_eq_t (by decide)) (by decide) ?_
          refine own_iconst 1033 Y (0 : Int32) at_1032 rfl rfl ?_
          refine own_istore 1035 Y #[.val (.int x0), .val (.int x1), .val (.long x2), .second, .val (.int x3), .val (.int x4), .val (.int x5), .val (.ref pa), .val (.int (Int32.ofNat wn)), .val (.long (Int64.ofNat vn)), .second, .val (.ref t), .val (.int pr), .val (.int po), .val (.int qq), .val (.int xx), .val (.int m1), .val (.int m2), .val (.int k0), .val (.int ms), .val (.int mk), .val (.int mm), .val (.int es), .val (.int (Int32.ofNat kk)), .val (.int (Int32.ofNat sn)), .val (.int (Int32.ofNat en)), .val (.int r), .val (.int (1 : Int32)), .val (.int (0 : Int32)), .val (.int (0 : Int32)), .unset] at_1033 rfl rfl ?_
          refine own_lload 1037 Y at_1035 rfl rfl ?_
          refine own_ldc2J 1040 Y (own_wd hw 9 rfl) at_1037 rfl ?_
          refine own_lcmp 1041 Y at_1040 rfl ?_
          refine own_if_le 1049 1044 Y at_1041 (by decide) rfl (fun q1041 => ?_) (fun q1041 => ?_)
          · refine own_iconst 1050 Y (1 : Int32) at_1049 rfl rfl ?_
            refine own_goto 1054 Y at_1050 (by decide) ?_
            refine own_istore 1056 Y #[.val (.int x0), .val (.int x1), .val (.long x2), .second, .val (.int x3), .val (.int x4), .val (.int x5), .val (.ref pa), .val (.int (Int32.ofNat wn)), .val (.long (Int64.ofNat vn)), .second, .val (.ref t), .val (.int pr), .val (.int po), .val (.int qq), .val (.int xx), .val (.int m1), .val (.int m2), .val (.int k0), .val (.int ms), .val (.int mk), .val (.int mm), .val (.int es), .val (.int (Int32.ofNat kk)), .val (.int (Int32.ofNat sn)), .val (.int (Int32.ofNat en)), .val (.int r), .val (.int (1 : Int32)), .val (.int (0 : Int32)), .val (.int (0 : Int32)), .val (.int (1 : Int32))] at_1054 rfl rfl ?_
            refine own_iload 1058 Y at_1056 rfl rfl ?_
            refine own_iload 1060 Y at_1058 rfl rfl ?_
            refine own_icF 1063 Y at_1060 (XT.ii_ne_f (hres.2 (fun z => q1041 (own_lcgt.mpr ((own_qlt (by decide) hv2).mpr z.1))))) rfl ?_
            refine own_iconst 1064 Y (1 : Int32) at_1063 rfl rfl ?_
            refine own_goto 1068 Y at_1064 (by decide) ?_
            exact own_retN Y (t := .boolean) rfl (by simp) at_1068 hkc hks ⟨rfl, N⟩
          · refine own_iload 1046 Y at_1044 rfl rfl ?_
            refine own_ifF 1049 Y at_1046 (XT.i0_ne_f (by decide)) rfl ?_
            refine own_iconst 1050 Y (1 : Int32) at_1049 rfl rfl ?_
            refine own_goto 1054 Y at_1050 (by decide) ?_
            refine own_istore 1056 Y #[.val (.int x0), .val (.int x1), .val (.long x2), .second, .val (.int x3), .val (.int x4), .val (.int x5), .val (.ref pa), .val (.int (Int32.ofNat wn)), .val (.long (Int64.ofNat vn)), .second, .val (.ref t), .val (.int pr), .val (.int po), .val (.int qq), .val (.int xx), .val (.int m1), .val (.int m2), .val (.int k0), .val (.int ms), .val (.int mk), .val (.int mm), .val (.int es), .val (.int (Int32.ofNat kk)), .val (.int (Int32.ofNat sn)), .val (.int (Int32.ofNat en)), .val (.int r), .val (.int (1 : Int32)), .val (.int (0 : Int32)), .val (.int (0 : Int32)), .val (.int (1 : Int32))] at_1054 rfl rfl ?_
            refine own_iload 1058 Y at_1056 rfl rfl ?_
            refine own_iload 1060 Y at_1058 rfl rfl ?_
            refine own_icF 1063 Y at_1060 (XT.ii_ne_f (hres.2 (fun z => z.2.2.1.1 q990))) rfl ?_
            refine own_iconst 1064 Y (1 : Int32) at_1063 rfl rfl ?_
            refine own_goto 1068 Y at_1064 (by decide) ?_
            exact own_retN Y (t := .boolean) rfl (by simp) at_1068 hkc hks ⟨rfl, N⟩
        · refine own_iload 995 Y at_993 rfl rfl ?_
          refine own_iconst 996 Y (1 : Int32) at_995 rfl rfl ?_
          refine own_ic_lt 1009 999 Y at_996 (by decide) rfl (fun q996 => ?_) (fun q996 => ?_)
          · refine own_iconst 1010 Y (0 : Int32) at_1009 rfl rfl ?_
            refine own_istore 1012 Y #[.val (.int x0), .val (.int x1), .val (.long x2), .second, .val (.int x3), .val (.int x4), .val (.int x5), .val (.ref pa), .val (.int (Int32.ofNat wn)), .val (.long (Int64.ofNat vn)), .second, .val (.ref t), .val (.int pr), .val (.int po), .val (.int qq), .val (.int xx), .val (.int m1), .val (.int m2), .val (.int k0), .val (.int ms), .val (.int mk), .val (.int mm), .val (.int es), .val (.int (Int32.ofNat kk)), .val (.int (Int32.ofNat sn)), .val (.int (Int32.ofNat en)), .val (.int r), .val (.int (1 : Int32)), .val (.int (0 : Int32)), .unset, .unset] at_1010 rfl rfl ?_
            refine own_iload 1014 Y at_1012 rfl rfl ?_
            refine own_ifF 1017 Y at_1014 (XT.i0_eq_f (by decide)) rfl ?_
            refine own_iload 1019 Y at_1017 rfl rfl ?_
            refine own_ifT 1032 Y at_1019 (XT.i0_eq_t (by decide)) (by decide) ?_
            refine own_iconst 1033 Y (0 : Int32) at_1032 rfl rfl ?_
            refine own_istore 1035 Y #[.val (.int x0), .val (.int x1), .val (.long x2), .second, .val (.int x3), .val (.int x4), .val (.int x5), .val (.ref pa), .val (.int (Int32.ofNat wn)), .val (.long (Int64.ofNat vn)), .second, .val (.ref t), .val (.int pr), .val (.int po), .val (.int qq), .val (.int xx), .val (.int m1), .val (.int m2), .val (.int k0), .val (.int ms), .val (.int mk), .val (.int mm), .val (.int es), .val (.int (Int32.ofNat kk)), .val (.int (Int32.ofNat sn)), .val (.int (Int32.ofNat en)), .val (.int r), .val (.int (1 : Int32)), .val (.int (0 : Int32)), .val (.int (0 : Int32)), .unset] at_1033 rfl rfl ?_
            refine own_lload 1037 Y at_1035 rfl rfl ?_
            refine own_ldc2J 1040 Y (own_wd hw 9 rfl) at_1037 rfl ?_
            refine own_lcmp 1041 Y at_1040 rfl ?_
            refine own_if_le 1049 1044 Y at_1041 (by decide) rfl (fun q1041 => ?_) (fun q1041 => ?_)
            · refine own_iconst 1050 Y (1 : Int32) at_1049 rfl rfl ?_
              refine own_goto 1054 Y at_1050 (by decide) ?_
              refine own_istore 1056 Y #[.val (.int x0), .val (.int x1), .val (.long x2), .second, .val (.int x3), .val (.int x4), .val (.int x5), .val (.ref pa), .val (.int (Int32.ofNat wn)), .val (.long (Int64.ofNat vn)), .second, .val (.ref t), .val (.int pr), .val (.int po), .val (.int qq), .val (.int xx), .val (.int m1), .val (.int m2), .val (.int k0), .val (.int ms), .val (.int mk), .val (.int mm), .val (.int es), .val (.int (Int32.ofNat kk)), .val (.int (Int32.ofNat sn)), .val (.int (Int32.ofNat en)), .val (.int r), .val (.int (1 : Int32)), .val (.int (0 : Int32)), .val (.int (0 : Int32)), .val (.int (1 : Int32))] at_1054 rfl rfl ?_
              refine own_iload 1058 Y at_1056 rfl rfl ?_
              refine own_iload 1060 Y at_1058 rfl rfl ?_
              refine own_icF 1063 Y at_1060 (XT.ii_ne_f (hres.2 (fun z => q1041 (own_lcgt.mpr ((own_qlt (by decide) hv2).mpr z.1))))) rfl ?_
              refine own_iconst 1064 Y (1 : Int32) at_1063 rfl rfl ?_
              refine own_goto 1068 Y at_1064 (by decide) ?_
              exact own_retN Y (t := .boolean) rfl (by simp) at_1068 hkc hks ⟨rfl, N⟩
            · refine own_iload 1046 Y at_1044 rfl rfl ?_
              refine own_ifF 1049 Y at_1046 (XT.i0_ne_f (by decide)) rfl ?_
              refine own_iconst 1050 Y (1 : Int32) at_1049 rfl rfl ?_
              refine own_goto 1054 Y at_1050 (by decide) ?_
              refine own_istore 1056 Y #[.val (.int x0), .val (.int x1), .val (.long x2), .second, .val (.int x3), .val (.int x4), .val (.int x5), .val (.ref pa), .val (.int (Int32.ofNat wn)), .val (.long (Int64.ofNat vn)), .second, .val (.ref t), .val (.int pr), .val (.int po), .val (.int qq), .val (.int xx), .val (.int m1), .val (.int m2), .val (.int k0), .val (.int ms), .val (.int mk), .val (.int mm), .val (.int es), .val (.int (Int32.ofNat kk)), .val (.int (Int32.ofNat sn)), .val (.int (Int32.ofNat en)), .val (.int r), .val (.int (1 : Int32)), .val (.int (0 : Int32)), .val (.int (0 : Int32)), .val (.int (1 : Int32))] at_1054 rfl rfl ?_
              refine own_iload 1058 Y at_1056 rfl rfl ?_
              refine own_iload 1060 Y at_1058 rfl rfl ?_
              refine own_icF 1063 Y at_1060 (XT.ii_ne_f (hres.2 (fun z => z.2.2.1.2.1 q996))) rfl ?_
              refine own_iconst 1064 Y (1 : Int32) at_1063 rfl rfl ?_
              refine own_goto 1068 Y at_1064 (by decide) ?_
              exact own_retN Y (t := .boolean) rfl (by simp) at_1068 hkc hks ⟨rfl, N⟩
          · refine own_iload 1001 Y at_999 rfl rfl ?_
            refine own_iconst 1002 Y (4 : Int32) at_1001 rfl rfl ?_
            refine own_ic_gt 1009 1005 Y at_1002 (by decide) rfl (fun q1002 => ?_) (fun q1002 => ?_)
            · refine own_iconst 1010 Y (0 : Int32) at_1009 rfl rfl ?_
              refine own_istore 1012 Y #[.val (.int x0), .val (.int x1), .val (.long x2), .second, .val (.int x3), .val (.int x4), .val (.int x5), .val (.ref pa), .val (.int (Int32.ofNat wn)), .val (.long (Int64.ofNat vn)), .second, .val (.ref t), .val (.int pr), .val (.int po), .val (.int qq), .val (.int xx), .val (.int m1), .val (.int m2), .val (.int k0), .val (.int ms), .val (.int mk), .val (.int mm), .val (.int es), .val (.int (Int32.ofNat kk)), .val (.int (Int32.ofNat sn)), .val (.int (Int32.ofNat en)), .val (.int r), .val (.int (1 : Int32)), .val (.int (0 : Int32)), .unset, .unset] at_1010 rfl rfl ?_
              refine own_iload 1014 Y at_1012 rfl rfl ?_
              refine own_ifF 1017 Y at_1014 (XT.i0_eq_f (by decide)) rfl ?_
              refine own_iload 1019 Y at_1017 rfl rfl ?_
              refine own_ifT 1032 Y at_1019 (XT.i0_eq_t (by decide)) (by decide) ?_
              refine own_iconst 1033 Y (0 : Int32) at_1032 rfl rfl ?_
              refine own_istore 1035 Y #[.val (.int x0), .val (.int x1), .val (.long x2), .second, .val (.int x3), .val (.int x4), .val (.int x5), .val (.ref pa), .val (.int (Int32.ofNat wn)), .val (.long (Int64.ofNat vn)), .second, .val (.ref t), .val (.int pr), .val (.int po), .val (.int qq), .val (.int xx), .val (.int m1), .val (.int m2), .val (.int k0), .val (.int ms), .val (.int mk), .val (.int mm), .val (.int es), .val (.int (Int32.ofNat kk)), .val (.int (Int32.ofNat sn)), .val (.int (Int32.ofNat en)), .val (.int r), .val (.int (1 : Int32)), .val (.int (0 : Int32)), .val (.int (0 : Int32)), .unset] at_1033 rfl rfl ?_
              refine own_lload 1037 Y at_1035 rfl rfl ?_
              refine own_ldc2J 1040 Y (own_wd hw 9 rfl) at_1037 rfl ?_
              refine own_lcmp 1041 Y at_1040 rfl ?_
              refine own_if_le 1049 1044 Y at_1041 (by decide) rfl (fun q1041 => ?_) (fun q1041 => ?_)
              · refine own_iconst 1050 Y (1 : Int32) at_1049 rfl rfl ?_
                refine own_goto 1054 Y at_1050 (by decide) ?_
                refine own_istore 1056 Y #[.val (.int x0), .val (.int x1), .val (.long x2), .second, .val (.int x3), .val (.int x4), .val (.int x5), .val (.ref pa), .val (.int (Int32.ofNat wn)), .val (.long (Int64.ofNat vn)), .second, .val (.ref t), .val (.int pr), .val (.int po), .val (.int qq), .val (.int xx), .val (.int m1), .val (.int m2), .val (.int k0), .val (.int ms), .val (.int mk), .val (.int mm), .val (.int es), .val (.int (Int32.ofNat kk)), .val (.int (Int32.ofNat sn)), .val (.int (Int32.ofNat en)), .val (.int r), .val (.int (1 : Int32)), .val (.int (0 : Int32)), .val (.int (0 : Int32)), .val (.int (1 : Int32))] at_1054 rfl rfl ?_
                refine own_iload 1058 Y at_1056 rfl rfl ?_
                refine own_iload 1060 Y at_1058 rfl rfl ?_
                refine own_icF 1063 Y at_1060 (XT.ii_ne_f (hres.2 (fun z => q1041 (own_lcgt.mpr ((own_qlt (by decide) hv2).mpr z.1))))) rfl ?_
                refine own_iconst 1064 Y (1 : Int32) at_1063 rfl rfl ?_
                refine own_goto 1068 Y at_1064 (by decide) ?_
                exact own_retN Y (t := .boolean) rfl (by simp) at_1068 hkc hks ⟨rfl, N⟩
              · refine own_iload 1046 Y at_1044 rfl rfl ?_
                refine own_ifF 1049 Y at_1046 (XT.i0_ne_f (by decide)) rfl ?_
                refine own_iconst 1050 Y (1 : Int32) at_1049 rfl rfl ?_
                refine own_goto 1054 Y at_1050 (by decide) ?_
                refine own_istore 1056 Y #[.val (.int x0), .val (.int x1), .val (.long x2), .second, .val (.int x3), .val (.int x4), .val (.int x5), .val (.ref pa), .val (.int (Int32.ofNat wn)), .val (.long (Int64.ofNat vn)), .second, .val (.ref t), .val (.int pr), .val (.int po), .val (.int qq), .val (.int xx), .val (.int m1), .val (.int m2), .val (.int k0), .val (.int ms), .val (.int mk), .val (.int mm), .val (.int es), .val (.int (Int32.ofNat kk)), .val (.int (Int32.ofNat sn)), .val (.int (Int32.ofNat en)), .val (.int r), .val (.int (1 : Int32)), .val (.int (0 : Int32)), .val (.int (0 : Int32)), .val (.int (1 : Int32))] at_1054 rfl rfl ?_
                refine own_iload 1058 Y at_1056 rfl rfl ?_
                refine own_iload 1060 Y at_1058 rfl rfl ?_
                refine own_icF 1063 Y at_1060 (XT.ii_ne_f (hres.2 (fun z => z.2.2.1.2.2 q1002))) rfl ?_
                refine own_iconst 1064 Y (1 : Int32) at_1063 rfl rfl ?_
                refine own_goto 1068 Y at_1064 (by decide) ?_
                exact own_retN Y (t := .boolean) rfl (by simp) at_1068 hkc hks ⟨rfl, N⟩
            · refine own_iconst 1006 Y (1 : Int32) at_1005 rfl rfl ?_
              refine own_goto 1010 Y at_1006 (by decide) ?_
              refine own_istore 1012 Y #[.val (.int x0), .val (.int x1), .val (.long x2), .second, .val (.int x3), .val (.int x4), .val (.int x5), .val (.ref pa), .val (.int (Int32.ofNat wn)), .val (.long (Int64.ofNat vn)), .second, .val (.ref t), .val (.int pr), .val (.int po), .val (.int qq), .val (.int xx), .val (.int m1), .val (.int m2), .val (.int k0), .val (.int ms), .val (.int mk), .val (.int mm), .val (.int es), .val (.int (Int32.ofNat kk)), .val (.int (Int32.ofNat sn)), .val (.int (Int32.ofNat en)), .val (.int r), .val (.int (1 : Int32)), .val (.int (1 : Int32)), .unset, .unset] at_1010 rfl rfl ?_
              refine own_iload 1014 Y at_1012 rfl rfl ?_
              refine own_ifF 1017 Y at_1014 (XT.i0_eq_f (by decide)) rfl ?_
              refine own_iload 1019 Y at_1017 rfl rfl ?_
              refine own_ifF 1022 Y at_1019 (XT.i0_eq_f (by decide)) rfl ?_
              refine own_iload 1024 Y at_1022 rfl rfl ?_
              refine own_iconst 1025 Y (3 : Int32) at_1024 rfl rfl ?_
              refine own_ic_eq 1032 1028 Y at_1025 (by decide) rfl (fun q1025 => ?_) (fun q1025 => ?_)
              · refine own_iconst 1033 Y (0 : Int32) at_1032 rfl rfl ?_
                refine own_istore 1035 Y #[.val (.int x0), .val (.int x1), .val (.long x2), .second, .val (.int x3), .val (.int x4), .val (.int x5), .val (.ref pa), .val (.int (Int32.ofNat wn)), .val (.long (Int64.ofNat vn)), .second, .val (.ref t), .val (.int pr), .val (.int po), .val (.int qq), .val (.int xx), .val (.int m1), .val (.int m2), .val (.int k0), .val (.int ms), .val (.int mk), .val (.int mm), .val (.int es), .val (.int (Int32.ofNat kk)), .val (.int (Int32.ofNat sn)), .val (.int (Int32.ofNat en)), .val (.int r), .val (.int (1 : Int32)), .val (.int (1 : Int32)), .val (.int (0 : Int32)), .unset] at_1033 rfl rfl ?_
                refine own_lload 1037 Y at_1035 rfl rfl ?_
                refine own_ldc2J 1040 Y (own_wd hw 9 rfl) at_1037 rfl ?_
                refine own_lcmp 1041 Y at_1040 rfl ?_
                refine own_if_le 1049 1044 Y at_1041 (by decide) rfl (fun q1041 => ?_) (fun q1041 => ?_)
                · refine own_iconst 1050 Y (1 : Int32) at_1049 rfl rfl ?_
                  refine own_goto 1054 Y at_1050 (by decide) ?_
                  refine own_istore 1056 Y #[.val (.int x0), .val (.int x1), .val (.long x2), .second, .val (.int x3), .val (.int x4), .val (.int x5), .val (.ref pa), .val (.int (Int32.ofNat wn)), .val (.long (Int64.ofNat vn)), .second, .val (.ref t), .val (.int pr), .val (.int po), .val (.int qq), .val (.int xx), .val (.int m1), .val (.int m2), .val (.int k0), .val (.int ms), .val (.int mk), .val (.int mm), .val (.int es), .val (.int (Int32.ofNat kk)), .val (.int (Int32.ofNat sn)), .val (.int (Int32.ofNat en)), .val (.int r), .val (.int (1 : Int32)), .val (.int (1 : Int32)), .val (.int (0 : Int32)), .val (.int (1 : Int32))] at_1054 rfl rfl ?_
                  refine own_iload 1058 Y at_1056 rfl rfl ?_
                  refine own_iload 1060 Y at_1058 rfl rfl ?_
                  refine own_icF 1063 Y at_1060 (XT.ii_ne_f (hres.2 (fun z => q1041 (own_lcgt.mpr ((own_qlt (by decide) hv2).mpr z.1))))) rfl ?_
                  refine own_iconst 1064 Y (1 : Int32) at_1063 rfl rfl ?_
                  refine own_goto 1068 Y at_1064 (by decide) ?_
                  exact own_retN Y (t := .boolean) rfl (by simp) at_1068 hkc hks ⟨rfl, N⟩
                · refine own_iload 1046 Y at_1044 rfl rfl ?_
                  refine own_ifF 1049 Y at_1046 (XT.i0_ne_f (by decide)) rfl ?_
                  refine own_iconst 1050 Y (1 : Int32) at_1049 rfl rfl ?_
                  refine own_goto 1054 Y at_1050 (by decide) ?_
                  refine own_istore 1056 Y #[.val (.int x0), .val (.int x1), .val (.long x2), .second, .val (.int x3), .val (.int x4), .val (.int x5), .val (.ref pa), .val (.int (Int32.ofNat wn)), .val (.long (Int64.ofNat vn)), .second, .val (.ref t), .val (.int pr), .val (.int po), .val (.int qq), .val (.int xx), .val (.int m1), .val (.int m2), .val (.int k0), .val (.int ms), .val (.int mk), .val (.int mm), .val (.int es), .val (.int (Int32.ofNat kk)), .val (.int (Int32.ofNat sn)), .val (.int (Int32.ofNat en)), .val (.int r), .val (.int (1 : Int32)), .val (.int (1 : Int32)), .val (.int (0 : Int32)), .val (.int (1 : Int32))] at_1054 rfl rfl ?_
                  refine own_iload 1058 Y at_1056 rfl rfl ?_
                  refine own_iload 1060 Y at_1058 rfl rfl ?_
                  refine own_icF 1063 Y at_1060 (XT.ii_ne_f (hres.2 (fun z => z.2.2.2 q1025))) rfl ?_
                  refine own_iconst 1064 Y (1 : Int32) at_1063 rfl rfl ?_
                  refine own_goto 1068 Y at_1064 (by decide) ?_
                  exact own_retN Y (t := .boolean) rfl (by simp) at_1068 hkc hks ⟨rfl, N⟩
              · refine own_iconst 1029 Y (1 : Int32) at_1028 rfl rfl ?_
                refine own_goto 1033 Y at_1029 (by decide) ?_
                refine own_istore 1035 Y #[.val (.int x0), .val (.int x1), .val (.long x2), .second, .val (.int x3), .val (.int x4), .val (.int x5), .val (.ref pa), .val (.int (Int32.ofNat wn)), .val (.long (Int64.ofNat vn)), .second, .val (.ref t), .val (.int pr), .val (.int po), .val (.int qq), .val (.int xx), .val (.int m1), .val (.int m2), .val (.int k0), .val (.int ms), .val (.int mk), .val (.int mm), .val (.int es), .val (.int (Int32.ofNat kk)), .val (.int (Int32.ofNat sn)), .val (.int (Int32.ofNat en)), .val (.int r), .val (.int (1 : Int32)), .val (.int (1 : Int32)), .val (.int (1 : Int32)), .unset] at_1033 rfl rfl ?_
                refine own_lload 1037 Y at_1035 rfl rfl ?_
                refine own_ldc2J 1040 Y (own_wd hw 9 rfl) at_1037 rfl ?_
                refine own_lcmp 1041 Y at_1040 rfl ?_
                refine own_if_le 1049 1044 Y at_1041 (by decide) rfl (fun q1041 => ?_) (fun q1041 => ?_)
                · refine own_iconst 1050 Y (1 : Int32) at_1049 rfl rfl ?_
                  refine own_goto 1054 Y at_1050 (by decide) ?_
                  refine own_istore 1056 Y #[.val (.int x0), .val (.int x1), .val (.long x2), .second, .val (.int x3), .val (.int x4), .val (.int x5), .val (.ref pa), .val (.int (Int32.ofNat wn)), .val (.long (Int64.ofNat vn)), .second, .val (.ref t), .val (.int pr), .val (.int po), .val (.int qq), .val (.int xx), .val (.int m1), .val (.int m2), .val (.int k0), .val (.int ms), .val (.int mk), .val (.int mm), .val (.int es), .val (.int (Int32.ofNat kk)), .val (.int (Int32.ofNat sn)), .val (.int (Int32.ofNat en)), .val (.int r), .val (.int (1 : Int32)), .val (.int (1 : Int32)), .val (.int (1 : Int32)), .val (.int (1 : Int32))] at_1054 rfl rfl ?_
                  refine own_iload 1058 Y at_1056 rfl rfl ?_
                  refine own_iload 1060 Y at_1058 rfl rfl ?_
                  refine own_icF 1063 Y at_1060 (XT.ii_ne_f (hres.2 (fun z => q1041 (own_lcgt.mpr ((own_qlt (by decide) hv2).mpr z.1))))) rfl ?_
                  refine own_iconst 1064 Y (1 : Int32) at_1063 rfl rfl ?_
                  refine own_goto 1068 Y at_1064 (by decide) ?_
                  exact own_retN Y (t := .boolean) rfl (by simp) at_1068 hkc hks ⟨rfl, N⟩
                · refine own_iload 1046 Y at_1044 rfl rfl ?_
                  refine own_ifT 1053 Y at_1046 (XT.i0_ne_t (by decide)) (by decide) ?_
                  refine own_iconst 1054 Y (0 : Int32) at_1053 rfl rfl ?_
                  refine own_istore 1056 Y #[.val (.int x0), .val (.int x1), .val (.long x2), .second, .val (.int x3), .val (.int x4), .val (.int x5), .val (.ref pa), .val (.int (Int32.ofNat wn)), .val (.long (Int64.ofNat vn)), .second, .val (.ref t), .val (.int pr), .val (.int po), .val (.int qq), .val (.int xx), .val (.int m1), .val (.int m2), .val (.int k0), .val (.int ms), .val (.int mk), .val (.int mm), .val (.int es), .val (.int (Int32.ofNat kk)), .val (.int (Int32.ofNat sn)), .val (.int (Int32.ofNat en)), .val (.int r), .val (.int (1 : Int32)), .val (.int (1 : Int32)), .val (.int (1 : Int32)), .val (.int (0 : Int32))] at_1054 rfl rfl ?_
                  refine own_iload 1058 Y at_1056 rfl rfl ?_
                  refine own_iload 1060 Y at_1058 rfl rfl ?_
                  refine own_icF 1063 Y at_1060 (XT.ii_ne_f (hres.1 ⟨(own_qlt (by decide) hv2).mp (own_lcgt.mp q1041), ⟨q957, Or.inr (Or.inl q970)⟩, ⟨q990, q996, q1002⟩, q1025⟩)) rfl ?_
                  refine own_iconst 1064 Y (1 : Int32) at_1063 rfl rfl ?_
                  refine own_goto 1068 Y at_1064 (by decide) ?_
                  exact own_retN Y (t := .boolean) rfl (by simp) at_1068 hkc hks ⟨rfl, N⟩
      · refine own_iload 975 Y at_973 rfl rfl ?_
        refine own_bipush 977 Y (69 : Int32) at_975 rfl rfl ?_
        refine own_ic_ne 984 980 Y at_977 (by decide) rfl (fun q977 => ?_) (fun q977 => ?_)
        · refine own_iconst 985 Y (0 : Int32) at_984 rfl rfl ?_
          refine own_istore 987 Y #[.val (.int x0), .val (.int x1), .val (.long x2), .second, .val (.int x3), .val (.int x4), .val (.int x5), .val (.ref pa), .val (.int (Int32.ofNat wn)), .val (.long (Int64.ofNat vn)), .second, .val (.ref t), .val (.int pr), .val (.int po), .val (.int qq), .val (.int xx), .val (.int m1), .val (.int m2), .val (.int k0), .val (.int ms), .val (.int mk), .val (.int mm), .val (.int es), .val (.int (Int32.ofNat kk)), .val (.int (Int32.ofNat sn)), .val (.int (Int32.ofNat en)), .val (.int r), .val (.int (0 : Int32)), .unset, .unset, .unset] at_985 rfl rfl ?_
          refine own_iload 989 Y at_987 rfl rfl ?_
          refine own_iconst 990 Y (3 : Int32) at_989 rfl rfl ?_
          refine own_ic_eq 1009 993 Y at_990 (by decide) rfl (fun q990 => ?_) (fun q990 => ?_)
          · refine own_iconst 1010 Y (0 : Int32) at_1009 rfl rfl ?_
            refine own_istore 1012 Y #[.val (.int x0), .val (.int x1), .val (.long x2), .second, .val (.int x3), .val (.int x4), .val (.int x5), .val (.ref pa), .val (.int (Int32.ofNat wn)), .val (.long (Int64.ofNat vn)), .second, .val (.ref t), .val (.int pr), .val (.int po), .val (.int qq), .val (.int xx), .val (.int m1), .val (.int m2), .val (.int k0), .val (.int ms), .val (.int mk), .val (.int mm), .val (.int es), .val (.int (Int32.ofNat kk)), .val (.int (Int32.ofNat sn)), .val (.int (Int32.ofNat en)), .val (.int r), .val (.int (0 : Int32)), .val (.int (0 : Int32)), .unset, .unset] at_1010 rfl rfl ?_
            refine own_iload 1014 Y at_1012 rfl rfl ?_
            refine own_ifT 1032 Y at_1014 (XT.i0_eq_t (by decide)) (by decide) ?_
            refine own_iconst 1033 Y (0 : Int32) at_1032 rfl rfl ?_
            refine own_istore 1035 Y #[.val (.int x0), .val (.int x1), .val (.long x2), .second, .val (.int x3), .val (.int x4), .val (.int x5), .val (.ref pa), .val (.int (Int32.ofNat wn)), .val (.long (Int64.ofNat vn)), .second, .val (.ref t), .val (.int pr), .val (.int po), .val (.int qq), .val (.int xx), .val (.int m1), .val (.int m2), .val (.int k0), .val (.int ms), .val (.int mk), .val (.int mm), .val (.int es), .val (.int (Int32.ofNat kk)), .val (.int (Int32.ofNat sn)), .val (.int (Int32.ofNat en)), .val (.int r), .val (.int (0 : Int32)), .val (.int (0 : Int32)), .val (.int (0 : Int32)), .unset] at_1033 rfl rfl ?_
            refine own_lload 1037 Y at_1035 rfl rfl ?_
            refine own_ldc2J 1040 Y (own_wd hw 9 rfl) at_1037 rfl ?_
            refine own_lcmp 1041 Y at_1040 rfl ?_
            refine own_if_le 1049 1044 Y at_1041 (by decide) rfl (fun q1041 => ?_) (fun q1041 => ?_)
            · refine own_iconst 1050 Y (1 : Int32) at_1049 rfl rfl ?_
              refine own_goto 1054 Y at_1050 (by decide) ?_
              refine own_istore 1056 Y #[.val (.int x0), .val (.int x1), .val (.long x2), .second, .val (.int x3), .val (.int x4), .val (.int x5), .val (.ref pa), .val (.int (Int32.ofNat wn)), .val (.long (Int64.ofNat vn)), .second, .val (.ref t), .val (.int pr), .val (.int po), .val (.int qq), .val (.int xx), .val (.int m1), .val (.int m2), .val (.int k0), .val (.int ms), .val (.int mk), .val (.int mm), .val (.int es), .val (.int (Int32.ofNat kk)), .val (.int (Int32.ofNat sn)), .val (.int (Int32.ofNat en)), .val (.int r), .val (.int (0 : Int32)), .val (.int (0 : Int32)), .val (.int (0 : Int32)), .val (.int (1 : Int32))] at_1054 rfl rfl ?_
              refine own_iload 1058 Y at_1056 rfl rfl ?_
              refine own_iload 1060 Y at_1058 rfl rfl ?_
              refine own_icF 1063 Y at_1060 (XT.ii_ne_f (hres.2 (fun z => q1041 (own_lcgt.mpr ((own_qlt (by decide) hv2).mpr z.1))))) rfl ?_
              refine own_iconst 1064 Y (1 : Int32) at_1063 rfl rfl ?_
              refine own_goto 1068 Y at_1064 (by decide) ?_
              exact own_retN Y (t := .boolean) rfl (by simp) at_1068 hkc hks ⟨rfl, N⟩
            · refine own_iload 1046 Y at_1044 rfl rfl ?_
              refine own_ifF 1049 Y at_1046 (XT.i0_ne_f (by decide)) rfl ?_
              refine own_iconst 1050 Y (1 : Int32) at_1049 rfl rfl ?_
              refine own_goto 1054 Y at_1050 (by decide) ?_
              refine own_istore 1056 Y #[.val (.int x0), .val (.int x1), .val (.long x2), .second, .val (.int x3), .val (.int x4), .val (.int x5), .val (.ref pa), .val (.int (Int32.ofNat wn)), .val (.long (Int64.ofNat vn)), .second, .val (.ref t), .val (.int pr), .val (.int po), .val (.int qq), .val (.int xx), .val (.int m1), .val (.int m2), .val (.int k0), .val (.int ms), .val (.int mk), .val (.int mm), .val (.int es), .val (.int (Int32.ofNat kk)), .val (.int (Int32.ofNat sn)), .val (.int (Int32.ofNat en)), .val (.int r), .val (.int (0 : Int32)), .val (.int (0 : Int32)), .val (.int (0 : Int32)), .val (.int (1 : Int32))] at_1054 rfl rfl ?_
              refine own_iload 1058 Y at_1056 rfl rfl ?_
              refine own_iload 1060 Y at_1058 rfl rfl ?_
              refine own_icF 1063 Y at_1060 (XT.ii_ne_f (hres.2 (fun z => z.2.1.2.elim (fun u => u q963) (fun u => u.elim q970 q977)))) rfl ?_
              refine own_iconst 1064 Y (1 : Int32) at_1063 rfl rfl ?_
              refine own_goto 1068 Y at_1064 (by decide) ?_
              exact own_retN Y (t := .boolean) rfl (by simp) at_1068 hkc hks ⟨rfl, N⟩
          · refine own_iload 995 Y at_993 rfl rfl ?_
            refine own_iconst 996 Y (1 : Int32) at_995 rfl rfl ?_
            refine own_ic_lt 1009 999 Y at_996 (by decide) rfl (fun q996 => ?_) (fun q996 => ?_)
            · refine own_iconst 1010 Y (0 : Int32) at_1009 rfl rfl ?_
              refine own_istore 1012 Y #[.val (.int x0), .val (.int x1), .val (.long x2), .second, .val (.int x3), .val (.int x4), .val (.int x5), .val (.ref pa), .val (.int (Int32.ofNat wn)), .val (.long (Int64.ofNat vn)), .second, .val (.ref t), .val (.int pr), .val (.int po), .val (.int qq), .val (.int xx), .val (.int m1), .val (.int m2), .val (.int k0), .val (.int ms), .val (.int mk), .val (.int mm), .val (.int es), .val (.int (Int32.ofNat kk)), .val (.int (Int32.ofNat sn)), .val (.int (Int32.ofNat en)), .val (.int r), .val (.int (0 : Int32)), .val (.int (0 : Int32)), .unset, .unset] at_1010 rfl rfl ?_
              refine own_iload 1014 Y at_1012 rfl rfl ?_
              refine own_ifT 1032 Y at_1014 (XT.i0_eq_t (by decide)) (by decide) ?_
              refine own_iconst 1033 Y (0 : Int32) at_1032 rfl rfl ?_
              refine own_istore 1035 Y #[.val (.int x0), .val (.int x1), .val (.long x2), .second, .val (.int x3), .val (.int x4), .val (.int x5), .val (.ref pa), .val (.int (Int32.ofNat wn)), .val (.long (Int64.ofNat vn)), .second, .val (.ref t), .val (.int pr), .val (.int po), .val (.int qq), .val (.int xx), .val (.int m1), .val (.int m2), .val (.int k0), .val (.int ms), .val (.int mk), .val (.int mm), .val (.int es), .val (.int (Int32.ofNat kk)), .val (.int (Int32.ofNat sn)), .val (.int (Int32.ofNat en)), .val (.int r), .val (.int (0 : Int32)), .val (.int (0 : Int32)), .val (.int (0 : Int32)), .unset] at_1033 rfl rfl ?_
              refine own_lload 1037 Y at_1035 rfl rfl ?_
              refine own_ldc2J 1040 Y (own_wd hw 9 rfl) at_1037 rfl ?_
              refine own_lcmp 1041 Y at_1040 rfl ?_
              refine own_if_le 1049 1044 Y at_1041 (by decide) rfl (fun q1041 => ?_) (fun q1041 => ?_)
              · refine own_iconst 1050 Y (1 : Int32) at_1049 rfl rfl ?_
                refine own_goto 1054 Y at_1050 (by decide) ?_
                refine own_istore 1056 Y #[.val (.int x0), .val (.int x1), .val (.long x2), .second, .val (.int x3), .val (.int x4), .val (.int x5), .val (.ref pa), .val (.int (Int32.ofNat wn)), .val (.long (Int64.ofNat vn)), .second, .val (.ref t), .val (.int pr), .val (.int po), .val (.int qq), .val (.int xx), .val (.int m1), .val (.int m2), .val (.int k0), .val (.int ms), .val (.int mk), .val (.int mm), .val (.int es), .val (.int (Int32.ofNat kk)), .val (.int (Int32.ofNat sn)), .val (.int (Int32.ofNat en)), .val (.int r), .val (.int (0 : Int32)), .val (.int (0 : Int32)), .val (.int (0 : Int32)), .val (.int (1 : Int32))] at_1054 rfl rfl ?_
                refine own_iload 1058 Y at_1056 rfl rfl ?_
                refine own_iload 1060 Y at_1058 rfl rfl ?_
                refine own_icF 1063 Y at_1060 (XT.ii_ne_f (hres.2 (fun z => q1041 (own_lcgt.mpr ((own_qlt (by decide) hv2).mpr z.1))))) rfl ?_
                refine own_iconst 1064 Y (1 : Int32) at_1063 rfl rfl ?_
                refine own_goto 1068 Y at_1064 (by decide) ?_
                exact own_retN Y (t := .boolean) rfl (by simp) at_1068 hkc hks ⟨rfl, N⟩
              · refine own_iload 1046 Y at_1044 rfl rfl ?_
                refine own_ifF 1049 Y at_1046 (XT.i0_ne_f (by decide)) rfl ?_
                refine own_iconst 1050 Y (1 : Int32) at_1049 rfl rfl ?_
                refine own_goto 1054 Y at_1050 (by decide) ?_
                refine own_istore 1056 Y #[.val (.int x0), .val (.int x1), .val (.long x2), .second, .val (.int x3), .val (.int x4), .val (.int x5), .val (.ref pa), .val (.int (Int32.ofNat wn)), .val (.long (Int64.ofNat vn)), .second, .val (.ref t), .val (.int pr), .val (.int po), .val (.int qq), .val (.int xx), .val (.int m1), .val (.int m2), .val (.int k0), .val (.int ms), .val (.int mk), .val (.int mm), .val (.int es), .val (.int (Int32.ofNat kk)), .val (.int (Int32.ofNat sn)), .val (.int (Int32.ofNat en)), .val (.int r), .val (.int (0 : Int32)), .val (.int (0 : Int32)), .val (.int (0 : Int32)), .val (.int (1 : Int32))] at_1054 rfl rfl ?_
                refine own_iload 1058 Y at_1056 rfl rfl ?_
                refine own_iload 1060 Y at_1058 rfl rfl ?_
                refine own_icF 1063 Y at_1060 (XT.ii_ne_f (hres.2 (fun z => z.2.1.2.elim (fun u => u q963) (fun u => u.elim q970 q977)))) rfl ?_
                refine own_iconst 1064 Y (1 : Int32) at_1063 rfl rfl ?_
                refine own_goto 1068 Y at_1064 (by decide) ?_
                exact own_retN Y (t := .boolean) rfl (by simp) at_1068 hkc hks ⟨rfl, N⟩
            · refine own_iload 1001 Y at_999 rfl rfl ?_
              refine own_iconst 1002 Y (4 : Int32) at_1001 rfl rfl ?_
              refine own_ic_gt 1009 1005 Y at_1002 (by decide) rfl (fun q1002 => ?_) (fun q1002 => ?_)
              · refine own_iconst 1010 Y (0 : Int32) at_1009 rfl rfl ?_
                refine own_istore 1012 Y #[.val (.int x0), .val (.int x1), .val (.long x2), .second, .val (.int x3), .val (.int x4), .val (.int x5), .val (.ref pa), .val (.int (Int32.ofNat wn)), .val (.long (Int64.ofNat vn)), .second, .val (.ref t), .val (.int pr), .val (.int po), .val (.int qq), .val (.int xx), .val (.int m1), .val (.int m2), .val (.int k0), .val (.int ms), .val (.int mk), .val (.int mm), .val (.int es), .val (.int (Int32.ofNat kk)), .val (.int (Int32.ofNat sn)), .val (.int (Int32.ofNat en)), .val (.int r), .val (.int (0 : Int32)), .val (.int (0 : Int32)), .unset, .unset] at_1010 rfl rfl ?_
                refine own_iload 1014 Y at_1012 rfl rfl ?_
                refine own_ifT 1032 Y at_1014 (XT.i0_eq_t (by decide)) (by decide) ?_
                refine own_iconst 1033 Y (0 : Int32) at_1032 rfl rfl ?_
                refine own_istore 1035 Y #[.val (.int x0), .val (.int x1), .val (.long x2), .second, .val (.int x3), .val (.int x4), .val (.int x5), .val (.ref pa), .val (.int (Int32.ofNat wn)), .val (.long (Int64.ofNat vn)), .second, .val (.ref t), .val (.int pr), .val (.int po), .val (.int qq), .val (.int xx), .val (.int m1), .val (.int m2), .val (.int k0), .val (.int ms), .val (.int mk), .val (.int mm), .val (.int es), .val (.int (Int32.ofNat kk)), .val (.int (Int32.ofNat sn)), .val (.int (Int32.ofNat en)), .val (.int r), .val (.int (0 : Int32)), .val (.int (0 : Int32)), .val (.int (0 : Int32)), .unset] at_1033 rfl rfl ?_
                refine own_lload 1037 Y at_1035 rfl rfl ?_
                refine own_ldc2J 1040 Y (own_wd hw 9 rfl) at_1037 rfl ?_
                refine own_lcmp 1041 Y at_1040 rfl ?_
                refine own_if_le 1049 1044 Y at_1041 (by decide) rfl (fun q1041 => ?_) (fun q1041 => ?_)
                · refine own_iconst 1050 Y (1 : Int32) at_1049 rfl rfl ?_
                  refine own_goto 1054 Y at_1050 (by decide) ?_
                  refine own_istore 1056 Y #[.val (.int x0), .val (.int x1), .val (.long x2), .second, .val (.int x3), .val (.int x4), .val (.int x5), .val (.ref pa), .val (.int (Int32.ofNat wn)), .val (.long (Int64.ofNat vn)), .second, .val (.ref t), .val (.int pr), .val (.int po), .val (.int qq), .val (.int xx), .val (.int m1), .val (.int m2), .val (.int k0), .val (.int ms), .val (.int mk), .val (.int mm), .val (.int es), .val (.int (Int32.ofNat kk)), .val (.int (Int32.ofNat sn)), .val (.int (Int32.ofNat en)), .val (.int r), .val (.int (0 : Int32)), .val (.int (0 : Int32)), .val (.int (0 : Int32)), .val (.int (1 : Int32))] at_1054 rfl rfl ?_
                  refine own_iload 1058 Y at_1056 rfl rfl ?_
                  refine own_iload 1060 Y at_1058 rfl rfl ?_
                  refine own_icF 1063 Y at_1060 (XT.ii_ne_f (hres.2 (fun z => q1041 (own_lcgt.mpr ((own_qlt (by decide) hv2).mpr z.1))))) rfl ?_
                  refine own_iconst 1064 Y (1 : Int32) at_1063 rfl rfl ?_
                  refine own_goto 1068 Y at_1064 (by decide) ?_
                  exact own_retN Y (t := .boolean) rfl (by simp) at_1068 hkc hks ⟨rfl, N⟩
                · refine own_iload 1046 Y at_1044 rfl rfl ?_
                  refine own_ifF 1049 Y at_1046 (XT.i0_ne_f (by decide)) rfl ?_
                  refine own_iconst 1050 Y (1 : Int32) at_1049 rfl rfl ?_
                  refine own_goto 1054 Y at_1050 (by decide) ?_
                  refine own_istore 1056 Y #[.val (.int x0), .val (.int x1), .val (.long x2), .second, .val (.int x3), .val (.int x4), .val (.int x5), .val (.ref pa), .val (.int (Int32.ofNat wn)), .val (.long (Int64.ofNat vn)), .second, .val (.ref t), .val (.int pr), .val (.int po), .val (.int qq), .val (.int xx), .val (.int m1), .val (.int m2), .val (.int k0), .val (.int ms), .val (.int mk), .val (.int mm), .val (.int es), .val (.int (Int32.ofNat kk)), .val (.int (Int32.ofNat sn)), .val (.int (Int32.ofNat en)), .val (.int r), .val (.int (0 : Int32)), .val (.int (0 : Int32)), .val (.int (0 : Int32)), .val (.int (1 : Int32))] at_1054 rfl rfl ?_
                  refine own_iload 1058 Y at_1056 rfl rfl ?_
                  refine own_iload 1060 Y at_1058 rfl rfl ?_
                  refine own_icF 1063 Y at_1060 (XT.ii_ne_f (hres.2 (fun z => z.2.1.2.elim (fun u => u q963) (fun u => u.elim q970 q977)))) rfl ?_
                  refine own_iconst 1064 Y (1 : Int32) at_1063 rfl rfl ?_
                  refine own_goto 1068 Y at_1064 (by decide) ?_
                  exact own_retN Y (t := .boolean) rfl (by simp) at_1068 hkc hks ⟨rfl, N⟩
              · refine own_iconst 1006 Y (1 : Int32) at_1005 rfl rfl ?_
                refine own_goto 1010 Y at_1006 (by decide) ?_
                refine own_istore 1012 Y #[.val (.int x0), .val (.int x1), .val (.long x2), .second, .val (.int x3), .val (.int x4), .val (.int x5), .val (.ref pa), .val (.int (Int32.ofNat wn)), .val (.long (Int64.ofNat vn)), .second, .val (.ref t), .val (.int pr), .val (.int po), .val (.int qq), .val (.int xx), .val (.int m1), .val (.int m2), .val (.int k0), .val (.int ms), .val (.int mk), .val (.int mm), .val (.int es), .val (.int (Int32.ofNat kk)), .val (.int (Int32.ofNat sn)), .val (.int (Int32.ofNat en)), .val (.int r), .val (.int (0 : Int32)), .val (.int (1 : Int32)), .unset, .unset] at_1010 rfl rfl ?_
                refine own_iload 1014 Y at_1012 rfl rfl ?_
                refine own_ifT 1032 Y at_1014 (XT.i0_eq_t (by decide)) (by decide) ?_
                refine own_iconst 1033 Y (0 : Int32) at_1032 rfl rfl ?_
                refine own_istore 1035 Y #[.val (.int x0), .val (.int x1), .val (.long x2), .second, .val (.int x3), .val (.int x4), .val (.int x5), .val (.ref pa), .val (.int (Int32.ofNat wn)), .val (.long (Int64.ofNat vn)), .second, .val (.ref t), .val (.int pr), .val (.int po), .val (.int qq), .val (.int xx), .val (.int m1), .val (.int m2), .val (.int k0), .val (.int ms), .val (.int mk), .val (.int mm), .val (.int es), .val (.int (Int32.ofNat kk)), .val (.int (Int32.ofNat sn)), .val (.int (Int32.ofNat en)), .val (.int r), .val (.int (0 : Int32)), .val (.int (1 : Int32)), .val (.int (0 : Int32)), .unset] at_1033 rfl rfl ?_
                refine own_lload 1037 Y at_1035 rfl rfl ?_
                refine own_ldc2J 1040 Y (own_wd hw 9 rfl) at_1037 rfl ?_
                refine own_lcmp 1041 Y at_1040 rfl ?_
                refine own_if_le 1049 1044 Y at_1041 (by decide) rfl (fun q1041 => ?_) (fun q1041 => ?_)
                · refine own_iconst 1050 Y (1 : Int32) at_1049 rfl rfl ?_
                  refine own_goto 1054 Y at_1050 (by decide) ?_
                  refine own_istore 1056 Y #[.val (.int x0), .val (.int x1), .val (.long x2), .second, .val (.int x3), .val (.int x4), .val (.int x5), .val (.ref pa), .val (.int (Int32.ofNat wn)), .val (.long (Int64.ofNat vn)), .second, .val (.ref t), .val (.int pr), .val (.int po), .val (.int qq), .val (.int xx), .val (.int m1), .val (.int m2), .val (.int k0), .val (.int ms), .val (.int mk), .val (.int mm), .val (.int es), .val (.int (Int32.ofNat kk)), .val (.int (Int32.ofNat sn)), .val (.int (Int32.ofNat en)), .val (.int r), .val (.int (0 : Int32)), .val (.int (1 : Int32)), .val (.int (0 : Int32)), .val (.int (1 : Int32))] at_1054 rfl rfl ?_
                  refine own_iload 1058 Y at_1056 rfl rfl ?_
                  refine own_iload 1060 Y at_1058 rfl rfl ?_
                  refine own_icF 1063 Y at_1060 (XT.ii_ne_f (hres.2 (fun z => q1041 (own_lcgt.mpr ((own_qlt (by decide) hv2).mpr z.1))))) rfl ?_
                  refine own_iconst 1064 Y (1 : Int32) at_1063 rfl rfl ?_
                  refine own_goto 1068 Y at_1064 (by decide) ?_
                  exact own_retN Y (t := .boolean) rfl (by simp) at_1068 hkc hks ⟨rfl, N⟩
                · refine own_iload 1046 Y at_1044 rfl rfl ?_
                  refine own_ifF 1049 Y at_1046 (XT.i0_ne_f (by decide)) rfl ?_
                  refine own_iconst 1050 Y (1 : Int32) at_1049 rfl rfl ?_
                  refine own_goto 1054 Y at_1050 (by decide) ?_
                  refine own_istore 1056 Y #[.val (.int x0), .val (.int x1), .val (.long x2), .second, .val (.int x3), .val (.int x4), .val (.int x5), .val (.ref pa), .val (.int (Int32.ofNat wn)), .val (.long (Int64.ofNat vn)), .second, .val (.ref t), .val (.int pr), .val (.int po), .val (.int qq), .val (.int xx), .val (.int m1), .val (.int m2), .val (.int k0), .val (.int ms), .val (.int mk), .val (.int mm), .val (.int es), .val (.int (Int32.ofNat kk)), .val (.int (Int32.ofNat sn)), .val (.int (Int32.ofNat en)), .val (.int r), .val (.int (0 : Int32)), .val (.int (1 : Int32)), .val (.int (0 : Int32)), .val (.int (1 : Int32))] at_1054 rfl rfl ?_
                  refine own_iload 1058 Y at_1056 rfl rfl ?_
                  refine own_iload 1060 Y at_1058 rfl rfl ?_
                  refine own_icF 1063 Y at_1060 (XT.ii_ne_f (hres.2 (fun z => z.2.1.2.elim (fun u => u q963) (fun u => u.elim q970 q977)))) rfl ?_
                  refine own_iconst 1064 Y (1 : Int32) at_1063 rfl rfl ?_
                  refine own_goto 1068 Y at_1064 (by decide) ?_
                  exact own_retN Y (t := .boolean) rfl (by simp) at_1068 hkc hks ⟨rfl, N⟩
        · refine own_iconst 981 Y (1 : Int32) at_980 rfl rfl ?_
          refine own_goto 985 Y at_981 (by decide) ?_
          refine own_istore 987 Y #[.val (.int x0), .val (.int x1), .val (.long x2), .second, .val (.int x3), .val (.int x4), .val (.int x5), .val (.ref pa), .val (.int (Int32.ofNat wn)), .val (.long (Int64.ofNat vn)), .second, .val (.ref t), .val (.int pr), .val (.int po), .val (.int qq), .val (.int xx), .val (.int m1), .val (.int m2), .val (.int k0), .val (.int ms), .val (.int mk), .val (.int mm), .val (.int es), .val (.int (Int32.ofNat kk)), .val (.int (Int32.ofNat sn)), .val (.int (Int32.ofNat en)), .val (.int r), .val (.int (1 : Int32)), .unset, .unset, .unset] at_985 rfl rfl ?_
          refine own_iload 989 Y at_987 rfl rfl ?_
          refine own_iconst 990 Y (3 : Int32) at_989 rfl rfl ?_
          refine own_ic_eq 1009 993 Y at_990 (by decide) rfl (fun q990 => ?_) (fun q990 => ?_)
          · refine own_iconst 1010 Y (0 : Int32) at_1009 rfl rfl ?_
            refine own_istore 1012 Y #[.val (.int x0), .val (.int x1), .val (.long x2), .second, .val (.int x3), .val (.int x4), .val (.int x5), .val (.ref pa), .val (.int (Int32.ofNat wn)), .val (.long (Int64.ofNat vn)), .second, .val (.ref t), .val (.int pr), .val (.int po), .val (.int qq), .val (.int xx), .val (.int m1), .val (.int m2), .val (.int k0), .val (.int ms), .val (.int mk), .val (.int mm), .val (.int es), .val (.int (Int32.ofNat kk)), .val (.int (Int32.ofNat sn)), .val (.int (Int32.ofNat en)), .val (.int r), .val (.int (1 : Int32)), .val (.int (0 : Int32)), .unset, .unset] at_1010 rfl rfl ?_
            refine own_iload 1014 Y at_1012 rfl rfl ?_
            refine own_ifF 1017 Y at_1014 (XT.i0_eq_f (by decide)) rfl ?_
            refine own_iload 1019 Y at_1017 rfl rfl ?_
            refine own_ifT 1032 Y at_1019 (XT.i0_eq_t (by decide)) (by decide) ?_
            refine own_iconst 1033 Y (0 : Int32) at_1032 rfl rfl ?_
            refine own_istore 1035 Y #[.val (.int x0), .val (.int x1), .val (.long x2), .second, .val (.int x3), .val (.int x4), .val (.int x5), .val (.ref pa), .val (.int (Int32.ofNat wn)), .val (.long (Int64.ofNat vn)), .second, .val (.ref t), .val (.int pr), .val (.int po), .val (.int qq), .val (.int xx), .val (.int m1), .val (.int m2), .val (.int k0), .val (.int ms), .val (.int mk), .val (.int mm), .val (.int es), .val (.int (Int32.ofNat kk)), .val (.int (Int32.ofNat sn)), .val (.int (Int32.ofNat en)), .val (.int r), .val (.int (1 : Int32)), .val (.int (0 : Int32)), .val (.int (0 : Int32)), .unset] at_1033 rfl rfl ?_
            refine own_lload 1037 Y at_1035 rfl rfl ?_
            refine own_ldc2J 1040 Y (own_wd hw 9 rfl) at_1037 rfl ?_
            refine own_lcmp 1041 Y at_1040 rfl ?_
            refine own_if_le 1049 1044 Y at_1041 (by decide) rfl (fun q1041 => ?_) (fun q1041 => ?_)
            · refine own_iconst 1050 Y (1 : Int32) at_1049 rfl rfl ?_
              refine own_goto 1054 Y at_1050 (by decide) ?_
              refine own_istore 1056 Y #[.val (.int x0), .val (.int x1), .val (.long x2), .second, .val (.int x3), .val (.int x4), .val (.int x5), .val (.ref pa), .val (.int (Int32.ofNat wn)), .val (.long (Int64.ofNat vn)), .second, .val (.ref t), .val (.int pr), .val (.int po), .val (.int qq), .val (.int xx), .val (.int m1), .val (.int m2), .val (.int k0), .val (.int ms), .val (.int mk), .val (.int mm), .val (.int es), .val (.int (Int32.ofNat kk)), .val (.int (Int32.ofNat sn)), .val (.int (Int32.ofNat en)), .val (.int r), .val (.int (1 : Int32)), .val (.int (0 : Int32)), .val (.int (0 : Int32)), .val (.int (1 : Int32))] at_1054 rfl rfl ?_
              refine own_iload 1058 Y at_1056 rfl rfl ?_
              refine own_iload 1060 Y at_1058 rfl rfl ?_
              refine own_icF 1063 Y at_1060 (XT.ii_ne_f (hres.2 (fun z => q1041 (own_lcgt.mpr ((own_qlt (by decide) hv2).mpr z.1))))) rfl ?_
              refine own_iconst 1064 Y (1 : Int32) at_1063 rfl rfl ?_
              refine own_goto 1068 Y at_1064 (by decide) ?_
              exact own_retN Y (t := .boolean) rfl (by simp) at_1068 hkc hks ⟨rfl, N⟩
            · refine own_iload 1046 Y at_1044 rfl rfl ?_
              refine own_ifF 1049 Y at_1046 (XT.i0_ne_f (by decide)) rfl ?_
              refine own_iconst 1050 Y (1 : Int32) at_1049 rfl rfl ?_
              refine own_goto 1054 Y at_1050 (by decide) ?_
              refine own_istore 1056 Y #[.val (.int x0), .val (.int x1), .val (.long x2), .second, .val (.int x3), .val (.int x4), .val (.int x5), .val (.ref pa), .val (.int (Int32.ofNat wn)), .val (.long (Int64.ofNat vn)), .second, .val (.ref t), .val (.int pr), .val (.int po), .val (.int qq), .val (.int xx), .val (.int m1), .val (.int m2), .val (.int k0), .val (.int ms), .val (.int mk), .val (.int mm), .val (.int es), .val (.int (Int32.ofNat kk)), .val (.int (Int32.ofNat sn)), .val (.int (Int32.ofNat en)), .val (.int r), .val (.int (1 : Int32)), .val (.int (0 : Int32)), .val (.int (0 : Int32)), .val (.int (1 : Int32))] at_1054 rfl rfl ?_
              refine own_iload 1058 Y at_1056 rfl rfl ?_
              refine own_iload 1060 Y at_1058 rfl rfl ?_
              refine own_icF 1063 Y at_1060 (XT.ii_ne_f (hres.2 (fun z => z.2.2.1.1 q990))) rfl ?_
              refine own_iconst 1064 Y (1 : Int32) at_1063 rfl rfl ?_
              refine own_goto 1068 Y at_1064 (by decide) ?_
              exact own_retN Y (t := .boolean) rfl (by simp) at_1068 hkc hks ⟨rfl, N⟩
          · refine own_iload 995 Y at_993 rfl rfl ?_
            refine own_iconst 996 Y (1 : Int32) at_995 rfl rfl ?_
            refine own_ic_lt 1009 999 Y at_996 (by decide) rfl (fun q996 => ?_) (fun q996 => ?_)
            · refine own_iconst 1010 Y (0 : Int32) at_1009 rfl rfl ?_
              refine own_istore 1012 Y #[.val (.int x0), .val (.int x1), .val (.long x2), .second, .val (.int x3), .val (.int x4), .val (.int x5), .val (.ref pa), .val (.int (Int32.ofNat wn)), .val (.long (Int64.ofNat vn)), .second, .val (.ref t), .val (.int pr), .val (.int po), .val (.int qq), .val (.int xx), .val (.int m1), .val (.int m2), .val (.int k0), .val (.int ms), .val (.int mk), .val (.int mm), .val (.int es), .val (.int (Int32.ofNat kk)), .val (.int (Int32.ofNat sn)), .val (.int (Int32.ofNat en)), .val (.int r), .val (.int (1 : Int32)), .val (.int (0 : Int32)), .unset, .unset] at_1010 rfl rfl ?_
              refine own_iload 1014 Y at_1012 rfl rfl ?_
              refine own_ifF 1017 Y at_1014 (XT.i0_eq_f (by decide)) rfl ?_
              refine own_iload 1019 Y at_1017 rfl rfl ?_
              refine own_ifT 1032 Y at_1019 (XT.i0_eq_t (by decide)) (by decide) ?_
              refine own_iconst 1033 Y (0 : Int32) at_1032 rfl rfl ?_
              refine own_istore 1035 Y #[.val (.int x0), .val (.int x1), .val (.long x2), .second, .val (.int x3), .val (.int x4), .val (.int x5), .val (.ref pa), .val (.int (Int32.ofNat wn)), .val (.long (Int64.ofNat vn)), .second, .val (.ref t), .val (.int pr), .val (.int po), .val (.int qq), .val (.int xx), .val (.int m1), .val (.int m2), .val (.int k0), .val (.int ms), .val (.int mk), .val (.int mm), .val (.int es), .val (.int (Int32.ofNat kk)), .val (.int (Int32.ofNat sn)), .val (.int (Int32.ofNat en)), .val (.int r), .val (.int (1 : Int32)), .val (.int (0 : Int32)), .val (.int (0 : Int32)), .unset] at_1033 rfl rfl ?_
              refine own_lload 1037 Y at_1035 rfl rfl ?_
              refine own_ldc2J 1040 Y (own_wd hw 9 rfl) at_1037 rfl ?_
              refine own_lcmp 1041 Y at_1040 rfl ?_
              refine own_if_le 1049 1044 Y at_1041 (by decide) rfl (fun q1041 => ?_) (fun q1041 => ?_)
              · refine own_iconst 1050 Y (1 : Int32) at_1049 rfl rfl ?_
                refine own_goto 1054 Y at_1050 (by decide) ?_
                refine own_istore 1056 Y #[.val (.int x0), .val (.int x1), .val (.long x2), .second, .val (.int x3), .val (.int x4), .val (.int x5), .val (.ref pa), .val (.int (Int32.ofNat wn)), .val (.long (Int64.ofNat vn)), .second, .val (.ref t), .val (.int pr), .val (.int po), .val (.int qq), .val (.int xx), .val (.int m1), .val (.int m2), .val (.int k0), .val (.int ms), .val (.int mk), .val (.int mm), .val (.int es), .val (.int (Int32.ofNat kk)), .val (.int (Int32.ofNat sn)), .val (.int (Int32.ofNat en)), .val (.int r), .val (.int (1 : Int32)), .val (.int (0 : Int32)), .val (.int (0 : Int32)), .val (.int (1 : Int32))] at_1054 rfl rfl ?_
                refine own_iload 1058 Y at_1056 rfl rfl ?_
                refine own_iload 1060 Y at_1058 rfl rfl ?_
                refine own_icF 1063 Y at_1060 (XT.ii_ne_f (hres.2 (fun z => q1041 (own_lcgt.mpr ((own_qlt (by decide) hv2).mpr z.1))))) rfl ?_
                refine own_iconst 1064 Y (1 : Int32) at_1063 rfl rfl ?_
                refine own_goto 1068 Y at_1064 (by decide) ?_
                exact own_retN Y (t := .boolean) rfl (by simp) at_1068 hkc hks ⟨rfl, N⟩
              · refine own_iload 1046 Y at_1044 rfl rfl ?_
                refine own_ifF 1049 Y at_1046 (XT.i0_ne_f (by decide)) rfl ?_
                refine own_iconst 1050 Y (1 : Int32) at_1049 rfl rfl ?_
                refine own_goto 1054 Y at_1050 (by decide) ?_
                refine own_istore 1056 Y #[.val (.int x0), .val (.int x1), .val (.long x2), .second, .val (.int x3), .val (.int x4), .val (.int x5), .val (.ref pa), .val (.int (Int32.ofNat wn)), .val (.long (Int64.ofNat vn)), .second, .val (.ref t), .val (.int pr), .val (.int po), .val (.int qq), .val (.int xx), .val (.int m1), .val (.int m2), .val (.int k0), .val (.int ms), .val (.int mk), .val (.int mm), .val (.int es), .val (.int (Int32.ofNat kk)), .val (.int (Int32.ofNat sn)), .val (.int (Int32.ofNat en)), .val (.int r), .val (.int (1 : Int32)), .val (.int (0 : Int32)), .val (.int (0 : Int32)), .val (.int (1 : Int32))] at_1054 rfl rfl ?_
                refine own_iload 1058 Y at_1056 rfl rfl ?_
                refine own_iload 1060 Y at_1058 rfl rfl ?_
                refine own_icF 1063 Y at_1060 (XT.ii_ne_f (hres.2 (fun z => z.2.2.1.2.1 q996))) rfl ?_
                refine own_iconst 1064 Y (1 : Int32) at_1063 rfl rfl ?_
                refine own_goto 1068 Y at_1064 (by decide) ?_
                exact own_retN Y (t := .boolean) rfl (by simp) at_1068 hkc hks ⟨rfl, N⟩
            · refine own_iload 1001 Y at_999 rfl rfl ?_
              refine own_iconst 1002 Y (4 : Int32) at_1001 rfl rfl ?_
              refine own_ic_gt 1009 1005 Y at_1002 (by decide) rfl (fun q1002 => ?_) (fun q1002 => ?_)
              · refine own_iconst 1010 Y (0 : Int32) at_1009 rfl rfl ?_
                refine own_istore 1012 Y #[.val (.int x0), .val (.int x1), .val (.long x2), .second, .val (.int x3), .val (.int x4), .val (.int x5), .val (.ref pa), .val (.int (Int32.ofNat wn)), .val (.long (Int64.ofNat vn)), .second, .val (.ref t), .val (.int pr), .val (.int po), .val (.int qq), .val (.int xx), .val (.int m1), .val (.int m2), .val (.int k0), .val (.int ms), .val (.int mk), .val (.int mm), .val (.int es), .val (.int (Int32.ofNat kk)), .val (.int (Int32.ofNat sn)), .val (.int (Int32.ofNat en)), .val (.int r), .val (.int (1 : Int32)), .val (.int (0 : Int32)), .unset, .unset] at_1010 rfl rfl ?_
                refine own_iload 1014 Y at_1012 rfl rfl ?_
                refine own_ifF 1017 Y at_1014 (XT.i0_eq_f (by decide)) rfl ?_
                refine own_iload 1019 Y at_1017 rfl rfl ?_
                refine own_ifT 1032 Y at_1019 (XT.i0_eq_t (by decide)) (by decide) ?_
                refine own_iconst 1033 Y (0 : Int32) at_1032 rfl rfl ?_
                refine own_istore 1035 Y #[.val (.int x0), .val (.int x1), .val (.long x2), .second, .val (.int x3), .val (.int x4), .val (.int x5), .val (.ref pa), .val (.int (Int32.ofNat wn)), .val (.long (Int64.ofNat vn)), .second, .val (.ref t), .val (.int pr), .val (.int po), .val (.int qq), .val (.int xx), .val (.int m1), .val (.int m2), .val (.int k0), .val (.int ms), .val (.int mk), .val (.int mm), .val (.int es), .val (.int (Int32.ofNat kk)), .val (.int (Int32.ofNat sn)), .val (.int (Int32.ofNat en)), .val (.int r), .val (.int (1 : Int32)), .val (.int (0 : Int32)), .val (.int (0 : Int32)), .unset] at_1033 rfl rfl ?_
                refine own_lload 1037 Y at_1035 rfl rfl ?_
                refine own_ldc2J 1040 Y (own_wd hw 9 rfl) at_1037 rfl ?_
                refine own_lcmp 1041 Y at_1040 rfl ?_
                refine own_if_le 1049 1044 Y at_1041 (by decide) rfl (fun q1041 => ?_) (fun q1041 => ?_)
                · refine own_iconst 1050 Y (1 : Int32) at_1049 rfl rfl ?_
                  refine own_goto 1054 Y at_1050 (by decide) ?_
                  refine own_istore 1056 Y #[.val (.int x0), .val (.int x1), .val (.long x2), .second, .val (.int x3), .val (.int x4), .val (.int x5), .val (.ref pa), .val (.int (Int32.ofNat wn)), .val (.long (Int64.ofNat vn)), .second, .val (.ref t), .val (.int pr), .val (.int po), .val (.int qq), .val (.int xx), .val (.int m1), .val (.int m2), .val (.int k0), .val (.int ms), .val (.int mk), .val (.int mm), .val (.int es), .val (.int (Int32.ofNat kk)), .val (.int (Int32.ofNat sn)), .val (.int (Int32.ofNat en)), .val (.int r), .val (.int (1 : Int32)), .val (.int (0 : Int32)), .val (.int (0 : Int32)), .val (.int (1 : Int32))] at_1054 rfl rfl ?_
                  refine own_iload 1058 Y at_1056 rfl rfl ?_
                  refine own_iload 1060 Y at_1058 rfl rfl ?_
                  refine own_icF 1063 Y at_1060 (XT.ii_ne_f (hres.2 (fun z => q1041 (own_lcgt.mpr ((own_qlt (by decide) hv2).mpr z.1))))) rfl ?_
                  refine own_iconst 1064 Y (1 : Int32) at_1063 rfl rfl ?_
                  refine own_goto 1068 Y at_1064 (by decide) ?_
                  exact own_retN Y (t := .boolean) rfl (by simp) at_1068 hkc hks ⟨rfl, N⟩
                · refine own_iload 1046 Y at_1044 rfl rfl ?_
                  refine own_ifF 1049 Y at_1046 (XT.i0_ne_f (by decide)) rfl ?_
                  refine own_iconst 1050 Y (1 : Int32) at_1049 rfl rfl ?_
                  refine own_goto 1054 Y at_1050 (by decide) ?_
                  refine own_istore 1056 Y #[.val (.int x0), .val (.int x1), .val (.long x2), .second, .val (.int x3), .val (.int x4), .val (.int x5), .val (.ref pa), .val (.int (Int32.ofNat wn)), .val (.long (Int64.ofNat vn)), .second, .val (.ref t), .val (.int pr), .val (.int po), .val (.int qq), .val (.int xx), .val (.int m1), .val (.int m2), .val (.int k0), .val (.int ms), .val (.int mk), .val (.int mm), .val (.int es), .val (.int (Int32.ofNat kk)), .val (.int (Int32.ofNat sn)), .val (.int (Int32.ofNat en)), .val (.int r), .val (.int (1 : Int32)), .val (.int (0 : Int32)), .val (.int (0 : Int32)), .val (.int (1 : Int32))] at_1054 rfl rfl ?_
                  refine own_iload 1058 Y at_1056 rfl rfl ?_
                  refine own_iload 1060 Y at_1058 rfl rfl ?_
                  refine own_icF 1063 Y at_1060 (XT.ii_ne_f (hres.2 (fun z => z.2.2.1.2.2 q1002))) rfl ?_
                  refine own_iconst 1064 Y (1 : Int32) at_1063 rfl rfl ?_
                  refine own_goto 1068 Y at_1064 (by decide) ?_
                  exact own_retN Y (t := .boolean) rfl (by simp) at_1068 hkc hks ⟨rfl, N⟩
              · refine own_iconst 1006 Y (1 : Int32) at_1005 rfl rfl ?_
                refine own_goto 1010 Y at_1006 (by decide) ?_
                refine own_istore 1012 Y #[.val (.int x0), .val (.int x1), .val (.long x2), .second, .val (.int x3), .val (.int x4), .val (.int x5), .val (.ref pa), .val (.int (Int32.ofNat wn)), .val (.long (Int64.ofNat vn)), .second, .val (.ref t), .val (.int pr), .val (.int po), .val (.int qq), .val (.int xx), .val (.int m1), .val (.int m2), .val (.int k0), .val (.int ms), .val (.int mk), .val (.int mm), .val (.int es), .val (.int (Int32.ofNat kk)), .val (.int (Int32.ofNat sn)), .val (.int (Int32.ofNat en)), .val (.int r), .val (.int (1 : Int32)), .val (.int (1 : Int32)), .unset, .unset] at_1010 rfl rfl ?_
                refine own_iload 1014 Y at_1012 rfl rfl ?_
                refine own_ifF 1017 Y at_1014 (XT.i0_eq_f (by decide)) rfl ?_
                refine own_iload 1019 Y at_1017 rfl rfl ?_
                refine own_ifF 1022 Y at_1019 (XT.i0_eq_f (by decide)) rfl ?_
                refine own_iload 1024 Y at_1022 rfl rfl ?_
                refine own_iconst 1025 Y (3 : Int32) at_1024 rfl rfl ?_
                refine own_ic_eq 1032 1028 Y at_1025 (by decide) rfl (fun q1025 => ?_) (fun q1025 => ?_)
                · refine own_iconst 1033 Y (0 : Int32) at_1032 rfl rfl ?_
                  refine own_istore 1035 Y #[.val (.int x0), .val (.int x1), .val (.long x2), .second, .val (.int x3), .val (.int x4), .val (.int x5), .val (.ref pa), .val (.int (Int32.ofNat wn)), .val (.long (Int64.ofNat vn)), .second, .val (.ref t), .val (.int pr), .val (.int po), .val (.int qq), .val (.int xx), .val (.int m1), .val (.int m2), .val (.int k0), .val (.int ms), .val (.int mk), .val (.int mm), .val (.int es), .val (.int (Int32.ofNat kk)), .val (.int (Int32.ofNat sn)), .val (.int (Int32.ofNat en)), .val (.int r), .val (.int (1 : Int32)), .val (.int (1 : Int32)), .val (.int (0 : Int32)), .unset] at_1033 rfl rfl ?_
                  refine own_lload 1037 Y at_1035 rfl rfl ?_
                  refine own_ldc2J 1040 Y (own_wd hw 9 rfl) at_1037 rfl ?_
                  refine own_lcmp 1041 Y at_1040 rfl ?_
                  refine own_if_le 1049 1044 Y at_1041 (by decide) rfl (fun q1041 => ?_) (fun q1041 => ?_)
                  · refine own_iconst 1050 Y (1 : Int32) at_1049 rfl rfl ?_
                    refine own_goto 1054 Y at_1050 (by decide) ?_
                    refine own_istore 1056 Y #[.val (.int x0), .val (.int x1), .val (.long x2), .second, .val (.int x3), .val (.int x4), .val (.int x5), .val (.ref pa), .val (.int (Int32.ofNat wn)), .val (.long (Int64.ofNat vn)), .second, .val (.ref t), .val (.int pr), .val (.int po), .val (.int qq), .val (.int xx), .val (.int m1), .val (.int m2), .val (.int k0), .val (.int ms), .val (.int mk), .val (.int mm), .val (.int es), .val (.int (Int32.ofNat kk)), .val (.int (Int32.ofNat sn)), .val (.int (Int32.ofNat en)), .val (.int r), .val (.int (1 : Int32)), .val (.int (1 : Int32)), .val (.int (0 : Int32)), .val (.int (1 : Int32))] at_1054 rfl rfl ?_
                    refine own_iload 1058 Y at_1056 rfl rfl ?_
                    refine own_iload 1060 Y at_1058 rfl rfl ?_
                    refine own_icF 1063 Y at_1060 (XT.ii_ne_f (hres.2 (fun z => q1041 (own_lcgt.mpr ((own_qlt (by decide) hv2).mpr z.1))))) rfl ?_
                    refine own_iconst 1064 Y (1 : Int32) at_1063 rfl rfl ?_
                    refine own_goto 1068 Y at_1064 (by decide) ?_
                    exact own_retN Y (t := .boolean) rfl (by simp) at_1068 hkc hks ⟨rfl, N⟩
                  · refine own_iload 1046 Y at_1044 rfl rfl ?_
                    refine own_ifF 1049 Y at_1046 (XT.i0_ne_f (by decide)) rfl ?_
                    refine own_iconst 1050 Y (1 : Int32) at_1049 rfl rfl ?_
                    refine own_goto 1054 Y at_1050 (by decide) ?_
                    refine own_istore 1056 Y #[.val (.int x0), .val (.int x1), .val (.long x2), .second, .val (.int x3), .val (.int x4), .val (.int x5), .val (.ref pa), .val (.int (Int32.ofNat wn)), .val (.long (Int64.ofNat vn)), .second, .val (.ref t), .val (.int pr), .val (.int po), .val (.int qq), .val (.int xx), .val (.int m1), .val (.int m2), .val (.int k0), .val (.int ms), .val (.int mk), .val (.int mm), .val (.int es), .val (.int (Int32.ofNat kk)), .val (.int (Int32.ofNat sn)), .val (.int (Int32.ofNat en)), .val (.int r), .val (.int (1 : Int32)), .val (.int (1 : Int32)), .val (.int (0 : Int32)), .val (.int (1 : Int32))] at_1054 rfl rfl ?_
                    refine own_iload 1058 Y at_1056 rfl rfl ?_
                    refine own_iload 1060 Y at_1058 rfl rfl ?_
                    refine own_icF 1063 Y at_1060 (XT.ii_ne_f (hres.2 (fun z => z.2.2.2 q1025))) rfl ?_
                    refine own_iconst 1064 Y (1 : Int32) at_1063 rfl rfl ?_
                    refine own_goto 1068 Y at_1064 (by decide) ?_
                    exact own_retN Y (t := .boolean) rfl (by simp) at_1068 hkc hks ⟨rfl, N⟩
                · refine own_iconst 1029 Y (1 : Int32) at_1028 rfl rfl ?_
                  refine own_goto 1033 Y at_1029 (by decide) ?_
                  refine own_istore 1035 Y #[.val (.int x0), .val (.int x1), .val (.long x2), .second, .val (.int x3), .val (.int x4), .val (.int x5), .val (.ref pa), .val (.int (Int32.ofNat wn)), .val (.long (Int64.ofNat vn)), .second, .val (.ref t), .val (.int pr), .val (.int po), .val (.int qq), .val (.int xx), .val (.int m1), .val (.int m2), .val (.int k0), .val (.int ms), .val (.int mk), .val (.int mm), .val (.int es), .val (.int (Int32.ofNat kk)), .val (.int (Int32.ofNat sn)), .val (.int (Int32.ofNat en)), .val (.int r), .val (.int (1 : Int32)), .val (.int (1 : Int32)), .val (.int (1 : Int32)), .unset] at_1033 rfl rfl ?_
                  refine own_lload 1037 Y at_1035 rfl rfl ?_
                  refine own_ldc2J 1040 Y (own_wd hw 9 rfl) at_1037 rfl ?_
                  refine own_lcmp 1041 Y at_1040 rfl ?_
                  refine own_if_le 1049 1044 Y at_1041 (by decide) rfl (fun q1041 => ?_) (fun q1041 => ?_)
                  · refine own_iconst 1050 Y (1 : Int32) at_1049 rfl rfl ?_
                    refine own_goto 1054 Y at_1050 (by decide) ?_
                    refine own_istore 1056 Y #[.val (.int x0), .val (.int x1), .val (.long x2), .second, .val (.int x3), .val (.int x4), .val (.int x5), .val (.ref pa), .val (.int (Int32.ofNat wn)), .val (.long (Int64.ofNat vn)), .second, .val (.ref t), .val (.int pr), .val (.int po), .val (.int qq), .val (.int xx), .val (.int m1), .val (.int m2), .val (.int k0), .val (.int ms), .val (.int mk), .val (.int mm), .val (.int es), .val (.int (Int32.ofNat kk)), .val (.int (Int32.ofNat sn)), .val (.int (Int32.ofNat en)), .val (.int r), .val (.int (1 : Int32)), .val (.int (1 : Int32)), .val (.int (1 : Int32)), .val (.int (1 : Int32))] at_1054 rfl rfl ?_
                    refine own_iload 1058 Y at_1056 rfl rfl ?_
                    refine own_iload 1060 Y at_1058 rfl rfl ?_
                    refine own_icF 1063 Y at_1060 (XT.ii_ne_f (hres.2 (fun z => q1041 (own_lcgt.mpr ((own_qlt (by decide) hv2).mpr z.1))))) rfl ?_
                    refine own_iconst 1064 Y (1 : Int32) at_1063 rfl rfl ?_
                    refine own_goto 1068 Y at_1064 (by decide) ?_
                    exact own_retN Y (t := .boolean) rfl (by simp) at_1068 hkc hks ⟨rfl, N⟩
                  · refine own_iload 1046 Y at_1044 rfl rfl ?_
                    refine own_ifT 1053 Y at_1046 (XT.i0_ne_t (by decide)) (by decide) ?_
                    refine own_iconst 1054 Y (0 : Int32) at_1053 rfl rfl ?_
                    refine own_istore 1056 Y #[.val (.int x0), .val (.int x1), .val (.long x2), .second, .val (.int x3), .val (.int x4), .val (.int x5), .val (.ref pa), .val (.int (Int32.ofNat wn)), .val (.long (Int64.ofNat vn)), .second, .val (.ref t), .val (.int pr), .val (.int po), .val (.int qq), .val (.int xx), .val (.int m1), .val (.int m2), .val (.int k0), .val (.int ms), .val (.int mk), .val (.int mm), .val (.int es), .val (.int (Int32.ofNat kk)), .val (.int (Int32.ofNat sn)), .val (.int (Int32.ofNat en)), .val (.int r), .val (.int (1 : Int32)), .val (.int (1 : Int32)), .val (.int (1 : Int32)), .val (.int (0 : Int32))] at_1054 rfl rfl ?_
                    refine own_iload 1058 Y at_1056 rfl rfl ?_
                    refine own_iload 1060 Y at_1058 rfl rfl ?_
                    refine own_icF 1063 Y at_1060 (XT.ii_ne_f (hres.1 ⟨(own_qlt (by decide) hv2).mp (own_lcgt.mp q1041), ⟨q957, Or.inr (Or.inr q977)⟩, ⟨q990, q996, q1002⟩, q1025⟩)) rfl ?_
                    refine own_iconst 1064 Y (1 : Int32) at_1063 rfl rfl ?_
                    refine own_goto 1068 Y at_1064 (by decide) ?_
                    exact own_retN Y (t := .boolean) rfl (by simp) at_1068 hkc hks ⟨rfl, N⟩
set_option maxRecDepth 65536 in
set_option maxHeartbeats 4000000 in
theorem c_law (l : Launch) (Z : State) (a0 : Array Value) (hw : ∀ d ∈ tables_1, d.before a0 Z = true) (x0 x1 : Int32) (x2 : Int64) (x3 x4 x5 : Int32) (exa : Addr) (h0 : Heap) (n0 : Nat) (Zs : n0 ≤ h0.size) (O : Old Z n0 h0) (S_ex : Sta Z Z.heap "com/example/cardinal_verbs/cardinalverbs/ReadLimit" "EXPONENT" "Lcom/example/cardinal_verbs/cardinalverbs/ReadLimit;" (.ref exa)) (F_most : Fld Z Z.heap exa "com/example/cardinal_verbs/cardinalverbs/ReadLimit" "most" "I" (.int (1000000000 : Int32))) : own_M l x code maxLocals ret tables_1 room_1 Z #[.int x0, .int x1, .long x2, .int x3, .int x4, .int x5] h0 (Q0 n0) := by
  refine own_met pl0 (Lf := #[.val (.int x0), .val (.int x1), .val (.long x2), .second, .val (.int x3), .val (.int x4), .val (.int x5), .unset, .unset, .unset, .unset, .unset, .unset, .unset, .unset, .unset, .unset, .unset, .unset, .unset, .unset, .unset, .unset, .unset, .unset, .unset, .unset, .unset, .unset, .unset, .unset]) (fun m => by first | (simp [entryFrame, mkF, argsToLocals, Value.category, maxLocals]; done) | rfl) ?_
  intro p e s m below meth c T Y
  have N := Fr.nil n0
  refine own_bipush 2 Y (13 : Int32) at_0 rfl rfl ?_
  refine own_newP 4 Y (own_wd hw 0 rfl) 13 at_2 (by decide) (by decide) (by decide) (by decide) (by decide) rfl fun T1 h1 pa k_pa Y1 g_pa E1 V_pa => ?_
  have gn_pa : n0 ≤ pa := by rw [g_pa]; exact Zs
  have Zs := Nat.le_trans Zs E1.1
  have O := O.ext E1
  have V_pa : Arv Z h1 pa k_pa .long (13 : Int32) [(.long (0 : Int64)), (.long (0 : Int64)), (.long (0 : Int64)), (.long (0 : Int64)), (.long (0 : Int64)), (.long (0 : Int64)), (.long (0 : Int64)), (.long (0 : Int64)), (.long (0 : Int64)), (.long (0 : Int64)), (.long (0 : Int64)), (.long (0 : Int64)), (.long (0 : Int64))] (.long (0 : Int64)) := V_pa.pad (pad_rep [] _ 13)
  refine own_dup 5 Y1 at_4 rfl rfl ?_
  refine own_iconst 6 Y1 (0 : Int32) at_5 rfl rfl ?_
  refine own_lconst 7 Y1 (1 : Int64) at_6 rfl rfl ?_
  refine own_stJ 8 Y1 V_pa at_7 ⟨by decide, by decide⟩ rfl fun T2 h2 Y2 W2 A2 => ?_
  have N := own_frY Y2 N gn_pa
  have Zs := Nat.le_trans Zs (Nat.le_of_eq W2.size.symm)
  have O := O.wr W2 gn_pa
  have V_pa : Arv Z h2 pa k_pa .long (13 : Int32) [(.long (1 : Int64)), (.long (0 : Int64)), (.long (0 : Int64)), (.long (0 : Int64)), (.long (0 : Int64)), (.long (0 : Int64)), (.long (0 : Int64)), (.long (0 : Int64)), (.long (0 : Int64)), (.long (0 : Int64)), (.long (0 : Int64)), (.long (0 : Int64)), (.long (0 : Int64))] (.long (0 : Int64)) := A2 0 rfl (Nat.le_of_ble_eq_true rfl) rfl
  refine own_dup 9 Y2 at_8 rfl rfl ?_
  refine own_iconst 10 Y2 (1 : Int32) at_9 rfl rfl ?_
  refine own_ldc2J 13 Y2 (own_wd hw 1 rfl) at_10 rfl ?_
  refine own_stJ 14 Y2 V_pa at_13 ⟨by decide, by decide⟩ rfl fun T3 h3 Y3 W3 A3 => ?_
  have N := own_frY Y3 N gn_pa
  have Zs := Nat.le_trans Zs (Nat.le_of_eq W3.size.symm)
  have O := O.wr W3 gn_pa
  have V_pa : Arv Z h3 pa k_pa .long (13 : Int32) [(.long (1 : Int64)), (.long (10 : Int64)), (.long (0 : Int64)), (.long (0 : Int64)), (.long (0 : Int64)), (.long (0 : Int64)), (.long (0 : Int64)), (.long (0 : Int64)), (.long (0 : Int64)), (.long (0 : Int64)), (.long (0 : Int64)), (.long (0 : Int64)), (.long (0 : Int64))] (.long (0 : Int64)) := A3 1 rfl (Nat.le_of_ble_eq_true rfl) rfl
  refine own_dup 15 Y3 at_14 rfl rfl ?_
  refine own_iconst 16 Y3 (2 : Int32) at_15 rfl rfl ?_
  refine own_ldc2J 19 Y3 (own_wd hw 2 rfl) at_16 rfl ?_
  refine own_stJ 20 Y3 V_pa at_19 ⟨by decide, by decide⟩ rfl fun T4 h4 Y4 W4 A4 => ?_
  have N := own_frY Y4 N gn_pa
  have Zs := Nat.le_trans Zs (Nat.le_of_eq W4.size.symm)
  have O := O.wr W4 gn_pa
  have V_pa : Arv Z h4 pa k_pa .long (13 : Int32) [(.long (1 : Int64)), (.long (10 : Int64)), (.long (100 : Int64)), (.long (0 : Int64)), (.long (0 : Int64)), (.long (0 : Int64)), (.long (0 : Int64)), (.long (0 : Int64)), (.long (0 : Int64)), (.long (0 : Int64)), (.long (0 : Int64)), (.long (0 : Int64)), (.long (0 : Int64))] (.long (0 : Int64)) := A4 2 rfl (Nat.le_of_ble_eq_true rfl) rfl
  refine own_dup 21 Y4 at_20 rfl rfl ?_
  refine own_iconst 22 Y4 (3 : Int32) at_21 rfl rfl ?_
  refine own_ldc2J 25 Y4 (own_wd hw 3 rfl) at_22 rfl ?_
  refine own_stJ 26 Y4 V_pa at_25 ⟨by decide, by decide⟩ rfl fun T5 h5 Y5 W5 A5 => ?_
  have N := own_frY Y5 N gn_pa
  have Zs := Nat.le_trans Zs (Nat.le_of_eq W5.size.symm)
  have O := O.wr W5 gn_pa
  have V_pa : Arv Z h5 pa k_pa .long (13 : Int32) [(.long (1 : Int64)), (.long (10 : Int64)), (.long (100 : Int64)), (.long (1000 : Int64)), (.long (0 : Int64)), (.long (0 : Int64)), (.long (0 : Int64)), (.long (0 : Int64)), (.long (0 : Int64)), (.long (0 : Int64)), (.long (0 : Int64)), (.long (0 : Int64)), (.long (0 : Int64))] (.long (0 : Int64)) := A5 3 rfl (Nat.le_of_ble_eq_true rfl) rfl
  refine own_dup 27 Y5 at_26 rfl rfl ?_
  refine own_iconst 28 Y5 (4 : Int32) at_27 rfl rfl ?_
  refine own_ldc2J 31 Y5 (own_wd hw 4 rfl) at_28 rfl ?_
  refine own_stJ 32 Y5 V_pa at_31 ⟨by decide, by decide⟩ rfl fun T6 h6 Y6 W6 A6 => ?_
  have N := own_frY Y6 N gn_pa
  have Zs := Nat.le_trans Zs (Nat.le_of_eq W6.size.symm)
  have O := O.wr W6 gn_pa
  have V_pa : Arv Z h6 pa k_pa .long (13 : Int32) [(.long (1 : Int64)), (.long (10 : Int64)), (.long (100 : Int64)), (.long (1000 : Int64)), (.long (10000 : Int64)), (.long (0 : Int64)), (.long (0 : Int64)), (.long (0 : Int64)), (.long (0 : Int64)), (.long (0 : Int64)), (.long (0 : Int64)), (.long (0 : Int64)), (.long (0 : Int64))] (.long (0 : Int64)) := A6 4 rfl (Nat.le_of_ble_eq_true rfl) rfl
  refine own_dup 33 Y6 at_32 rfl rfl ?_
  refine own_iconst 34 Y6 (5 : Int32) at_33 rfl rfl ?_
  refine own_ldc2J 37 Y6 (own_wd hw 5 rfl) at_34 rfl ?_
  refine own_stJ 38 Y6 V_pa at_37 ⟨by decide, by decide⟩ rfl fun T7 h7 Y7 W7 A7 => ?_
  have N := own_frY Y7 N gn_pa
  have Zs := Nat.le_trans Zs (Nat.le_of_eq W7.size.symm)
  have O := O.wr W7 gn_pa
  have V_pa : Arv Z h7 pa k_pa .long (13 : Int32) [(.long (1 : Int64)), (.long (10 : Int64)), (.long (100 : Int64)), (.long (1000 : Int64)), (.long (10000 : Int64)), (.long (100000 : Int64)), (.long (0 : Int64)), (.long (0 : Int64)), (.long (0 : Int64)), (.long (0 : Int64)), (.long (0 : Int64)), (.long (0 : Int64)), (.long (0 : Int64))] (.long (0 : Int64)) := A7 5 rfl (Nat.le_of_ble_eq_true rfl) rfl
  refine own_dup 39 Y7 at_38 rfl rfl ?_
  refine own_bipush 41 Y7 (6 : Int32) at_39 rfl rfl ?_
  refine own_ldc2J 44 Y7 (own_wd hw 6 rfl) at_41 rfl ?_
  refine own_stJ 45 Y7 V_pa at_44 ⟨by decide, by decide⟩ rfl fun T8 h8 Y8 W8 A8 => ?_
  have N := own_frY Y8 N gn_pa
  have Zs := Nat.le_trans Zs (Nat.le_of_eq W8.size.symm)
  have O := O.wr W8 gn_pa
  have V_pa : Arv Z h8 pa k_pa .long (13 : Int32) [(.long (1 : Int64)), (.long (10 : Int64)), (.long (100 : Int64)), (.long (1000 : Int64)), (.long (10000 : Int64)), (.long (100000 : Int64)), (.long (1000000 : Int64)), (.long (0 : Int64)), (.long (0 : Int64)), (.long (0 : Int64)), (.long (0 : Int64)), (.long (0 : Int64)), (.long (0 : Int64))] (.long (0 : Int64)) := A8 6 rfl (Nat.le_of_ble_eq_true rfl) rfl
  refine own_dup 46 Y8 at_45 rfl rfl ?_
  refine own_bipush 48 Y8 (7 : Int32) at_46 rfl rfl ?_
  refine own_ldc2J 51 Y8 (own_wd hw 7 rfl) at_48 rfl ?_
  refine own_stJ 52 Y8 V_pa at_51 ⟨by decide, by decide⟩ rfl fun T9 h9 Y9 W9 A9 => ?_
  have N := own_frY Y9 N gn_pa
  have Zs := Nat.le_trans Zs (Nat.le_of_eq W9.size.symm)
  have O := O.wr W9 gn_pa
  have V_pa : Arv Z h9 pa k_pa .long (13 : Int32) [(.long (1 : Int64)), (.long (10 : Int64)), (.long (100 : Int64)), (.long (1000 : Int64)), (.long (10000 : Int64)), (.long (100000 : Int64)), (.long (1000000 : Int64)), (.long (10000000 : Int64)), (.long (0 : Int64)), (.long (0 : Int64)), (.long (0 : Int64)), (.long (0 : Int64)), (.long (0 : Int64))] (.long (0 : Int64)) := A9 7 rfl (Nat.le_of_ble_eq_true rfl) rfl
  refine own_dup 53 Y9 at_52 rfl rfl ?_
  refine own_bipush 55 Y9 (8 : Int32) at_53 rfl rfl ?_
  refine own_ldc2J 58 Y9 (own_wd hw 8 rfl) at_55 rfl ?_
  refine own_stJ 59 Y9 V_pa at_58 ⟨by decide, by decide⟩ rfl fun T10 h10 Y10 W10 A10 => ?_
  have N := own_frY Y10 N gn_pa
  have Zs := Nat.le_trans Zs (Nat.le_of_eq W10.size.symm)
  have O := O.wr W10 gn_pa
  have V_pa : Arv Z h10 pa k_pa .long (13 : Int32) [(.long (1 : Int64)), (.long (10 : Int64)), (.long (100 : Int64)), (.long (1000 : Int64)), (.long (10000 : Int64)), (.long (100000 : Int64)), (.long (1000000 : Int64)), (.long (10000000 : Int64)), (.long (100000000 : Int64)), (.long (0 : Int64)), (.long (0 : Int64)), (.long (0 : Int64)), (.long (0 : Int64))] (.long (0 : Int64)) := A10 8 rfl (Nat.le_of_ble_eq_true rfl) rfl
  refine own_dup 60 Y10 at_59 rfl rfl ?_
  refine own_bipush 62 Y10 (9 : Int32) at_60 rfl rfl ?_
  refine own_ldc2J 65 Y10 (own_wd hw 9 rfl) at_62 rfl ?_
  refine own_stJ 66 Y10 V_pa at_65 ⟨by decide, by decide⟩ rfl fun T11 h11 Y11 W11 A11 => ?_
  have N := own_frY Y11 N gn_pa
  have Zs := Nat.le_trans Zs (Nat.le_of_eq W11.size.symm)
  have O := O.wr W11 gn_pa
  have V_pa : Arv Z h11 pa k_pa .long (13 : Int32) [(.long (1 : Int64)), (.long (10 : Int64)), (.long (100 : Int64)), (.long (1000 : Int64)), (.long (10000 : Int64)), (.long (100000 : Int64)), (.long (1000000 : Int64)), (.long (10000000 : Int64)), (.long (100000000 : Int64)), (.long (1000000000 : Int64)), (.long (0 : Int64)), (.long (0 : Int64)), (.long (0 : Int64))] (.long (0 : Int64)) := A11 9 rfl (Nat.le_of_ble_eq_true rfl) rfl
  refine own_dup 67 Y11 at_66 rfl rfl ?_
  refine own_bipush 69 Y11 (10 : Int32) at_67 rfl rfl ?_
  refine own_ldc2J 72 Y11 (own_wd hw 10 rfl) at_69 rfl ?_
  refine own_stJ 73 Y11 V_pa at_72 ⟨by decide, by decide⟩ rfl fun T12 h12 Y12 W12 A12 => ?_
  have N := own_frY Y12 N gn_pa
  have Zs := Nat.le_trans Zs (Nat.le_of_eq W12.size.symm)
  have O := O.wr W12 gn_pa
  have V_pa : Arv Z h12 pa k_pa .long (13 : Int32) [(.long (1 : Int64)), (.long (10 : Int64)), (.long (100 : Int64)), (.long (1000 : Int64)), (.long (10000 : Int64)), (.long (100000 : Int64)), (.long (1000000 : Int64)), (.long (10000000 : Int64)), (.long (100000000 : Int64)), (.long (1000000000 : Int64)), (.long (10000000000 : Int64)), (.long (0 : Int64)), (.long (0 : Int64))] (.long (0 : Int64)) := A12 10 rfl (Nat.le_of_ble_eq_true rfl) rfl
  refine own_dup 74 Y12 at_73 rfl rfl ?_
  refine own_bipush 76 Y12 (11 : Int32) at_74 rfl rfl ?_
  refine own_ldc2J 79 Y12 (own_wd hw 11 rfl) at_76 rfl ?_
  refine own_stJ 80 Y12 V_pa at_79 ⟨by decide, by decide⟩ rfl fun T13 h13 Y13 W13 A13 => ?_
  have N := own_frY Y13 N gn_pa
  have Zs := Nat.le_trans Zs (Nat.le_of_eq W13.size.symm)
  have O := O.wr W13 gn_pa
  have V_pa : Arv Z h13 pa k_pa .long (13 : Int32) [(.long (1 : Int64)), (.long (10 : Int64)), (.long (100 : Int64)), (.long (1000 : Int64)), (.long (10000 : Int64)), (.long (100000 : Int64)), (.long (1000000 : Int64)), (.long (10000000 : Int64)), (.long (100000000 : Int64)), (.long (1000000000 : Int64)), (.long (10000000000 : Int64)), (.long (100000000000 : Int64)), (.long (0 : Int64))] (.long (0 : Int64)) := A13 11 rfl (Nat.le_of_ble_eq_true rfl) rfl
  refine own_dup 81 Y13 at_80 rfl rfl ?_
  refine own_bipush 83 Y13 (12 : Int32) at_81 rfl rfl ?_
  refine own_ldc2J 86 Y13 (own_wd hw 12 rfl) at_83 rfl ?_
  refine own_stJ 87 Y13 V_pa at_86 ⟨by decide, by decide⟩ rfl fun T14 h14 Y14 W14 A14 => ?_
  have N := own_frY Y14 N gn_pa
  have Zs := Nat.le_trans Zs (Nat.le_of_eq W14.size.symm)
  have O := O.wr W14 gn_pa
  have V_pa : Arv Z h14 pa k_pa .long (13 : Int32) [(.long (1 : Int64)), (.long (10 : Int64)), (.long (100 : Int64)), (.long (1000 : Int64)), (.long (10000 : Int64)), (.long (100000 : Int64)), (.long (1000000 : Int64)), (.long (10000000 : Int64)), (.long (100000000 : Int64)), (.long (1000000000 : Int64)), (.long (10000000000 : Int64)), (.long (100000000000 : Int64)), (.long (1000000000000 : Int64))] (.long (0 : Int64)) := A14 12 rfl (Nat.le_of_ble_eq_true rfl) rfl
  refine own_astore 89 Y14 #[.val (.int x0), .val (.int x1), .val (.long x2), .second, .val (.int x3), .val (.int x4), .val (.int x5), .val (.ref pa), .unset, .unset, .unset, .unset, .unset, .unset, .unset, .unset, .unset, .unset, .unset, .unset, .unset, .unset, .unset, .unset, .unset, .unset, .unset, .unset, .unset, .unset, .unset] at_87 rfl rfl rfl ?_
  refine own_iloadN 90 Y14 at_89 rfl rfl ?_
  refine own_ldcI 92 Y14 (own_wd hw 13 rfl) at_90 rfl ?_
  refine own_iand 93 Y14 at_92 rfl ?_
  refine own_bipush 95 Y14 (13 : Int32) at_93 rfl rfl ?_
  refine own_irem 96 Y14 at_95 (by decide) rfl ?_
  obtain ⟨wn, hwn, ewn⟩ := own_rem x1 13 (by decide) (by decide)
  rw [show ((x1 &&& (2147483647 : Int32)) % (13 : Int32)) = Int32.ofNat wn from ewn]
  refine own_istore 98 Y14 #[.val (.int x0), .val (.int x1), .val (.long x2), .second, .val (.int x3), .val (.int x4), .val (.int x5), .val (.ref pa), .val (.int (Int32.ofNat wn)), .unset, .unset, .unset, .unset, .unset, .unset, .unset, .unset, .unset, .unset, .unset, .unset, .unset, .unset, .unset, .unset, .unset, .unset, .unset, .unset, .unset, .unset] at_96 rfl rfl ?_
  refine own_lloadN 99 Y14 at_98 rfl rfl ?_
  refine own_ldc2J 102 Y14 (own_wd hw 14 rfl) at_99 rfl ?_
  refine own_land 103 Y14 at_102 rfl ?_
  refine own_aload 105 Y14 at_103 rfl rfl rfl ?_
  refine own_iload 107 Y14 at_105 rfl rfl ?_
  refine own_laload 108 Y14 V_pa at_107 (own_in13 hwn) (v := .long (Int64.ofNat (10 ^ wn))) (by rw [own_oclamp (by omega)]; exact own_pl hwn) rfl ?_
  refine own_lrem 109 Y14 at_108 (own_pne hwn) rfl ?_
  obtain ⟨vn, hvn, evn⟩ := own_val x2 (b := 10 ^ wn) (Nat.pow_pos (by decide)) (own_p13 hwn)
  rw [evn]
  refine own_lstore 111 Y14 #[.val (.int x0), .val (.int x1), .val (.long x2), .second, .val (.int x3), .val (.int x4), .val (.int x5), .val (.ref pa), .val (.int (Int32.ofNat wn)), .val (.long (Int64.ofNat vn)), .second, .unset, .unset, .unset, .unset, .unset, .unset, .unset, .unset, .unset, .unset, .unset, .unset, .unset, .unset, .unset, .unset, .unset, .unset, .unset, .unset] at_109 rfl rfl ?_
  refine own_bipush 113 Y14 (28 : Int32) at_111 rfl rfl ?_
  refine own_newP 115 Y14 (own_wd hw 15 rfl) 28 at_113 (by decide) (by decide) (by decide) (by decide) (by decide) rfl fun T15 h15 t k_t Y15 g_t E15 V_t => ?_
  have ne_pa_t : pa ≠ t := by rw [g_t]; exact Nat.ne_of_lt V_pa.lt
  have gn_t : n0 ≤ t := by rw [g_t]; exact Zs
  have Zs := Nat.le_trans Zs E15.1
  have O := O.ext E15
  have V_pa := V_pa.ext E15
  have V_t : Arv Z h15 t k_t .char (28 : Int32) [(.int (0 : Int32)), (.int (0 : Int32)), (.int (0 : Int32)), (.int (0 : Int32)), (.int (0 : Int32)), (.int (0 : Int32)), (.int (0 : Int32)), (.int (0 : Int32)), (.int (0 : Int32)), (.int (0 : Int32)), (.int (0 : Int32)), (.int (0 : Int32)), (.int (0 : Int32)), (.int (0 : Int32)), (.int (0 : Int32)), (.int (0 : Int32)), (.int (0 : Int32)), (.int (0 : Int32)), (.int (0 : Int32)), (.int (0 : Int32)), (.int (0 : Int32)), (.int (0 : Int32)), (.int (0 : Int32)), (.int (0 : Int32)), (.int (0 : Int32)), (.int (0 : Int32)), (.int (0 : Int32)), (.int (0 : Int32))] (.int (0 : Int32)) := V_t.pad (pad_rep [] _ 28)
  have D : WD Z _ n0 _ t k_t (fun _ => 0) pa k_pa := ⟨⟨_, V_t, rfl, fun i hi => own_z28 i hi⟩, V_pa, O, N⟩
  refine own_astore 117 Y15 #[.val (.int x0), .val (.int x1), .val (.long x2), .second, .val (.int x3), .val (.int x4), .val (.int x5), .val (.ref pa), .val (.int (Int32.ofNat wn)), .val (.long (Int64.ofNat vn)), .second, .val (.ref t), .unset, .unset, .unset, .unset, .unset, .unset, .unset, .unset, .unset, .unset, .unset, .unset, .unset, .unset, .unset, .unset, .unset, .unset, .unset] at_115 rfl rfl rfl ?_
  refine own_iload 119 Y15 at_117 rfl rfl ?_
  refine own_iload 121 Y15 at_119 rfl rfl ?_
  refine own_iconst 122 Y15 (3 : Int32) at_121 rfl rfl ?_
  refine own_iushr 123 Y15 at_122 rfl ?_
  refine own_callS 126 Y15 [(.int x3), (.int (x3.toUInt32 >>> ((3 : Int32) &&& 31).toUInt32).toInt32)] [] (own_wd hw 16 rfl) (own_wd hw 17 rfl) (own_wd hw 18 rfl) (own_wd hw 19 rfl) (c_any l Z a0 hw x3 (x3.toUInt32 >>> ((3 : Int32) &&& 31).toUInt32).toInt32 _) at_123 (by decide) (lenOf pdany rfl) rfl rfl (by decide) (Nat.le_of_ble_eq_true rfl) (by decide) (by decide) rfl fun v16 T16 h16 L16 Y16 hQ16 => ?_
  obtain ⟨rfl, rfl, pr, hpr, rfl⟩ := hQ16
  have D := (⟨D.1, D.2.1, D.2.2.1, D.2.2.2.app (Fr.nil n0)⟩ : WD Z _ n0 _ t _ _ pa _)
  show own_G p e below _ (T16.setTop (mkF m 126 #[.val (.int x0), .val (.int x1), .val (.long x2), .second, .val (.int x3), .val (.int x4), .val (.int x5), .val (.ref pa), .val (.int (Int32.ofNat wn)), .val (.long (Int64.ofNat vn)), .second, .val (.ref t), .unset, .unset, .unset, .unset, .unset, .unset, .unset, .unset, .unset, .unset, .unset, .unset, .unset, .unset, .unset, .unset, .unset, .unset, .unset] [(.int pr)]))
  refine own_istore 128 Y16 #[.val (.int x0), .val (.int x1), .val (.long x2), .second, .val (.int x3), .val (.int x4), .val (.int x5), .val (.ref pa), .val (.int (Int32.ofNat wn)), .val (.long (Int64.ofNat vn)), .second, .val (.ref t), .val (.int pr), .unset, .unset, .unset, .unset, .unset, .unset, .unset, .unset, .unset, .unset, .unset, .unset, .unset, .unset, .unset, .unset, .unset, .unset] at_126 rfl rfl ?_
  refine own_iload 130 Y16 at_128 rfl rfl ?_
  refine own_bipush 132 Y16 (19 : Int32) at_130 rfl rfl ?_
  refine own_iushr 133 Y16 at_132 rfl ?_
  refine own_iload 135 Y16 at_133 rfl rfl ?_
  refine own_bipush 137 Y16 (22 : Int32) at_135 rfl rfl ?_
  refine own_iushr 138 Y16 at_137 rfl ?_
  refine own_callS 141 Y16 [(.int (x3.toUInt32 >>> ((19 : Int32) &&& 31).toUInt32).toInt32), (.int (x3.toUInt32 >>> ((22 : Int32) &&& 31).toUInt32).toInt32)] [] (own_wd hw 16 rfl) (own_wd hw 17 rfl) (own_wd hw 18 rfl) (own_wd hw 19 rfl) (c_any l Z a0 hw (x3.toUInt32 >>> ((19 : Int32) &&& 31).toUInt32).toInt32 (x3.toUInt32 >>> ((22 : Int32) &&& 31).toUInt32).toInt32 _) at_138 (by decide) (lenOf pdany rfl) rfl rfl (by decide) (Nat.le_of_ble_eq_true rfl) (by decide) (by decide) rfl fun v17 T17 h17 L17 Y17 hQ17 => ?_
  obtain ⟨rfl, rfl, po, hpo, rfl⟩ := hQ17
  have D := (⟨D.1, D.2.1, D.2.2.1, D.2.2.2.app (Fr.nil n0)⟩ : WD Z _ n0 _ t _ _ pa _)
  show own_G p e below _ (T17.setTop (mkF m 141 #[.val (.int x0), .val (.int x1), .val (.long x2), .second, .val (.int x3), .val (.int x4), .val (.int x5), .val (.ref pa), .val (.int (Int32.ofNat wn)), .val (.long (Int64.ofNat vn)), .second, .val (.ref t), .val (.int pr), .unset, .unset, .unset, .unset, .unset, .unset, .unset, .unset, .unset, .unset, .unset, .unset, .unset, .unset, .unset, .unset, .unset, .unset] [(.int po)]))
  refine own_istore 143 Y17 #[.val (.int x0), .val (.int x1), .val (.long x2), .second, .val (.int x3), .val (.int x4), .val (.int x5), .val (.ref pa), .val (.int (Int32.ofNat wn)), .val (.long (Int64.ofNat vn)), .second, .val (.ref t), .val (.int pr), .val (.int po), .unset, .unset, .unset, .unset, .unset, .unset, .unset, .unset, .unset, .unset, .unset, .unset, .unset, .unset, .unset, .unset, .unset] at_141 rfl rfl ?_
  refine own_iload 145 Y17 at_143 rfl rfl ?_
  refine own_iload 147 Y17 at_145 rfl rfl ?_
  refine own_iconst 148 Y17 (3 : Int32) at_147 rfl rfl ?_
  refine own_iushr 149 Y17 at_148 rfl ?_
  refine own_callS 152 Y17 [(.int x4), (.int (x4.toUInt32 >>> ((3 : Int32) &&& 31).toUInt32).toInt32)] [] (own_wd hw 16 rfl) (own_wd hw 17 rfl) (own_wd hw 18 rfl) (own_wd hw 19 rfl) (c_any l Z a0 hw x4 (x4.toUInt32 >>> ((3 : Int32) &&& 31).toUInt32).toInt32 _) at_149 (by decide) (lenOf pdany rfl) rfl rfl (by decide) (Nat.le_of_ble_eq_true rfl) (by decide) (by decide) rfl fun v18 T18 h18 L18 Y18 hQ18 => ?_
  obtain ⟨rfl, rfl, qq, hqq, rfl⟩ := hQ18
  have D := (⟨D.1, D.2.1, D.2.2.1, D.2.2.2.app (Fr.nil n0)⟩ : WD Z _ n0 _ t _ _ pa _)
  show own_G p e below _ (T18.setTop (mkF m 152 #[.val (.int x0), .val (.int x1), .val (.long x2), .second, .val (.int x3), .val (.int x4), .val (.int x5), .val (.ref pa), .val (.int (Int32.ofNat wn)), .val (.long (Int64.ofNat vn)), .second, .val (.ref t), .val (.int pr), .val (.int po), .unset, .unset, .unset, .unset, .unset, .unset, .unset, .unset, .unset, .unset, .unset, .unset, .unset, .unset, .unset, .unset, .unset] [(.int qq)]))
  refine own_istore 154 Y18 #[.val (.int x0), .val (.int x1), .val (.long x2), .second, .val (.int x3), .val (.int x4), .val (.int x5), .val (.ref pa), .val (.int (Int32.ofNat wn)), .val (.long (Int64.ofNat vn)), .second, .val (.ref t), .val (.int pr), .val (.int po), .val (.int qq), .unset, .unset, .unset, .unset, .unset, .unset, .unset, .unset, .unset, .unset, .unset, .unset, .unset, .unset, .unset, .unset] at_152 rfl rfl ?_
  refine seg_q (a0 := a0) hw gn_t ne_pa_t (by decide) (by decide) (by decide) (by decide) hqq Y18 D fun T L qq Y D hqq hfq => ?_
  refine own_iload 182 Y at_180 rfl rfl ?_
  refine own_bipush 184 Y (19 : Int32) at_182 rfl rfl ?_
  refine own_iushr 185 Y at_184 rfl ?_
  refine own_iload 187 Y at_185 rfl rfl ?_
  refine own_bipush 189 Y (22 : Int32) at_187 rfl rfl ?_
  refine own_iushr 190 Y at_189 rfl ?_
  refine own_callS 193 Y [(.int (x4.toUInt32 >>> ((19 : Int32) &&& 31).toUInt32).toInt32), (.int (x4.toUInt32 >>> ((22 : Int32) &&& 31).toUInt32).toInt32)] [] (own_wd hw 16 rfl) (own_wd hw 17 rfl) (own_wd hw 18 rfl) (own_wd hw 19 rfl) (c_any l Z a0 hw (x4.toUInt32 >>> ((19 : Int32) &&& 31).toUInt32).toInt32 (x4.toUInt32 >>> ((22 : Int32) &&& 31).toUInt32).toInt32 _) at_190 (by decide) (lenOf pdany rfl) rfl rfl (by decide) (Nat.le_of_ble_eq_true rfl) (by decide) (by decide) rfl fun v19 T19 h19 L19 Y19 hQ19 => ?_
  obtain ⟨rfl, rfl, xx, hxx, rfl⟩ := hQ19
  have D := (⟨D.1, D.2.1, D.2.2.1, D.2.2.2.app (Fr.nil n0)⟩ : WD Z _ n0 _ t _ _ pa _)
  show own_G p e below _ (T19.setTop (mkF m 193 #[.val (.int x0), .val (.int x1), .val (.long x2), .second, .val (.int x3), .val (.int x4), .val (.int x5), .val (.ref pa), .val (.int (Int32.ofNat wn)), .val (.long (Int64.ofNat vn)), .second, .val (.ref t), .val (.int pr), .val (.int po), .val (.int qq), .unset, .unset, .unset, .unset, .unset, .unset, .unset, .unset, .unset, .unset, .unset, .unset, .unset, .unset, .unset, .unset] [(.int xx)]))
  refine own_istore 195 Y19 #[.val (.int x0), .val (.int x1), .val (.long x2), .second, .val (.int x3), .val (.int x4), .val (.int x5), .val (.ref pa), .val (.int (Int32.ofNat wn)), .val (.long (Int64.ofNat vn)), .second, .val (.ref t), .val (.int pr), .val (.int po), .val (.int qq), .val (.int xx), .unset, .unset, .unset, .unset, .unset, .unset, .unset, .unset, .unset, .unset, .unset, .unset, .unset, .unset, .unset] at_193 rfl rfl ?_
  refine seg_x (a0 := a0) hw gn_t ne_pa_t (by decide) (by decide) (by decide) (by decide) hxx Y19 D fun T L xx Y D hxx hfx => ?_
  refine own_bipush 230 Y (48 : Int32) at_228 rfl rfl ?_
  refine own_iload 232 Y at_230 rfl rfl ?_
  refine own_ldcI 234 Y (own_wd hw 13 rfl) at_232 rfl ?_
  refine own_iand 235 Y at_234 rfl ?_
  refine own_bipush 237 Y (10 : Int32) at_235 rfl rfl ?_
  refine own_irem 238 Y at_237 (by decide) rfl ?_
  refine own_iadd 239 Y at_238 rfl ?_
  refine own_i2c 240 Y at_239 rfl ?_
  have hm1 : nar .char ((48 : Int32) + ((x5 &&& (2147483647 : Int32)) % (10 : Int32))).toUInt32.toUInt16.toUInt32.toInt32 = ((48 : Int32) + ((x5 &&& (2147483647 : Int32)) % (10 : Int32))).toUInt32.toUInt16.toUInt32.toInt32 := own_nar2 _
  have hdm1 : Dg ((48 : Int32) + ((x5 &&& (2147483647 : Int32)) % (10 : Int32))).toUInt32.toUInt16.toUInt32.toInt32 := own_dgm _
  revert hm1 hdm1
  generalize ((48 : Int32) + ((x5 &&& (2147483647 : Int32)) % (10 : Int32))).toUInt32.toUInt16.toUInt32.toInt32 = m1
  intro hm1 hdm1
  refine own_istore 242 Y #[.val (.int x0), .val (.int x1), .val (.long x2), .second, .val (.int x3), .val (.int x4), .val (.int x5), .val (.ref pa), .val (.int (Int32.ofNat wn)), .val (.long (Int64.ofNat vn)), .second, .val (.ref t), .val (.int pr), .val (.int po), .val (.int qq), .val (.int xx), .val (.int m1), .unset, .unset, .unset, .unset, .unset, .unset, .unset, .unset, .unset, .unset, .unset, .unset, .unset, .unset] at_240 rfl rfl ?_
  refine own_bipush 244 Y (48 : Int32) at_242 rfl rfl ?_
  refine own_iload 246 Y at_244 rfl rfl ?_
  refine own_bipush 248 Y (8 : Int32) at_246 rfl rfl ?_
  refine own_iushr 249 Y at_248 rfl ?_
  refine own_ldcI 251 Y (own_wd hw 13 rfl) at_249 rfl ?_
  refine own_iand 252 Y at_251 rfl ?_
  refine own_bipush 254 Y (10 : Int32) at_252 rfl rfl ?_
  refine own_irem 255 Y at_254 (by decide) rfl ?_
  refine own_iadd 256 Y at_255 rfl ?_
  refine own_i2c 257 Y at_256 rfl ?_
  have hm2 : nar .char ((48 : Int32) + (((x5.toUInt32 >>> ((8 : Int32) &&& 31).toUInt32).toInt32 &&& (2147483647 : Int32)) % (10 : Int32))).toUInt32.toUInt16.toUInt32.toInt32 = ((48 : Int32) + (((x5.toUInt32 >>> ((8 : Int32) &&& 31).toUInt32).toInt32 &&& (2147483647 : Int32)) % (10 : Int32))).toUInt32.toUInt16.toUInt32.toInt32 := own_nar2 _
  have hdm2 : Dg ((48 : Int32) + (((x5.toUInt32 >>> ((8 : Int32) &&& 31).toUInt32).toInt32 &&& (2147483647 : Int32)) % (10 : Int32))).toUInt32.toUInt16.toUInt32.toInt32 := own_dgm _
  revert hm2 hdm2
  generalize ((48 : Int32) + (((x5.toUInt32 >>> ((8 : Int32) &&& 31).toUInt32).toInt32 &&& (2147483647 : Int32)) % (10 : Int32))).toUInt32.toUInt16.toUInt32.toInt32 = m2
  intro hm2 hdm2
  refine own_istore 259 Y #[.val (.int x0), .val (.int x1), .val (.long x2), .second, .val (.int x3), .val (.int x4), .val (.int x5), .val (.ref pa), .val (.int (Int32.ofNat wn)), .val (.long (Int64.ofNat vn)), .second, .val (.ref t), .val (.int pr), .val (.int po), .val (.int qq), .val (.int xx), .val (.int m1), .val (.int m2), .unset, .unset, .unset, .unset, .unset, .unset, .unset, .unset, .unset, .unset, .unset, .unset, .unset] at_257 rfl rfl ?_
  refine own_iloadN 260 Y at_259 rfl rfl ?_
  refine own_iconst 261 Y (3 : Int32) at_260 rfl rfl ?_
  refine own_iand 262 Y at_261 rfl ?_
  have hvk0 := own_m3 x0
  revert hvk0
  generalize (x0 &&& (3 : Int32)) = k0
  intro hvk0
  refine own_istore 264 Y #[.val (.int x0), .val (.int x1), .val (.long x2), .second, .val (.int x3), .val (.int x4), .val (.int x5), .val (.ref pa), .val (.int (Int32.ofNat wn)), .val (.long (Int64.ofNat vn)), .second, .val (.ref t), .val (.int pr), .val (.int po), .val (.int qq), .val (.int xx), .val (.int m1), .val (.int m2), .val (.int k0), .unset, .unset, .unset, .unset, .unset, .unset, .unset, .unset, .unset, .unset, .unset, .unset] at_262 rfl rfl ?_
  refine own_iloadN 265 Y at_264 rfl rfl ?_
  refine own_iconst 266 Y (2 : Int32) at_265 rfl rfl ?_
  refine own_iushr 267 Y at_266 rfl ?_
  refine own_iconst 268 Y (3 : Int32) at_267 rfl rfl ?_
  refine own_iand 269 Y at_268 rfl ?_
  have hvms := own_m3 (x0.toUInt32 >>> ((2 : Int32) &&& 31).toUInt32).toInt32
  revert hvms
  generalize ((x0.toUInt32 >>> ((2 : Int32) &&& 31).toUInt32).toInt32 &&& (3 : Int32)) = ms
  intro hvms
  refine own_istore 271 Y #[.val (.int x0), .val (.int x1), .val (.long x2), .second, .val (.int x3), .val (.int x4), .val (.int x5), .val (.ref pa), .val (.int (Int32.ofNat wn)), .val (.long (Int64.ofNat vn)), .second, .val (.ref t), .val (.int pr), .val (.int po), .val (.int qq), .val (.int xx), .val (.int m1), .val (.int m2), .val (.int k0), .val (.int ms), .unset, .unset, .unset, .unset, .unset, .unset, .unset, .unset, .unset, .unset, .unset] at_269 rfl rfl ?_
  refine own_iloadN 272 Y at_271 rfl rfl ?_
  refine own_iconst 273 Y (4 : Int32) at_272 rfl rfl ?_
  refine own_iushr 274 Y at_273 rfl ?_
  refine own_bipush 276 Y (7 : Int32) at_274 rfl rfl ?_
  refine own_iand 277 Y at_276 rfl ?_
  have hvmk := own_m7 (x0.toUInt32 >>> ((4 : Int32) &&& 31).toUInt32).toInt32
  revert hvmk
  generalize ((x0.toUInt32 >>> ((4 : Int32) &&& 31).toUInt32).toInt32 &&& (7 : Int32)) = mk
  intro hvmk
  refine own_istore 279 Y #[.val (.int x0), .val (.int x1), .val (.long x2), .second, .val (.int x3), .val (.int x4), .val (.int x5), .val (.ref pa), .val (.int (Int32.ofNat wn)), .val (.long (Int64.ofNat vn)), .second, .val (.ref t), .val (.int pr), .val (.int po), .val (.int qq), .val (.int xx), .val (.int m1), .val (.int m2), .val (.int k0), .val (.int ms), .val (.int mk), .unset, .unset, .unset, .unset, .unset, .unset, .unset, .unset, .unset, .unset] at_277 rfl rfl ?_
  refine own_iloadN 280 Y at_279 rfl rfl ?_
  refine own_bipush 282 Y (7 : Int32) at_280 rfl rfl ?_
  refine own_iushr 283 Y at_282 rfl ?_
  refine own_iconst 284 Y (3 : Int32) at_283 rfl rfl ?_
  refine own_iand 285 Y at_284 rfl ?_
  have hvmm := own_m3 (x0.toUInt32 >>> ((7 : Int32) &&& 31).toUInt32).toInt32
  revert hvmm
  generalize ((x0.toUInt32 >>> ((7 : Int32) &&& 31).toUInt32).toInt32 &&& (3 : Int32)) = mm
  intro hvmm
  refine own_istore 287 Y #[.val (.int x0), .val (.int x1), .val (.long x2), .second, .val (.int x3), .val (.int x4), .val (.int x5), .val (.ref pa), .val (.int (Int32.ofNat wn)), .val (.long (Int64.ofNat vn)), .second, .val (.ref t), .val (.int pr), .val (.int po), .val (.int qq), .val (.int xx), .val (.int m1), .val (.int m2), .val (.int k0), .val (.int ms), .val (.int mk), .val (.int mm), .unset, .unset, .unset, .unset, .unset, .unset, .unset, .unset, .unset] at_285 rfl rfl ?_
  refine own_iloadN 288 Y at_287 rfl rfl ?_
  refine own_bipush 290 Y (9 : Int32) at_288 rfl rfl ?_
  refine own_iushr 291 Y at_290 rfl ?_
  refine own_iconst 292 Y (3 : Int32) at_291 rfl rfl ?_
  refine own_iand 293 Y at_292 rfl ?_
  have hves := own_m3 (x0.toUInt32 >>> ((9 : Int32) &&& 31).toUInt32).toInt32
  revert hves
  generalize ((x0.toUInt32 >>> ((9 : Int32) &&& 31).toUInt32).toInt32 &&& (3 : Int32)) = es
  intro hves
  refine own_istore 295 Y #[.val (.int x0), .val (.int x1), .val (.long x2), .second, .val (.int x3), .val (.int x4), .val (.int x5), .val (.ref pa), .val (.int (Int32.ofNat wn)), .val (.long (Int64.ofNat vn)), .second, .val (.ref t), .val (.int pr), .val (.int po), .val (.int qq), .val (.int xx), .val (.int m1), .val (.int m2), .val (.int k0), .val (.int ms), .val (.int mk), .val (.int mm), .val (.int es), .unset, .unset, .unset, .unset, .unset, .unset, .unset, .unset] at_293 rfl rfl ?_
  refine own_iconst 296 Y (0 : Int32) at_295 rfl rfl ?_
  refine own_istore 298 Y #[.val (.int x0), .val (.int x1), .val (.long x2), .second, .val (.int x3), .val (.int x4), .val (.int x5), .val (.ref pa), .val (.int (Int32.ofNat wn)), .val (.long (Int64.ofNat vn)), .second, .val (.ref t), .val (.int pr), .val (.int po), .val (.int qq), .val (.int xx), .val (.int m1), .val (.int m2), .val (.int k0), .val (.int ms), .val (.int mk), .val (.int mm), .val (.int es), .val (.int (0 : Int32)), .unset, .unset, .unset, .unset, .unset, .unset, .unset] at_296 rfl rfl ?_
  refine seg_k (a0 := a0) hw gn_t ne_pa_t hvk0 hpr Y D fun T h L ch sn hsn Y D => ?_
  refine own_iload 347 Y at_345 rfl rfl ?_
  refine own_istore 349 Y #[.val (.int x0), .val (.int x1), .val (.long x2), .second, .val (.int x3), .val (.int x4), .val (.int x5), .val (.ref pa), .val (.int (Int32.ofNat wn)), .val (.long (Int64.ofNat vn)), .second, .val (.ref t), .val (.int pr), .val (.int po), .val (.int qq), .val (.int xx), .val (.int m1), .val (.int m2), .val (.int k0), .val (.int ms), .val (.int mk), .val (.int mm), .val (.int es), .val (.int (Int32.ofNat sn)), .val (.int (Int32.ofNat sn)), .unset, .unset, .unset, .unset, .unset, .unset] at_347 rfl rfl ?_
  obtain ⟨l1, l2, l3, l4⟩ := own_lens ms mk mm es m1 m2 xx qq
  refine seg_ms (a0 := a0) hw gn_t ne_pa_t sn (by omega) hvms Y D fun T h L Y D => ?_
  refine seg_mk (a0 := a0) hw gn_t ne_pa_t _ (by omega) hvmk hm1 hm2 hxx Y D fun T h L Y D => ?_
  refine seg_mm (a0 := a0) hw gn_t ne_pa_t _ (by omega) hvmm hqq Y D fun T h L Y D => ?_
  refine seg_es (a0 := a0) hw gn_t ne_pa_t _ (by omega) hves Y D fun T h L Y D => ?_
  rw [app_app ch (msL ms) (mkL mk m1 m2 xx) sn _ rfl, app_app ch _ (mmL mm qq) sn _ (by simp; omega), app_app ch _ (esL es) sn _ (by simp; omega)] at D
  simp only [List.append_assoc] at D
  obtain ⟨K0, hK0⟩ : ∃ K0, K0 = sn + (msL ms ++ (mkL mk m1 m2 xx ++ (mmL mm qq ++ esL es))).length := ⟨_, rfl⟩
  rw [show sn + (msL ms).length + (mkL mk m1 m2 xx).length + (mmL mm qq).length + (esL es).length = K0 from by rw [hK0]; simp; omega]
  have hKb : K0 ≤ 12 := by rw [hK0]; simp; omega
  have hKs : sn ≤ K0 := by omega
  have hv2 : vn < 2 ^ 63 := Nat.lt_trans hvn (own_p13 hwn)
  have hF := app_at ch (msL ms ++ (mkL mk m1 m2 xx ++ (mmL mm qq ++ esL es))) sn
  generalize app ch sn (msL ms ++ (mkL mk m1 m2 xx ++ (mmL mm qq ++ esL es))) = ch at D hF
  refine own_iload 718 Y at_716 rfl rfl ?_
  refine own_iload 720 Y at_718 rfl rfl ?_
  refine own_iadd 721 Y at_720 rfl ?_
  rw [own_oaddN K0 wn]
  refine own_istore 723 Y #[.val (.int x0), .val (.int x1), .val (.long x2), .second, .val (.int x3), .val (.int x4), .val (.int x5), .val (.ref pa), .val (.int (Int32.ofNat wn)), .val (.long (Int64.ofNat vn)), .second, .val (.ref t), .val (.int pr), .val (.int po), .val (.int qq), .val (.int xx), .val (.int m1), .val (.int m2), .val (.int k0), .val (.int ms), .val (.int mk), .val (.int mm), .val (.int es), .val (.int (Int32.ofNat K0)), .val (.int (Int32.ofNat sn)), .val (.int (Int32.ofNat (K0 + wn))), .unset, .unset, .unset, .unset, .unset] at_721 rfl rfl ?_
  refine own_aload 725 Y at_723 rfl rfl rfl ?_
  refine own_iload 727 Y at_725 rfl rfl ?_
  refine own_iload 729 Y at_727 rfl rfl ?_
  refine own_lload 731 Y at_729 rfl rfl ?_
  refine own_aload 733 Y at_731 rfl rfl rfl ?_
  refine own_iconst 734 Y (0 : Int32) at_733 rfl rfl ?_
  refine own_laload 735 Y D.2.1 at_734 ⟨by decide, by decide⟩ (v := .long (1 : Int64)) rfl rfl ?_
  refine own_iconst 736 Y (0 : Int32) at_735 rfl rfl ?_
  refine own_callS 739 Y [(.ref t), (.int (Int32.ofNat (K0 + wn))), (.int (Int32.ofNat wn)), (.long (Int64.ofNat vn)), (.long (1 : Int64)), (.int (0 : Int32))] [] (own_wd hw 23 rfl) (own_wd hw 24 rfl) (own_wd hw 18 rfl) (own_wd hw 25 rfl) (c_dig l Z a0 hw t pa k_t k_pa _ (K0 + wn) wn vn 0 (Int32.ofNat wn) (0 : Int32) (Int64.ofNat vn) (1 : Int64) _ n0 (by decide) gn_t ne_pa_t (own_olt (a := 0) (by decide) (by omega)) (fun z => own_ix (j := 0) (by omega)) (fun z => by omega) (own_dgv (j := 0) rfl hv2 (by decide)) ⟨D.1, D.2.1, D.2.2.1, Fr.nil n0⟩) at_736 (by decide) (lenOf pddig rfl) rfl rfl (by decide) (Nat.le_of_ble_eq_true rfl) (by decide) (by decide) rfl fun v20 T20 h20 L20 Y20 hQ20 => ?_
  obtain ⟨rfl, D20⟩ := hQ20
  have D := (⟨D20.1, D20.2.1, D20.2.2.1, D.2.2.2.app D20.2.2.2⟩ : WD Z _ n0 _ t _ _ pa _)
  show own_G p e below _ (T20.setTop (mkF m 739 #[.val (.int x0), .val (.int x1), .val (.long x2), .second, .val (.int x3), .val (.int x4), .val (.int x5), .val (.ref pa), .val (.int (Int32.ofNat wn)), .val (.long (Int64.ofNat vn)), .second, .val (.ref t), .val (.int pr), .val (.int po), .val (.int qq), .val (.int xx), .val (.int m1), .val (.int m2), .val (.int k0), .val (.int ms), .val (.int mk), .val (.int mm), .val (.int es), .val (.int (Int32.ofNat K0)), .val (.int (Int32.ofNat sn)), .val (.int (Int32.ofNat (K0 + wn))), .unset, .unset, .unset, .unset, .unset] []))
  refine own_aload 741 Y20 at_739 rfl rfl rfl ?_
  refine own_iload 743 Y20 at_741 rfl rfl ?_
  refine own_iload 745 Y20 at_743 rfl rfl ?_
  refine own_lload 747 Y20 at_745 rfl rfl ?_
  refine own_aload 749 Y20 at_747 rfl rfl rfl ?_
  refine own_iconst 750 Y20 (1 : Int32) at_749 rfl rfl ?_
  refine own_laload 751 Y20 D.2.1 at_750 ⟨by decide, by decide⟩ (v := .long (10 : Int64)) rfl rfl ?_
  refine own_iconst 752 Y20 (1 : Int32) at_751 rfl rfl ?_
  refine own_callS 755 Y20 [(.ref t), (.int (Int32.ofNat (K0 + wn))), (.int (Int32.ofNat wn)), (.long (Int64.ofNat vn)), (.long (10 : Int64)), (.int (1 : Int32))] [] (own_wd hw 23 rfl) (own_wd hw 24 rfl) (own_wd hw 18 rfl) (own_wd hw 25 rfl) (c_dig l Z a0 hw t pa k_t k_pa _ (K0 + wn) wn vn 1 (Int32.ofNat wn) (1 : Int32) (Int64.ofNat vn) (10 : Int64) _ n0 (by decide) gn_t ne_pa_t (own_olt (a := 1) (by decide) (by omega)) (fun z => own_ix (j := 1) (by omega)) (fun z => by omega) (own_dgv (j := 1) rfl hv2 (by decide)) ⟨D.1, D.2.1, D.2.2.1, Fr.nil n0⟩) at_752 (by decide) (lenOf pddig rfl) rfl rfl (by decide) (Nat.le_of_ble_eq_true rfl) (by decide) (by decide) rfl fun v21 T21 h21 L21 Y21 hQ21 => ?_
  obtain ⟨rfl, D21⟩ := hQ21
  have D := (⟨D21.1, D21.2.1, D21.2.2.1, D.2.2.2.app D21.2.2.2⟩ : WD Z _ n0 _ t _ _ pa _)
  show own_G p e below _ (T21.setTop (mkF m 755 #[.val (.int x0), .val (.int x1), .val (.long x2), .second, .val (.int x3), .val (.int x4), .val (.int x5), .val (.ref pa), .val (.int (Int32.ofNat wn)), .val (.long (Int64.ofNat vn)), .second, .val (.ref t), .val (.int pr), .val (.int po), .val (.int qq), .val (.int xx), .val (.int m1), .val (.int m2), .val (.int k0), .val (.int ms), .val (.int mk), .val (.int mm), .val (.int es), .val (.int (Int32.ofNat K0)), .val (.int (Int32.ofNat sn)), .val (.int (Int32.ofNat (K0 + wn))), .unset, .unset, .unset, .unset, .unset] []))
  refine own_aload 757 Y21 at_755 rfl rfl rfl ?_
  refine own_iload 759 Y21 at_757 rfl rfl ?_
  refine own_iload 761 Y21 at_759 rfl rfl ?_
  refine own_lload 763 Y21 at_761 rfl rfl ?_
  refine own_aload 765 Y21 at_763 rfl rfl rfl ?_
  refine own_iconst 766 Y21 (2 : Int32) at_765 rfl rfl ?_
  refine own_laload 767 Y21 D.2.1 at_766 ⟨by decide, by decide⟩ (v := .long (100 : Int64)) rfl rfl ?_
  refine own_iconst 768 Y21 (2 : Int32) at_767 rfl rfl ?_
  refine own_callS 771 Y21 [(.ref t), (.int (Int32.ofNat (K0 + wn))), (.int (Int32.ofNat wn)), (.long (Int64.ofNat vn)), (.long (100 : Int64)), (.int (2 : Int32))] [] (own_wd hw 23 rfl) (own_wd hw 24 rfl) (own_wd hw 18 rfl) (own_wd hw 25 rfl) (c_dig l Z a0 hw t pa k_t k_pa _ (K0 + wn) wn vn 2 (Int32.ofNat wn) (2 : Int32) (Int64.ofNat vn) (100 : Int64) _ n0 (by decide) gn_t ne_pa_t (own_olt (a := 2) (by decide) (by omega)) (fun z => own_ix (j := 2) (by omega)) (fun z => by omega) (own_dgv (j := 2) rfl hv2 (by decide)) ⟨D.1, D.2.1, D.2.2.1, Fr.nil n0⟩) at_768 (by decide) (lenOf pddig rfl) rfl rfl (by decide) (Nat.le_of_ble_eq_true rfl) (by decide) (by decide) rfl fun v22 T22 h22 L22 Y22 hQ22 => ?_
  obtain ⟨rfl, D22⟩ := hQ22
  have D := (⟨D22.1, D22.2.1, D22.2.2.1, D.2.2.2.app D22.2.2.2⟩ : WD Z _ n0 _ t _ _ pa _)
  show own_G p e below _ (T22.setTop (mkF m 771 #[.val (.int x0), .val (.int x1), .val (.long x2), .second, .val (.int x3), .val (.int x4), .val (.int x5), .val (.ref pa), .val (.int (Int32.ofNat wn)), .val (.long (Int64.ofNat vn)), .second, .val (.ref t), .val (.int pr), .val (.int po), .val (.int qq), .val (.int xx), .val (.int m1), .val (.int m2), .val (.int k0), .val (.int ms), .val (.int mk), .val (.int mm), .val (.int es), .val (.int (Int32.ofNat K0)), .val (.int (Int32.ofNat sn)), .val (.int (Int32.ofNat (K0 + wn))), .unset, .unset, .unset, .unset, .unset] []))
  refine own_aload 773 Y22 at_771 rfl rfl rfl ?_
  refine own_iload 775 Y22 at_773 rfl rfl ?_
  refine own_iload 777 Y22 at_775 rfl rfl ?_
  refine own_lload 779 Y22 at_777 rfl rfl ?_
  refine own_aload 781 Y22 at_779 rfl rfl rfl ?_
  refine own_iconst 782 Y22 (3 : Int32) at_781 rfl rfl ?_
  refine own_laload 783 Y22 D.2.1 at_782 ⟨by decide, by decide⟩ (v := .long (1000 : Int64)) rfl rfl ?_
  refine own_iconst 784 Y22 (3 : Int32) at_783 rfl rfl ?_
  refine own_callS 787 Y22 [(.ref t), (.int (Int32.ofNat (K0 + wn))), (.int (Int32.ofNat wn)), (.long (Int64.ofNat vn)), (.long (1000 : Int64)), (.int (3 : Int32))] [] (own_wd hw 23 rfl) (own_wd hw 24 rfl) (own_wd hw 18 rfl) (own_wd hw 25 rfl) (c_dig l Z a0 hw t pa k_t k_pa _ (K0 + wn) wn vn 3 (Int32.ofNat wn) (3 : Int32) (Int64.ofNat vn) (1000 : Int64) _ n0 (by decide) gn_t ne_pa_t (own_olt (a := 3) (by decide) (by omega)) (fun z => own_ix (j := 3) (by omega)) (fun z => by omega) (own_dgv (j := 3) rfl hv2 (by decide)) ⟨D.1, D.2.1, D.2.2.1, Fr.nil n0⟩) at_784 (by decide) (lenOf pddig rfl) rfl rfl (by decide) (Nat.le_of_ble_eq_true rfl) (by decide) (by decide) rfl fun v23 T23 h23 L23 Y23 hQ23 => ?_
  obtain ⟨rfl, D23⟩ := hQ23
  have D := (⟨D23.1, D23.2.1, D23.2.2.1, D.2.2.2.app D23.2.2.2⟩ : WD Z _ n0 _ t _ _ pa _)
  show own_G p e below _ (T23.setTop (mkF m 787 #[.val (.int x0), .val (.int x1), .val (.long x2), .second, .val (.int x3), .val (.int x4), .val (.int x5), .val (.ref pa), .val (.int (Int32.ofNat wn)), .val (.long (Int64.ofNat vn)), .second, .val (.ref t), .val (.int pr), .val (.int po), .val (.int qq), .val (.int xx), .val (.int m1), .val (.int m2), .val (.int k0), .val (.int ms), .val (.int mk), .val (.int mm), .val (.int es), .val (.int (Int32.ofNat K0)), .val (.int (Int32.ofNat sn)), .val (.int (Int32.ofNat (K0 + wn))), .unset, .unset, .unset, .unset, .unset] []))
  refine own_aload 789 Y23 at_787 rfl rfl rfl ?_
  refine own_iload 791 Y23 at_789 rfl rfl ?_
  refine own_iload 793 Y23 at_791 rfl rfl ?_
  refine own_lload 795 Y23 at_793 rfl rfl ?_
  refine own_aload 797 Y23 at_795 rfl rfl rfl ?_
  refine own_iconst 798 Y23 (4 : Int32) at_797 rfl rfl ?_
  refine own_laload 799 Y23 D.2.1 at_798 ⟨by decide, by decide⟩ (v := .long (10000 : Int64)) rfl rfl ?_
  refine own_iconst 800 Y23 (4 : Int32) at_799 rfl rfl ?_
  refine own_callS 803 Y23 [(.ref t), (.int (Int32.ofNat (K0 + wn))), (.int (Int32.ofNat wn)), (.long (Int64.ofNat vn)), (.long (10000 : Int64)), (.int (4 : Int32))] [] (own_wd hw 23 rfl) (own_wd hw 24 rfl) (own_wd hw 18 rfl) (own_wd hw 25 rfl) (c_dig l Z a0 hw t pa k_t k_pa _ (K0 + wn) wn vn 4 (Int32.ofNat wn) (4 : Int32) (Int64.ofNat vn) (10000 : Int64) _ n0 (by decide) gn_t ne_pa_t (own_olt (a := 4) (by decide) (by omega)) (fun z => own_ix (j := 4) (by omega)) (fun z => by omega) (own_dgv (j := 4) rfl hv2 (by decide)) ⟨D.1, D.2.1, D.2.2.1, Fr.nil n0⟩) at_800 (by decide) (lenOf pddig rfl) rfl rfl (by decide) (Nat.le_of_ble_eq_true rfl) (by decide) (by decide) rfl fun v24 T24 h24 L24 Y24 hQ24 => ?_
  obtain ⟨rfl, D24⟩ := hQ24
  have D := (⟨D24.1, D24.2.1, D24.2.2.1, D.2.2.2.app D24.2.2.2⟩ : WD Z _ n0 _ t _ _ pa _)
  show own_G p e below _ (T24.setTop (mkF m 803 #[.val (.int x0), .val (.int x1), .val (.long x2), .second, .val (.int x3), .val (.int x4), .val (.int x5), .val (.ref pa), .val (.int (Int32.ofNat wn)), .val (.long (Int64.ofNat vn)), .second, .val (.ref t), .val (.int pr), .val (.int po), .val (.int qq), .val (.int xx), .val (.int m1), .val (.int m2), .val (.int k0), .val (.int ms), .val (.int mk), .val (.int mm), .val (.int es), .val (.int (Int32.ofNat K0)), .val (.int (Int32.ofNat sn)), .val (.int (Int32.ofNat (K0 + wn))), .unset, .unset, .unset, .unset, .unset] []))
  refine own_aload 805 Y24 at_803 rfl rfl rfl ?_
  refine own_iload 807 Y24 at_805 rfl rfl ?_
  refine own_iload 809 Y24 at_807 rfl rfl ?_
  refine own_lload 811 Y24 at_809 rfl rfl ?_
  refine own_aload 813 Y24 at_811 rfl rfl rfl ?_
  refine own_iconst 814 Y24 (5 : Int32) at_813 rfl rfl ?_
  refine own_laload 815 Y24 D.2.1 at_814 ⟨by decide, by decide⟩ (v := .long (100000 : Int64)) rfl rfl ?_
  refine own_iconst 816 Y24 (5 : Int32) at_815 rfl rfl ?_
  refine own_callS 819 Y24 [(.ref t), (.int (Int32.ofNat (K0 + wn))), (.int (Int32.ofNat wn)), (.long (Int64.ofNat vn)), (.long (100000 : Int64)), (.int (5 : Int32))] [] (own_wd hw 23 rfl) (own_wd hw 24 rfl) (own_wd hw 18 rfl) (own_wd hw 25 rfl) (c_dig l Z a0 hw t pa k_t k_pa _ (K0 + wn) wn vn 5 (Int32.ofNat wn) (5 : Int32) (Int64.ofNat vn) (100000 : Int64) _ n0 (by decide) gn_t ne_pa_t (own_olt (a := 5) (by decide) (by omega)) (fun z => own_ix (j := 5) (by omega)) (fun z => by omega) (own_dgv (j := 5) rfl hv2 (by decide)) ⟨D.1, D.2.1, D.2.2.1, Fr.nil n0⟩) at_816 (by decide) (lenOf pddig rfl) rfl rfl (by decide) (Nat.le_of_ble_eq_true rfl) (by decide) (by decide) rfl fun v25 T25 h25 L25 Y25 hQ25 => ?_
  obtain ⟨rfl, D25⟩ := hQ25
  have D := (⟨D25.1, D25.2.1, D25.2.2.1, D.2.2.2.app D25.2.2.2⟩ : WD Z _ n0 _ t _ _ pa _)
  show own_G p e below _ (T25.setTop (mkF m 819 #[.val (.int x0), .val (.int x1), .val (.long x2), .second, .val (.int x3), .val (.int x4), .val (.int x5), .val (.ref pa), .val (.int (Int32.ofNat wn)), .val (.long (Int64.ofNat vn)), .second, .val (.ref t), .val (.int pr), .val (.int po), .val (.int qq), .val (.int xx), .val (.int m1), .val (.int m2), .val (.int k0), .val (.int ms), .val (.int mk), .val (.int mm), .val (.int es), .val (.int (Int32.ofNat K0)), .val (.int (Int32.ofNat sn)), .val (.int (Int32.ofNat (K0 + wn))), .unset, .unset, .unset, .unset, .unset] []))
  refine own_aload 821 Y25 at_819 rfl rfl rfl ?_
  refine own_iload 823 Y25 at_821 rfl rfl ?_
  refine own_iload 825 Y25 at_823 rfl rfl ?_
  refine own_lload 827 Y25 at_825 rfl rfl ?_
  refine own_aload 829 Y25 at_827 rfl rfl rfl ?_
  refine own_bipush 831 Y25 (6 : Int32) at_829 rfl rfl ?_
  refine own_laload 832 Y25 D.2.1 at_831 ⟨by decide, by decide⟩ (v := .long (1000000 : Int64)) rfl rfl ?_
  refine own_bipush 834 Y25 (6 : Int32) at_832 rfl rfl ?_
  refine own_callS 837 Y25 [(.ref t), (.int (Int32.ofNat (K0 + wn))), (.int (Int32.ofNat wn)), (.long (Int64.ofNat vn)), (.long (1000000 : Int64)), (.int (6 : Int32))] [] (own_wd hw 23 rfl) (own_wd hw 24 rfl) (own_wd hw 18 rfl) (own_wd hw 25 rfl) (c_dig l Z a0 hw t pa k_t k_pa _ (K0 + wn) wn vn 6 (Int32.ofNat wn) (6 : Int32) (Int64.ofNat vn) (1000000 : Int64) _ n0 (by decide) gn_t ne_pa_t (own_olt (a := 6) (by decide) (by omega)) (fun z => own_ix (j := 6) (by omega)) (fun z => by omega) (own_dgv (j := 6) rfl hv2 (by decide)) ⟨D.1, D.2.1, D.2.2.1, Fr.nil n0⟩) at_834 (by decide) (lenOf pddig rfl) rfl rfl (by decide) (Nat.le_of_ble_eq_true rfl) (by decide) (by decide) rfl fun v26 T26 h26 L26 Y26 hQ26 => ?_
  obtain ⟨rfl, D26⟩ := hQ26
  have D := (⟨D26.1, D26.2.1, D26.2.2.1, D.2.2.2.app D26.2.2.2⟩ : WD Z _ n0 _ t _ _ pa _)
  show own_G p e below _ (T26.setTop (mkF m 837 #[.val (.int x0), .val (.int x1), .val (.long x2), .second, .val (.int x3), .val (.int x4), .val (.int x5), .val (.ref pa), .val (.int (Int32.ofNat wn)), .val (.long (Int64.ofNat vn)), .second, .val (.ref t), .val (.int pr), .val (.int po), .val (.int qq), .val (.int xx), .val (.int m1), .val (.int m2), .val (.int k0), .val (.int ms), .val (.int mk), .val (.int mm), .val (.int es), .val (.int (Int32.ofNat K0)), .val (.int (Int32.ofNat sn)), .val (.int (Int32.ofNat (K0 + wn))), .unset, .unset, .unset, .unset, .unset] []))
  refine own_aload 839 Y26 at_837 rfl rfl rfl ?_
  refine own_iload 841 Y26 at_839 rfl rfl ?_
  refine own_iload 843 Y26 at_841 rfl rfl ?_
  refine own_lload 845 Y26 at_843 rfl rfl ?_
  refine own_aload 847 Y26 at_845 rfl rfl rfl ?_
  refine own_bipush 849 Y26 (7 : Int32) at_847 rfl rfl ?_
  refine own_laload 850 Y26 D.2.1 at_849 ⟨by decide, by decide⟩ (v := .long (10000000 : Int64)) rfl rfl ?_
  refine own_bipush 852 Y26 (7 : Int32) at_850 rfl rfl ?_
  refine own_callS 855 Y26 [(.ref t), (.int (Int32.ofNat (K0 + wn))), (.int (Int32.ofNat wn)), (.long (Int64.ofNat vn)), (.long (10000000 : Int64)), (.int (7 : Int32))] [] (own_wd hw 23 rfl) (own_wd hw 24 rfl) (own_wd hw 18 rfl) (own_wd hw 25 rfl) (c_dig l Z a0 hw t pa k_t k_pa _ (K0 + wn) wn vn 7 (Int32.ofNat wn) (7 : Int32) (Int64.ofNat vn) (10000000 : Int64) _ n0 (by decide) gn_t ne_pa_t (own_olt (a := 7) (by decide) (by omega)) (fun z => own_ix (j := 7) (by omega)) (fun z => by omega) (own_dgv (j := 7) rfl hv2 (by decide)) ⟨D.1, D.2.1, D.2.2.1, Fr.nil n0⟩) at_852 (by decide) (lenOf pddig rfl) rfl rfl (by decide) (Nat.le_of_ble_eq_true rfl) (by decide) (by decide) rfl fun v27 T27 h27 L27 Y27 hQ27 => ?_
  obtain ⟨rfl, D27⟩ := hQ27
  have D := (⟨D27.1, D27.2.1, D27.2.2.1, D.2.2.2.app D27.2.2.2⟩ : WD Z _ n0 _ t _ _ pa _)
  show own_G p e below _ (T27.setTop (mkF m 855 #[.val (.int x0), .val (.int x1), .val (.long x2), .second, .val (.int x3), .val (.int x4), .val (.int x5), .val (.ref pa), .val (.int (Int32.ofNat wn)), .val (.long (Int64.ofNat vn)), .second, .val (.ref t), .val (.int pr), .val (.int po), .val (.int qq), .val (.int xx), .val (.int m1), .val (.int m2), .val (.int k0), .val (.int ms), .val (.int mk), .val (.int mm), .val (.int es), .val (.int (Int32.ofNat K0)), .val (.int (Int32.ofNat sn)), .val (.int (Int32.ofNat (K0 + wn))), .unset, .unset, .unset, .unset, .unset] []))
  refine own_aload 857 Y27 at_855 rfl rfl rfl ?_
  refine own_iload 859 Y27 at_857 rfl rfl ?_
  refine own_iload 861 Y27 at_859 rfl rfl ?_
  refine own_lload 863 Y27 at_861 rfl rfl ?_
  refine own_aload 865 Y27 at_863 rfl rfl rfl ?_
  refine own_bipush 867 Y27 (8 : Int32) at_865 rfl rfl ?_
  refine own_laload 868 Y27 D.2.1 at_867 ⟨by decide, by decide⟩ (v := .long (100000000 : Int64)) rfl rfl ?_
  refine own_bipush 870 Y27 (8 : Int32) at_868 rfl rfl ?_
  refine own_callS 873 Y27 [(.ref t), (.int (Int32.ofNat (K0 + wn))), (.int (Int32.ofNat wn)), (.long (Int64.ofNat vn)), (.long (100000000 : Int64)), (.int (8 : Int32))] [] (own_wd hw 23 rfl) (own_wd hw 24 rfl) (own_wd hw 18 rfl) (own_wd hw 25 rfl) (c_dig l Z a0 hw t pa k_t k_pa _ (K0 + wn) wn vn 8 (Int32.ofNat wn) (8 : Int32) (Int64.ofNat vn) (100000000 : Int64) _ n0 (by decide) gn_t ne_pa_t (own_olt (a := 8) (by decide) (by omega)) (fun z => own_ix (j := 8) (by omega)) (fun z => by omega) (own_dgv (j := 8) rfl hv2 (by decide)) ⟨D.1, D.2.1, D.2.2.1, Fr.nil n0⟩) at_870 (by decide) (lenOf pddig rfl) rfl rfl (by decide) (Nat.le_of_ble_eq_true rfl) (by decide) (by decide) rfl fun v28 T28 h28 L28 Y28 hQ28 => ?_
  obtain ⟨rfl, D28⟩ := hQ28
  have D := (⟨D28.1, D28.2.1, D28.2.2.1, D.2.2.2.app D28.2.2.2⟩ : WD Z _ n0 _ t _ _ pa _)
  show own_G p e below _ (T28.setTop (mkF m 873 #[.val (.int x0), .val (.int x1), .val (.long x2), .second, .val (.int x3), .val (.int x4), .val (.int x5), .val (.ref pa), .val (.int (Int32.ofNat wn)), .val (.long (Int64.ofNat vn)), .second, .val (.ref t), .val (.int pr), .val (.int po), .val (.int qq), .val (.int xx), .val (.int m1), .val (.int m2), .val (.int k0), .val (.int ms), .val (.int mk), .val (.int mm), .val (.int es), .val (.int (Int32.ofNat K0)), .val (.int (Int32.ofNat sn)), .val (.int (Int32.ofNat (K0 + wn))), .unset, .unset, .unset, .unset, .unset] []))
  refine own_aload 875 Y28 at_873 rfl rfl rfl ?_
  refine own_iload 877 Y28 at_875 rfl rfl ?_
  refine own_iload 879 Y28 at_877 rfl rfl ?_
  refine own_lload 881 Y28 at_879 rfl rfl ?_
  refine own_aload 883 Y28 at_881 rfl rfl rfl ?_
  refine own_bipush 885 Y28 (9 : Int32) at_883 rfl rfl ?_
  refine own_laload 886 Y28 D.2.1 at_885 ⟨by decide, by decide⟩ (v := .long (1000000000 : Int64)) rfl rfl ?_
  refine own_bipush 888 Y28 (9 : Int32) at_886 rfl rfl ?_
  refine own_callS 891 Y28 [(.ref t), (.int (Int32.ofNat (K0 + wn))), (.int (Int32.ofNat wn)), (.long (Int64.ofNat vn)), (.long (1000000000 : Int64)), (.int (9 : Int32))] [] (own_wd hw 23 rfl) (own_wd hw 24 rfl) (own_wd hw 18 rfl) (own_wd hw 25 rfl) (c_dig l Z a0 hw t pa k_t k_pa _ (K0 + wn) wn vn 9 (Int32.ofNat wn) (9 : Int32) (Int64.ofNat vn) (1000000000 : Int64) _ n0 (by decide) gn_t ne_pa_t (own_olt (a := 9) (by decide) (by omega)) (fun z => own_ix (j := 9) (by omega)) (fun z => by omega) (own_dgv (j := 9) rfl hv2 (by decide)) ⟨D.1, D.2.1, D.2.2.1, Fr.nil n0⟩) at_888 (by decide) (lenOf pddig rfl) rfl rfl (by decide) (Nat.le_of_ble_eq_true rfl) (by decide) (by decide) rfl fun v29 T29 h29 L29 Y29 hQ29 => ?_
  obtain ⟨rfl, D29⟩ := hQ29
  have D := (⟨D29.1, D29.2.1, D29.2.2.1, D.2.2.2.app D29.2.2.2⟩ : WD Z _ n0 _ t _ _ pa _)
  show own_G p e below _ (T29.setTop (mkF m 891 #[.val (.int x0), .val (.int x1), .val (.long x2), .second, .val (.int x3), .val (.int x4), .val (.int x5), .val (.ref pa), .val (.int (Int32.ofNat wn)), .val (.long (Int64.ofNat vn)), .second, .val (.ref t), .val (.int pr), .val (.int po), .val (.int qq), .val (.int xx), .val (.int m1), .val (.int m2), .val (.int k0), .val (.int ms), .val (.int mk), .val (.int mm), .val (.int es), .val (.int (Int32.ofNat K0)), .val (.int (Int32.ofNat sn)), .val (.int (Int32.ofNat (K0 + wn))), .unset, .unset, .unset, .unset, .unset] []))
  refine own_aload 893 Y29 at_891 rfl rfl rfl ?_
  refine own_iload 895 Y29 at_893 rfl rfl ?_
  refine own_iload 897 Y29 at_895 rfl rfl ?_
  refine own_lload 899 Y29 at_897 rfl rfl ?_
  refine own_aload 901 Y29 at_899 rfl rfl rfl ?_
  refine own_bipush 903 Y29 (10 : Int32) at_901 rfl rfl ?_
  refine own_laload 904 Y29 D.2.1 at_903 ⟨by decide, by decide⟩ (v := .long (10000000000 : Int64)) rfl rfl ?_
  refine own_bipush 906 Y29 (10 : Int32) at_904 rfl rfl ?_
  refine own_callS 909 Y29 [(.ref t), (.int (Int32.ofNat (K0 + wn))), (.int (Int32.ofNat wn)), (.long (Int64.ofNat vn)), (.long (10000000000 : Int64)), (.int (10 : Int32))] [] (own_wd hw 23 rfl) (own_wd hw 24 rfl) (own_wd hw 18 rfl) (own_wd hw 25 rfl) (c_dig l Z a0 hw t pa k_t k_pa _ (K0 + wn) wn vn 10 (Int32.ofNat wn) (10 : Int32) (Int64.ofNat vn) (10000000000 : Int64) _ n0 (by decide) gn_t ne_pa_t (own_olt (a := 10) (by decide) (by omega)) (fun z => own_ix (j := 10) (by omega)) (fun z => by omega) (own_dgv (j := 10) rfl hv2 (by decide)) ⟨D.1, D.2.1, D.2.2.1, Fr.nil n0⟩) at_906 (by decide) (lenOf pddig rfl) rfl rfl (by decide) (Nat.le_of_ble_eq_true rfl) (by decide) (by decide) rfl fun v30 T30 h30 L30 Y30 hQ30 => ?_
  obtain ⟨rfl, D30⟩ := hQ30
  have D := (⟨D30.1, D30.2.1, D30.2.2.1, D.2.2.2.app D30.2.2.2⟩ : WD Z _ n0 _ t _ _ pa _)
  show own_G p e below _ (T30.setTop (mkF m 909 #[.val (.int x0), .val (.int x1), .val (.long x2), .second, .val (.int x3), .val (.int x4), .val (.int x5), .val (.ref pa), .val (.int (Int32.ofNat wn)), .val (.long (Int64.ofNat vn)), .second, .val (.ref t), .val (.int pr), .val (.int po), .val (.int qq), .val (.int xx), .val (.int m1), .val (.int m2), .val (.int k0), .val (.int ms), .val (.int mk), .val (.int mm), .val (.int es), .val (.int (Int32.ofNat K0)), .val (.int (Int32.ofNat sn)), .val (.int (Int32.ofNat (K0 + wn))), .unset, .unset, .unset, .unset, .unset] []))
  refine own_aload 911 Y30 at_909 rfl rfl rfl ?_
  refine own_iload 913 Y30 at_911 rfl rfl ?_
  refine own_iload 915 Y30 at_913 rfl rfl ?_
  refine own_lload 917 Y30 at_915 rfl rfl ?_
  refine own_aload 919 Y30 at_917 rfl rfl rfl ?_
  refine own_bipush 921 Y30 (11 : Int32) at_919 rfl rfl ?_
  refine own_laload 922 Y30 D.2.1 at_921 ⟨by decide, by decide⟩ (v := .long (100000000000 : Int64)) rfl rfl ?_
  refine own_bipush 924 Y30 (11 : Int32) at_922 rfl rfl ?_
  refine own_callS 927 Y30 [(.ref t), (.int (Int32.ofNat (K0 + wn))), (.int (Int32.ofNat wn)), (.long (Int64.ofNat vn)), (.long (100000000000 : Int64)), (.int (11 : Int32))] [] (own_wd hw 23 rfl) (own_wd hw 24 rfl) (own_wd hw 18 rfl) (own_wd hw 25 rfl) (c_dig l Z a0 hw t pa k_t k_pa _ (K0 + wn) wn vn 11 (Int32.ofNat wn) (11 : Int32) (Int64.ofNat vn) (100000000000 : Int64) _ n0 (by decide) gn_t ne_pa_t (own_olt (a := 11) (by decide) (by omega)) (fun z => own_ix (j := 11) (by omega)) (fun z => by omega) (own_dgv (j := 11) rfl hv2 (by decide)) ⟨D.1, D.2.1, D.2.2.1, Fr.nil n0⟩) at_924 (by decide) (lenOf pddig rfl) rfl rfl (by decide) (Nat.le_of_ble_eq_true rfl) (by decide) (by decide) rfl fun v31 T31 h31 L31 Y31 hQ31 => ?_
  obtain ⟨rfl, D31⟩ := hQ31
  have D := (⟨D31.1, D31.2.1, D31.2.2.1, D.2.2.2.app D31.2.2.2⟩ : WD Z _ n0 _ t _ _ pa _)
  show own_G p e below _ (T31.setTop (mkF m 927 #[.val (.int x0), .val (.int x1), .val (.long x2), .second, .val (.int x3), .val (.int x4), .val (.int x5), .val (.ref pa), .val (.int (Int32.ofNat wn)), .val (.long (Int64.ofNat vn)), .second, .val (.ref t), .val (.int pr), .val (.int po), .val (.int qq), .val (.int xx), .val (.int m1), .val (.int m2), .val (.int k0), .val (.int ms), .val (.int mk), .val (.int mm), .val (.int es), .val (.int (Int32.ofNat K0)), .val (.int (Int32.ofNat sn)), .val (.int (Int32.ofNat (K0 + wn))), .unset, .unset, .unset, .unset, .unset] []))
  refine own_aload 929 Y31 at_927 rfl rfl rfl ?_
  refine own_iload 931 Y31 at_929 rfl rfl ?_
  refine own_iload 933 Y31 at_931 rfl rfl ?_
  refine own_putT 934 Y31 D gn_t ne_pa_t (k := (K0 + wn)) rfl (by omega) (c' := po) hpo at_933 rfl fun T32 h32 L32 Y32 D => ?_
  refine own_aload 936 Y32 at_934 rfl rfl rfl ?_
  refine own_iload 938 Y32 at_936 rfl rfl ?_
  refine own_iconst 939 Y32 (1 : Int32) at_938 rfl rfl ?_
  refine own_iadd 940 Y32 at_939 rfl ?_
  rw [own_oadd (K0 + wn)]
  refine own_iload 942 Y32 at_940 rfl rfl ?_
  refine own_putT 943 Y32 D gn_t ne_pa_t (k := (K0 + wn + 1)) rfl (by omega) (c' := po) hpo at_942 rfl fun T33 h33 L33 Y33 D => ?_
  refine own_aload 945 Y33 at_943 rfl rfl rfl ?_
  refine own_iload 947 Y33 at_945 rfl rfl ?_
  refine own_iload 949 Y33 at_947 rfl rfl ?_
  refine own_callS 952 Y33 [(.ref t), (.int (Int32.ofNat sn)), (.int (Int32.ofNat (K0 + wn)))] [] (own_wd hw 27 rfl) (own_wd hw 28 rfl) (own_wd hw 29 rfl) (own_wd hw 30 rfl) (c_ew l Z a0 hw t k_t _ sn (K0 + wn) _ D.1 (by omega) (by omega) exa n0 D.2.2.1 S_ex F_most) at_949 (by decide) (lenOf pdew rfl) rfl rfl (by decide) (Nat.le_of_ble_eq_true rfl) (by decide) (by decide) rfl fun v34 T34 h34 L34 Y34 hQ34 => ?_
  obtain ⟨rfl, rfl, r, i, rfl, hs1, hi1, hr1, hst1, hq0, hq1⟩ := hQ34
  show own_G p e below _ (T34.setTop (mkF m 952 #[.val (.int x0), .val (.int x1), .val (.long x2), .second, .val (.int x3), .val (.int x4), .val (.int x5), .val (.ref pa), .val (.int (Int32.ofNat wn)), .val (.long (Int64.ofNat vn)), .second, .val (.ref t), .val (.int pr), .val (.int po), .val (.int qq), .val (.int xx), .val (.int m1), .val (.int m2), .val (.int k0), .val (.int ms), .val (.int mk), .val (.int mm), .val (.int es), .val (.int (Int32.ofNat K0)), .val (.int (Int32.ofNat sn)), .val (.int (Int32.ofNat (K0 + wn))), .unset, .unset, .unset, .unset, .unset] [(.int r)]))
  refine own_istore 954 Y34 #[.val (.int x0), .val (.int x1), .val (.long x2), .second, .val (.int x3), .val (.int x4), .val (.int x5), .val (.ref pa), .val (.int (Int32.ofNat wn)), .val (.long (Int64.ofNat vn)), .second, .val (.ref t), .val (.int pr), .val (.int po), .val (.int qq), .val (.int xx), .val (.int m1), .val (.int m2), .val (.int k0), .val (.int ms), .val (.int mk), .val (.int mm), .val (.int es), .val (.int (Int32.ofNat K0)), .val (.int (Int32.ofNat sn)), .val (.int (Int32.ofNat (K0 + wn))), .val (.int r), .unset, .unset, .unset, .unset] at_952 rfl rfl ?_
  refine seg_tail (a0 := a0) hw hv2 (resT (ch := upd (upd (digs ch (K0 + wn) wn vn 12) (K0 + wn) po) (K0 + wn + 1) po) (p := K0) (w := wn) hvms hvmk hvmm hves hdm1 hdm2 hfx ?_ hK0 rfl ?_ hvn hs1 hi1 hr1 hst1 ⟨hq0, hq1⟩) (D.2.2.2.app (Fr.nil n0)) (by decide) (by decide) Y34
  · refine hF.congr fun j hj => ?_
    have hj2 : sn + j < K0 := by rw [hK0]; omega
    unfold upd; rw [if_neg (by omega), if_neg (by omega), digs_spec ch (K0 + wn) wn vn (by omega) 12 (sn + j) (by omega), if_neg (by omega)]
  · intro n hn
    unfold upd; rw [if_neg (by omega), if_neg (by omega), digs_spec ch (K0 + wn) wn vn (by omega) 12 (K0 + n) (by omega), if_pos (by omega), show K0 + wn - 1 - (K0 + n) = wn - 1 - n by omega]
set_option maxRecDepth 65536 in
set_option maxHeartbeats 40000000 in
theorem comes_1 {Post : Tables → Env → Array Value → State → Outcome → State → Prop} (hpost : ∀ tb e args s v u, (limb_1_1.after args s (.returned v) u = true ∧ limb_1_2.after args s (.returned v) u = true ∧ True) → FrameEnd s (.returned v) u (Jvm.fieldLocs frame_1_writes args s ++ Jvm.arrayLocs frame_1_arrays args s ++ Jvm.staticLocs frame_1_statics s) 16 192 → Post tb e args s (.returned v) u) :
    ArmFor flags0 classFile x code maxLocals ret World_1 tables_1 room_1 Calls_1 rest_1 Pre_1 Post := by
  intro l hfl _ _ p e ha hc hk s m args below hf hA hF happ hP
  obtain ⟨hcalls, hrest, hpre⟩ := hP
  obtain ⟨-, -, -, hnamed, -, -, -, hat⟩ := (Spec.applies_iff hf).mp happ
  obtain ⟨hg, hn⟩ := and_e (Cond.before_iff.mp (show (Jvm.Cond.and given_1 narrow_1).before args s = true from hpre))
  obtain ⟨g0, hg⟩ := and_e hg
  obtain ⟨g1, hg⟩ := and_e hg
  obtain ⟨g2, hg⟩ := and_e hg
  obtain ⟨g3, hg⟩ := and_e hg
  obtain ⟨g4, hg⟩ := and_e hg
  obtain ⟨g5, hg⟩ := and_e hg
  have g6 := hg
  obtain ⟨w0, w1, w2, w3, w4, w5, rfl⟩ : ∃ w0 w1 w2 w3 w4 w5 : Value, args = #[w0, w1, w2, w3, w4, w5] := by
    have hs : args.size = 6 := by simpa [Cond.value, given_1] using g0
    obtain ⟨L⟩ := args
    match L, hs with
    | [w0, w1, w2, w3, w4, w5], _ => exact ⟨w0, w1, w2, w3, w4, w5, rfl⟩
  have hw := fun d (hd : d ∈ tables_1) => atoms_spec (ws := Jvm.Cond.code x code maxLocals ret :: tables_1) hat d (List.mem_cons_of_mem _ hd)
  have hfit : Fit s := fun {y c} hc i hi => by
    obtain ⟨ha, rfl⟩ := Array.getElem?_eq_some_iff.mp hc
    have q := List.all_eq_true.mp ((Array.all_eq_true_iff_forall_mem.mp hF) _ (Array.getElem_mem ha)) i (List.mem_range.mpr hi)
    simpa [Array.getElem?_eq_getElem hi] using q
  obtain ⟨i0, ei0⟩ := is_v g1
  obtain rfl : w0 = (.int i0) := Option.some.inj ei0
  obtain ⟨i1, ei1⟩ := is_v g2
  obtain rfl : w1 = (.int i1) := Option.some.inj ei1
  obtain ⟨i2, ei2⟩ := isL_v g3
  obtain rfl : w2 = (.long i2) := Option.some.inj ei2
  obtain ⟨i3, ei3⟩ := is_v g4
  obtain rfl : w3 = (.int i3) := Option.some.inj ei3
  obtain ⟨i4, ei4⟩ := is_v g5
  obtain rfl : w4 = (.int i4) := Option.some.inj ei4
  obtain ⟨i5, ei5⟩ := is_v g6
  obtain rfl : w5 = (.int i5) := Option.some.inj ei5
  obtain ⟨n0, hn⟩ := and_e hn
  have n1 := hn
  obtain ⟨a_ReadLimit_EXPONENT, ev_ReadLimit_EXPONENT⟩ := exa_v n0
  have S_ReadLimit_EXPONENT : Sta s s.heap "com/example/cardinal_verbs/cardinalverbs/ReadLimit" "EXPONENT" "Lcom/example/cardinal_verbs/cardinalverbs/ReadLimit;" (.ref a_ReadLimit_EXPONENT) := Sta.start ev_ReadLimit_EXPONENT (Or.inr ⟨(own_wd hw 29 rfl), (own_wd hw 35 rfl)⟩)
  have E_ReadLimit_EXPONENT : Exa s s.heap a_ReadLimit_EXPONENT "com/example/cardinal_verbs/cardinalverbs/ReadLimit" := Exa.start ev_ReadLimit_EXPONENT n0
  have F_ReadLimit_EXPONENT_most : Fld s s.heap a_ReadLimit_EXPONENT "com/example/cardinal_verbs/cardinalverbs/ReadLimit" "most" "I" (.int (1000000000 : Int32)) := own_ord ev_ReadLimit_EXPONENT n1
  obtain ⟨n, o, h1, h2, h3, _, L, rfl, ⟨rfl, N⟩, hq⟩ := (c_law l s _ hw i0 i1 i2 i3 i4 i5 a_ReadLimit_EXPONENT s.heap s.heap.size (Nat.le_refl _) (Old.start s) S_ReadLimit_EXPONENT F_ReadLimit_EXPONENT_most) p e ha hc hk s m _ below hf ((Spec.applies_iff_loose hf).mp happ).1 ⟨rfl, State.Warmed39.refl s, rfl⟩ trivial
  refine ⟨n, _, h1, h2, h3, hpost _ _ _ _ _ _ ⟨Cond.after_iff.mpr rfl, Cond.after_iff.mpr (eq_i res_at (Term.int_eval (1)) rfl), trivial⟩ ⟨hq.1, hq.2.1, (hq.2.2.sift fun y hy => Or.inr (N y hy)).mono (by decide) (by decide)⟩⟩
theorem main_1_1 : Claimed_1_1 := comes_1 fun _ _ _ _ _ _ h hF => ⟨h.1, hF⟩
theorem main_1_2 : Claimed_1_2 := comes_1 fun _ _ _ _ _ _ h hF => ⟨h.2.1, hF⟩
end Jvm.Pilot.@@N@@
namespace Jvm.Pilot.@@N@@
open Jvm Jvm.ClassFile Sem Op Lib Jvm.Free Jvm.Stand Jvm.Pilot.@@N@@.Jvm.D
/-! MADE BY PROGRAM (witnessworld.py) out of the Statement's table words and the real class files: 16 classes; the members and pool entries that the words name. The judged class is class 1, her method 4. -/
namespace start1
open Jvm.ClassFile
def u (s : String) : CpInfo := .utf8 (stringToUtf16 s)
/-- a pool by its gaps: so many unusable entries, then the entry; so many at the end -/
def gap : Nat → List CpInfo → List CpInfo
  | 0, r => r
  | n + 1, r => .unusable :: gap n r
def poolList (es : List (Nat × CpInfo)) (last : Nat) : List CpInfo := es.foldr (fun e r => gap e.1 (e.2 :: r)) (gap last [])
def pool (es : List (Nat × CpInfo)) (last : Nat) : Array CpInfo := ⟨poolList es last⟩
def fileOf (pool : Array CpInfo) (this : Nat) (attrs : Array Attribute := #[]) (ms : Array MethodInfo := #[]) (fl : Nat := 33) (sup : Nat := 0) (ifs : Array Nat := #[]) (fds : Array FieldInfo := #[]) : ClassFile where
  minorVersion := 0
  majorVersion := 65
  constantPool := pool
  accessFlags := fl
  thisClass := this
  superClass := sup
  interfaces := ifs
  fields := fds
  methods := ms
  attributes := attrs
def plain (name : String) (sup : Option ClassId) : Class where
  name := name
  kind := .ordinary
  loader := none
  accessFlags := 33
  super := sup
  interfaces := #[]
  cf := none
  fields := #[]
  methods := #[]
  instanceTypes := #[]
  staticTypes := #[]
  resolved := #[]
  callSites := []
  init := .initialized
  statics := none
  mirror := none

def pool0 : Array CpInfo := pool [(5, u "<init>"), (0, u "()V"), (1, .class_ 10), (1, u "java/lang/Object")] 113

def k0m0 : Method := { name := "<init>", desc := "()V", sig := { parameters := [], returnType := none }, accessFlags := 1, code := none }
/-- java/lang/Object -/
def k0 : Class := { plain "java/lang/Object" none with
  accessFlags := 33
  interfaces := #[]
  cf := some (fileOf pool0 8 #[] #[{ accessFlags := 1, nameIndex := 5, descriptorIndex := 6, attributes := #[] }] 33 0 #[] #[])
  fields := #[]
  methods := #[k0m0]
  instanceTypes := #[]
  staticTypes := #[]
  resolved := Array.replicate 124 none
  statics := none }

def pool1 : Array CpInfo := pool [(2, .class_ 4), (1, u "java/lang/Object"), (0, u "<init>"), (0, u "()V"), (0, .integer 2147483647), (0, .integer 65535), (0, .long 48), (1, .long 10), (1, .long 100), (1, .long 1000), (1, .long 10000), (1, .long 100000), (1, .long 1000000), (1, .long 10000000), (1, .long 100000000), (1, .long 1000000000), (1, .long 10000000000), (1, .long 100000000000), (1, .long 1000000000000), (3, .long 9223372036854775807), (1, .methodref 40 41), (0, .class_ 42), (0, .nameAndType 43 44), (0, u "com/example/cardinal_verbs/cardinalverbs/ReadLimitExponentWithinPinLaw"), (0, u "any"), (0, u "(II)C"), (0, .methodref 40 46), (0, .nameAndType 47 48), (0, u "isDigit"), (0, u "(C)Z"), (0, .methodref 40 50), (0, .nameAndType 51 52), (0, u "dig"), (0, u "([CIIJJI)V"), (0, .methodref 54 55), (0, .class_ 56), (0, .nameAndType 57 58), (0, u "com/example/cardinal_verbs/cardinalverbs/ReadLimit"), (0, u "exponentWithin"), (0, u "([CII)Z"), (3, u "law"), (0, u "(IIJIII)Z")] 6

def k1m0 : Method := { name := "<init>", desc := "()V", sig := { parameters := [], returnType := none }, accessFlags := 1, code := none }
def k1c1 : Code := { maxStack := 2, maxLocals := 1, code := method_2_code, exceptionTable := #[], attributes := #[] }
def k1m1 : Method := { name := "isDigit", desc := "(C)Z", sig := { parameters := [.char], returnType := some .boolean }, accessFlags := 10, code := some k1c1 }
def k1c2 : Code := { maxStack := 3, maxLocals := 3, code := method_3_code, exceptionTable := #[], attributes := #[] }
def k1m2 : Method := { name := "any", desc := "(II)C", sig := { parameters := [.int, .int], returnType := some .char }, accessFlags := 10, code := some k1c2 }
def k1c3 : Code := { maxStack := 8, maxLocals := 8, code := method_4_code, exceptionTable := #[], attributes := #[] }
def k1m3 : Method := { name := "dig", desc := "([CIIJJI)V", sig := { parameters := [(.array .char), .int, .int, .long, .long, .int], returnType := none }, accessFlags := 10, code := some k1c3 }
def k1c4 : Code := { maxStack := 8, maxLocals := 31, code := code, exceptionTable := #[], attributes := #[] }
def k1m4 : Method := { name := "law", desc := "(IIJIII)Z", sig := { parameters := [.int, .int, .long, .int, .int, .int], returnType := some .boolean }, accessFlags := 9, code := some k1c4 }
/-- com/example/cardinal_verbs/cardinalverbs/ReadLimitExponentWithinPinLaw -/
def k1 : Class := { plain "com/example/cardinal_verbs/cardinalverbs/ReadLimitExponentWithinPinLaw" (some 0) with
  accessFlags := 49
  interfaces := #[]
  cf := some (fileOf pool1 40 #[] #[{ accessFlags := 1, nameIndex := 5, descriptorIndex := 6, attributes := #[] }, { accessFlags := 10, nameIndex := 47, descriptorIndex := 48, attributes := #[] }, { accessFlags := 10, nameIndex := 43, descriptorIndex := 44, attributes := #[] }, { accessFlags := 10, nameIndex := 51, descriptorIndex := 52, attributes := #[] }, { accessFlags := 9, nameIndex := 62, descriptorIndex := 63, attributes := #[] }] 49 2 #[] #[])
  fields := #[]
  methods := #[k1m0, k1m1, k1m2, k1m3, k1m4]
  instanceTypes := #[]
  staticTypes := #[]
  resolved := Array.replicate 70 none
  statics := none }

def pool2 : Array CpInfo := pool [(1, .class_ 2), (0, u "java/lang/constant/Constable"), (0, .class_ 4), (0, u "java/lang/Object")] 6

/-- java/lang/constant/Constable -/
def k2 : Class := { plain "java/lang/constant/Constable" (some 0) with
  accessFlags := 1537
  interfaces := #[]
  cf := some (fileOf pool2 1 #[] #[] 1537 3 #[] #[])
  fields := #[]
  methods := #[]
  instanceTypes := #[]
  staticTypes := #[]
  resolved := Array.replicate 11 none
  statics := none }

def pool3 : Array CpInfo := pool [(1, .class_ 2), (0, u "java/lang/Comparable"), (0, .class_ 4), (0, u "java/lang/Object")] 7

/-- java/lang/Comparable -/
def k3 : Class := { plain "java/lang/Comparable" (some 0) with
  accessFlags := 1537
  interfaces := #[]
  cf := some (fileOf pool3 1 #[] #[] 1537 3 #[] #[])
  fields := #[]
  methods := #[]
  instanceTypes := #[]
  staticTypes := #[]
  resolved := Array.replicate 12 none
  statics := none }

def pool4 : Array CpInfo := pool [(1, .class_ 2), (0, u "java/io/Serializable"), (0, .class_ 4), (0, u "java/lang/Object")] 2

/-- java/io/Serializable -/
def k4 : Class := { plain "java/io/Serializable" (some 0) with
  accessFlags := 1537
  interfaces := #[]
  cf := some (fileOf pool4 1 #[] #[] 1537 3 #[] #[])
  fields := #[]
  methods := #[]
  instanceTypes := #[]
  staticTypes := #[]
  resolved := Array.replicate 7 none
  statics := none }

def pool5 : Array CpInfo := pool [(2, .class_ 4), (1, u "java/lang/Enum"), (0, u "name"), (0, u "Ljava/lang/String;"), (2, u "ordinal"), (0, u "I"), (1, .class_ 14), (1, u "java/lang/Object"), (4, u "hash"), (86, .class_ 108), (1, u "java/lang/Enum$EnumDesc"), (2, .class_ 112), (0, u "java/lang/constant/Constable"), (0, .class_ 114), (0, u "java/lang/Comparable"), (0, .class_ 116), (0, u "java/io/Serializable")] 87

/-- java/lang/Enum -/
def k5 : Class := { plain "java/lang/Enum" (some 0) with
  accessFlags := 1057
  interfaces := #[2, 3, 4]
  cf := some (fileOf pool5 2 #[.nestMembers #[106]] #[] 1057 12 #[111, 113, 115] #[{ accessFlags := 18, nameIndex := 5, descriptorIndex := 6, attributes := #[] }, { accessFlags := 18, nameIndex := 9, descriptorIndex := 10, attributes := #[] }, { accessFlags := 2, nameIndex := 19, descriptorIndex := 10, attributes := #[] }])
  fields := #[{ name := "name", type := (.object "java/lang/String"), accessFlags := 18, slot := 0, constantValue := 0 }, { name := "ordinal", type := .int, accessFlags := 18, slot := 1, constantValue := 0 }, { name := "hash", type := .int, accessFlags := 2, slot := 2, constantValue := 0 }]
  methods := #[]
  instanceTypes := #[(.object "java/lang/String"), .int, .int]
  staticTypes := #[]
  resolved := Array.replicate 204 none
  statics := none }

def pool6 : Array CpInfo := pool [(1, .class_ 2), (0, u "com/example/cardinal_verbs/cardinalverbs/ReadLimit"), (2, u "NUMBER"), (0, u "Lcom/example/cardinal_verbs/cardinalverbs/ReadLimit;"), (0, .fieldref 1 8), (0, .nameAndType 9 6), (0, u "EXPONENT"), (2, u "NESTING"), (2, u "$VALUES"), (0, u "[Lcom/example/cardinal_verbs/cardinalverbs/ReadLimit;"), (6, .class_ 25), (1, u "java/lang/Enum"), (6, .fieldref 1 33), (0, .nameAndType 34 35), (0, u "most"), (0, u "I"), (2, u "past"), (0, u "Ljava/lang/String;"), (19, .methodref 1 60), (0, .nameAndType 61 62), (0, u "isDigit"), (0, u "(C)Z"), (0, .long 10), (1, .long 48), (1, .methodref 1 68), (0, .nameAndType 69 70), (0, u "isExponent"), (0, u "([CII)Z"), (0, .methodref 1 72), (0, .nameAndType 73 62), (0, u "isSign"), (27, u "exponentWithin")] 6

def k6c0 : Code := { maxStack := 4, maxLocals := 7, code := prog_13_method_6_code, exceptionTable := #[], attributes := #[] }
def k6m0 : Method := { name := "exponentWithin", desc := "([CII)Z", sig := { parameters := [(.array .char), .int, .int], returnType := some .boolean }, accessFlags := 8, code := some k6c0 }
def k6c1 : Code := { maxStack := 2, maxLocals := 7, code := prog_13_method_7_code, exceptionTable := #[], attributes := #[] }
def k6m1 : Method := { name := "isExponent", desc := "([CII)Z", sig := { parameters := [(.array .char), .int, .int], returnType := some .boolean }, accessFlags := 10, code := some k6c1 }
def k6c2 : Code := { maxStack := 2, maxLocals := 1, code := prog_13_method_8_code, exceptionTable := #[], attributes := #[] }
def k6m2 : Method := { name := "isDigit", desc := "(C)Z", sig := { parameters := [.char], returnType := some .boolean }, accessFlags := 10, code := some k6c2 }
def k6c3 : Code := { maxStack := 2, maxLocals := 1, code := prog_13_method_9_code, exceptionTable := #[], attributes := #[] }
def k6m3 : Method := { name := "isSign", desc := "(C)Z", sig := { parameters := [.char], returnType := some .boolean }, accessFlags := 10, code := some k6c3 }
/-- com/example/cardinal_verbs/cardinalverbs/ReadLimit -/
def k6 : Class := { plain "com/example/cardinal_verbs/cardinalverbs/ReadLimit" (some 5) with
  accessFlags := 16432
  interfaces := #[]
  cf := some (fileOf pool6 1 #[] #[{ accessFlags := 8, nameIndex := 101, descriptorIndex := 70, attributes := #[] }, { accessFlags := 10, nameIndex := 69, descriptorIndex := 70, attributes := #[] }, { accessFlags := 10, nameIndex := 61, descriptorIndex := 62, attributes := #[] }, { accessFlags := 10, nameIndex := 73, descriptorIndex := 62, attributes := #[] }] 16432 23 #[] #[{ accessFlags := 16409, nameIndex := 5, descriptorIndex := 6, attributes := #[] }, { accessFlags := 16409, nameIndex := 9, descriptorIndex := 6, attributes := #[] }, { accessFlags := 16409, nameIndex := 12, descriptorIndex := 6, attributes := #[] }, { accessFlags := 18, nameIndex := 34, descriptorIndex := 35, attributes := #[] }, { accessFlags := 18, nameIndex := 38, descriptorIndex := 39, attributes := #[] }, { accessFlags := 4122, nameIndex := 15, descriptorIndex := 16, attributes := #[] }])
  fields := #[{ name := "NUMBER", type := (.object "com/example/cardinal_verbs/cardinalverbs/ReadLimit"), accessFlags := 16409, slot := 0, constantValue := 0 }, { name := "EXPONENT", type := (.object "com/example/cardinal_verbs/cardinalverbs/ReadLimit"), accessFlags := 16409, slot := 1, constantValue := 0 }, { name := "NESTING", type := (.object "com/example/cardinal_verbs/cardinalverbs/ReadLimit"), accessFlags := 16409, slot := 2, constantValue := 0 }, { name := "most", type := .int, accessFlags := 18, slot := 3, constantValue := 0 }, { name := "past", type := (.object "java/lang/String"), accessFlags := 18, slot := 4, constantValue := 0 }, { name := "$VALUES", type := (.array (.object "com/example/cardinal_verbs/cardinalverbs/ReadLimit")), accessFlags := 4122, slot := 3, constantValue := 0 }]
  methods := #[k6m0, k6m1, k6m2, k6m3]
  instanceTypes := #[(.object "java/lang/String"), .int, .int, .int, (.object "java/lang/String")]
  staticTypes := #[(.object "com/example/cardinal_verbs/cardinalverbs/ReadLimit"), (.object "com/example/cardinal_verbs/cardinalverbs/ReadLimit"), (.object "com/example/cardinal_verbs/cardinalverbs/ReadLimit"), (.array (.object "com/example/cardinal_verbs/cardinalverbs/ReadLimit"))]
  resolved := Array.replicate 108 none
  statics := some 0 }

def pool7 : Array CpInfo := pool [(1, u "java/lang/Cloneable"), (0, .class_ 1), (0, u "java/lang/Object"), (0, .class_ 3)] 3

/-- java/lang/Cloneable -/
def k7 : Class := { plain "java/lang/Cloneable" (some 0) with
  accessFlags := 1537
  interfaces := #[]
  cf := some (fileOf pool7 2 #[] #[] 1537 4 #[] #[])
  fields := #[]
  methods := #[]
  instanceTypes := #[]
  staticTypes := #[]
  resolved := Array.replicate 8 none
  statics := none }

/-- the primitive byte -/
def k8 : Class := { plain "byte" none with kind := .primitive 'B', accessFlags := 0x411 }
/-- [B -/
def k9 : Class := { plain "[B" (some 0) with kind := .array 8 .byte, interfaces := #[7, 4], accessFlags := 1041 }

/-- the primitive char -/
def k10 : Class := { plain "char" none with kind := .primitive 'C', accessFlags := 0x411 }
/-- [C -/
def k11 : Class := { plain "[C" (some 0) with kind := .array 10 .char, interfaces := #[7, 4], accessFlags := 1041 }

/-- the primitive int -/
def k12 : Class := { plain "int" none with kind := .primitive 'I', accessFlags := 0x411 }
/-- [I -/
def k13 : Class := { plain "[I" (some 0) with kind := .array 12 .int, interfaces := #[7, 4], accessFlags := 1041 }

/-- the primitive long -/
def k14 : Class := { plain "long" none with kind := .primitive 'J', accessFlags := 0x411 }
/-- [J -/
def k15 : Class := { plain "[J" (some 0) with kind := .array 14 .long, interfaces := #[7, 4], accessFlags := 1041 }

def heap : Heap := #[{ cls := 6, slots := #[.null, .ref 1, .null, .null], vm := .statics 6 },
  { cls := 6, slots := #[.null, .int 0, .int 0, .int 1000000000, .null], vm := .none }]
def classes : Array Class := #[k0, k1, k2, k3, k4, k5, k6, k7, k8, k9, k10, k11, k12, k13, k14, k15]
def interned : List (Array UInt16 × Addr) := []
def slotsUsed : Nat := 9
def theMethod : MethodId := ⟨1, 4⟩
def args0 : Array Value := #[.int 5, .int 6, .long 7, .int 8, .int 9, .int 10]
def aboutOver (below : List Frame) : State where
  vm := { classes := classes, interned := interned.toArray }
  heap := heap
  slotsUsed := slotsUsed
  threads := #[{ frames := .invoking theMethod args0 :: below }]
def below0 : List Frame := [.native { method := ⟨0, 0⟩, args := #[] }]
def about1 : State := aboutOver below0
def p0 : Program := .bare "" "" ""
def e0 : Env := launch0.env 0 0 0
theorem w_frames : about1.frames = Frame.invoking theMethod args0 :: below0 := rfl
set_option maxRecDepth 65536 in
theorem w_args : argsFit about1.vm theMethod args0 = true := by decide +kernel
set_option maxRecDepth 65536 in
theorem w_heap : heapFits about1 = true := by decide +kernel
set_option maxRecDepth 65536 in
theorem w_runnable : about1.curStatus? = some .runnable := by decide +kernel
set_option maxRecDepth 65536 in
theorem w_alone : about1.alone = true := by decide +kernel
set_option maxRecDepth 65536 in
theorem w_named : about1.methodNamed? x = some theMethod := by decide +kernel
set_option maxRecDepth 65536 in
theorem w_hears : about1.hears theMethod below0 = true := by decide +kernel
set_option maxRecDepth 65536 in
theorem w_ripe : about1.ripe theMethod args0 below0 = true := by decide +kernel
theorem w_running : about1.status = .running := rfl
set_option maxRecDepth 65536 in
theorem w_room : about1.hasRoom e0.platform room_1 = true :=
  launch0.hasRoom_least _ room_1 (by decide +kernel) (by decide +kernel) (by decide +kernel) (by decide +kernel) (by decide +kernel) (by decide +kernel)
theorem allAtoms_all (ts : List Jvm.Cond) (a : Array Jvm.Value) (st : Jvm.State) : (allAtoms ts).before a st = ts.all (fun c => c.before a st) := by
  induction ts with
  | nil => rfl
  | cons c t ih =>
    show (Jvm.Cond.and c (allAtoms t)).before a st = _
    rw [Jvm.Cond.before_and, ih, List.all_cons]
def words1 : List Jvm.Cond := Jvm.Cond.code x code maxLocals ret :: tables_1
/-- a 'code' word, met by the world's own term for the bytes: nothing is compared byte by byte -/
theorem code_word {y : MethodName} {bytes : ByteArray} {mx : Nat} {rt : Option FieldType} {a : Array Value} {s : State} {m : MethodId} {meth : Method} {c : Code} (h1 : s.methodNamed? y = some m) (h2 : s.vm.method? m = some meth) (h3 : meth.code = some c) (h4 : c.code = bytes)
    (h5 : (c.maxLocals == mx && c.exceptionTable.isEmpty && decide (c.maxStack ≤ mostOperands) && decide (meth.sig.returnType = rt) && !meth.locks && decide (parseMethodDescriptor y.desc = some meth.sig)) = true) : (Jvm.Cond.code y bytes mx rt).before a s = true := by
  simp only [Bool.and_eq_true, beq_iff_eq, Bool.not_eq_true', decide_eq_true_eq] at h5
  obtain ⟨⟨⟨⟨⟨g1, g2⟩, g3⟩, g4⟩, g5⟩, g6⟩ := h5
  simp [Cond.before, Cond.holds, Cond.value, h1, h2, h3, h4, g1, g2, g3, g4, g5, g6]
def isCode : Jvm.Cond → Bool
  | .code _ _ _ _ => true
  | _ => false
theorem all_split {L : List Jvm.Cond} {P : Jvm.Cond → Bool} (h1 : L.all (fun c => isCode c || P c) = true) (h2 : ∀ c ∈ L.filter isCode, P c = true) : L.all P = true := by
  refine List.all_eq_true.mpr fun c hc => ?_
  have h := List.all_eq_true.mp h1 c hc
  rcases Bool.eq_false_or_eq_true (isCode c) with hi | hi
  · exact h2 c (List.mem_filter.mpr ⟨hc, hi⟩)
  · simpa [hi] using h
set_option maxRecDepth 65536 in
theorem w_c0 : (Jvm.Cond.code x code maxLocals ret).before args0 about1 = true := code_word (m := ⟨1, 4⟩) (meth := k1m4) (c := k1c4) (by decide +kernel) rfl rfl rfl (by decide +kernel)
set_option maxRecDepth 65536 in
theorem w_c1 : (Jvm.Cond.code ({ cls := "com/example/cardinal_verbs/cardinalverbs/ReadLimitExponentWithinPinLaw", name := "any", desc := "(II)C" } : Jvm.MethodName) method_3_code (3 : Nat) (Option.some Jvm.ClassFile.FieldType.char)).before args0 about1 = true := code_word (m := ⟨1, 2⟩) (meth := k1m2) (c := k1c2) (by decide +kernel) rfl rfl rfl (by decide +kernel)
set_option maxRecDepth 65536 in
theorem w_c2 : (Jvm.Cond.code ({ cls := "com/example/cardinal_verbs/cardinalverbs/ReadLimitExponentWithinPinLaw", name := "isDigit", desc := "(C)Z" } : Jvm.MethodName) method_2_code (1 : Nat) (Option.some Jvm.ClassFile.FieldType.boolean)).before args0 about1 = true := code_word (m := ⟨1, 1⟩) (meth := k1m1) (c := k1c1) (by decide +kernel) rfl rfl rfl (by decide +kernel)
set_option maxRecDepth 65536 in
theorem w_c3 : (Jvm.Cond.code ({ cls := "com/example/cardinal_verbs/cardinalverbs/ReadLimitExponentWithinPinLaw", name := "dig", desc := "([CIIJJI)V" } : Jvm.MethodName) method_4_code (8 : Nat) (Option.none : Option Jvm.ClassFile.FieldType)).before args0 about1 = true := code_word (m := ⟨1, 3⟩) (meth := k1m3) (c := k1c3) (by decide +kernel) rfl rfl rfl (by decide +kernel)
set_option maxRecDepth 65536 in
theorem w_c4 : (Jvm.Cond.code ({ cls := "com/example/cardinal_verbs/cardinalverbs/ReadLimit", name := "exponentWithin", desc := "([CII)Z" } : Jvm.MethodName) prog_13_method_6_code (7 : Nat) (Option.some Jvm.ClassFile.FieldType.boolean)).before args0 about1 = true := code_word (m := ⟨6, 0⟩) (meth := k6m0) (c := k6c0) (by decide +kernel) rfl rfl rfl (by decide +kernel)
set_option maxRecDepth 65536 in
theorem w_c5 : (Jvm.Cond.code ({ cls := "com/example/cardinal_verbs/cardinalverbs/ReadLimit", name := "isDigit", desc := "(C)Z" } : Jvm.MethodName) prog_13_method_8_code (1 : Nat) (Option.some Jvm.ClassFile.FieldType.boolean)).before args0 about1 = true := code_word (m := ⟨6, 2⟩) (meth := k6m2) (c := k6c2) (by decide +kernel) rfl rfl rfl (by decide +kernel)
set_option maxRecDepth 65536 in
theorem w_c6 : (Jvm.Cond.code ({ cls := "com/example/cardinal_verbs/cardinalverbs/ReadLimit", name := "isExponent", desc := "([CII)Z" } : Jvm.MethodName) prog_13_method_7_code (7 : Nat) (Option.some Jvm.ClassFile.FieldType.boolean)).before args0 about1 = true := code_word (m := ⟨6, 1⟩) (meth := k6m1) (c := k6c1) (by decide +kernel) rfl rfl rfl (by decide +kernel)
set_option maxRecDepth 65536 in
theorem w_c7 : (Jvm.Cond.code ({ cls := "com/example/cardinal_verbs/cardinalverbs/ReadLimit", name := "isSign", desc := "(C)Z" } : Jvm.MethodName) prog_13_method_9_code (1 : Nat) (Option.some Jvm.ClassFile.FieldType.boolean)).before args0 about1 = true := code_word (m := ⟨6, 3⟩) (meth := k6m3) (c := k6c3) (by decide +kernel) rfl rfl rfl (by decide +kernel)
def codes1 : List Jvm.Cond := [Jvm.Cond.code x code maxLocals ret, Jvm.Cond.code ({ cls := "com/example/cardinal_verbs/cardinalverbs/ReadLimitExponentWithinPinLaw", name := "any", desc := "(II)C" } : Jvm.MethodName) method_3_code (3 : Nat) (Option.some Jvm.ClassFile.FieldType.char), Jvm.Cond.code ({ cls := "com/example/cardinal_verbs/cardinalverbs/ReadLimitExponentWithinPinLaw", name := "isDigit", desc := "(C)Z" } : Jvm.MethodName) method_2_code (1 : Nat) (Option.some Jvm.ClassFile.FieldType.boolean), Jvm.Cond.code ({ cls := "com/example/cardinal_verbs/cardinalverbs/ReadLimitExponentWithinPinLaw", name := "dig", desc := "([CIIJJI)V" } : Jvm.MethodName) method_4_code (8 : Nat) (Option.none : Option Jvm.ClassFile.FieldType), Jvm.Cond.code ({ cls := "com/example/cardinal_verbs/cardinalverbs/ReadLimit", name := "exponentWithin", desc := "([CII)Z" } : Jvm.MethodName) prog_13_method_6_code (7 : Nat) (Option.some Jvm.ClassFile.FieldType.boolean), Jvm.Cond.code ({ cls := "com/example/cardinal_verbs/cardinalverbs/ReadLimit", name := "isDigit", desc := "(C)Z" } : Jvm.MethodName) prog_13_method_8_code (1 : Nat) (Option.some Jvm.ClassFile.FieldType.boolean), Jvm.Cond.code ({ cls := "com/example/cardinal_verbs/cardinalverbs/ReadLimit", name := "isExponent", desc := "([CII)Z" } : Jvm.MethodName) prog_13_method_7_code (7 : Nat) (Option.some Jvm.ClassFile.FieldType.boolean), Jvm.Cond.code ({ cls := "com/example/cardinal_verbs/cardinalverbs/ReadLimit", name := "isSign", desc := "(C)Z" } : Jvm.MethodName) prog_13_method_9_code (1 : Nat) (Option.some Jvm.ClassFile.FieldType.boolean)]
set_option maxRecDepth 65536 in
theorem codes_eq : words1.filter isCode = codes1 := rfl
theorem w_codes : ∀ c ∈ words1.filter isCode, c.before args0 about1 = true := by
  rw [codes_eq]
  intro c hc
  simp only [codes1, List.mem_cons, List.not_mem_nil, or_false] at hc
  rcases hc with rfl | rfl | rfl | rfl | rfl | rfl | rfl | rfl
  · exact w_c0
  · exact w_c1
  · exact w_c2
  · exact w_c3
  · exact w_c4
  · exact w_c5
  · exact w_c6
  · exact w_c7
set_option maxRecDepth 65536 in
theorem w_t1 : (words1.take 24).all (fun c => isCode c || c.before args0 about1) = true := by decide +kernel
set_option maxRecDepth 65536 in
theorem w_t2 : (words1.drop 24).all (fun c => isCode c || c.before args0 about1) = true := by decide +kernel
theorem w_tables : (allAtoms (Jvm.Cond.code x code maxLocals ret :: tables_1)).before args0 about1 = true := by
  rw [allAtoms_all]
  show words1.all (fun c => c.before args0 about1) = true
  refine all_split ?_ w_codes
  rw [← List.take_append_drop 24 words1, List.all_append, w_t1, w_t2]
  rfl
set_option maxRecDepth 65536 in
theorem w_case : (Jvm.Cond.and given_1 narrow_1).before args0 about1 = true := by decide +kernel
theorem w_applies : (headSpec (Jvm.Cond.code x code maxLocals ret :: tables_1) room_1).applies x e0.platform about1 = true :=
  (Spec.applies_iff w_frames).mpr ⟨w_running, w_runnable, w_alone, w_named, w_hears, w_ripe, w_room, w_tables⟩
theorem atStart : AtStart classFile x code maxLocals ret World_1 tables_1 room_1 Calls_1 rest_1 Pre_1 launch0 p0 e0 about1 theMethod args0 below0 :=
  ⟨lists_1, trivial, launch0.admits_env _ _ _, launch0.least_env, fairChoices_fair.cas, fairChoices_fair.clock, w_frames, w_args, w_heap, w_applies, trivial, trivial, w_case⟩
end start1
theorem witness_1 : WitnessClaimed_1 := ⟨start1.p0, start1.e0, start1.about1, start1.theMethod, start1.args0, start1.below0, start1.atStart⟩
end Jvm.Pilot.@@N@@
