import JvmDerived
import JvmDerived.Pilot.@@N@@Statement
import JvmDerived.Pilot.@@N@@Code
set_option linter.unusedVariables false
set_option linter.unusedSimpArgs false
namespace Jvm.Pilot.@@N@@
open Jvm Jvm.ClassFile Sem Op Lib Jvm.Free Jvm.Stand Jvm.LawKit Jvm.RoadKit Bundle Jvm.Pilot.@@N@@.Jvm.D

section Own
variable {p : Program} {l : Launch} {e : Env} {R : Room} {s : State} {m : MethodId} {args : Array Value} {below : List Frame} {meth : Method} {c : Code} {T : State} {locs : List Loc} {cells slots : Nat} {Z : State} {h : Heap} {y : MethodName} {bytes : ByteArray} {maxL : Nat} {ret : Option FieldType} {E : Outcome → State → Prop} {Q : Option Value → Heap → List Loc → Prop} {kc ks : Nat} {Ls : Array Slot} {st : List Value} {pc : Nat} {a0 : Array Value}
/-- what stays as it is through the walk of one body -/
def own_C (Z : State) (y : MethodName) (bytes : ByteArray) (maxL : Nat) (ret : Option FieldType) (p : Program) (s : State) (m : MethodId) (meth : Method) (c : Code) : Prop :=
  p.tables.exec = Jvm.exec ∧ c.code = bytes ∧ c.maxLocals = maxL ∧ s.vm.findClass y.cls = some m.cls ∧ Z.Warmed39 s.vm ∧ meth.sig.returnType = ret ∧ meth.locks = false ∧ meth.name = y.name
/-- the walk stands at T, whose heap is h -/
def own_S (Z : State) (y : MethodName) (bytes : ByteArray) (maxL : Nat) (ret : Option FieldType) (p : Program) (l : Launch) (e : Env) (R : Room) (s : State) (m : MethodId) (args : Array Value) (below : List Frame) (meth : Method) (c : Code) (T : State) (h : Heap) (locs : List Loc) (cells slots : Nat) : Prop :=
  own_C Z y bytes maxL ret p s m meth c ∧ Stand p l e R s m args below meth c T locs cells slots ∧ T.heap = h
/-- from S the run ends, and its end is as Q says -/
def own_G (p : Program) (e : Env) (below : List Frame) (E : Outcome → State → Prop) (S : State) : Prop :=
  ∃ t o, Steps p.tables e below S t ∧ t.status = .running ∧ Ended t below o ∧ E o t
def own_E (s : State) (Q : Option Value → Heap → List Loc → Prop) (kc ks : Nat) (o : Outcome) (t : State) : Prop := ∃ v L, o = .returned v ∧ Q v t.heap L ∧ FrameEnd s o t L kc ks
theorem own_st {S S' : State} (hs : ∀ t, Steps p.tables e below S' t → Steps p.tables e below S t) (K : own_G p e below E S') : own_G p e below E S := by
  obtain ⟨t, o, h1, r⟩ := K
  exact ⟨t, o, hs t h1, r⟩
theorem own_S.x (Y : own_S Z y bytes maxL ret p l e R s m args below meth c T h locs cells slots) : p.tables.exec = Jvm.exec := Y.1.1
theorem own_S.d (Y : own_S Z y bytes maxL ret p l e R s m args below meth c T h locs cells slots) {pc : Nat} {r : Except ClassFile.DecodeError (ClassFile.Instr × Nat)} (hd : decode bytes pc = r) : decode c.code pc = r := hb Y.1.2.1 hd
theorem own_S.own (Y : own_S Z y bytes maxL ret p l e R s m args below meth c T h locs cells slots) : s.vm.findClass y.cls = some m.cls := Y.1.2.2.2.1
theorem own_S.warm (Y : own_S Z y bytes maxL ret p l e R s m args below meth c T h locs cells slots) : Z.Warmed39 s.vm := Y.1.2.2.2.2.1
theorem own_S.X (Y : own_S Z y bytes maxL ret p l e R s m args below meth c T h locs cells slots) : Stand p l e R s m args below meth c T locs cells slots := Y.2.1
theorem own_S.eT (Y : own_S Z y bytes maxL ret p l e R s m args below meth c T h locs cells slots) : T.heap = h := Y.2.2
/-- the contract of a body -/
def own_M (l : Launch) (y : MethodName) (bytes : ByteArray) (maxL : Nat) (ret : Option FieldType) (ws : List Jvm.Cond) (rm : Room) (Z : State) (as' : Array Value) (h : Heap) (Q : Option Value → Heap → List Loc → Prop) : Prop :=
  MetFree l y (head1 (Jvm.Cond.code y bytes maxL ret :: ws) rm) (fun a U => a = as' ∧ Z.Warmed39 U.vm ∧ U.heap = h) (fun _ _ _ _ _ => True) (fun _ U o U' => ∃ v L, o = .returned v ∧ Q v U'.heap L ∧ FrameEnd U o U' L rm.cells rm.slots)
theorem own_met {ws : List Jvm.Cond} {rm : Room} {as' : Array Value} (hp : plainFor y = true) {Lf : Array Slot} (hE : ∀ m, entryFrame m as' maxL = mkF m 0 Lf [])
    (body : ∀ p e s m below meth c T, own_S Z y bytes maxL ret p l e rm s m as' below meth c T h [] 0 0 → own_G p e below (own_E s Q rm.cells rm.slots) (T.setTop (mkF m 0 Lf []))) : own_M l y bytes maxL ret ws rm Z as' h Q := by
  refine MetFree.of_bodySF (maxLocals := maxL) hp hisR ?_
  intro p e s m args below meth c s₁ Bd hml0 hP hK
  obtain ⟨rfl, hZ, hh⟩ := hP
  obtain ⟨t, o, h1, h2, h3, h4⟩ := body p e s m below meth c s₁ ⟨⟨Bd.exec, Bd.bytes, hml0, findClass_of_methodNamed Bd.named, hZ, Bd.returns, Bd.notSynchronized, (name_of_methodNamed Bd.named Bd.method).1⟩, Stand.of_body Bd, by rw [← hh, Bd.state]; rfl⟩
  exact ⟨t, o, castTop (hE m) h1, h2, h3, h4⟩
theorem own_wd {ts : List Jvm.Cond} (hw : ∀ d ∈ ts, d.before a0 Z = true) (i : Nat) {d : Jvm.Cond} (hi : ts[i]? = some d) : d.before a0 Z = true := hw d (List.mem_of_getElem? hi)
theorem own_M.weak {ws : List Jvm.Cond} {rm : Room} {as' : Array Value} {Q' : Option Value → Heap → List Loc → Prop} (M : own_M l y bytes maxL ret ws rm Z as' h Q) (hQ : ∀ v h' L, Q v h' L → Q' v h' L) : own_M l y bytes maxL ret ws rm Z as' h Q' := by
  intro p e ha hc hk s m args below hf happ hP hK
  obtain ⟨n, o, h1, h2, h3, v, L, h4, h5, h6⟩ := M p e ha hc hk s m args below hf happ hP hK
  exact ⟨n, o, h1, h2, h3, v, L, h4, hQ _ _ _ h5, h6⟩
theorem own_aloadN (pc' : Nat) (Y : own_S Z y bytes maxL ret p l e R s m args below meth c T h locs cells slots) {k : Fin 4} {v : Value} (hd : decode bytes pc = .ok (.aload_n k, 1)) (hl : Ls[k.val]? = some (.val v)) (hv : v.isRef = true) (hp : pc + 1 = pc') (K : own_G p e below E (T.setTop (mkF m pc' Ls (v :: st)))) : own_G p e below E (T.setTop (mkF m pc Ls (st))) := by
  subst hp
  exact own_st (fun t k => XS.aloadN Y.X.here Y.x rfl (Y.d hd) hl hv k) K
theorem own_aload (pc' : Nat) (Y : own_S Z y bytes maxL ret p l e R s m args below meth c T h locs cells slots) {k : Nat} {v : Value} (hd : decode bytes pc = .ok (.aload k, 2)) (hl : Ls[k]? = some (.val v)) (hv : v.isRef = true) (hp : pc + 2 = pc') (K : own_G p e below E (T.setTop (mkF m pc' Ls (v :: st)))) : own_G p e below E (T.setTop (mkF m pc Ls (st))) := by
  subst hp
  exact own_st (fun t k => XS.aload Y.X.here Y.x rfl (Y.d hd) hl hv k) K
theorem own_iloadN (pc' : Nat) (Y : own_S Z y bytes maxL ret p l e R s m args below meth c T h locs cells slots) {k : Fin 4} {v : Int32} (hd : decode bytes pc = .ok (.iload_n k, 1)) (hl : Ls[k.val]? = some (.val (.int v))) (hp : pc + 1 = pc') (K : own_G p e below E (T.setTop (mkF m pc' Ls (.int v :: st)))) : own_G p e below E (T.setTop (mkF m pc Ls (st))) := by
  subst hp
  exact own_st (fun t k => XS.iloadN Y.X.here Y.x rfl (Y.d hd) hl k) K
theorem own_iload (pc' : Nat) (Y : own_S Z y bytes maxL ret p l e R s m args below meth c T h locs cells slots) {k : Nat} {v : Int32} (hd : decode bytes pc = .ok (.iload k, 2)) (hl : Ls[k]? = some (.val (.int v))) (hp : pc + 2 = pc') (K : own_G p e below E (T.setTop (mkF m pc' Ls (.int v :: st)))) : own_G p e below E (T.setTop (mkF m pc Ls (st))) := by
  subst hp
  exact own_st (fun t k => XS.iload Y.X.here Y.x rfl (Y.d hd) hl k) K
theorem own_lloadN (pc' : Nat) (Y : own_S Z y bytes maxL ret p l e R s m args below meth c T h locs cells slots) {k : Fin 4} {v : Int64} (hd : decode bytes pc = .ok (.lload_n k, 1)) (hl : Ls[k.val]? = some (.val (.long v))) (hp : pc + 1 = pc') (K : own_G p e below E (T.setTop (mkF m pc' Ls (.long v :: st)))) : own_G p e below E (T.setTop (mkF m pc Ls (st))) := by
  subst hp
  exact own_st (fun t k => XS.lloadN Y.X.here Y.x rfl (Y.d hd) hl k) K
theorem own_lload (pc' : Nat) (Y : own_S Z y bytes maxL ret p l e R s m args below meth c T h locs cells slots) {k : Nat} {v : Int64} (hd : decode bytes pc = .ok (.lload k, 2)) (hl : Ls[k]? = some (.val (.long v))) (hp : pc + 2 = pc') (K : own_G p e below E (T.setTop (mkF m pc' Ls (.long v :: st)))) : own_G p e below E (T.setTop (mkF m pc Ls (st))) := by
  subst hp
  exact own_st (fun t k => XS.lload Y.X.here Y.x rfl (Y.d hd) hl k) K
theorem own_iconst (pc' : Nat) (Y : own_S Z y bytes maxL ret p l e R s m args below meth c T h locs cells slots) {i : Int} (v : Int32) (hd : decode bytes pc = .ok (.iconst i, 1)) (hv : Int32.ofInt i = v) (hp : pc + 1 = pc') (K : own_G p e below E (T.setTop (mkF m pc' Ls (.int v :: st)))) : own_G p e below E (T.setTop (mkF m pc Ls (st))) := by
  subst hp
  exact own_st (fun t k => XT.iconstV Y.X.here Y.x rfl v (Y.d hd) hv k) K
theorem own_bipush (pc' : Nat) (Y : own_S Z y bytes maxL ret p l e R s m args below meth c T h locs cells slots) {i : Int} (v : Int32) (hd : decode bytes pc = .ok (.bipush i, 2)) (hv : (Int8.ofInt i).toInt32 = v) (hp : pc + 2 = pc') (K : own_G p e below E (T.setTop (mkF m pc' Ls (.int v :: st)))) : own_G p e below E (T.setTop (mkF m pc Ls (st))) := by
  subst hp
  exact own_st (fun t k => XT.bipushV Y.X.here Y.x rfl v (Y.d hd) hv k) K
theorem own_sipush (pc' : Nat) (Y : own_S Z y bytes maxL ret p l e R s m args below meth c T h locs cells slots) {i : Int} (v : Int32) (hd : decode bytes pc = .ok (.sipush i, 3)) (hv : (Int16.ofInt i).toInt32 = v) (hp : pc + 3 = pc') (K : own_G p e below E (T.setTop (mkF m pc' Ls (.int v :: st)))) : own_G p e below E (T.setTop (mkF m pc Ls (st))) := by
  subst hp
  exact own_st (fun t k => XT.sipushV Y.X.here Y.x rfl v (Y.d hd) hv k) K
theorem own_lconst (pc' : Nat) (Y : own_S Z y bytes maxL ret p l e R s m args below meth c T h locs cells slots) {i : Fin 2} (v : Int64) (hd : decode bytes pc = .ok (.lconst i, 1)) (hv : Int64.ofNat i = v) (hp : pc + 1 = pc') (K : own_G p e below E (T.setTop (mkF m pc' Ls (.long v :: st)))) : own_G p e below E (T.setTop (mkF m pc Ls (st))) := by
  subst hp
  exact own_st (fun t k => XT.lconstV Y.X.here Y.x rfl v (Y.d hd) hv k) K
theorem own_aconst_null (pc' : Nat) (Y : own_S Z y bytes maxL ret p l e R s m args below meth c T h locs cells slots)  (hd : decode bytes pc = .ok (.aconst_null, 1))  (hp : pc + 1 = pc') (K : own_G p e below E (T.setTop (mkF m pc' Ls (.null :: st)))) : own_G p e below E (T.setTop (mkF m pc Ls (st))) := by
  subst hp
  exact own_st (fun t k => XS.aconstNull Y.X.here Y.x rfl (Y.d hd) k) K
theorem own_iadd (pc' : Nat) (Y : own_S Z y bytes maxL ret p l e R s m args below meth c T h locs cells slots) {x z : Int32} (hd : decode bytes pc = .ok (.iadd, 1))  (hp : pc + 1 = pc') (K : own_G p e below E (T.setTop (mkF m pc' Ls (.int (x + z) :: st)))) : own_G p e below E (T.setTop (mkF m pc Ls (.int z :: .int x :: st))) := by
  subst hp
  exact own_st (fun t k => XS.iadd Y.X.here Y.x rfl (Y.d hd) rfl k) K
theorem own_isub (pc' : Nat) (Y : own_S Z y bytes maxL ret p l e R s m args below meth c T h locs cells slots) {x z : Int32} (hd : decode bytes pc = .ok (.isub, 1))  (hp : pc + 1 = pc') (K : own_G p e below E (T.setTop (mkF m pc' Ls (.int (x - z) :: st)))) : own_G p e below E (T.setTop (mkF m pc Ls (.int z :: .int x :: st))) := by
  subst hp
  exact own_st (fun t k => XS.isub Y.X.here Y.x rfl (Y.d hd) rfl k) K
theorem own_imul (pc' : Nat) (Y : own_S Z y bytes maxL ret p l e R s m args below meth c T h locs cells slots) {x z : Int32} (hd : decode bytes pc = .ok (.imul, 1))  (hp : pc + 1 = pc') (K : own_G p e below E (T.setTop (mkF m pc' Ls (.int (x * z) :: st)))) : own_G p e below E (T.setTop (mkF m pc Ls (.int z :: .int x :: st))) := by
  subst hp
  exact own_st (fun t k => XS.imul Y.X.here Y.x rfl (Y.d hd) rfl k) K
theorem own_iand (pc' : Nat) (Y : own_S Z y bytes maxL ret p l e R s m args below meth c T h locs cells slots) {x z : Int32} (hd : decode bytes pc = .ok (.iand, 1))  (hp : pc + 1 = pc') (K : own_G p e below E (T.setTop (mkF m pc' Ls (.int (x &&& z) :: st)))) : own_G p e below E (T.setTop (mkF m pc Ls (.int z :: .int x :: st))) := by
  subst hp
  exact own_st (fun t k => XS.iand Y.X.here Y.x rfl (Y.d hd) rfl k) K
theorem own_ior (pc' : Nat) (Y : own_S Z y bytes maxL ret p l e R s m args below meth c T h locs cells slots) {x z : Int32} (hd : decode bytes pc = .ok (.ior, 1))  (hp : pc + 1 = pc') (K : own_G p e below E (T.setTop (mkF m pc' Ls (.int (x ||| z) :: st)))) : own_G p e below E (T.setTop (mkF m pc Ls (.int z :: .int x :: st))) := by
  subst hp
  exact own_st (fun t k => XS.ior Y.X.here Y.x rfl (Y.d hd) rfl k) K
theorem own_ixor (pc' : Nat) (Y : own_S Z y bytes maxL ret p l e R s m args below meth c T h locs cells slots) {x z : Int32} (hd : decode bytes pc = .ok (.ixor, 1))  (hp : pc + 1 = pc') (K : own_G p e below E (T.setTop (mkF m pc' Ls (.int (x ^^^ z) :: st)))) : own_G p e below E (T.setTop (mkF m pc Ls (.int z :: .int x :: st))) := by
  subst hp
  exact own_st (fun t k => XS.ixor Y.X.here Y.x rfl (Y.d hd) rfl k) K
theorem own_ishl (pc' : Nat) (Y : own_S Z y bytes maxL ret p l e R s m args below meth c T h locs cells slots) {x z : Int32} (hd : decode bytes pc = .ok (.ishl, 1))  (hp : pc + 1 = pc') (K : own_G p e below E (T.setTop (mkF m pc' Ls (.int (x <<< (z &&& 31)) :: st)))) : own_G p e below E (T.setTop (mkF m pc Ls (.int z :: .int x :: st))) := by
  subst hp
  exact own_st (fun t k => XS.ishl Y.X.here Y.x rfl (Y.d hd) rfl k) K
theorem own_ishr (pc' : Nat) (Y : own_S Z y bytes maxL ret p l e R s m args below meth c T h locs cells slots) {x z : Int32} (hd : decode bytes pc = .ok (.ishr, 1))  (hp : pc + 1 = pc') (K : own_G p e below E (T.setTop (mkF m pc' Ls (.int (x >>> (z &&& 31)) :: st)))) : own_G p e below E (T.setTop (mkF m pc Ls (.int z :: .int x :: st))) := by
  subst hp
  exact own_st (fun t k => XS.ishr Y.X.here Y.x rfl (Y.d hd) rfl k) K
theorem own_iushr (pc' : Nat) (Y : own_S Z y bytes maxL ret p l e R s m args below meth c T h locs cells slots) {x z : Int32} (hd : decode bytes pc = .ok (.iushr, 1))  (hp : pc + 1 = pc') (K : own_G p e below E (T.setTop (mkF m pc' Ls (.int ((x.toUInt32 >>> (z &&& 31).toUInt32).toInt32) :: st)))) : own_G p e below E (T.setTop (mkF m pc Ls (.int z :: .int x :: st))) := by
  subst hp
  exact own_st (fun t k => XS.iushr Y.X.here Y.x rfl (Y.d hd) rfl k) K
theorem own_ladd (pc' : Nat) (Y : own_S Z y bytes maxL ret p l e R s m args below meth c T h locs cells slots) {x z : Int64} (hd : decode bytes pc = .ok (.ladd, 1))  (hp : pc + 1 = pc') (K : own_G p e below E (T.setTop (mkF m pc' Ls (.long (x + z) :: st)))) : own_G p e below E (T.setTop (mkF m pc Ls (.long z :: .long x :: st))) := by
  subst hp
  exact own_st (fun t k => XS.ladd Y.X.here Y.x rfl (Y.d hd) rfl k) K
theorem own_lsub (pc' : Nat) (Y : own_S Z y bytes maxL ret p l e R s m args below meth c T h locs cells slots) {x z : Int64} (hd : decode bytes pc = .ok (.lsub, 1))  (hp : pc + 1 = pc') (K : own_G p e below E (T.setTop (mkF m pc' Ls (.long (x - z) :: st)))) : own_G p e below E (T.setTop (mkF m pc Ls (.long z :: .long x :: st))) := by
  subst hp
  exact own_st (fun t k => XS.lsub Y.X.here Y.x rfl (Y.d hd) rfl k) K
theorem own_lmul (pc' : Nat) (Y : own_S Z y bytes maxL ret p l e R s m args below meth c T h locs cells slots) {x z : Int64} (hd : decode bytes pc = .ok (.lmul, 1))  (hp : pc + 1 = pc') (K : own_G p e below E (T.setTop (mkF m pc' Ls (.long (x * z) :: st)))) : own_G p e below E (T.setTop (mkF m pc Ls (.long z :: .long x :: st))) := by
  subst hp
  exact own_st (fun t k => XS.lmul Y.X.here Y.x rfl (Y.d hd) rfl k) K
theorem own_land (pc' : Nat) (Y : own_S Z y bytes maxL ret p l e R s m args below meth c T h locs cells slots) {x z : Int64} (hd : decode bytes pc = .ok (.land, 1))  (hp : pc + 1 = pc') (K : own_G p e below E (T.setTop (mkF m pc' Ls (.long (x &&& z) :: st)))) : own_G p e below E (T.setTop (mkF m pc Ls (.long z :: .long x :: st))) := by
  subst hp
  exact own_st (fun t k => XS.land Y.X.here Y.x rfl (Y.d hd) rfl k) K
theorem own_lor (pc' : Nat) (Y : own_S Z y bytes maxL ret p l e R s m args below meth c T h locs cells slots) {x z : Int64} (hd : decode bytes pc = .ok (.lor, 1))  (hp : pc + 1 = pc') (K : own_G p e below E (T.setTop (mkF m pc' Ls (.long (x ||| z) :: st)))) : own_G p e below E (T.setTop (mkF m pc Ls (.long z :: .long x :: st))) := by
  subst hp
  exact own_st (fun t k => XS.lor Y.X.here Y.x rfl (Y.d hd) rfl k) K
theorem own_lxor (pc' : Nat) (Y : own_S Z y bytes maxL ret p l e R s m args below meth c T h locs cells slots) {x z : Int64} (hd : decode bytes pc = .ok (.lxor, 1))  (hp : pc + 1 = pc') (K : own_G p e below E (T.setTop (mkF m pc' Ls (.long (x ^^^ z) :: st)))) : own_G p e below E (T.setTop (mkF m pc Ls (.long z :: .long x :: st))) := by
  subst hp
  exact own_st (fun t k => XS.lxor Y.X.here Y.x rfl (Y.d hd) rfl k) K
theorem own_lshl (pc' : Nat) (Y : own_S Z y bytes maxL ret p l e R s m args below meth c T h locs cells slots) {x : Int64} {z : Int32} (hd : decode bytes pc = .ok (.lshl, 1))  (hp : pc + 1 = pc') (K : own_G p e below E (T.setTop (mkF m pc' Ls (.long (x <<< (z &&& 0x3f).toInt64) :: st)))) : own_G p e below E (T.setTop (mkF m pc Ls (.int z :: .long x :: st))) := by
  subst hp
  exact own_st (fun t k => XS.lshl Y.X.here Y.x rfl (Y.d hd) rfl k) K
theorem own_lshr (pc' : Nat) (Y : own_S Z y bytes maxL ret p l e R s m args below meth c T h locs cells slots) {x : Int64} {z : Int32} (hd : decode bytes pc = .ok (.lshr, 1))  (hp : pc + 1 = pc') (K : own_G p e below E (T.setTop (mkF m pc' Ls (.long (x >>> (z &&& 0x3f).toInt64) :: st)))) : own_G p e below E (T.setTop (mkF m pc Ls (.int z :: .long x :: st))) := by
  subst hp
  exact own_st (fun t k => XS.lshr Y.X.here Y.x rfl (Y.d hd) rfl k) K
theorem own_lushr (pc' : Nat) (Y : own_S Z y bytes maxL ret p l e R s m args below meth c T h locs cells slots) {x : Int64} {z : Int32} (hd : decode bytes pc = .ok (.lushr, 1))  (hp : pc + 1 = pc') (K : own_G p e below E (T.setTop (mkF m pc' Ls (.long ((x.toUInt64 >>> (z &&& 0x3f).toInt64.toUInt64).toInt64) :: st)))) : own_G p e below E (T.setTop (mkF m pc Ls (.int z :: .long x :: st))) := by
  subst hp
  exact own_st (fun t k => XS.lushr Y.X.here Y.x rfl (Y.d hd) rfl k) K
theorem own_idiv (pc' : Nat) (Y : own_S Z y bytes maxL ret p l e R s m args below meth c T h locs cells slots) {x z : Int32} (hd : decode bytes pc = .ok (.idiv, 1)) (hz : z ≠ 0) (hp : pc + 1 = pc') (K : own_G p e below E (T.setTop (mkF m pc' Ls (.int (x / z) :: st)))) : own_G p e below E (T.setTop (mkF m pc Ls (.int z :: .int x :: st))) := by
  subst hp
  exact own_st (fun t k => XS.idiv Y.X.here Y.x rfl (Y.d hd) rfl hz k) K
theorem own_irem (pc' : Nat) (Y : own_S Z y bytes maxL ret p l e R s m args below meth c T h locs cells slots) {x z : Int32} (hd : decode bytes pc = .ok (.irem, 1)) (hz : z ≠ 0) (hp : pc + 1 = pc') (K : own_G p e below E (T.setTop (mkF m pc' Ls (.int (x % z) :: st)))) : own_G p e below E (T.setTop (mkF m pc Ls (.int z :: .int x :: st))) := by
  subst hp
  exact own_st (fun t k => iremM Y.X Y.x rfl (Y.d hd) rfl hz k) K
theorem own_ldiv (pc' : Nat) (Y : own_S Z y bytes maxL ret p l e R s m args below meth c T h locs cells slots) {x z : Int64} (hd : decode bytes pc = .ok (.ldiv, 1)) (hz : z ≠ 0) (hp : pc + 1 = pc') (K : own_G p e below E (T.setTop (mkF m pc' Ls (.long (x / z) :: st)))) : own_G p e below E (T.setTop (mkF m pc Ls (.long z :: .long x :: st))) := by
  subst hp
  exact own_st (fun t k => XS.ldiv Y.X.here Y.x rfl (Y.d hd) rfl hz k) K
theorem own_lrem (pc' : Nat) (Y : own_S Z y bytes maxL ret p l e R s m args below meth c T h locs cells slots) {x z : Int64} (hd : decode bytes pc = .ok (.lrem, 1)) (hz : z ≠ 0) (hp : pc + 1 = pc') (K : own_G p e below E (T.setTop (mkF m pc' Ls (.long (x - (x / z) * z) :: st)))) : own_G p e below E (T.setTop (mkF m pc Ls (.long z :: .long x :: st))) := by
  subst hp
  exact own_st (fun t k => XS.lrem Y.X.here Y.x rfl (Y.d hd) rfl hz k) K
theorem own_ineg (pc' : Nat) (Y : own_S Z y bytes maxL ret p l e R s m args below meth c T h locs cells slots) {x : Int32} (hd : decode bytes pc = .ok (.ineg, 1))  (hp : pc + 1 = pc') (K : own_G p e below E (T.setTop (mkF m pc' Ls (.int (-x) :: st)))) : own_G p e below E (T.setTop (mkF m pc Ls (.int x :: st))) := by
  subst hp
  exact own_st (fun t k => XS.ineg Y.X.here Y.x rfl (Y.d hd) rfl k) K
theorem own_i2b (pc' : Nat) (Y : own_S Z y bytes maxL ret p l e R s m args below meth c T h locs cells slots) {x : Int32} (hd : decode bytes pc = .ok (.i2b, 1))  (hp : pc + 1 = pc') (K : own_G p e below E (T.setTop (mkF m pc' Ls (.int (x.toInt8.toInt32) :: st)))) : own_G p e below E (T.setTop (mkF m pc Ls (.int x :: st))) := by
  subst hp
  exact own_st (fun t k => XS.i2b Y.X.here Y.x rfl (Y.d hd) rfl k) K
theorem own_i2c (pc' : Nat) (Y : own_S Z y bytes maxL ret p l e R s m args below meth c T h locs cells slots) {x : Int32} (hd : decode bytes pc = .ok (.i2c, 1))  (hp : pc + 1 = pc') (K : own_G p e below E (T.setTop (mkF m pc' Ls (.int (x.toUInt32.toUInt16.toUInt32.toInt32) :: st)))) : own_G p e below E (T.setTop (mkF m pc Ls (.int x :: st))) := by
  subst hp
  exact own_st (fun t k => XS.i2c Y.X.here Y.x rfl (Y.d hd) rfl k) K
theorem own_i2s (pc' : Nat) (Y : own_S Z y bytes maxL ret p l e R s m args below meth c T h locs cells slots) {x : Int32} (hd : decode bytes pc = .ok (.i2s, 1))  (hp : pc + 1 = pc') (K : own_G p e below E (T.setTop (mkF m pc' Ls (.int (x.toInt16.toInt32) :: st)))) : own_G p e below E (T.setTop (mkF m pc Ls (.int x :: st))) := by
  subst hp
  exact own_st (fun t k => XS.i2s Y.X.here Y.x rfl (Y.d hd) rfl k) K
theorem own_i2l (pc' : Nat) (Y : own_S Z y bytes maxL ret p l e R s m args below meth c T h locs cells slots) {x : Int32} (hd : decode bytes pc = .ok (.i2l, 1))  (hp : pc + 1 = pc') (K : own_G p e below E (T.setTop (mkF m pc' Ls (.long x.toInt64 :: st)))) : own_G p e below E (T.setTop (mkF m pc Ls (.int x :: st))) := by
  subst hp
  exact own_st (fun t k => XS.i2l Y.X.here Y.x rfl (Y.d hd) rfl k) K
theorem own_l2i (pc' : Nat) (Y : own_S Z y bytes maxL ret p l e R s m args below meth c T h locs cells slots) {x : Int64} (hd : decode bytes pc = .ok (.l2i, 1))  (hp : pc + 1 = pc') (K : own_G p e below E (T.setTop (mkF m pc' Ls (.int x.toInt32 :: st)))) : own_G p e below E (T.setTop (mkF m pc Ls (.long x :: st))) := by
  subst hp
  exact own_st (fun t k => XS.l2i Y.X.here Y.x rfl (Y.d hd) rfl k) K
theorem own_lneg (pc' : Nat) (Y : own_S Z y bytes maxL ret p l e R s m args below meth c T h locs cells slots) {x : Int64} (hd : decode bytes pc = .ok (.lneg, 1))  (hp : pc + 1 = pc') (K : own_G p e below E (T.setTop (mkF m pc' Ls (.long (-x) :: st)))) : own_G p e below E (T.setTop (mkF m pc Ls (.long x :: st))) := by
  subst hp
  exact own_st (fun t k => XS.lneg Y.X.here Y.x rfl (Y.d hd) rfl k) K
theorem own_lcmp (pc' : Nat) (Y : own_S Z y bytes maxL ret p l e R s m args below meth c T h locs cells slots) {x z : Int64} (hd : decode bytes pc = .ok (.lcmp, 1))  (hp : pc + 1 = pc') (K : own_G p e below E (T.setTop (mkF m pc' Ls (.int (lcmpW x z) :: st)))) : own_G p e below E (T.setTop (mkF m pc Ls (.long z :: .long x :: st))) := by
  subst hp
  exact own_st (fun t k => XS.lcmp Y.X.here Y.x rfl (Y.d hd) rfl k) K
theorem own_dup (pc' : Nat) (Y : own_S Z y bytes maxL ret p l e R s m args below meth c T h locs cells slots) {x : Value} (hd : decode bytes pc = .ok (.dup, 1)) (hc : x.category = 1) (hp : pc + 1 = pc') (K : own_G p e below E (T.setTop (mkF m pc' Ls (x :: x :: st)))) : own_G p e below E (T.setTop (mkF m pc Ls (x :: st))) := by
  subst hp
  exact own_st (fun t k => XS.dup Y.X.here Y.x rfl (Y.d hd) rfl hc k) K
theorem own_dupX1 (pc' : Nat) (Y : own_S Z y bytes maxL ret p l e R s m args below meth c T h locs cells slots) {x z : Value} (hd : decode bytes pc = .ok (.dup_x1, 1)) (hc : x.category = 1) (hc' : z.category = 1) (hp : pc + 1 = pc') (K : own_G p e below E (T.setTop (mkF m pc' Ls (x :: z :: x :: st)))) : own_G p e below E (T.setTop (mkF m pc Ls (x :: z :: st))) := by
  subst hp
  exact own_st (fun t k => XS.dupX1 Y.X.here Y.x rfl (Y.d hd) rfl hc hc' k) K
theorem own_pop (pc' : Nat) (Y : own_S Z y bytes maxL ret p l e R s m args below meth c T h locs cells slots) {x : Value} (hd : decode bytes pc = .ok (.pop, 1)) (hc : x.category = 1) (hp : pc + 1 = pc') (K : own_G p e below E (T.setTop (mkF m pc' Ls (st)))) : own_G p e below E (T.setTop (mkF m pc Ls (x :: st))) := by
  subst hp
  exact own_st (fun t k => XS.pop Y.X.here Y.x rfl (Y.d hd) rfl hc k) K
theorem own_istoreN (pc' : Nat) (Y : own_S Z y bytes maxL ret p l e R s m args below meth c T h locs cells slots) (Ls' : Array Slot) {k : Fin 4} {x : Int32} (hd : decode bytes pc = .ok (.istore_n k, 1)) (hl : storeLocals Ls k.val (.int x) = some Ls') (hp : pc + 1 = pc') (K : own_G p e below E (T.setTop (mkF m pc' Ls' (st)))) : own_G p e below E (T.setTop (mkF m pc Ls (.int x :: st))) := by
  subst hp
  exact own_st (fun t k => XS.istoreN Y.X.here Y.x rfl (Y.d hd) rfl hl k) K
theorem own_istore (pc' : Nat) (Y : own_S Z y bytes maxL ret p l e R s m args below meth c T h locs cells slots) (Ls' : Array Slot) {k : Nat} {x : Int32} (hd : decode bytes pc = .ok (.istore k, 2)) (hl : storeLocals Ls k (.int x) = some Ls') (hp : pc + 2 = pc') (K : own_G p e below E (T.setTop (mkF m pc' Ls' (st)))) : own_G p e below E (T.setTop (mkF m pc Ls (.int x :: st))) := by
  subst hp
  exact own_st (fun t k => XS.istore Y.X.here Y.x rfl (Y.d hd) rfl hl k) K
theorem own_lstoreN (pc' : Nat) (Y : own_S Z y bytes maxL ret p l e R s m args below meth c T h locs cells slots) (Ls' : Array Slot) {k : Fin 4} {x : Int64} (hd : decode bytes pc = .ok (.lstore_n k, 1)) (hl : storeLocals Ls k.val (.long x) = some Ls') (hp : pc + 1 = pc') (K : own_G p e below E (T.setTop (mkF m pc' Ls' (st)))) : own_G p e below E (T.setTop (mkF m pc Ls (.long x :: st))) := by
  subst hp
  exact own_st (fun t k => XS.lstoreN Y.X.here Y.x rfl (Y.d hd) rfl hl k) K
theorem own_lstore (pc' : Nat) (Y : own_S Z y bytes maxL ret p l e R s m args below meth c T h locs cells slots) (Ls' : Array Slot) {k : Nat} {x : Int64} (hd : decode bytes pc = .ok (.lstore k, 2)) (hl : storeLocals Ls k (.long x) = some Ls') (hp : pc + 2 = pc') (K : own_G p e below E (T.setTop (mkF m pc' Ls' (st)))) : own_G p e below E (T.setTop (mkF m pc Ls (.long x :: st))) := by
  subst hp
  exact own_st (fun t k => XS.lstore Y.X.here Y.x rfl (Y.d hd) rfl hl k) K
theorem own_astoreN (pc' : Nat) (Y : own_S Z y bytes maxL ret p l e R s m args below meth c T h locs cells slots) (Ls' : Array Slot) {k : Fin 4} {x : Value} (hd : decode bytes pc = .ok (.astore_n k, 1)) (hv : x.isRef = true) (hl : storeLocals Ls k.val (x) = some Ls') (hp : pc + 1 = pc') (K : own_G p e below E (T.setTop (mkF m pc' Ls' (st)))) : own_G p e below E (T.setTop (mkF m pc Ls (x :: st))) := by
  subst hp
  exact own_st (fun t k => XS.astoreN Y.X.here Y.x rfl (Y.d hd) rfl hv hl k) K
theorem own_astore (pc' : Nat) (Y : own_S Z y bytes maxL ret p l e R s m args below meth c T h locs cells slots) (Ls' : Array Slot) {k : Nat} {x : Value} (hd : decode bytes pc = .ok (.astore k, 2)) (hv : x.isRef = true) (hl : storeLocals Ls k (x) = some Ls') (hp : pc + 2 = pc') (K : own_G p e below E (T.setTop (mkF m pc' Ls' (st)))) : own_G p e below E (T.setTop (mkF m pc Ls (x :: st))) := by
  subst hp
  exact own_st (fun t k => XS.astore Y.X.here Y.x rfl (Y.d hd) rfl hv hl k) K
theorem own_iinc (pc' : Nat) (Y : own_S Z y bytes maxL ret p l e R s m args below meth c T h locs cells slots) (Ls' : Array Slot) (v : Int32) {k : Nat} {cst : Int} {x : Int32} (hd : decode bytes pc = .ok (.iinc k cst, 3)) (hv : Int32.ofInt cst = v) (hl : Ls[k]? = some (.val (.int x))) (hl' : storeLocals Ls k (.int (x + v)) = some Ls') (hp : pc + 3 = pc') (K : own_G p e below E (T.setTop (mkF m pc' Ls' (st)))) : own_G p e below E (T.setTop (mkF m pc Ls (st))) := by
  subst hp
  exact own_st (fun t k => XT.iincV Y.X.here Y.x rfl v (Y.d hd) hv hl hl' k) K
theorem own_dloadN (pc' : Nat) (Y : own_S Z y bytes maxL ret p l e R s m args below meth c T h locs cells slots) {k : Fin 4} {v : UInt64} (hd : decode bytes pc = .ok (.dload_n k, 1)) (hl : Ls[k.val]? = some (.val (.double v))) (hp : pc + 1 = pc') (K : own_G p e below E (T.setTop (mkF m pc' Ls (.double v :: st)))) : own_G p e below E (T.setTop (mkF m pc Ls (st))) := by
  subst hp
  exact own_st (fun t k => XS.dloadN Y.X.here Y.x rfl (Y.d hd) hl k) K
theorem own_dload (pc' : Nat) (Y : own_S Z y bytes maxL ret p l e R s m args below meth c T h locs cells slots) {k : Nat} {v : UInt64} (hd : decode bytes pc = .ok (.dload k, 2)) (hl : Ls[k]? = some (.val (.double v))) (hp : pc + 2 = pc') (K : own_G p e below E (T.setTop (mkF m pc' Ls (.double v :: st)))) : own_G p e below E (T.setTop (mkF m pc Ls (st))) := by
  subst hp
  exact own_st (fun t k => XS.dload Y.X.here Y.x rfl (Y.d hd) hl k) K
theorem own_dstoreN (pc' : Nat) (Y : own_S Z y bytes maxL ret p l e R s m args below meth c T h locs cells slots) (Ls' : Array Slot) {k : Fin 4} {x : UInt64} (hd : decode bytes pc = .ok (.dstore_n k, 1)) (hl : storeLocals Ls k.val (.double x) = some Ls') (hp : pc + 1 = pc') (K : own_G p e below E (T.setTop (mkF m pc' Ls' (st)))) : own_G p e below E (T.setTop (mkF m pc Ls (.double x :: st))) := by
  subst hp
  exact own_st (fun t k => XS.dstoreN Y.X.here Y.x rfl (Y.d hd) rfl hl k) K
theorem own_dstore (pc' : Nat) (Y : own_S Z y bytes maxL ret p l e R s m args below meth c T h locs cells slots) (Ls' : Array Slot) {k : Nat} {x : UInt64} (hd : decode bytes pc = .ok (.dstore k, 2)) (hl : storeLocals Ls k (.double x) = some Ls') (hp : pc + 2 = pc') (K : own_G p e below E (T.setTop (mkF m pc' Ls' (st)))) : own_G p e below E (T.setTop (mkF m pc Ls (.double x :: st))) := by
  subst hp
  exact own_st (fun t k => XS.dstore Y.X.here Y.x rfl (Y.d hd) rfl hl k) K
theorem own_i2d (pc' : Nat) (Y : own_S Z y bytes maxL ret p l e R s m args below meth c T h locs cells slots) {x : Int32} (hd : decode bytes pc = .ok (.i2d, 1))  (hp : pc + 1 = pc') (K : own_G p e below E (T.setTop (mkF m pc' Ls (.double (FP.l2d x.toInt64) :: st)))) : own_G p e below E (T.setTop (mkF m pc Ls (.int x :: st))) := by
  subst hp
  exact own_st (fun t k => XS.i2dS Y.X.here Y.x rfl (Y.d hd) rfl (i2d_w x) k) K
theorem own_l2d (pc' : Nat) (Y : own_S Z y bytes maxL ret p l e R s m args below meth c T h locs cells slots) {x : Int64} (hd : decode bytes pc = .ok (.l2d, 1))  (hp : pc + 1 = pc') (K : own_G p e below E (T.setTop (mkF m pc' Ls (.double (FP.l2d x) :: st)))) : own_G p e below E (T.setTop (mkF m pc Ls (.long x :: st))) := by
  subst hp
  exact own_st (fun t k => XS.l2dS Y.X.here Y.x rfl (Y.d hd) rfl rfl k) K
theorem own_dsub (pc' : Nat) (Y : own_S Z y bytes maxL ret p l e R s m args below meth c T h locs cells slots) {x z : Int64} (hbx : B53 x) (hbz : B53 z) (hd : decode bytes pc = .ok (.dsub, 1))  (hp : pc + 1 = pc') (K : own_G p e below E (T.setTop (mkF m pc' Ls (.double (FP.l2d (x - z)) :: st)))) : own_G p e below E (T.setTop (mkF m pc Ls (.double (FP.l2d z) :: .double (FP.l2d x) :: st))) := by
  subst hp
  exact own_st (fun t k => XS.dsubS Y.X.here Y.x rfl (Y.d hd) rfl (nn_w (dsub_w hbx hbz)) (dsub_w hbx hbz) k) K
theorem own_dcmp (pc' : Nat) (Y : own_S Z y bytes maxL ret p l e R s m args below meth c T h locs cells slots) {o : CmpOp} {x z : Int64} (hbx : B53 x) (hbz : B53 z) (hd : decode bytes pc = .ok (.dcmp o, 1))  (hp : pc + 1 = pc') (K : own_G p e below E (T.setTop (mkF m pc' Ls (.int (lcmpW x z) :: st)))) : own_G p e below E (T.setTop (mkF m pc Ls (.double (FP.l2d z) :: .double (FP.l2d x) :: st))) := by
  subst hp
  exact own_st (fun t k => XS.dcmpS Y.X.here Y.x rfl (Y.d hd) rfl (dcmpV_w hbx hbz o) k) K
theorem own_pc {pc pc' : Nat} {o : Int} (hp : (pc : Int) + o = (pc' : Int)) : 0 ≤ (pc : Int) + o ∧ ((pc : Int) + o).toNat = pc' := by rw [hp]; exact ⟨Int.natCast_nonneg _, Int.toNat_natCast _⟩
theorem own_goto (pc' : Nat) (Y : own_S Z y bytes maxL ret p l e R s m args below meth c T h locs cells slots) {o : Int} (hd : decode bytes pc = .ok (.goto o, 3)) (hp : (pc : Int) + o = (pc' : Int)) (K : own_G p e below E (T.setTop (mkF m pc' Ls st))) : own_G p e below E (T.setTop (mkF m pc Ls st)) :=
  own_st (fun t k => XS.goto Y.X.here Y.x rfl rfl (Y.d hd) (own_pc hp).1 (own_pc hp).2 k) K
theorem own_ifT (pc' : Nat) (Y : own_S Z y bytes maxL ret p l e R s m args below meth c T h locs cells slots) {cd : ClassFile.Cond} {o : Int} {x : Int32} (hd : decode bytes pc = .ok (.ifCond cd o, 3)) (hc : ifCond.holds cd x = true) (hp : (pc : Int) + o = (pc' : Int)) (K : own_G p e below E (T.setTop (mkF m pc' Ls st))) : own_G p e below E (T.setTop (mkF m pc Ls (.int x :: st))) :=
  own_st (fun t k => XS.ifYes Y.X.here Y.x rfl rfl (Y.d hd) rfl hc (own_pc hp).1 (own_pc hp).2 k) K
theorem own_ifF (pc' : Nat) (Y : own_S Z y bytes maxL ret p l e R s m args below meth c T h locs cells slots) {cd : ClassFile.Cond} {o : Int} {x : Int32} (hd : decode bytes pc = .ok (.ifCond cd o, 3)) (hc : ifCond.holds cd x = false) (hp : pc + 3 = pc') (K : own_G p e below E (T.setTop (mkF m pc' Ls st))) : own_G p e below E (T.setTop (mkF m pc Ls (.int x :: st))) := by
  subst hp
  exact own_st (fun t k => XS.ifNo Y.X.here Y.x rfl (Y.d hd) rfl hc k) K
theorem own_icT (pc' : Nat) (Y : own_S Z y bytes maxL ret p l e R s m args below meth c T h locs cells slots) {cd : ClassFile.Cond} {o : Int} {x z : Int32} (hd : decode bytes pc = .ok (.if_icmp cd o, 3)) (hc : if_icmp.holds cd x z = true) (hp : (pc : Int) + o = (pc' : Int)) (K : own_G p e below E (T.setTop (mkF m pc' Ls st))) : own_G p e below E (T.setTop (mkF m pc Ls (.int z :: .int x :: st))) :=
  own_st (fun t k => XS.icmpYes Y.X.here Y.x rfl rfl (Y.d hd) rfl hc (own_pc hp).1 (own_pc hp).2 k) K
theorem own_icF (pc' : Nat) (Y : own_S Z y bytes maxL ret p l e R s m args below meth c T h locs cells slots) {cd : ClassFile.Cond} {o : Int} {x z : Int32} (hd : decode bytes pc = .ok (.if_icmp cd o, 3)) (hc : if_icmp.holds cd x z = false) (hp : pc + 3 = pc') (K : own_G p e below E (T.setTop (mkF m pc' Ls st))) : own_G p e below E (T.setTop (mkF m pc Ls (.int z :: .int x :: st))) := by
  subst hp
  exact own_st (fun t k => XS.icmpNo Y.X.here Y.x rfl (Y.d hd) rfl hc k) K
theorem own_if_eq (pc' pc'' : Nat) (Y : own_S Z y bytes maxL ret p l e R s m args below meth c T h locs cells slots) {x : Int32} {o : Int} (hd : decode bytes pc = .ok (.ifCond .eq o, 3)) (hp : (pc : Int) + o = (pc' : Int)) (hp' : pc + 3 = pc'') (KT : x = 0 → own_G p e below E (T.setTop (mkF m pc' Ls st))) (KF : ¬ x = 0 → own_G p e below E (T.setTop (mkF m pc'' Ls st))) : own_G p e below E (T.setTop (mkF m pc Ls (.int x :: st))) :=
  (Decidable.em (x = 0)).elim (fun q => own_ifT pc' Y hd (XT.i0_eq_t q) hp (KT q)) (fun q => own_ifF pc'' Y hd (XT.i0_eq_f q) hp' (KF q))
theorem own_ic_eq (pc' pc'' : Nat) (Y : own_S Z y bytes maxL ret p l e R s m args below meth c T h locs cells slots) {x z : Int32} {o : Int} (hd : decode bytes pc = .ok (.if_icmp .eq o, 3)) (hp : (pc : Int) + o = (pc' : Int)) (hp' : pc + 3 = pc'') (KT : x = z → own_G p e below E (T.setTop (mkF m pc' Ls st))) (KF : ¬ x = z → own_G p e below E (T.setTop (mkF m pc'' Ls st))) : own_G p e below E (T.setTop (mkF m pc Ls (.int z :: .int x :: st))) :=
  (Decidable.em (x = z)).elim (fun q => own_icT pc' Y hd (XT.ii_eq_t q) hp (KT q)) (fun q => own_icF pc'' Y hd (XT.ii_eq_f q) hp' (KF q))
theorem own_if_ne (pc' pc'' : Nat) (Y : own_S Z y bytes maxL ret p l e R s m args below meth c T h locs cells slots) {x : Int32} {o : Int} (hd : decode bytes pc = .ok (.ifCond .ne o, 3)) (hp : (pc : Int) + o = (pc' : Int)) (hp' : pc + 3 = pc'') (KT : ¬ x = 0 → own_G p e below E (T.setTop (mkF m pc' Ls st))) (KF : x = 0 → own_G p e below E (T.setTop (mkF m pc'' Ls st))) : own_G p e below E (T.setTop (mkF m pc Ls (.int x :: st))) :=
  (Decidable.em (x = 0)).elim (fun q => own_ifF pc'' Y hd (XT.i0_ne_f q) hp' (KF q)) (fun q => own_ifT pc' Y hd (XT.i0_ne_t q) hp (KT q))
theorem own_ic_ne (pc' pc'' : Nat) (Y : own_S Z y bytes maxL ret p l e R s m args below meth c T h locs cells slots) {x z : Int32} {o : Int} (hd : decode bytes pc = .ok (.if_icmp .ne o, 3)) (hp : (pc : Int) + o = (pc' : Int)) (hp' : pc + 3 = pc'') (KT : ¬ x = z → own_G p e below E (T.setTop (mkF m pc' Ls st))) (KF : x = z → own_G p e below E (T.setTop (mkF m pc'' Ls st))) : own_G p e below E (T.setTop (mkF m pc Ls (.int z :: .int x :: st))) :=
  (Decidable.em (x = z)).elim (fun q => own_icF pc'' Y hd (XT.ii_ne_f q) hp' (KF q)) (fun q => own_icT pc' Y hd (XT.ii_ne_t q) hp (KT q))
theorem own_if_lt (pc' pc'' : Nat) (Y : own_S Z y bytes maxL ret p l e R s m args below meth c T h locs cells slots) {x : Int32} {o : Int} (hd : decode bytes pc = .ok (.ifCond .lt o, 3)) (hp : (pc : Int) + o = (pc' : Int)) (hp' : pc + 3 = pc'') (KT : x < 0 → own_G p e below E (T.setTop (mkF m pc' Ls st))) (KF : ¬ x < 0 → own_G p e below E (T.setTop (mkF m pc'' Ls st))) : own_G p e below E (T.setTop (mkF m pc Ls (.int x :: st))) :=
  (Decidable.em (x < 0)).elim (fun q => own_ifT pc' Y hd (XT.i0_lt_t q) hp (KT q)) (fun q => own_ifF pc'' Y hd (XT.i0_lt_f q) hp' (KF q))
theorem own_ic_lt (pc' pc'' : Nat) (Y : own_S Z y bytes maxL ret p l e R s m args below meth c T h locs cells slots) {x z : Int32} {o : Int} (hd : decode bytes pc = .ok (.if_icmp .lt o, 3)) (hp : (pc : Int) + o = (pc' : Int)) (hp' : pc + 3 = pc'') (KT : x < z → own_G p e below E (T.setTop (mkF m pc' Ls st))) (KF : ¬ x < z → own_G p e below E (T.setTop (mkF m pc'' Ls st))) : own_G p e below E (T.setTop (mkF m pc Ls (.int z :: .int x :: st))) :=
  (Decidable.em (x < z)).elim (fun q => own_icT pc' Y hd (XT.ii_lt_t q) hp (KT q)) (fun q => own_icF pc'' Y hd (XT.ii_lt_f q) hp' (KF q))
theorem own_if_ge (pc' pc'' : Nat) (Y : own_S Z y bytes maxL ret p l e R s m args below meth c T h locs cells slots) {x : Int32} {o : Int} (hd : decode bytes pc = .ok (.ifCond .ge o, 3)) (hp : (pc : Int) + o = (pc' : Int)) (hp' : pc + 3 = pc'') (KT : ¬ x < 0 → own_G p e below E (T.setTop (mkF m pc' Ls st))) (KF : x < 0 → own_G p e below E (T.setTop (mkF m pc'' Ls st))) : own_G p e below E (T.setTop (mkF m pc Ls (.int x :: st))) :=
  (Decidable.em (x < 0)).elim (fun q => own_ifF pc'' Y hd (XT.i0_ge_f q) hp' (KF q)) (fun q => own_ifT pc' Y hd (XT.i0_ge_t q) hp (KT q))
theorem own_ic_ge (pc' pc'' : Nat) (Y : own_S Z y bytes maxL ret p l e R s m args below meth c T h locs cells slots) {x z : Int32} {o : Int} (hd : decode bytes pc = .ok (.if_icmp .ge o, 3)) (hp : (pc : Int) + o = (pc' : Int)) (hp' : pc + 3 = pc'') (KT : ¬ x < z → own_G p e below E (T.setTop (mkF m pc' Ls st))) (KF : x < z → own_G p e below E (T.setTop (mkF m pc'' Ls st))) : own_G p e below E (T.setTop (mkF m pc Ls (.int z :: .int x :: st))) :=
  (Decidable.em (x < z)).elim (fun q => own_icF pc'' Y hd (XT.ii_ge_f q) hp' (KF q)) (fun q => own_icT pc' Y hd (XT.ii_ge_t q) hp (KT q))
theorem own_if_gt (pc' pc'' : Nat) (Y : own_S Z y bytes maxL ret p l e R s m args below meth c T h locs cells slots) {x : Int32} {o : Int} (hd : decode bytes pc = .ok (.ifCond .gt o, 3)) (hp : (pc : Int) + o = (pc' : Int)) (hp' : pc + 3 = pc'') (KT : 0 < x → own_G p e below E (T.setTop (mkF m pc' Ls st))) (KF : ¬ 0 < x → own_G p e below E (T.setTop (mkF m pc'' Ls st))) : own_G p e below E (T.setTop (mkF m pc Ls (.int x :: st))) :=
  (Decidable.em (0 < x)).elim (fun q => own_ifT pc' Y hd (XT.i0_gt_t q) hp (KT q)) (fun q => own_ifF pc'' Y hd (XT.i0_gt_f q) hp' (KF q))
theorem own_ic_gt (pc' pc'' : Nat) (Y : own_S Z y bytes maxL ret p l e R s m args below meth c T h locs cells slots) {x z : Int32} {o : Int} (hd : decode bytes pc = .ok (.if_icmp .gt o, 3)) (hp : (pc : Int) + o = (pc' : Int)) (hp' : pc + 3 = pc'') (KT : z < x → own_G p e below E (T.setTop (mkF m pc' Ls st))) (KF : ¬ z < x → own_G p e below E (T.setTop (mkF m pc'' Ls st))) : own_G p e below E (T.setTop (mkF m pc Ls (.int z :: .int x :: st))) :=
  (Decidable.em (z < x)).elim (fun q => own_icT pc' Y hd (XT.ii_gt_t q) hp (KT q)) (fun q => own_icF pc'' Y hd (XT.ii_gt_f q) hp' (KF q))
theorem own_if_le (pc' pc'' : Nat) (Y : own_S Z y bytes maxL ret p l e R s m args below meth c T h locs cells slots) {x : Int32} {o : Int} (hd : decode bytes pc = .ok (.ifCond .le o, 3)) (hp : (pc : Int) + o = (pc' : Int)) (hp' : pc + 3 = pc'') (KT : ¬ 0 < x → own_G p e below E (T.setTop (mkF m pc' Ls st))) (KF : 0 < x → own_G p e below E (T.setTop (mkF m pc'' Ls st))) : own_G p e below E (T.setTop (mkF m pc Ls (.int x :: st))) :=
  (Decidable.em (0 < x)).elim (fun q => own_ifF pc'' Y hd (XT.i0_le_f q) hp' (KF q)) (fun q => own_ifT pc' Y hd (XT.i0_le_t q) hp (KT q))
theorem own_ic_le (pc' pc'' : Nat) (Y : own_S Z y bytes maxL ret p l e R s m args below meth c T h locs cells slots) {x z : Int32} {o : Int} (hd : decode bytes pc = .ok (.if_icmp .le o, 3)) (hp : (pc : Int) + o = (pc' : Int)) (hp' : pc + 3 = pc'') (KT : ¬ z < x → own_G p e below E (T.setTop (mkF m pc' Ls st))) (KF : z < x → own_G p e below E (T.setTop (mkF m pc'' Ls st))) : own_G p e below E (T.setTop (mkF m pc Ls (.int z :: .int x :: st))) :=
  (Decidable.em (z < x)).elim (fun q => own_icF pc'' Y hd (XT.ii_le_f q) hp' (KF q)) (fun q => own_icT pc' Y hd (XT.ii_le_t q) hp (KT q))
theorem own_acmp (pc' : Nat) (same : Bool) (Y : own_S Z y bytes maxL ret p l e R s m args below meth c T h locs cells slots) {cd : ACond} {o : Int} {x z : Value} (hd : decode bytes pc = .ok (.if_acmp cd o, 3)) (h1 : x.isRef = true) (h2 : z.isRef = true) (hq : decide (x = z) = same) (ho : 0 ≤ (pc : Int) + o) (hp : pc' = if acV cd same = true then ((pc : Int) + o).toNat else pc + 3) (K : own_G p e below E (T.setTop (mkF m pc' Ls st))) : own_G p e below E (T.setTop (mkF m pc Ls (z :: x :: st))) :=
  own_st (fun t k => Jvm.RoadKit.acmp Y.X Y.x rfl h1 h2 rfl (Y.d hd) rfl hq ho hp k) K
theorem own_ifnullT (pc' : Nat) (Y : own_S Z y bytes maxL ret p l e R s m args below meth c T h locs cells slots) {o : Int} (hd : decode bytes pc = .ok (.ifnull o, 3)) (hp : (pc : Int) + o = (pc' : Int)) (K : own_G p e below E (T.setTop (mkF m pc' Ls st))) : own_G p e below E (T.setTop (mkF m pc Ls (.null :: st))) :=
  own_st (fun t k => XS.ifnullYes Y.X.here Y.x rfl rfl (Y.d hd) rfl (own_pc hp).1 (own_pc hp).2 k) K
theorem own_ifnonnullT (pc' : Nat) (Y : own_S Z y bytes maxL ret p l e R s m args below meth c T h locs cells slots) {b : Addr} {o : Int} (hd : decode bytes pc = .ok (.ifnonnull o, 3)) (hp : (pc : Int) + o = (pc' : Int)) (K : own_G p e below E (T.setTop (mkF m pc' Ls st))) : own_G p e below E (T.setTop (mkF m pc Ls (.ref b :: st))) :=
  own_st (fun t k => XS.ifnonnullYes Y.X.here Y.x rfl rfl (Y.d hd) rfl (own_pc hp).1 (own_pc hp).2 k) K
theorem own_ifnullF (pc' : Nat) (Y : own_S Z y bytes maxL ret p l e R s m args below meth c T h locs cells slots) {b : Addr} {o : Int} (hd : decode bytes pc = .ok (.ifnull o, 3)) (hp : pc + 3 = pc') (K : own_G p e below E (T.setTop (mkF m pc' Ls st))) : own_G p e below E (T.setTop (mkF m pc Ls (.ref b :: st))) := by
  subst hp
  exact own_st (fun t k => XS.ifnullNo Y.X.here Y.x rfl (Y.d hd) rfl k) K
theorem own_ifnonnullF (pc' : Nat) (Y : own_S Z y bytes maxL ret p l e R s m args below meth c T h locs cells slots) {o : Int} (hd : decode bytes pc = .ok (.ifnonnull o, 3)) (hp : pc + 3 = pc') (K : own_G p e below E (T.setTop (mkF m pc' Ls st))) : own_G p e below E (T.setTop (mkF m pc Ls (.null :: st))) := by
  subst hp
  exact own_st (fun t k => XS.ifnonnullNo Y.X.here Y.x rfl (Y.d hd) rfl k) K
theorem own_tswIn (pc' : Nat) (Y : own_S Z y bytes maxL ret p l e R s m args below meth c T h locs cells slots) {dflt low high : Int} {offs : Array Int} {len : Nat} {o : Int} {i : Int32} (hd : decode bytes pc = .ok (.tableswitch dflt low high offs, len)) (hin : ¬ (i.toInt < low ∨ i.toInt > high)) (hoff : offs[(i.toInt - low).toNat]? = some o) (hp : (pc : Int) + o = (pc' : Int)) (K : own_G p e below E (T.setTop (mkF m pc' Ls st))) : own_G p e below E (T.setTop (mkF m pc Ls (.int i :: st))) :=
  own_st (fun t k => XS.tswIn Y.X.here Y.x rfl rfl (Y.d hd) rfl hin hoff (own_pc hp).1 (own_pc hp).2 k) K
theorem own_tswOut (pc' : Nat) (Y : own_S Z y bytes maxL ret p l e R s m args below meth c T h locs cells slots) {o low high : Int} {offs : Array Int} {len : Nat} {i : Int32} (hd : decode bytes pc = .ok (.tableswitch o low high offs, len)) (hout : i.toInt < low ∨ i.toInt > high) (hp : (pc : Int) + o = (pc' : Int)) (K : own_G p e below E (T.setTop (mkF m pc' Ls st))) : own_G p e below E (T.setTop (mkF m pc Ls (.int i :: st))) :=
  own_st (fun t k => XS.tswOut Y.X.here Y.x rfl rfl (Y.d hd) rfl hout (own_pc hp).1 (own_pc hp).2 k) K
theorem own_ldcI (pc' : Nat) (Y : own_S Z y bytes maxL ret p l e R s m args below meth c T h locs cells slots) {index : Nat} {v : Int32} (w : (Jvm.Cond.constant y.cls index v).before a0 Z = true) (hd : decode bytes pc = .ok (.ldc index, 2)) (hp : pc + 2 = pc') (K : own_G p e below E (T.setTop (mkF m pc' Ls (.int v :: st)))) : own_G p e below E (T.setTop (mkF m pc Ls st)) := by
  subst hp
  exact own_st (fun t k => Y.X.ldcInt Y.x Y.own (mvT Y.warm w) (g := mkF m pc Ls st) rfl (Y.d hd) t k) K
theorem own_ldc2J (pc' : Nat) (Y : own_S Z y bytes maxL ret p l e R s m args below meth c T h locs cells slots) {index : Nat} {v : Int64} (w : (Jvm.Cond.constantLong y.cls index v).before a0 Z = true) (hd : decode bytes pc = .ok (.ldc2_w index, 3)) (hp : pc + 3 = pc') (K : own_G p e below E (T.setTop (mkF m pc' Ls (.long v :: st)))) : own_G p e below E (T.setTop (mkF m pc Ls st)) := by
  subst hp
  exact own_st (fun t k => Y.X.ldc2Long Y.x Y.own (mvT Y.warm w) (g := mkF m pc Ls st) rfl (Y.d hd) t k) K
theorem own_getS (pc' : Nat) (Y : own_S Z y bytes maxL ret p l e R s m args below meth c T h locs cells slots) {R0 O n d host : String} {index : Nat} (w : (Jvm.Cond.fieldLink y.cls index R0 n d).before a0 Z = true ∨ (Jvm.Cond.fieldLinkNest y.cls index R0 n d host).before a0 Z = true) (via : Via Z R0 O n d) {v : Value} (F : Sta Z h O n d v) (hd : decode bytes pc = .ok (.getstatic index, 3)) (hp : pc + 3 = pc') (K : ∀ T', own_S Z y bytes maxL ret p l e R s m args below meth c T' h locs cells slots → own_G p e below E (T'.setTop (mkF m pc' Ls (v :: st)))) : own_G p e below E (T.setTop (mkF m pc Ls st)) := by
  subst hp
  obtain ⟨T', X', e', st'⟩ := getS2 Y.X Y.x Y.warm Y.own w via Y.eT F (g := mkF m pc Ls st) rfl (Y.d hd)
  exact own_st st' (K T' ⟨Y.1, X', e'⟩)
theorem own_getF (pc' : Nat) (Y : own_S Z y bytes maxL ret p l e R s m args below meth c T h locs cells slots) {R0 O n d host : String} {index : Nat} (w : (Jvm.Cond.fieldLink y.cls index R0 n d).before a0 Z = true ∨ (Jvm.Cond.fieldLinkNest y.cls index R0 n d host).before a0 Z = true) (via : Via Z R0 O n d) {a : Addr} {v : Value} (F : Fld Z h a O n d v) (hd : decode bytes pc = .ok (.getfield index, 3)) (hp : pc + 3 = pc') (K : ∀ T', own_S Z y bytes maxL ret p l e R s m args below meth c T' h locs cells slots → own_G p e below E (T'.setTop (mkF m pc' Ls (v :: st)))) : own_G p e below E (T.setTop (mkF m pc Ls (.ref a :: st))) := by
  subst hp
  obtain ⟨T', X', e', st'⟩ := getF Y.X Y.x Y.warm Y.own w via Y.eT F (g := mkF m pc Ls (.ref a :: st)) rfl rfl (Y.d hd)
  exact own_st st' (K T' ⟨Y.1, X', e'⟩)
theorem own_putF (pc' : Nat) (Y : own_S Z y bytes maxL ret p l e R s m args below meth c T h locs cells slots) {R0 O n d host : String} {index : Nat} {C : String} {kk : Nat} {ty : FieldType} (w : (Jvm.Cond.fieldLink y.cls index R0 n d).before a0 Z = true ∨ (Jvm.Cond.fieldLinkNest y.cls index R0 n d host).before a0 Z = true) (via : Via Z R0 O n d) {a : Addr} {v old : Value} (F : Fld Z h a O n d old) (EX : Exa Z h a C) (Lw : (Jvm.Cond.lays C O n d).before a0 Z = true ∨ ((Jvm.Cond.laysFinal C O n d).before a0 Z = true ∧ y.cls = O ∧ y.name = "<init>")) (wi : (Jvm.Cond.instantiable C kk).before a0 Z = true) (hty : parseFieldDescriptor d = some ty) (hn : narrow ty v = v) (hf : fits ty v = true) (hd : decode bytes pc = .ok (.putfield index, 3)) (hp : pc + 3 = pc')
    (K : ∀ T' h', own_S Z y bytes maxL ret p l e R s m args below meth c T' h' (locs ++ [⟨a, Jvm.RoadKit.slotOf Z O n d⟩]) cells slots → Wr h h' a (Jvm.RoadKit.slotOf Z O n d) v → own_G p e below E (T'.setTop (mkF m pc' Ls st))) : own_G p e below E (T.setTop (mkF m pc Ls (v :: .ref a :: st))) := by
  subst hp
  obtain ⟨T', h', X', e', W', st'⟩ := putF Y.X Y.x Y.warm Y.own w via Y.eT F EX (Lw.imp id fun q => ⟨q.1, q.2.1, Y.1.2.2.2.2.2.2.2.trans q.2.2⟩) wi hty hn hf (g := mkF m pc Ls (v :: .ref a :: st)) rfl rfl (Y.d hd)
  exact own_st st' (K T' h' ⟨Y.1, X', e'⟩ W')
theorem own_putFN (pc' : Nat) (Y : own_S Z y bytes maxL ret p l e R s m args below meth c T h locs cells slots) {R0 O n d : String} {index : Nat} {C : String} {kk : Nat} {ty : FieldType} (w : (Jvm.Cond.fieldLink y.cls index R0 n d).before a0 Z = true) (via : Via Z R0 O n d) {a : Addr} {v v' old : Value} (F : Fld Z h a O n d old) (EX : Exa Z h a C) (Lw : (Jvm.Cond.lays C O n d).before a0 Z = true ∨ ((Jvm.Cond.laysFinal C O n d).before a0 Z = true ∧ y.cls = O ∧ y.name = "<init>")) (wi : (Jvm.Cond.instantiable C kk).before a0 Z = true) (hty : parseFieldDescriptor d = some ty) (hn : narrow ty v = v') (hf : fits ty v' = true) (hd : decode bytes pc = .ok (.putfield index, 3)) (hp : pc + 3 = pc')
    (K : ∀ T' h', own_S Z y bytes maxL ret p l e R s m args below meth c T' h' (locs ++ [⟨a, Jvm.RoadKit.slotOf Z O n d⟩]) cells slots → Wr h h' a (Jvm.RoadKit.slotOf Z O n d) v' → own_G p e below E (T'.setTop (mkF m pc' Ls st))) : own_G p e below E (T.setTop (mkF m pc Ls (v :: .ref a :: st))) := by
  subst hp
  obtain ⟨T', h', X', e', W', st'⟩ := putFN Y.X Y.x Y.warm Y.own w via Y.eT F EX (Lw.imp id fun q => ⟨q.1, q.2.1, Y.1.2.2.2.2.2.2.2.trans q.2.2⟩) wi hty hn hf (g := mkF m pc Ls (v :: .ref a :: st)) rfl rfl (Y.d hd)
  exact own_st st' (K T' h' ⟨Y.1, X', e'⟩ W')
theorem own_newO (pc' : Nat) (Y : own_S Z y bytes maxL ret p l e R s m args below meth c T h locs cells slots) {C : String} {index n : Nat} (w : (Jvm.Cond.classLink y.cls index C).before a0 Z = true) (wi : (Jvm.Cond.instantiable C n).before a0 Z = true) (wz : (Jvm.Cond.initialized C).before a0 Z = true) (hd : decode bytes pc = .ok (.new index, 3)) (hc : cells + 1 ≤ R.cells) (hl : slots + n ≤ R.slots) (hp : pc + 3 = pc')
    (K : ∀ T' h' a, own_S Z y bytes maxL ret p l e R s m args below meth c T' h' locs (cells + 1) (slots + n) → a = h.size → Ext h h' → Exa Z h' a C → (∀ {O nm d : String} {ty : FieldType}, Laid Z a0 C O nm d → parseFieldDescriptor d = some ty → Fld Z h' a O nm d (defaultValue ty)) → own_G p e below E (T'.setTop (mkF m pc' Ls (.ref a :: st)))) : own_G p e below E (T.setTop (mkF m pc Ls st)) := by
  subst hp
  obtain ⟨T', h', X', e', E', A', D', -, st'⟩ := newO Y.X Y.x Y.warm Y.own w wi wz Y.eT (g := mkF m pc Ls st) rfl (Y.d hd) hc hl
  exact own_st st' (K T' h' _ ⟨Y.1, X', e'⟩ rfl E' A' D')
theorem own_initO (pc' : Nat) (Y : own_S Z y bytes maxL ret p l e R s m args below meth c T h locs cells slots) {idx : Nat} {a : Addr} (w1 : (Jvm.Cond.methodLink y.cls idx Lib.objectInit).before a0 Z = true) (w2 : (Jvm.Cond.instanceMethod Lib.objectInit).before a0 Z = true) (w3 : (Jvm.Cond.code Lib.objectInit ⟨#[0xb1]⟩ 1 none).before a0 Z = true) (hd : decode bytes pc = .ok (.invokespecial idx, 3)) (hLs : Ls.size = maxL) (hf : 1 ≤ R.frames) (hl : (st.map fun v => v.category).sum + 12 ≤ R.locals) (hp : pc + 3 = pc') (K : ∀ T', own_S Z y bytes maxL ret p l e R s m args below meth c T' h locs cells slots → own_G p e below E (T'.setTop (mkF m pc' Ls st))) : own_G p e below E (T.setTop (mkF m pc Ls (.ref a :: st))) := by
  subst hp
  obtain ⟨T', X', e', st'⟩ := initO Y.X Y.x Y.warm Y.own w1 w2 w3 Y.eT (g := mkF m pc Ls (.ref a :: st)) rfl (hLs.trans Y.1.2.2.1.symm) rfl (Y.d hd) hf (W := (st.map fun v => v.category).sum) (by show 2 * 0 + _ ≤ _; omega) hl
  exact own_st st' (K T' ⟨Y.1, X', e'⟩)
theorem own_cast (pc' : Nat) (Y : own_S Z y bytes maxL ret p l e R s m args below meth c T h locs cells slots) {K0 : String} {index : Nat} {a : Addr} (w : (Jvm.Cond.classLink y.cls index K0).before a0 Z = true) (F : Ins Z h a K0 true) (hd : decode bytes pc = .ok (.checkcast index, 3)) (hp : pc + 3 = pc') (K : ∀ T', own_S Z y bytes maxL ret p l e R s m args below meth c T' h locs cells slots → own_G p e below E (T'.setTop (mkF m pc' Ls (.ref a :: st)))) : own_G p e below E (T.setTop (mkF m pc Ls (.ref a :: st))) := by
  subst hp
  obtain ⟨T', X', e', st'⟩ := castY Y.X Y.x Y.warm Y.own w Y.eT F (g := mkF m pc Ls (.ref a :: st)) rfl rfl (Y.d hd)
  exact own_st st' (K T' ⟨Y.1, X', e'⟩)
theorem own_newP (pc' : Nat) (Y : own_S Z y bytes maxL ret p l e R s m args below meth c T h locs cells slots) {aty : ArrayType} (w : (Jvm.Cond.arrayClass (newarray.typeOf aty)).before a0 Z = true) {n : Int32} (cap : Nat) (hd : decode bytes pc = .ok (.newarray aty, 2)) (hn : ¬ n < 0) (hcap : n.toNatClampNeg ≤ cap) (hb : cap * 8 ≤ 536870912) (hc : cells + 1 ≤ R.cells) (hl : slots + cap ≤ R.slots) (hp : pc + 2 = pc')
    (K : ∀ T' h' a kA, own_S Z y bytes maxL ret p l e R s m args below meth c T' h' locs (cells + 1) (slots + cap) → a = h.size → Ext h h' → Arv Z h' a kA (newarray.typeOf aty) n [] (defaultValue (newarray.typeOf aty)) → own_G p e below E (T'.setTop (mkF m pc' Ls (.ref a :: st)))) : own_G p e below E (T.setTop (mkF m pc Ls (.int n :: st))) := by
  subst hp
  obtain ⟨T', h', kA, X', e', E', A', st'⟩ := newP Y.X Y.x Y.warm w Y.eT (g := mkF m pc Ls (.int n :: st)) rfl (Y.d hd) rfl hn (cap := cap) hcap hb hc hl
  exact own_st st' (K T' h' _ kA ⟨Y.1, X', e'⟩ rfl E' (Arv.new A' hn))
theorem own_newR (pc' : Nat) (Y : own_S Z y bytes maxL ret p l e R s m args below meth c T h locs cells slots) {C : String} {index : Nat} (w1 : (Jvm.Cond.classLink y.cls index C).before a0 Z = true) (w2 : (Jvm.Cond.arrayOver (.object C)).before a0 Z = true) {n : Int32} (cap : Nat) (hd : decode bytes pc = .ok (.anewarray index, 3)) (hn : ¬ n < 0) (hcap : n.toNatClampNeg ≤ cap) (hb : cap * 8 ≤ 536870912) (hc : cells + 1 ≤ R.cells) (hl : slots + cap ≤ R.slots) (hp : pc + 3 = pc')
    (K : ∀ T' h' a kA, own_S Z y bytes maxL ret p l e R s m args below meth c T' h' locs (cells + 1) (slots + cap) → a = h.size → Ext h h' → Arv Z h' a kA (.object C) n [] .null → Ovr Z kA C → own_G p e below E (T'.setTop (mkF m pc' Ls (.ref a :: st)))) : own_G p e below E (T.setTop (mkF m pc Ls (.int n :: st))) := by
  subst hp
  obtain ⟨T', h', kA, X', e', E', A', O', st'⟩ := newR Y.X Y.x Y.warm Y.own w1 w2 Y.eT (g := mkF m pc Ls (.int n :: st)) rfl (Y.d hd) rfl hn (cap := cap) hcap hb hc hl
  exact own_st st' (K T' h' _ kA ⟨Y.1, X', e'⟩ rfl E' (Arv.new A' hn) O')
theorem own_stC (pc' : Nat) (Y : own_S Z y bytes maxL ret p l e R s m args below meth c T h locs cells slots) {a : Addr} {kA : ClassId} {n j : Int32} {vs : List Value} {dv : Value} {x : Int32} (A : Arv Z h a kA .char n vs dv) (hd : decode bytes pc = .ok (.castore, 1)) (hj : ¬ j < 0 ∧ j < n) (hp : pc + 1 = pc')
    (K : ∀ T' h', own_S Z y bytes maxL ret p l e R s m args below meth c T' h' (locs ++ [⟨a, j.toNatClampNeg⟩]) cells slots → Wr h h' a j.toNatClampNeg (.int (nar .char x)) → (∀ (i : Nat), j.toNatClampNeg = i → i < vs.length → fits .char (.int (nar .char x)) = true → Arv Z h' a kA .char n (vs.set i (.int (nar .char x))) dv) → own_G p e below E (T'.setTop (mkF m pc' Ls st))) : own_G p e below E (T.setTop (mkF m pc Ls (.int x :: .int j :: .ref a :: st))) := by
  subst hp
  obtain ⟨cl, A1, q1, q2, q3, q4, q5⟩ := A
  obtain ⟨T', h', X', e', W', st'⟩ := stC Y.X Y.x Y.warm Y.eT A1 (j := j) (inb_of q2 hj) (g := mkF m pc Ls (.int x :: .int j :: .ref a :: st)) rfl rfl (Y.d hd)
  exact own_st st' (K T' h' ⟨Y.1, X', e'⟩ W' fun i hi hl hf => Arv.set A1 q1 q2 q3 q4 q5 hf W' i hi hl)
theorem own_stI (pc' : Nat) (Y : own_S Z y bytes maxL ret p l e R s m args below meth c T h locs cells slots) {a : Addr} {kA : ClassId} {n j : Int32} {vs : List Value} {dv : Value} {x : Int32} (A : Arv Z h a kA .int n vs dv) (hd : decode bytes pc = .ok (.iastore, 1)) (hj : ¬ j < 0 ∧ j < n) (hp : pc + 1 = pc')
    (K : ∀ T' h', own_S Z y bytes maxL ret p l e R s m args below meth c T' h' (locs ++ [⟨a, j.toNatClampNeg⟩]) cells slots → Wr h h' a j.toNatClampNeg (.int x) → (∀ (i : Nat), j.toNatClampNeg = i → i < vs.length → fits .int (.int x) = true → Arv Z h' a kA .int n (vs.set i (.int x)) dv) → own_G p e below E (T'.setTop (mkF m pc' Ls st))) : own_G p e below E (T.setTop (mkF m pc Ls (.int x :: .int j :: .ref a :: st))) := by
  subst hp
  obtain ⟨cl, A1, q1, q2, q3, q4, q5⟩ := A
  obtain ⟨T', h', X', e', W', st'⟩ := stI Y.X Y.x Y.warm Y.eT A1 (j := j) (inb_of q2 hj) (g := mkF m pc Ls (.int x :: .int j :: .ref a :: st)) rfl rfl (Y.d hd)
  exact own_st st' (K T' h' ⟨Y.1, X', e'⟩ W' fun i hi hl hf => Arv.set A1 q1 q2 q3 q4 q5 hf W' i hi hl)
theorem own_stB (pc' : Nat) (Y : own_S Z y bytes maxL ret p l e R s m args below meth c T h locs cells slots) {a : Addr} {kA : ClassId} {n j : Int32} {vs : List Value} {dv : Value} {x : Int32} (A : Arv Z h a kA .byte n vs dv) (hd : decode bytes pc = .ok (.bastore, 1)) (hj : ¬ j < 0 ∧ j < n) (hp : pc + 1 = pc')
    (K : ∀ T' h', own_S Z y bytes maxL ret p l e R s m args below meth c T' h' (locs ++ [⟨a, j.toNatClampNeg⟩]) cells slots → Wr h h' a j.toNatClampNeg (.int (nar .byte x)) → (∀ (i : Nat), j.toNatClampNeg = i → i < vs.length → fits .byte (.int (nar .byte x)) = true → Arv Z h' a kA .byte n (vs.set i (.int (nar .byte x))) dv) → own_G p e below E (T'.setTop (mkF m pc' Ls st))) : own_G p e below E (T.setTop (mkF m pc Ls (.int x :: .int j :: .ref a :: st))) := by
  subst hp
  obtain ⟨cl, A1, q1, q2, q3, q4, q5⟩ := A
  obtain ⟨T', h', X', e', W', st'⟩ := stB Y.X Y.x Y.warm Y.eT A1 (j := j) (inb_of q2 hj) (g := mkF m pc Ls (.int x :: .int j :: .ref a :: st)) rfl rfl (Y.d hd)
  exact own_st st' (K T' h' ⟨Y.1, X', e'⟩ W' fun i hi hl hf => Arv.set A1 q1 q2 q3 q4 q5 hf W' i hi hl)
theorem own_stJ (pc' : Nat) (Y : own_S Z y bytes maxL ret p l e R s m args below meth c T h locs cells slots) {a : Addr} {kA : ClassId} {n j : Int32} {vs : List Value} {dv : Value} {x : Int64} (A : Arv Z h a kA .long n vs dv) (hd : decode bytes pc = .ok (.lastore, 1)) (hj : ¬ j < 0 ∧ j < n) (hp : pc + 1 = pc')
    (K : ∀ T' h', own_S Z y bytes maxL ret p l e R s m args below meth c T' h' (locs ++ [⟨a, j.toNatClampNeg⟩]) cells slots → Wr h h' a j.toNatClampNeg (.long x) → (∀ (i : Nat), j.toNatClampNeg = i → i < vs.length → fits .long (.long x) = true → Arv Z h' a kA .long n (vs.set i (.long x)) dv) → own_G p e below E (T'.setTop (mkF m pc' Ls st))) : own_G p e below E (T.setTop (mkF m pc Ls (.long x :: .int j :: .ref a :: st))) := by
  subst hp
  obtain ⟨cl, A1, q1, q2, q3, q4, q5⟩ := A
  obtain ⟨T', h', X', e', W', st'⟩ := stJ Y.X Y.x Y.warm Y.eT A1 (j := j) (inb_of q2 hj) (g := mkF m pc Ls (.long x :: .int j :: .ref a :: st)) rfl rfl (Y.d hd)
  exact own_st st' (K T' h' ⟨Y.1, X', e'⟩ W' fun i hi hl hf => Arv.set A1 q1 q2 q3 q4 q5 hf W' i hi hl)
theorem own_stR (pc' : Nat) (Y : own_S Z y bytes maxL ret p l e R s m args below meth c T h locs cells slots) {a : Addr} {kA : ClassId} {n j : Int32} {vs : List Value} {dv : Value} {v : Value} {ty : FieldType} (A : Arv Z h a kA ty n vs dv) (hty : ty.isReference = true) (F : Sto Z h a v) (hfit : fits ty v = true) (hd : decode bytes pc = .ok (.aastore, 1)) (hj : ¬ j < 0 ∧ j < n) (hp : pc + 1 = pc')
    (K : ∀ T' h', own_S Z y bytes maxL ret p l e R s m args below meth c T' h' (locs ++ [⟨a, j.toNatClampNeg⟩]) cells slots → Wr h h' a j.toNatClampNeg v → (∀ (i : Nat), j.toNatClampNeg = i → i < vs.length → Arv Z h' a kA ty n (vs.set i v) dv) → own_G p e below E (T'.setTop (mkF m pc' Ls st))) : own_G p e below E (T.setTop (mkF m pc Ls (v :: .int j :: .ref a :: st))) := by
  subst hp
  obtain ⟨cl, A1, q1, q2, q3, q4, q5⟩ := A
  obtain ⟨T', h', X', e', W', st'⟩ := stR Y.X Y.x Y.warm Y.eT A1 (j := j) (inb_of q2 hj) hty F (g := mkF m pc Ls (v :: .int j :: .ref a :: st)) rfl rfl (Y.d hd)
  exact own_st st' (K T' h' ⟨Y.1, X', e'⟩ W' fun i hi hl => Arv.set A1 q1 q2 q3 q4 q5 hfit W' i hi hl)
theorem own_caload (pc' : Nat) (Y : own_S Z y bytes maxL ret p l e R s m args below meth c T h locs cells slots) {a : Addr} {kA : ClassId} {n j : Int32} {vs : List Value} {dv : Value} (A : Arv Z h a kA .char n vs dv) {v : Value} (hd : decode bytes pc = .ok (.caload, 1)) (hj : ¬ j < 0 ∧ j < n) (hv : vs.getD j.toNatClampNeg dv = v) (hp : pc + 1 = pc') (K : own_G p e below E (T.setTop (mkF m pc' Ls (v :: st)))) : own_G p e below E (T.setTop (mkF m pc Ls (.int j :: .ref a :: st))) := by
  subst hp
  obtain ⟨cl, A1, q1, q2, q3, q4, q5⟩ := A
  exact own_st (fun t k => Y.X.caload Y.x (j := j) (v := v) (by rw [Y.eT]; exact A1.1) (State.isArrayOf_alike Y.warm.alike A1.2.1) A1.2.2 (inb_of q2 hj) (q4.at (inb_of q2 hj) hv) (g := mkF m pc Ls (.int j :: .ref a :: st)) rfl rfl (Y.d hd) t k) K
theorem own_iaload (pc' : Nat) (Y : own_S Z y bytes maxL ret p l e R s m args below meth c T h locs cells slots) {a : Addr} {kA : ClassId} {n j : Int32} {vs : List Value} {dv : Value} (A : Arv Z h a kA .int n vs dv) {v : Value} (hd : decode bytes pc = .ok (.iaload, 1)) (hj : ¬ j < 0 ∧ j < n) (hv : vs.getD j.toNatClampNeg dv = v) (hp : pc + 1 = pc') (K : own_G p e below E (T.setTop (mkF m pc' Ls (v :: st)))) : own_G p e below E (T.setTop (mkF m pc Ls (.int j :: .ref a :: st))) := by
  subst hp
  obtain ⟨cl, A1, q1, q2, q3, q4, q5⟩ := A
  exact own_st (fun t k => Y.X.iaload Y.x (j := j) (v := v) (by rw [Y.eT]; exact A1.1) (State.isArrayOf_alike Y.warm.alike A1.2.1) A1.2.2 (inb_of q2 hj) (q4.at (inb_of q2 hj) hv) (g := mkF m pc Ls (.int j :: .ref a :: st)) rfl rfl (Y.d hd) t k) K
theorem own_baload (pc' : Nat) (Y : own_S Z y bytes maxL ret p l e R s m args below meth c T h locs cells slots) {a : Addr} {kA : ClassId} {n j : Int32} {vs : List Value} {dv : Value} (A : Arv Z h a kA .byte n vs dv) {v : Value} (hd : decode bytes pc = .ok (.baload, 1)) (hj : ¬ j < 0 ∧ j < n) (hv : vs.getD j.toNatClampNeg dv = v) (hp : pc + 1 = pc') (K : own_G p e below E (T.setTop (mkF m pc' Ls (v :: st)))) : own_G p e below E (T.setTop (mkF m pc Ls (.int j :: .ref a :: st))) := by
  subst hp
  obtain ⟨cl, A1, q1, q2, q3, q4, q5⟩ := A
  exact own_st (fun t k => Y.X.baloadBytes Y.x (j := j) (v := v) (by rw [Y.eT]; exact A1.1) (State.isArrayOf_alike Y.warm.alike A1.2.1) A1.2.2 (inb_of q2 hj) (q4.at (inb_of q2 hj) hv) (g := mkF m pc Ls (.int j :: .ref a :: st)) rfl rfl (Y.d hd) t k) K
theorem own_laload (pc' : Nat) (Y : own_S Z y bytes maxL ret p l e R s m args below meth c T h locs cells slots) {a : Addr} {kA : ClassId} {n j : Int32} {vs : List Value} {dv : Value} (A : Arv Z h a kA .long n vs dv) {v : Value} (hd : decode bytes pc = .ok (.laload, 1)) (hj : ¬ j < 0 ∧ j < n) (hv : vs.getD j.toNatClampNeg dv = v) (hp : pc + 1 = pc') (K : own_G p e below E (T.setTop (mkF m pc' Ls (v :: st)))) : own_G p e below E (T.setTop (mkF m pc Ls (.int j :: .ref a :: st))) := by
  subst hp
  obtain ⟨cl, A1, q1, q2, q3, q4, q5⟩ := A
  exact own_st (fun t k => Y.X.laload Y.x (j := j) (v := v) (by rw [Y.eT]; exact A1.1) (State.isArrayOf_alike Y.warm.alike A1.2.1) A1.2.2 (inb_of q2 hj) (q4.at (inb_of q2 hj) hv) (g := mkF m pc Ls (.int j :: .ref a :: st)) rfl rfl (Y.d hd) t k) K
theorem own_aaload (pc' : Nat) (Y : own_S Z y bytes maxL ret p l e R s m args below meth c T h locs cells slots) {a : Addr} {kA : ClassId} {n j : Int32} {vs : List Value} {dv : Value} {ty : FieldType} (A : Arv Z h a kA ty n vs dv) (hty : ty.isReference = true) {v : Value} (hd : decode bytes pc = .ok (.aaload, 1)) (hj : ¬ j < 0 ∧ j < n) (hv : vs.getD j.toNatClampNeg dv = v) (hp : pc + 1 = pc') (K : own_G p e below E (T.setTop (mkF m pc' Ls (v :: st)))) : own_G p e below E (T.setTop (mkF m pc Ls (.int j :: .ref a :: st))) := by
  subst hp
  obtain ⟨cl, A1, q1, q2, q3, q4, q5⟩ := A
  exact own_st (fun t k => Y.X.aaload Y.x (j := j) (v := v) (by rw [Y.eT]; exact A1.1) (State.isArrayOf_alike Y.warm.alike A1.2.1) hty A1.2.2 (inb_of q2 hj) (q4.at (inb_of q2 hj) hv) (g := mkF m pc Ls (.int j :: .ref a :: st)) rfl rfl (Y.d hd) t k) K
theorem own_alen (pc' : Nat) (Y : own_S Z y bytes maxL ret p l e R s m args below meth c T h locs cells slots) {a : Addr} {kA : ClassId} {n : Int32} {vs : List Value} {dv : Value} {ty : FieldType} (A : Arv Z h a kA ty n vs dv) (hd : decode bytes pc = .ok (.arraylength, 1)) (hp : pc + 1 = pc') (K : own_G p e below E (T.setTop (mkF m pc' Ls (.int n :: st)))) : own_G p e below E (T.setTop (mkF m pc Ls (.ref a :: st))) := by
  subst hp
  obtain ⟨cl, A1, q1, q2, q3, q4, q5⟩ := A
  refine own_st (fun t k => Y.X.arraylength Y.x (by rw [Y.eT]; exact A1.1) (State.isArrayOf_alike Y.warm.alike A1.2.1) (g := mkF m pc Ls (.ref a :: st)) rfl rfl (Y.d hd) t k) ?_
  rw [len_of q2 q3]
  exact K
theorem own_callS (pc' : Nat) (Y : own_S Z y bytes maxL ret p l e R s m args below meth c T h locs cells slots) {yc : MethodName} {bc : ByteArray} {mc : Nat} {rc : Option FieldType} {rm : Room} {index : Nat} {Qc : Option Value → Heap → List Loc → Prop} (argsL rest : List Value) (w1 : (Jvm.Cond.methodLink y.cls index yc).before a0 Z = true) (w2 : (Jvm.Cond.static yc).before a0 Z = true) (w3 : (Jvm.Cond.initialized yc.cls).before a0 Z = true) (w4 : (Jvm.Cond.code yc bc mc rc).before a0 Z = true) (hM : own_M l yc bc mc rc [] rm Z argsL.toArray h Qc) (hd : decode bytes pc = .ok (.invokestatic index, 3)) (hy : (yc.cls ≠ "java/lang/invoke/MethodHandle" ∧ yc.cls ≠ "java/lang/invoke/VarHandle")) (hlen : ∀ sig, parseMethodDescriptor yc.desc = some sig → argsL.length = sig.parameters.length) (hst : st = argsL.reverse ++ rest) (hLs : Ls.size = maxL) (hf : rm.frames + 1 ≤ R.frames) (hl : (rest.map fun v => v.category).sum + (mc + 11) + rm.locals ≤ R.locals) (hc : cells + rm.cells ≤ R.cells) (hs : slots + rm.slots ≤ R.slots) (hp : pc + 3 = pc')
    (K : ∀ v T' h' L, own_S Z y bytes maxL ret p l e R s m args below meth c T' h' (locs ++ L) (cells + rm.cells) (slots + rm.slots) → Qc v h' L → own_G p e below E (T'.setTop (mkF m pc' Ls (v.toList ++ rest)))) : own_G p e below E (T.setTop (mkF m pc Ls st)) := by
  subst hp
  obtain ⟨v, _, ⟨T', L', k', n'⟩, -, X', P', st'⟩ := Jvm.LawKit.callS Y.X Y.x (y := yc) Y.own (mvT Y.warm w1) (mvT Y.warm w2) (mvT Y.warm w3) (mvT Y.warm w4) hy (backOf (W := (rest.map fun v => v.category).sum) hM Y.warm w4 w3 hf hl) (g := mkF m pc Ls st) rfl (hLs.trans Y.1.2.2.1.symm) (argsL := argsL) (rest := rest) hlen hst (by show 2 * 0 + _ ≤ _; omega) (Y.d hd) (fun _ _ => ⟨rfl, Y.eT, hc, hs⟩)
  obtain ⟨Lc, hQ, l1, y1, z1⟩ := P'
  dsimp only [Pt.U, Pt.locs, Pt.cells, Pt.slots] at l1 y1 z1 hQ
  dsimp only [Pt.U, Pt.locs, Pt.cells, Pt.slots] at X' st'
  subst l1 y1 z1
  exact own_st st' (K v T' T'.heap Lc ⟨Y.1, X', rfl⟩ hQ)
theorem own_callI (pc' : Nat) (Y : own_S Z y bytes maxL ret p l e R s m args below meth c T h locs cells slots) {yc : MethodName} {bc : ByteArray} {mc : Nat} {rm : Room} {index : Nat} {Qc : Option Value → Heap → List Loc → Prop} (argsL rest : List Value) {a : Addr} (hini : yc.name = "<init>") (w1 : (Jvm.Cond.methodLink y.cls index yc).before a0 Z = true) (w2 : (Jvm.Cond.instanceMethod yc).before a0 Z = true) (w3 : (Jvm.Cond.initialized yc.cls).before a0 Z = true) (w4 : (Jvm.Cond.code yc bc mc none).before a0 Z = true) (hM : own_M l yc bc mc none [] rm Z (.ref a :: argsL).toArray h Qc) (hd : decode bytes pc = .ok (.invokespecial index, 3)) (hy : (yc.cls ≠ "java/lang/invoke/MethodHandle" ∧ yc.cls ≠ "java/lang/invoke/VarHandle")) (hlen : ∀ sig, parseMethodDescriptor yc.desc = some sig → argsL.length = sig.parameters.length) (hst : st = argsL.reverse ++ .ref a :: rest) (hLs : Ls.size = maxL) (hf : rm.frames + 1 ≤ R.frames) (hl : (rest.map fun v => v.category).sum + (mc + 11) + rm.locals ≤ R.locals) (hc : cells + rm.cells ≤ R.cells) (hs : slots + rm.slots ≤ R.slots) (hp : pc + 3 = pc')
    (K : ∀ v T' h' L, own_S Z y bytes maxL ret p l e R s m args below meth c T' h' (locs ++ L) (cells + rm.cells) (slots + rm.slots) → Qc v h' L → own_G p e below E (T'.setTop (mkF m pc' Ls (v.toList ++ rest)))) : own_G p e below E (T.setTop (mkF m pc Ls st)) := by
  subst hp
  obtain ⟨v, _, ⟨T', L', k', n'⟩, -, X', P', st'⟩ := Y.X.specialBack Y.x (y := yc) hini Y.own (mvT Y.warm w1) (mvT Y.warm w2) (mvT Y.warm w4) hy (backOf (W := (rest.map fun v => v.category).sum) hM Y.warm w4 w3 hf hl) (g := mkF m pc Ls st) rfl (hLs.trans Y.1.2.2.1.symm) (Steps.refl _) (a := a) (argsL := argsL) (rest := rest) hlen hst (by show 2 * 0 + _ ≤ _; omega) (Y.d hd) (fun _ _ => ⟨rfl, Y.eT, hc, hs⟩)
  obtain ⟨Lc, hQ, l1, y1, z1⟩ := P'
  dsimp only [Pt.U, Pt.locs, Pt.cells, Pt.slots] at l1 y1 z1 hQ
  dsimp only [Pt.U, Pt.locs, Pt.cells, Pt.slots] at X' st'
  subst l1 y1 z1
  exact own_st (fun t k => st'.trans k) (K v T' T'.heap Lc ⟨Y.1, X', rfl⟩ hQ)
theorem own_callV (pc' : Nat) (Y : own_S Z y bytes maxL ret p l e R s m args below meth c T h locs cells slots) {yc : MethodName} {bc : ByteArray} {mc : Nat} {rc : Option FieldType} {rm : Room} {index : Nat} {Qc : Option Value → Heap → List Loc → Prop} {yr : MethodName} {C : String} (argsL rest : List Value) {a : Addr} (EX : Exa Z h a C) (w1 : (Jvm.Cond.methodLink y.cls index yr).before a0 Z = true) (wd : (Jvm.Cond.declares yr).before a0 Z = true) (nf : NotFace s yr) (ws : (Jvm.Cond.selects C yr yc).before a0 Z = true) (w2 : (Jvm.Cond.instanceMethod yc).before a0 Z = true) (w3 : (Jvm.Cond.initialized yc.cls).before a0 Z = true) (w4 : (Jvm.Cond.code yc bc mc rc).before a0 Z = true) (hM : own_M l yc bc mc rc [] rm Z (.ref a :: argsL).toArray h Qc) (hd : decode bytes pc = .ok (.invokevirtual index, 3)) (hy : (yr.cls ≠ "java/lang/invoke/MethodHandle" ∧ yr.cls ≠ "java/lang/invoke/VarHandle")) (hlen : ∀ sig, parseMethodDescriptor yr.desc = some sig → argsL.length = sig.parameters.length) (hst : st = argsL.reverse ++ .ref a :: rest) (hLs : Ls.size = maxL) (hf : rm.frames + 1 ≤ R.frames) (hl : (rest.map fun v => v.category).sum + (mc + 11) + rm.locals ≤ R.locals) (hc : cells + rm.cells ≤ R.cells) (hs : slots + rm.slots ≤ R.slots) (hp : pc + 3 = pc')
    (K : ∀ v T' h' L, own_S Z y bytes maxL ret p l e R s m args below meth c T' h' (locs ++ L) (cells + rm.cells) (slots + rm.slots) → Qc v h' L → own_G p e below E (T'.setTop (mkF m pc' Ls (v.toList ++ rest)))) : own_G p e below E (T.setTop (mkF m pc Ls st)) := by
  subst hp
  obtain ⟨cq, kq, qa, qb, qc⟩ := isOf Y.warm Y.eT EX
  obtain ⟨v, _, ⟨T', L', k', n'⟩, -, X', P', st'⟩ := Y.X.virtualBack Y.x (y := yr) (z := yc) Y.own (mvT Y.warm w1) (mvT Y.warm wd) nf (mvT Y.warm ws) (mvT Y.warm w2) hy (backOf (W := (rest.map fun v => v.category).sum) hM Y.warm w4 w3 hf hl) qa qc (g := mkF m pc Ls st) rfl (hLs.trans Y.1.2.2.1.symm) (Steps.refl _) (argsL := argsL) (rest := rest) hlen hst (by show 2 * 0 + _ ≤ _; omega) (Y.d hd) (fun _ _ => ⟨rfl, Y.eT, hc, hs⟩)
  obtain ⟨Lc, hQ, l1, y1, z1⟩ := P'
  dsimp only [Pt.U, Pt.locs, Pt.cells, Pt.slots] at l1 y1 z1 hQ
  dsimp only [Pt.U, Pt.locs, Pt.cells, Pt.slots] at X' st'
  subst l1 y1 z1
  exact own_st (fun t k => st'.trans k) (K v T' T'.heap Lc ⟨Y.1, X', rfl⟩ hQ)
theorem own_callUp (pc' : Nat) (Y : own_S Z y bytes maxL ret p l e R s m args below meth c T h locs cells slots) {yc : MethodName} {bc : ByteArray} {mc : Nat} {rc : Option FieldType} {rm : Room} {index : Nat} {Qc : Option Value → Heap → List Loc → Prop} {yr : MethodName} {C owner : String} (argsL rest : List Value) {a : Addr} (EX : Exa Z h a C) (w1 : (Jvm.Cond.methodLink y.cls index yr).before a0 Z = true) (wm : (Jvm.Cond.sameMethod yr.cls owner yr.name yr.desc).before a0 Z = true) (wd : (Jvm.Cond.declares ⟨owner, yr.name, yr.desc⟩).before a0 Z = true) (ws : (Jvm.Cond.selects C yr yc).before a0 Z = true) (w2 : (Jvm.Cond.instanceMethod yc).before a0 Z = true) (w3 : (Jvm.Cond.initialized yc.cls).before a0 Z = true) (w4 : (Jvm.Cond.code yc bc mc rc).before a0 Z = true) (hM : own_M l yc bc mc rc [] rm Z (.ref a :: argsL).toArray h Qc) (hd : decode bytes pc = .ok (.invokevirtual index, 3)) (hy : owner ≠ "java/lang/invoke/MethodHandle" ∧ owner ≠ "java/lang/invoke/VarHandle") (hlen : ∀ sig, parseMethodDescriptor yr.desc = some sig → argsL.length = sig.parameters.length) (hst : st = argsL.reverse ++ .ref a :: rest) (hLs : Ls.size = maxL) (hf : rm.frames + 1 ≤ R.frames) (hl : (rest.map fun v => v.category).sum + (mc + 11) + rm.locals ≤ R.locals) (hc : cells + rm.cells ≤ R.cells) (hs : slots + rm.slots ≤ R.slots) (hp : pc + 3 = pc')
    (K : ∀ v T' h' L, own_S Z y bytes maxL ret p l e R s m args below meth c T' h' (locs ++ L) (cells + rm.cells) (slots + rm.slots) → Qc v h' L → own_G p e below E (T'.setTop (mkF m pc' Ls (v.toList ++ rest)))) : own_G p e below E (T.setTop (mkF m pc Ls st)) := by
  subst hp
  obtain ⟨cq, kq, qa, qb, qc⟩ := isOf Y.warm Y.eT EX
  obtain ⟨v, _, ⟨T', L', k', n'⟩, -, X', P', st'⟩ := Y.X.virtualBackUp Y.x (x := yr) (y := yc) Y.own (mvT Y.warm w1) (mvT Y.warm wm) (mvT Y.warm wd) hy (mvT Y.warm ws) (mvT Y.warm w2) (backOf (W := (rest.map fun v => v.category).sum) hM Y.warm w4 w3 hf hl) qa qc (g := mkF m pc Ls st) rfl (hLs.trans Y.1.2.2.1.symm) (Steps.refl _) (argsL := argsL) (rest := rest) hlen hst (by show 2 * 0 + _ ≤ _; omega) (Y.d hd) (fun _ _ => ⟨rfl, Y.eT, hc, hs⟩)
  obtain ⟨Lc, hQ, l1, y1, z1⟩ := P'
  dsimp only [Pt.U, Pt.locs, Pt.cells, Pt.slots] at l1 y1 z1 hQ
  dsimp only [Pt.U, Pt.locs, Pt.cells, Pt.slots] at X' st'
  subst l1 y1 z1
  exact own_st (fun t k => st'.trans k) (K v T' T'.heap Lc ⟨Y.1, X', rfl⟩ hQ)
theorem own_natS (pc' : Nat) (Y : own_S Z y bytes maxL ret p l e R s m args below meth c T h locs cells slots) {yc : MethodName} {bc : ByteArray} {mc : Nat} {rc : Option FieldType} {index : Nat} {val : Value} {F : Array Value → Prop} (argsL rest : List Value) (w1 : (Jvm.Cond.methodLink y.cls index yc).before a0 Z = true) (w2 : (Jvm.Cond.static yc).before a0 Z = true) (w3 : (Jvm.Cond.initialized yc.cls).before a0 Z = true) (w4 : (Jvm.Cond.code yc bc mc rc).before a0 Z = true) (hK : (Jvm.Cond.code yc bc mc rc).before args s = true → Back l R p e below s args yc 3 (rest.map fun v => v.category).sum (fun A a' => A.cells ≤ R.cells ∧ A.slots ≤ R.slots ∧ F a') (fun A _ v B => v = some val ∧ B = A)) (hF : F argsL.toArray) (hd : decode bytes pc = .ok (.invokestatic index, 3)) (hy : (yc.cls ≠ "java/lang/invoke/MethodHandle" ∧ yc.cls ≠ "java/lang/invoke/VarHandle")) (hlen : ∀ sig, parseMethodDescriptor yc.desc = some sig → argsL.length = sig.parameters.length) (hst : st = argsL.reverse ++ rest) (hLs : Ls.size = maxL) (hc : cells ≤ R.cells) (hs : slots ≤ R.slots) (hp : pc + 3 = pc') (K : ∀ T', own_S Z y bytes maxL ret p l e R s m args below meth c T' h locs cells slots → own_G p e below E (T'.setTop (mkF m pc' Ls (val :: rest)))) : own_G p e below E (T.setTop (mkF m pc Ls st)) := by
  subst hp
  obtain ⟨T', X', e', st'⟩ := natS Y.X Y.x Y.warm Y.own w1 w2 w3 w4 hy Y.eT hK (g := mkF m pc Ls st) rfl (hLs.trans Y.1.2.2.1.symm) (argsL := argsL) (rest := rest) hlen hst (by show 2 * 0 + _ ≤ _; omega) (Y.d hd) hc hs hF rfl
  exact own_st st' (K T' ⟨Y.1, X', e'⟩)
theorem own_ret (Y : own_S Z y bytes maxL ret p l e R s m args below meth c T h locs cells slots) {w : Value} {t : FieldType} {i : Instr} (hn : narrow t w = w)
    (hi : (i = .ireturn ∧ (t = .int ∨ t = .boolean ∨ t = .byte ∨ t = .char ∨ t = .short) ∧ ∃ z, w = .int z) ∨ (i = .lreturn ∧ t = .long ∧ ∃ z, w = .long z) ∨ (i = .dreturn ∧ t = .double ∧ ∃ z, w = .double z) ∨ (i = .freturn ∧ t = .float ∧ ∃ z, w = .float z) ∨ (i = .areturn ∧ t.isReference = true ∧ w.isRef = true))
    (hret : ret = some t) (hd : decode bytes pc = .ok (i, 1)) (hc : cells ≤ kc) (hs : slots ≤ ks) (hq : Q (some w) h locs) : own_G p e below (own_E s Q kc ks) (T.setTop (mkF m pc Ls (w :: st))) := by
  obtain ⟨⟨hx, hby, hml, hown, hZ, hr0, hlk, hnm⟩, X, eT⟩ := Y
  subst eT
  obtain ⟨fs, hr, hrun, hended, hW, hsame⟩ := X.leave (v := some w) (fun q => by rw [hr0, hret] at q; cases q) hlk
  exact ⟨_, _, retOut X hx (hr0.trans hret) hn hi (hb hby hd) hr, hrun, hended, _, _, rfl, hq, ⟨_, rfl⟩, hW, hsame.mono hc hs⟩
theorem own_retI (Y : own_S Z y bytes maxL ret p l e R s m args below meth c T h locs cells slots) {z : Int32} (hret : ret = some .int) (hd : decode bytes pc = .ok (.ireturn, 1)) (hc : cells ≤ kc) (hs : slots ≤ ks) (hq : Q (some (.int z)) h locs) : own_G p e below (own_E s Q kc ks) (T.setTop (mkF m pc Ls (.int z :: st))) := own_ret Y rfl (Or.inl ⟨rfl, Or.inl rfl, _, rfl⟩) hret hd hc hs hq
theorem own_retL (Y : own_S Z y bytes maxL ret p l e R s m args below meth c T h locs cells slots) {z : Int64} (hret : ret = some .long) (hd : decode bytes pc = .ok (.lreturn, 1)) (hc : cells ≤ kc) (hs : slots ≤ ks) (hq : Q (some (.long z)) h locs) : own_G p e below (own_E s Q kc ks) (T.setTop (mkF m pc Ls (.long z :: st))) := own_ret Y rfl (Or.inr (Or.inl ⟨rfl, rfl, _, rfl⟩)) hret hd hc hs hq
theorem own_retD (Y : own_S Z y bytes maxL ret p l e R s m args below meth c T h locs cells slots) {z : UInt64} (hret : ret = some .double) (hd : decode bytes pc = .ok (.dreturn, 1)) (hc : cells ≤ kc) (hs : slots ≤ ks) (hq : Q (some (.double z)) h locs) : own_G p e below (own_E s Q kc ks) (T.setTop (mkF m pc Ls (.double z :: st))) := own_ret Y rfl (Or.inr (Or.inr (Or.inl ⟨rfl, rfl, _, rfl⟩))) hret hd hc hs hq
theorem own_retA (Y : own_S Z y bytes maxL ret p l e R s m args below meth c T h locs cells slots) {w : Value} {t : FieldType} (hret : ret = some t) (ht : t.isReference = true) (hw : w.isRef = true) (hd : decode bytes pc = .ok (.areturn, 1)) (hc : cells ≤ kc) (hs : slots ≤ ks) (hq : Q (some w) h locs) : own_G p e below (own_E s Q kc ks) (T.setTop (mkF m pc Ls (w :: st))) := own_ret Y (by cases t <;> first | rfl | (cases ht; done)) (Or.inr (Or.inr (Or.inr (Or.inr ⟨rfl, ht, hw⟩)))) hret hd hc hs hq
theorem own_retN (Y : own_S Z y bytes maxL ret p l e R s m args below meth c T h locs cells slots) {z : Int32} {t : FieldType} (hret : ret = some t) (ht : t = .boolean ∨ t = .byte ∨ t = .char ∨ t = .short) (hd : decode bytes pc = .ok (.ireturn, 1)) (hc : cells ≤ kc) (hs : slots ≤ ks) (hq : Q (some (.int (nar t z))) h locs) : own_G p e below (own_E s Q kc ks) (T.setTop (mkF m pc Ls (.int z :: st))) := by
  obtain ⟨⟨hx, hby, hml, hown, hZ, hr0, hlk, hnm⟩, X, eT⟩ := Y
  subst eT
  obtain ⟨fs, hr, hrun, hended, hW, hsame⟩ := X.leave (v := some (.int (nar t z))) (fun q => by rw [hr0, hret] at q; cases q) hlk
  exact ⟨_, _, retN X hx (hr0.trans hret) ht (hb hby hd) hr, hrun, hended, _, _, rfl, hq, ⟨_, rfl⟩, hW, hsame.mono hc hs⟩
theorem own_retV (Y : own_S Z y bytes maxL ret p l e R s m args below meth c T h locs cells slots) (hret : ret = none) (hd : decode bytes pc = .ok (.return_, 1)) (hc : cells ≤ kc) (hs : slots ≤ ks) (hq : Q none h locs) : own_G p e below (own_E s Q kc ks) (T.setTop (mkF m pc Ls [])) := by
  obtain ⟨⟨hx, hby, hml, hown, hZ, hr0, hlk, hnm⟩, X, eT⟩ := Y
  subst eT
  obtain ⟨fs, hr, hrun, hended, hW, hsame⟩ := X.leave (v := none) (fun _ => rfl) hlk
  exact ⟨_, _, X.returnOut hx (hr0.trans hret) (hb hby hd) hr, hrun, hended, _, _, rfl, hq, ⟨_, rfl⟩, hW, hsame.mono hc hs⟩
end Own

theorem own_frs {k : Nat} {locs : List Loc} {a : Addr} {sl : Nat} (N : Fr k locs) (q : k ≤ a) : Fr k (locs ++ [⟨a, sl⟩]) := N.app fun y hy => by cases List.mem_singleton.mp hy; exact q
theorem own_frY {p : Program} {l : Launch} {e : Env} {R : Room} {s : State} {m : MethodId} {args : Array Value} {below : List Frame} {meth : Method} {c : Code} {T : State} {locs : List Loc} {cells slots : Nat} {Z : State} {h : Heap} {y : MethodName} {bytes : ByteArray} {maxL : Nat} {ret : Option FieldType} {k : Nat} {a : Addr} {sl : Nat} (Y : own_S Z y bytes maxL ret p l e R s m args below meth c T h (locs ++ [⟨a, sl⟩]) cells slots) (N : Fr k locs) (q : k ≤ a) : Fr k (locs ++ [⟨a, sl⟩]) := own_frs N q
theorem own_fitR {n : String} {v : Value} (q : v.isRef = true) : narrow (.object n) v = v ∧ fits (.object n) v = true := by cases v <;> first | exact ⟨rfl, rfl⟩ | cases q
theorem own_fitA {t : FieldType} {v : Value} (q : v.isRef = true) : narrow (.array t) v = v ∧ fits (.array t) v = true := by cases v <;> first | exact ⟨rfl, rfl⟩ | cases q
theorem own_keepE {h0 h : Heap} (K : Keep h0 h []) : Ext h0 h := ⟨K.1, fun a c q => K.2.1 a c q nin0⟩
theorem own_keepF {h0 h1 h2 : Heap} {b : Addr} (E : Ext h0 h1) (g : b = h0.size) (K : Keep h1 h2 [b]) : Keep h0 h2 [] := ((Keep.refl h0 []).ext E).trans K (allS (Or.inr (Nat.le_of_eq g.symm)) all0)
theorem own_refCat {v : Value} (q : v.isRef = true) : v.category = 1 := by cases v <;> first | rfl | cases q

def Qv (u : Option Value) (h0 : Heap) (v : Option Value) (h : Heap) (L : List Loc) : Prop := h0 = h ∧ L = [] ∧ v = u
def Qref (h0 : Heap) (v : Option Value) (h : Heap) (L : List Loc) : Prop := h0 = h ∧ L = [] ∧ ∃ a : Addr, v = some (.ref a)
theorem d1_0 : decode method_2_code 0 = .ok (.iload_n 0, 1) := by decide +kernel
theorem d1_1 : decode method_2_code 1 = .ok (.ldc 7, 2) := by decide +kernel
theorem d1_3 : decode method_2_code 3 = .ok (.iand, 1) := by decide +kernel
theorem d1_4 : decode method_2_code 4 = .ok (.iconst 3, 1) := by decide +kernel
theorem d1_5 : decode method_2_code 5 = .ok (.irem, 1) := by decide +kernel
theorem d1_6 : decode method_2_code 6 = .ok (.istore_n 1, 1) := by decide +kernel
theorem d1_7 : decode method_2_code 7 = .ok (.iload_n 1, 1) := by decide +kernel
theorem d1_8 : decode method_2_code 8 = .ok (.ifCond .ne 7, 3) := by decide +kernel
theorem d1_11 : decode method_2_code 11 = .ok (.getstatic 8, 3) := by decide +kernel
theorem d1_14 : decode method_2_code 14 = .ok (.areturn, 1) := by decide +kernel
theorem d1_15 : decode method_2_code 15 = .ok (.iload_n 1, 1) := by decide +kernel
theorem d1_16 : decode method_2_code 16 = .ok (.iconst 1, 1) := by decide +kernel
theorem d1_17 : decode method_2_code 17 = .ok (.if_icmp .ne 7, 3) := by decide +kernel
theorem d1_20 : decode method_2_code 20 = .ok (.getstatic 14, 3) := by decide +kernel
theorem d1_23 : decode method_2_code 23 = .ok (.areturn, 1) := by decide +kernel
theorem d1_24 : decode method_2_code 24 = .ok (.getstatic 17, 3) := by decide +kernel
theorem d1_27 : decode method_2_code 27 = .ok (.areturn, 1) := by decide +kernel
theorem pl1 : plainFor (⟨"org/orthant/io/ReadOptionsWithCollapseZeroPinLaw", "pickNegative", "(I)Lorg/orthant/io/NegativeLengths;"⟩ : MethodName) = true := by first | exact plainFor_of_name (by first | (simp [plainName, overriddenIn]; done) | decide +kernel) | decide +kernel
theorem d2_0 : decode method_3_code 0 = .ok (.iload_n 0, 1) := by decide +kernel
theorem d2_1 : decode method_3_code 1 = .ok (.ldc 7, 2) := by decide +kernel
theorem d2_3 : decode method_3_code 3 = .ok (.iand, 1) := by decide +kernel
theorem d2_4 : decode method_3_code 4 = .ok (.iconst 3, 1) := by decide +kernel
theorem d2_5 : decode method_3_code 5 = .ok (.irem, 1) := by decide +kernel
theorem d2_6 : decode method_3_code 6 = .ok (.istore_n 1, 1) := by decide +kernel
theorem d2_7 : decode method_3_code 7 = .ok (.iload_n 1, 1) := by decide +kernel
theorem d2_8 : decode method_3_code 8 = .ok (.ifCond .ne 7, 3) := by decide +kernel
theorem d2_11 : decode method_3_code 11 = .ok (.getstatic 20, 3) := by decide +kernel
theorem d2_14 : decode method_3_code 14 = .ok (.areturn, 1) := by decide +kernel
theorem d2_15 : decode method_3_code 15 = .ok (.iload_n 1, 1) := by decide +kernel
theorem d2_16 : decode method_3_code 16 = .ok (.iconst 1, 1) := by decide +kernel
theorem d2_17 : decode method_3_code 17 = .ok (.if_icmp .ne 7, 3) := by decide +kernel
theorem d2_20 : decode method_3_code 20 = .ok (.getstatic 26, 3) := by decide +kernel
theorem d2_23 : decode method_3_code 23 = .ok (.areturn, 1) := by decide +kernel
theorem d2_24 : decode method_3_code 24 = .ok (.getstatic 29, 3) := by decide +kernel
theorem d2_27 : decode method_3_code 27 = .ok (.areturn, 1) := by decide +kernel
theorem pl2 : plainFor (⟨"org/orthant/io/ReadOptionsWithCollapseZeroPinLaw", "pickRooting", "(I)Lorg/orthant/io/Rooting;"⟩ : MethodName) = true := by first | exact plainFor_of_name (by first | (simp [plainName, overriddenIn]; done) | decide +kernel) | decide +kernel
theorem d3_0 : decode prog_38_method_1_code 0 = .ok (.aload_n 0, 1) := by decide +kernel
theorem d3_1 : decode prog_38_method_1_code 1 = .ok (.invokespecial 1, 3) := by decide +kernel
theorem d3_4 : decode prog_38_method_1_code 4 = .ok (.aload_n 0, 1) := by decide +kernel
theorem d3_5 : decode prog_38_method_1_code 5 = .ok (.aload_n 1, 1) := by decide +kernel
theorem d3_6 : decode prog_38_method_1_code 6 = .ok (.putfield 7, 3) := by decide +kernel
theorem d3_9 : decode prog_38_method_1_code 9 = .ok (.aload_n 0, 1) := by decide +kernel
theorem d3_10 : decode prog_38_method_1_code 10 = .ok (.aload_n 2, 1) := by decide +kernel
theorem d3_11 : decode prog_38_method_1_code 11 = .ok (.putfield 13, 3) := by decide +kernel
theorem d3_14 : decode prog_38_method_1_code 14 = .ok (.aload_n 0, 1) := by decide +kernel
theorem d3_15 : decode prog_38_method_1_code 15 = .ok (.iload_n 3, 1) := by decide +kernel
theorem d3_16 : decode prog_38_method_1_code 16 = .ok (.putfield 17, 3) := by decide +kernel
theorem d3_19 : decode prog_38_method_1_code 19 = .ok (.return_, 1) := by decide +kernel
theorem pl3 : plainFor (⟨"org/orthant/io/ReadOptions", "<init>", "(Lorg/orthant/io/NegativeLengths;Lorg/orthant/io/Rooting;Z)V"⟩ : MethodName) = true := by first | exact plainFor_of_name (by first | (simp [plainName, overriddenIn]; done) | decide +kernel) | decide +kernel
theorem d4_0 : decode jdk_30_method_1_code 0 = .ok (.aload_n 0, 1) := by decide +kernel
theorem d4_1 : decode jdk_30_method_1_code 1 = .ok (.invokespecial 1, 3) := by decide +kernel
theorem d4_4 : decode jdk_30_method_1_code 4 = .ok (.return_, 1) := by decide +kernel
theorem pl4 : plainFor (⟨"java/lang/Record", "<init>", "()V"⟩ : MethodName) = true := by first | exact plainFor_of_name (by first | (simp [plainName, overriddenIn]; done) | decide +kernel) | decide +kernel
theorem d5_0 : decode prog_38_method_4_code 0 = .ok (.new 8, 3) := by decide +kernel
theorem d5_3 : decode prog_38_method_4_code 3 = .ok (.dup, 1) := by decide +kernel
theorem d5_4 : decode prog_38_method_4_code 4 = .ok (.aload_n 0, 1) := by decide +kernel
theorem d5_5 : decode prog_38_method_4_code 5 = .ok (.getfield 7, 3) := by decide +kernel
theorem d5_8 : decode prog_38_method_4_code 8 = .ok (.aload_n 0, 1) := by decide +kernel
theorem d5_9 : decode prog_38_method_4_code 9 = .ok (.getfield 13, 3) := by decide +kernel
theorem d5_12 : decode prog_38_method_4_code 12 = .ok (.iload_n 1, 1) := by decide +kernel
theorem d5_13 : decode prog_38_method_4_code 13 = .ok (.invokespecial 21, 3) := by decide +kernel
theorem d5_16 : decode prog_38_method_4_code 16 = .ok (.areturn, 1) := by decide +kernel
theorem pl5 : plainFor (⟨"org/orthant/io/ReadOptions", "withCollapseZero", "(Z)Lorg/orthant/io/ReadOptions;"⟩ : MethodName) = true := by first | exact plainFor_of_name (by first | (simp [plainName, overriddenIn]; done) | decide +kernel) | decide +kernel
theorem pl0 : plainFor x = true := by first | exact plainFor_of_name (by first | (simp [plainName, overriddenIn]; done) | decide +kernel) | decide +kernel
theorem dg0_0 : decode prog_38_method_8_code 0 = .ok (.aload_n 0, 1) := by decide +kernel
theorem dg0_1 : decode prog_38_method_8_code 1 = .ok (.getfield 7, 3) := by decide +kernel
theorem dg0_4 : decode prog_38_method_8_code 4 = .ok (.areturn, 1) := by decide +kernel
theorem plg0 : plainFor (⟨"org/orthant/io/ReadOptions", "negativeLengths", "()Lorg/orthant/io/NegativeLengths;"⟩ : MethodName) = true := by first | exact plainFor_of_name (by first | (simp [plainName, overriddenIn]; done) | decide +kernel) | decide +kernel
theorem dg1_0 : decode prog_38_method_9_code 0 = .ok (.aload_n 0, 1) := by decide +kernel
theorem dg1_1 : decode prog_38_method_9_code 1 = .ok (.getfield 13, 3) := by decide +kernel
theorem dg1_4 : decode prog_38_method_9_code 4 = .ok (.areturn, 1) := by decide +kernel
theorem plg1 : plainFor (⟨"org/orthant/io/ReadOptions", "rooting", "()Lorg/orthant/io/Rooting;"⟩ : MethodName) = true := by first | exact plainFor_of_name (by first | (simp [plainName, overriddenIn]; done) | decide +kernel) | decide +kernel
theorem dg2_0 : decode prog_38_method_10_code 0 = .ok (.aload_n 0, 1) := by decide +kernel
theorem dg2_1 : decode prog_38_method_10_code 1 = .ok (.getfield 17, 3) := by decide +kernel
theorem dg2_4 : decode prog_38_method_10_code 4 = .ok (.ireturn, 1) := by decide +kernel
theorem plg2 : plainFor (⟨"org/orthant/io/ReadOptions", "collapseZero", "()Z"⟩ : MethodName) = true := by first | exact plainFor_of_name (by first | (simp [plainName, overriddenIn]; done) | decide +kernel) | decide +kernel
theorem pd1 : parseMethodDescriptor "(I)Lorg/orthant/io/NegativeLengths;" = some ⟨[.int], some (.object "org/orthant/io/NegativeLengths")⟩ := by decide +kernel
theorem pd2 : parseMethodDescriptor "(I)Lorg/orthant/io/Rooting;" = some ⟨[.int], some (.object "org/orthant/io/Rooting")⟩ := by decide +kernel
theorem pd3 : parseMethodDescriptor "(Lorg/orthant/io/NegativeLengths;Lorg/orthant/io/Rooting;Z)V" = some ⟨[(.object "org/orthant/io/NegativeLengths"), (.object "org/orthant/io/Rooting"), .boolean], none⟩ := by decide +kernel
theorem pd4 : parseMethodDescriptor "()V" = some ⟨[], none⟩ := by decide +kernel
theorem pd5 : parseMethodDescriptor "(Z)Lorg/orthant/io/ReadOptions;" = some ⟨[.boolean], some (.object "org/orthant/io/ReadOptions")⟩ := by decide +kernel
theorem pdg0 : parseMethodDescriptor "()Lorg/orthant/io/NegativeLengths;" = some ⟨[], some (.object "org/orthant/io/NegativeLengths")⟩ := by decide +kernel
theorem pdg1 : parseMethodDescriptor "()Lorg/orthant/io/Rooting;" = some ⟨[], some (.object "org/orthant/io/Rooting")⟩ := by decide +kernel
theorem pdg2 : parseMethodDescriptor "()Z" = some ⟨[], some .boolean⟩ := by decide +kernel
set_option maxRecDepth 65536 in
set_option maxHeartbeats 4000000 in
theorem c_pn (l : Launch) (Z : State) (a0 : Array Value) (hw : ∀ d ∈ tables_1, d.before a0 Z = true) (n : Int32) (b0 b1 b2 : Addr) (h0 : Heap) (S0 : Sta Z h0 "org/orthant/io/NegativeLengths" "REFUSE" "Lorg/orthant/io/NegativeLengths;" (.ref b0)) (S1 : Sta Z h0 "org/orthant/io/NegativeLengths" "CLAMP" "Lorg/orthant/io/NegativeLengths;" (.ref b1)) (S2 : Sta Z h0 "org/orthant/io/NegativeLengths" "KEEP" "Lorg/orthant/io/NegativeLengths;" (.ref b2)) : own_M l (⟨"org/orthant/io/ReadOptionsWithCollapseZeroPinLaw", "pickNegative", "(I)Lorg/orthant/io/NegativeLengths;"⟩ : MethodName) method_2_code 2 (some (.object "org/orthant/io/NegativeLengths")) [] ({ frames := 0, cells := 0, slots := 0, locals := 0 } : Room) Z #[.int n] h0 (Qref h0) := by
  refine own_met pl1 (Lf := #[.val (.int n), .unset]) (fun m => by first | (simp [entryFrame, mkF, argsToLocals, Value.category]; done) | rfl) ?_
  intro p e s m below meth c T Y
  refine own_iloadN 1 Y d1_0 rfl rfl ?_
  refine own_ldcI 3 Y (own_wd hw 4 rfl) d1_1 rfl ?_
  refine own_iand 4 Y d1_3 rfl ?_
  refine own_iconst 5 Y (3 : Int32) d1_4 rfl rfl ?_
  refine own_irem 6 Y d1_5 (by decide) rfl ?_
  obtain ⟨k, ek⟩ : ∃ k : Int32, k = ((n &&& (2147483647 : Int32)) % (3 : Int32)) := ⟨_, rfl⟩
  rw [← ek]
  refine own_istoreN 7 Y #[.val (.int n), .val (.int k)] d1_6 rfl rfl ?_
  refine own_iloadN 8 Y d1_7 rfl rfl ?_
  refine own_if_ne 15 11 Y d1_8 (by decide) rfl (fun q8 => ?_) (fun q8 => ?_)
  · refine own_iloadN 16 Y d1_15 rfl rfl ?_
    refine own_iconst 17 Y (1 : Int32) d1_16 rfl rfl ?_
    refine own_ic_ne 24 20 Y d1_17 (by decide) rfl (fun q17 => ?_) (fun q17 => ?_)
    · refine own_getS 27 Y (host := "") (Or.inl (own_wd hw 58 rfl)) Via.refl S2 d1_24 rfl fun T2 Y1 => ?_
      exact own_retA Y1 rfl rfl rfl d1_27 (by decide) (by decide) ⟨rfl, rfl, _, rfl⟩
    · refine own_getS 23 Y (host := "") (Or.inl (own_wd hw 56 rfl)) Via.refl S1 d1_20 rfl fun T4 Y3 => ?_
      exact own_retA Y3 rfl rfl rfl d1_23 (by decide) (by decide) ⟨rfl, rfl, _, rfl⟩
  · refine own_getS 14 Y (host := "") (Or.inl (own_wd hw 5 rfl)) Via.refl S0 d1_11 rfl fun T6 Y5 => ?_
    exact own_retA Y5 rfl rfl rfl d1_14 (by decide) (by decide) ⟨rfl, rfl, _, rfl⟩
set_option maxRecDepth 65536 in
set_option maxHeartbeats 4000000 in
theorem c_pr (l : Launch) (Z : State) (a0 : Array Value) (hw : ∀ d ∈ tables_1, d.before a0 Z = true) (n : Int32) (b0 b1 b2 : Addr) (h0 : Heap) (S0 : Sta Z h0 "org/orthant/io/Rooting" "AS_WRITTEN" "Lorg/orthant/io/Rooting;" (.ref b0)) (S1 : Sta Z h0 "org/orthant/io/Rooting" "ROOTED" "Lorg/orthant/io/Rooting;" (.ref b1)) (S2 : Sta Z h0 "org/orthant/io/Rooting" "UNROOTED" "Lorg/orthant/io/Rooting;" (.ref b2)) : own_M l (⟨"org/orthant/io/ReadOptionsWithCollapseZeroPinLaw", "pickRooting", "(I)Lorg/orthant/io/Rooting;"⟩ : MethodName) method_3_code 2 (some (.object "org/orthant/io/Rooting")) [] ({ frames := 0, cells := 0, slots := 0, locals := 0 } : Room) Z #[.int n] h0 (Qref h0) := by
  refine own_met pl2 (Lf := #[.val (.int n), .unset]) (fun m => by first | (simp [entryFrame, mkF, argsToLocals, Value.category]; done) | rfl) ?_
  intro p e s m below meth c T Y
  refine own_iloadN 1 Y d2_0 rfl rfl ?_
  refine own_ldcI 3 Y (own_wd hw 4 rfl) d2_1 rfl ?_
  refine own_iand 4 Y d2_3 rfl ?_
  refine own_iconst 5 Y (3 : Int32) d2_4 rfl rfl ?_
  refine own_irem 6 Y d2_5 (by decide) rfl ?_
  obtain ⟨k, ek⟩ : ∃ k : Int32, k = ((n &&& (2147483647 : Int32)) % (3 : Int32)) := ⟨_, rfl⟩
  rw [← ek]
  refine own_istoreN 7 Y #[.val (.int n), .val (.int k)] d2_6 rfl rfl ?_
  refine own_iloadN 8 Y d2_7 rfl rfl ?_
  refine own_if_ne 15 11 Y d2_8 (by decide) rfl (fun q8 => ?_) (fun q8 => ?_)
  · refine own_iloadN 16 Y d2_15 rfl rfl ?_
    refine own_iconst 17 Y (1 : Int32) d2_16 rfl rfl ?_
    refine own_ic_ne 24 20 Y d2_17 (by decide) rfl (fun q17 => ?_) (fun q17 => ?_)
    · refine own_getS 27 Y (host := "") (Or.inl (own_wd hw 60 rfl)) Via.refl S2 d2_24 rfl fun T2 Y1 => ?_
      exact own_retA Y1 rfl rfl rfl d2_27 (by decide) (by decide) ⟨rfl, rfl, _, rfl⟩
    · refine own_getS 23 Y (host := "") (Or.inl (own_wd hw 62 rfl)) Via.refl S1 d2_20 rfl fun T4 Y3 => ?_
      exact own_retA Y3 rfl rfl rfl d2_23 (by decide) (by decide) ⟨rfl, rfl, _, rfl⟩
  · refine own_getS 14 Y (host := "") (Or.inl (own_wd hw 11 rfl)) Via.refl S0 d2_11 rfl fun T6 Y5 => ?_
    exact own_retA Y5 rfl rfl rfl d2_14 (by decide) (by decide) ⟨rfl, rfl, _, rfl⟩
set_option maxRecDepth 65536 in
set_option maxHeartbeats 4000000 in
theorem c_rec (l : Launch) (Z : State) (a0 : Array Value) (hw : ∀ d ∈ tables_1, d.before a0 Z = true) (a : Addr) (h0 : Heap) : own_M l (⟨"java/lang/Record", "<init>", "()V"⟩ : MethodName) jdk_30_method_1_code 1 none [] ({ frames := 1, cells := 0, slots := 0, locals := 12 } : Room) Z #[.ref a] h0 (Qv none h0) := by
  refine own_met pl4 (Lf := #[.val (.ref a)]) (fun m => by first | (simp [entryFrame, mkF, argsToLocals, Value.category]; done) | rfl) ?_
  intro p e s m below meth c T Y
  refine own_aloadN 1 Y d4_0 rfl rfl rfl ?_
  refine own_initO 4 Y (own_wd hw 25 rfl) (own_wd hw 26 rfl) (own_wd hw 27 rfl) d4_1 rfl (by decide) (by decide) rfl fun T2 Y1 => ?_
  exact own_retV Y1 rfl d4_4 (by decide) (by decide) ⟨rfl, rfl, rfl⟩
set_option maxRecDepth 65536 in
set_option maxHeartbeats 4000000 in
theorem c_g0 (l : Launch) (Z : State) (a0 : Array Value) (hw : ∀ d ∈ tables_1, d.before a0 Z = true) (a : Addr) (v : Value) (hv : v.isRef = true) (h0 : Heap) (F : Fld Z h0 a "org/orthant/io/ReadOptions" "negativeLengths" "Lorg/orthant/io/NegativeLengths;" v) : own_M l (⟨"org/orthant/io/ReadOptions", "negativeLengths", "()Lorg/orthant/io/NegativeLengths;"⟩ : MethodName) prog_38_method_8_code 1 (some (.object "org/orthant/io/NegativeLengths")) [] ({ frames := 0, cells := 0, slots := 0, locals := 0 } : Room) Z #[.ref a] h0 (Qv (some v) h0) := by
  refine own_met plg0 (Lf := #[.val (.ref a)]) (fun m => by first | (simp [entryFrame, mkF, argsToLocals, Value.category]; done) | rfl) ?_
  intro p e s m below meth c T Y
  refine own_aloadN 1 Y dg0_0 rfl rfl rfl ?_
  refine own_getF 4 Y (host := "") (Or.inl (own_wd hw 28 rfl)) Via.refl F dg0_1 rfl fun T2 Y1 => ?_
  exact own_retA Y1 rfl rfl hv dg0_4 (by decide) (by decide) ⟨rfl, rfl, rfl⟩
set_option maxRecDepth 65536 in
set_option maxHeartbeats 4000000 in
theorem c_g1 (l : Launch) (Z : State) (a0 : Array Value) (hw : ∀ d ∈ tables_1, d.before a0 Z = true) (a : Addr) (v : Value) (hv : v.isRef = true) (h0 : Heap) (F : Fld Z h0 a "org/orthant/io/ReadOptions" "rooting" "Lorg/orthant/io/Rooting;" v) : own_M l (⟨"org/orthant/io/ReadOptions", "rooting", "()Lorg/orthant/io/Rooting;"⟩ : MethodName) prog_38_method_9_code 1 (some (.object "org/orthant/io/Rooting")) [] ({ frames := 0, cells := 0, slots := 0, locals := 0 } : Room) Z #[.ref a] h0 (Qv (some v) h0) := by
  refine own_met plg1 (Lf := #[.val (.ref a)]) (fun m => by first | (simp [entryFrame, mkF, argsToLocals, Value.category]; done) | rfl) ?_
  intro p e s m below meth c T Y
  refine own_aloadN 1 Y dg1_0 rfl rfl rfl ?_
  refine own_getF 4 Y (host := "") (Or.inl (own_wd hw 30 rfl)) Via.refl F dg1_1 rfl fun T2 Y1 => ?_
  exact own_retA Y1 rfl rfl hv dg1_4 (by decide) (by decide) ⟨rfl, rfl, rfl⟩
set_option maxRecDepth 65536 in
set_option maxHeartbeats 4000000 in
theorem c_g2 (l : Launch) (Z : State) (a0 : Array Value) (hw : ∀ d ∈ tables_1, d.before a0 Z = true) (a : Addr) (n : Int32) (hn : nar .boolean n = n) (h0 : Heap) (F : Fld Z h0 a "org/orthant/io/ReadOptions" "collapseZero" "Z" (.int n)) : own_M l (⟨"org/orthant/io/ReadOptions", "collapseZero", "()Z"⟩ : MethodName) prog_38_method_10_code 1 (some .boolean) [] ({ frames := 0, cells := 0, slots := 0, locals := 0 } : Room) Z #[.ref a] h0 (Qv (some (.int n)) h0) := by
  refine own_met plg2 (Lf := #[.val (.ref a)]) (fun m => by first | (simp [entryFrame, mkF, argsToLocals, Value.category]; done) | rfl) ?_
  intro p e s m below meth c T Y
  refine own_aloadN 1 Y dg2_0 rfl rfl rfl ?_
  refine own_getF 4 Y (host := "") (Or.inl (own_wd hw 32 rfl)) Via.refl F dg2_1 rfl fun T2 Y1 => ?_
  exact own_retN Y1 (t := .boolean) rfl (by simp) dg2_4 (by decide) (by decide) ⟨rfl, rfl, congrArg (fun z => some (Value.int z)) hn⟩
def Qc_ini (Z : State) (a : Addr) (v0 : Value) (v1 : Value) (v2 : Int32) (h0 : Heap) (n0 : Nat) (v : Option Value) (h : Heap) (L : List Loc) : Prop := v = none ∧ Keep h0 h [a] ∧ Fr n0 L ∧ Exa Z h a "org/orthant/io/ReadOptions" ∧ Fld Z h a "org/orthant/io/ReadOptions" "negativeLengths" "Lorg/orthant/io/NegativeLengths;" v0 ∧ Fld Z h a "org/orthant/io/ReadOptions" "rooting" "Lorg/orthant/io/Rooting;" v1 ∧ Fld Z h a "org/orthant/io/ReadOptions" "collapseZero" "Z" (.int v2)
set_option maxRecDepth 65536 in
set_option maxHeartbeats 4000000 in
theorem c_ini (l : Launch) (Z : State) (a0 : Array Value) (hw : ∀ d ∈ tables_1, d.before a0 Z = true) (a : Addr) (v0 : Value) (hv0 : v0.isRef = true) (v1 : Value) (hv1 : v1.isRef = true) (v2 : Int32) (hb2 : narrow .boolean (.int v2) = .int v2 ∧ fits .boolean (.int v2) = true) (h0 : Heap) (n0 : Nat) (ga : n0 ≤ a) (u0 : Value) (u1 : Value) (u2 : Value) (X_a : Exa Z h0 a "org/orthant/io/ReadOptions") (F_a_negativeLengths : Fld Z h0 a "org/orthant/io/ReadOptions" "negativeLengths" "Lorg/orthant/io/NegativeLengths;" u0) (F_a_rooting : Fld Z h0 a "org/orthant/io/ReadOptions" "rooting" "Lorg/orthant/io/Rooting;" u1) (F_a_collapseZero : Fld Z h0 a "org/orthant/io/ReadOptions" "collapseZero" "Z" u2) : own_M l (⟨"org/orthant/io/ReadOptions", "<init>", "(Lorg/orthant/io/NegativeLengths;Lorg/orthant/io/Rooting;Z)V"⟩ : MethodName) prog_38_method_1_code 4 none [] ({ frames := 2, cells := 0, slots := 0, locals := 24 } : Room) Z #[.ref a, v0, v1, (.int v2)] h0 (Qc_ini Z a v0 v1 v2 h0 n0) := by
  refine own_met pl3 (Lf := #[.val (.ref a), .val v0, .val v1, .val (.int v2)]) (fun m => by rcases ref_cases hv0 with rfl | ⟨_, rfl⟩ <;> rcases ref_cases hv1 with rfl | ⟨_, rfl⟩ <;> rfl) ?_
  intro p e s m below meth c T Y
  have Kp := Keep.refl h0 [a]
  have N := Fr.nil n0
  refine own_aloadN 1 Y d3_0 rfl rfl rfl ?_
  refine own_callI 4 Y [] [] rfl (own_wd hw 20 rfl) (own_wd hw 21 rfl) (own_wd hw 23 rfl) (own_wd hw 24 rfl) (c_rec l Z a0 hw a h0) d3_1 (by decide) (lenOf pd4 rfl) rfl rfl (by decide) (Nat.le_of_ble_eq_true rfl) (by decide) (by decide) rfl fun v1 T1 h1 L1 Y1 hQ1 => ?_
  obtain ⟨rfl, rfl, rfl⟩ := hQ1
  have N := N.app (Fr.nil n0)
  show own_G p e below _ (T1.setTop (mkF m 4 #[.val (.ref a), .val v0, .val v1, .val (.int v2)] []))
  refine own_aloadN 5 Y1 d3_4 rfl rfl rfl ?_
  refine own_aloadN 6 Y1 d3_5 rfl hv0 rfl ?_
  refine own_putF 9 Y1 (host := "") (Or.inl (own_wd hw 28 rfl)) Via.refl F_a_negativeLengths X_a (Or.inr ⟨(own_wd hw 29 rfl), rfl, rfl⟩) (own_wd hw 15 rfl) (ty := (.object "org/orthant/io/NegativeLengths")) (by decide) (own_fitR hv0).1 (own_fitR hv0).2 d3_6 rfl fun T2 h2 Y2 W2 => ?_
  have X_a := X_a.wr W2
  have F_a_negativeLengths := F_a_negativeLengths.same W2
  have F_a_rooting := F_a_rooting.other W2 (Or.inr (slot_ne (Or.inr (own_wd hw 31 rfl)) (Or.inr (own_wd hw 29 rfl)) (by decide) (t := (.object "org/orthant/io/Rooting")) (t' := (.object "org/orthant/io/NegativeLengths")) (by decide) (by decide)))
  have F_a_collapseZero := F_a_collapseZero.other W2 (Or.inr (slot_ne (Or.inr (own_wd hw 33 rfl)) (Or.inr (own_wd hw 29 rfl)) (by decide) (t := .boolean) (t' := (.object "org/orthant/io/NegativeLengths")) (by decide) (by decide)))
  have Kp := Kp.wr W2 (Or.inl (List.mem_of_getElem? (i := 0) rfl))
  have N := own_frY Y2 N ga
  refine own_aloadN 10 Y2 d3_9 rfl rfl rfl ?_
  refine own_aloadN 11 Y2 d3_10 rfl hv1 rfl ?_
  refine own_putF 14 Y2 (host := "") (Or.inl (own_wd hw 30 rfl)) Via.refl F_a_rooting X_a (Or.inr ⟨(own_wd hw 31 rfl), rfl, rfl⟩) (own_wd hw 15 rfl) (ty := (.object "org/orthant/io/Rooting")) (by decide) (own_fitR hv1).1 (own_fitR hv1).2 d3_11 rfl fun T3 h3 Y3 W3 => ?_
  have X_a := X_a.wr W3
  have F_a_negativeLengths := F_a_negativeLengths.other W3 (Or.inr (slot_ne (Or.inr (own_wd hw 29 rfl)) (Or.inr (own_wd hw 31 rfl)) (by decide) (t := (.object "org/orthant/io/NegativeLengths")) (t' := (.object "org/orthant/io/Rooting")) (by decide) (by decide)))
  have F_a_rooting := F_a_rooting.same W3
  have F_a_collapseZero := F_a_collapseZero.other W3 (Or.inr (slot_ne (Or.inr (own_wd hw 33 rfl)) (Or.inr (own_wd hw 31 rfl)) (by decide) (t := .boolean) (t' := (.object "org/orthant/io/Rooting")) (by decide) (by decide)))
  have Kp := Kp.wr W3 (Or.inl (List.mem_of_getElem? (i := 0) rfl))
  have N := own_frY Y3 N ga
  refine own_aloadN 15 Y3 d3_14 rfl rfl rfl ?_
  refine own_iloadN 16 Y3 d3_15 rfl rfl ?_
  refine own_putFN 19 Y3 (own_wd hw 32 rfl) Via.refl F_a_collapseZero X_a (Or.inr ⟨(own_wd hw 33 rfl), rfl, rfl⟩) (own_wd hw 15 rfl) (ty := .boolean) (v' := (.int v2)) (by decide) hb2.1 hb2.2 d3_16 rfl fun T4 h4 Y4 W4 => ?_
  have X_a := X_a.wr W4
  have F_a_negativeLengths := F_a_negativeLengths.other W4 (Or.inr (slot_ne (Or.inr (own_wd hw 29 rfl)) (Or.inr (own_wd hw 33 rfl)) (by decide) (t := (.object "org/orthant/io/NegativeLengths")) (t' := .boolean) (by decide) (by decide)))
  have F_a_rooting := F_a_rooting.other W4 (Or.inr (slot_ne (Or.inr (own_wd hw 31 rfl)) (Or.inr (own_wd hw 33 rfl)) (by decide) (t := (.object "org/orthant/io/Rooting")) (t' := .boolean) (by decide) (by decide)))
  have F_a_collapseZero := F_a_collapseZero.same W4
  have Kp := Kp.wr W4 (Or.inl (List.mem_of_getElem? (i := 0) rfl))
  have N := own_frY Y4 N ga
  exact own_retV Y4 rfl d3_19 (by decide) (by decide) ⟨rfl, Kp, N, X_a, F_a_negativeLengths, F_a_rooting, F_a_collapseZero⟩
def Qas (Z : State) (v0 : Value) (v1 : Value) (v2 : Int32) (h0 : Heap) (n0 : Nat) (v : Option Value) (h : Heap) (L : List Loc) : Prop := ∃ x : Addr, v = some (.ref x) ∧ h0.size ≤ x ∧ Keep h0 h [] ∧ Fr n0 L ∧ Exa Z h x "org/orthant/io/ReadOptions" ∧ Fld Z h x "org/orthant/io/ReadOptions" "negativeLengths" "Lorg/orthant/io/NegativeLengths;" v0 ∧ Fld Z h x "org/orthant/io/ReadOptions" "rooting" "Lorg/orthant/io/Rooting;" v1 ∧ Fld Z h x "org/orthant/io/ReadOptions" "collapseZero" "Z" (.int v2)
set_option maxRecDepth 65536 in
set_option maxHeartbeats 4000000 in
theorem c_as (l : Launch) (Z : State) (a0 : Array Value) (hw : ∀ d ∈ tables_1, d.before a0 Z = true) (a : Addr) (v0 : Value) (hv0 : v0.isRef = true) (v1 : Value) (hv1 : v1.isRef = true) (v2 : Int32) (hb2 : narrow .boolean (.int v2) = .int v2 ∧ fits .boolean (.int v2) = true) (h0 : Heap) (n0 : Nat) (Zs : n0 ≤ h0.size) (F_a_negativeLengths : Fld Z h0 a "org/orthant/io/ReadOptions" "negativeLengths" "Lorg/orthant/io/NegativeLengths;" v0) (F_a_rooting : Fld Z h0 a "org/orthant/io/ReadOptions" "rooting" "Lorg/orthant/io/Rooting;" v1) : own_M l (⟨"org/orthant/io/ReadOptions", "withCollapseZero", "(Z)Lorg/orthant/io/ReadOptions;"⟩ : MethodName) prog_38_method_4_code 2 (some (.object "org/orthant/io/ReadOptions")) [] ({ frames := 3, cells := 1, slots := 3, locals := 60 } : Room) Z #[.ref a, .int v2] h0 (Qas Z v0 v1 v2 h0 n0) := by
  refine own_met pl5 (Lf := #[.val (.ref a), .val (.int v2)]) (fun m => by first | (simp [entryFrame, mkF, argsToLocals, Value.category]; done) | rfl) ?_
  intro p e s m below meth c T Y
  have Kp := Keep.refl h0 []
  have N := Fr.nil n0
  refine own_newO 3 Y (own_wd hw 39 rfl) (own_wd hw 15 rfl) (own_wd hw 16 rfl) d5_0 (by decide) (by decide) rfl fun T1 h1 x Y1 g_x E1 X_x D1 => ?_
  have ne_a_x : a ≠ x := by rw [g_x]; exact Nat.ne_of_lt F_a_negativeLengths.lt
  have gk_x := Nat.le_trans Kp.1 (Nat.le_of_eq g_x.symm)
  have gn_x : n0 ≤ x := by rw [g_x]; exact Zs
  have F_a_negativeLengths := F_a_negativeLengths.ext E1
  have F_a_rooting := F_a_rooting.ext E1
  have Kp := Kp.ext E1
  have Zs := Nat.le_trans Zs E1.1
  have F_x_negativeLengths := D1 (Or.inr (own_wd hw 29 rfl)) (ty := (.object "org/orthant/io/NegativeLengths")) (by decide)
  have F_x_rooting := D1 (Or.inr (own_wd hw 31 rfl)) (ty := (.object "org/orthant/io/Rooting")) (by decide)
  have F_x_collapseZero := D1 (Or.inr (own_wd hw 33 rfl)) (ty := .boolean) (by decide)
  refine own_dup 4 Y1 d5_3 rfl rfl ?_
  refine own_aloadN 5 Y1 d5_4 rfl rfl rfl ?_
  refine own_getF 8 Y1 (host := "") (Or.inl (own_wd hw 28 rfl)) Via.refl F_a_negativeLengths d5_5 rfl fun T3 Y2 => ?_
  refine own_aloadN 9 Y2 d5_8 rfl rfl rfl ?_
  refine own_getF 12 Y2 (host := "") (Or.inl (own_wd hw 30 rfl)) Via.refl F_a_rooting d5_9 rfl fun T5 Y4 => ?_
  refine own_iloadN 13 Y4 d5_12 rfl rfl ?_
  refine own_callI 16 Y4 [v0, v1, (.int v2)] [(.ref x)] rfl (own_wd hw 40 rfl) (own_wd hw 18 rfl) (own_wd hw 16 rfl) (own_wd hw 19 rfl) (c_ini l Z a0 hw x v0 hv0 v1 hv1 v2 hb2 _ n0 gn_x _ _ _ X_x F_x_negativeLengths F_x_rooting F_x_collapseZero) d5_13 (by decide) (lenOf pd3 rfl) rfl rfl (by decide) (Nat.le_of_ble_eq_true rfl) (by decide) (by decide) rfl fun v6 T6 h6 L6 Y6 hQ6 => ?_
  obtain ⟨rfl, K6, N6, G6, G6_0, G6_1, G6_2⟩ := hQ6
  have F_a_negativeLengths := F_a_negativeLengths.keep K6 (ninS ne_a_x nin0)
  have F_a_rooting := F_a_rooting.keep K6 (ninS ne_a_x nin0)
  have Kp := Kp.trans K6 (allS (Or.inr gk_x) all0)
  have N := N.app N6
  have Zs := Nat.le_trans Zs K6.1
  have X_x := G6
  have F_x_negativeLengths := G6_0
  have F_x_rooting := G6_1
  have F_x_collapseZero := G6_2
  show own_G p e below _ (T6.setTop (mkF m 16 #[.val (.ref a), .val (.int v2)] [(.ref x)]))
  exact own_retA Y6 rfl rfl rfl d5_16 (by decide) (by decide) ⟨x, rfl, gk_x, Kp, N, X_x, F_x_negativeLengths, F_x_rooting, F_x_collapseZero⟩
def Q0 (n0 : Nat) (v : Option Value) (h : Heap) (L : List Loc) : Prop := v = some (.int 1) ∧ Fr n0 L
set_option maxRecDepth 65536 in
set_option maxHeartbeats 4000000 in
theorem c_law (l : Launch) (Z : State) (a0 : Array Value) (hw : ∀ d ∈ tables_1, d.before a0 Z = true) (x0 x1 x2 : Int32) (bn0 bn1 bn2 br0 br1 br2 : Addr) (h0 : Heap) (n0 : Nat) (Zs : n0 ≤ h0.size) (Sn0 : Sta Z h0 "org/orthant/io/NegativeLengths" "REFUSE" "Lorg/orthant/io/NegativeLengths;" (.ref bn0)) (Sn1 : Sta Z h0 "org/orthant/io/NegativeLengths" "CLAMP" "Lorg/orthant/io/NegativeLengths;" (.ref bn1)) (Sn2 : Sta Z h0 "org/orthant/io/NegativeLengths" "KEEP" "Lorg/orthant/io/NegativeLengths;" (.ref bn2)) (Sr0 : Sta Z h0 "org/orthant/io/Rooting" "AS_WRITTEN" "Lorg/orthant/io/Rooting;" (.ref br0)) (Sr1 : Sta Z h0 "org/orthant/io/Rooting" "ROOTED" "Lorg/orthant/io/Rooting;" (.ref br1)) (Sr2 : Sta Z h0 "org/orthant/io/Rooting" "UNROOTED" "Lorg/orthant/io/Rooting;" (.ref br2)) : own_M l x code maxLocals ret tables_1 room_1 Z #[.int x0, .int x1, .int x2] h0 (Q0 n0) := by
  refine own_met pl0 (Lf := #[.val (.int x0), .val (.int x1), .val (.int x2), .unset, .unset, .unset, .unset, .unset, .unset]) (fun m => by first | (simp [entryFrame, mkF, argsToLocals, Value.category, maxLocals]; done) | rfl) ?_
  intro p e s m below meth c T Y
  have N := Fr.nil n0
  refine own_iloadN 1 Y at_0 rfl rfl ?_
  refine own_callS 4 Y [(.int x0)] [] (own_wd hw 0 rfl) (own_wd hw 1 rfl) (own_wd hw 2 rfl) (own_wd hw 3 rfl) (c_pn l Z a0 hw x0 _ _ _ _ Sn0 Sn1 Sn2) at_1 (by decide) (lenOf pd1 rfl) rfl rfl (by decide) (Nat.le_of_ble_eq_true rfl) (by decide) (by decide) rfl fun v1 T1 h1 L1 Y1 hQ1 => ?_
  obtain ⟨rfl, rfl, an, rfl⟩ := hQ1
  have N := N.app (Fr.nil n0)
  show own_G p e below _ (T1.setTop (mkF m 4 #[.val (.int x0), .val (.int x1), .val (.int x2), .unset, .unset, .unset, .unset, .unset, .unset] [(.ref an)]))
  refine own_astoreN 5 Y1 #[.val (.int x0), .val (.int x1), .val (.int x2), .val (.ref an), .unset, .unset, .unset, .unset, .unset] at_4 rfl rfl rfl ?_
  refine own_iloadN 6 Y1 at_5 rfl rfl ?_
  refine own_callS 9 Y1 [(.int x1)] [] (own_wd hw 8 rfl) (own_wd hw 9 rfl) (own_wd hw 2 rfl) (own_wd hw 10 rfl) (c_pr l Z a0 hw x1 _ _ _ _ Sr0 Sr1 Sr2) at_6 (by decide) (lenOf pd2 rfl) rfl rfl (by decide) (Nat.le_of_ble_eq_true rfl) (by decide) (by decide) rfl fun v2 T2 h2 L2 Y2 hQ2 => ?_
  obtain ⟨rfl, rfl, ar, rfl⟩ := hQ2
  have N := N.app (Fr.nil n0)
  show own_G p e below _ (T2.setTop (mkF m 9 #[.val (.int x0), .val (.int x1), .val (.int x2), .val (.ref an), .unset, .unset, .unset, .unset, .unset] [(.ref ar)]))
  refine own_astore 11 Y2 #[.val (.int x0), .val (.int x1), .val (.int x2), .val (.ref an), .val (.ref ar), .unset, .unset, .unset, .unset] at_9 rfl rfl rfl ?_
  refine own_iloadN 12 Y2 at_11 rfl rfl ?_
  refine own_iconst 13 Y2 (1 : Int32) at_12 rfl rfl ?_
  refine own_iand 14 Y2 at_13 rfl ?_
  refine own_if_eq 21 17 Y2 at_14 (by decide) rfl (fun q14 => ?_) (fun q14 => ?_)
  · refine own_iconst 22 Y2 (0 : Int32) at_21 rfl rfl ?_
    refine own_istore 24 Y2 #[.val (.int x0), .val (.int x1), .val (.int x2), .val (.ref an), .val (.ref ar), .val (.int (0 : Int32)), .unset, .unset, .unset] at_22 rfl rfl ?_
    refine own_iloadN 25 Y2 at_24 rfl rfl ?_
    refine own_iconst 26 Y2 (2 : Int32) at_25 rfl rfl ?_
    refine own_iand 27 Y2 at_26 rfl ?_
    refine own_if_eq 34 30 Y2 at_27 (by decide) rfl (fun q27 => ?_) (fun q27 => ?_)
    · refine own_iconst 35 Y2 (0 : Int32) at_34 rfl rfl ?_
      refine own_istore 37 Y2 #[.val (.int x0), .val (.int x1), .val (.int x2), .val (.ref an), .val (.ref ar), .val (.int (0 : Int32)), .val (.int (0 : Int32)), .unset, .unset] at_35 rfl rfl ?_
      refine own_newO 40 Y2 (own_wd hw 14 rfl) (own_wd hw 15 rfl) (own_wd hw 16 rfl) at_37 (by decide) (by decide) rfl fun T3 h3 o Y3 g_o E3 X_o D3 => ?_
      have gn_o : n0 ≤ o := by rw [g_o]; exact Zs
      have Zs := Nat.le_trans Zs E3.1
      have F_o_negativeLengths := D3 (Or.inr (own_wd hw 29 rfl)) (ty := (.object "org/orthant/io/NegativeLengths")) (by decide)
      have F_o_rooting := D3 (Or.inr (own_wd hw 31 rfl)) (ty := (.object "org/orthant/io/Rooting")) (by decide)
      have F_o_collapseZero := D3 (Or.inr (own_wd hw 33 rfl)) (ty := .boolean) (by decide)
      refine own_dup 41 Y3 at_40 rfl rfl ?_
      refine own_aloadN 42 Y3 at_41 rfl rfl rfl ?_
      refine own_aload 44 Y3 at_42 rfl rfl rfl ?_
      refine own_iload 46 Y3 at_44 rfl rfl ?_
      refine own_callI 49 Y3 [(.ref an), (.ref ar), (.int (0 : Int32))] [(.ref o)] rfl (own_wd hw 17 rfl) (own_wd hw 18 rfl) (own_wd hw 16 rfl) (own_wd hw 19 rfl) (c_ini l Z a0 hw o (.ref an) rfl (.ref ar) rfl (0 : Int32) ⟨rfl, rfl⟩ _ n0 gn_o _ _ _ X_o F_o_negativeLengths F_o_rooting F_o_collapseZero) at_46 (by decide) (lenOf pd3 rfl) rfl rfl (by decide) (Nat.le_of_ble_eq_true rfl) (by decide) (by decide) rfl fun v4 T4 h4 L4 Y4 hQ4 => ?_
      obtain ⟨rfl, K4, N4, G4, G4_0, G4_1, G4_2⟩ := hQ4
      have N := N.app N4
      have Zs := Nat.le_trans Zs K4.1
      have X_o := G4
      have F_o_negativeLengths := G4_0
      have F_o_rooting := G4_1
      have F_o_collapseZero := G4_2
      show own_G p e below _ (T4.setTop (mkF m 49 #[.val (.int x0), .val (.int x1), .val (.int x2), .val (.ref an), .val (.ref ar), .val (.int (0 : Int32)), .val (.int (0 : Int32)), .unset, .unset] [(.ref o)]))
      refine own_astore 51 Y4 #[.val (.int x0), .val (.int x1), .val (.int x2), .val (.ref an), .val (.ref ar), .val (.int (0 : Int32)), .val (.int (0 : Int32)), .val (.ref o), .unset] at_49 rfl rfl rfl ?_
      refine own_aload 53 Y4 at_51 rfl rfl rfl ?_
      refine own_iload 55 Y4 at_53 rfl rfl ?_
      refine own_callV 58 Y4 [(.int (0 : Int32))] [] X_o (own_wd hw 34 rfl) (own_wd hw 35 rfl) (notFace_of_selects (args := #[]) (mvT Y4.warm (own_wd hw 37 rfl))) (own_wd hw 37 rfl) (own_wd hw 36 rfl) (own_wd hw 16 rfl) (own_wd hw 38 rfl) (c_as l Z a0 hw o (.ref an) rfl (.ref ar) rfl (0 : Int32) ⟨rfl, rfl⟩ _ n0 Zs F_o_negativeLengths F_o_rooting) at_55 (by decide) (lenOf pd5 rfl) rfl rfl (by decide) (Nat.le_of_ble_eq_true rfl) (by decide) (by decide) rfl fun v5 T5 h5 L5 Y5 hQ5 => ?_
      obtain ⟨x, rfl, gx, K5, N5, X_x, F_x_negativeLengths, F_x_rooting, F_x_collapseZero⟩ := hQ5
      have N := N.app N5
      have Zs := Nat.le_trans Zs K5.1
      have X_o := X_o.keep K5
      have F_o_negativeLengths := F_o_negativeLengths.keep K5 nin0
      have F_o_rooting := F_o_rooting.keep K5 nin0
      have F_o_collapseZero := F_o_collapseZero.keep K5 nin0
      show own_G p e below _ (T5.setTop (mkF m 58 #[.val (.int x0), .val (.int x1), .val (.int x2), .val (.ref an), .val (.ref ar), .val (.int (0 : Int32)), .val (.int (0 : Int32)), .val (.ref o), .unset] [(.ref x)]))
      refine own_astore 60 Y5 #[.val (.int x0), .val (.int x1), .val (.int x2), .val (.ref an), .val (.ref ar), .val (.int (0 : Int32)), .val (.int (0 : Int32)), .val (.ref o), .val (.ref x)] at_58 rfl rfl rfl ?_
      refine own_aload 62 Y5 at_60 rfl rfl rfl ?_
      refine own_ifnonnullT 67 Y5 at_62 (by decide) ?_
      refine own_aload 69 Y5 at_67 rfl rfl rfl ?_
      refine own_callV 72 Y5 [] [] X_x (own_wd hw 41 rfl) (own_wd hw 42 rfl) (notFace_of_selects (args := #[]) (mvT Y5.warm (own_wd hw 44 rfl))) (own_wd hw 44 rfl) (own_wd hw 43 rfl) (own_wd hw 16 rfl) (own_wd hw 45 rfl) (c_g0 l Z a0 hw x (.ref an) rfl _ F_x_negativeLengths) at_69 (by decide) (lenOf pdg0 rfl) rfl rfl (by decide) (Nat.le_of_ble_eq_true rfl) (by decide) (by decide) rfl fun v6 T6 h6 L6 Y6 hQ6 => ?_
      obtain ⟨rfl, rfl, rfl⟩ := hQ6
      have N := N.app (Fr.nil n0)
      show own_G p e below _ (T6.setTop (mkF m 72 #[.val (.int x0), .val (.int x1), .val (.int x2), .val (.ref an), .val (.ref ar), .val (.int (0 : Int32)), .val (.int (0 : Int32)), .val (.ref o), .val (.ref x)] [(.ref an)]))
      refine own_aloadN 73 Y6 at_72 rfl rfl rfl ?_
      refine own_acmp 76 true Y6 at_73 rfl rfl (decide_eq_true rfl) (by decide) (by decide) ?_
      refine own_aload 78 Y6 at_76 rfl rfl rfl ?_
      refine own_callV 81 Y6 [] [] X_x (own_wd hw 46 rfl) (own_wd hw 47 rfl) (notFace_of_selects (args := #[]) (mvT Y6.warm (own_wd hw 49 rfl))) (own_wd hw 49 rfl) (own_wd hw 48 rfl) (own_wd hw 16 rfl) (own_wd hw 50 rfl) (c_g1 l Z a0 hw x (.ref ar) rfl _ F_x_rooting) at_78 (by decide) (lenOf pdg1 rfl) rfl rfl (by decide) (Nat.le_of_ble_eq_true rfl) (by decide) (by decide) rfl fun v7 T7 h7 L7 Y7 hQ7 => ?_
      obtain ⟨rfl, rfl, rfl⟩ := hQ7
      have N := N.app (Fr.nil n0)
      show own_G p e below _ (T7.setTop (mkF m 81 #[.val (.int x0), .val (.int x1), .val (.int x2), .val (.ref an), .val (.ref ar), .val (.int (0 : Int32)), .val (.int (0 : Int32)), .val (.ref o), .val (.ref x)] [(.ref ar)]))
      refine own_aload 83 Y7 at_81 rfl rfl rfl ?_
      refine own_acmp 86 true Y7 at_83 rfl rfl (decide_eq_true rfl) (by decide) (by decide) ?_
      refine own_aload 88 Y7 at_86 rfl rfl rfl ?_
      refine own_callV 91 Y7 [] [] X_x (own_wd hw 51 rfl) (own_wd hw 52 rfl) (notFace_of_selects (args := #[]) (mvT Y7.warm (own_wd hw 54 rfl))) (own_wd hw 54 rfl) (own_wd hw 53 rfl) (own_wd hw 16 rfl) (own_wd hw 55 rfl) (c_g2 l Z a0 hw x (0 : Int32) rfl _ F_x_collapseZero) at_88 (by decide) (lenOf pdg2 rfl) rfl rfl (by decide) (Nat.le_of_ble_eq_true rfl) (by decide) (by decide) rfl fun v8 T8 h8 L8 Y8 hQ8 => ?_
      obtain ⟨rfl, rfl, rfl⟩ := hQ8
      have N := N.app (Fr.nil n0)
      show own_G p e below _ (T8.setTop (mkF m 91 #[.val (.int x0), .val (.int x1), .val (.int x2), .val (.ref an), .val (.ref ar), .val (.int (0 : Int32)), .val (.int (0 : Int32)), .val (.ref o), .val (.ref x)] [(.int (0 : Int32))]))
      refine own_iload 93 Y8 at_91 rfl rfl ?_
      refine own_icF 96 Y8 at_93 (XT.ii_ne_f rfl) rfl ?_
      refine own_aload 98 Y8 at_96 rfl rfl rfl ?_
      refine own_callV 101 Y8 [] [] X_o (own_wd hw 41 rfl) (own_wd hw 42 rfl) (notFace_of_selects (args := #[]) (mvT Y8.warm (own_wd hw 44 rfl))) (own_wd hw 44 rfl) (own_wd hw 43 rfl) (own_wd hw 16 rfl) (own_wd hw 45 rfl) (c_g0 l Z a0 hw o (.ref an) rfl _ F_o_negativeLengths) at_98 (by decide) (lenOf pdg0 rfl) rfl rfl (by decide) (Nat.le_of_ble_eq_true rfl) (by decide) (by decide) rfl fun v9 T9 h9 L9 Y9 hQ9 => ?_
      obtain ⟨rfl, rfl, rfl⟩ := hQ9
      have N := N.app (Fr.nil n0)
      show own_G p e below _ (T9.setTop (mkF m 101 #[.val (.int x0), .val (.int x1), .val (.int x2), .val (.ref an), .val (.ref ar), .val (.int (0 : Int32)), .val (.int (0 : Int32)), .val (.ref o), .val (.ref x)] [(.ref an)]))
      refine own_aloadN 102 Y9 at_101 rfl rfl rfl ?_
      refine own_acmp 105 true Y9 at_102 rfl rfl (decide_eq_true rfl) (by decide) (by decide) ?_
      refine own_aload 107 Y9 at_105 rfl rfl rfl ?_
      refine own_callV 110 Y9 [] [] X_o (own_wd hw 46 rfl) (own_wd hw 47 rfl) (notFace_of_selects (args := #[]) (mvT Y9.warm (own_wd hw 49 rfl))) (own_wd hw 49 rfl) (own_wd hw 48 rfl) (own_wd hw 16 rfl) (own_wd hw 50 rfl) (c_g1 l Z a0 hw o (.ref ar) rfl _ F_o_rooting) at_107 (by decide) (lenOf pdg1 rfl) rfl rfl (by decide) (Nat.le_of_ble_eq_true rfl) (by decide) (by decide) rfl fun v10 T10 h10 L10 Y10 hQ10 => ?_
      obtain ⟨rfl, rfl, rfl⟩ := hQ10
      have N := N.app (Fr.nil n0)
      show own_G p e below _ (T10.setTop (mkF m 110 #[.val (.int x0), .val (.int x1), .val (.int x2), .val (.ref an), .val (.ref ar), .val (.int (0 : Int32)), .val (.int (0 : Int32)), .val (.ref o), .val (.ref x)] [(.ref ar)]))
      refine own_aload 112 Y10 at_110 rfl rfl rfl ?_
      refine own_acmp 115 true Y10 at_112 rfl rfl (decide_eq_true rfl) (by decide) (by decide) ?_
      refine own_aload 117 Y10 at_115 rfl rfl rfl ?_
      refine own_callV 120 Y10 [] [] X_o (own_wd hw 51 rfl) (own_wd hw 52 rfl) (notFace_of_selects (args := #[]) (mvT Y10.warm (own_wd hw 54 rfl))) (own_wd hw 54 rfl) (own_wd hw 53 rfl) (own_wd hw 16 rfl) (own_wd hw 55 rfl) (c_g2 l Z a0 hw o (0 : Int32) rfl _ F_o_collapseZero) at_117 (by decide) (lenOf pdg2 rfl) rfl rfl (by decide) (Nat.le_of_ble_eq_true rfl) (by decide) (by decide) rfl fun v11 T11 h11 L11 Y11 hQ11 => ?_
      obtain ⟨rfl, rfl, rfl⟩ := hQ11
      have N := N.app (Fr.nil n0)
      show own_G p e below _ (T11.setTop (mkF m 120 #[.val (.int x0), .val (.int x1), .val (.int x2), .val (.ref an), .val (.ref ar), .val (.int (0 : Int32)), .val (.int (0 : Int32)), .val (.ref o), .val (.ref x)] [(.int (0 : Int32))]))
      refine own_iload 122 Y11 at_120 rfl rfl ?_
      refine own_icF 125 Y11 at_122 (XT.ii_ne_f rfl) rfl ?_
      refine own_iconst 126 Y11 (1 : Int32) at_125 rfl rfl ?_
      refine own_goto 130 Y11 at_126 (by decide) ?_
      exact own_retN Y11 (t := .boolean) rfl (by simp) at_130 (by decide) (by decide) ⟨rfl, N⟩
    · refine own_iconst 31 Y2 (1 : Int32) at_30 rfl rfl ?_
      refine own_goto 35 Y2 at_31 (by decide) ?_
      refine own_istore 37 Y2 #[.val (.int x0), .val (.int x1), .val (.int x2), .val (.ref an), .val (.ref ar), .val (.int (0 : Int32)), .val (.int (1 : Int32)), .unset, .unset] at_35 rfl rfl ?_
      refine own_newO 40 Y2 (own_wd hw 14 rfl) (own_wd hw 15 rfl) (own_wd hw 16 rfl) at_37 (by decide) (by decide) rfl fun T12 h12 o Y12 g_o E12 X_o D12 => ?_
      have gn_o : n0 ≤ o := by rw [g_o]; exact Zs
      have Zs := Nat.le_trans Zs E12.1
      have F_o_negativeLengths := D12 (Or.inr (own_wd hw 29 rfl)) (ty := (.object "org/orthant/io/NegativeLengths")) (by decide)
      have F_o_rooting := D12 (Or.inr (own_wd hw 31 rfl)) (ty := (.object "org/orthant/io/Rooting")) (by decide)
      have F_o_collapseZero := D12 (Or.inr (own_wd hw 33 rfl)) (ty := .boolean) (by decide)
      refine own_dup 41 Y12 at_40 rfl rfl ?_
      refine own_aloadN 42 Y12 at_41 rfl rfl rfl ?_
      refine own_aload 44 Y12 at_42 rfl rfl rfl ?_
      refine own_iload 46 Y12 at_44 rfl rfl ?_
      refine own_callI 49 Y12 [(.ref an), (.ref ar), (.int (0 : Int32))] [(.ref o)] rfl (own_wd hw 17 rfl) (own_wd hw 18 rfl) (own_wd hw 16 rfl) (own_wd hw 19 rfl) (c_ini l Z a0 hw o (.ref an) rfl (.ref ar) rfl (0 : Int32) ⟨rfl, rfl⟩ _ n0 gn_o _ _ _ X_o F_o_negativeLengths F_o_rooting F_o_collapseZero) at_46 (by decide) (lenOf pd3 rfl) rfl rfl (by decide) (Nat.le_of_ble_eq_true rfl) (by decide) (by decide) rfl fun v13 T13 h13 L13 Y13 hQ13 => ?_
      obtain ⟨rfl, K13, N13, G13, G13_0, G13_1, G13_2⟩ := hQ13
      have N := N.app N13
      have Zs := Nat.le_trans Zs K13.1
      have X_o := G13
      have F_o_negativeLengths := G13_0
      have F_o_rooting := G13_1
      have F_o_collapseZero := G13_2
      show own_G p e below _ (T13.setTop (mkF m 49 #[.val (.int x0), .val (.int x1), .val (.int x2), .val (.ref an), .val (.ref ar), .val (.int (0 : Int32)), .val (.int (1 : Int32)), .unset, .unset] [(.ref o)]))
      refine own_astore 51 Y13 #[.val (.int x0), .val (.int x1), .val (.int x2), .val (.ref an), .val (.ref ar), .val (.int (0 : Int32)), .val (.int (1 : Int32)), .val (.ref o), .unset] at_49 rfl rfl rfl ?_
      refine own_aload 53 Y13 at_51 rfl rfl rfl ?_
      refine own_iload 55 Y13 at_53 rfl rfl ?_
      refine own_callV 58 Y13 [(.int (1 : Int32))] [] X_o (own_wd hw 34 rfl) (own_wd hw 35 rfl) (notFace_of_selects (args := #[]) (mvT Y13.warm (own_wd hw 37 rfl))) (own_wd hw 37 rfl) (own_wd hw 36 rfl) (own_wd hw 16 rfl) (own_wd hw 38 rfl) (c_as l Z a0 hw o (.ref an) rfl (.ref ar) rfl (1 : Int32) ⟨rfl, rfl⟩ _ n0 Zs F_o_negativeLengths F_o_rooting) at_55 (by decide) (lenOf pd5 rfl) rfl rfl (by decide) (Nat.le_of_ble_eq_true rfl) (by decide) (by decide) rfl fun v14 T14 h14 L14 Y14 hQ14 => ?_
      obtain ⟨x, rfl, gx, K14, N14, X_x, F_x_negativeLengths, F_x_rooting, F_x_collapseZero⟩ := hQ14
      have N := N.app N14
      have Zs := Nat.le_trans Zs K14.1
      have X_o := X_o.keep K14
      have F_o_negativeLengths := F_o_negativeLengths.keep K14 nin0
      have F_o_rooting := F_o_rooting.keep K14 nin0
      have F_o_collapseZero := F_o_collapseZero.keep K14 nin0
      show own_G p e below _ (T14.setTop (mkF m 58 #[.val (.int x0), .val (.int x1), .val (.int x2), .val (.ref an), .val (.ref ar), .val (.int (0 : Int32)), .val (.int (1 : Int32)), .val (.ref o), .unset] [(.ref x)]))
      refine own_astore 60 Y14 #[.val (.int x0), .val (.int x1), .val (.int x2), .val (.ref an), .val (.ref ar), .val (.int (0 : Int32)), .val (.int (1 : Int32)), .val (.ref o), .val (.ref x)] at_58 rfl rfl rfl ?_
      refine own_aload 62 Y14 at_60 rfl rfl rfl ?_
      refine own_ifnonnullT 67 Y14 at_62 (by decide) ?_
      refine own_aload 69 Y14 at_67 rfl rfl rfl ?_
      refine own_callV 72 Y14 [] [] X_x (own_wd hw 41 rfl) (own_wd hw 42 rfl) (notFace_of_selects (args := #[]) (mvT Y14.warm (own_wd hw 44 rfl))) (own_wd hw 44 rfl) (own_wd hw 43 rfl) (own_wd hw 16 rfl) (own_wd hw 45 rfl) (c_g0 l Z a0 hw x (.ref an) rfl _ F_x_negativeLengths) at_69 (by decide) (lenOf pdg0 rfl) rfl rfl (by decide) (Nat.le_of_ble_eq_true rfl) (by decide) (by decide) rfl fun v15 T15 h15 L15 Y15 hQ15 => ?_
      obtain ⟨rfl, rfl, rfl⟩ := hQ15
      have N := N.app (Fr.nil n0)
      show own_G p e below _ (T15.setTop (mkF m 72 #[.val (.int x0), .val (.int x1), .val (.int x2), .val (.ref an), .val (.ref ar), .val (.int (0 : Int32)), .val (.int (1 : Int32)), .val (.ref o), .val (.ref x)] [(.ref an)]))
      refine own_aloadN 73 Y15 at_72 rfl rfl rfl ?_
      refine own_acmp 76 true Y15 at_73 rfl rfl (decide_eq_true rfl) (by decide) (by decide) ?_
      refine own_aload 78 Y15 at_76 rfl rfl rfl ?_
      refine own_callV 81 Y15 [] [] X_x (own_wd hw 46 rfl) (own_wd hw 47 rfl) (notFace_of_selects (args := #[]) (mvT Y15.warm (own_wd hw 49 rfl))) (own_wd hw 49 rfl) (own_wd hw 48 rfl) (own_wd hw 16 rfl) (own_wd hw 50 rfl) (c_g1 l Z a0 hw x (.ref ar) rfl _ F_x_rooting) at_78 (by decide) (lenOf pdg1 rfl) rfl rfl (by decide) (Nat.le_of_ble_eq_true rfl) (by decide) (by decide) rfl fun v16 T16 h16 L16 Y16 hQ16 => ?_
      obtain ⟨rfl, rfl, rfl⟩ := hQ16
      have N := N.app (Fr.nil n0)
      show own_G p e below _ (T16.setTop (mkF m 81 #[.val (.int x0), .val (.int x1), .val (.int x2), .val (.ref an), .val (.ref ar), .val (.int (0 : Int32)), .val (.int (1 : Int32)), .val (.ref o), .val (.ref x)] [(.ref ar)]))
      refine own_aload 83 Y16 at_81 rfl rfl rfl ?_
      refine own_acmp 86 true Y16 at_83 rfl rfl (decide_eq_true rfl) (by decide) (by decide) ?_
      refine own_aload 88 Y16 at_86 rfl rfl rfl ?_
      refine own_callV 91 Y16 [] [] X_x (own_wd hw 51 rfl) (own_wd hw 52 rfl) (notFace_of_selects (args := #[]) (mvT Y16.warm (own_wd hw 54 rfl))) (own_wd hw 54 rfl) (own_wd hw 53 rfl) (own_wd hw 16 rfl) (own_wd hw 55 rfl) (c_g2 l Z a0 hw x (1 : Int32) rfl _ F_x_collapseZero) at_88 (by decide) (lenOf pdg2 rfl) rfl rfl (by decide) (Nat.le_of_ble_eq_true rfl) (by decide) (by decide) rfl fun v17 T17 h17 L17 Y17 hQ17 => ?_
      obtain ⟨rfl, rfl, rfl⟩ := hQ17
      have N := N.app (Fr.nil n0)
      show own_G p e below _ (T17.setTop (mkF m 91 #[.val (.int x0), .val (.int x1), .val (.int x2), .val (.ref an), .val (.ref ar), .val (.int (0 : Int32)), .val (.int (1 : Int32)), .val (.ref o), .val (.ref x)] [(.int (1 : Int32))]))
      refine own_iload 93 Y17 at_91 rfl rfl ?_
      refine own_icF 96 Y17 at_93 (XT.ii_ne_f rfl) rfl ?_
      refine own_aload 98 Y17 at_96 rfl rfl rfl ?_
      refine own_callV 101 Y17 [] [] X_o (own_wd hw 41 rfl) (own_wd hw 42 rfl) (notFace_of_selects (args := #[]) (mvT Y17.warm (own_wd hw 44 rfl))) (own_wd hw 44 rfl) (own_wd hw 43 rfl) (own_wd hw 16 rfl) (own_wd hw 45 rfl) (c_g0 l Z a0 hw o (.ref an) rfl _ F_o_negativeLengths) at_98 (by decide) (lenOf pdg0 rfl) rfl rfl (by decide) (Nat.le_of_ble_eq_true rfl) (by decide) (by decide) rfl fun v18 T18 h18 L18 Y18 hQ18 => ?_
      obtain ⟨rfl, rfl, rfl⟩ := hQ18
      have N := N.app (Fr.nil n0)
      show own_G p e below _ (T18.setTop (mkF m 101 #[.val (.int x0), .val (.int x1), .val (.int x2), .val (.ref an), .val (.ref ar), .val (.int (0 : Int32)), .val (.int (1 : Int32)), .val (.ref o), .val (.ref x)] [(.ref an)]))
      refine own_aloadN 102 Y18 at_101 rfl rfl rfl ?_
      refine own_acmp 105 true Y18 at_102 rfl rfl (decide_eq_true rfl) (by decide) (by decide) ?_
      refine own_aload 107 Y18 at_105 rfl rfl rfl ?_
      refine own_callV 110 Y18 [] [] X_o (own_wd hw 46 rfl) (own_wd hw 47 rfl) (notFace_of_selects (args := #[]) (mvT Y18.warm (own_wd hw 49 rfl))) (own_wd hw 49 rfl) (own_wd hw 48 rfl) (own_wd hw 16 rfl) (own_wd hw 50 rfl) (c_g1 l Z a0 hw o (.ref ar) rfl _ F_o_rooting) at_107 (by decide) (lenOf pdg1 rfl) rfl rfl (by decide) (Nat.le_of_ble_eq_true rfl) (by decide) (by decide) rfl fun v19 T19 h19 L19 Y19 hQ19 => ?_
      obtain ⟨rfl, rfl, rfl⟩ := hQ19
      have N := N.app (Fr.nil n0)
      show own_G p e below _ (T19.setTop (mkF m 110 #[.val (.int x0), .val (.int x1), .val (.int x2), .val (.ref an), .val (.ref ar), .val (.int (0 : Int32)), .val (.int (1 : Int32)), .val (.ref o), .val (.ref x)] [(.ref ar)]))
      refine own_aload 112 Y19 at_110 rfl rfl rfl ?_
      refine own_acmp 115 true Y19 at_112 rfl rfl (decide_eq_true rfl) (by decide) (by decide) ?_
      refine own_aload 117 Y19 at_115 rfl rfl rfl ?_
      refine own_callV 120 Y19 [] [] X_o (own_wd hw 51 rfl) (own_wd hw 52 rfl) (notFace_of_selects (args := #[]) (mvT Y19.warm (own_wd hw 54 rfl))) (own_wd hw 54 rfl) (own_wd hw 53 rfl) (own_wd hw 16 rfl) (own_wd hw 55 rfl) (c_g2 l Z a0 hw o (0 : Int32) rfl _ F_o_collapseZero) at_117 (by decide) (lenOf pdg2 rfl) rfl rfl (by decide) (Nat.le_of_ble_eq_true rfl) (by decide) (by decide) rfl fun v20 T20 h20 L20 Y20 hQ20 => ?_
      obtain ⟨rfl, rfl, rfl⟩ := hQ20
      have N := N.app (Fr.nil n0)
      show own_G p e below _ (T20.setTop (mkF m 120 #[.val (.int x0), .val (.int x1), .val (.int x2), .val (.ref an), .val (.ref ar), .val (.int (0 : Int32)), .val (.int (1 : Int32)), .val (.ref o), .val (.ref x)] [(.int (0 : Int32))]))
      refine own_iload 122 Y20 at_120 rfl rfl ?_
      refine own_icF 125 Y20 at_122 (XT.ii_ne_f rfl) rfl ?_
      refine own_iconst 126 Y20 (1 : Int32) at_125 rfl rfl ?_
      refine own_goto 130 Y20 at_126 (by decide) ?_
      exact own_retN Y20 (t := .boolean) rfl (by simp) at_130 (by decide) (by decide) ⟨rfl, N⟩
  · refine own_iconst 18 Y2 (1 : Int32) at_17 rfl rfl ?_
    refine own_goto 22 Y2 at_18 (by decide) ?_
    refine own_istore 24 Y2 #[.val (.int x0), .val (.int x1), .val (.int x2), .val (.ref an), .val (.ref ar), .val (.int (1 : Int32)), .unset, .unset, .unset] at_22 rfl rfl ?_
    refine own_iloadN 25 Y2 at_24 rfl rfl ?_
    refine own_iconst 26 Y2 (2 : Int32) at_25 rfl rfl ?_
    refine own_iand 27 Y2 at_26 rfl ?_
    refine own_if_eq 34 30 Y2 at_27 (by decide) rfl (fun q27 => ?_) (fun q27 => ?_)
    · refine own_iconst 35 Y2 (0 : Int32) at_34 rfl rfl ?_
      refine own_istore 37 Y2 #[.val (.int x0), .val (.int x1), .val (.int x2), .val (.ref an), .val (.ref ar), .val (.int (1 : Int32)), .val (.int (0 : Int32)), .unset, .unset] at_35 rfl rfl ?_
      refine own_newO 40 Y2 (own_wd hw 14 rfl) (own_wd hw 15 rfl) (own_wd hw 16 rfl) at_37 (by decide) (by decide) rfl fun T21 h21 o Y21 g_o E21 X_o D21 => ?_
      have gn_o : n0 ≤ o := by rw [g_o]; exact Zs
      have Zs := Nat.le_trans Zs E21.1
      have F_o_negativeLengths := D21 (Or.inr (own_wd hw 29 rfl)) (ty := (.object "org/orthant/io/NegativeLengths")) (by decide)
      have F_o_rooting := D21 (Or.inr (own_wd hw 31 rfl)) (ty := (.object "org/orthant/io/Rooting")) (by decide)
      have F_o_collapseZero := D21 (Or.inr (own_wd hw 33 rfl)) (ty := .boolean) (by decide)
      refine own_dup 41 Y21 at_40 rfl rfl ?_
      refine own_aloadN 42 Y21 at_41 rfl rfl rfl ?_
      refine own_aload 44 Y21 at_42 rfl rfl rfl ?_
      refine own_iload 46 Y21 at_44 rfl rfl ?_
      refine own_callI 49 Y21 [(.ref an), (.ref ar), (.int (1 : Int32))] [(.ref o)] rfl (own_wd hw 17 rfl) (own_wd hw 18 rfl) (own_wd hw 16 rfl) (own_wd hw 19 rfl) (c_ini l Z a0 hw o (.ref an) rfl (.ref ar) rfl (1 : Int32) ⟨rfl, rfl⟩ _ n0 gn_o _ _ _ X_o F_o_negativeLengths F_o_rooting F_o_collapseZero) at_46 (by decide) (lenOf pd3 rfl) rfl rfl (by decide) (Nat.le_of_ble_eq_true rfl) (by decide) (by decide) rfl fun v22 T22 h22 L22 Y22 hQ22 => ?_
      obtain ⟨rfl, K22, N22, G22, G22_0, G22_1, G22_2⟩ := hQ22
      have N := N.app N22
      have Zs := Nat.le_trans Zs K22.1
      have X_o := G22
      have F_o_negativeLengths := G22_0
      have F_o_rooting := G22_1
      have F_o_collapseZero := G22_2
      show own_G p e below _ (T22.setTop (mkF m 49 #[.val (.int x0), .val (.int x1), .val (.int x2), .val (.ref an), .val (.ref ar), .val (.int (1 : Int32)), .val (.int (0 : Int32)), .unset, .unset] [(.ref o)]))
      refine own_astore 51 Y22 #[.val (.int x0), .val (.int x1), .val (.int x2), .val (.ref an), .val (.ref ar), .val (.int (1 : Int32)), .val (.int (0 : Int32)), .val (.ref o), .unset] at_49 rfl rfl rfl ?_
      refine own_aload 53 Y22 at_51 rfl rfl rfl ?_
      refine own_iload 55 Y22 at_53 rfl rfl ?_
      refine own_callV 58 Y22 [(.int (0 : Int32))] [] X_o (own_wd hw 34 rfl) (own_wd hw 35 rfl) (notFace_of_selects (args := #[]) (mvT Y22.warm (own_wd hw 37 rfl))) (own_wd hw 37 rfl) (own_wd hw 36 rfl) (own_wd hw 16 rfl) (own_wd hw 38 rfl) (c_as l Z a0 hw o (.ref an) rfl (.ref ar) rfl (0 : Int32) ⟨rfl, rfl⟩ _ n0 Zs F_o_negativeLengths F_o_rooting) at_55 (by decide) (lenOf pd5 rfl) rfl rfl (by decide) (Nat.le_of_ble_eq_true rfl) (by decide) (by decide) rfl fun v23 T23 h23 L23 Y23 hQ23 => ?_
      obtain ⟨x, rfl, gx, K23, N23, X_x, F_x_negativeLengths, F_x_rooting, F_x_collapseZero⟩ := hQ23
      have N := N.app N23
      have Zs := Nat.le_trans Zs K23.1
      have X_o := X_o.keep K23
      have F_o_negativeLengths := F_o_negativeLengths.keep K23 nin0
      have F_o_rooting := F_o_rooting.keep K23 nin0
      have F_o_collapseZero := F_o_collapseZero.keep K23 nin0
      show own_G p e below _ (T23.setTop (mkF m 58 #[.val (.int x0), .val (.int x1), .val (.int x2), .val (.ref an), .val (.ref ar), .val (.int (1 : Int32)), .val (.int (0 : Int32)), .val (.ref o), .unset] [(.ref x)]))
      refine own_astore 60 Y23 #[.val (.int x0), .val (.int x1), .val (.int x2), .val (.ref an), .val (.ref ar), .val (.int (1 : Int32)), .val (.int (0 : Int32)), .val (.ref o), .val (.ref x)] at_58 rfl rfl rfl ?_
      refine own_aload 62 Y23 at_60 rfl rfl rfl ?_
      refine own_ifnonnullT 67 Y23 at_62 (by decide) ?_
      refine own_aload 69 Y23 at_67 rfl rfl rfl ?_
      refine own_callV 72 Y23 [] [] X_x (own_wd hw 41 rfl) (own_wd hw 42 rfl) (notFace_of_selects (args := #[]) (mvT Y23.warm (own_wd hw 44 rfl))) (own_wd hw 44 rfl) (own_wd hw 43 rfl) (own_wd hw 16 rfl) (own_wd hw 45 rfl) (c_g0 l Z a0 hw x (.ref an) rfl _ F_x_negativeLengths) at_69 (by decide) (lenOf pdg0 rfl) rfl rfl (by decide) (Nat.le_of_ble_eq_true rfl) (by decide) (by decide) rfl fun v24 T24 h24 L24 Y24 hQ24 => ?_
      obtain ⟨rfl, rfl, rfl⟩ := hQ24
      have N := N.app (Fr.nil n0)
      show own_G p e below _ (T24.setTop (mkF m 72 #[.val (.int x0), .val (.int x1), .val (.int x2), .val (.ref an), .val (.ref ar), .val (.int (1 : Int32)), .val (.int (0 : Int32)), .val (.ref o), .val (.ref x)] [(.ref an)]))
      refine own_aloadN 73 Y24 at_72 rfl rfl rfl ?_
      refine own_acmp 76 true Y24 at_73 rfl rfl (decide_eq_true rfl) (by decide) (by decide) ?_
      refine own_aload 78 Y24 at_76 rfl rfl rfl ?_
      refine own_callV 81 Y24 [] [] X_x (own_wd hw 46 rfl) (own_wd hw 47 rfl) (notFace_of_selects (args := #[]) (mvT Y24.warm (own_wd hw 49 rfl))) (own_wd hw 49 rfl) (own_wd hw 48 rfl) (own_wd hw 16 rfl) (own_wd hw 50 rfl) (c_g1 l Z a0 hw x (.ref ar) rfl _ F_x_rooting) at_78 (by decide) (lenOf pdg1 rfl) rfl rfl (by decide) (Nat.le_of_ble_eq_true rfl) (by decide) (by decide) rfl fun v25 T25 h25 L25 Y25 hQ25 => ?_
      obtain ⟨rfl, rfl, rfl⟩ := hQ25
      have N := N.app (Fr.nil n0)
      show own_G p e below _ (T25.setTop (mkF m 81 #[.val (.int x0), .val (.int x1), .val (.int x2), .val (.ref an), .val (.ref ar), .val (.int (1 : Int32)), .val (.int (0 : Int32)), .val (.ref o), .val (.ref x)] [(.ref ar)]))
      refine own_aload 83 Y25 at_81 rfl rfl rfl ?_
      refine own_acmp 86 true Y25 at_83 rfl rfl (decide_eq_true rfl) (by decide) (by decide) ?_
      refine own_aload 88 Y25 at_86 rfl rfl rfl ?_
      refine own_callV 91 Y25 [] [] X_x (own_wd hw 51 rfl) (own_wd hw 52 rfl) (notFace_of_selects (args := #[]) (mvT Y25.warm (own_wd hw 54 rfl))) (own_wd hw 54 rfl) (own_wd hw 53 rfl) (own_wd hw 16 rfl) (own_wd hw 55 rfl) (c_g2 l Z a0 hw x (0 : Int32) rfl _ F_x_collapseZero) at_88 (by decide) (lenOf pdg2 rfl) rfl rfl (by decide) (Nat.le_of_ble_eq_true rfl) (by decide) (by decide) rfl fun v26 T26 h26 L26 Y26 hQ26 => ?_
      obtain ⟨rfl, rfl, rfl⟩ := hQ26
      have N := N.app (Fr.nil n0)
      show own_G p e below _ (T26.setTop (mkF m 91 #[.val (.int x0), .val (.int x1), .val (.int x2), .val (.ref an), .val (.ref ar), .val (.int (1 : Int32)), .val (.int (0 : Int32)), .val (.ref o), .val (.ref x)] [(.int (0 : Int32))]))
      refine own_iload 93 Y26 at_91 rfl rfl ?_
      refine own_icF 96 Y26 at_93 (XT.ii_ne_f rfl) rfl ?_
      refine own_aload 98 Y26 at_96 rfl rfl rfl ?_
      refine own_callV 101 Y26 [] [] X_o (own_wd hw 41 rfl) (own_wd hw 42 rfl) (notFace_of_selects (args := #[]) (mvT Y26.warm (own_wd hw 44 rfl))) (own_wd hw 44 rfl) (own_wd hw 43 rfl) (own_wd hw 16 rfl) (own_wd hw 45 rfl) (c_g0 l Z a0 hw o (.ref an) rfl _ F_o_negativeLengths) at_98 (by decide) (lenOf pdg0 rfl) rfl rfl (by decide) (Nat.le_of_ble_eq_true rfl) (by decide) (by decide) rfl fun v27 T27 h27 L27 Y27 hQ27 => ?_
      obtain ⟨rfl, rfl, rfl⟩ := hQ27
      have N := N.app (Fr.nil n0)
      show own_G p e below _ (T27.setTop (mkF m 101 #[.val (.int x0), .val (.int x1), .val (.int x2), .val (.ref an), .val (.ref ar), .val (.int (1 : Int32)), .val (.int (0 : Int32)), .val (.ref o), .val (.ref x)] [(.ref an)]))
      refine own_aloadN 102 Y27 at_101 rfl rfl rfl ?_
      refine own_acmp 105 true Y27 at_102 rfl rfl (decide_eq_true rfl) (by decide) (by decide) ?_
      refine own_aload 107 Y27 at_105 rfl rfl rfl ?_
      refine own_callV 110 Y27 [] [] X_o (own_wd hw 46 rfl) (own_wd hw 47 rfl) (notFace_of_selects (args := #[]) (mvT Y27.warm (own_wd hw 49 rfl))) (own_wd hw 49 rfl) (own_wd hw 48 rfl) (own_wd hw 16 rfl) (own_wd hw 50 rfl) (c_g1 l Z a0 hw o (.ref ar) rfl _ F_o_rooting) at_107 (by decide) (lenOf pdg1 rfl) rfl rfl (by decide) (Nat.le_of_ble_eq_true rfl) (by decide) (by decide) rfl fun v28 T28 h28 L28 Y28 hQ28 => ?_
      obtain ⟨rfl, rfl, rfl⟩ := hQ28
      have N := N.app (Fr.nil n0)
      show own_G p e below _ (T28.setTop (mkF m 110 #[.val (.int x0), .val (.int x1), .val (.int x2), .val (.ref an), .val (.ref ar), .val (.int (1 : Int32)), .val (.int (0 : Int32)), .val (.ref o), .val (.ref x)] [(.ref ar)]))
      refine own_aload 112 Y28 at_110 rfl rfl rfl ?_
      refine own_acmp 115 true Y28 at_112 rfl rfl (decide_eq_true rfl) (by decide) (by decide) ?_
      refine own_aload 117 Y28 at_115 rfl rfl rfl ?_
      refine own_callV 120 Y28 [] [] X_o (own_wd hw 51 rfl) (own_wd hw 52 rfl) (notFace_of_selects (args := #[]) (mvT Y28.warm (own_wd hw 54 rfl))) (own_wd hw 54 rfl) (own_wd hw 53 rfl) (own_wd hw 16 rfl) (own_wd hw 55 rfl) (c_g2 l Z a0 hw o (1 : Int32) rfl _ F_o_collapseZero) at_117 (by decide) (lenOf pdg2 rfl) rfl rfl (by decide) (Nat.le_of_ble_eq_true rfl) (by decide) (by decide) rfl fun v29 T29 h29 L29 Y29 hQ29 => ?_
      obtain ⟨rfl, rfl, rfl⟩ := hQ29
      have N := N.app (Fr.nil n0)
      show own_G p e below _ (T29.setTop (mkF m 120 #[.val (.int x0), .val (.int x1), .val (.int x2), .val (.ref an), .val (.ref ar), .val (.int (1 : Int32)), .val (.int (0 : Int32)), .val (.ref o), .val (.ref x)] [(.int (1 : Int32))]))
      refine own_iload 122 Y29 at_120 rfl rfl ?_
      refine own_icF 125 Y29 at_122 (XT.ii_ne_f rfl) rfl ?_
      refine own_iconst 126 Y29 (1 : Int32) at_125 rfl rfl ?_
      refine own_goto 130 Y29 at_126 (by decide) ?_
      exact own_retN Y29 (t := .boolean) rfl (by simp) at_130 (by decide) (by decide) ⟨rfl, N⟩
    · refine own_iconst 31 Y2 (1 : Int32) at_30 rfl rfl ?_
      refine own_goto 35 Y2 at_31 (by decide) ?_
      refine own_istore 37 Y2 #[.val (.int x0), .val (.int x1), .val (.int x2), .val (.ref an), .val (.ref ar), .val (.int (1 : Int32)), .val (.int (1 : Int32)), .unset, .unset] at_35 rfl rfl ?_
      refine own_newO 40 Y2 (own_wd hw 14 rfl) (own_wd hw 15 rfl) (own_wd hw 16 rfl) at_37 (by decide) (by decide) rfl fun T30 h30 o Y30 g_o E30 X_o D30 => ?_
      have gn_o : n0 ≤ o := by rw [g_o]; exact Zs
      have Zs := Nat.le_trans Zs E30.1
      have F_o_negativeLengths := D30 (Or.inr (own_wd hw 29 rfl)) (ty := (.object "org/orthant/io/NegativeLengths")) (by decide)
      have F_o_rooting := D30 (Or.inr (own_wd hw 31 rfl)) (ty := (.object "org/orthant/io/Rooting")) (by decide)
      have F_o_collapseZero := D30 (Or.inr (own_wd hw 33 rfl)) (ty := .boolean) (by decide)
      refine own_dup 41 Y30 at_40 rfl rfl ?_
      refine own_aloadN 42 Y30 at_41 rfl rfl rfl ?_
      refine own_aload 44 Y30 at_42 rfl rfl rfl ?_
      refine own_iload 46 Y30 at_44 rfl rfl ?_
      refine own_callI 49 Y30 [(.ref an), (.ref ar), (.int (1 : Int32))] [(.ref o)] rfl (own_wd hw 17 rfl) (own_wd hw 18 rfl) (own_wd hw 16 rfl) (own_wd hw 19 rfl) (c_ini l Z a0 hw o (.ref an) rfl (.ref ar) rfl (1 : Int32) ⟨rfl, rfl⟩ _ n0 gn_o _ _ _ X_o F_o_negativeLengths F_o_rooting F_o_collapseZero) at_46 (by decide) (lenOf pd3 rfl) rfl rfl (by decide) (Nat.le_of_ble_eq_true rfl) (by decide) (by decide) rfl fun v31 T31 h31 L31 Y31 hQ31 => ?_
      obtain ⟨rfl, K31, N31, G31, G31_0, G31_1, G31_2⟩ := hQ31
      have N := N.app N31
      have Zs := Nat.le_trans Zs K31.1
      have X_o := G31
      have F_o_negativeLengths := G31_0
      have F_o_rooting := G31_1
      have F_o_collapseZero := G31_2
      show own_G p e below _ (T31.setTop (mkF m 49 #[.val (.int x0), .val (.int x1), .val (.int x2), .val (.ref an), .val (.ref ar), .val (.int (1 : Int32)), .val (.int (1 : Int32)), .unset, .unset] [(.ref o)]))
      refine own_astore 51 Y31 #[.val (.int x0), .val (.int x1), .val (.int x2), .val (.ref an), .val (.ref ar), .val (.int (1 : Int32)), .val (.int (1 : Int32)), .val (.ref o), .unset] at_49 rfl rfl rfl ?_
      refine own_aload 53 Y31 at_51 rfl rfl rfl ?_
      refine own_iload 55 Y31 at_53 rfl rfl ?_
      refine own_callV 58 Y31 [(.int (1 : Int32))] [] X_o (own_wd hw 34 rfl) (own_wd hw 35 rfl) (notFace_of_selects (args := #[]) (mvT Y31.warm (own_wd hw 37 rfl))) (own_wd hw 37 rfl) (own_wd hw 36 rfl) (own_wd hw 16 rfl) (own_wd hw 38 rfl) (c_as l Z a0 hw o (.ref an) rfl (.ref ar) rfl (1 : Int32) ⟨rfl, rfl⟩ _ n0 Zs F_o_negativeLengths F_o_rooting) at_55 (by decide) (lenOf pd5 rfl) rfl rfl (by decide) (Nat.le_of_ble_eq_true rfl) (by decide) (by decide) rfl fun v32 T32 h32 L32 Y32 hQ32 => ?_
      obtain ⟨x, rfl, gx, K32, N32, X_x, F_x_negativeLengths, F_x_rooting, F_x_collapseZero⟩ := hQ32
      have N := N.app N32
      have Zs := Nat.le_trans Zs K32.1
      have X_o := X_o.keep K32
      have F_o_negativeLengths := F_o_negativeLengths.keep K32 nin0
      have F_o_rooting := F_o_rooting.keep K32 nin0
      have F_o_collapseZero := F_o_collapseZero.keep K32 nin0
      show own_G p e below _ (T32.setTop (mkF m 58 #[.val (.int x0), .val (.int x1), .val (.int x2), .val (.ref an), .val (.ref ar), .val (.int (1 : Int32)), .val (.int (1 : Int32)), .val (.ref o), .unset] [(.ref x)]))
      refine own_astore 60 Y32 #[.val (.int x0), .val (.int x1), .val (.int x2), .val (.ref an), .val (.ref ar), .val (.int (1 : Int32)), .val (.int (1 : Int32)), .val (.ref o), .val (.ref x)] at_58 rfl rfl rfl ?_
      refine own_aload 62 Y32 at_60 rfl rfl rfl ?_
      refine own_ifnonnullT 67 Y32 at_62 (by decide) ?_
      refine own_aload 69 Y32 at_67 rfl rfl rfl ?_
      refine own_callV 72 Y32 [] [] X_x (own_wd hw 41 rfl) (own_wd hw 42 rfl) (notFace_of_selects (args := #[]) (mvT Y32.warm (own_wd hw 44 rfl))) (own_wd hw 44 rfl) (own_wd hw 43 rfl) (own_wd hw 16 rfl) (own_wd hw 45 rfl) (c_g0 l Z a0 hw x (.ref an) rfl _ F_x_negativeLengths) at_69 (by decide) (lenOf pdg0 rfl) rfl rfl (by decide) (Nat.le_of_ble_eq_true rfl) (by decide) (by decide) rfl fun v33 T33 h33 L33 Y33 hQ33 => ?_
      obtain ⟨rfl, rfl, rfl⟩ := hQ33
      have N := N.app (Fr.nil n0)
      show own_G p e below _ (T33.setTop (mkF m 72 #[.val (.int x0), .val (.int x1), .val (.int x2), .val (.ref an), .val (.ref ar), .val (.int (1 : Int32)), .val (.int (1 : Int32)), .val (.ref o), .val (.ref x)] [(.ref an)]))
      refine own_aloadN 73 Y33 at_72 rfl rfl rfl ?_
      refine own_acmp 76 true Y33 at_73 rfl rfl (decide_eq_true rfl) (by decide) (by decide) ?_
      refine own_aload 78 Y33 at_76 rfl rfl rfl ?_
      refine own_callV 81 Y33 [] [] X_x (own_wd hw 46 rfl) (own_wd hw 47 rfl) (notFace_of_selects (args := #[]) (mvT Y33.warm (own_wd hw 49 rfl))) (own_wd hw 49 rfl) (own_wd hw 48 rfl) (own_wd hw 16 rfl) (own_wd hw 50 rfl) (c_g1 l Z a0 hw x (.ref ar) rfl _ F_x_rooting) at_78 (by decide) (lenOf pdg1 rfl) rfl rfl (by decide) (Nat.le_of_ble_eq_true rfl) (by decide) (by decide) rfl fun v34 T34 h34 L34 Y34 hQ34 => ?_
      obtain ⟨rfl, rfl, rfl⟩ := hQ34
      have N := N.app (Fr.nil n0)
      show own_G p e below _ (T34.setTop (mkF m 81 #[.val (.int x0), .val (.int x1), .val (.int x2), .val (.ref an), .val (.ref ar), .val (.int (1 : Int32)), .val (.int (1 : Int32)), .val (.ref o), .val (.ref x)] [(.ref ar)]))
      refine own_aload 83 Y34 at_81 rfl rfl rfl ?_
      refine own_acmp 86 true Y34 at_83 rfl rfl (decide_eq_true rfl) (by decide) (by decide) ?_
      refine own_aload 88 Y34 at_86 rfl rfl rfl ?_
      refine own_callV 91 Y34 [] [] X_x (own_wd hw 51 rfl) (own_wd hw 52 rfl) (notFace_of_selects (args := #[]) (mvT Y34.warm (own_wd hw 54 rfl))) (own_wd hw 54 rfl) (own_wd hw 53 rfl) (own_wd hw 16 rfl) (own_wd hw 55 rfl) (c_g2 l Z a0 hw x (1 : Int32) rfl _ F_x_collapseZero) at_88 (by decide) (lenOf pdg2 rfl) rfl rfl (by decide) (Nat.le_of_ble_eq_true rfl) (by decide) (by decide) rfl fun v35 T35 h35 L35 Y35 hQ35 => ?_
      obtain ⟨rfl, rfl, rfl⟩ := hQ35
      have N := N.app (Fr.nil n0)
      show own_G p e below _ (T35.setTop (mkF m 91 #[.val (.int x0), .val (.int x1), .val (.int x2), .val (.ref an), .val (.ref ar), .val (.int (1 : Int32)), .val (.int (1 : Int32)), .val (.ref o), .val (.ref x)] [(.int (1 : Int32))]))
      refine own_iload 93 Y35 at_91 rfl rfl ?_
      refine own_icF 96 Y35 at_93 (XT.ii_ne_f rfl) rfl ?_
      refine own_aload 98 Y35 at_96 rfl rfl rfl ?_
      refine own_callV 101 Y35 [] [] X_o (own_wd hw 41 rfl) (own_wd hw 42 rfl) (notFace_of_selects (args := #[]) (mvT Y35.warm (own_wd hw 44 rfl))) (own_wd hw 44 rfl) (own_wd hw 43 rfl) (own_wd hw 16 rfl) (own_wd hw 45 rfl) (c_g0 l Z a0 hw o (.ref an) rfl _ F_o_negativeLengths) at_98 (by decide) (lenOf pdg0 rfl) rfl rfl (by decide) (Nat.le_of_ble_eq_true rfl) (by decide) (by decide) rfl fun v36 T36 h36 L36 Y36 hQ36 => ?_
      obtain ⟨rfl, rfl, rfl⟩ := hQ36
      have N := N.app (Fr.nil n0)
      show own_G p e below _ (T36.setTop (mkF m 101 #[.val (.int x0), .val (.int x1), .val (.int x2), .val (.ref an), .val (.ref ar), .val (.int (1 : Int32)), .val (.int (1 : Int32)), .val (.ref o), .val (.ref x)] [(.ref an)]))
      refine own_aloadN 102 Y36 at_101 rfl rfl rfl ?_
      refine own_acmp 105 true Y36 at_102 rfl rfl (decide_eq_true rfl) (by decide) (by decide) ?_
      refine own_aload 107 Y36 at_105 rfl rfl rfl ?_
      refine own_callV 110 Y36 [] [] X_o (own_wd hw 46 rfl) (own_wd hw 47 rfl) (notFace_of_selects (args := #[]) (mvT Y36.warm (own_wd hw 49 rfl))) (own_wd hw 49 rfl) (own_wd hw 48 rfl) (own_wd hw 16 rfl) (own_wd hw 50 rfl) (c_g1 l Z a0 hw o (.ref ar) rfl _ F_o_rooting) at_107 (by decide) (lenOf pdg1 rfl) rfl rfl (by decide) (Nat.le_of_ble_eq_true rfl) (by decide) (by decide) rfl fun v37 T37 h37 L37 Y37 hQ37 => ?_
      obtain ⟨rfl, rfl, rfl⟩ := hQ37
      have N := N.app (Fr.nil n0)
      show own_G p e below _ (T37.setTop (mkF m 110 #[.val (.int x0), .val (.int x1), .val (.int x2), .val (.ref an), .val (.ref ar), .val (.int (1 : Int32)), .val (.int (1 : Int32)), .val (.ref o), .val (.ref x)] [(.ref ar)]))
      refine own_aload 112 Y37 at_110 rfl rfl rfl ?_
      refine own_acmp 115 true Y37 at_112 rfl rfl (decide_eq_true rfl) (by decide) (by decide) ?_
      refine own_aload 117 Y37 at_115 rfl rfl rfl ?_
      refine own_callV 120 Y37 [] [] X_o (own_wd hw 51 rfl) (own_wd hw 52 rfl) (notFace_of_selects (args := #[]) (mvT Y37.warm (own_wd hw 54 rfl))) (own_wd hw 54 rfl) (own_wd hw 53 rfl) (own_wd hw 16 rfl) (own_wd hw 55 rfl) (c_g2 l Z a0 hw o (1 : Int32) rfl _ F_o_collapseZero) at_117 (by decide) (lenOf pdg2 rfl) rfl rfl (by decide) (Nat.le_of_ble_eq_true rfl) (by decide) (by decide) rfl fun v38 T38 h38 L38 Y38 hQ38 => ?_
      obtain ⟨rfl, rfl, rfl⟩ := hQ38
      have N := N.app (Fr.nil n0)
      show own_G p e below _ (T38.setTop (mkF m 120 #[.val (.int x0), .val (.int x1), .val (.int x2), .val (.ref an), .val (.ref ar), .val (.int (1 : Int32)), .val (.int (1 : Int32)), .val (.ref o), .val (.ref x)] [(.int (1 : Int32))]))
      refine own_iload 122 Y38 at_120 rfl rfl ?_
      refine own_icF 125 Y38 at_122 (XT.ii_ne_f rfl) rfl ?_
      refine own_iconst 126 Y38 (1 : Int32) at_125 rfl rfl ?_
      refine own_goto 130 Y38 at_126 (by decide) ?_
      exact own_retN Y38 (t := .boolean) rfl (by simp) at_130 (by decide) (by decide) ⟨rfl, N⟩
set_option maxRecDepth 65536 in
set_option maxHeartbeats 40000000 in
theorem comes_1 {Post : Tables → Env → Array Value → State → Outcome → State → Prop} (hpost : ∀ tb e args s v u, (limb_1_1.after args s (.returned v) u = true ∧ limb_1_2.after args s (.returned v) u = true ∧ True) → FrameEnd s (.returned v) u (Jvm.fieldLocs frame_1_writes args s ++ Jvm.arrayLocs frame_1_arrays args s ++ Jvm.staticLocs frame_1_statics s) 16 128 → Post tb e args s (.returned v) u) :
    ArmFor flags0 classFile x code maxLocals ret World_1 tables_1 room_1 Calls_1 rest_1 Pre_1 Post := by
  intro l hfl _ _ p e ha hc hk s m args below hf hA hF happ hP
  obtain ⟨hcalls, hrest, hpre⟩ := hP
  obtain ⟨-, -, -, hnamed, -, -, -, hat⟩ := (Spec.applies_iff hf).mp happ
  obtain ⟨hg, hn⟩ := and_e (Cond.before_iff.mp (show (Jvm.Cond.and given_1 narrow_1).before args s = true from hpre))
  obtain ⟨g0, hg⟩ := and_e hg
  obtain ⟨g1, hg⟩ := and_e hg
  obtain ⟨g2, hg⟩ := and_e hg
  have g3 := hg
  obtain ⟨w0, w1, w2, rfl⟩ : ∃ w0 w1 w2 : Value, args = #[w0, w1, w2] := by
    have hs : args.size = 3 := by simpa [Cond.value, given_1] using g0
    obtain ⟨L⟩ := args
    match L, hs with
    | [w0, w1, w2], _ => exact ⟨w0, w1, w2, rfl⟩
  have hw := fun d (hd : d ∈ tables_1) => atoms_spec (ws := Jvm.Cond.code x code maxLocals ret :: tables_1) hat d (List.mem_cons_of_mem _ hd)
  have hfit : Fit s := fun {y c} hc i hi => by
    obtain ⟨ha, rfl⟩ := Array.getElem?_eq_some_iff.mp hc
    have q := List.all_eq_true.mp ((Array.all_eq_true_iff_forall_mem.mp hF) _ (Array.getElem_mem ha)) i (List.mem_range.mpr hi)
    simpa [Array.getElem?_eq_getElem hi] using q
  obtain ⟨i0, ei0⟩ := is_v g1
  obtain rfl : w0 = (.int i0) := Option.some.inj ei0
  obtain ⟨i1, ei1⟩ := is_v g2
  obtain rfl : w1 = (.int i1) := Option.some.inj ei1
  obtain ⟨i2, ei2⟩ := is_v g3
  obtain rfl : w2 = (.int i2) := Option.some.inj ei2
  obtain ⟨n0, hn⟩ := and_e hn
  obtain ⟨n1, hn⟩ := and_e hn
  obtain ⟨n2, hn⟩ := and_e hn
  obtain ⟨n3, hn⟩ := and_e hn
  obtain ⟨n4, hn⟩ := and_e hn
  have n5 := hn
  obtain ⟨a_NegativeLengths_REFUSE, ev_NegativeLengths_REFUSE⟩ := exa_v n0
  have S_NegativeLengths_REFUSE : Sta s s.heap "org/orthant/io/NegativeLengths" "REFUSE" "Lorg/orthant/io/NegativeLengths;" (.ref a_NegativeLengths_REFUSE) := Sta.start ev_NegativeLengths_REFUSE (Or.inr ⟨(own_wd hw 6 rfl), (own_wd hw 7 rfl)⟩)
  have E_NegativeLengths_REFUSE : Exa s s.heap a_NegativeLengths_REFUSE "org/orthant/io/NegativeLengths" := Exa.start ev_NegativeLengths_REFUSE n0
  obtain ⟨a_Rooting_AS_WRITTEN, ev_Rooting_AS_WRITTEN⟩ := exa_v n1
  have S_Rooting_AS_WRITTEN : Sta s s.heap "org/orthant/io/Rooting" "AS_WRITTEN" "Lorg/orthant/io/Rooting;" (.ref a_Rooting_AS_WRITTEN) := Sta.start ev_Rooting_AS_WRITTEN (Or.inr ⟨(own_wd hw 12 rfl), (own_wd hw 13 rfl)⟩)
  have E_Rooting_AS_WRITTEN : Exa s s.heap a_Rooting_AS_WRITTEN "org/orthant/io/Rooting" := Exa.start ev_Rooting_AS_WRITTEN n1
  obtain ⟨a_NegativeLengths_CLAMP, ev_NegativeLengths_CLAMP⟩ := exa_v n2
  have S_NegativeLengths_CLAMP : Sta s s.heap "org/orthant/io/NegativeLengths" "CLAMP" "Lorg/orthant/io/NegativeLengths;" (.ref a_NegativeLengths_CLAMP) := Sta.start ev_NegativeLengths_CLAMP (Or.inr ⟨(own_wd hw 6 rfl), (own_wd hw 57 rfl)⟩)
  have E_NegativeLengths_CLAMP : Exa s s.heap a_NegativeLengths_CLAMP "org/orthant/io/NegativeLengths" := Exa.start ev_NegativeLengths_CLAMP n2
  obtain ⟨a_NegativeLengths_KEEP, ev_NegativeLengths_KEEP⟩ := exa_v n3
  have S_NegativeLengths_KEEP : Sta s s.heap "org/orthant/io/NegativeLengths" "KEEP" "Lorg/orthant/io/NegativeLengths;" (.ref a_NegativeLengths_KEEP) := Sta.start ev_NegativeLengths_KEEP (Or.inr ⟨(own_wd hw 6 rfl), (own_wd hw 59 rfl)⟩)
  have E_NegativeLengths_KEEP : Exa s s.heap a_NegativeLengths_KEEP "org/orthant/io/NegativeLengths" := Exa.start ev_NegativeLengths_KEEP n3
  obtain ⟨a_Rooting_UNROOTED, ev_Rooting_UNROOTED⟩ := exa_v n4
  have S_Rooting_UNROOTED : Sta s s.heap "org/orthant/io/Rooting" "UNROOTED" "Lorg/orthant/io/Rooting;" (.ref a_Rooting_UNROOTED) := Sta.start ev_Rooting_UNROOTED (Or.inr ⟨(own_wd hw 12 rfl), (own_wd hw 61 rfl)⟩)
  have E_Rooting_UNROOTED : Exa s s.heap a_Rooting_UNROOTED "org/orthant/io/Rooting" := Exa.start ev_Rooting_UNROOTED n4
  obtain ⟨a_Rooting_ROOTED, ev_Rooting_ROOTED⟩ := exa_v n5
  have S_Rooting_ROOTED : Sta s s.heap "org/orthant/io/Rooting" "ROOTED" "Lorg/orthant/io/Rooting;" (.ref a_Rooting_ROOTED) := Sta.start ev_Rooting_ROOTED (Or.inr ⟨(own_wd hw 12 rfl), (own_wd hw 63 rfl)⟩)
  have E_Rooting_ROOTED : Exa s s.heap a_Rooting_ROOTED "org/orthant/io/Rooting" := Exa.start ev_Rooting_ROOTED n5
  obtain ⟨n, o, h1, h2, h3, _, L, rfl, ⟨rfl, N⟩, hq⟩ := (c_law l s _ hw i0 i1 i2 a_NegativeLengths_REFUSE a_NegativeLengths_CLAMP a_NegativeLengths_KEEP a_Rooting_AS_WRITTEN a_Rooting_ROOTED a_Rooting_UNROOTED s.heap s.heap.size (Nat.le_refl _) S_NegativeLengths_REFUSE S_NegativeLengths_CLAMP S_NegativeLengths_KEEP S_Rooting_AS_WRITTEN S_Rooting_ROOTED S_Rooting_UNROOTED) p e ha hc hk s m _ below hf ((Spec.applies_iff_loose hf).mp happ).1 ⟨rfl, State.Warmed39.refl s, rfl⟩ trivial
  refine ⟨n, _, h1, h2, h3, hpost _ _ _ _ _ _ ⟨Cond.after_iff.mpr rfl, Cond.after_iff.mpr (eq_i res_at (Term.int_eval (1)) rfl), trivial⟩ ⟨hq.1, hq.2.1, (hq.2.2.sift fun y hy => Or.inr (N y hy)).mono (by decide) (by decide)⟩⟩
theorem main_1_1 : Claimed_1_1 := comes_1 fun _ _ _ _ _ _ h hF => ⟨h.1, hF⟩
theorem main_1_2 : Claimed_1_2 := comes_1 fun _ _ _ _ _ _ h hF => ⟨h.2.1, hF⟩
end Jvm.Pilot.@@N@@
namespace Jvm.Pilot.@@N@@
open Jvm Jvm.ClassFile Sem Op Lib Jvm.Free Jvm.Stand Jvm.Pilot.@@N@@.Jvm.D
/-! MADE BY PROGRAM (witnessworld.py) out of the Statement's table words and the real class files: 15 classes; the members and pool entries that the words name. The judged class is class 1, her method 3. -/
namespace start1
open Jvm.ClassFile
def u (s : String) : CpInfo := .utf8 (stringToUtf16 s)
/-- a pool by its gaps: so many unusable entries, then the entry; so many at the end -/
def gap : Nat → List CpInfo → List CpInfo
  | 0, r => r
  | n + 1, r => .unusable :: gap n r
def poolList (es : List (Nat × CpInfo)) (last : Nat) : List CpInfo := es.foldr (fun e r => gap e.1 (e.2 :: r)) (gap last [])
def pool (es : List (Nat × CpInfo)) (last : Nat) : Array CpInfo := ⟨poolList es last⟩
def fileOf (pool : Array CpInfo) (this : Nat) (attrs : Array Attribute := #[]) (ms : Array MethodInfo := #[]) (fl : Nat := 33) (sup : Nat := 0) (ifs : Array Nat := #[]) (fds : Array FieldInfo := #[]) : ClassFile where
  minorVersion := 0
  majorVersion := 65
  constantPool := pool
  accessFlags := fl
  thisClass := this
  superClass := sup
  interfaces := ifs
  fields := fds
  methods := ms
  attributes := attrs
def plain (name : String) (sup : Option ClassId) : Class where
  name := name
  kind := .ordinary
  loader := none
  accessFlags := 33
  super := sup
  interfaces := #[]
  cf := none
  fields := #[]
  methods := #[]
  instanceTypes := #[]
  staticTypes := #[]
  resolved := #[]
  callSites := []
  init := .initialized
  statics := none
  mirror := none

def pool0 : Array CpInfo := pool [(5, u "<init>"), (0, u "()V"), (1, .class_ 10), (1, u "java/lang/Object")] 113

def k0c0 : Code := { maxStack := 0, maxLocals := 1, code := object_method_1_code, exceptionTable := #[], attributes := #[] }
def k0m0 : Method := { name := "<init>", desc := "()V", sig := { parameters := [], returnType := none }, accessFlags := 1, code := some k0c0 }
/-- java/lang/Object -/
def k0 : Class := { plain "java/lang/Object" none with
  accessFlags := 33
  interfaces := #[]
  cf := some (fileOf pool0 8 #[] #[{ accessFlags := 1, nameIndex := 5, descriptorIndex := 6, attributes := #[] }] 33 0 #[] #[])
  fields := #[]
  methods := #[k0m0]
  instanceTypes := #[]
  staticTypes := #[]
  resolved := Array.replicate 124 none
  statics := none }

def pool1 : Array CpInfo := pool [(2, .class_ 4), (1, u "java/lang/Object"), (0, u "<init>"), (0, u "()V"), (0, .integer 2147483647), (0, .fieldref 9 10), (0, .class_ 11), (0, .nameAndType 12 13), (0, u "org/orthant/io/NegativeLengths"), (0, u "REFUSE"), (0, u "Lorg/orthant/io/NegativeLengths;"), (0, .fieldref 9 15), (0, .nameAndType 16 13), (0, u "CLAMP"), (0, .fieldref 9 18), (0, .nameAndType 19 13), (0, u "KEEP"), (0, .fieldref 21 22), (0, .class_ 23), (0, .nameAndType 24 25), (0, u "org/orthant/io/Rooting"), (0, u "AS_WRITTEN"), (0, u "Lorg/orthant/io/Rooting;"), (0, .fieldref 21 27), (0, .nameAndType 28 25), (0, u "ROOTED"), (0, .fieldref 21 30), (0, .nameAndType 31 25), (0, u "UNROOTED"), (0, .methodref 33 34), (0, .class_ 35), (0, .nameAndType 36 37), (0, u "org/orthant/io/ReadOptionsWithCollapseZeroPinLaw"), (0, u "pickNegative"), (0, u "(I)Lorg/orthant/io/NegativeLengths;"), (0, .methodref 33 39), (0, .nameAndType 40 41), (0, u "pickRooting"), (0, u "(I)Lorg/orthant/io/Rooting;"), (0, .class_ 43), (0, u "org/orthant/io/ReadOptions"), (0, .methodref 42 45), (0, .nameAndType 5 46), (0, u "(Lorg/orthant/io/NegativeLengths;Lorg/orthant/io/Rooting;Z)V"), (0, .methodref 42 48), (0, .nameAndType 49 50), (0, u "withCollapseZero"), (0, u "(Z)Lorg/orthant/io/ReadOptions;"), (0, .methodref 42 52), (0, .nameAndType 53 54), (0, u "negativeLengths"), (0, u "()Lorg/orthant/io/NegativeLengths;"), (0, .methodref 42 56), (0, .nameAndType 57 58), (0, u "rooting"), (0, u "()Lorg/orthant/io/Rooting;"), (0, .methodref 42 60), (0, .nameAndType 61 62), (0, u "collapseZero"), (0, u "()Z"), (3, u "law"), (0, u "(III)Z")] 2

def k1m0 : Method := { name := "<init>", desc := "()V", sig := { parameters := [], returnType := none }, accessFlags := 2, code := none }
def k1c1 : Code := { maxStack := 2, maxLocals := 2, code := method_2_code, exceptionTable := #[], attributes := #[] }
def k1m1 : Method := { name := "pickNegative", desc := "(I)Lorg/orthant/io/NegativeLengths;", sig := { parameters := [.int], returnType := some (.object "org/orthant/io/NegativeLengths") }, accessFlags := 10, code := some k1c1 }
def k1c2 : Code := { maxStack := 2, maxLocals := 2, code := method_3_code, exceptionTable := #[], attributes := #[] }
def k1m2 : Method := { name := "pickRooting", desc := "(I)Lorg/orthant/io/Rooting;", sig := { parameters := [.int], returnType := some (.object "org/orthant/io/Rooting") }, accessFlags := 10, code := some k1c2 }
def k1c3 : Code := { maxStack := 5, maxLocals := 9, code := code, exceptionTable := #[], attributes := #[] }
def k1m3 : Method := { name := "law", desc := "(III)Z", sig := { parameters := [.int, .int, .int], returnType := some .boolean }, accessFlags := 9, code := some k1c3 }
/-- org/orthant/io/ReadOptionsWithCollapseZeroPinLaw -/
def k1 : Class := { plain "org/orthant/io/ReadOptionsWithCollapseZeroPinLaw" (some 0) with
  accessFlags := 49
  interfaces := #[]
  cf := some (fileOf pool1 33 #[] #[{ accessFlags := 2, nameIndex := 5, descriptorIndex := 6, attributes := #[] }, { accessFlags := 10, nameIndex := 36, descriptorIndex := 37, attributes := #[] }, { accessFlags := 10, nameIndex := 40, descriptorIndex := 41, attributes := #[] }, { accessFlags := 9, nameIndex := 66, descriptorIndex := 67, attributes := #[] }] 49 2 #[] #[])
  fields := #[]
  methods := #[k1m0, k1m1, k1m2, k1m3]
  instanceTypes := #[]
  staticTypes := #[]
  resolved := Array.replicate 70 none
  statics := none }

def pool2 : Array CpInfo := pool [(1, .class_ 2), (0, u "java/lang/constant/Constable"), (0, .class_ 4), (0, u "java/lang/Object")] 6

/-- java/lang/constant/Constable -/
def k2 : Class := { plain "java/lang/constant/Constable" (some 0) with
  accessFlags := 1537
  interfaces := #[]
  cf := some (fileOf pool2 1 #[] #[] 1537 3 #[] #[])
  fields := #[]
  methods := #[]
  instanceTypes := #[]
  staticTypes := #[]
  resolved := Array.replicate 11 none
  statics := none }

def pool3 : Array CpInfo := pool [(1, .class_ 2), (0, u "java/lang/Comparable"), (0, .class_ 4), (0, u "java/lang/Object")] 7

/-- java/lang/Comparable -/
def k3 : Class := { plain "java/lang/Comparable" (some 0) with
  accessFlags := 1537
  interfaces := #[]
  cf := some (fileOf pool3 1 #[] #[] 1537 3 #[] #[])
  fields := #[]
  methods := #[]
  instanceTypes := #[]
  staticTypes := #[]
  resolved := Array.replicate 12 none
  statics := none }

def pool4 : Array CpInfo := pool [(1, .class_ 2), (0, u "java/io/Serializable"), (0, .class_ 4), (0, u "java/lang/Object")] 2

/-- java/io/Serializable -/
def k4 : Class := { plain "java/io/Serializable" (some 0) with
  accessFlags := 1537
  interfaces := #[]
  cf := some (fileOf pool4 1 #[] #[] 1537 3 #[] #[])
  fields := #[]
  methods := #[]
  instanceTypes := #[]
  staticTypes := #[]
  resolved := Array.replicate 7 none
  statics := none }

def pool5 : Array CpInfo := pool [(2, .class_ 4), (1, u "java/lang/Enum"), (0, u "name"), (0, u "Ljava/lang/String;"), (2, u "ordinal"), (0, u "I"), (1, .class_ 14), (1, u "java/lang/Object"), (4, u "hash"), (86, .class_ 108), (1, u "java/lang/Enum$EnumDesc"), (2, .class_ 112), (0, u "java/lang/constant/Constable"), (0, .class_ 114), (0, u "java/lang/Comparable"), (0, .class_ 116), (0, u "java/io/Serializable")] 87

/-- java/lang/Enum -/
def k5 : Class := { plain "java/lang/Enum" (some 0) with
  accessFlags := 1057
  interfaces := #[2, 3, 4]
  cf := some (fileOf pool5 2 #[.nestMembers #[106]] #[] 1057 12 #[111, 113, 115] #[{ accessFlags := 18, nameIndex := 5, descriptorIndex := 6, attributes := #[] }, { accessFlags := 18, nameIndex := 9, descriptorIndex := 10, attributes := #[] }, { accessFlags := 2, nameIndex := 19, descriptorIndex := 10, attributes := #[] }])
  fields := #[{ name := "name", type := (.object "java/lang/String"), accessFlags := 18, slot := 0, constantValue := 0 }, { name := "ordinal", type := .int, accessFlags := 18, slot := 1, constantValue := 0 }, { name := "hash", type := .int, accessFlags := 2, slot := 2, constantValue := 0 }]
  methods := #[]
  instanceTypes := #[(.object "java/lang/String"), .int, .int]
  staticTypes := #[]
  resolved := Array.replicate 204 none
  statics := none }

def pool6 : Array CpInfo := pool [(1, .class_ 2), (0, u "org/orthant/io/NegativeLengths"), (2, u "REFUSE"), (0, u "Lorg/orthant/io/NegativeLengths;"), (2, u "CLAMP"), (2, u "KEEP"), (2, u "$VALUES"), (0, u "[Lorg/orthant/io/NegativeLengths;"), (6, .class_ 25), (1, u "java/lang/Enum")] 25

/-- org/orthant/io/NegativeLengths -/
def k6 : Class := { plain "org/orthant/io/NegativeLengths" (some 5) with
  accessFlags := 16433
  interfaces := #[]
  cf := some (fileOf pool6 1 #[] #[] 16433 23 #[] #[{ accessFlags := 16409, nameIndex := 5, descriptorIndex := 6, attributes := #[] }, { accessFlags := 16409, nameIndex := 9, descriptorIndex := 6, attributes := #[] }, { accessFlags := 16409, nameIndex := 12, descriptorIndex := 6, attributes := #[] }, { accessFlags := 4122, nameIndex := 15, descriptorIndex := 16, attributes := #[] }])
  fields := #[{ name := "REFUSE", type := (.object "org/orthant/io/NegativeLengths"), accessFlags := 16409, slot := 0, constantValue := 0 }, { name := "CLAMP", type := (.object "org/orthant/io/NegativeLengths"), accessFlags := 16409, slot := 1, constantValue := 0 }, { name := "KEEP", type := (.object "org/orthant/io/NegativeLengths"), accessFlags := 16409, slot := 2, constantValue := 0 }, { name := "$VALUES", type := (.array (.object "org/orthant/io/NegativeLengths")), accessFlags := 4122, slot := 3, constantValue := 0 }]
  methods := #[]
  instanceTypes := #[(.object "java/lang/String"), .int, .int]
  staticTypes := #[(.object "org/orthant/io/NegativeLengths"), (.object "org/orthant/io/NegativeLengths"), (.object "org/orthant/io/NegativeLengths"), (.array (.object "org/orthant/io/NegativeLengths"))]
  resolved := Array.replicate 51 none
  statics := some 0 }

def pool7 : Array CpInfo := pool [(1, .class_ 2), (0, u "org/orthant/io/Rooting"), (2, u "AS_WRITTEN"), (0, u "Lorg/orthant/io/Rooting;"), (2, u "ROOTED"), (2, u "UNROOTED"), (2, u "$VALUES"), (0, u "[Lorg/orthant/io/Rooting;"), (6, .class_ 25), (1, u "java/lang/Enum")] 25

/-- org/orthant/io/Rooting -/
def k7 : Class := { plain "org/orthant/io/Rooting" (some 5) with
  accessFlags := 16433
  interfaces := #[]
  cf := some (fileOf pool7 1 #[] #[] 16433 23 #[] #[{ accessFlags := 16409, nameIndex := 5, descriptorIndex := 6, attributes := #[] }, { accessFlags := 16409, nameIndex := 9, descriptorIndex := 6, attributes := #[] }, { accessFlags := 16409, nameIndex := 12, descriptorIndex := 6, attributes := #[] }, { accessFlags := 4122, nameIndex := 15, descriptorIndex := 16, attributes := #[] }])
  fields := #[{ name := "AS_WRITTEN", type := (.object "org/orthant/io/Rooting"), accessFlags := 16409, slot := 0, constantValue := 0 }, { name := "ROOTED", type := (.object "org/orthant/io/Rooting"), accessFlags := 16409, slot := 1, constantValue := 0 }, { name := "UNROOTED", type := (.object "org/orthant/io/Rooting"), accessFlags := 16409, slot := 2, constantValue := 0 }, { name := "$VALUES", type := (.array (.object "org/orthant/io/Rooting")), accessFlags := 4122, slot := 3, constantValue := 0 }]
  methods := #[]
  instanceTypes := #[(.object "java/lang/String"), .int, .int]
  staticTypes := #[(.object "org/orthant/io/Rooting"), (.object "org/orthant/io/Rooting"), (.object "org/orthant/io/Rooting"), (.array (.object "org/orthant/io/Rooting"))]
  resolved := Array.replicate 51 none
  statics := some 1 }

def pool8 : Array CpInfo := pool [(1, .methodref 2 3), (0, .class_ 4), (0, .nameAndType 5 6), (0, u "java/lang/Object"), (0, u "<init>"), (0, u "()V"), (0, .class_ 8), (0, u "java/lang/Record")] 13

def k8c0 : Code := { maxStack := 1, maxLocals := 1, code := jdk_30_method_1_code, exceptionTable := #[], attributes := #[] }
def k8m0 : Method := { name := "<init>", desc := "()V", sig := { parameters := [], returnType := none }, accessFlags := 4, code := some k8c0 }
/-- java/lang/Record -/
def k8 : Class := { plain "java/lang/Record" (some 0) with
  accessFlags := 1057
  interfaces := #[]
  cf := some (fileOf pool8 7 #[] #[{ accessFlags := 4, nameIndex := 5, descriptorIndex := 6, attributes := #[] }] 1057 2 #[] #[])
  fields := #[]
  methods := #[k8m0]
  instanceTypes := #[]
  staticTypes := #[]
  resolved := Array.replicate 22 none
  statics := none }

def pool9 : Array CpInfo := pool [(1, .methodref 2 3), (0, .class_ 4), (0, .nameAndType 5 6), (0, u "java/lang/Record"), (0, u "<init>"), (0, u "()V"), (0, .fieldref 8 9), (0, .class_ 10), (0, .nameAndType 11 12), (0, u "org/orthant/io/ReadOptions"), (0, u "negativeLengths"), (0, u "Lorg/orthant/io/NegativeLengths;"), (0, .fieldref 8 14), (0, .nameAndType 15 16), (0, u "rooting"), (0, u "Lorg/orthant/io/Rooting;"), (0, .fieldref 8 18), (0, .nameAndType 19 20), (0, u "collapseZero"), (0, u "Z"), (0, .methodref 8 22), (0, .nameAndType 5 23), (0, u "(Lorg/orthant/io/NegativeLengths;Lorg/orthant/io/Rooting;Z)V"), (24, u "DEFAULT"), (0, u "Lorg/orthant/io/ReadOptions;"), (7, u "withCollapseZero"), (0, u "(Z)Lorg/orthant/io/ReadOptions;"), (3, u "()Lorg/orthant/io/NegativeLengths;"), (0, u "()Lorg/orthant/io/Rooting;"), (0, u "()Z")] 23

def k9c0 : Code := { maxStack := 2, maxLocals := 4, code := prog_38_method_1_code, exceptionTable := #[], attributes := #[] }
def k9m0 : Method := { name := "<init>", desc := "(Lorg/orthant/io/NegativeLengths;Lorg/orthant/io/Rooting;Z)V", sig := { parameters := [(.object "org/orthant/io/NegativeLengths"), (.object "org/orthant/io/Rooting"), .boolean], returnType := none }, accessFlags := 1, code := some k9c0 }
def k9c1 : Code := { maxStack := 5, maxLocals := 2, code := prog_38_method_4_code, exceptionTable := #[], attributes := #[] }
def k9m1 : Method := { name := "withCollapseZero", desc := "(Z)Lorg/orthant/io/ReadOptions;", sig := { parameters := [.boolean], returnType := some (.object "org/orthant/io/ReadOptions") }, accessFlags := 1, code := some k9c1 }
def k9c2 : Code := { maxStack := 1, maxLocals := 1, code := prog_38_method_8_code, exceptionTable := #[], attributes := #[] }
def k9m2 : Method := { name := "negativeLengths", desc := "()Lorg/orthant/io/NegativeLengths;", sig := { parameters := [], returnType := some (.object "org/orthant/io/NegativeLengths") }, accessFlags := 1, code := some k9c2 }
def k9c3 : Code := { maxStack := 1, maxLocals := 1, code := prog_38_method_9_code, exceptionTable := #[], attributes := #[] }
def k9m3 : Method := { name := "rooting", desc := "()Lorg/orthant/io/Rooting;", sig := { parameters := [], returnType := some (.object "org/orthant/io/Rooting") }, accessFlags := 1, code := some k9c3 }
def k9c4 : Code := { maxStack := 1, maxLocals := 1, code := prog_38_method_10_code, exceptionTable := #[], attributes := #[] }
def k9m4 : Method := { name := "collapseZero", desc := "()Z", sig := { parameters := [], returnType := some .boolean }, accessFlags := 1, code := some k9c4 }
/-- org/orthant/io/ReadOptions -/
def k9 : Class := { plain "org/orthant/io/ReadOptions" (some 8) with
  accessFlags := 49
  interfaces := #[]
  cf := some (fileOf pool9 8 #[] #[{ accessFlags := 1, nameIndex := 5, descriptorIndex := 23, attributes := #[] }, { accessFlags := 1, nameIndex := 57, descriptorIndex := 58, attributes := #[] }, { accessFlags := 1, nameIndex := 11, descriptorIndex := 62, attributes := #[] }, { accessFlags := 1, nameIndex := 15, descriptorIndex := 63, attributes := #[] }, { accessFlags := 1, nameIndex := 19, descriptorIndex := 64, attributes := #[] }] 49 2 #[] #[{ accessFlags := 18, nameIndex := 11, descriptorIndex := 12, attributes := #[] }, { accessFlags := 18, nameIndex := 15, descriptorIndex := 16, attributes := #[] }, { accessFlags := 18, nameIndex := 19, descriptorIndex := 20, attributes := #[] }, { accessFlags := 25, nameIndex := 48, descriptorIndex := 49, attributes := #[] }])
  fields := #[{ name := "negativeLengths", type := (.object "org/orthant/io/NegativeLengths"), accessFlags := 18, slot := 0, constantValue := 0 }, { name := "rooting", type := (.object "org/orthant/io/Rooting"), accessFlags := 18, slot := 1, constantValue := 0 }, { name := "collapseZero", type := .boolean, accessFlags := 18, slot := 2, constantValue := 0 }, { name := "DEFAULT", type := (.object "org/orthant/io/ReadOptions"), accessFlags := 25, slot := 0, constantValue := 0 }]
  methods := #[k9m0, k9m1, k9m2, k9m3, k9m4]
  instanceTypes := #[(.object "org/orthant/io/NegativeLengths"), (.object "org/orthant/io/Rooting"), .boolean]
  staticTypes := #[(.object "org/orthant/io/ReadOptions")]
  resolved := Array.replicate 88 none
  statics := none }

def pool10 : Array CpInfo := pool [(1, u "java/lang/Cloneable"), (0, .class_ 1), (0, u "java/lang/Object"), (0, .class_ 3)] 3

/-- java/lang/Cloneable -/
def k10 : Class := { plain "java/lang/Cloneable" (some 0) with
  accessFlags := 1537
  interfaces := #[]
  cf := some (fileOf pool10 2 #[] #[] 1537 4 #[] #[])
  fields := #[]
  methods := #[]
  instanceTypes := #[]
  staticTypes := #[]
  resolved := Array.replicate 8 none
  statics := none }

/-- the primitive byte -/
def k11 : Class := { plain "byte" none with kind := .primitive 'B', accessFlags := 0x411 }
/-- [B -/
def k12 : Class := { plain "[B" (some 0) with kind := .array 11 .byte, interfaces := #[10, 4], accessFlags := 1041 }

/-- the primitive int -/
def k13 : Class := { plain "int" none with kind := .primitive 'I', accessFlags := 0x411 }
/-- [I -/
def k14 : Class := { plain "[I" (some 0) with kind := .array 13 .int, interfaces := #[10, 4], accessFlags := 1041 }

def heap : Heap := #[{ cls := 6, slots := #[.ref 2, .ref 4, .ref 5, .null], vm := .statics 6 },
  { cls := 7, slots := #[.ref 3, .ref 7, .ref 6, .null], vm := .statics 7 },
  { cls := 6, slots := #[.null, .int 0, .int 0], vm := .none },
  { cls := 7, slots := #[.null, .int 0, .int 0], vm := .none },
  { cls := 6, slots := #[.null, .int 0, .int 0], vm := .none },
  { cls := 6, slots := #[.null, .int 0, .int 0], vm := .none },
  { cls := 7, slots := #[.null, .int 0, .int 0], vm := .none },
  { cls := 7, slots := #[.null, .int 0, .int 0], vm := .none }]
def classes : Array Class := #[k0, k1, k2, k3, k4, k5, k6, k7, k8, k9, k10, k11, k12, k13, k14]
def interned : List (Array UInt16 × Addr) := []
def slotsUsed : Nat := 26
def theMethod : MethodId := ⟨1, 3⟩
def args0 : Array Value := #[.int 5, .int 6, .int 3]
def aboutOver (below : List Frame) : State where
  vm := { classes := classes, interned := interned.toArray }
  heap := heap
  slotsUsed := slotsUsed
  threads := #[{ frames := .invoking theMethod args0 :: below }]
def below0 : List Frame := [.native { method := ⟨0, 0⟩, args := #[] }]
def about1 : State := aboutOver below0
def p0 : Program := .bare "" "" ""
def e0 : Env := launch0.env 0 0 0
theorem w_frames : about1.frames = Frame.invoking theMethod args0 :: below0 := rfl
set_option maxRecDepth 65536 in
theorem w_args : argsFit about1.vm theMethod args0 = true := by decide +kernel
set_option maxRecDepth 65536 in
theorem w_heap : heapFits about1 = true := by decide +kernel
set_option maxRecDepth 65536 in
theorem w_runnable : about1.curStatus? = some .runnable := by decide +kernel
set_option maxRecDepth 65536 in
theorem w_alone : about1.alone = true := by decide +kernel
set_option maxRecDepth 65536 in
theorem w_named : about1.methodNamed? x = some theMethod := by decide +kernel
set_option maxRecDepth 65536 in
theorem w_hears : about1.hears theMethod below0 = true := by decide +kernel
set_option maxRecDepth 65536 in
theorem w_ripe : about1.ripe theMethod args0 below0 = true := by decide +kernel
theorem w_running : about1.status = .running := rfl
set_option maxRecDepth 65536 in
theorem w_room : about1.hasRoom e0.platform room_1 = true :=
  launch0.hasRoom_least _ room_1 (by decide +kernel) (by decide +kernel) (by decide +kernel) (by decide +kernel) (by decide +kernel) (by decide +kernel)
theorem allAtoms_all (ts : List Jvm.Cond) (a : Array Jvm.Value) (st : Jvm.State) : (allAtoms ts).before a st = ts.all (fun c => c.before a st) := by
  induction ts with
  | nil => rfl
  | cons c t ih =>
    show (Jvm.Cond.and c (allAtoms t)).before a st = _
    rw [Jvm.Cond.before_and, ih, List.all_cons]
def words1 : List Jvm.Cond := Jvm.Cond.code x code maxLocals ret :: tables_1
/-- a 'code' word, met by the world's own term for the bytes: nothing is compared byte by byte -/
theorem code_word {y : MethodName} {bytes : ByteArray} {mx : Nat} {rt : Option FieldType} {a : Array Value} {s : State} {m : MethodId} {meth : Method} {c : Code} (h1 : s.methodNamed? y = some m) (h2 : s.vm.method? m = some meth) (h3 : meth.code = some c) (h4 : c.code = bytes)
    (h5 : (c.maxLocals == mx && c.exceptionTable.isEmpty && decide (c.maxStack ≤ mostOperands) && decide (meth.sig.returnType = rt) && !meth.locks && decide (parseMethodDescriptor y.desc = some meth.sig)) = true) : (Jvm.Cond.code y bytes mx rt).before a s = true := by
  simp only [Bool.and_eq_true, beq_iff_eq, Bool.not_eq_true', decide_eq_true_eq] at h5
  obtain ⟨⟨⟨⟨⟨g1, g2⟩, g3⟩, g4⟩, g5⟩, g6⟩ := h5
  simp [Cond.before, Cond.holds, Cond.value, h1, h2, h3, h4, g1, g2, g3, g4, g5, g6]
def isCode : Jvm.Cond → Bool
  | .code _ _ _ _ => true
  | _ => false
theorem all_split {L : List Jvm.Cond} {P : Jvm.Cond → Bool} (h1 : L.all (fun c => isCode c || P c) = true) (h2 : ∀ c ∈ L.filter isCode, P c = true) : L.all P = true := by
  refine List.all_eq_true.mpr fun c hc => ?_
  have h := List.all_eq_true.mp h1 c hc
  rcases Bool.eq_false_or_eq_true (isCode c) with hi | hi
  · exact h2 c (List.mem_filter.mpr ⟨hc, hi⟩)
  · simpa [hi] using h
set_option maxRecDepth 65536 in
theorem w_c0 : (Jvm.Cond.code x code maxLocals ret).before args0 about1 = true := code_word (m := ⟨1, 3⟩) (meth := k1m3) (c := k1c3) (by decide +kernel) rfl rfl rfl (by decide +kernel)
set_option maxRecDepth 65536 in
theorem w_c1 : (Jvm.Cond.code ({ cls := "org/orthant/io/ReadOptionsWithCollapseZeroPinLaw", name := "pickNegative", desc := "(I)Lorg/orthant/io/NegativeLengths;" } : Jvm.MethodName) method_2_code (2 : Nat) (Option.some (Jvm.ClassFile.FieldType.object "org/orthant/io/NegativeLengths"))).before args0 about1 = true := code_word (m := ⟨1, 1⟩) (meth := k1m1) (c := k1c1) (by decide +kernel) rfl rfl rfl (by decide +kernel)
set_option maxRecDepth 65536 in
theorem w_c2 : (Jvm.Cond.code ({ cls := "org/orthant/io/ReadOptionsWithCollapseZeroPinLaw", name := "pickRooting", desc := "(I)Lorg/orthant/io/Rooting;" } : Jvm.MethodName) method_3_code (2 : Nat) (Option.some (Jvm.ClassFile.FieldType.object "org/orthant/io/Rooting"))).before args0 about1 = true := code_word (m := ⟨1, 2⟩) (meth := k1m2) (c := k1c2) (by decide +kernel) rfl rfl rfl (by decide +kernel)
set_option maxRecDepth 65536 in
theorem w_c3 : (Jvm.Cond.code ({ cls := "org/orthant/io/ReadOptions", name := "<init>", desc := "(Lorg/orthant/io/NegativeLengths;Lorg/orthant/io/Rooting;Z)V" } : Jvm.MethodName) prog_38_method_1_code (4 : Nat) (Option.none : Option Jvm.ClassFile.FieldType)).before args0 about1 = true := code_word (m := ⟨9, 0⟩) (meth := k9m0) (c := k9c0) (by decide +kernel) rfl rfl rfl (by decide +kernel)
set_option maxRecDepth 65536 in
theorem w_c4 : (Jvm.Cond.code ({ cls := "java/lang/Record", name := "<init>", desc := "()V" } : Jvm.MethodName) jdk_30_method_1_code (1 : Nat) (Option.none : Option Jvm.ClassFile.FieldType)).before args0 about1 = true := code_word (m := ⟨8, 0⟩) (meth := k8m0) (c := k8c0) (by decide +kernel) rfl rfl rfl (by decide +kernel)
set_option maxRecDepth 65536 in
theorem w_c5 : (Jvm.Cond.code ({ cls := "java/lang/Object", name := "<init>", desc := "()V" } : Jvm.MethodName) object_method_1_code (1 : Nat) (Option.none : Option Jvm.ClassFile.FieldType)).before args0 about1 = true := code_word (m := ⟨0, 0⟩) (meth := k0m0) (c := k0c0) (by decide +kernel) rfl rfl rfl (by decide +kernel)
set_option maxRecDepth 65536 in
theorem w_c6 : (Jvm.Cond.code ({ cls := "org/orthant/io/ReadOptions", name := "withCollapseZero", desc := "(Z)Lorg/orthant/io/ReadOptions;" } : Jvm.MethodName) prog_38_method_4_code (2 : Nat) (Option.some (Jvm.ClassFile.FieldType.object "org/orthant/io/ReadOptions"))).before args0 about1 = true := code_word (m := ⟨9, 1⟩) (meth := k9m1) (c := k9c1) (by decide +kernel) rfl rfl rfl (by decide +kernel)
set_option maxRecDepth 65536 in
theorem w_c7 : (Jvm.Cond.code ({ cls := "org/orthant/io/ReadOptions", name := "negativeLengths", desc := "()Lorg/orthant/io/NegativeLengths;" } : Jvm.MethodName) prog_38_method_8_code (1 : Nat) (Option.some (Jvm.ClassFile.FieldType.object "org/orthant/io/NegativeLengths"))).before args0 about1 = true := code_word (m := ⟨9, 2⟩) (meth := k9m2) (c := k9c2) (by decide +kernel) rfl rfl rfl (by decide +kernel)
set_option maxRecDepth 65536 in
theorem w_c8 : (Jvm.Cond.code ({ cls := "org/orthant/io/ReadOptions", name := "rooting", desc := "()Lorg/orthant/io/Rooting;" } : Jvm.MethodName) prog_38_method_9_code (1 : Nat) (Option.some (Jvm.ClassFile.FieldType.object "org/orthant/io/Rooting"))).before args0 about1 = true := code_word (m := ⟨9, 3⟩) (meth := k9m3) (c := k9c3) (by decide +kernel) rfl rfl rfl (by decide +kernel)
set_option maxRecDepth 65536 in
theorem w_c9 : (Jvm.Cond.code ({ cls := "org/orthant/io/ReadOptions", name := "collapseZero", desc := "()Z" } : Jvm.MethodName) prog_38_method_10_code (1 : Nat) (Option.some Jvm.ClassFile.FieldType.boolean)).before args0 about1 = true := code_word (m := ⟨9, 4⟩) (meth := k9m4) (c := k9c4) (by decide +kernel) rfl rfl rfl (by decide +kernel)
def codes1 : List Jvm.Cond := [Jvm.Cond.code x code maxLocals ret, Jvm.Cond.code ({ cls := "org/orthant/io/ReadOptionsWithCollapseZeroPinLaw", name := "pickNegative", desc := "(I)Lorg/orthant/io/NegativeLengths;" } : Jvm.MethodName) method_2_code (2 : Nat) (Option.some (Jvm.ClassFile.FieldType.object "org/orthant/io/NegativeLengths")), Jvm.Cond.code ({ cls := "org/orthant/io/ReadOptionsWithCollapseZeroPinLaw", name := "pickRooting", desc := "(I)Lorg/orthant/io/Rooting;" } : Jvm.MethodName) method_3_code (2 : Nat) (Option.some (Jvm.ClassFile.FieldType.object "org/orthant/io/Rooting")), Jvm.Cond.code ({ cls := "org/orthant/io/ReadOptions", name := "<init>", desc := "(Lorg/orthant/io/NegativeLengths;Lorg/orthant/io/Rooting;Z)V" } : Jvm.MethodName) prog_38_method_1_code (4 : Nat) (Option.none : Option Jvm.ClassFile.FieldType), Jvm.Cond.code ({ cls := "java/lang/Record", name := "<init>", desc := "()V" } : Jvm.MethodName) jdk_30_method_1_code (1 : Nat) (Option.none : Option Jvm.ClassFile.FieldType), Jvm.Cond.code ({ cls := "java/lang/Object", name := "<init>", desc := "()V" } : Jvm.MethodName) object_method_1_code (1 : Nat) (Option.none : Option Jvm.ClassFile.FieldType), Jvm.Cond.code ({ cls := "org/orthant/io/ReadOptions", name := "withCollapseZero", desc := "(Z)Lorg/orthant/io/ReadOptions;" } : Jvm.MethodName) prog_38_method_4_code (2 : Nat) (Option.some (Jvm.ClassFile.FieldType.object "org/orthant/io/ReadOptions")), Jvm.Cond.code ({ cls := "org/orthant/io/ReadOptions", name := "negativeLengths", desc := "()Lorg/orthant/io/NegativeLengths;" } : Jvm.MethodName) prog_38_method_8_code (1 : Nat) (Option.some (Jvm.ClassFile.FieldType.object "org/orthant/io/NegativeLengths")), Jvm.Cond.code ({ cls := "org/orthant/io/ReadOptions", name := "rooting", desc := "()Lorg/orthant/io/Rooting;" } : Jvm.MethodName) prog_38_method_9_code (1 : Nat) (Option.some (Jvm.ClassFile.FieldType.object "org/orthant/io/Rooting")), Jvm.Cond.code ({ cls := "org/orthant/io/ReadOptions", name := "collapseZero", desc := "()Z" } : Jvm.MethodName) prog_38_method_10_code (1 : Nat) (Option.some Jvm.ClassFile.FieldType.boolean)]
set_option maxRecDepth 65536 in
theorem codes_eq : words1.filter isCode = codes1 := rfl
theorem w_codes : ∀ c ∈ words1.filter isCode, c.before args0 about1 = true := by
  rw [codes_eq]
  intro c hc
  simp only [codes1, List.mem_cons, List.not_mem_nil, or_false] at hc
  rcases hc with rfl | rfl | rfl | rfl | rfl | rfl | rfl | rfl | rfl | rfl
  · exact w_c0
  · exact w_c1
  · exact w_c2
  · exact w_c3
  · exact w_c4
  · exact w_c5
  · exact w_c6
  · exact w_c7
  · exact w_c8
  · exact w_c9
set_option maxRecDepth 65536 in
theorem w_t1 : (words1.take 24).all (fun c => isCode c || c.before args0 about1) = true := by decide +kernel
set_option maxRecDepth 65536 in
theorem w_t2 : ((words1.drop 24).take 24).all (fun c => isCode c || c.before args0 about1) = true := by decide +kernel
set_option maxRecDepth 65536 in
theorem w_t3 : ((words1.drop 24).drop 24).all (fun c => isCode c || c.before args0 about1) = true := by decide +kernel
theorem w_tables : (allAtoms (Jvm.Cond.code x code maxLocals ret :: tables_1)).before args0 about1 = true := by
  rw [allAtoms_all]
  show words1.all (fun c => c.before args0 about1) = true
  refine all_split ?_ w_codes
  rw [← List.take_append_drop 24 words1, List.all_append, w_t1, ← List.take_append_drop 24 (words1.drop 24), List.all_append, w_t2, w_t3]
  rfl
set_option maxRecDepth 65536 in
theorem w_case : (Jvm.Cond.and given_1 narrow_1).before args0 about1 = true := by decide +kernel
theorem w_applies : (headSpec (Jvm.Cond.code x code maxLocals ret :: tables_1) room_1).applies x e0.platform about1 = true :=
  (Spec.applies_iff w_frames).mpr ⟨w_running, w_runnable, w_alone, w_named, w_hears, w_ripe, w_room, w_tables⟩
theorem atStart : AtStart classFile x code maxLocals ret World_1 tables_1 room_1 Calls_1 rest_1 Pre_1 launch0 p0 e0 about1 theMethod args0 below0 :=
  ⟨lists_1, trivial, launch0.admits_env _ _ _, launch0.least_env, fairChoices_fair.cas, fairChoices_fair.clock, w_frames, w_args, w_heap, w_applies, trivial, trivial, w_case⟩
end start1
theorem witness_1 : WitnessClaimed_1 := ⟨start1.p0, start1.e0, start1.about1, start1.theMethod, start1.args0, start1.below0, start1.atStart⟩
end Jvm.Pilot.@@N@@
