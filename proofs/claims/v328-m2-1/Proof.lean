import JvmDerived
import JvmDerived.Pilot.@@N@@Statement
import JvmDerived.Pilot.@@N@@Code
set_option linter.unusedVariables false
set_option linter.unusedSimpArgs false
namespace Jvm.Pilot.@@N@@
open Jvm Jvm.ClassFile Sem Op Lib Jvm.Free Jvm.Stand Jvm.LawKit Jvm.RoadKit Bundle Jvm.Pilot.@@N@@.Jvm.D

section Own
variable {p : Program} {l : Launch} {e : Env} {R : Room} {s : State} {m : MethodId} {args : Array Value} {below : List Frame} {meth : Method} {c : Code} {T : State} {locs : List Loc} {cells slots : Nat} {Z : State} {h : Heap} {y : MethodName} {bytes : ByteArray} {maxL : Nat} {ret : Option FieldType} {E : Outcome → State → Prop} {Q : Option Value → Heap → List Loc → Prop} {kc ks : Nat} {Ls : Array Slot} {st : List Value} {pc : Nat} {a0 : Array Value}
/-- what stays as it is through the walk of one body -/
def own_C (Z : State) (y : MethodName) (bytes : ByteArray) (maxL : Nat) (ret : Option FieldType) (p : Program) (s : State) (m : MethodId) (meth : Method) (c : Code) : Prop :=
  p.tables.exec = Jvm.exec ∧ c.code = bytes ∧ c.maxLocals = maxL ∧ s.vm.findClass y.cls = some m.cls ∧ Z.Warmed39 s.vm ∧ meth.sig.returnType = ret ∧ meth.locks = false ∧ meth.name = y.name
/-- the walk stands at T, whose heap is h -/
def own_S (Z : State) (y : MethodName) (bytes : ByteArray) (maxL : Nat) (ret : Option FieldType) (p : Program) (l : Launch) (e : Env) (R : Room) (s : State) (m : MethodId) (args : Array Value) (below : List Frame) (meth : Method) (c : Code) (T : State) (h : Heap) (locs : List Loc) (cells slots : Nat) : Prop :=
  own_C Z y bytes maxL ret p s m meth c ∧ Stand p l e R s m args below meth c T locs cells slots ∧ T.heap = h
/-- from S the run ends, and its end is as Q says -/
def own_G (p : Program) (e : Env) (below : List Frame) (E : Outcome → State → Prop) (S : State) : Prop :=
  ∃ t o, Steps p.tables e below S t ∧ t.status = .running ∧ Ended t below o ∧ E o t
def own_E (s : State) (Q : Option Value → Heap → List Loc → Prop) (kc ks : Nat) (o : Outcome) (t : State) : Prop := ∃ v L, o = .returned v ∧ Q v t.heap L ∧ FrameEnd s o t L kc ks
theorem own_st {S S' : State} (hs : ∀ t, Steps p.tables e below S' t → Steps p.tables e below S t) (K : own_G p e below E S') : own_G p e below E S := by
  obtain ⟨t, o, h1, r⟩ := K
  exact ⟨t, o, hs t h1, r⟩
theorem own_S.x (Y : own_S Z y bytes maxL ret p l e R s m args below meth c T h locs cells slots) : p.tables.exec = Jvm.exec := Y.1.1
theorem own_S.d (Y : own_S Z y bytes maxL ret p l e R s m args below meth c T h locs cells slots) {pc : Nat} {r : Except ClassFile.DecodeError (ClassFile.Instr × Nat)} (hd : decode bytes pc = r) : decode c.code pc = r := hb Y.1.2.1 hd
theorem own_S.own (Y : own_S Z y bytes maxL ret p l e R s m args below meth c T h locs cells slots) : s.vm.findClass y.cls = some m.cls := Y.1.2.2.2.1
theorem own_S.warm (Y : own_S Z y bytes maxL ret p l e R s m args below meth c T h locs cells slots) : Z.Warmed39 s.vm := Y.1.2.2.2.2.1
theorem own_S.X (Y : own_S Z y bytes maxL ret p l e R s m args below meth c T h locs cells slots) : Stand p l e R s m args below meth c T locs cells slots := Y.2.1
theorem own_S.eT (Y : own_S Z y bytes maxL ret p l e R s m args below meth c T h locs cells slots) : T.heap = h := Y.2.2
/-- the contract of a body -/
def own_M (l : Launch) (y : MethodName) (bytes : ByteArray) (maxL : Nat) (ret : Option FieldType) (ws : List Jvm.Cond) (rm : Room) (Z : State) (as' : Array Value) (h : Heap) (Q : Option Value → Heap → List Loc → Prop) : Prop :=
  MetFree l y (head1 (Jvm.Cond.code y bytes maxL ret :: ws) rm) (fun a U => a = as' ∧ Z.Warmed39 U.vm ∧ U.heap = h) (fun _ _ _ _ _ => True) (fun _ U o U' => ∃ v L, o = .returned v ∧ Q v U'.heap L ∧ FrameEnd U o U' L rm.cells rm.slots)
theorem own_met {ws : List Jvm.Cond} {rm : Room} {as' : Array Value} (hp : plainFor y = true) {Lf : Array Slot} (hE : ∀ m, entryFrame m as' maxL = mkF m 0 Lf [])
    (body : ∀ p e s m below meth c T, own_S Z y bytes maxL ret p l e rm s m as' below meth c T h [] 0 0 → own_G p e below (own_E s Q rm.cells rm.slots) (T.setTop (mkF m 0 Lf []))) : own_M l y bytes maxL ret ws rm Z as' h Q := by
  refine MetFree.of_bodySF (maxLocals := maxL) hp hisR ?_
  intro p e s m args below meth c s₁ Bd hml0 hP hK
  obtain ⟨rfl, hZ, hh⟩ := hP
  obtain ⟨t, o, h1, h2, h3, h4⟩ := body p e s m below meth c s₁ ⟨⟨Bd.exec, Bd.bytes, hml0, findClass_of_methodNamed Bd.named, hZ, Bd.returns, Bd.notSynchronized, (name_of_methodNamed Bd.named Bd.method).1⟩, Stand.of_body Bd, by rw [← hh, Bd.state]; rfl⟩
  exact ⟨t, o, castTop (hE m) h1, h2, h3, h4⟩
theorem own_wd {ts : List Jvm.Cond} (hw : ∀ d ∈ ts, d.before a0 Z = true) (i : Nat) {d : Jvm.Cond} (hi : ts[i]? = some d) : d.before a0 Z = true := hw d (List.mem_of_getElem? hi)
theorem own_M.weak {ws : List Jvm.Cond} {rm : Room} {as' : Array Value} {Q' : Option Value → Heap → List Loc → Prop} (M : own_M l y bytes maxL ret ws rm Z as' h Q) (hQ : ∀ v h' L, Q v h' L → Q' v h' L) : own_M l y bytes maxL ret ws rm Z as' h Q' := by
  intro p e ha hc hk s m args below hf happ hP hK
  obtain ⟨n, o, h1, h2, h3, v, L, h4, h5, h6⟩ := M p e ha hc hk s m args below hf happ hP hK
  exact ⟨n, o, h1, h2, h3, v, L, h4, hQ _ _ _ h5, h6⟩
theorem own_aloadN (pc' : Nat) (Y : own_S Z y bytes maxL ret p l e R s m args below meth c T h locs cells slots) {k : Fin 4} {v : Value} (hd : decode bytes pc = .ok (.aload_n k, 1)) (hl : Ls[k.val]? = some (.val v)) (hv : v.isRef = true) (hp : pc + 1 = pc') (K : own_G p e below E (T.setTop (mkF m pc' Ls (v :: st)))) : own_G p e below E (T.setTop (mkF m pc Ls (st))) := by
  subst hp
  exact own_st (fun t k => XS.aloadN Y.X.here Y.x rfl (Y.d hd) hl hv k) K
theorem own_aload (pc' : Nat) (Y : own_S Z y bytes maxL ret p l e R s m args below meth c T h locs cells slots) {k : Nat} {v : Value} (hd : decode bytes pc = .ok (.aload k, 2)) (hl : Ls[k]? = some (.val v)) (hv : v.isRef = true) (hp : pc + 2 = pc') (K : own_G p e below E (T.setTop (mkF m pc' Ls (v :: st)))) : own_G p e below E (T.setTop (mkF m pc Ls (st))) := by
  subst hp
  exact own_st (fun t k => XS.aload Y.X.here Y.x rfl (Y.d hd) hl hv k) K
theorem own_iloadN (pc' : Nat) (Y : own_S Z y bytes maxL ret p l e R s m args below meth c T h locs cells slots) {k : Fin 4} {v : Int32} (hd : decode bytes pc = .ok (.iload_n k, 1)) (hl : Ls[k.val]? = some (.val (.int v))) (hp : pc + 1 = pc') (K : own_G p e below E (T.setTop (mkF m pc' Ls (.int v :: st)))) : own_G p e below E (T.setTop (mkF m pc Ls (st))) := by
  subst hp
  exact own_st (fun t k => XS.iloadN Y.X.here Y.x rfl (Y.d hd) hl k) K
theorem own_iload (pc' : Nat) (Y : own_S Z y bytes maxL ret p l e R s m args below meth c T h locs cells slots) {k : Nat} {v : Int32} (hd : decode bytes pc = .ok (.iload k, 2)) (hl : Ls[k]? = some (.val (.int v))) (hp : pc + 2 = pc') (K : own_G p e below E (T.setTop (mkF m pc' Ls (.int v :: st)))) : own_G p e below E (T.setTop (mkF m pc Ls (st))) := by
  subst hp
  exact own_st (fun t k => XS.iload Y.X.here Y.x rfl (Y.d hd) hl k) K
theorem own_lloadN (pc' : Nat) (Y : own_S Z y bytes maxL ret p l e R s m args below meth c T h locs cells slots) {k : Fin 4} {v : Int64} (hd : decode bytes pc = .ok (.lload_n k, 1)) (hl : Ls[k.val]? = some (.val (.long v))) (hp : pc + 1 = pc') (K : own_G p e below E (T.setTop (mkF m pc' Ls (.long v :: st)))) : own_G p e below E (T.setTop (mkF m pc Ls (st))) := by
  subst hp
  exact own_st (fun t k => XS.lloadN Y.X.here Y.x rfl (Y.d hd) hl k) K
theorem own_lload (pc' : Nat) (Y : own_S Z y bytes maxL ret p l e R s m args below meth c T h locs cells slots) {k : Nat} {v : Int64} (hd : decode bytes pc = .ok (.lload k, 2)) (hl : Ls[k]? = some (.val (.long v))) (hp : pc + 2 = pc') (K : own_G p e below E (T.setTop (mkF m pc' Ls (.long v :: st)))) : own_G p e below E (T.setTop (mkF m pc Ls (st))) := by
  subst hp
  exact own_st (fun t k => XS.lload Y.X.here Y.x rfl (Y.d hd) hl k) K
theorem own_iconst (pc' : Nat) (Y : own_S Z y bytes maxL ret p l e R s m args below meth c T h locs cells slots) {i : Int} (v : Int32) (hd : decode bytes pc = .ok (.iconst i, 1)) (hv : Int32.ofInt i = v) (hp : pc + 1 = pc') (K : own_G p e below E (T.setTop (mkF m pc' Ls (.int v :: st)))) : own_G p e below E (T.setTop (mkF m pc Ls (st))) := by
  subst hp
  exact own_st (fun t k => XT.iconstV Y.X.here Y.x rfl v (Y.d hd) hv k) K
theorem own_bipush (pc' : Nat) (Y : own_S Z y bytes maxL ret p l e R s m args below meth c T h locs cells slots) {i : Int} (v : Int32) (hd : decode bytes pc = .ok (.bipush i, 2)) (hv : (Int8.ofInt i).toInt32 = v) (hp : pc + 2 = pc') (K : own_G p e below E (T.setTop (mkF m pc' Ls (.int v :: st)))) : own_G p e below E (T.setTop (mkF m pc Ls (st))) := by
  subst hp
  exact own_st (fun t k => XT.bipushV Y.X.here Y.x rfl v (Y.d hd) hv k) K
theorem own_sipush (pc' : Nat) (Y : own_S Z y bytes maxL ret p l e R s m args below meth c T h locs cells slots) {i : Int} (v : Int32) (hd : decode bytes pc = .ok (.sipush i, 3)) (hv : (Int16.ofInt i).toInt32 = v) (hp : pc + 3 = pc') (K : own_G p e below E (T.setTop (mkF m pc' Ls (.int v :: st)))) : own_G p e below E (T.setTop (mkF m pc Ls (st))) := by
  subst hp
  exact own_st (fun t k => XT.sipushV Y.X.here Y.x rfl v (Y.d hd) hv k) K
theorem own_lconst (pc' : Nat) (Y : own_S Z y bytes maxL ret p l e R s m args below meth c T h locs cells slots) {i : Fin 2} (v : Int64) (hd : decode bytes pc = .ok (.lconst i, 1)) (hv : Int64.ofNat i = v) (hp : pc + 1 = pc') (K : own_G p e below E (T.setTop (mkF m pc' Ls (.long v :: st)))) : own_G p e below E (T.setTop (mkF m pc Ls (st))) := by
  subst hp
  exact own_st (fun t k => XT.lconstV Y.X.here Y.x rfl v (Y.d hd) hv k) K
theorem own_aconst_null (pc' : Nat) (Y : own_S Z y bytes maxL ret p l e R s m args below meth c T h locs cells slots)  (hd : decode bytes pc = .ok (.aconst_null, 1))  (hp : pc + 1 = pc') (K : own_G p e below E (T.setTop (mkF m pc' Ls (.null :: st)))) : own_G p e below E (T.setTop (mkF m pc Ls (st))) := by
  subst hp
  exact own_st (fun t k => XS.aconstNull Y.X.here Y.x rfl (Y.d hd) k) K
theorem own_iadd (pc' : Nat) (Y : own_S Z y bytes maxL ret p l e R s m args below meth c T h locs cells slots) {x z : Int32} (hd : decode bytes pc = .ok (.iadd, 1))  (hp : pc + 1 = pc') (K : own_G p e below E (T.setTop (mkF m pc' Ls (.int (x + z) :: st)))) : own_G p e below E (T.setTop (mkF m pc Ls (.int z :: .int x :: st))) := by
  subst hp
  exact own_st (fun t k => XS.iadd Y.X.here Y.x rfl (Y.d hd) rfl k) K
theorem own_isub (pc' : Nat) (Y : own_S Z y bytes maxL ret p l e R s m args below meth c T h locs cells slots) {x z : Int32} (hd : decode bytes pc = .ok (.isub, 1))  (hp : pc + 1 = pc') (K : own_G p e below E (T.setTop (mkF m pc' Ls (.int (x - z) :: st)))) : own_G p e below E (T.setTop (mkF m pc Ls (.int z :: .int x :: st))) := by
  subst hp
  exact own_st (fun t k => XS.isub Y.X.here Y.x rfl (Y.d hd) rfl k) K
theorem own_imul (pc' : Nat) (Y : own_S Z y bytes maxL ret p l e R s m args below meth c T h locs cells slots) {x z : Int32} (hd : decode bytes pc = .ok (.imul, 1))  (hp : pc + 1 = pc') (K : own_G p e below E (T.setTop (mkF m pc' Ls (.int (x * z) :: st)))) : own_G p e below E (T.setTop (mkF m pc Ls (.int z :: .int x :: st))) := by
  subst hp
  exact own_st (fun t k => XS.imul Y.X.here Y.x rfl (Y.d hd) rfl k) K
theorem own_iand (pc' : Nat) (Y : own_S Z y bytes maxL ret p l e R s m args below meth c T h locs cells slots) {x z : Int32} (hd : decode bytes pc = .ok (.iand, 1))  (hp : pc + 1 = pc') (K : own_G p e below E (T.setTop (mkF m pc' Ls (.int (x &&& z) :: st)))) : own_G p e below E (T.setTop (mkF m pc Ls (.int z :: .int x :: st))) := by
  subst hp
  exact own_st (fun t k => XS.iand Y.X.here Y.x rfl (Y.d hd) rfl k) K
theorem own_ior (pc' : Nat) (Y : own_S Z y bytes maxL ret p l e R s m args below meth c T h locs cells slots) {x z : Int32} (hd : decode bytes pc = .ok (.ior, 1))  (hp : pc + 1 = pc') (K : own_G p e below E (T.setTop (mkF m pc' Ls (.int (x ||| z) :: st)))) : own_G p e below E (T.setTop (mkF m pc Ls (.int z :: .int x :: st))) := by
  subst hp
  exact own_st (fun t k => XS.ior Y.X.here Y.x rfl (Y.d hd) rfl k) K
theorem own_ixor (pc' : Nat) (Y : own_S Z y bytes maxL ret p l e R s m args below meth c T h locs cells slots) {x z : Int32} (hd : decode bytes pc = .ok (.ixor, 1))  (hp : pc + 1 = pc') (K : own_G p e below E (T.setTop (mkF m pc' Ls (.int (x ^^^ z) :: st)))) : own_G p e below E (T.setTop (mkF m pc Ls (.int z :: .int x :: st))) := by
  subst hp
  exact own_st (fun t k => XS.ixor Y.X.here Y.x rfl (Y.d hd) rfl k) K
theorem own_ishl (pc' : Nat) (Y : own_S Z y bytes maxL ret p l e R s m args below meth c T h locs cells slots) {x z : Int32} (hd : decode bytes pc = .ok (.ishl, 1))  (hp : pc + 1 = pc') (K : own_G p e below E (T.setTop (mkF m pc' Ls (.int (x <<< (z &&& 31)) :: st)))) : own_G p e below E (T.setTop (mkF m pc Ls (.int z :: .int x :: st))) := by
  subst hp
  exact own_st (fun t k => XS.ishl Y.X.here Y.x rfl (Y.d hd) rfl k) K
theorem own_ishr (pc' : Nat) (Y : own_S Z y bytes maxL ret p l e R s m args below meth c T h locs cells slots) {x z : Int32} (hd : decode bytes pc = .ok (.ishr, 1))  (hp : pc + 1 = pc') (K : own_G p e below E (T.setTop (mkF m pc' Ls (.int (x >>> (z &&& 31)) :: st)))) : own_G p e below E (T.setTop (mkF m pc Ls (.int z :: .int x :: st))) := by
  subst hp
  exact own_st (fun t k => XS.ishr Y.X.here Y.x rfl (Y.d hd) rfl k) K
theorem own_iushr (pc' : Nat) (Y : own_S Z y bytes maxL ret p l e R s m args below meth c T h locs cells slots) {x z : Int32} (hd : decode bytes pc = .ok (.iushr, 1))  (hp : pc + 1 = pc') (K : own_G p e below E (T.setTop (mkF m pc' Ls (.int ((x.toUInt32 >>> (z &&& 31).toUInt32).toInt32) :: st)))) : own_G p e below E (T.setTop (mkF m pc Ls (.int z :: .int x :: st))) := by
  subst hp
  exact own_st (fun t k => XS.iushr Y.X.here Y.x rfl (Y.d hd) rfl k) K
theorem own_ladd (pc' : Nat) (Y : own_S Z y bytes maxL ret p l e R s m args below meth c T h locs cells slots) {x z : Int64} (hd : decode bytes pc = .ok (.ladd, 1))  (hp : pc + 1 = pc') (K : own_G p e below E (T.setTop (mkF m pc' Ls (.long (x + z) :: st)))) : own_G p e below E (T.setTop (mkF m pc Ls (.long z :: .long x :: st))) := by
  subst hp
  exact own_st (fun t k => XS.ladd Y.X.here Y.x rfl (Y.d hd) rfl k) K
theorem own_lsub (pc' : Nat) (Y : own_S Z y bytes maxL ret p l e R s m args below meth c T h locs cells slots) {x z : Int64} (hd : decode bytes pc = .ok (.lsub, 1))  (hp : pc + 1 = pc') (K : own_G p e below E (T.setTop (mkF m pc' Ls (.long (x - z) :: st)))) : own_G p e below E (T.setTop (mkF m pc Ls (.long z :: .long x :: st))) := by
  subst hp
  exact own_st (fun t k => XS.lsub Y.X.here Y.x rfl (Y.d hd) rfl k) K
theorem own_lmul (pc' : Nat) (Y : own_S Z y bytes maxL ret p l e R s m args below meth c T h locs cells slots) {x z : Int64} (hd : decode bytes pc = .ok (.lmul, 1))  (hp : pc + 1 = pc') (K : own_G p e below E (T.setTop (mkF m pc' Ls (.long (x * z) :: st)))) : own_G p e below E (T.setTop (mkF m pc Ls (.long z :: .long x :: st))) := by
  subst hp
  exact own_st (fun t k => XS.lmul Y.X.here Y.x rfl (Y.d hd) rfl k) K
theorem own_land (pc' : Nat) (Y : own_S Z y bytes maxL ret p l e R s m args below meth c T h locs cells slots) {x z : Int64} (hd : decode bytes pc = .ok (.land, 1))  (hp : pc + 1 = pc') (K : own_G p e below E (T.setTop (mkF m pc' Ls (.long (x &&& z) :: st)))) : own_G p e below E (T.setTop (mkF m pc Ls (.long z :: .long x :: st))) := by
  subst hp
  exact own_st (fun t k => XS.land Y.X.here Y.x rfl (Y.d hd) rfl k) K
theorem own_lor (pc' : Nat) (Y : own_S Z y bytes maxL ret p l e R s m args below meth c T h locs cells slots) {x z : Int64} (hd : decode bytes pc = .ok (.lor, 1))  (hp : pc + 1 = pc') (K : own_G p e below E (T.setTop (mkF m pc' Ls (.long (x ||| z) :: st)))) : own_G p e below E (T.setTop (mkF m pc Ls (.long z :: .long x :: st))) := by
  subst hp
  exact own_st (fun t k => XS.lor Y.X.here Y.x rfl (Y.d hd) rfl k) K
theorem own_lxor (pc' : Nat) (Y : own_S Z y bytes maxL ret p l e R s m args below meth c T h locs cells slots) {x z : Int64} (hd : decode bytes pc = .ok (.lxor, 1))  (hp : pc + 1 = pc') (K : own_G p e below E (T.setTop (mkF m pc' Ls (.long (x ^^^ z) :: st)))) : own_G p e below E (T.setTop (mkF m pc Ls (.long z :: .long x :: st))) := by
  subst hp
  exact own_st (fun t k => XS.lxor Y.X.here Y.x rfl (Y.d hd) rfl k) K
theorem own_lshl (pc' : Nat) (Y : own_S Z y bytes maxL ret p l e R s m args below meth c T h locs cells slots) {x : Int64} {z : Int32} (hd : decode bytes pc = .ok (.lshl, 1))  (hp : pc + 1 = pc') (K : own_G p e below E (T.setTop (mkF m pc' Ls (.long (x <<< (z &&& 0x3f).toInt64) :: st)))) : own_G p e below E (T.setTop (mkF m pc Ls (.int z :: .long x :: st))) := by
  subst hp
  exact own_st (fun t k => XS.lshl Y.X.here Y.x rfl (Y.d hd) rfl k) K
theorem own_lshr (pc' : Nat) (Y : own_S Z y bytes maxL ret p l e R s m args below meth c T h locs cells slots) {x : Int64} {z : Int32} (hd : decode bytes pc = .ok (.lshr, 1))  (hp : pc + 1 = pc') (K : own_G p e below E (T.setTop (mkF m pc' Ls (.long (x >>> (z &&& 0x3f).toInt64) :: st)))) : own_G p e below E (T.setTop (mkF m pc Ls (.int z :: .long x :: st))) := by
  subst hp
  exact own_st (fun t k => XS.lshr Y.X.here Y.x rfl (Y.d hd) rfl k) K
theorem own_lushr (pc' : Nat) (Y : own_S Z y bytes maxL ret p l e R s m args below meth c T h locs cells slots) {x : Int64} {z : Int32} (hd : decode bytes pc = .ok (.lushr, 1))  (hp : pc + 1 = pc') (K : own_G p e below E (T.setTop (mkF m pc' Ls (.long ((x.toUInt64 >>> (z &&& 0x3f).toInt64.toUInt64).toInt64) :: st)))) : own_G p e below E (T.setTop (mkF m pc Ls (.int z :: .long x :: st))) := by
  subst hp
  exact own_st (fun t k => XS.lushr Y.X.here Y.x rfl (Y.d hd) rfl k) K
theorem own_idiv (pc' : Nat) (Y : own_S Z y bytes maxL ret p l e R s m args below meth c T h locs cells slots) {x z : Int32} (hd : decode bytes pc = .ok (.idiv, 1)) (hz : z ≠ 0) (hp : pc + 1 = pc') (K : own_G p e below E (T.setTop (mkF m pc' Ls (.int (x / z) :: st)))) : own_G p e below E (T.setTop (mkF m pc Ls (.int z :: .int x :: st))) := by
  subst hp
  exact own_st (fun t k => XS.idiv Y.X.here Y.x rfl (Y.d hd) rfl hz k) K
theorem own_irem (pc' : Nat) (Y : own_S Z y bytes maxL ret p l e R s m args below meth c T h locs cells slots) {x z : Int32} (hd : decode bytes pc = .ok (.irem, 1)) (hz : z ≠ 0) (hp : pc + 1 = pc') (K : own_G p e below E (T.setTop (mkF m pc' Ls (.int (x % z) :: st)))) : own_G p e below E (T.setTop (mkF m pc Ls (.int z :: .int x :: st))) := by
  subst hp
  exact own_st (fun t k => iremM Y.X Y.x rfl (Y.d hd) rfl hz k) K
theorem own_ldiv (pc' : Nat) (Y : own_S Z y bytes maxL ret p l e R s m args below meth c T h locs cells slots) {x z : Int64} (hd : decode bytes pc = .ok (.ldiv, 1)) (hz : z ≠ 0) (hp : pc + 1 = pc') (K : own_G p e below E (T.setTop (mkF m pc' Ls (.long (x / z) :: st)))) : own_G p e below E (T.setTop (mkF m pc Ls (.long z :: .long x :: st))) := by
  subst hp
  exact own_st (fun t k => XS.ldiv Y.X.here Y.x rfl (Y.d hd) rfl hz k) K
theorem own_lrem (pc' : Nat) (Y : own_S Z y bytes maxL ret p l e R s m args below meth c T h locs cells slots) {x z : Int64} (hd : decode bytes pc = .ok (.lrem, 1)) (hz : z ≠ 0) (hp : pc + 1 = pc') (K : own_G p e below E (T.setTop (mkF m pc' Ls (.long (x - (x / z) * z) :: st)))) : own_G p e below E (T.setTop (mkF m pc Ls (.long z :: .long x :: st))) := by
  subst hp
  exact own_st (fun t k => XS.lrem Y.X.here Y.x rfl (Y.d hd) rfl hz k) K
theorem own_ineg (pc' : Nat) (Y : own_S Z y bytes maxL ret p l e R s m args below meth c T h locs cells slots) {x : Int32} (hd : decode bytes pc = .ok (.ineg, 1))  (hp : pc + 1 = pc') (K : own_G p e below E (T.setTop (mkF m pc' Ls (.int (-x) :: st)))) : own_G p e below E (T.setTop (mkF m pc Ls (.int x :: st))) := by
  subst hp
  exact own_st (fun t k => XS.ineg Y.X.here Y.x rfl (Y.d hd) rfl k) K
theorem own_i2b (pc' : Nat) (Y : own_S Z y bytes maxL ret p l e R s m args below meth c T h locs cells slots) {x : Int32} (hd : decode bytes pc = .ok (.i2b, 1))  (hp : pc + 1 = pc') (K : own_G p e below E (T.setTop (mkF m pc' Ls (.int (x.toInt8.toInt32) :: st)))) : own_G p e below E (T.setTop (mkF m pc Ls (.int x :: st))) := by
  subst hp
  exact own_st (fun t k => XS.i2b Y.X.here Y.x rfl (Y.d hd) rfl k) K
theorem own_i2c (pc' : Nat) (Y : own_S Z y bytes maxL ret p l e R s m args below meth c T h locs cells slots) {x : Int32} (hd : decode bytes pc = .ok (.i2c, 1))  (hp : pc + 1 = pc') (K : own_G p e below E (T.setTop (mkF m pc' Ls (.int (x.toUInt32.toUInt16.toUInt32.toInt32) :: st)))) : own_G p e below E (T.setTop (mkF m pc Ls (.int x :: st))) := by
  subst hp
  exact own_st (fun t k => XS.i2c Y.X.here Y.x rfl (Y.d hd) rfl k) K
theorem own_i2s (pc' : Nat) (Y : own_S Z y bytes maxL ret p l e R s m args below meth c T h locs cells slots) {x : Int32} (hd : decode bytes pc = .ok (.i2s, 1))  (hp : pc + 1 = pc') (K : own_G p e below E (T.setTop (mkF m pc' Ls (.int (x.toInt16.toInt32) :: st)))) : own_G p e below E (T.setTop (mkF m pc Ls (.int x :: st))) := by
  subst hp
  exact own_st (fun t k => XS.i2s Y.X.here Y.x rfl (Y.d hd) rfl k) K
theorem own_i2l (pc' : Nat) (Y : own_S Z y bytes maxL ret p l e R s m args below meth c T h locs cells slots) {x : Int32} (hd : decode bytes pc = .ok (.i2l, 1))  (hp : pc + 1 = pc') (K : own_G p e below E (T.setTop (mkF m pc' Ls (.long x.toInt64 :: st)))) : own_G p e below E (T.setTop (mkF m pc Ls (.int x :: st))) := by
  subst hp
  exact own_st (fun t k => XS.i2l Y.X.here Y.x rfl (Y.d hd) rfl k) K
theorem own_l2i (pc' : Nat) (Y : own_S Z y bytes maxL ret p l e R s m args below meth c T h locs cells slots) {x : Int64} (hd : decode bytes pc = .ok (.l2i, 1))  (hp : pc + 1 = pc') (K : own_G p e below E (T.setTop (mkF m pc' Ls (.int x.toInt32 :: st)))) : own_G p e below E (T.setTop (mkF m pc Ls (.long x :: st))) := by
  subst hp
  exact own_st (fun t k => XS.l2i Y.X.here Y.x rfl (Y.d hd) rfl k) K
theorem own_lneg (pc' : Nat) (Y : own_S Z y bytes maxL ret p l e R s m args below meth c T h locs cells slots) {x : Int64} (hd : decode bytes pc = .ok (.lneg, 1))  (hp : pc + 1 = pc') (K : own_G p e below E (T.setTop (mkF m pc' Ls (.long (-x) :: st)))) : own_G p e below E (T.setTop (mkF m pc Ls (.long x :: st))) := by
  subst hp
  exact own_st (fun t k => XS.lneg Y.X.here Y.x rfl (Y.d hd) rfl k) K
theorem own_lcmp (pc' : Nat) (Y : own_S Z y bytes maxL ret p l e R s m args below meth c T h locs cells slots) {x z : Int64} (hd : decode bytes pc = .ok (.lcmp, 1))  (hp : pc + 1 = pc') (K : own_G p e below E (T.setTop (mkF m pc' Ls (.int (lcmpW x z) :: st)))) : own_G p e below E (T.setTop (mkF m pc Ls (.long z :: .long x :: st))) := by
  subst hp
  exact own_st (fun t k => XS.lcmp Y.X.here Y.x rfl (Y.d hd) rfl k) K
theorem own_dup (pc' : Nat) (Y : own_S Z y bytes maxL ret p l e R s m args below meth c T h locs cells slots) {x : Value} (hd : decode bytes pc = .ok (.dup, 1)) (hc : x.category = 1) (hp : pc + 1 = pc') (K : own_G p e below E (T.setTop (mkF m pc' Ls (x :: x :: st)))) : own_G p e below E (T.setTop (mkF m pc Ls (x :: st))) := by
  subst hp
  exact own_st (fun t k => XS.dup Y.X.here Y.x rfl (Y.d hd) rfl hc k) K
theorem own_dupX1 (pc' : Nat) (Y : own_S Z y bytes maxL ret p l e R s m args below meth c T h locs cells slots) {x z : Value} (hd : decode bytes pc = .ok (.dup_x1, 1)) (hc : x.category = 1) (hc' : z.category = 1) (hp : pc + 1 = pc') (K : own_G p e below E (T.setTop (mkF m pc' Ls (x :: z :: x :: st)))) : own_G p e below E (T.setTop (mkF m pc Ls (x :: z :: st))) := by
  subst hp
  exact own_st (fun t k => XS.dupX1 Y.X.here Y.x rfl (Y.d hd) rfl hc hc' k) K
theorem own_pop (pc' : Nat) (Y : own_S Z y bytes maxL ret p l e R s m args below meth c T h locs cells slots) {x : Value} (hd : decode bytes pc = .ok (.pop, 1)) (hc : x.category = 1) (hp : pc + 1 = pc') (K : own_G p e below E (T.setTop (mkF m pc' Ls (st)))) : own_G p e below E (T.setTop (mkF m pc Ls (x :: st))) := by
  subst hp
  exact own_st (fun t k => XS.pop Y.X.here Y.x rfl (Y.d hd) rfl hc k) K
theorem own_istoreN (pc' : Nat) (Y : own_S Z y bytes maxL ret p l e R s m args below meth c T h locs cells slots) (Ls' : Array Slot) {k : Fin 4} {x : Int32} (hd : decode bytes pc = .ok (.istore_n k, 1)) (hl : storeLocals Ls k.val (.int x) = some Ls') (hp : pc + 1 = pc') (K : own_G p e below E (T.setTop (mkF m pc' Ls' (st)))) : own_G p e below E (T.setTop (mkF m pc Ls (.int x :: st))) := by
  subst hp
  exact own_st (fun t k => XS.istoreN Y.X.here Y.x rfl (Y.d hd) rfl hl k) K
theorem own_istore (pc' : Nat) (Y : own_S Z y bytes maxL ret p l e R s m args below meth c T h locs cells slots) (Ls' : Array Slot) {k : Nat} {x : Int32} (hd : decode bytes pc = .ok (.istore k, 2)) (hl : storeLocals Ls k (.int x) = some Ls') (hp : pc + 2 = pc') (K : own_G p e below E (T.setTop (mkF m pc' Ls' (st)))) : own_G p e below E (T.setTop (mkF m pc Ls (.int x :: st))) := by
  subst hp
  exact own_st (fun t k => XS.istore Y.X.here Y.x rfl (Y.d hd) rfl hl k) K
theorem own_lstoreN (pc' : Nat) (Y : own_S Z y bytes maxL ret p l e R s m args below meth c T h locs cells slots) (Ls' : Array Slot) {k : Fin 4} {x : Int64} (hd : decode bytes pc = .ok (.lstore_n k, 1)) (hl : storeLocals Ls k.val (.long x) = some Ls') (hp : pc + 1 = pc') (K : own_G p e below E (T.setTop (mkF m pc' Ls' (st)))) : own_G p e below E (T.setTop (mkF m pc Ls (.long x :: st))) := by
  subst hp
  exact own_st (fun t k => XS.lstoreN Y.X.here Y.x rfl (Y.d hd) rfl hl k) K
theorem own_lstore (pc' : Nat) (Y : own_S Z y bytes maxL ret p l e R s m args below meth c T h locs cells slots) (Ls' : Array Slot) {k : Nat} {x : Int64} (hd : decode bytes pc = .ok (.lstore k, 2)) (hl : storeLocals Ls k (.long x) = some Ls') (hp : pc + 2 = pc') (K : own_G p e below E (T.setTop (mkF m pc' Ls' (st)))) : own_G p e below E (T.setTop (mkF m pc Ls (.long x :: st))) := by
  subst hp
  exact own_st (fun t k => XS.lstore Y.X.here Y.x rfl (Y.d hd) rfl hl k) K
theorem own_astoreN (pc' : Nat) (Y : own_S Z y bytes maxL ret p l e R s m args below meth c T h locs cells slots) (Ls' : Array Slot) {k : Fin 4} {x : Value} (hd : decode bytes pc = .ok (.astore_n k, 1)) (hv : x.isRef = true) (hl : storeLocals Ls k.val (x) = some Ls') (hp : pc + 1 = pc') (K : own_G p e below E (T.setTop (mkF m pc' Ls' (st)))) : own_G p e below E (T.setTop (mkF m pc Ls (x :: st))) := by
  subst hp
  exact own_st (fun t k => XS.astoreN Y.X.here Y.x rfl (Y.d hd) rfl hv hl k) K
theorem own_astore (pc' : Nat) (Y : own_S Z y bytes maxL ret p l e R s m args below meth c T h locs cells slots) (Ls' : Array Slot) {k : Nat} {x : Value} (hd : decode bytes pc = .ok (.astore k, 2)) (hv : x.isRef = true) (hl : storeLocals Ls k (x) = some Ls') (hp : pc + 2 = pc') (K : own_G p e below E (T.setTop (mkF m pc' Ls' (st)))) : own_G p e below E (T.setTop (mkF m pc Ls (x :: st))) := by
  subst hp
  exact own_st (fun t k => XS.astore Y.X.here Y.x rfl (Y.d hd) rfl hv hl k) K
theorem own_iinc (pc' : Nat) (Y : own_S Z y bytes maxL ret p l e R s m args below meth c T h locs cells slots) (Ls' : Array Slot) (v : Int32) {k : Nat} {cst : Int} {x : Int32} (hd : decode bytes pc = .ok (.iinc k cst, 3)) (hv : Int32.ofInt cst = v) (hl : Ls[k]? = some (.val (.int x))) (hl' : storeLocals Ls k (.int (x + v)) = some Ls') (hp : pc + 3 = pc') (K : own_G p e below E (T.setTop (mkF m pc' Ls' (st)))) : own_G p e below E (T.setTop (mkF m pc Ls (st))) := by
  subst hp
  exact own_st (fun t k => XT.iincV Y.X.here Y.x rfl v (Y.d hd) hv hl hl' k) K
theorem own_dloadN (pc' : Nat) (Y : own_S Z y bytes maxL ret p l e R s m args below meth c T h locs cells slots) {k : Fin 4} {v : UInt64} (hd : decode bytes pc = .ok (.dload_n k, 1)) (hl : Ls[k.val]? = some (.val (.double v))) (hp : pc + 1 = pc') (K : own_G p e below E (T.setTop (mkF m pc' Ls (.double v :: st)))) : own_G p e below E (T.setTop (mkF m pc Ls (st))) := by
  subst hp
  exact own_st (fun t k => XS.dloadN Y.X.here Y.x rfl (Y.d hd) hl k) K
theorem own_dload (pc' : Nat) (Y : own_S Z y bytes maxL ret p l e R s m args below meth c T h locs cells slots) {k : Nat} {v : UInt64} (hd : decode bytes pc = .ok (.dload k, 2)) (hl : Ls[k]? = some (.val (.double v))) (hp : pc + 2 = pc') (K : own_G p e below E (T.setTop (mkF m pc' Ls (.double v :: st)))) : own_G p e below E (T.setTop (mkF m pc Ls (st))) := by
  subst hp
  exact own_st (fun t k => XS.dload Y.X.here Y.x rfl (Y.d hd) hl k) K
theorem own_dstoreN (pc' : Nat) (Y : own_S Z y bytes maxL ret p l e R s m args below meth c T h locs cells slots) (Ls' : Array Slot) {k : Fin 4} {x : UInt64} (hd : decode bytes pc = .ok (.dstore_n k, 1)) (hl : storeLocals Ls k.val (.double x) = some Ls') (hp : pc + 1 = pc') (K : own_G p e below E (T.setTop (mkF m pc' Ls' (st)))) : own_G p e below E (T.setTop (mkF m pc Ls (.double x :: st))) := by
  subst hp
  exact own_st (fun t k => XS.dstoreN Y.X.here Y.x rfl (Y.d hd) rfl hl k) K
theorem own_dstore (pc' : Nat) (Y : own_S Z y bytes maxL ret p l e R s m args below meth c T h locs cells slots) (Ls' : Array Slot) {k : Nat} {x : UInt64} (hd : decode bytes pc = .ok (.dstore k, 2)) (hl : storeLocals Ls k (.double x) = some Ls') (hp : pc + 2 = pc') (K : own_G p e below E (T.setTop (mkF m pc' Ls' (st)))) : own_G p e below E (T.setTop (mkF m pc Ls (.double x :: st))) := by
  subst hp
  exact own_st (fun t k => XS.dstore Y.X.here Y.x rfl (Y.d hd) rfl hl k) K
theorem own_i2d (pc' : Nat) (Y : own_S Z y bytes maxL ret p l e R s m args below meth c T h locs cells slots) {x : Int32} (hd : decode bytes pc = .ok (.i2d, 1))  (hp : pc + 1 = pc') (K : own_G p e below E (T.setTop (mkF m pc' Ls (.double (FP.l2d x.toInt64) :: st)))) : own_G p e below E (T.setTop (mkF m pc Ls (.int x :: st))) := by
  subst hp
  exact own_st (fun t k => XS.i2dS Y.X.here Y.x rfl (Y.d hd) rfl (i2d_w x) k) K
theorem own_l2d (pc' : Nat) (Y : own_S Z y bytes maxL ret p l e R s m args below meth c T h locs cells slots) {x : Int64} (hd : decode bytes pc = .ok (.l2d, 1))  (hp : pc + 1 = pc') (K : own_G p e below E (T.setTop (mkF m pc' Ls (.double (FP.l2d x) :: st)))) : own_G p e below E (T.setTop (mkF m pc Ls (.long x :: st))) := by
  subst hp
  exact own_st (fun t k => XS.l2dS Y.X.here Y.x rfl (Y.d hd) rfl rfl k) K
theorem own_dsub (pc' : Nat) (Y : own_S Z y bytes maxL ret p l e R s m args below meth c T h locs cells slots) {x z : Int64} (hbx : B53 x) (hbz : B53 z) (hd : decode bytes pc = .ok (.dsub, 1))  (hp : pc + 1 = pc') (K : own_G p e below E (T.setTop (mkF m pc' Ls (.double (FP.l2d (x - z)) :: st)))) : own_G p e below E (T.setTop (mkF m pc Ls (.double (FP.l2d z) :: .double (FP.l2d x) :: st))) := by
  subst hp
  exact own_st (fun t k => XS.dsubS Y.X.here Y.x rfl (Y.d hd) rfl (nn_w (dsub_w hbx hbz)) (dsub_w hbx hbz) k) K
theorem own_dcmp (pc' : Nat) (Y : own_S Z y bytes maxL ret p l e R s m args below meth c T h locs cells slots) {o : CmpOp} {x z : Int64} (hbx : B53 x) (hbz : B53 z) (hd : decode bytes pc = .ok (.dcmp o, 1))  (hp : pc + 1 = pc') (K : own_G p e below E (T.setTop (mkF m pc' Ls (.int (lcmpW x z) :: st)))) : own_G p e below E (T.setTop (mkF m pc Ls (.double (FP.l2d z) :: .double (FP.l2d x) :: st))) := by
  subst hp
  exact own_st (fun t k => XS.dcmpS Y.X.here Y.x rfl (Y.d hd) rfl (dcmpV_w hbx hbz o) k) K
theorem own_pc {pc pc' : Nat} {o : Int} (hp : (pc : Int) + o = (pc' : Int)) : 0 ≤ (pc : Int) + o ∧ ((pc : Int) + o).toNat = pc' := by rw [hp]; exact ⟨Int.natCast_nonneg _, Int.toNat_natCast _⟩
theorem own_goto (pc' : Nat) (Y : own_S Z y bytes maxL ret p l e R s m args below meth c T h locs cells slots) {o : Int} (hd : decode bytes pc = .ok (.goto o, 3)) (hp : (pc : Int) + o = (pc' : Int)) (K : own_G p e below E (T.setTop (mkF m pc' Ls st))) : own_G p e below E (T.setTop (mkF m pc Ls st)) :=
  own_st (fun t k => XS.goto Y.X.here Y.x rfl rfl (Y.d hd) (own_pc hp).1 (own_pc hp).2 k) K
theorem own_ifT (pc' : Nat) (Y : own_S Z y bytes maxL ret p l e R s m args below meth c T h locs cells slots) {cd : ClassFile.Cond} {o : Int} {x : Int32} (hd : decode bytes pc = .ok (.ifCond cd o, 3)) (hc : ifCond.holds cd x = true) (hp : (pc : Int) + o = (pc' : Int)) (K : own_G p e below E (T.setTop (mkF m pc' Ls st))) : own_G p e below E (T.setTop (mkF m pc Ls (.int x :: st))) :=
  own_st (fun t k => XS.ifYes Y.X.here Y.x rfl rfl (Y.d hd) rfl hc (own_pc hp).1 (own_pc hp).2 k) K
theorem own_ifF (pc' : Nat) (Y : own_S Z y bytes maxL ret p l e R s m args below meth c T h locs cells slots) {cd : ClassFile.Cond} {o : Int} {x : Int32} (hd : decode bytes pc = .ok (.ifCond cd o, 3)) (hc : ifCond.holds cd x = false) (hp : pc + 3 = pc') (K : own_G p e below E (T.setTop (mkF m pc' Ls st))) : own_G p e below E (T.setTop (mkF m pc Ls (.int x :: st))) := by
  subst hp
  exact own_st (fun t k => XS.ifNo Y.X.here Y.x rfl (Y.d hd) rfl hc k) K
theorem own_icT (pc' : Nat) (Y : own_S Z y bytes maxL ret p l e R s m args below meth c T h locs cells slots) {cd : ClassFile.Cond} {o : Int} {x z : Int32} (hd : decode bytes pc = .ok (.if_icmp cd o, 3)) (hc : if_icmp.holds cd x z = true) (hp : (pc : Int) + o = (pc' : Int)) (K : own_G p e below E (T.setTop (mkF m pc' Ls st))) : own_G p e below E (T.setTop (mkF m pc Ls (.int z :: .int x :: st))) :=
  own_st (fun t k => XS.icmpYes Y.X.here Y.x rfl rfl (Y.d hd) rfl hc (own_pc hp).1 (own_pc hp).2 k) K
theorem own_icF (pc' : Nat) (Y : own_S Z y bytes maxL ret p l e R s m args below meth c T h locs cells slots) {cd : ClassFile.Cond} {o : Int} {x z : Int32} (hd : decode bytes pc = .ok (.if_icmp cd o, 3)) (hc : if_icmp.holds cd x z = false) (hp : pc + 3 = pc') (K : own_G p e below E (T.setTop (mkF m pc' Ls st))) : own_G p e below E (T.setTop (mkF m pc Ls (.int z :: .int x :: st))) := by
  subst hp
  exact own_st (fun t k => XS.icmpNo Y.X.here Y.x rfl (Y.d hd) rfl hc k) K
theorem own_if_eq (pc' pc'' : Nat) (Y : own_S Z y bytes maxL ret p l e R s m args below meth c T h locs cells slots) {x : Int32} {o : Int} (hd : decode bytes pc = .ok (.ifCond .eq o, 3)) (hp : (pc : Int) + o = (pc' : Int)) (hp' : pc + 3 = pc'') (KT : x = 0 → own_G p e below E (T.setTop (mkF m pc' Ls st))) (KF : ¬ x = 0 → own_G p e below E (T.setTop (mkF m pc'' Ls st))) : own_G p e below E (T.setTop (mkF m pc Ls (.int x :: st))) :=
  (Decidable.em (x = 0)).elim (fun q => own_ifT pc' Y hd (XT.i0_eq_t q) hp (KT q)) (fun q => own_ifF pc'' Y hd (XT.i0_eq_f q) hp' (KF q))
theorem own_ic_eq (pc' pc'' : Nat) (Y : own_S Z y bytes maxL ret p l e R s m args below meth c T h locs cells slots) {x z : Int32} {o : Int} (hd : decode bytes pc = .ok (.if_icmp .eq o, 3)) (hp : (pc : Int) + o = (pc' : Int)) (hp' : pc + 3 = pc'') (KT : x = z → own_G p e below E (T.setTop (mkF m pc' Ls st))) (KF : ¬ x = z → own_G p e below E (T.setTop (mkF m pc'' Ls st))) : own_G p e below E (T.setTop (mkF m pc Ls (.int z :: .int x :: st))) :=
  (Decidable.em (x = z)).elim (fun q => own_icT pc' Y hd (XT.ii_eq_t q) hp (KT q)) (fun q => own_icF pc'' Y hd (XT.ii_eq_f q) hp' (KF q))
theorem own_if_ne (pc' pc'' : Nat) (Y : own_S Z y bytes maxL ret p l e R s m args below meth c T h locs cells slots) {x : Int32} {o : Int} (hd : decode bytes pc = .ok (.ifCond .ne o, 3)) (hp : (pc : Int) + o = (pc' : Int)) (hp' : pc + 3 = pc'') (KT : ¬ x = 0 → own_G p e below E (T.setTop (mkF m pc' Ls st))) (KF : x = 0 → own_G p e below E (T.setTop (mkF m pc'' Ls st))) : own_G p e below E (T.setTop (mkF m pc Ls (.int x :: st))) :=
  (Decidable.em (x = 0)).elim (fun q => own_ifF pc'' Y hd (XT.i0_ne_f q) hp' (KF q)) (fun q => own_ifT pc' Y hd (XT.i0_ne_t q) hp (KT q))
theorem own_ic_ne (pc' pc'' : Nat) (Y : own_S Z y bytes maxL ret p l e R s m args below meth c T h locs cells slots) {x z : Int32} {o : Int} (hd : decode bytes pc = .ok (.if_icmp .ne o, 3)) (hp : (pc : Int) + o = (pc' : Int)) (hp' : pc + 3 = pc'') (KT : ¬ x = z → own_G p e below E (T.setTop (mkF m pc' Ls st))) (KF : x = z → own_G p e below E (T.setTop (mkF m pc'' Ls st))) : own_G p e below E (T.setTop (mkF m pc Ls (.int z :: .int x :: st))) :=
  (Decidable.em (x = z)).elim (fun q => own_icF pc'' Y hd (XT.ii_ne_f q) hp' (KF q)) (fun q => own_icT pc' Y hd (XT.ii_ne_t q) hp (KT q))
theorem own_if_lt (pc' pc'' : Nat) (Y : own_S Z y bytes maxL ret p l e R s m args below meth c T h locs cells slots) {x : Int32} {o : Int} (hd : decode bytes pc = .ok (.ifCond .lt o, 3)) (hp : (pc : Int) + o = (pc' : Int)) (hp' : pc + 3 = pc'') (KT : x < 0 → own_G p e below E (T.setTop (mkF m pc' Ls st))) (KF : ¬ x < 0 → own_G p e below E (T.setTop (mkF m pc'' Ls st))) : own_G p e below E (T.setTop (mkF m pc Ls (.int x :: st))) :=
  (Decidable.em (x < 0)).elim (fun q => own_ifT pc' Y hd (XT.i0_lt_t q) hp (KT q)) (fun q => own_ifF pc'' Y hd (XT.i0_lt_f q) hp' (KF q))
theorem own_ic_lt (pc' pc'' : Nat) (Y : own_S Z y bytes maxL ret p l e R s m args below meth c T h locs cells slots) {x z : Int32} {o : Int} (hd : decode bytes pc = .ok (.if_icmp .lt o, 3)) (hp : (pc : Int) + o = (pc' : Int)) (hp' : pc + 3 = pc'') (KT : x < z → own_G p e below E (T.setTop (mkF m pc' Ls st))) (KF : ¬ x < z → own_G p e below E (T.setTop (mkF m pc'' Ls st))) : own_G p e below E (T.setTop (mkF m pc Ls (.int z :: .int x :: st))) :=
  (Decidable.em (x < z)).elim (fun q => own_icT pc' Y hd (XT.ii_lt_t q) hp (KT q)) (fun q => own_icF pc'' Y hd (XT.ii_lt_f q) hp' (KF q))
theorem own_if_ge (pc' pc'' : Nat) (Y : own_S Z y bytes maxL ret p l e R s m args below meth c T h locs cells slots) {x : Int32} {o : Int} (hd : decode bytes pc = .ok (.ifCond .ge o, 3)) (hp : (pc : Int) + o = (pc' : Int)) (hp' : pc + 3 = pc'') (KT : ¬ x < 0 → own_G p e below E (T.setTop (mkF m pc' Ls st))) (KF : x < 0 → own_G p e below E (T.setTop (mkF m pc'' Ls st))) : own_G p e below E (T.setTop (mkF m pc Ls (.int x :: st))) :=
  (Decidable.em (x < 0)).elim (fun q => own_ifF pc'' Y hd (XT.i0_ge_f q) hp' (KF q)) (fun q => own_ifT pc' Y hd (XT.i0_ge_t q) hp (KT q))
theorem own_ic_ge (pc' pc'' : Nat) (Y : own_S Z y bytes maxL ret p l e R s m args below meth c T h locs cells slots) {x z : Int32} {o : Int} (hd : decode bytes pc = .ok (.if_icmp .ge o, 3)) (hp : (pc : Int) + o = (pc' : Int)) (hp' : pc + 3 = pc'') (KT : ¬ x < z → own_G p e below E (T.setTop (mkF m pc' Ls st))) (KF : x < z → own_G p e below E (T.setTop (mkF m pc'' Ls st))) : own_G p e below E (T.setTop (mkF m pc Ls (.int z :: .int x :: st))) :=
  (Decidable.em (x < z)).elim (fun q => own_icF pc'' Y hd (XT.ii_ge_f q) hp' (KF q)) (fun q => own_icT pc' Y hd (XT.ii_ge_t q) hp (KT q))
theorem own_if_gt (pc' pc'' : Nat) (Y : own_S Z y bytes maxL ret p l e R s m args below meth c T h locs cells slots) {x : Int32} {o : Int} (hd : decode bytes pc = .ok (.ifCond .gt o, 3)) (hp : (pc : Int) + o = (pc' : Int)) (hp' : pc + 3 = pc'') (KT : 0 < x → own_G p e below E (T.setTop (mkF m pc' Ls st))) (KF : ¬ 0 < x → own_G p e below E (T.setTop (mkF m pc'' Ls st))) : own_G p e below E (T.setTop (mkF m pc Ls (.int x :: st))) :=
  (Decidable.em (0 < x)).elim (fun q => own_ifT pc' Y hd (XT.i0_gt_t q) hp (KT q)) (fun q => own_ifF pc'' Y hd (XT.i0_gt_f q) hp' (KF q))
theorem own_ic_gt (pc' pc'' : Nat) (Y : own_S Z y bytes maxL ret p l e R s m args below meth c T h locs cells slots) {x z : Int32} {o : Int} (hd : decode bytes pc = .ok (.if_icmp .gt o, 3)) (hp : (pc : Int) + o = (pc' : Int)) (hp' : pc + 3 = pc'') (KT : z < x → own_G p e below E (T.setTop (mkF m pc' Ls st))) (KF : ¬ z < x → own_G p e below E (T.setTop (mkF m pc'' Ls st))) : own_G p e below E (T.setTop (mkF m pc Ls (.int z :: .int x :: st))) :=
  (Decidable.em (z < x)).elim (fun q => own_icT pc' Y hd (XT.ii_gt_t q) hp (KT q)) (fun q => own_icF pc'' Y hd (XT.ii_gt_f q) hp' (KF q))
theorem own_if_le (pc' pc'' : Nat) (Y : own_S Z y bytes maxL ret p l e R s m args below meth c T h locs cells slots) {x : Int32} {o : Int} (hd : decode bytes pc = .ok (.ifCond .le o, 3)) (hp : (pc : Int) + o = (pc' : Int)) (hp' : pc + 3 = pc'') (KT : ¬ 0 < x → own_G p e below E (T.setTop (mkF m pc' Ls st))) (KF : 0 < x → own_G p e below E (T.setTop (mkF m pc'' Ls st))) : own_G p e below E (T.setTop (mkF m pc Ls (.int x :: st))) :=
  (Decidable.em (0 < x)).elim (fun q => own_ifF pc'' Y hd (XT.i0_le_f q) hp' (KF q)) (fun q => own_ifT pc' Y hd (XT.i0_le_t q) hp (KT q))
theorem own_ic_le (pc' pc'' : Nat) (Y : own_S Z y bytes maxL ret p l e R s m args below meth c T h locs cells slots) {x z : Int32} {o : Int} (hd : decode bytes pc = .ok (.if_icmp .le o, 3)) (hp : (pc : Int) + o = (pc' : Int)) (hp' : pc + 3 = pc'') (KT : ¬ z < x → own_G p e below E (T.setTop (mkF m pc' Ls st))) (KF : z < x → own_G p e below E (T.setTop (mkF m pc'' Ls st))) : own_G p e below E (T.setTop (mkF m pc Ls (.int z :: .int x :: st))) :=
  (Decidable.em (z < x)).elim (fun q => own_icF pc'' Y hd (XT.ii_le_f q) hp' (KF q)) (fun q => own_icT pc' Y hd (XT.ii_le_t q) hp (KT q))
theorem own_acmp (pc' : Nat) (same : Bool) (Y : own_S Z y bytes maxL ret p l e R s m args below meth c T h locs cells slots) {cd : ACond} {o : Int} {x z : Value} (hd : decode bytes pc = .ok (.if_acmp cd o, 3)) (h1 : x.isRef = true) (h2 : z.isRef = true) (hq : decide (x = z) = same) (ho : 0 ≤ (pc : Int) + o) (hp : pc' = if acV cd same = true then ((pc : Int) + o).toNat else pc + 3) (K : own_G p e below E (T.setTop (mkF m pc' Ls st))) : own_G p e below E (T.setTop (mkF m pc Ls (z :: x :: st))) :=
  own_st (fun t k => Jvm.RoadKit.acmp Y.X Y.x rfl h1 h2 rfl (Y.d hd) rfl hq ho hp k) K
theorem own_ifnullT (pc' : Nat) (Y : own_S Z y bytes maxL ret p l e R s m args below meth c T h locs cells slots) {o : Int} (hd : decode bytes pc = .ok (.ifnull o, 3)) (hp : (pc : Int) + o = (pc' : Int)) (K : own_G p e below E (T.setTop (mkF m pc' Ls st))) : own_G p e below E (T.setTop (mkF m pc Ls (.null :: st))) :=
  own_st (fun t k => XS.ifnullYes Y.X.here Y.x rfl rfl (Y.d hd) rfl (own_pc hp).1 (own_pc hp).2 k) K
theorem own_ifnonnullT (pc' : Nat) (Y : own_S Z y bytes maxL ret p l e R s m args below meth c T h locs cells slots) {b : Addr} {o : Int} (hd : decode bytes pc = .ok (.ifnonnull o, 3)) (hp : (pc : Int) + o = (pc' : Int)) (K : own_G p e below E (T.setTop (mkF m pc' Ls st))) : own_G p e below E (T.setTop (mkF m pc Ls (.ref b :: st))) :=
  own_st (fun t k => XS.ifnonnullYes Y.X.here Y.x rfl rfl (Y.d hd) rfl (own_pc hp).1 (own_pc hp).2 k) K
theorem own_ifnullF (pc' : Nat) (Y : own_S Z y bytes maxL ret p l e R s m args below meth c T h locs cells slots) {b : Addr} {o : Int} (hd : decode bytes pc = .ok (.ifnull o, 3)) (hp : pc + 3 = pc') (K : own_G p e below E (T.setTop (mkF m pc' Ls st))) : own_G p e below E (T.setTop (mkF m pc Ls (.ref b :: st))) := by
  subst hp
  exact own_st (fun t k => XS.ifnullNo Y.X.here Y.x rfl (Y.d hd) rfl k) K
theorem own_ifnonnullF (pc' : Nat) (Y : own_S Z y bytes maxL ret p l e R s m args below meth c T h locs cells slots) {o : Int} (hd : decode bytes pc = .ok (.ifnonnull o, 3)) (hp : pc + 3 = pc') (K : own_G p e below E (T.setTop (mkF m pc' Ls st))) : own_G p e below E (T.setTop (mkF m pc Ls (.null :: st))) := by
  subst hp
  exact own_st (fun t k => XS.ifnonnullNo Y.X.here Y.x rfl (Y.d hd) rfl k) K
theorem own_tswIn (pc' : Nat) (Y : own_S Z y bytes maxL ret p l e R s m args below meth c T h locs cells slots) {dflt low high : Int} {offs : Array Int} {len : Nat} {o : Int} {i : Int32} (hd : decode bytes pc = .ok (.tableswitch dflt low high offs, len)) (hin : ¬ (i.toInt < low ∨ i.toInt > high)) (hoff : offs[(i.toInt - low).toNat]? = some o) (hp : (pc : Int) + o = (pc' : Int)) (K : own_G p e below E (T.setTop (mkF m pc' Ls st))) : own_G p e below E (T.setTop (mkF m pc Ls (.int i :: st))) :=
  own_st (fun t k => XS.tswIn Y.X.here Y.x rfl rfl (Y.d hd) rfl hin hoff (own_pc hp).1 (own_pc hp).2 k) K
theorem own_tswOut (pc' : Nat) (Y : own_S Z y bytes maxL ret p l e R s m args below meth c T h locs cells slots) {o low high : Int} {offs : Array Int} {len : Nat} {i : Int32} (hd : decode bytes pc = .ok (.tableswitch o low high offs, len)) (hout : i.toInt < low ∨ i.toInt > high) (hp : (pc : Int) + o = (pc' : Int)) (K : own_G p e below E (T.setTop (mkF m pc' Ls st))) : own_G p e below E (T.setTop (mkF m pc Ls (.int i :: st))) :=
  own_st (fun t k => XS.tswOut Y.X.here Y.x rfl rfl (Y.d hd) rfl hout (own_pc hp).1 (own_pc hp).2 k) K
theorem own_ldcI (pc' : Nat) (Y : own_S Z y bytes maxL ret p l e R s m args below meth c T h locs cells slots) {index : Nat} {v : Int32} (w : (Jvm.Cond.constant y.cls index v).before a0 Z = true) (hd : decode bytes pc = .ok (.ldc index, 2)) (hp : pc + 2 = pc') (K : own_G p e below E (T.setTop (mkF m pc' Ls (.int v :: st)))) : own_G p e below E (T.setTop (mkF m pc Ls st)) := by
  subst hp
  exact own_st (fun t k => Y.X.ldcInt Y.x Y.own (mvT Y.warm w) (g := mkF m pc Ls st) rfl (Y.d hd) t k) K
theorem own_ldc2J (pc' : Nat) (Y : own_S Z y bytes maxL ret p l e R s m args below meth c T h locs cells slots) {index : Nat} {v : Int64} (w : (Jvm.Cond.constantLong y.cls index v).before a0 Z = true) (hd : decode bytes pc = .ok (.ldc2_w index, 3)) (hp : pc + 3 = pc') (K : own_G p e below E (T.setTop (mkF m pc' Ls (.long v :: st)))) : own_G p e below E (T.setTop (mkF m pc Ls st)) := by
  subst hp
  exact own_st (fun t k => Y.X.ldc2Long Y.x Y.own (mvT Y.warm w) (g := mkF m pc Ls st) rfl (Y.d hd) t k) K
theorem own_getS (pc' : Nat) (Y : own_S Z y bytes maxL ret p l e R s m args below meth c T h locs cells slots) {R0 O n d host : String} {index : Nat} (w : (Jvm.Cond.fieldLink y.cls index R0 n d).before a0 Z = true ∨ (Jvm.Cond.fieldLinkNest y.cls index R0 n d host).before a0 Z = true) (via : Via Z R0 O n d) {v : Value} (F : Sta Z h O n d v) (hd : decode bytes pc = .ok (.getstatic index, 3)) (hp : pc + 3 = pc') (K : ∀ T', own_S Z y bytes maxL ret p l e R s m args below meth c T' h locs cells slots → own_G p e below E (T'.setTop (mkF m pc' Ls (v :: st)))) : own_G p e below E (T.setTop (mkF m pc Ls st)) := by
  subst hp
  obtain ⟨T', X', e', st'⟩ := getS2 Y.X Y.x Y.warm Y.own w via Y.eT F (g := mkF m pc Ls st) rfl (Y.d hd)
  exact own_st st' (K T' ⟨Y.1, X', e'⟩)
theorem own_getF (pc' : Nat) (Y : own_S Z y bytes maxL ret p l e R s m args below meth c T h locs cells slots) {R0 O n d host : String} {index : Nat} (w : (Jvm.Cond.fieldLink y.cls index R0 n d).before a0 Z = true ∨ (Jvm.Cond.fieldLinkNest y.cls index R0 n d host).before a0 Z = true) (via : Via Z R0 O n d) {a : Addr} {v : Value} (F : Fld Z h a O n d v) (hd : decode bytes pc = .ok (.getfield index, 3)) (hp : pc + 3 = pc') (K : ∀ T', own_S Z y bytes maxL ret p l e R s m args below meth c T' h locs cells slots → own_G p e below E (T'.setTop (mkF m pc' Ls (v :: st)))) : own_G p e below E (T.setTop (mkF m pc Ls (.ref a :: st))) := by
  subst hp
  obtain ⟨T', X', e', st'⟩ := getF Y.X Y.x Y.warm Y.own w via Y.eT F (g := mkF m pc Ls (.ref a :: st)) rfl rfl (Y.d hd)
  exact own_st st' (K T' ⟨Y.1, X', e'⟩)
theorem own_putF (pc' : Nat) (Y : own_S Z y bytes maxL ret p l e R s m args below meth c T h locs cells slots) {R0 O n d host : String} {index : Nat} {C : String} {kk : Nat} {ty : FieldType} (w : (Jvm.Cond.fieldLink y.cls index R0 n d).before a0 Z = true ∨ (Jvm.Cond.fieldLinkNest y.cls index R0 n d host).before a0 Z = true) (via : Via Z R0 O n d) {a : Addr} {v old : Value} (F : Fld Z h a O n d old) (EX : Exa Z h a C) (Lw : (Jvm.Cond.lays C O n d).before a0 Z = true ∨ ((Jvm.Cond.laysFinal C O n d).before a0 Z = true ∧ y.cls = O ∧ y.name = "<init>")) (wi : (Jvm.Cond.instantiable C kk).before a0 Z = true) (hty : parseFieldDescriptor d = some ty) (hn : narrow ty v = v) (hf : fits ty v = true) (hd : decode bytes pc = .ok (.putfield index, 3)) (hp : pc + 3 = pc')
    (K : ∀ T' h', own_S Z y bytes maxL ret p l e R s m args below meth c T' h' (locs ++ [⟨a, Jvm.RoadKit.slotOf Z O n d⟩]) cells slots → Wr h h' a (Jvm.RoadKit.slotOf Z O n d) v → own_G p e below E (T'.setTop (mkF m pc' Ls st))) : own_G p e below E (T.setTop (mkF m pc Ls (v :: .ref a :: st))) := by
  subst hp
  obtain ⟨T', h', X', e', W', st'⟩ := putF Y.X Y.x Y.warm Y.own w via Y.eT F EX (Lw.imp id fun q => ⟨q.1, q.2.1, Y.1.2.2.2.2.2.2.2.trans q.2.2⟩) wi hty hn hf (g := mkF m pc Ls (v :: .ref a :: st)) rfl rfl (Y.d hd)
  exact own_st st' (K T' h' ⟨Y.1, X', e'⟩ W')
theorem own_putFN (pc' : Nat) (Y : own_S Z y bytes maxL ret p l e R s m args below meth c T h locs cells slots) {R0 O n d : String} {index : Nat} {C : String} {kk : Nat} {ty : FieldType} (w : (Jvm.Cond.fieldLink y.cls index R0 n d).before a0 Z = true) (via : Via Z R0 O n d) {a : Addr} {v v' old : Value} (F : Fld Z h a O n d old) (EX : Exa Z h a C) (Lw : (Jvm.Cond.lays C O n d).before a0 Z = true ∨ ((Jvm.Cond.laysFinal C O n d).before a0 Z = true ∧ y.cls = O ∧ y.name = "<init>")) (wi : (Jvm.Cond.instantiable C kk).before a0 Z = true) (hty : parseFieldDescriptor d = some ty) (hn : narrow ty v = v') (hf : fits ty v' = true) (hd : decode bytes pc = .ok (.putfield index, 3)) (hp : pc + 3 = pc')
    (K : ∀ T' h', own_S Z y bytes maxL ret p l e R s m args below meth c T' h' (locs ++ [⟨a, Jvm.RoadKit.slotOf Z O n d⟩]) cells slots → Wr h h' a (Jvm.RoadKit.slotOf Z O n d) v' → own_G p e below E (T'.setTop (mkF m pc' Ls st))) : own_G p e below E (T.setTop (mkF m pc Ls (v :: .ref a :: st))) := by
  subst hp
  obtain ⟨T', h', X', e', W', st'⟩ := putFN Y.X Y.x Y.warm Y.own w via Y.eT F EX (Lw.imp id fun q => ⟨q.1, q.2.1, Y.1.2.2.2.2.2.2.2.trans q.2.2⟩) wi hty hn hf (g := mkF m pc Ls (v :: .ref a :: st)) rfl rfl (Y.d hd)
  exact own_st st' (K T' h' ⟨Y.1, X', e'⟩ W')
theorem own_newO (pc' : Nat) (Y : own_S Z y bytes maxL ret p l e R s m args below meth c T h locs cells slots) {C : String} {index n : Nat} (w : (Jvm.Cond.classLink y.cls index C).before a0 Z = true) (wi : (Jvm.Cond.instantiable C n).before a0 Z = true) (wz : (Jvm.Cond.initialized C).before a0 Z = true) (hd : decode bytes pc = .ok (.new index, 3)) (hc : cells + 1 ≤ R.cells) (hl : slots + n ≤ R.slots) (hp : pc + 3 = pc')
    (K : ∀ T' h' a, own_S Z y bytes maxL ret p l e R s m args below meth c T' h' locs (cells + 1) (slots + n) → a = h.size → Ext h h' → Exa Z h' a C → (∀ {O nm d : String} {ty : FieldType}, Laid Z a0 C O nm d → parseFieldDescriptor d = some ty → Fld Z h' a O nm d (defaultValue ty)) → own_G p e below E (T'.setTop (mkF m pc' Ls (.ref a :: st)))) : own_G p e below E (T.setTop (mkF m pc Ls st)) := by
  subst hp
  obtain ⟨T', h', X', e', E', A', D', -, st'⟩ := newO Y.X Y.x Y.warm Y.own w wi wz Y.eT (g := mkF m pc Ls st) rfl (Y.d hd) hc hl
  exact own_st st' (K T' h' _ ⟨Y.1, X', e'⟩ rfl E' A' D')
theorem own_initO (pc' : Nat) (Y : own_S Z y bytes maxL ret p l e R s m args below meth c T h locs cells slots) {idx : Nat} {a : Addr} (w1 : (Jvm.Cond.methodLink y.cls idx Lib.objectInit).before a0 Z = true) (w2 : (Jvm.Cond.instanceMethod Lib.objectInit).before a0 Z = true) (w3 : (Jvm.Cond.code Lib.objectInit ⟨#[0xb1]⟩ 1 none).before a0 Z = true) (hd : decode bytes pc = .ok (.invokespecial idx, 3)) (hLs : Ls.size = maxL) (hf : 1 ≤ R.frames) (hl : (st.map fun v => v.category).sum + 12 ≤ R.locals) (hp : pc + 3 = pc') (K : ∀ T', own_S Z y bytes maxL ret p l e R s m args below meth c T' h locs cells slots → own_G p e below E (T'.setTop (mkF m pc' Ls st))) : own_G p e below E (T.setTop (mkF m pc Ls (.ref a :: st))) := by
  subst hp
  obtain ⟨T', X', e', st'⟩ := initO Y.X Y.x Y.warm Y.own w1 w2 w3 Y.eT (g := mkF m pc Ls (.ref a :: st)) rfl (hLs.trans Y.1.2.2.1.symm) rfl (Y.d hd) hf (W := (st.map fun v => v.category).sum) (by show 2 * 0 + _ ≤ _; omega) hl
  exact own_st st' (K T' ⟨Y.1, X', e'⟩)
theorem own_cast (pc' : Nat) (Y : own_S Z y bytes maxL ret p l e R s m args below meth c T h locs cells slots) {K0 : String} {index : Nat} {a : Addr} (w : (Jvm.Cond.classLink y.cls index K0).before a0 Z = true) (F : Ins Z h a K0 true) (hd : decode bytes pc = .ok (.checkcast index, 3)) (hp : pc + 3 = pc') (K : ∀ T', own_S Z y bytes maxL ret p l e R s m args below meth c T' h locs cells slots → own_G p e below E (T'.setTop (mkF m pc' Ls (.ref a :: st)))) : own_G p e below E (T.setTop (mkF m pc Ls (.ref a :: st))) := by
  subst hp
  obtain ⟨T', X', e', st'⟩ := castY Y.X Y.x Y.warm Y.own w Y.eT F (g := mkF m pc Ls (.ref a :: st)) rfl rfl (Y.d hd)
  exact own_st st' (K T' ⟨Y.1, X', e'⟩)
theorem own_newP (pc' : Nat) (Y : own_S Z y bytes maxL ret p l e R s m args below meth c T h locs cells slots) {aty : ArrayType} (w : (Jvm.Cond.arrayClass (newarray.typeOf aty)).before a0 Z = true) {n : Int32} (cap : Nat) (hd : decode bytes pc = .ok (.newarray aty, 2)) (hn : ¬ n < 0) (hcap : n.toNatClampNeg ≤ cap) (hb : cap * 8 ≤ 536870912) (hc : cells + 1 ≤ R.cells) (hl : slots + cap ≤ R.slots) (hp : pc + 2 = pc')
    (K : ∀ T' h' a kA, own_S Z y bytes maxL ret p l e R s m args below meth c T' h' locs (cells + 1) (slots + cap) → a = h.size → Ext h h' → Arv Z h' a kA (newarray.typeOf aty) n [] (defaultValue (newarray.typeOf aty)) → own_G p e below E (T'.setTop (mkF m pc' Ls (.ref a :: st)))) : own_G p e below E (T.setTop (mkF m pc Ls (.int n :: st))) := by
  subst hp
  obtain ⟨T', h', kA, X', e', E', A', st'⟩ := newP Y.X Y.x Y.warm w Y.eT (g := mkF m pc Ls (.int n :: st)) rfl (Y.d hd) rfl hn (cap := cap) hcap hb hc hl
  exact own_st st' (K T' h' _ kA ⟨Y.1, X', e'⟩ rfl E' (Arv.new A' hn))
theorem own_newR (pc' : Nat) (Y : own_S Z y bytes maxL ret p l e R s m args below meth c T h locs cells slots) {C : String} {index : Nat} (w1 : (Jvm.Cond.classLink y.cls index C).before a0 Z = true) (w2 : (Jvm.Cond.arrayOver (.object C)).before a0 Z = true) {n : Int32} (cap : Nat) (hd : decode bytes pc = .ok (.anewarray index, 3)) (hn : ¬ n < 0) (hcap : n.toNatClampNeg ≤ cap) (hb : cap * 8 ≤ 536870912) (hc : cells + 1 ≤ R.cells) (hl : slots + cap ≤ R.slots) (hp : pc + 3 = pc')
    (K : ∀ T' h' a kA, own_S Z y bytes maxL ret p l e R s m args below meth c T' h' locs (cells + 1) (slots + cap) → a = h.size → Ext h h' → Arv Z h' a kA (.object C) n [] .null → Ovr Z kA C → own_G p e below E (T'.setTop (mkF m pc' Ls (.ref a :: st)))) : own_G p e below E (T.setTop (mkF m pc Ls (.int n :: st))) := by
  subst hp
  obtain ⟨T', h', kA, X', e', E', A', O', st'⟩ := newR Y.X Y.x Y.warm Y.own w1 w2 Y.eT (g := mkF m pc Ls (.int n :: st)) rfl (Y.d hd) rfl hn (cap := cap) hcap hb hc hl
  exact own_st st' (K T' h' _ kA ⟨Y.1, X', e'⟩ rfl E' (Arv.new A' hn) O')
theorem own_stC (pc' : Nat) (Y : own_S Z y bytes maxL ret p l e R s m args below meth c T h locs cells slots) {a : Addr} {kA : ClassId} {n j : Int32} {vs : List Value} {dv : Value} {x : Int32} (A : Arv Z h a kA .char n vs dv) (hd : decode bytes pc = .ok (.castore, 1)) (hj : ¬ j < 0 ∧ j < n) (hp : pc + 1 = pc')
    (K : ∀ T' h', own_S Z y bytes maxL ret p l e R s m args below meth c T' h' (locs ++ [⟨a, j.toNatClampNeg⟩]) cells slots → Wr h h' a j.toNatClampNeg (.int (nar .char x)) → (∀ (i : Nat), j.toNatClampNeg = i → i < vs.length → fits .char (.int (nar .char x)) = true → Arv Z h' a kA .char n (vs.set i (.int (nar .char x))) dv) → own_G p e below E (T'.setTop (mkF m pc' Ls st))) : own_G p e below E (T.setTop (mkF m pc Ls (.int x :: .int j :: .ref a :: st))) := by
  subst hp
  obtain ⟨cl, A1, q1, q2, q3, q4, q5⟩ := A
  obtain ⟨T', h', X', e', W', st'⟩ := stC Y.X Y.x Y.warm Y.eT A1 (j := j) (inb_of q2 hj) (g := mkF m pc Ls (.int x :: .int j :: .ref a :: st)) rfl rfl (Y.d hd)
  exact own_st st' (K T' h' ⟨Y.1, X', e'⟩ W' fun i hi hl hf => Arv.set A1 q1 q2 q3 q4 q5 hf W' i hi hl)
theorem own_stI (pc' : Nat) (Y : own_S Z y bytes maxL ret p l e R s m args below meth c T h locs cells slots) {a : Addr} {kA : ClassId} {n j : Int32} {vs : List Value} {dv : Value} {x : Int32} (A : Arv Z h a kA .int n vs dv) (hd : decode bytes pc = .ok (.iastore, 1)) (hj : ¬ j < 0 ∧ j < n) (hp : pc + 1 = pc')
    (K : ∀ T' h', own_S Z y bytes maxL ret p l e R s m args below meth c T' h' (locs ++ [⟨a, j.toNatClampNeg⟩]) cells slots → Wr h h' a j.toNatClampNeg (.int x) → (∀ (i : Nat), j.toNatClampNeg = i → i < vs.length → fits .int (.int x) = true → Arv Z h' a kA .int n (vs.set i (.int x)) dv) → own_G p e below E (T'.setTop (mkF m pc' Ls st))) : own_G p e below E (T.setTop (mkF m pc Ls (.int x :: .int j :: .ref a :: st))) := by
  subst hp
  obtain ⟨cl, A1, q1, q2, q3, q4, q5⟩ := A
  obtain ⟨T', h', X', e', W', st'⟩ := stI Y.X Y.x Y.warm Y.eT A1 (j := j) (inb_of q2 hj) (g := mkF m pc Ls (.int x :: .int j :: .ref a :: st)) rfl rfl (Y.d hd)
  exact own_st st' (K T' h' ⟨Y.1, X', e'⟩ W' fun i hi hl hf => Arv.set A1 q1 q2 q3 q4 q5 hf W' i hi hl)
theorem own_stB (pc' : Nat) (Y : own_S Z y bytes maxL ret p l e R s m args below meth c T h locs cells slots) {a : Addr} {kA : ClassId} {n j : Int32} {vs : List Value} {dv : Value} {x : Int32} (A : Arv Z h a kA .byte n vs dv) (hd : decode bytes pc = .ok (.bastore, 1)) (hj : ¬ j < 0 ∧ j < n) (hp : pc + 1 = pc')
    (K : ∀ T' h', own_S Z y bytes maxL ret p l e R s m args below meth c T' h' (locs ++ [⟨a, j.toNatClampNeg⟩]) cells slots → Wr h h' a j.toNatClampNeg (.int (nar .byte x)) → (∀ (i : Nat), j.toNatClampNeg = i → i < vs.length → fits .byte (.int (nar .byte x)) = true → Arv Z h' a kA .byte n (vs.set i (.int (nar .byte x))) dv) → own_G p e below E (T'.setTop (mkF m pc' Ls st))) : own_G p e below E (T.setTop (mkF m pc Ls (.int x :: .int j :: .ref a :: st))) := by
  subst hp
  obtain ⟨cl, A1, q1, q2, q3, q4, q5⟩ := A
  obtain ⟨T', h', X', e', W', st'⟩ := stB Y.X Y.x Y.warm Y.eT A1 (j := j) (inb_of q2 hj) (g := mkF m pc Ls (.int x :: .int j :: .ref a :: st)) rfl rfl (Y.d hd)
  exact own_st st' (K T' h' ⟨Y.1, X', e'⟩ W' fun i hi hl hf => Arv.set A1 q1 q2 q3 q4 q5 hf W' i hi hl)
theorem own_stJ (pc' : Nat) (Y : own_S Z y bytes maxL ret p l e R s m args below meth c T h locs cells slots) {a : Addr} {kA : ClassId} {n j : Int32} {vs : List Value} {dv : Value} {x : Int64} (A : Arv Z h a kA .long n vs dv) (hd : decode bytes pc = .ok (.lastore, 1)) (hj : ¬ j < 0 ∧ j < n) (hp : pc + 1 = pc')
    (K : ∀ T' h', own_S Z y bytes maxL ret p l e R s m args below meth c T' h' (locs ++ [⟨a, j.toNatClampNeg⟩]) cells slots → Wr h h' a j.toNatClampNeg (.long x) → (∀ (i : Nat), j.toNatClampNeg = i → i < vs.length → fits .long (.long x) = true → Arv Z h' a kA .long n (vs.set i (.long x)) dv) → own_G p e below E (T'.setTop (mkF m pc' Ls st))) : own_G p e below E (T.setTop (mkF m pc Ls (.long x :: .int j :: .ref a :: st))) := by
  subst hp
  obtain ⟨cl, A1, q1, q2, q3, q4, q5⟩ := A
  obtain ⟨T', h', X', e', W', st'⟩ := stJ Y.X Y.x Y.warm Y.eT A1 (j := j) (inb_of q2 hj) (g := mkF m pc Ls (.long x :: .int j :: .ref a :: st)) rfl rfl (Y.d hd)
  exact own_st st' (K T' h' ⟨Y.1, X', e'⟩ W' fun i hi hl hf => Arv.set A1 q1 q2 q3 q4 q5 hf W' i hi hl)
theorem own_stR (pc' : Nat) (Y : own_S Z y bytes maxL ret p l e R s m args below meth c T h locs cells slots) {a : Addr} {kA : ClassId} {n j : Int32} {vs : List Value} {dv : Value} {v : Value} {ty : FieldType} (A : Arv Z h a kA ty n vs dv) (hty : ty.isReference = true) (F : Sto Z h a v) (hfit : fits ty v = true) (hd : decode bytes pc = .ok (.aastore, 1)) (hj : ¬ j < 0 ∧ j < n) (hp : pc + 1 = pc')
    (K : ∀ T' h', own_S Z y bytes maxL ret p l e R s m args below meth c T' h' (locs ++ [⟨a, j.toNatClampNeg⟩]) cells slots → Wr h h' a j.toNatClampNeg v → (∀ (i : Nat), j.toNatClampNeg = i → i < vs.length → Arv Z h' a kA ty n (vs.set i v) dv) → own_G p e below E (T'.setTop (mkF m pc' Ls st))) : own_G p e below E (T.setTop (mkF m pc Ls (v :: .int j :: .ref a :: st))) := by
  subst hp
  obtain ⟨cl, A1, q1, q2, q3, q4, q5⟩ := A
  obtain ⟨T', h', X', e', W', st'⟩ := stR Y.X Y.x Y.warm Y.eT A1 (j := j) (inb_of q2 hj) hty F (g := mkF m pc Ls (v :: .int j :: .ref a :: st)) rfl rfl (Y.d hd)
  exact own_st st' (K T' h' ⟨Y.1, X', e'⟩ W' fun i hi hl => Arv.set A1 q1 q2 q3 q4 q5 hfit W' i hi hl)
theorem own_caload (pc' : Nat) (Y : own_S Z y bytes maxL ret p l e R s m args below meth c T h locs cells slots) {a : Addr} {kA : ClassId} {n j : Int32} {vs : List Value} {dv : Value} (A : Arv Z h a kA .char n vs dv) {v : Value} (hd : decode bytes pc = .ok (.caload, 1)) (hj : ¬ j < 0 ∧ j < n) (hv : vs.getD j.toNatClampNeg dv = v) (hp : pc + 1 = pc') (K : own_G p e below E (T.setTop (mkF m pc' Ls (v :: st)))) : own_G p e below E (T.setTop (mkF m pc Ls (.int j :: .ref a :: st))) := by
  subst hp
  obtain ⟨cl, A1, q1, q2, q3, q4, q5⟩ := A
  exact own_st (fun t k => Y.X.caload Y.x (j := j) (v := v) (by rw [Y.eT]; exact A1.1) (State.isArrayOf_alike Y.warm.alike A1.2.1) A1.2.2 (inb_of q2 hj) (q4.at (inb_of q2 hj) hv) (g := mkF m pc Ls (.int j :: .ref a :: st)) rfl rfl (Y.d hd) t k) K
theorem own_iaload (pc' : Nat) (Y : own_S Z y bytes maxL ret p l e R s m args below meth c T h locs cells slots) {a : Addr} {kA : ClassId} {n j : Int32} {vs : List Value} {dv : Value} (A : Arv Z h a kA .int n vs dv) {v : Value} (hd : decode bytes pc = .ok (.iaload, 1)) (hj : ¬ j < 0 ∧ j < n) (hv : vs.getD j.toNatClampNeg dv = v) (hp : pc + 1 = pc') (K : own_G p e below E (T.setTop (mkF m pc' Ls (v :: st)))) : own_G p e below E (T.setTop (mkF m pc Ls (.int j :: .ref a :: st))) := by
  subst hp
  obtain ⟨cl, A1, q1, q2, q3, q4, q5⟩ := A
  exact own_st (fun t k => Y.X.iaload Y.x (j := j) (v := v) (by rw [Y.eT]; exact A1.1) (State.isArrayOf_alike Y.warm.alike A1.2.1) A1.2.2 (inb_of q2 hj) (q4.at (inb_of q2 hj) hv) (g := mkF m pc Ls (.int j :: .ref a :: st)) rfl rfl (Y.d hd) t k) K
theorem own_baload (pc' : Nat) (Y : own_S Z y bytes maxL ret p l e R s m args below meth c T h locs cells slots) {a : Addr} {kA : ClassId} {n j : Int32} {vs : List Value} {dv : Value} (A : Arv Z h a kA .byte n vs dv) {v : Value} (hd : decode bytes pc = .ok (.baload, 1)) (hj : ¬ j < 0 ∧ j < n) (hv : vs.getD j.toNatClampNeg dv = v) (hp : pc + 1 = pc') (K : own_G p e below E (T.setTop (mkF m pc' Ls (v :: st)))) : own_G p e below E (T.setTop (mkF m pc Ls (.int j :: .ref a :: st))) := by
  subst hp
  obtain ⟨cl, A1, q1, q2, q3, q4, q5⟩ := A
  exact own_st (fun t k => Y.X.baloadBytes Y.x (j := j) (v := v) (by rw [Y.eT]; exact A1.1) (State.isArrayOf_alike Y.warm.alike A1.2.1) A1.2.2 (inb_of q2 hj) (q4.at (inb_of q2 hj) hv) (g := mkF m pc Ls (.int j :: .ref a :: st)) rfl rfl (Y.d hd) t k) K
theorem own_laload (pc' : Nat) (Y : own_S Z y bytes maxL ret p l e R s m args below meth c T h locs cells slots) {a : Addr} {kA : ClassId} {n j : Int32} {vs : List Value} {dv : Value} (A : Arv Z h a kA .long n vs dv) {v : Value} (hd : decode bytes pc = .ok (.laload, 1)) (hj : ¬ j < 0 ∧ j < n) (hv : vs.getD j.toNatClampNeg dv = v) (hp : pc + 1 = pc') (K : own_G p e below E (T.setTop (mkF m pc' Ls (v :: st)))) : own_G p e below E (T.setTop (mkF m pc Ls (.int j :: .ref a :: st))) := by
  subst hp
  obtain ⟨cl, A1, q1, q2, q3, q4, q5⟩ := A
  exact own_st (fun t k => Y.X.laload Y.x (j := j) (v := v) (by rw [Y.eT]; exact A1.1) (State.isArrayOf_alike Y.warm.alike A1.2.1) A1.2.2 (inb_of q2 hj) (q4.at (inb_of q2 hj) hv) (g := mkF m pc Ls (.int j :: .ref a :: st)) rfl rfl (Y.d hd) t k) K
theorem own_aaload (pc' : Nat) (Y : own_S Z y bytes maxL ret p l e R s m args below meth c T h locs cells slots) {a : Addr} {kA : ClassId} {n j : Int32} {vs : List Value} {dv : Value} {ty : FieldType} (A : Arv Z h a kA ty n vs dv) (hty : ty.isReference = true) {v : Value} (hd : decode bytes pc = .ok (.aaload, 1)) (hj : ¬ j < 0 ∧ j < n) (hv : vs.getD j.toNatClampNeg dv = v) (hp : pc + 1 = pc') (K : own_G p e below E (T.setTop (mkF m pc' Ls (v :: st)))) : own_G p e below E (T.setTop (mkF m pc Ls (.int j :: .ref a :: st))) := by
  subst hp
  obtain ⟨cl, A1, q1, q2, q3, q4, q5⟩ := A
  exact own_st (fun t k => Y.X.aaload Y.x (j := j) (v := v) (by rw [Y.eT]; exact A1.1) (State.isArrayOf_alike Y.warm.alike A1.2.1) hty A1.2.2 (inb_of q2 hj) (q4.at (inb_of q2 hj) hv) (g := mkF m pc Ls (.int j :: .ref a :: st)) rfl rfl (Y.d hd) t k) K
theorem own_alen (pc' : Nat) (Y : own_S Z y bytes maxL ret p l e R s m args below meth c T h locs cells slots) {a : Addr} {kA : ClassId} {n : Int32} {vs : List Value} {dv : Value} {ty : FieldType} (A : Arv Z h a kA ty n vs dv) (hd : decode bytes pc = .ok (.arraylength, 1)) (hp : pc + 1 = pc') (K : own_G p e below E (T.setTop (mkF m pc' Ls (.int n :: st)))) : own_G p e below E (T.setTop (mkF m pc Ls (.ref a :: st))) := by
  subst hp
  obtain ⟨cl, A1, q1, q2, q3, q4, q5⟩ := A
  refine own_st (fun t k => Y.X.arraylength Y.x (by rw [Y.eT]; exact A1.1) (State.isArrayOf_alike Y.warm.alike A1.2.1) (g := mkF m pc Ls (.ref a :: st)) rfl rfl (Y.d hd) t k) ?_
  rw [len_of q2 q3]
  exact K
theorem own_callS (pc' : Nat) (Y : own_S Z y bytes maxL ret p l e R s m args below meth c T h locs cells slots) {yc : MethodName} {bc : ByteArray} {mc : Nat} {rc : Option FieldType} {rm : Room} {index : Nat} {Qc : Option Value → Heap → List Loc → Prop} (argsL rest : List Value) (w1 : (Jvm.Cond.methodLink y.cls index yc).before a0 Z = true) (w2 : (Jvm.Cond.static yc).before a0 Z = true) (w3 : (Jvm.Cond.initialized yc.cls).before a0 Z = true) (w4 : (Jvm.Cond.code yc bc mc rc).before a0 Z = true) (hM : own_M l yc bc mc rc [] rm Z argsL.toArray h Qc) (hd : decode bytes pc = .ok (.invokestatic index, 3)) (hy : (yc.cls ≠ "java/lang/invoke/MethodHandle" ∧ yc.cls ≠ "java/lang/invoke/VarHandle")) (hlen : ∀ sig, parseMethodDescriptor yc.desc = some sig → argsL.length = sig.parameters.length) (hst : st = argsL.reverse ++ rest) (hLs : Ls.size = maxL) (hf : rm.frames + 1 ≤ R.frames) (hl : (rest.map fun v => v.category).sum + (mc + 11) + rm.locals ≤ R.locals) (hc : cells + rm.cells ≤ R.cells) (hs : slots + rm.slots ≤ R.slots) (hp : pc + 3 = pc')
    (K : ∀ v T' h' L, own_S Z y bytes maxL ret p l e R s m args below meth c T' h' (locs ++ L) (cells + rm.cells) (slots + rm.slots) → Qc v h' L → own_G p e below E (T'.setTop (mkF m pc' Ls (v.toList ++ rest)))) : own_G p e below E (T.setTop (mkF m pc Ls st)) := by
  subst hp
  obtain ⟨v, _, ⟨T', L', k', n'⟩, -, X', P', st'⟩ := Jvm.LawKit.callS Y.X Y.x (y := yc) Y.own (mvT Y.warm w1) (mvT Y.warm w2) (mvT Y.warm w3) (mvT Y.warm w4) hy (backOf (W := (rest.map fun v => v.category).sum) hM Y.warm w4 w3 hf hl) (g := mkF m pc Ls st) rfl (hLs.trans Y.1.2.2.1.symm) (argsL := argsL) (rest := rest) hlen hst (by show 2 * 0 + _ ≤ _; omega) (Y.d hd) (fun _ _ => ⟨rfl, Y.eT, hc, hs⟩)
  obtain ⟨Lc, hQ, l1, y1, z1⟩ := P'
  dsimp only [Pt.U, Pt.locs, Pt.cells, Pt.slots] at l1 y1 z1 hQ
  dsimp only [Pt.U, Pt.locs, Pt.cells, Pt.slots] at X' st'
  subst l1 y1 z1
  exact own_st st' (K v T' T'.heap Lc ⟨Y.1, X', rfl⟩ hQ)
theorem own_callI (pc' : Nat) (Y : own_S Z y bytes maxL ret p l e R s m args below meth c T h locs cells slots) {yc : MethodName} {bc : ByteArray} {mc : Nat} {rm : Room} {index : Nat} {Qc : Option Value → Heap → List Loc → Prop} (argsL rest : List Value) {a : Addr} (hini : yc.name = "<init>") (w1 : (Jvm.Cond.methodLink y.cls index yc).before a0 Z = true) (w2 : (Jvm.Cond.instanceMethod yc).before a0 Z = true) (w3 : (Jvm.Cond.initialized yc.cls).before a0 Z = true) (w4 : (Jvm.Cond.code yc bc mc none).before a0 Z = true) (hM : own_M l yc bc mc none [] rm Z (.ref a :: argsL).toArray h Qc) (hd : decode bytes pc = .ok (.invokespecial index, 3)) (hy : (yc.cls ≠ "java/lang/invoke/MethodHandle" ∧ yc.cls ≠ "java/lang/invoke/VarHandle")) (hlen : ∀ sig, parseMethodDescriptor yc.desc = some sig → argsL.length = sig.parameters.length) (hst : st = argsL.reverse ++ .ref a :: rest) (hLs : Ls.size = maxL) (hf : rm.frames + 1 ≤ R.frames) (hl : (rest.map fun v => v.category).sum + (mc + 11) + rm.locals ≤ R.locals) (hc : cells + rm.cells ≤ R.cells) (hs : slots + rm.slots ≤ R.slots) (hp : pc + 3 = pc')
    (K : ∀ v T' h' L, own_S Z y bytes maxL ret p l e R s m args below meth c T' h' (locs ++ L) (cells + rm.cells) (slots + rm.slots) → Qc v h' L → own_G p e below E (T'.setTop (mkF m pc' Ls (v.toList ++ rest)))) : own_G p e below E (T.setTop (mkF m pc Ls st)) := by
  subst hp
  obtain ⟨v, _, ⟨T', L', k', n'⟩, -, X', P', st'⟩ := Y.X.specialBack Y.x (y := yc) hini Y.own (mvT Y.warm w1) (mvT Y.warm w2) (mvT Y.warm w4) hy (backOf (W := (rest.map fun v => v.category).sum) hM Y.warm w4 w3 hf hl) (g := mkF m pc Ls st) rfl (hLs.trans Y.1.2.2.1.symm) (Steps.refl _) (a := a) (argsL := argsL) (rest := rest) hlen hst (by show 2 * 0 + _ ≤ _; omega) (Y.d hd) (fun _ _ => ⟨rfl, Y.eT, hc, hs⟩)
  obtain ⟨Lc, hQ, l1, y1, z1⟩ := P'
  dsimp only [Pt.U, Pt.locs, Pt.cells, Pt.slots] at l1 y1 z1 hQ
  dsimp only [Pt.U, Pt.locs, Pt.cells, Pt.slots] at X' st'
  subst l1 y1 z1
  exact own_st (fun t k => st'.trans k) (K v T' T'.heap Lc ⟨Y.1, X', rfl⟩ hQ)
theorem own_callV (pc' : Nat) (Y : own_S Z y bytes maxL ret p l e R s m args below meth c T h locs cells slots) {yc : MethodName} {bc : ByteArray} {mc : Nat} {rc : Option FieldType} {rm : Room} {index : Nat} {Qc : Option Value → Heap → List Loc → Prop} {yr : MethodName} {C : String} (argsL rest : List Value) {a : Addr} (EX : Exa Z h a C) (w1 : (Jvm.Cond.methodLink y.cls index yr).before a0 Z = true) (wd : (Jvm.Cond.declares yr).before a0 Z = true) (nf : NotFace s yr) (ws : (Jvm.Cond.selects C yr yc).before a0 Z = true) (w2 : (Jvm.Cond.instanceMethod yc).before a0 Z = true) (w3 : (Jvm.Cond.initialized yc.cls).before a0 Z = true) (w4 : (Jvm.Cond.code yc bc mc rc).before a0 Z = true) (hM : own_M l yc bc mc rc [] rm Z (.ref a :: argsL).toArray h Qc) (hd : decode bytes pc = .ok (.invokevirtual index, 3)) (hy : (yr.cls ≠ "java/lang/invoke/MethodHandle" ∧ yr.cls ≠ "java/lang/invoke/VarHandle")) (hlen : ∀ sig, parseMethodDescriptor yr.desc = some sig → argsL.length = sig.parameters.length) (hst : st = argsL.reverse ++ .ref a :: rest) (hLs : Ls.size = maxL) (hf : rm.frames + 1 ≤ R.frames) (hl : (rest.map fun v => v.category).sum + (mc + 11) + rm.locals ≤ R.locals) (hc : cells + rm.cells ≤ R.cells) (hs : slots + rm.slots ≤ R.slots) (hp : pc + 3 = pc')
    (K : ∀ v T' h' L, own_S Z y bytes maxL ret p l e R s m args below meth c T' h' (locs ++ L) (cells + rm.cells) (slots + rm.slots) → Qc v h' L → own_G p e below E (T'.setTop (mkF m pc' Ls (v.toList ++ rest)))) : own_G p e below E (T.setTop (mkF m pc Ls st)) := by
  subst hp
  obtain ⟨cq, kq, qa, qb, qc⟩ := isOf Y.warm Y.eT EX
  obtain ⟨v, _, ⟨T', L', k', n'⟩, -, X', P', st'⟩ := Y.X.virtualBack Y.x (y := yr) (z := yc) Y.own (mvT Y.warm w1) (mvT Y.warm wd) nf (mvT Y.warm ws) (mvT Y.warm w2) hy (backOf (W := (rest.map fun v => v.category).sum) hM Y.warm w4 w3 hf hl) qa qc (g := mkF m pc Ls st) rfl (hLs.trans Y.1.2.2.1.symm) (Steps.refl _) (argsL := argsL) (rest := rest) hlen hst (by show 2 * 0 + _ ≤ _; omega) (Y.d hd) (fun _ _ => ⟨rfl, Y.eT, hc, hs⟩)
  obtain ⟨Lc, hQ, l1, y1, z1⟩ := P'
  dsimp only [Pt.U, Pt.locs, Pt.cells, Pt.slots] at l1 y1 z1 hQ
  dsimp only [Pt.U, Pt.locs, Pt.cells, Pt.slots] at X' st'
  subst l1 y1 z1
  exact own_st (fun t k => st'.trans k) (K v T' T'.heap Lc ⟨Y.1, X', rfl⟩ hQ)
theorem own_callUp (pc' : Nat) (Y : own_S Z y bytes maxL ret p l e R s m args below meth c T h locs cells slots) {yc : MethodName} {bc : ByteArray} {mc : Nat} {rc : Option FieldType} {rm : Room} {index : Nat} {Qc : Option Value → Heap → List Loc → Prop} {yr : MethodName} {C owner : String} (argsL rest : List Value) {a : Addr} (EX : Exa Z h a C) (w1 : (Jvm.Cond.methodLink y.cls index yr).before a0 Z = true) (wm : (Jvm.Cond.sameMethod yr.cls owner yr.name yr.desc).before a0 Z = true) (wd : (Jvm.Cond.declares ⟨owner, yr.name, yr.desc⟩).before a0 Z = true) (ws : (Jvm.Cond.selects C yr yc).before a0 Z = true) (w2 : (Jvm.Cond.instanceMethod yc).before a0 Z = true) (w3 : (Jvm.Cond.initialized yc.cls).before a0 Z = true) (w4 : (Jvm.Cond.code yc bc mc rc).before a0 Z = true) (hM : own_M l yc bc mc rc [] rm Z (.ref a :: argsL).toArray h Qc) (hd : decode bytes pc = .ok (.invokevirtual index, 3)) (hy : owner ≠ "java/lang/invoke/MethodHandle" ∧ owner ≠ "java/lang/invoke/VarHandle") (hlen : ∀ sig, parseMethodDescriptor yr.desc = some sig → argsL.length = sig.parameters.length) (hst : st = argsL.reverse ++ .ref a :: rest) (hLs : Ls.size = maxL) (hf : rm.frames + 1 ≤ R.frames) (hl : (rest.map fun v => v.category).sum + (mc + 11) + rm.locals ≤ R.locals) (hc : cells + rm.cells ≤ R.cells) (hs : slots + rm.slots ≤ R.slots) (hp : pc + 3 = pc')
    (K : ∀ v T' h' L, own_S Z y bytes maxL ret p l e R s m args below meth c T' h' (locs ++ L) (cells + rm.cells) (slots + rm.slots) → Qc v h' L → own_G p e below E (T'.setTop (mkF m pc' Ls (v.toList ++ rest)))) : own_G p e below E (T.setTop (mkF m pc Ls st)) := by
  subst hp
  obtain ⟨cq, kq, qa, qb, qc⟩ := isOf Y.warm Y.eT EX
  obtain ⟨v, _, ⟨T', L', k', n'⟩, -, X', P', st'⟩ := Y.X.virtualBackUp Y.x (x := yr) (y := yc) Y.own (mvT Y.warm w1) (mvT Y.warm wm) (mvT Y.warm wd) hy (mvT Y.warm ws) (mvT Y.warm w2) (backOf (W := (rest.map fun v => v.category).sum) hM Y.warm w4 w3 hf hl) qa qc (g := mkF m pc Ls st) rfl (hLs.trans Y.1.2.2.1.symm) (Steps.refl _) (argsL := argsL) (rest := rest) hlen hst (by show 2 * 0 + _ ≤ _; omega) (Y.d hd) (fun _ _ => ⟨rfl, Y.eT, hc, hs⟩)
  obtain ⟨Lc, hQ, l1, y1, z1⟩ := P'
  dsimp only [Pt.U, Pt.locs, Pt.cells, Pt.slots] at l1 y1 z1 hQ
  dsimp only [Pt.U, Pt.locs, Pt.cells, Pt.slots] at X' st'
  subst l1 y1 z1
  exact own_st (fun t k => st'.trans k) (K v T' T'.heap Lc ⟨Y.1, X', rfl⟩ hQ)
theorem own_natS (pc' : Nat) (Y : own_S Z y bytes maxL ret p l e R s m args below meth c T h locs cells slots) {yc : MethodName} {bc : ByteArray} {mc : Nat} {rc : Option FieldType} {index : Nat} {val : Value} {F : Array Value → Prop} (argsL rest : List Value) (w1 : (Jvm.Cond.methodLink y.cls index yc).before a0 Z = true) (w2 : (Jvm.Cond.static yc).before a0 Z = true) (w3 : (Jvm.Cond.initialized yc.cls).before a0 Z = true) (w4 : (Jvm.Cond.code yc bc mc rc).before a0 Z = true) (hK : (Jvm.Cond.code yc bc mc rc).before args s = true → Back l R p e below s args yc 3 (rest.map fun v => v.category).sum (fun A a' => A.cells ≤ R.cells ∧ A.slots ≤ R.slots ∧ F a') (fun A _ v B => v = some val ∧ B = A)) (hF : F argsL.toArray) (hd : decode bytes pc = .ok (.invokestatic index, 3)) (hy : (yc.cls ≠ "java/lang/invoke/MethodHandle" ∧ yc.cls ≠ "java/lang/invoke/VarHandle")) (hlen : ∀ sig, parseMethodDescriptor yc.desc = some sig → argsL.length = sig.parameters.length) (hst : st = argsL.reverse ++ rest) (hLs : Ls.size = maxL) (hc : cells ≤ R.cells) (hs : slots ≤ R.slots) (hp : pc + 3 = pc') (K : ∀ T', own_S Z y bytes maxL ret p l e R s m args below meth c T' h locs cells slots → own_G p e below E (T'.setTop (mkF m pc' Ls (val :: rest)))) : own_G p e below E (T.setTop (mkF m pc Ls st)) := by
  subst hp
  obtain ⟨T', X', e', st'⟩ := natS Y.X Y.x Y.warm Y.own w1 w2 w3 w4 hy Y.eT hK (g := mkF m pc Ls st) rfl (hLs.trans Y.1.2.2.1.symm) (argsL := argsL) (rest := rest) hlen hst (by show 2 * 0 + _ ≤ _; omega) (Y.d hd) hc hs hF rfl
  exact own_st st' (K T' ⟨Y.1, X', e'⟩)
theorem own_ret (Y : own_S Z y bytes maxL ret p l e R s m args below meth c T h locs cells slots) {w : Value} {t : FieldType} {i : Instr} (hn : narrow t w = w)
    (hi : (i = .ireturn ∧ (t = .int ∨ t = .boolean ∨ t = .byte ∨ t = .char ∨ t = .short) ∧ ∃ z, w = .int z) ∨ (i = .lreturn ∧ t = .long ∧ ∃ z, w = .long z) ∨ (i = .dreturn ∧ t = .double ∧ ∃ z, w = .double z) ∨ (i = .freturn ∧ t = .float ∧ ∃ z, w = .float z) ∨ (i = .areturn ∧ t.isReference = true ∧ w.isRef = true))
    (hret : ret = some t) (hd : decode bytes pc = .ok (i, 1)) (hc : cells ≤ kc) (hs : slots ≤ ks) (hq : Q (some w) h locs) : own_G p e below (own_E s Q kc ks) (T.setTop (mkF m pc Ls (w :: st))) := by
  obtain ⟨⟨hx, hby, hml, hown, hZ, hr0, hlk, hnm⟩, X, eT⟩ := Y
  subst eT
  obtain ⟨fs, hr, hrun, hended, hW, hsame⟩ := X.leave (v := some w) (fun q => by rw [hr0, hret] at q; cases q) hlk
  exact ⟨_, _, retOut X hx (hr0.trans hret) hn hi (hb hby hd) hr, hrun, hended, _, _, rfl, hq, ⟨_, rfl⟩, hW, hsame.mono hc hs⟩
theorem own_retI (Y : own_S Z y bytes maxL ret p l e R s m args below meth c T h locs cells slots) {z : Int32} (hret : ret = some .int) (hd : decode bytes pc = .ok (.ireturn, 1)) (hc : cells ≤ kc) (hs : slots ≤ ks) (hq : Q (some (.int z)) h locs) : own_G p e below (own_E s Q kc ks) (T.setTop (mkF m pc Ls (.int z :: st))) := own_ret Y rfl (Or.inl ⟨rfl, Or.inl rfl, _, rfl⟩) hret hd hc hs hq
theorem own_retL (Y : own_S Z y bytes maxL ret p l e R s m args below meth c T h locs cells slots) {z : Int64} (hret : ret = some .long) (hd : decode bytes pc = .ok (.lreturn, 1)) (hc : cells ≤ kc) (hs : slots ≤ ks) (hq : Q (some (.long z)) h locs) : own_G p e below (own_E s Q kc ks) (T.setTop (mkF m pc Ls (.long z :: st))) := own_ret Y rfl (Or.inr (Or.inl ⟨rfl, rfl, _, rfl⟩)) hret hd hc hs hq
theorem own_retD (Y : own_S Z y bytes maxL ret p l e R s m args below meth c T h locs cells slots) {z : UInt64} (hret : ret = some .double) (hd : decode bytes pc = .ok (.dreturn, 1)) (hc : cells ≤ kc) (hs : slots ≤ ks) (hq : Q (some (.double z)) h locs) : own_G p e below (own_E s Q kc ks) (T.setTop (mkF m pc Ls (.double z :: st))) := own_ret Y rfl (Or.inr (Or.inr (Or.inl ⟨rfl, rfl, _, rfl⟩))) hret hd hc hs hq
theorem own_retA (Y : own_S Z y bytes maxL ret p l e R s m args below meth c T h locs cells slots) {w : Value} {t : FieldType} (hret : ret = some t) (ht : t.isReference = true) (hw : w.isRef = true) (hd : decode bytes pc = .ok (.areturn, 1)) (hc : cells ≤ kc) (hs : slots ≤ ks) (hq : Q (some w) h locs) : own_G p e below (own_E s Q kc ks) (T.setTop (mkF m pc Ls (w :: st))) := own_ret Y (by cases t <;> first | rfl | (cases ht; done)) (Or.inr (Or.inr (Or.inr (Or.inr ⟨rfl, ht, hw⟩)))) hret hd hc hs hq
theorem own_retN (Y : own_S Z y bytes maxL ret p l e R s m args below meth c T h locs cells slots) {z : Int32} {t : FieldType} (hret : ret = some t) (ht : t = .boolean ∨ t = .byte ∨ t = .char ∨ t = .short) (hd : decode bytes pc = .ok (.ireturn, 1)) (hc : cells ≤ kc) (hs : slots ≤ ks) (hq : Q (some (.int (nar t z))) h locs) : own_G p e below (own_E s Q kc ks) (T.setTop (mkF m pc Ls (.int z :: st))) := by
  obtain ⟨⟨hx, hby, hml, hown, hZ, hr0, hlk, hnm⟩, X, eT⟩ := Y
  subst eT
  obtain ⟨fs, hr, hrun, hended, hW, hsame⟩ := X.leave (v := some (.int (nar t z))) (fun q => by rw [hr0, hret] at q; cases q) hlk
  exact ⟨_, _, retN X hx (hr0.trans hret) ht (hb hby hd) hr, hrun, hended, _, _, rfl, hq, ⟨_, rfl⟩, hW, hsame.mono hc hs⟩
theorem own_retV (Y : own_S Z y bytes maxL ret p l e R s m args below meth c T h locs cells slots) (hret : ret = none) (hd : decode bytes pc = .ok (.return_, 1)) (hc : cells ≤ kc) (hs : slots ≤ ks) (hq : Q none h locs) : own_G p e below (own_E s Q kc ks) (T.setTop (mkF m pc Ls [])) := by
  obtain ⟨⟨hx, hby, hml, hown, hZ, hr0, hlk, hnm⟩, X, eT⟩ := Y
  subst eT
  obtain ⟨fs, hr, hrun, hended, hW, hsame⟩ := X.leave (v := none) (fun _ => rfl) hlk
  exact ⟨_, _, X.returnOut hx (hr0.trans hret) (hb hby hd) hr, hrun, hended, _, _, rfl, hq, ⟨_, rfl⟩, hW, hsame.mono hc hs⟩
end Own

theorem own_ord {args : Array Value} {Z : State} {t : Term} {a : Addr} {C n d : String} {k : Int32} (ev : t.eval args Z none [] Z = some (.ref a)) (hx : (Jvm.Cond.eq (Jvm.Term.field t C n d) (Jvm.Term.int k)).value args Z none Z [] = some true) : Fld Z Z.heap a C n d (.int k) := by
  obtain ⟨u, v, e1, e2, k1, k2⟩ := cmp_v (Or.inl hx)
  rw [fld_at ev] at e1
  cases (Term.int_eval k).symm.trans e2
  obtain ⟨z, rfl⟩ := k2
  have q : some (decide (z = k)) = some true := by simpa [Jvm.Cond.value, Term.eval, ev, e1] using hx
  obtain rfl : z = k := of_decide_eq_true (Option.some.inj q)
  exact Fld.start e1

theorem d1_0 : decode method_3_code 0 = .ok (.iload_n 0, 1) := by decide +kernel
theorem d1_1 : decode method_3_code 1 = .ok (.ifCond .ne 7, 3) := by decide +kernel
theorem d1_4 : decode method_3_code 4 = .ok (.getstatic 30, 3) := by decide +kernel
theorem d1_7 : decode method_3_code 7 = .ok (.areturn, 1) := by decide +kernel
theorem d1_8 : decode method_3_code 8 = .ok (.iload_n 0, 1) := by decide +kernel
theorem d1_9 : decode method_3_code 9 = .ok (.iconst 1, 1) := by decide +kernel
theorem d1_10 : decode method_3_code 10 = .ok (.if_icmp .ne 7, 3) := by decide +kernel
theorem d1_13 : decode method_3_code 13 = .ok (.getstatic 34, 3) := by decide +kernel
theorem d1_16 : decode method_3_code 16 = .ok (.areturn, 1) := by decide +kernel
theorem d1_17 : decode method_3_code 17 = .ok (.iload_n 0, 1) := by decide +kernel
theorem d1_18 : decode method_3_code 18 = .ok (.iconst 2, 1) := by decide +kernel
theorem d1_19 : decode method_3_code 19 = .ok (.if_icmp .ne 7, 3) := by decide +kernel
theorem d1_22 : decode method_3_code 22 = .ok (.getstatic 37, 3) := by decide +kernel
theorem d1_25 : decode method_3_code 25 = .ok (.areturn, 1) := by decide +kernel
theorem d1_26 : decode method_3_code 26 = .ok (.iload_n 0, 1) := by decide +kernel
theorem d1_27 : decode method_3_code 27 = .ok (.iconst 3, 1) := by decide +kernel
theorem d1_28 : decode method_3_code 28 = .ok (.if_icmp .ne 7, 3) := by decide +kernel
theorem d1_31 : decode method_3_code 31 = .ok (.getstatic 40, 3) := by decide +kernel
theorem d1_34 : decode method_3_code 34 = .ok (.areturn, 1) := by decide +kernel
theorem d1_35 : decode method_3_code 35 = .ok (.iload_n 0, 1) := by decide +kernel
theorem d1_36 : decode method_3_code 36 = .ok (.iconst 4, 1) := by decide +kernel
theorem d1_37 : decode method_3_code 37 = .ok (.if_icmp .ne 7, 3) := by decide +kernel
theorem d1_40 : decode method_3_code 40 = .ok (.getstatic 43, 3) := by decide +kernel
theorem d1_43 : decode method_3_code 43 = .ok (.areturn, 1) := by decide +kernel
theorem d1_44 : decode method_3_code 44 = .ok (.iload_n 0, 1) := by decide +kernel
theorem d1_45 : decode method_3_code 45 = .ok (.iconst 5, 1) := by decide +kernel
theorem d1_46 : decode method_3_code 46 = .ok (.if_icmp .ne 7, 3) := by decide +kernel
theorem d1_49 : decode method_3_code 49 = .ok (.getstatic 46, 3) := by decide +kernel
theorem d1_52 : decode method_3_code 52 = .ok (.areturn, 1) := by decide +kernel
theorem d1_53 : decode method_3_code 53 = .ok (.iload_n 0, 1) := by decide +kernel
theorem d1_54 : decode method_3_code 54 = .ok (.bipush 6, 2) := by decide +kernel
theorem d1_56 : decode method_3_code 56 = .ok (.if_icmp .ne 7, 3) := by decide +kernel
theorem d1_59 : decode method_3_code 59 = .ok (.getstatic 49, 3) := by decide +kernel
theorem d1_62 : decode method_3_code 62 = .ok (.areturn, 1) := by decide +kernel
theorem d1_63 : decode method_3_code 63 = .ok (.iload_n 0, 1) := by decide +kernel
theorem d1_64 : decode method_3_code 64 = .ok (.bipush 7, 2) := by decide +kernel
theorem d1_66 : decode method_3_code 66 = .ok (.if_icmp .ne 7, 3) := by decide +kernel
theorem d1_69 : decode method_3_code 69 = .ok (.getstatic 52, 3) := by decide +kernel
theorem d1_72 : decode method_3_code 72 = .ok (.areturn, 1) := by decide +kernel
theorem d1_73 : decode method_3_code 73 = .ok (.iload_n 0, 1) := by decide +kernel
theorem d1_74 : decode method_3_code 74 = .ok (.bipush 8, 2) := by decide +kernel
theorem d1_76 : decode method_3_code 76 = .ok (.if_icmp .ne 7, 3) := by decide +kernel
theorem d1_79 : decode method_3_code 79 = .ok (.getstatic 55, 3) := by decide +kernel
theorem d1_82 : decode method_3_code 82 = .ok (.areturn, 1) := by decide +kernel
theorem d1_83 : decode method_3_code 83 = .ok (.iload_n 0, 1) := by decide +kernel
theorem d1_84 : decode method_3_code 84 = .ok (.bipush 9, 2) := by decide +kernel
theorem d1_86 : decode method_3_code 86 = .ok (.if_icmp .ne 7, 3) := by decide +kernel
theorem d1_89 : decode method_3_code 89 = .ok (.getstatic 58, 3) := by decide +kernel
theorem d1_92 : decode method_3_code 92 = .ok (.areturn, 1) := by decide +kernel
theorem d1_93 : decode method_3_code 93 = .ok (.iload_n 0, 1) := by decide +kernel
theorem d1_94 : decode method_3_code 94 = .ok (.bipush 10, 2) := by decide +kernel
theorem d1_96 : decode method_3_code 96 = .ok (.if_icmp .ne 7, 3) := by decide +kernel
theorem d1_99 : decode method_3_code 99 = .ok (.getstatic 61, 3) := by decide +kernel
theorem d1_102 : decode method_3_code 102 = .ok (.areturn, 1) := by decide +kernel
theorem d1_103 : decode method_3_code 103 = .ok (.iload_n 0, 1) := by decide +kernel
theorem d1_104 : decode method_3_code 104 = .ok (.bipush 11, 2) := by decide +kernel
theorem d1_106 : decode method_3_code 106 = .ok (.if_icmp .ne 7, 3) := by decide +kernel
theorem d1_109 : decode method_3_code 109 = .ok (.getstatic 64, 3) := by decide +kernel
theorem d1_112 : decode method_3_code 112 = .ok (.areturn, 1) := by decide +kernel
theorem d1_113 : decode method_3_code 113 = .ok (.iload_n 0, 1) := by decide +kernel
theorem d1_114 : decode method_3_code 114 = .ok (.bipush 12, 2) := by decide +kernel
theorem d1_116 : decode method_3_code 116 = .ok (.if_icmp .ne 7, 3) := by decide +kernel
theorem d1_119 : decode method_3_code 119 = .ok (.getstatic 67, 3) := by decide +kernel
theorem d1_122 : decode method_3_code 122 = .ok (.areturn, 1) := by decide +kernel
theorem d1_123 : decode method_3_code 123 = .ok (.iload_n 0, 1) := by decide +kernel
theorem d1_124 : decode method_3_code 124 = .ok (.bipush 13, 2) := by decide +kernel
theorem d1_126 : decode method_3_code 126 = .ok (.if_icmp .ne 7, 3) := by decide +kernel
theorem d1_129 : decode method_3_code 129 = .ok (.getstatic 70, 3) := by decide +kernel
theorem d1_132 : decode method_3_code 132 = .ok (.areturn, 1) := by decide +kernel
theorem d1_133 : decode method_3_code 133 = .ok (.iload_n 0, 1) := by decide +kernel
theorem d1_134 : decode method_3_code 134 = .ok (.bipush 14, 2) := by decide +kernel
theorem d1_136 : decode method_3_code 136 = .ok (.if_icmp .ne 7, 3) := by decide +kernel
theorem d1_139 : decode method_3_code 139 = .ok (.getstatic 73, 3) := by decide +kernel
theorem d1_142 : decode method_3_code 142 = .ok (.areturn, 1) := by decide +kernel
theorem d1_143 : decode method_3_code 143 = .ok (.iload_n 0, 1) := by decide +kernel
theorem d1_144 : decode method_3_code 144 = .ok (.bipush 15, 2) := by decide +kernel
theorem d1_146 : decode method_3_code 146 = .ok (.if_icmp .ne 7, 3) := by decide +kernel
theorem d1_149 : decode method_3_code 149 = .ok (.getstatic 76, 3) := by decide +kernel
theorem d1_152 : decode method_3_code 152 = .ok (.areturn, 1) := by decide +kernel
theorem d1_153 : decode method_3_code 153 = .ok (.iload_n 0, 1) := by decide +kernel
theorem d1_154 : decode method_3_code 154 = .ok (.bipush 16, 2) := by decide +kernel
theorem d1_156 : decode method_3_code 156 = .ok (.if_icmp .ne 7, 3) := by decide +kernel
theorem d1_159 : decode method_3_code 159 = .ok (.getstatic 79, 3) := by decide +kernel
theorem d1_162 : decode method_3_code 162 = .ok (.areturn, 1) := by decide +kernel
theorem d1_163 : decode method_3_code 163 = .ok (.iload_n 0, 1) := by decide +kernel
theorem d1_164 : decode method_3_code 164 = .ok (.bipush 17, 2) := by decide +kernel
theorem d1_166 : decode method_3_code 166 = .ok (.if_icmp .ne 7, 3) := by decide +kernel
theorem d1_169 : decode method_3_code 169 = .ok (.getstatic 82, 3) := by decide +kernel
theorem d1_172 : decode method_3_code 172 = .ok (.areturn, 1) := by decide +kernel
theorem d1_173 : decode method_3_code 173 = .ok (.iload_n 0, 1) := by decide +kernel
theorem d1_174 : decode method_3_code 174 = .ok (.bipush 18, 2) := by decide +kernel
theorem d1_176 : decode method_3_code 176 = .ok (.if_icmp .ne 7, 3) := by decide +kernel
theorem d1_179 : decode method_3_code 179 = .ok (.getstatic 85, 3) := by decide +kernel
theorem d1_182 : decode method_3_code 182 = .ok (.areturn, 1) := by decide +kernel
theorem d1_183 : decode method_3_code 183 = .ok (.iload_n 0, 1) := by decide +kernel
theorem d1_184 : decode method_3_code 184 = .ok (.bipush 19, 2) := by decide +kernel
theorem d1_186 : decode method_3_code 186 = .ok (.if_icmp .ne 7, 3) := by decide +kernel
theorem d1_189 : decode method_3_code 189 = .ok (.getstatic 88, 3) := by decide +kernel
theorem d1_192 : decode method_3_code 192 = .ok (.areturn, 1) := by decide +kernel
theorem d1_193 : decode method_3_code 193 = .ok (.iload_n 0, 1) := by decide +kernel
theorem d1_194 : decode method_3_code 194 = .ok (.bipush 20, 2) := by decide +kernel
theorem d1_196 : decode method_3_code 196 = .ok (.if_icmp .ne 7, 3) := by decide +kernel
theorem d1_199 : decode method_3_code 199 = .ok (.getstatic 91, 3) := by decide +kernel
theorem d1_202 : decode method_3_code 202 = .ok (.areturn, 1) := by decide +kernel
theorem d1_203 : decode method_3_code 203 = .ok (.getstatic 94, 3) := by decide +kernel
theorem d1_206 : decode method_3_code 206 = .ok (.areturn, 1) := by decide +kernel
theorem pl1 : plainFor (⟨"com/example/chunkwright/chunkwright/RuleStopsReadingPinLaw", "pick", "(I)Lcom/example/chunkwright/chunkwright/Rule;"⟩ : MethodName) = true := by first | exact plainFor_of_name (by first | (simp [plainName, overriddenIn]; done) | decide +kernel) | decide +kernel
theorem d2_0 : decode prog_18_method_6_code 0 = .ok (.aload_n 0, 1) := by decide +kernel
theorem d2_1 : decode prog_18_method_6_code 1 = .ok (.invokevirtual 97, 3) := by decide +kernel
theorem d2_4 : decode prog_18_method_6_code 4 = .ok (.tableswitch 36 0 3 #[32, 32, 32, 32], 32) := by decide +kernel
theorem d2_36 : decode prog_18_method_6_code 36 = .ok (.iconst 1, 1) := by decide +kernel
theorem d2_37 : decode prog_18_method_6_code 37 = .ok (.goto 4, 3) := by decide +kernel
theorem d2_40 : decode prog_18_method_6_code 40 = .ok (.iconst 0, 1) := by decide +kernel
theorem d2_41 : decode prog_18_method_6_code 41 = .ok (.ireturn, 1) := by decide +kernel
theorem pl2 : plainFor (⟨"com/example/chunkwright/chunkwright/Rule", "stopsReading", "()Z"⟩ : MethodName) = true := by first | exact plainFor_of_name (by first | (simp [plainName, overriddenIn]; done) | decide +kernel) | decide +kernel
theorem d3_0 : decode jdk_37_method_2_code 0 = .ok (.aload_n 0, 1) := by decide +kernel
theorem d3_1 : decode jdk_37_method_2_code 1 = .ok (.getfield 7, 3) := by decide +kernel
theorem d3_4 : decode jdk_37_method_2_code 4 = .ok (.ireturn, 1) := by decide +kernel
theorem pl3 : plainFor (⟨"java/lang/Enum", "ordinal", "()I"⟩ : MethodName) = true := by first | exact plainFor_of_name (by first | (simp [plainName, overriddenIn]; done) | decide +kernel) | decide +kernel
theorem d4_0 : decode prog_18_method_5_code 0 = .ok (.aload_n 0, 1) := by decide +kernel
theorem d4_1 : decode prog_18_method_5_code 1 = .ok (.getfield 93, 3) := by decide +kernel
theorem d4_4 : decode prog_18_method_5_code 4 = .ok (.areturn, 1) := by decide +kernel
theorem pl4 : plainFor (⟨"com/example/chunkwright/chunkwright/Rule", "severity", "()Lcom/example/chunkwright/chunkwright/Severity;"⟩ : MethodName) = true := by first | exact plainFor_of_name (by first | (simp [plainName, overriddenIn]; done) | decide +kernel) | decide +kernel
theorem pl0 : plainFor x = true := by first | exact plainFor_of_name (by first | (simp [plainName, overriddenIn]; done) | decide +kernel) | decide +kernel
theorem pd1 : parseMethodDescriptor "(I)Lcom/example/chunkwright/chunkwright/Rule;" = some ⟨[.int], some (.object "com/example/chunkwright/chunkwright/Rule")⟩ := by decide +kernel
theorem pd2 : parseMethodDescriptor "()Z" = some ⟨[], some .boolean⟩ := by decide +kernel
theorem pd3 : parseMethodDescriptor "()I" = some ⟨[], some .int⟩ := by decide +kernel
theorem pd4 : parseMethodDescriptor "()Lcom/example/chunkwright/chunkwright/Severity;" = some ⟨[], some (.object "com/example/chunkwright/chunkwright/Severity")⟩ := by decide +kernel
def Qpick (k : Int32) (r0 r1 r2 r3 r4 r5 r6 r7 r8 r9 r10 r11 r12 r13 r14 r15 r16 r17 r18 r19 r20 r21 : Addr) (h0 : Heap) (v : Option Value) (h : Heap) (L : List Loc) : Prop := h0 = h ∧ L = [] ∧ ((k = 0 ∧ v = some (.ref r0)) ∨ (k = 1 ∧ v = some (.ref r1)) ∨ (k = 2 ∧ v = some (.ref r2)) ∨ (k = 3 ∧ v = some (.ref r3)) ∨ (k = 4 ∧ v = some (.ref r4)) ∨ (k = 5 ∧ v = some (.ref r5)) ∨ (k = 6 ∧ v = some (.ref r6)) ∨ (k = 7 ∧ v = some (.ref r7)) ∨ (k = 8 ∧ v = some (.ref r8)) ∨ (k = 9 ∧ v = some (.ref r9)) ∨ (k = 10 ∧ v = some (.ref r10)) ∨ (k = 11 ∧ v = some (.ref r11)) ∨ (k = 12 ∧ v = some (.ref r12)) ∨ (k = 13 ∧ v = some (.ref r13)) ∨ (k = 14 ∧ v = some (.ref r14)) ∨ (k = 15 ∧ v = some (.ref r15)) ∨ (k = 16 ∧ v = some (.ref r16)) ∨ (k = 17 ∧ v = some (.ref r17)) ∨ (k = 18 ∧ v = some (.ref r18)) ∨ (k = 19 ∧ v = some (.ref r19)) ∨ (k = 20 ∧ v = some (.ref r20)) ∨ (¬ k = 0 ∧ ¬ k = 1 ∧ ¬ k = 2 ∧ ¬ k = 3 ∧ ¬ k = 4 ∧ ¬ k = 5 ∧ ¬ k = 6 ∧ ¬ k = 7 ∧ ¬ k = 8 ∧ ¬ k = 9 ∧ ¬ k = 10 ∧ ¬ k = 11 ∧ ¬ k = 12 ∧ ¬ k = 13 ∧ ¬ k = 14 ∧ ¬ k = 15 ∧ ¬ k = 16 ∧ ¬ k = 17 ∧ ¬ k = 18 ∧ ¬ k = 19 ∧ ¬ k = 20 ∧ v = some (.ref r21)))
set_option maxRecDepth 65536 in
set_option maxHeartbeats 4000000 in
theorem c_pick (l : Launch) (Z : State) (a0 : Array Value) (hw : ∀ d ∈ tables_1, d.before a0 Z = true) (k : Int32) (r0 r1 r2 r3 r4 r5 r6 r7 r8 r9 r10 r11 r12 r13 r14 r15 r16 r17 r18 r19 r20 r21 : Addr) (h0 : Heap) (S0 : Sta Z h0 "com/example/chunkwright/chunkwright/Rule" "JSON_SYNTAX" "Lcom/example/chunkwright/chunkwright/Rule;" (.ref r0)) (S1 : Sta Z h0 "com/example/chunkwright/chunkwright/Rule" "JSON_TYPE" "Lcom/example/chunkwright/chunkwright/Rule;" (.ref r1)) (S2 : Sta Z h0 "com/example/chunkwright/chunkwright/Rule" "MEMBER_MISSING" "Lcom/example/chunkwright/chunkwright/Rule;" (.ref r2)) (S3 : Sta Z h0 "com/example/chunkwright/chunkwright/Rule" "MEMBER_UNKNOWN" "Lcom/example/chunkwright/chunkwright/Rule;" (.ref r3)) (S4 : Sta Z h0 "com/example/chunkwright/chunkwright/Rule" "ID_FORMAT" "Lcom/example/chunkwright/chunkwright/Rule;" (.ref r4)) (S5 : Sta Z h0 "com/example/chunkwright/chunkwright/Rule" "KEY_FORMAT" "Lcom/example/chunkwright/chunkwright/Rule;" (.ref r5)) (S6 : Sta Z h0 "com/example/chunkwright/chunkwright/Rule" "VERSION_FORMAT" "Lcom/example/chunkwright/chunkwright/Rule;" (.ref r6)) (S7 : Sta Z h0 "com/example/chunkwright/chunkwright/Rule" "FORMAT_VERSION" "Lcom/example/chunkwright/chunkwright/Rule;" (.ref r7)) (S8 : Sta Z h0 "com/example/chunkwright/chunkwright/Rule" "UNKNOWN_FORMAT_VERSION" "Lcom/example/chunkwright/chunkwright/Rule;" (.ref r8)) (S9 : Sta Z h0 "com/example/chunkwright/chunkwright/Rule" "DUPLICATE_KEY" "Lcom/example/chunkwright/chunkwright/Rule;" (.ref r9)) (S10 : Sta Z h0 "com/example/chunkwright/chunkwright/Rule" "DUPLICATE_NODE_ID" "Lcom/example/chunkwright/chunkwright/Rule;" (.ref r10)) (S11 : Sta Z h0 "com/example/chunkwright/chunkwright/Rule" "DUPLICATE_ENTRY" "Lcom/example/chunkwright/chunkwright/Rule;" (.ref r11)) (S12 : Sta Z h0 "com/example/chunkwright/chunkwright/Rule" "LANGUAGE_UNDECLARED" "Lcom/example/chunkwright/chunkwright/Rule;" (.ref r12)) (S13 : Sta Z h0 "com/example/chunkwright/chunkwright/Rule" "PARENT_MISMATCH" "Lcom/example/chunkwright/chunkwright/Rule;" (.ref r13)) (S14 : Sta Z h0 "com/example/chunkwright/chunkwright/Rule" "CHILD_MISMATCH" "Lcom/example/chunkwright/chunkwright/Rule;" (.ref r14)) (S15 : Sta Z h0 "com/example/chunkwright/chunkwright/Rule" "PARENT_CYCLE" "Lcom/example/chunkwright/chunkwright/Rule;" (.ref r15)) (S16 : Sta Z h0 "com/example/chunkwright/chunkwright/Rule" "CLASSIFIER_UNKNOWN" "Lcom/example/chunkwright/chunkwright/Rule;" (.ref r16)) (S17 : Sta Z h0 "com/example/chunkwright/chunkwright/Rule" "FEATURE_UNKNOWN" "Lcom/example/chunkwright/chunkwright/Rule;" (.ref r17)) (S18 : Sta Z h0 "com/example/chunkwright/chunkwright/Rule" "FEATURE_KIND" "Lcom/example/chunkwright/chunkwright/Rule;" (.ref r18)) (S19 : Sta Z h0 "com/example/chunkwright/chunkwright/Rule" "PROPERTY_VALUE" "Lcom/example/chunkwright/chunkwright/Rule;" (.ref r19)) (S20 : Sta Z h0 "com/example/chunkwright/chunkwright/Rule" "TYPE_UNKNOWN" "Lcom/example/chunkwright/chunkwright/Rule;" (.ref r20)) (S21 : Sta Z h0 "com/example/chunkwright/chunkwright/Rule" "NOT_CONVERTIBLE" "Lcom/example/chunkwright/chunkwright/Rule;" (.ref r21)) : own_M l (⟨"com/example/chunkwright/chunkwright/RuleStopsReadingPinLaw", "pick", "(I)Lcom/example/chunkwright/chunkwright/Rule;"⟩ : MethodName) method_3_code 1 (some (.object "com/example/chunkwright/chunkwright/Rule")) [] ({ frames := 0, cells := 0, slots := 0, locals := 0 } : Room) Z #[.int k] h0 (Qpick k r0 r1 r2 r3 r4 r5 r6 r7 r8 r9 r10 r11 r12 r13 r14 r15 r16 r17 r18 r19 r20 r21 h0) := by
  refine own_met pl1 (Lf := #[.val (.int k)]) (fun m => by first | (simp [entryFrame, mkF, argsToLocals, Value.category]; done) | rfl) ?_
  intro p e s m below meth c T Y
  refine own_iloadN 1 Y d1_0 rfl rfl ?_
  refine own_if_ne 8 4 Y d1_1 (by decide) rfl (fun q1 => ?_) (fun q1 => ?_)
  · refine own_iloadN 9 Y d1_8 rfl rfl ?_
    refine own_iconst 10 Y (1 : Int32) d1_9 rfl rfl ?_
    refine own_ic_ne 17 13 Y d1_10 (by decide) rfl (fun q10 => ?_) (fun q10 => ?_)
    · refine own_iloadN 18 Y d1_17 rfl rfl ?_
      refine own_iconst 19 Y (2 : Int32) d1_18 rfl rfl ?_
      refine own_ic_ne 26 22 Y d1_19 (by decide) rfl (fun q19 => ?_) (fun q19 => ?_)
      · refine own_iloadN 27 Y d1_26 rfl rfl ?_
        refine own_iconst 28 Y (3 : Int32) d1_27 rfl rfl ?_
        refine own_ic_ne 35 31 Y d1_28 (by decide) rfl (fun q28 => ?_) (fun q28 => ?_)
        · refine own_iloadN 36 Y d1_35 rfl rfl ?_
          refine own_iconst 37 Y (4 : Int32) d1_36 rfl rfl ?_
          refine own_ic_ne 44 40 Y d1_37 (by decide) rfl (fun q37 => ?_) (fun q37 => ?_)
          · refine own_iloadN 45 Y d1_44 rfl rfl ?_
            refine own_iconst 46 Y (5 : Int32) d1_45 rfl rfl ?_
            refine own_ic_ne 53 49 Y d1_46 (by decide) rfl (fun q46 => ?_) (fun q46 => ?_)
            · refine own_iloadN 54 Y d1_53 rfl rfl ?_
              refine own_bipush 56 Y (6 : Int32) d1_54 rfl rfl ?_
              refine own_ic_ne 63 59 Y d1_56 (by decide) rfl (fun q56 => ?_) (fun q56 => ?_)
              · refine own_iloadN 64 Y d1_63 rfl rfl ?_
                refine own_bipush 66 Y (7 : Int32) d1_64 rfl rfl ?_
                refine own_ic_ne 73 69 Y d1_66 (by decide) rfl (fun q66 => ?_) (fun q66 => ?_)
                · refine own_iloadN 74 Y d1_73 rfl rfl ?_
                  refine own_bipush 76 Y (8 : Int32) d1_74 rfl rfl ?_
                  refine own_ic_ne 83 79 Y d1_76 (by decide) rfl (fun q76 => ?_) (fun q76 => ?_)
                  · refine own_iloadN 84 Y d1_83 rfl rfl ?_
                    refine own_bipush 86 Y (9 : Int32) d1_84 rfl rfl ?_
                    refine own_ic_ne 93 89 Y d1_86 (by decide) rfl (fun q86 => ?_) (fun q86 => ?_)
                    · refine own_iloadN 94 Y d1_93 rfl rfl ?_
                      refine own_bipush 96 Y (10 : Int32) d1_94 rfl rfl ?_
                      refine own_ic_ne 103 99 Y d1_96 (by decide) rfl (fun q96 => ?_) (fun q96 => ?_)
                      · refine own_iloadN 104 Y d1_103 rfl rfl ?_
                        refine own_bipush 106 Y (11 : Int32) d1_104 rfl rfl ?_
                        refine own_ic_ne 113 109 Y d1_106 (by decide) rfl (fun q106 => ?_) (fun q106 => ?_)
                        · refine own_iloadN 114 Y d1_113 rfl rfl ?_
                          refine own_bipush 116 Y (12 : Int32) d1_114 rfl rfl ?_
                          refine own_ic_ne 123 119 Y d1_116 (by decide) rfl (fun q116 => ?_) (fun q116 => ?_)
                          · refine own_iloadN 124 Y d1_123 rfl rfl ?_
                            refine own_bipush 126 Y (13 : Int32) d1_124 rfl rfl ?_
                            refine own_ic_ne 133 129 Y d1_126 (by decide) rfl (fun q126 => ?_) (fun q126 => ?_)
                            · refine own_iloadN 134 Y d1_133 rfl rfl ?_
                              refine own_bipush 136 Y (14 : Int32) d1_134 rfl rfl ?_
                              refine own_ic_ne 143 139 Y d1_136 (by decide) rfl (fun q136 => ?_) (fun q136 => ?_)
                              · refine own_iloadN 144 Y d1_143 rfl rfl ?_
                                refine own_bipush 146 Y (15 : Int32) d1_144 rfl rfl ?_
                                refine own_ic_ne 153 149 Y d1_146 (by decide) rfl (fun q146 => ?_) (fun q146 => ?_)
                                · refine own_iloadN 154 Y d1_153 rfl rfl ?_
                                  refine own_bipush 156 Y (16 : Int32) d1_154 rfl rfl ?_
                                  refine own_ic_ne 163 159 Y d1_156 (by decide) rfl (fun q156 => ?_) (fun q156 => ?_)
                                  · refine own_iloadN 164 Y d1_163 rfl rfl ?_
                                    refine own_bipush 166 Y (17 : Int32) d1_164 rfl rfl ?_
                                    refine own_ic_ne 173 169 Y d1_166 (by decide) rfl (fun q166 => ?_) (fun q166 => ?_)
                                    · refine own_iloadN 174 Y d1_173 rfl rfl ?_
                                      refine own_bipush 176 Y (18 : Int32) d1_174 rfl rfl ?_
                                      refine own_ic_ne 183 179 Y d1_176 (by decide) rfl (fun q176 => ?_) (fun q176 => ?_)
                                      · refine own_iloadN 184 Y d1_183 rfl rfl ?_
                                        refine own_bipush 186 Y (19 : Int32) d1_184 rfl rfl ?_
                                        refine own_ic_ne 193 189 Y d1_186 (by decide) rfl (fun q186 => ?_) (fun q186 => ?_)
                                        · refine own_iloadN 194 Y d1_193 rfl rfl ?_
                                          refine own_bipush 196 Y (20 : Int32) d1_194 rfl rfl ?_
                                          refine own_ic_ne 203 199 Y d1_196 (by decide) rfl (fun q196 => ?_) (fun q196 => ?_)
                                          · refine own_getS 206 Y (host := "") (Or.inl (own_wd hw 62 rfl)) Via.refl S21 d1_203 rfl fun T2 Y1 => ?_
                                            exact own_retA Y1 rfl rfl rfl d1_206 (by decide) (by decide) ⟨rfl, rfl, Or.inr (Or.inr (Or.inr (Or.inr (Or.inr (Or.inr (Or.inr (Or.inr (Or.inr (Or.inr (Or.inr (Or.inr (Or.inr (Or.inr (Or.inr (Or.inr (Or.inr (Or.inr (Or.inr (Or.inr (Or.inr (⟨q1, q10, q19, q28, q37, q46, q56, q66, q76, q86, q96, q106, q116, q126, q136, q146, q156, q166, q176, q186, q196, rfl⟩)))))))))))))))))))))⟩
                                          · refine own_getS 202 Y (host := "") (Or.inl (own_wd hw 72 rfl)) Via.refl S20 d1_199 rfl fun T4 Y3 => ?_
                                            exact own_retA Y3 rfl rfl rfl d1_202 (by decide) (by decide) ⟨rfl, rfl, Or.inr (Or.inr (Or.inr (Or.inr (Or.inr (Or.inr (Or.inr (Or.inr (Or.inr (Or.inr (Or.inr (Or.inr (Or.inr (Or.inr (Or.inr (Or.inr (Or.inr (Or.inr (Or.inr (Or.inr (Or.inl ⟨q196, rfl⟩))))))))))))))))))))⟩
                                        · refine own_getS 192 Y (host := "") (Or.inl (own_wd hw 54 rfl)) Via.refl S19 d1_189 rfl fun T6 Y5 => ?_
                                          exact own_retA Y5 rfl rfl rfl d1_192 (by decide) (by decide) ⟨rfl, rfl, Or.inr (Or.inr (Or.inr (Or.inr (Or.inr (Or.inr (Or.inr (Or.inr (Or.inr (Or.inr (Or.inr (Or.inr (Or.inr (Or.inr (Or.inr (Or.inr (Or.inr (Or.inr (Or.inr (Or.inl ⟨q186, rfl⟩)))))))))))))))))))⟩
                                      · refine own_getS 182 Y (host := "") (Or.inl (own_wd hw 56 rfl)) Via.refl S18 d1_179 rfl fun T8 Y7 => ?_
                                        exact own_retA Y7 rfl rfl rfl d1_182 (by decide) (by decide) ⟨rfl, rfl, Or.inr (Or.inr (Or.inr (Or.inr (Or.inr (Or.inr (Or.inr (Or.inr (Or.inr (Or.inr (Or.inr (Or.inr (Or.inr (Or.inr (Or.inr (Or.inr (Or.inr (Or.inr (Or.inl ⟨q176, rfl⟩))))))))))))))))))⟩
                                    · refine own_getS 172 Y (host := "") (Or.inl (own_wd hw 70 rfl)) Via.refl S17 d1_169 rfl fun T10 Y9 => ?_
                                      exact own_retA Y9 rfl rfl rfl d1_172 (by decide) (by decide) ⟨rfl, rfl, Or.inr (Or.inr (Or.inr (Or.inr (Or.inr (Or.inr (Or.inr (Or.inr (Or.inr (Or.inr (Or.inr (Or.inr (Or.inr (Or.inr (Or.inr (Or.inr (Or.inr (Or.inl ⟨q166, rfl⟩)))))))))))))))))⟩
                                  · refine own_getS 162 Y (host := "") (Or.inl (own_wd hw 50 rfl)) Via.refl S16 d1_159 rfl fun T12 Y11 => ?_
                                    exact own_retA Y11 rfl rfl rfl d1_162 (by decide) (by decide) ⟨rfl, rfl, Or.inr (Or.inr (Or.inr (Or.inr (Or.inr (Or.inr (Or.inr (Or.inr (Or.inr (Or.inr (Or.inr (Or.inr (Or.inr (Or.inr (Or.inr (Or.inr (Or.inl ⟨q156, rfl⟩))))))))))))))))⟩
                                · refine own_getS 152 Y (host := "") (Or.inl (own_wd hw 58 rfl)) Via.refl S15 d1_149 rfl fun T14 Y13 => ?_
                                  exact own_retA Y13 rfl rfl rfl d1_152 (by decide) (by decide) ⟨rfl, rfl, Or.inr (Or.inr (Or.inr (Or.inr (Or.inr (Or.inr (Or.inr (Or.inr (Or.inr (Or.inr (Or.inr (Or.inr (Or.inr (Or.inr (Or.inr (Or.inl ⟨q146, rfl⟩)))))))))))))))⟩
                              · refine own_getS 142 Y (host := "") (Or.inl (own_wd hw 64 rfl)) Via.refl S14 d1_139 rfl fun T16 Y15 => ?_
                                exact own_retA Y15 rfl rfl rfl d1_142 (by decide) (by decide) ⟨rfl, rfl, Or.inr (Or.inr (Or.inr (Or.inr (Or.inr (Or.inr (Or.inr (Or.inr (Or.inr (Or.inr (Or.inr (Or.inr (Or.inr (Or.inr (Or.inl ⟨q136, rfl⟩))))))))))))))⟩
                            · refine own_getS 132 Y (host := "") (Or.inl (own_wd hw 68 rfl)) Via.refl S13 d1_129 rfl fun T18 Y17 => ?_
                              exact own_retA Y17 rfl rfl rfl d1_132 (by decide) (by decide) ⟨rfl, rfl, Or.inr (Or.inr (Or.inr (Or.inr (Or.inr (Or.inr (Or.inr (Or.inr (Or.inr (Or.inr (Or.inr (Or.inr (Or.inr (Or.inl ⟨q126, rfl⟩)))))))))))))⟩
                          · refine own_getS 122 Y (host := "") (Or.inl (own_wd hw 66 rfl)) Via.refl S12 d1_119 rfl fun T20 Y19 => ?_
                            exact own_retA Y19 rfl rfl rfl d1_122 (by decide) (by decide) ⟨rfl, rfl, Or.inr (Or.inr (Or.inr (Or.inr (Or.inr (Or.inr (Or.inr (Or.inr (Or.inr (Or.inr (Or.inr (Or.inr (Or.inl ⟨q116, rfl⟩))))))))))))⟩
                        · refine own_getS 112 Y (host := "") (Or.inl (own_wd hw 40 rfl)) Via.refl S11 d1_109 rfl fun T22 Y21 => ?_
                          exact own_retA Y21 rfl rfl rfl d1_112 (by decide) (by decide) ⟨rfl, rfl, Or.inr (Or.inr (Or.inr (Or.inr (Or.inr (Or.inr (Or.inr (Or.inr (Or.inr (Or.inr (Or.inr (Or.inl ⟨q106, rfl⟩)))))))))))⟩
                      · refine own_getS 102 Y (host := "") (Or.inl (own_wd hw 42 rfl)) Via.refl S10 d1_99 rfl fun T24 Y23 => ?_
                        exact own_retA Y23 rfl rfl rfl d1_102 (by decide) (by decide) ⟨rfl, rfl, Or.inr (Or.inr (Or.inr (Or.inr (Or.inr (Or.inr (Or.inr (Or.inr (Or.inr (Or.inr (Or.inl ⟨q96, rfl⟩))))))))))⟩
                    · refine own_getS 92 Y (host := "") (Or.inl (own_wd hw 46 rfl)) Via.refl S9 d1_89 rfl fun T26 Y25 => ?_
                      exact own_retA Y25 rfl rfl rfl d1_92 (by decide) (by decide) ⟨rfl, rfl, Or.inr (Or.inr (Or.inr (Or.inr (Or.inr (Or.inr (Or.inr (Or.inr (Or.inr (Or.inl ⟨q86, rfl⟩)))))))))⟩
                  · refine own_getS 82 Y (host := "") (Or.inl (own_wd hw 36 rfl)) Via.refl S8 d1_79 rfl fun T28 Y27 => ?_
                    exact own_retA Y27 rfl rfl rfl d1_82 (by decide) (by decide) ⟨rfl, rfl, Or.inr (Or.inr (Or.inr (Or.inr (Or.inr (Or.inr (Or.inr (Or.inr (Or.inl ⟨q76, rfl⟩))))))))⟩
                · refine own_getS 72 Y (host := "") (Or.inl (own_wd hw 34 rfl)) Via.refl S7 d1_69 rfl fun T30 Y29 => ?_
                  exact own_retA Y29 rfl rfl rfl d1_72 (by decide) (by decide) ⟨rfl, rfl, Or.inr (Or.inr (Or.inr (Or.inr (Or.inr (Or.inr (Or.inr (Or.inl ⟨q66, rfl⟩)))))))⟩
              · refine own_getS 62 Y (host := "") (Or.inl (own_wd hw 52 rfl)) Via.refl S6 d1_59 rfl fun T32 Y31 => ?_
                exact own_retA Y31 rfl rfl rfl d1_62 (by decide) (by decide) ⟨rfl, rfl, Or.inr (Or.inr (Or.inr (Or.inr (Or.inr (Or.inr (Or.inl ⟨q56, rfl⟩))))))⟩
            · refine own_getS 52 Y (host := "") (Or.inl (own_wd hw 48 rfl)) Via.refl S5 d1_49 rfl fun T34 Y33 => ?_
              exact own_retA Y33 rfl rfl rfl d1_52 (by decide) (by decide) ⟨rfl, rfl, Or.inr (Or.inr (Or.inr (Or.inr (Or.inr (Or.inl ⟨q46, rfl⟩)))))⟩
          · refine own_getS 43 Y (host := "") (Or.inl (own_wd hw 60 rfl)) Via.refl S4 d1_40 rfl fun T36 Y35 => ?_
            exact own_retA Y35 rfl rfl rfl d1_43 (by decide) (by decide) ⟨rfl, rfl, Or.inr (Or.inr (Or.inr (Or.inr (Or.inl ⟨q37, rfl⟩))))⟩
        · refine own_getS 34 Y (host := "") (Or.inl (own_wd hw 32 rfl)) Via.refl S3 d1_31 rfl fun T38 Y37 => ?_
          exact own_retA Y37 rfl rfl rfl d1_34 (by decide) (by decide) ⟨rfl, rfl, Or.inr (Or.inr (Or.inr (Or.inl ⟨q28, rfl⟩)))⟩
      · refine own_getS 25 Y (host := "") (Or.inl (own_wd hw 38 rfl)) Via.refl S2 d1_22 rfl fun T40 Y39 => ?_
        exact own_retA Y39 rfl rfl rfl d1_25 (by decide) (by decide) ⟨rfl, rfl, Or.inr (Or.inr (Or.inl ⟨q19, rfl⟩))⟩
    · refine own_getS 16 Y (host := "") (Or.inl (own_wd hw 44 rfl)) Via.refl S1 d1_13 rfl fun T42 Y41 => ?_
      exact own_retA Y41 rfl rfl rfl d1_16 (by decide) (by decide) ⟨rfl, rfl, Or.inr (Or.inl ⟨q10, rfl⟩)⟩
  · refine own_getS 7 Y (host := "") (Or.inl (own_wd hw 5 rfl)) Via.refl S0 d1_4 rfl fun T44 Y43 => ?_
    exact own_retA Y43 rfl rfl rfl d1_7 (by decide) (by decide) ⟨rfl, rfl, Or.inl ⟨q1, rfl⟩⟩
def Qv (u : Value) (h0 : Heap) (v : Option Value) (h : Heap) (L : List Loc) : Prop := h0 = h ∧ L = [] ∧ v = some u
set_option maxRecDepth 65536 in
set_option maxHeartbeats 4000000 in
theorem c_ord (l : Launch) (Z : State) (a0 : Array Value) (hw : ∀ d ∈ tables_1, d.before a0 Z = true) (a : Addr) (n : Int32) (h0 : Heap) (F : Fld Z h0 a "java/lang/Enum" "ordinal" "I" (.int n)) : own_M l (⟨"java/lang/Enum", "ordinal", "()I"⟩ : MethodName) jdk_37_method_2_code 1 (some .int) [] ({ frames := 0, cells := 0, slots := 0, locals := 0 } : Room) Z #[.ref a] h0 (Qv (.int n) h0) := by
  refine own_met pl3 (Lf := #[.val (.ref a)]) (fun m => by first | (simp [entryFrame, mkF, argsToLocals, Value.category]; done) | rfl) ?_
  intro p e s m below meth c T Y
  refine own_aloadN 1 Y d3_0 rfl rfl rfl ?_
  refine own_getF 4 Y (host := "") (Or.inl (own_wd hw 20 rfl)) Via.refl F d3_1 rfl fun T2 Y1 => ?_
  exact own_retI Y1 rfl d3_4 (by decide) (by decide) ⟨rfl, rfl, rfl⟩
set_option maxRecDepth 65536 in
set_option maxHeartbeats 4000000 in
theorem c_sev (l : Launch) (Z : State) (a0 : Array Value) (hw : ∀ d ∈ tables_1, d.before a0 Z = true) (a b : Addr) (h0 : Heap) (F : Fld Z h0 a "com/example/chunkwright/chunkwright/Rule" "severity" "Lcom/example/chunkwright/chunkwright/Severity;" (.ref b)) : own_M l (⟨"com/example/chunkwright/chunkwright/Rule", "severity", "()Lcom/example/chunkwright/chunkwright/Severity;"⟩ : MethodName) prog_18_method_5_code 1 (some (.object "com/example/chunkwright/chunkwright/Severity")) [] ({ frames := 0, cells := 0, slots := 0, locals := 0 } : Room) Z #[.ref a] h0 (Qv (.ref b) h0) := by
  refine own_met pl4 (Lf := #[.val (.ref a)]) (fun m => by first | (simp [entryFrame, mkF, argsToLocals, Value.category]; done) | rfl) ?_
  intro p e s m below meth c T Y
  refine own_aloadN 1 Y d4_0 rfl rfl rfl ?_
  refine own_getF 4 Y (host := "") (Or.inl (own_wd hw 27 rfl)) Via.refl F d4_1 rfl fun T2 Y1 => ?_
  exact own_retA Y1 rfl rfl rfl d4_4 (by decide) (by decide) ⟨rfl, rfl, rfl⟩
set_option maxRecDepth 65536 in
set_option maxHeartbeats 4000000 in
theorem c_stopsIn (l : Launch) (Z : State) (a0 : Array Value) (hw : ∀ d ∈ tables_1, d.before a0 Z = true) (a : Addr) (n : Int32) (h0 : Heap) (F : Fld Z h0 a "java/lang/Enum" "ordinal" "I" (.int n)) (E : Exa Z h0 a "com/example/chunkwright/chunkwright/Rule") (hin : ¬ (n.toInt < 0 ∨ n.toInt > 3)) (hoff : (#[32, 32, 32, 32] : Array Int)[(n.toInt - 0).toNat]? = some 32) : own_M l (⟨"com/example/chunkwright/chunkwright/Rule", "stopsReading", "()Z"⟩ : MethodName) prog_18_method_6_code 1 (some .boolean) [] ({ frames := 1, cells := 0, slots := 0, locals := 12 } : Room) Z #[.ref a] h0 (Qv (.int 1) h0) := by
  refine own_met pl2 (Lf := #[.val (.ref a)]) (fun m => by first | (simp [entryFrame, mkF, argsToLocals, Value.category]; done) | rfl) ?_
  intro p e s m below meth c T Y
  refine own_aloadN 1 Y d2_0 rfl rfl rfl ?_
  refine own_callUp 4 Y [] [] E (own_wd hw 13 rfl) (own_wd hw 14 rfl) (own_wd hw 15 rfl) (own_wd hw 17 rfl) (own_wd hw 16 rfl) (own_wd hw 18 rfl) (own_wd hw 19 rfl) (c_ord l Z a0 hw a n h0 F) d2_1 (by decide) (lenOf pd3 rfl) rfl rfl (by decide) (by decide) (by decide) (by decide) rfl fun v1 T1 h1 L1 Y1 hQ1 => ?_
  obtain ⟨rfl, rfl, rfl⟩ := hQ1
  show own_G p e below _ (T1.setTop (mkF m 4 #[.val (.ref a)] [(.int n)]))
  refine own_tswIn 36 Y1 d2_4 hin hoff (by decide) ?_
  refine own_iconst 37 Y1 (1 : Int32) d2_36 rfl rfl ?_
  refine own_goto 41 Y1 d2_37 (by decide) ?_
  exact own_retN Y1 (t := .boolean) rfl (by simp) d2_41 (by decide) (by decide) ⟨rfl, rfl, rfl⟩
set_option maxRecDepth 65536 in
set_option maxHeartbeats 4000000 in
theorem c_stopsOut (l : Launch) (Z : State) (a0 : Array Value) (hw : ∀ d ∈ tables_1, d.before a0 Z = true) (a : Addr) (n : Int32) (h0 : Heap) (F : Fld Z h0 a "java/lang/Enum" "ordinal" "I" (.int n)) (E : Exa Z h0 a "com/example/chunkwright/chunkwright/Rule") (hout : n.toInt < 0 ∨ n.toInt > 3) : own_M l (⟨"com/example/chunkwright/chunkwright/Rule", "stopsReading", "()Z"⟩ : MethodName) prog_18_method_6_code 1 (some .boolean) [] ({ frames := 1, cells := 0, slots := 0, locals := 12 } : Room) Z #[.ref a] h0 (Qv (.int 0) h0) := by
  refine own_met pl2 (Lf := #[.val (.ref a)]) (fun m => by first | (simp [entryFrame, mkF, argsToLocals, Value.category]; done) | rfl) ?_
  intro p e s m below meth c T Y
  refine own_aloadN 1 Y d2_0 rfl rfl rfl ?_
  refine own_callUp 4 Y [] [] E (own_wd hw 13 rfl) (own_wd hw 14 rfl) (own_wd hw 15 rfl) (own_wd hw 17 rfl) (own_wd hw 16 rfl) (own_wd hw 18 rfl) (own_wd hw 19 rfl) (c_ord l Z a0 hw a n h0 F) d2_1 (by decide) (lenOf pd3 rfl) rfl rfl (by decide) (by decide) (by decide) (by decide) rfl fun v1 T1 h1 L1 Y1 hQ1 => ?_
  obtain ⟨rfl, rfl, rfl⟩ := hQ1
  show own_G p e below _ (T1.setTop (mkF m 4 #[.val (.ref a)] [(.int n)]))
  refine own_tswOut 40 Y1 d2_4 hout (by decide) ?_
  refine own_iconst 41 Y1 (0 : Int32) d2_40 rfl rfl ?_
  exact own_retN Y1 (t := .boolean) rfl (by simp) d2_41 (by decide) (by decide) ⟨rfl, rfl, rfl⟩
theorem own_ge4 {k : Int32} (h : 0 ≤ k.toInt) (h0 : ¬ k = 0) (h1 : ¬ k = 1) (h2 : ¬ k = 2) (h3 : ¬ k = 3) : ¬ k < 4 := by
  rw [Int32.lt_iff_toInt_lt]
  rw [← Int32.toInt_inj] at h0 h1 h2 h3
  have e0 : (0 : Int32).toInt = 0 := rfl
  have e1 : (1 : Int32).toInt = 1 := rfl
  have e2 : (2 : Int32).toInt = 2 := rfl
  have e3 : (3 : Int32).toInt = 3 := rfl
  have e4 : (4 : Int32).toInt = 4 := rfl
  omega
theorem own_nn (x : Int32) : 0 ≤ ((x &&& 2147483647) % 22 : Int32).toInt := by
  rw [Int32.toInt_mod]
  exact Int.tmod_nonneg _ ((c_andS x 2147483647).2.2 (by decide))
def Q0 (n0 : Nat) (v : Option Value) (h : Heap) (L : List Loc) : Prop := v = some (.int 1) ∧ Fr n0 L
set_option maxRecDepth 65536 in
set_option maxHeartbeats 40000000 in
theorem c_law (l : Launch) (Z : State) (a0 : Array Value) (hw : ∀ d ∈ tables_1, d.before a0 Z = true) (x0 : Int32) (er r0 r1 r2 r3 r4 r5 r6 r7 r8 r9 r10 r11 r12 r13 r14 r15 r16 r17 r18 r19 r20 r21 : Addr) (h0 : Heap) (n0 : Nat) (Se : Sta Z h0 "com/example/chunkwright/chunkwright/Severity" "ERROR" "Lcom/example/chunkwright/chunkwright/Severity;" (.ref er)) (S0 : Sta Z h0 "com/example/chunkwright/chunkwright/Rule" "JSON_SYNTAX" "Lcom/example/chunkwright/chunkwright/Rule;" (.ref r0)) (S1 : Sta Z h0 "com/example/chunkwright/chunkwright/Rule" "JSON_TYPE" "Lcom/example/chunkwright/chunkwright/Rule;" (.ref r1)) (S2 : Sta Z h0 "com/example/chunkwright/chunkwright/Rule" "MEMBER_MISSING" "Lcom/example/chunkwright/chunkwright/Rule;" (.ref r2)) (S3 : Sta Z h0 "com/example/chunkwright/chunkwright/Rule" "MEMBER_UNKNOWN" "Lcom/example/chunkwright/chunkwright/Rule;" (.ref r3)) (S4 : Sta Z h0 "com/example/chunkwright/chunkwright/Rule" "ID_FORMAT" "Lcom/example/chunkwright/chunkwright/Rule;" (.ref r4)) (S5 : Sta Z h0 "com/example/chunkwright/chunkwright/Rule" "KEY_FORMAT" "Lcom/example/chunkwright/chunkwright/Rule;" (.ref r5)) (S6 : Sta Z h0 "com/example/chunkwright/chunkwright/Rule" "VERSION_FORMAT" "Lcom/example/chunkwright/chunkwright/Rule;" (.ref r6)) (S7 : Sta Z h0 "com/example/chunkwright/chunkwright/Rule" "FORMAT_VERSION" "Lcom/example/chunkwright/chunkwright/Rule;" (.ref r7)) (S8 : Sta Z h0 "com/example/chunkwright/chunkwright/Rule" "UNKNOWN_FORMAT_VERSION" "Lcom/example/chunkwright/chunkwright/Rule;" (.ref r8)) (S9 : Sta Z h0 "com/example/chunkwright/chunkwright/Rule" "DUPLICATE_KEY" "Lcom/example/chunkwright/chunkwright/Rule;" (.ref r9)) (S10 : Sta Z h0 "com/example/chunkwright/chunkwright/Rule" "DUPLICATE_NODE_ID" "Lcom/example/chunkwright/chunkwright/Rule;" (.ref r10)) (S11 : Sta Z h0 "com/example/chunkwright/chunkwright/Rule" "DUPLICATE_ENTRY" "Lcom/example/chunkwright/chunkwright/Rule;" (.ref r11)) (S12 : Sta Z h0 "com/example/chunkwright/chunkwright/Rule" "LANGUAGE_UNDECLARED" "Lcom/example/chunkwright/chunkwright/Rule;" (.ref r12)) (S13 : Sta Z h0 "com/example/chunkwright/chunkwright/Rule" "PARENT_MISMATCH" "Lcom/example/chunkwright/chunkwright/Rule;" (.ref r13)) (S14 : Sta Z h0 "com/example/chunkwright/chunkwright/Rule" "CHILD_MISMATCH" "Lcom/example/chunkwright/chunkwright/Rule;" (.ref r14)) (S15 : Sta Z h0 "com/example/chunkwright/chunkwright/Rule" "PARENT_CYCLE" "Lcom/example/chunkwright/chunkwright/Rule;" (.ref r15)) (S16 : Sta Z h0 "com/example/chunkwright/chunkwright/Rule" "CLASSIFIER_UNKNOWN" "Lcom/example/chunkwright/chunkwright/Rule;" (.ref r16)) (S17 : Sta Z h0 "com/example/chunkwright/chunkwright/Rule" "FEATURE_UNKNOWN" "Lcom/example/chunkwright/chunkwright/Rule;" (.ref r17)) (S18 : Sta Z h0 "com/example/chunkwright/chunkwright/Rule" "FEATURE_KIND" "Lcom/example/chunkwright/chunkwright/Rule;" (.ref r18)) (S19 : Sta Z h0 "com/example/chunkwright/chunkwright/Rule" "PROPERTY_VALUE" "Lcom/example/chunkwright/chunkwright/Rule;" (.ref r19)) (S20 : Sta Z h0 "com/example/chunkwright/chunkwright/Rule" "TYPE_UNKNOWN" "Lcom/example/chunkwright/chunkwright/Rule;" (.ref r20)) (S21 : Sta Z h0 "com/example/chunkwright/chunkwright/Rule" "NOT_CONVERTIBLE" "Lcom/example/chunkwright/chunkwright/Rule;" (.ref r21)) (E0 : Exa Z h0 r0 "com/example/chunkwright/chunkwright/Rule") (E1 : Exa Z h0 r1 "com/example/chunkwright/chunkwright/Rule") (E2 : Exa Z h0 r2 "com/example/chunkwright/chunkwright/Rule") (E3 : Exa Z h0 r3 "com/example/chunkwright/chunkwright/Rule") (E4 : Exa Z h0 r4 "com/example/chunkwright/chunkwright/Rule") (E5 : Exa Z h0 r5 "com/example/chunkwright/chunkwright/Rule") (E6 : Exa Z h0 r6 "com/example/chunkwright/chunkwright/Rule") (E7 : Exa Z h0 r7 "com/example/chunkwright/chunkwright/Rule") (E8 : Exa Z h0 r8 "com/example/chunkwright/chunkwright/Rule") (E9 : Exa Z h0 r9 "com/example/chunkwright/chunkwright/Rule") (E10 : Exa Z h0 r10 "com/example/chunkwright/chunkwright/Rule") (E11 : Exa Z h0 r11 "com/example/chunkwright/chunkwright/Rule") (E12 : Exa Z h0 r12 "com/example/chunkwright/chunkwright/Rule") (E13 : Exa Z h0 r13 "com/example/chunkwright/chunkwright/Rule") (E14 : Exa Z h0 r14 "com/example/chunkwright/chunkwright/Rule") (E15 : Exa Z h0 r15 "com/example/chunkwright/chunkwright/Rule") (E16 : Exa Z h0 r16 "com/example/chunkwright/chunkwright/Rule") (E17 : Exa Z h0 r17 "com/example/chunkwright/chunkwright/Rule") (E18 : Exa Z h0 r18 "com/example/chunkwright/chunkwright/Rule") (E19 : Exa Z h0 r19 "com/example/chunkwright/chunkwright/Rule") (E20 : Exa Z h0 r20 "com/example/chunkwright/chunkwright/Rule") (E21 : Exa Z h0 r21 "com/example/chunkwright/chunkwright/Rule") (F0 : Fld Z h0 r0 "java/lang/Enum" "ordinal" "I" (.int (0 : Int32))) (F1 : Fld Z h0 r1 "java/lang/Enum" "ordinal" "I" (.int (1 : Int32))) (F2 : Fld Z h0 r2 "java/lang/Enum" "ordinal" "I" (.int (2 : Int32))) (F3 : Fld Z h0 r3 "java/lang/Enum" "ordinal" "I" (.int (3 : Int32))) (F4 : Fld Z h0 r4 "java/lang/Enum" "ordinal" "I" (.int (4 : Int32))) (F5 : Fld Z h0 r5 "java/lang/Enum" "ordinal" "I" (.int (5 : Int32))) (F6 : Fld Z h0 r6 "java/lang/Enum" "ordinal" "I" (.int (6 : Int32))) (F7 : Fld Z h0 r7 "java/lang/Enum" "ordinal" "I" (.int (7 : Int32))) (F8 : Fld Z h0 r8 "java/lang/Enum" "ordinal" "I" (.int (8 : Int32))) (F9 : Fld Z h0 r9 "java/lang/Enum" "ordinal" "I" (.int (9 : Int32))) (F10 : Fld Z h0 r10 "java/lang/Enum" "ordinal" "I" (.int (10 : Int32))) (F11 : Fld Z h0 r11 "java/lang/Enum" "ordinal" "I" (.int (11 : Int32))) (F12 : Fld Z h0 r12 "java/lang/Enum" "ordinal" "I" (.int (12 : Int32))) (F13 : Fld Z h0 r13 "java/lang/Enum" "ordinal" "I" (.int (13 : Int32))) (F14 : Fld Z h0 r14 "java/lang/Enum" "ordinal" "I" (.int (14 : Int32))) (F15 : Fld Z h0 r15 "java/lang/Enum" "ordinal" "I" (.int (15 : Int32))) (F16 : Fld Z h0 r16 "java/lang/Enum" "ordinal" "I" (.int (16 : Int32))) (F17 : Fld Z h0 r17 "java/lang/Enum" "ordinal" "I" (.int (17 : Int32))) (F18 : Fld Z h0 r18 "java/lang/Enum" "ordinal" "I" (.int (18 : Int32))) (F19 : Fld Z h0 r19 "java/lang/Enum" "ordinal" "I" (.int (19 : Int32))) (F20 : Fld Z h0 r20 "java/lang/Enum" "ordinal" "I" (.int (20 : Int32))) (F21 : Fld Z h0 r21 "java/lang/Enum" "ordinal" "I" (.int (21 : Int32))) (G0 : Fld Z h0 r0 "com/example/chunkwright/chunkwright/Rule" "severity" "Lcom/example/chunkwright/chunkwright/Severity;" (.ref er)) (G1 : Fld Z h0 r1 "com/example/chunkwright/chunkwright/Rule" "severity" "Lcom/example/chunkwright/chunkwright/Severity;" (.ref er)) (G2 : Fld Z h0 r2 "com/example/chunkwright/chunkwright/Rule" "severity" "Lcom/example/chunkwright/chunkwright/Severity;" (.ref er)) (G3 : Fld Z h0 r3 "com/example/chunkwright/chunkwright/Rule" "severity" "Lcom/example/chunkwright/chunkwright/Severity;" (.ref er)) : own_M l x code maxLocals ret tables_1 room_1 Z #[.int x0] h0 (Q0 n0) := by
  refine own_met pl0 (Lf := #[.val (.int x0), .unset, .unset, .unset, .unset]) (fun m => by first | (simp [entryFrame, mkF, argsToLocals, Value.category, maxLocals]; done) | rfl) ?_
  intro p e s m below meth c T Y
  refine own_iloadN 1 Y at_0 rfl rfl ?_
  refine own_ldcI 3 Y (own_wd hw 0 rfl) at_1 rfl ?_
  refine own_iand 4 Y at_3 rfl ?_
  refine own_bipush 6 Y (22 : Int32) at_4 rfl rfl ?_
  refine own_irem 7 Y at_6 (by decide) rfl ?_
  obtain ⟨k, ek⟩ : ∃ k : Int32, k = ((x0 &&& (2147483647 : Int32)) % (22 : Int32)) := ⟨_, rfl⟩
  rw [← ek]
  have hk0 : 0 ≤ k.toInt := by rw [ek]; exact own_nn x0
  refine own_istoreN 8 Y #[.val (.int x0), .val (.int k), .unset, .unset, .unset] at_7 rfl rfl ?_
  refine own_iloadN 9 Y at_8 rfl rfl ?_
  refine own_callS 12 Y [(.int k)] [] (own_wd hw 1 rfl) (own_wd hw 2 rfl) (own_wd hw 3 rfl) (own_wd hw 4 rfl) (c_pick l Z a0 hw k r0 r1 r2 r3 r4 r5 r6 r7 r8 r9 r10 r11 r12 r13 r14 r15 r16 r17 r18 r19 r20 r21 h0 S0 S1 S2 S3 S4 S5 S6 S7 S8 S9 S10 S11 S12 S13 S14 S15 S16 S17 S18 S19 S20 S21) at_9 (by decide) (lenOf pd1 rfl) rfl rfl (by decide) (by decide) (by decide) (by decide) rfl fun v1 T1 h1 L1 Y1 hQ1 => ?_
  obtain ⟨rfl, rfl, hv⟩ := hQ1
  rcases hv with ⟨hk, rfl⟩ | ⟨hk, rfl⟩ | ⟨hk, rfl⟩ | ⟨hk, rfl⟩ | ⟨hk, rfl⟩ | ⟨hk, rfl⟩ | ⟨hk, rfl⟩ | ⟨hk, rfl⟩ | ⟨hk, rfl⟩ | ⟨hk, rfl⟩ | ⟨hk, rfl⟩ | ⟨hk, rfl⟩ | ⟨hk, rfl⟩ | ⟨hk, rfl⟩ | ⟨hk, rfl⟩ | ⟨hk, rfl⟩ | ⟨hk, rfl⟩ | ⟨hk, rfl⟩ | ⟨hk, rfl⟩ | ⟨hk, rfl⟩ | ⟨hk, rfl⟩ | ⟨k0, k1, k2, k3, k4, k5, k6, k7, k8, k9, k10, k11, k12, k13, k14, k15, k16, k17, k18, k19, k20, rfl⟩
  · show own_G p e below _ (T1.setTop (mkF m 12 #[.val (.int x0), .val (.int k), .unset, .unset, .unset] [(.ref r0)]))
    refine own_astoreN 13 Y1 #[.val (.int x0), .val (.int k), .val (.ref r0), .unset, .unset] at_12 rfl rfl rfl ?_
    refine own_aloadN 14 Y1 at_13 rfl rfl rfl ?_
    refine own_callV 17 Y1 [] [] E0 (own_wd hw 8 rfl) (own_wd hw 9 rfl) (notFace_of_selects (args := #[]) (mvT Y1.warm (own_wd hw 11 rfl))) (own_wd hw 11 rfl) (own_wd hw 10 rfl) (own_wd hw 6 rfl) (own_wd hw 12 rfl) (c_stopsIn l Z a0 hw r0 (0 : Int32) h0 F0 E0 (by decide) rfl) at_14 (by decide) (lenOf pd2 rfl) rfl rfl (by decide) (by decide) (by decide) (by decide) rfl fun v2 T2 h2 L2 Y2 hQ2 => ?_
    obtain ⟨rfl, rfl, rfl⟩ := hQ2
    show own_G p e below _ (T2.setTop (mkF m 17 #[.val (.int x0), .val (.int k), .val (.ref r0), .unset, .unset] [(.int (1 : Int32))]))
    refine own_istoreN 18 Y2 #[.val (.int x0), .val (.int k), .val (.ref r0), .val (.int (1 : Int32)), .unset] at_17 rfl rfl ?_
    refine own_iloadN 19 Y2 at_18 rfl rfl ?_
    refine own_iconst 20 Y2 (4 : Int32) at_19 rfl rfl ?_
    refine own_icF 23 Y2 at_20 (XT.ii_ge_f (by rw [hk]; decide)) rfl ?_
    refine own_iconst 24 Y2 (1 : Int32) at_23 rfl rfl ?_
    refine own_goto 28 Y2 at_24 (by decide) ?_
    refine own_istore 30 Y2 #[.val (.int x0), .val (.int k), .val (.ref r0), .val (.int (1 : Int32)), .val (.int (1 : Int32))] at_28 rfl rfl ?_
    refine own_iloadN 31 Y2 at_30 rfl rfl ?_
    refine own_iload 33 Y2 at_31 rfl rfl ?_
    refine own_icT 38 Y2 at_33 (XT.ii_eq_t rfl) (by decide) ?_
    refine own_iloadN 39 Y2 at_38 rfl rfl ?_
    refine own_ifF 42 Y2 at_39 (XT.i0_eq_f (by decide)) rfl ?_
    refine own_aloadN 43 Y2 at_42 rfl rfl rfl ?_
    refine own_callV 46 Y2 [] [] E0 (own_wd hw 22 rfl) (own_wd hw 23 rfl) (notFace_of_selects (args := #[]) (mvT Y2.warm (own_wd hw 25 rfl))) (own_wd hw 25 rfl) (own_wd hw 24 rfl) (own_wd hw 6 rfl) (own_wd hw 26 rfl) (c_sev l Z a0 hw r0 er h0 G0) at_43 (by decide) (lenOf pd4 rfl) rfl rfl (by decide) (by decide) (by decide) (by decide) rfl fun v3 T3 h3 L3 Y3 hQ3 => ?_
    obtain ⟨rfl, rfl, rfl⟩ := hQ3
    show own_G p e below _ (T3.setTop (mkF m 46 #[.val (.int x0), .val (.int k), .val (.ref r0), .val (.int (1 : Int32)), .val (.int (1 : Int32))] [(.ref er)]))
    refine own_getS 49 Y3 (host := "") (Or.inl (own_wd hw 31 rfl)) Via.refl Se at_46 rfl fun T5 Y4 => ?_
    refine own_acmp 54 true Y4 at_49 rfl rfl (decide_eq_true rfl) (by decide) (by decide) ?_
    refine own_iconst 55 Y4 (1 : Int32) at_54 rfl rfl ?_
    exact own_retN Y4 (t := .boolean) rfl (by simp) at_55 (by decide) (by decide) ⟨rfl, Fr.nil n0⟩
  · show own_G p e below _ (T1.setTop (mkF m 12 #[.val (.int x0), .val (.int k), .unset, .unset, .unset] [(.ref r1)]))
    refine own_astoreN 13 Y1 #[.val (.int x0), .val (.int k), .val (.ref r1), .unset, .unset] at_12 rfl rfl rfl ?_
    refine own_aloadN 14 Y1 at_13 rfl rfl rfl ?_
    refine own_callV 17 Y1 [] [] E1 (own_wd hw 8 rfl) (own_wd hw 9 rfl) (notFace_of_selects (args := #[]) (mvT Y1.warm (own_wd hw 11 rfl))) (own_wd hw 11 rfl) (own_wd hw 10 rfl) (own_wd hw 6 rfl) (own_wd hw 12 rfl) (c_stopsIn l Z a0 hw r1 (1 : Int32) h0 F1 E1 (by decide) rfl) at_14 (by decide) (lenOf pd2 rfl) rfl rfl (by decide) (by decide) (by decide) (by decide) rfl fun v6 T6 h6 L6 Y6 hQ6 => ?_
    obtain ⟨rfl, rfl, rfl⟩ := hQ6
    show own_G p e below _ (T6.setTop (mkF m 17 #[.val (.int x0), .val (.int k), .val (.ref r1), .unset, .unset] [(.int (1 : Int32))]))
    refine own_istoreN 18 Y6 #[.val (.int x0), .val (.int k), .val (.ref r1), .val (.int (1 : Int32)), .unset] at_17 rfl rfl ?_
    refine own_iloadN 19 Y6 at_18 rfl rfl ?_
    refine own_iconst 20 Y6 (4 : Int32) at_19 rfl rfl ?_
    refine own_icF 23 Y6 at_20 (XT.ii_ge_f (by rw [hk]; decide)) rfl ?_
    refine own_iconst 24 Y6 (1 : Int32) at_23 rfl rfl ?_
    refine own_goto 28 Y6 at_24 (by decide) ?_
    refine own_istore 30 Y6 #[.val (.int x0), .val (.int k), .val (.ref r1), .val (.int (1 : Int32)), .val (.int (1 : Int32))] at_28 rfl rfl ?_
    refine own_iloadN 31 Y6 at_30 rfl rfl ?_
    refine own_iload 33 Y6 at_31 rfl rfl ?_
    refine own_icT 38 Y6 at_33 (XT.ii_eq_t rfl) (by decide) ?_
    refine own_iloadN 39 Y6 at_38 rfl rfl ?_
    refine own_ifF 42 Y6 at_39 (XT.i0_eq_f (by decide)) rfl ?_
    refine own_aloadN 43 Y6 at_42 rfl rfl rfl ?_
    refine own_callV 46 Y6 [] [] E1 (own_wd hw 22 rfl) (own_wd hw 23 rfl) (notFace_of_selects (args := #[]) (mvT Y6.warm (own_wd hw 25 rfl))) (own_wd hw 25 rfl) (own_wd hw 24 rfl) (own_wd hw 6 rfl) (own_wd hw 26 rfl) (c_sev l Z a0 hw r1 er h0 G1) at_43 (by decide) (lenOf pd4 rfl) rfl rfl (by decide) (by decide) (by decide) (by decide) rfl fun v7 T7 h7 L7 Y7 hQ7 => ?_
    obtain ⟨rfl, rfl, rfl⟩ := hQ7
    show own_G p e below _ (T7.setTop (mkF m 46 #[.val (.int x0), .val (.int k), .val (.ref r1), .val (.int (1 : Int32)), .val (.int (1 : Int32))] [(.ref er)]))
    refine own_getS 49 Y7 (host := "") (Or.inl (own_wd hw 31 rfl)) Via.refl Se at_46 rfl fun T9 Y8 => ?_
    refine own_acmp 54 true Y8 at_49 rfl rfl (decide_eq_true rfl) (by decide) (by decide) ?_
    refine own_iconst 55 Y8 (1 : Int32) at_54 rfl rfl ?_
    exact own_retN Y8 (t := .boolean) rfl (by simp) at_55 (by decide) (by decide) ⟨rfl, Fr.nil n0⟩
  · show own_G p e below _ (T1.setTop (mkF m 12 #[.val (.int x0), .val (.int k), .unset, .unset, .unset] [(.ref r2)]))
    refine own_astoreN 13 Y1 #[.val (.int x0), .val (.int k), .val (.ref r2), .unset, .unset] at_12 rfl rfl rfl ?_
    refine own_aloadN 14 Y1 at_13 rfl rfl rfl ?_
    refine own_callV 17 Y1 [] [] E2 (own_wd hw 8 rfl) (own_wd hw 9 rfl) (notFace_of_selects (args := #[]) (mvT Y1.warm (own_wd hw 11 rfl))) (own_wd hw 11 rfl) (own_wd hw 10 rfl) (own_wd hw 6 rfl) (own_wd hw 12 rfl) (c_stopsIn l Z a0 hw r2 (2 : Int32) h0 F2 E2 (by decide) rfl) at_14 (by decide) (lenOf pd2 rfl) rfl rfl (by decide) (by decide) (by decide) (by decide) rfl fun v10 T10 h10 L10 Y10 hQ10 => ?_
    obtain ⟨rfl, rfl, rfl⟩ := hQ10
    show own_G p e below _ (T10.setTop (mkF m 17 #[.val (.int x0), .val (.int k), .val (.ref r2), .unset, .unset] [(.int (1 : Int32))]))
    refine own_istoreN 18 Y10 #[.val (.int x0), .val (.int k), .val (.ref r2), .val (.int (1 : Int32)), .unset] at_17 rfl rfl ?_
    refine own_iloadN 19 Y10 at_18 rfl rfl ?_
    refine own_iconst 20 Y10 (4 : Int32) at_19 rfl rfl ?_
    refine own_icF 23 Y10 at_20 (XT.ii_ge_f (by rw [hk]; decide)) rfl ?_
    refine own_iconst 24 Y10 (1 : Int32) at_23 rfl rfl ?_
    refine own_goto 28 Y10 at_24 (by decide) ?_
    refine own_istore 30 Y10 #[.val (.int x0), .val (.int k), .val (.ref r2), .val (.int (1 : Int32)), .val (.int (1 : Int32))] at_28 rfl rfl ?_
    refine own_iloadN 31 Y10 at_30 rfl rfl ?_
    refine own_iload 33 Y10 at_31 rfl rfl ?_
    refine own_icT 38 Y10 at_33 (XT.ii_eq_t rfl) (by decide) ?_
    refine own_iloadN 39 Y10 at_38 rfl rfl ?_
    refine own_ifF 42 Y10 at_39 (XT.i0_eq_f (by decide)) rfl ?_
    refine own_aloadN 43 Y10 at_42 rfl rfl rfl ?_
    refine own_callV 46 Y10 [] [] E2 (own_wd hw 22 rfl) (own_wd hw 23 rfl) (notFace_of_selects (args := #[]) (mvT Y10.warm (own_wd hw 25 rfl))) (own_wd hw 25 rfl) (own_wd hw 24 rfl) (own_wd hw 6 rfl) (own_wd hw 26 rfl) (c_sev l Z a0 hw r2 er h0 G2) at_43 (by decide) (lenOf pd4 rfl) rfl rfl (by decide) (by decide) (by decide) (by decide) rfl fun v11 T11 h11 L11 Y11 hQ11 => ?_
    obtain ⟨rfl, rfl, rfl⟩ := hQ11
    show own_G p e below _ (T11.setTop (mkF m 46 #[.val (.int x0), .val (.int k), .val (.ref r2), .val (.int (1 : Int32)), .val (.int (1 : Int32))] [(.ref er)]))
    refine own_getS 49 Y11 (host := "") (Or.inl (own_wd hw 31 rfl)) Via.refl Se at_46 rfl fun T13 Y12 => ?_
    refine own_acmp 54 true Y12 at_49 rfl rfl (decide_eq_true rfl) (by decide) (by decide) ?_
    refine own_iconst 55 Y12 (1 : Int32) at_54 rfl rfl ?_
    exact own_retN Y12 (t := .boolean) rfl (by simp) at_55 (by decide) (by decide) ⟨rfl, Fr.nil n0⟩
  · show own_G p e below _ (T1.setTop (mkF m 12 #[.val (.int x0), .val (.int k), .unset, .unset, .unset] [(.ref r3)]))
    refine own_astoreN 13 Y1 #[.val (.int x0), .val (.int k), .val (.ref r3), .unset, .unset] at_12 rfl rfl rfl ?_
    refine own_aloadN 14 Y1 at_13 rfl rfl rfl ?_
    refine own_callV 17 Y1 [] [] E3 (own_wd hw 8 rfl) (own_wd hw 9 rfl) (notFace_of_selects (args := #[]) (mvT Y1.warm (own_wd hw 11 rfl))) (own_wd hw 11 rfl) (own_wd hw 10 rfl) (own_wd hw 6 rfl) (own_wd hw 12 rfl) (c_stopsIn l Z a0 hw r3 (3 : Int32) h0 F3 E3 (by decide) rfl) at_14 (by decide) (lenOf pd2 rfl) rfl rfl (by decide) (by decide) (by decide) (by decide) rfl fun v14 T14 h14 L14 Y14 hQ14 => ?_
    obtain ⟨rfl, rfl, rfl⟩ := hQ14
    show own_G p e below _ (T14.setTop (mkF m 17 #[.val (.int x0), .val (.int k), .val (.ref r3), .unset, .unset] [(.int (1 : Int32))]))
    refine own_istoreN 18 Y14 #[.val (.int x0), .val (.int k), .val (.ref r3), .val (.int (1 : Int32)), .unset] at_17 rfl rfl ?_
    refine own_iloadN 19 Y14 at_18 rfl rfl ?_
    refine own_iconst 20 Y14 (4 : Int32) at_19 rfl rfl ?_
    refine own_icF 23 Y14 at_20 (XT.ii_ge_f (by rw [hk]; decide)) rfl ?_
    refine own_iconst 24 Y14 (1 : Int32) at_23 rfl rfl ?_
    refine own_goto 28 Y14 at_24 (by decide) ?_
    refine own_istore 30 Y14 #[.val (.int x0), .val (.int k), .val (.ref r3), .val (.int (1 : Int32)), .val (.int (1 : Int32))] at_28 rfl rfl ?_
    refine own_iloadN 31 Y14 at_30 rfl rfl ?_
    refine own_iload 33 Y14 at_31 rfl rfl ?_
    refine own_icT 38 Y14 at_33 (XT.ii_eq_t rfl) (by decide) ?_
    refine own_iloadN 39 Y14 at_38 rfl rfl ?_
    refine own_ifF 42 Y14 at_39 (XT.i0_eq_f (by decide)) rfl ?_
    refine own_aloadN 43 Y14 at_42 rfl rfl rfl ?_
    refine own_callV 46 Y14 [] [] E3 (own_wd hw 22 rfl) (own_wd hw 23 rfl) (notFace_of_selects (args := #[]) (mvT Y14.warm (own_wd hw 25 rfl))) (own_wd hw 25 rfl) (own_wd hw 24 rfl) (own_wd hw 6 rfl) (own_wd hw 26 rfl) (c_sev l Z a0 hw r3 er h0 G3) at_43 (by decide) (lenOf pd4 rfl) rfl rfl (by decide) (by decide) (by decide) (by decide) rfl fun v15 T15 h15 L15 Y15 hQ15 => ?_
    obtain ⟨rfl, rfl, rfl⟩ := hQ15
    show own_G p e below _ (T15.setTop (mkF m 46 #[.val (.int x0), .val (.int k), .val (.ref r3), .val (.int (1 : Int32)), .val (.int (1 : Int32))] [(.ref er)]))
    refine own_getS 49 Y15 (host := "") (Or.inl (own_wd hw 31 rfl)) Via.refl Se at_46 rfl fun T17 Y16 => ?_
    refine own_acmp 54 true Y16 at_49 rfl rfl (decide_eq_true rfl) (by decide) (by decide) ?_
    refine own_iconst 55 Y16 (1 : Int32) at_54 rfl rfl ?_
    exact own_retN Y16 (t := .boolean) rfl (by simp) at_55 (by decide) (by decide) ⟨rfl, Fr.nil n0⟩
  · show own_G p e below _ (T1.setTop (mkF m 12 #[.val (.int x0), .val (.int k), .unset, .unset, .unset] [(.ref r4)]))
    refine own_astoreN 13 Y1 #[.val (.int x0), .val (.int k), .val (.ref r4), .unset, .unset] at_12 rfl rfl rfl ?_
    refine own_aloadN 14 Y1 at_13 rfl rfl rfl ?_
    refine own_callV 17 Y1 [] [] E4 (own_wd hw 8 rfl) (own_wd hw 9 rfl) (notFace_of_selects (args := #[]) (mvT Y1.warm (own_wd hw 11 rfl))) (own_wd hw 11 rfl) (own_wd hw 10 rfl) (own_wd hw 6 rfl) (own_wd hw 12 rfl) (c_stopsOut l Z a0 hw r4 (4 : Int32) h0 F4 E4 (by decide)) at_14 (by decide) (lenOf pd2 rfl) rfl rfl (by decide) (by decide) (by decide) (by decide) rfl fun v18 T18 h18 L18 Y18 hQ18 => ?_
    obtain ⟨rfl, rfl, rfl⟩ := hQ18
    show own_G p e below _ (T18.setTop (mkF m 17 #[.val (.int x0), .val (.int k), .val (.ref r4), .unset, .unset] [(.int (0 : Int32))]))
    refine own_istoreN 18 Y18 #[.val (.int x0), .val (.int k), .val (.ref r4), .val (.int (0 : Int32)), .unset] at_17 rfl rfl ?_
    refine own_iloadN 19 Y18 at_18 rfl rfl ?_
    refine own_iconst 20 Y18 (4 : Int32) at_19 rfl rfl ?_
    refine own_icT 27 Y18 at_20 (XT.ii_ge_t (by rw [hk]; decide)) (by decide) ?_
    refine own_iconst 28 Y18 (0 : Int32) at_27 rfl rfl ?_
    refine own_istore 30 Y18 #[.val (.int x0), .val (.int k), .val (.ref r4), .val (.int (0 : Int32)), .val (.int (0 : Int32))] at_28 rfl rfl ?_
    refine own_iloadN 31 Y18 at_30 rfl rfl ?_
    refine own_iload 33 Y18 at_31 rfl rfl ?_
    refine own_icT 38 Y18 at_33 (XT.ii_eq_t rfl) (by decide) ?_
    refine own_iloadN 39 Y18 at_38 rfl rfl ?_
    refine own_ifT 54 Y18 at_39 (XT.i0_eq_t rfl) (by decide) ?_
    refine own_iconst 55 Y18 (1 : Int32) at_54 rfl rfl ?_
    exact own_retN Y18 (t := .boolean) rfl (by simp) at_55 (by decide) (by decide) ⟨rfl, Fr.nil n0⟩
  · show own_G p e below _ (T1.setTop (mkF m 12 #[.val (.int x0), .val (.int k), .unset, .unset, .unset] [(.ref r5)]))
    refine own_astoreN 13 Y1 #[.val (.int x0), .val (.int k), .val (.ref r5), .unset, .unset] at_12 rfl rfl rfl ?_
    refine own_aloadN 14 Y1 at_13 rfl rfl rfl ?_
    refine own_callV 17 Y1 [] [] E5 (own_wd hw 8 rfl) (own_wd hw 9 rfl) (notFace_of_selects (args := #[]) (mvT Y1.warm (own_wd hw 11 rfl))) (own_wd hw 11 rfl) (own_wd hw 10 rfl) (own_wd hw 6 rfl) (own_wd hw 12 rfl) (c_stopsOut l Z a0 hw r5 (5 : Int32) h0 F5 E5 (by decide)) at_14 (by decide) (lenOf pd2 rfl) rfl rfl (by decide) (by decide) (by decide) (by decide) rfl fun v19 T19 h19 L19 Y19 hQ19 => ?_
    obtain ⟨rfl, rfl, rfl⟩ := hQ19
    show own_G p e below _ (T19.setTop (mkF m 17 #[.val (.int x0), .val (.int k), .val (.ref r5), .unset, .unset] [(.int (0 : Int32))]))
    refine own_istoreN 18 Y19 #[.val (.int x0), .val (.int k), .val (.ref r5), .val (.int (0 : Int32)), .unset] at_17 rfl rfl ?_
    refine own_iloadN 19 Y19 at_18 rfl rfl ?_
    refine own_iconst 20 Y19 (4 : Int32) at_19 rfl rfl ?_
    refine own_icT 27 Y19 at_20 (XT.ii_ge_t (by rw [hk]; decide)) (by decide) ?_
    refine own_iconst 28 Y19 (0 : Int32) at_27 rfl rfl ?_
    refine own_istore 30 Y19 #[.val (.int x0), .val (.int k), .val (.ref r5), .val (.int (0 : Int32)), .val (.int (0 : Int32))] at_28 rfl rfl ?_
    refine own_iloadN 31 Y19 at_30 rfl rfl ?_
    refine own_iload 33 Y19 at_31 rfl rfl ?_
    refine own_icT 38 Y19 at_33 (XT.ii_eq_t rfl) (by decide) ?_
    refine own_iloadN 39 Y19 at_38 rfl rfl ?_
    refine own_ifT 54 Y19 at_39 (XT.i0_eq_t rfl) (by decide) ?_
    refine own_iconst 55 Y19 (1 : Int32) at_54 rfl rfl ?_
    exact own_retN Y19 (t := .boolean) rfl (by simp) at_55 (by decide) (by decide) ⟨rfl, Fr.nil n0⟩
  · show own_G p e below _ (T1.setTop (mkF m 12 #[.val (.int x0), .val (.int k), .unset, .unset, .unset] [(.ref r6)]))
    refine own_astoreN 13 Y1 #[.val (.int x0), .val (.int k), .val (.ref r6), .unset, .unset] at_12 rfl rfl rfl ?_
    refine own_aloadN 14 Y1 at_13 rfl rfl rfl ?_
    refine own_callV 17 Y1 [] [] E6 (own_wd hw 8 rfl) (own_wd hw 9 rfl) (notFace_of_selects (args := #[]) (mvT Y1.warm (own_wd hw 11 rfl))) (own_wd hw 11 rfl) (own_wd hw 10 rfl) (own_wd hw 6 rfl) (own_wd hw 12 rfl) (c_stopsOut l Z a0 hw r6 (6 : Int32) h0 F6 E6 (by decide)) at_14 (by decide) (lenOf pd2 rfl) rfl rfl (by decide) (by decide) (by decide) (by decide) rfl fun v20 T20 h20 L20 Y20 hQ20 => ?_
    obtain ⟨rfl, rfl, rfl⟩ := hQ20
    show own_G p e below _ (T20.setTop (mkF m 17 #[.val (.int x0), .val (.int k), .val (.ref r6), .unset, .unset] [(.int (0 : Int32))]))
    refine own_istoreN 18 Y20 #[.val (.int x0), .val (.int k), .val (.ref r6), .val (.int (0 : Int32)), .unset] at_17 rfl rfl ?_
    refine own_iloadN 19 Y20 at_18 rfl rfl ?_
    refine own_iconst 20 Y20 (4 : Int32) at_19 rfl rfl ?_
    refine own_icT 27 Y20 at_20 (XT.ii_ge_t (by rw [hk]; decide)) (by decide) ?_
    refine own_iconst 28 Y20 (0 : Int32) at_27 rfl rfl ?_
    refine own_istore 30 Y20 #[.val (.int x0), .val (.int k), .val (.ref r6), .val (.int (0 : Int32)), .val (.int (0 : Int32))] at_28 rfl rfl ?_
    refine own_iloadN 31 Y20 at_30 rfl rfl ?_
    refine own_iload 33 Y20 at_31 rfl rfl ?_
    refine own_icT 38 Y20 at_33 (XT.ii_eq_t rfl) (by decide) ?_
    refine own_iloadN 39 Y20 at_38 rfl rfl ?_
    refine own_ifT 54 Y20 at_39 (XT.i0_eq_t rfl) (by decide) ?_
    refine own_iconst 55 Y20 (1 : Int32) at_54 rfl rfl ?_
    exact own_retN Y20 (t := .boolean) rfl (by simp) at_55 (by decide) (by decide) ⟨rfl, Fr.nil n0⟩
  · show own_G p e below _ (T1.setTop (mkF m 12 #[.val (.int x0), .val (.int k), .unset, .unset, .unset] [(.ref r7)]))
    refine own_astoreN 13 Y1 #[.val (.int x0), .val (.int k), .val (.ref r7), .unset, .unset] at_12 rfl rfl rfl ?_
    refine own_aloadN 14 Y1 at_13 rfl rfl rfl ?_
    refine own_callV 17 Y1 [] [] E7 (own_wd hw 8 rfl) (own_wd hw 9 rfl) (notFace_of_selects (args := #[]) (mvT Y1.warm (own_wd hw 11 rfl))) (own_wd hw 11 rfl) (own_wd hw 10 rfl) (own_wd hw 6 rfl) (own_wd hw 12 rfl) (c_stopsOut l Z a0 hw r7 (7 : Int32) h0 F7 E7 (by decide)) at_14 (by decide) (lenOf pd2 rfl) rfl rfl (by decide) (by decide) (by decide) (by decide) rfl fun v21 T21 h21 L21 Y21 hQ21 => ?_
    obtain ⟨rfl, rfl, rfl⟩ := hQ21
    show own_G p e below _ (T21.setTop (mkF m 17 #[.val (.int x0), .val (.int k), .val (.ref r7), .unset, .unset] [(.int (0 : Int32))]))
    refine own_istoreN 18 Y21 #[.val (.int x0), .val (.int k), .val (.ref r7), .val (.int (0 : Int32)), .unset] at_17 rfl rfl ?_
    refine own_iloadN 19 Y21 at_18 rfl rfl ?_
    refine own_iconst 20 Y21 (4 : Int32) at_19 rfl rfl ?_
    refine own_icT 27 Y21 at_20 (XT.ii_ge_t (by rw [hk]; decide)) (by decide) ?_
    refine own_iconst 28 Y21 (0 : Int32) at_27 rfl rfl ?_
    refine own_istore 30 Y21 #[.val (.int x0), .val (.int k), .val (.ref r7), .val (.int (0 : Int32)), .val (.int (0 : Int32))] at_28 rfl rfl ?_
    refine own_iloadN 31 Y21 at_30 rfl rfl ?_
    refine own_iload 33 Y21 at_31 rfl rfl ?_
    refine own_icT 38 Y21 at_33 (XT.ii_eq_t rfl) (by decide) ?_
    refine own_iloadN 39 Y21 at_38 rfl rfl ?_
    refine own_ifT 54 Y21 at_39 (XT.i0_eq_t rfl) (by decide) ?_
    refine own_iconst 55 Y21 (1 : Int32) at_54 rfl rfl ?_
    exact own_retN Y21 (t := .boolean) rfl (by simp) at_55 (by decide) (by decide) ⟨rfl, Fr.nil n0⟩
  · show own_G p e below _ (T1.setTop (mkF m 12 #[.val (.int x0), .val (.int k), .unset, .unset, .unset] [(.ref r8)]))
    refine own_astoreN 13 Y1 #[.val (.int x0), .val (.int k), .val (.ref r8), .unset, .unset] at_12 rfl rfl rfl ?_
    refine own_aloadN 14 Y1 at_13 rfl rfl rfl ?_
    refine own_callV 17 Y1 [] [] E8 (own_wd hw 8 rfl) (own_wd hw 9 rfl) (notFace_of_selects (args := #[]) (mvT Y1.warm (own_wd hw 11 rfl))) (own_wd hw 11 rfl) (own_wd hw 10 rfl) (own_wd hw 6 rfl) (own_wd hw 12 rfl) (c_stopsOut l Z a0 hw r8 (8 : Int32) h0 F8 E8 (by decide)) at_14 (by decide) (lenOf pd2 rfl) rfl rfl (by decide) (by decide) (by decide) (by decide) rfl fun v22 T22 h22 L22 Y22 hQ22 => ?_
    obtain ⟨rfl, rfl, rfl⟩ := hQ22
    show own_G p e below _ (T22.setTop (mkF m 17 #[.val (.int x0), .val (.int k), .val (.ref r8), .unset, .unset] [(.int (0 : Int32))]))
    refine own_istoreN 18 Y22 #[.val (.int x0), .val (.int k), .val (.ref r8), .val (.int (0 : Int32)), .unset] at_17 rfl rfl ?_
    refine own_iloadN 19 Y22 at_18 rfl rfl ?_
    refine own_iconst 20 Y22 (4 : Int32) at_19 rfl rfl ?_
    refine own_icT 27 Y22 at_20 (XT.ii_ge_t (by rw [hk]; decide)) (by decide) ?_
    refine own_iconst 28 Y22 (0 : Int32) at_27 rfl rfl ?_
    refine own_istore 30 Y22 #[.val (.int x0), .val (.int k), .val (.ref r8), .val (.int (0 : Int32)), .val (.int (0 : Int32))] at_28 rfl rfl ?_
    refine own_iloadN 31 Y22 at_30 rfl rfl ?_
    refine own_iload 33 Y22 at_31 rfl rfl ?_
    refine own_icT 38 Y22 at_33 (XT.ii_eq_t rfl) (by decide) ?_
    refine own_iloadN 39 Y22 at_38 rfl rfl ?_
    refine own_ifT 54 Y22 at_39 (XT.i0_eq_t rfl) (by decide) ?_
    refine own_iconst 55 Y22 (1 : Int32) at_54 rfl rfl ?_
    exact own_retN Y22 (t := .boolean) rfl (by simp) at_55 (by decide) (by decide) ⟨rfl, Fr.nil n0⟩
  · show own_G p e below _ (T1.setTop (mkF m 12 #[.val (.int x0), .val (.int k), .unset, .unset, .unset] [(.ref r9)]))
    refine own_astoreN 13 Y1 #[.val (.int x0), .val (.int k), .val (.ref r9), .unset, .unset] at_12 rfl rfl rfl ?_
    refine own_aloadN 14 Y1 at_13 rfl rfl rfl ?_
    refine own_callV 17 Y1 [] [] E9 (own_wd hw 8 rfl) (own_wd hw 9 rfl) (notFace_of_selects (args := #[]) (mvT Y1.warm (own_wd hw 11 rfl))) (own_wd hw 11 rfl) (own_wd hw 10 rfl) (own_wd hw 6 rfl) (own_wd hw 12 rfl) (c_stopsOut l Z a0 hw r9 (9 : Int32) h0 F9 E9 (by decide)) at_14 (by decide) (lenOf pd2 rfl) rfl rfl (by decide) (by decide) (by decide) (by decide) rfl fun v23 T23 h23 L23 Y23 hQ23 => ?_
    obtain ⟨rfl, rfl, rfl⟩ := hQ23
    show own_G p e below _ (T23.setTop (mkF m 17 #[.val (.int x0), .val (.int k), .val (.ref r9), .unset, .unset] [(.int (0 : Int32))]))
    refine own_istoreN 18 Y23 #[.val (.int x0), .val (.int k), .val (.ref r9), .val (.int (0 : Int32)), .unset] at_17 rfl rfl ?_
    refine own_iloadN 19 Y23 at_18 rfl rfl ?_
    refine own_iconst 20 Y23 (4 : Int32) at_19 rfl rfl ?_
    refine own_icT 27 Y23 at_20 (XT.ii_ge_t (by rw [hk]; decide)) (by decide) ?_
    refine own_iconst 28 Y23 (0 : Int32) at_27 rfl rfl ?_
    refine own_istore 30 Y23 #[.val (.int x0), .val (.int k), .val (.ref r9), .val (.int (0 : Int32)), .val (.int (0 : Int32))] at_28 rfl rfl ?_
    refine own_iloadN 31 Y23 at_30 rfl rfl ?_
    refine own_iload 33 Y23 at_31 rfl rfl ?_
    refine own_icT 38 Y23 at_33 (XT.ii_eq_t rfl) (by decide) ?_
    refine own_iloadN 39 Y23 at_38 rfl rfl ?_
    refine own_ifT 54 Y23 at_39 (XT.i0_eq_t rfl) (by decide) ?_
    refine own_iconst 55 Y23 (1 : Int32) at_54 rfl rfl ?_
    exact own_retN Y23 (t := .boolean) rfl (by simp) at_55 (by decide) (by decide) ⟨rfl, Fr.nil n0⟩
  · show own_G p e below _ (T1.setTop (mkF m 12 #[.val (.int x0), .val (.int k), .unset, .unset, .unset] [(.ref r10)]))
    refine own_astoreN 13 Y1 #[.val (.int x0), .val (.int k), .val (.ref r10), .unset, .unset] at_12 rfl rfl rfl ?_
    refine own_aloadN 14 Y1 at_13 rfl rfl rfl ?_
    refine own_callV 17 Y1 [] [] E10 (own_wd hw 8 rfl) (own_wd hw 9 rfl) (notFace_of_selects (args := #[]) (mvT Y1.warm (own_wd hw 11 rfl))) (own_wd hw 11 rfl) (own_wd hw 10 rfl) (own_wd hw 6 rfl) (own_wd hw 12 rfl) (c_stopsOut l Z a0 hw r10 (10 : Int32) h0 F10 E10 (by decide)) at_14 (by decide) (lenOf pd2 rfl) rfl rfl (by decide) (by decide) (by decide) (by decide) rfl fun v24 T24 h24 L24 Y24 hQ24 => ?_
    obtain ⟨rfl, rfl, rfl⟩ := hQ24
    show own_G p e below _ (T24.setTop (mkF m 17 #[.val (.int x0), .val (.int k), .val (.ref r10), .unset, .unset] [(.int (0 : Int32))]))
    refine own_istoreN 18 Y24 #[.val (.int x0), .val (.int k), .val (.ref r10), .val (.int (0 : Int32)), .unset] at_17 rfl rfl ?_
    refine own_iloadN 19 Y24 at_18 rfl rfl ?_
    refine own_iconst 20 Y24 (4 : Int32) at_19 rfl rfl ?_
    refine own_icT 27 Y24 at_20 (XT.ii_ge_t (by rw [hk]; decide)) (by decide) ?_
    refine own_iconst 28 Y24 (0 : Int32) at_27 rfl rfl ?_
    refine own_istore 30 Y24 #[.val (.int x0), .val (.int k), .val (.ref r10), .val (.int (0 : Int32)), .val (.int (0 : Int32))] at_28 rfl rfl ?_
    refine own_iloadN 31 Y24 at_30 rfl rfl ?_
    refine own_iload 33 Y24 at_31 rfl rfl ?_
    refine own_icT 38 Y24 at_33 (XT.ii_eq_t rfl) (by decide) ?_
    refine own_iloadN 39 Y24 at_38 rfl rfl ?_
    refine own_ifT 54 Y24 at_39 (XT.i0_eq_t rfl) (by decide) ?_
    refine own_iconst 55 Y24 (1 : Int32) at_54 rfl rfl ?_
    exact own_retN Y24 (t := .boolean) rfl (by simp) at_55 (by decide) (by decide) ⟨rfl, Fr.nil n0⟩
  · show own_G p e below _ (T1.setTop (mkF m 12 #[.val (.int x0), .val (.int k), .unset, .unset, .unset] [(.ref r11)]))
    refine own_astoreN 13 Y1 #[.val (.int x0), .val (.int k), .val (.ref r11), .unset, .unset] at_12 rfl rfl rfl ?_
    refine own_aloadN 14 Y1 at_13 rfl rfl rfl ?_
    refine own_callV 17 Y1 [] [] E11 (own_wd hw 8 rfl) (own_wd hw 9 rfl) (notFace_of_selects (args := #[]) (mvT Y1.warm (own_wd hw 11 rfl))) (own_wd hw 11 rfl) (own_wd hw 10 rfl) (own_wd hw 6 rfl) (own_wd hw 12 rfl) (c_stopsOut l Z a0 hw r11 (11 : Int32) h0 F11 E11 (by decide)) at_14 (by decide) (lenOf pd2 rfl) rfl rfl (by decide) (by decide) (by decide) (by decide) rfl fun v25 T25 h25 L25 Y25 hQ25 => ?_
    obtain ⟨rfl, rfl, rfl⟩ := hQ25
    show own_G p e below _ (T25.setTop (mkF m 17 #[.val (.int x0), .val (.int k), .val (.ref r11), .unset, .unset] [(.int (0 : Int32))]))
    refine own_istoreN 18 Y25 #[.val (.int x0), .val (.int k), .val (.ref r11), .val (.int (0 : Int32)), .unset] at_17 rfl rfl ?_
    refine own_iloadN 19 Y25 at_18 rfl rfl ?_
    refine own_iconst 20 Y25 (4 : Int32) at_19 rfl rfl ?_
    refine own_icT 27 Y25 at_20 (XT.ii_ge_t (by rw [hk]; decide)) (by decide) ?_
    refine own_iconst 28 Y25 (0 : Int32) at_27 rfl rfl ?_
    refine own_istore 30 Y25 #[.val (.int x0), .val (.int k), .val (.ref r11), .val (.int (0 : Int32)), .val (.int (0 : Int32))] at_28 rfl rfl ?_
    refine own_iloadN 31 Y25 at_30 rfl rfl ?_
    refine own_iload 33 Y25 at_31 rfl rfl ?_
    refine own_icT 38 Y25 at_33 (XT.ii_eq_t rfl) (by decide) ?_
    refine own_iloadN 39 Y25 at_38 rfl rfl ?_
    refine own_ifT 54 Y25 at_39 (XT.i0_eq_t rfl) (by decide) ?_
    refine own_iconst 55 Y25 (1 : Int32) at_54 rfl rfl ?_
    exact own_retN Y25 (t := .boolean) rfl (by simp) at_55 (by decide) (by decide) ⟨rfl, Fr.nil n0⟩
  · show own_G p e below _ (T1.setTop (mkF m 12 #[.val (.int x0), .val (.int k), .unset, .unset, .unset] [(.ref r12)]))
    refine own_astoreN 13 Y1 #[.val (.int x0), .val (.int k), .val (.ref r12), .unset, .unset] at_12 rfl rfl rfl ?_
    refine own_aloadN 14 Y1 at_13 rfl rfl rfl ?_
    refine own_callV 17 Y1 [] [] E12 (own_wd hw 8 rfl) (own_wd hw 9 rfl) (notFace_of_selects (args := #[]) (mvT Y1.warm (own_wd hw 11 rfl))) (own_wd hw 11 rfl) (own_wd hw 10 rfl) (own_wd hw 6 rfl) (own_wd hw 12 rfl) (c_stopsOut l Z a0 hw r12 (12 : Int32) h0 F12 E12 (by decide)) at_14 (by decide) (lenOf pd2 rfl) rfl rfl (by decide) (by decide) (by decide) (by decide) rfl fun v26 T26 h26 L26 Y26 hQ26 => ?_
    obtain ⟨rfl, rfl, rfl⟩ := hQ26
    show own_G p e below _ (T26.setTop (mkF m 17 #[.val (.int x0), .val (.int k), .val (.ref r12), .unset, .unset] [(.int (0 : Int32))]))
    refine own_istoreN 18 Y26 #[.val (.int x0), .val (.int k), .val (.ref r12), .val (.int (0 : Int32)), .unset] at_17 rfl rfl ?_
    refine own_iloadN 19 Y26 at_18 rfl rfl ?_
    refine own_iconst 20 Y26 (4 : Int32) at_19 rfl rfl ?_
    refine own_icT 27 Y26 at_20 (XT.ii_ge_t (by rw [hk]; decide)) (by decide) ?_
    refine own_iconst 28 Y26 (0 : Int32) at_27 rfl rfl ?_
    refine own_istore 30 Y26 #[.val (.int x0), .val (.int k), .val (.ref r12), .val (.int (0 : Int32)), .val (.int (0 : Int32))] at_28 rfl rfl ?_
    refine own_iloadN 31 Y26 at_30 rfl rfl ?_
    refine own_iload 33 Y26 at_31 rfl rfl ?_
    refine own_icT 38 Y26 at_33 (XT.ii_eq_t rfl) (by decide) ?_
    refine own_iloadN 39 Y26 at_38 rfl rfl ?_
    refine own_ifT 54 Y26 at_39 (XT.i0_eq_t rfl) (by decide) ?_
    refine own_iconst 55 Y26 (1 : Int32) at_54 rfl rfl ?_
    exact own_retN Y26 (t := .boolean) rfl (by simp) at_55 (by decide) (by decide) ⟨rfl, Fr.nil n0⟩
  · show own_G p e below _ (T1.setTop (mkF m 12 #[.val (.int x0), .val (.int k), .unset, .unset, .unset] [(.ref r13)]))
    refine own_astoreN 13 Y1 #[.val (.int x0), .val (.int k), .val (.ref r13), .unset, .unset] at_12 rfl rfl rfl ?_
    refine own_aloadN 14 Y1 at_13 rfl rfl rfl ?_
    refine own_callV 17 Y1 [] [] E13 (own_wd hw 8 rfl) (own_wd hw 9 rfl) (notFace_of_selects (args := #[]) (mvT Y1.warm (own_wd hw 11 rfl))) (own_wd hw 11 rfl) (own_wd hw 10 rfl) (own_wd hw 6 rfl) (own_wd hw 12 rfl) (c_stopsOut l Z a0 hw r13 (13 : Int32) h0 F13 E13 (by decide)) at_14 (by decide) (lenOf pd2 rfl) rfl rfl (by decide) (by decide) (by decide) (by decide) rfl fun v27 T27 h27 L27 Y27 hQ27 => ?_
    obtain ⟨rfl, rfl, rfl⟩ := hQ27
    show own_G p e below _ (T27.setTop (mkF m 17 #[.val (.int x0), .val (.int k), .val (.ref r13), .unset, .unset] [(.int (0 : Int32))]))
    refine own_istoreN 18 Y27 #[.val (.int x0), .val (.int k), .val (.ref r13), .val (.int (0 : Int32)), .unset] at_17 rfl rfl ?_
    refine own_iloadN 19 Y27 at_18 rfl rfl ?_
    refine own_iconst 20 Y27 (4 : Int32) at_19 rfl rfl ?_
    refine own_icT 27 Y27 at_20 (XT.ii_ge_t (by rw [hk]; decide)) (by decide) ?_
    refine own_iconst 28 Y27 (0 : Int32) at_27 rfl rfl ?_
    refine own_istore 30 Y27 #[.val (.int x0), .val (.int k), .val (.ref r13), .val (.int (0 : Int32)), .val (.int (0 : Int32))] at_28 rfl rfl ?_
    refine own_iloadN 31 Y27 at_30 rfl rfl ?_
    refine own_iload 33 Y27 at_31 rfl rfl ?_
    refine own_icT 38 Y27 at_33 (XT.ii_eq_t rfl) (by decide) ?_
    refine own_iloadN 39 Y27 at_38 rfl rfl ?_
    refine own_ifT 54 Y27 at_39 (XT.i0_eq_t rfl) (by decide) ?_
    refine own_iconst 55 Y27 (1 : Int32) at_54 rfl rfl ?_
    exact own_retN Y27 (t := .boolean) rfl (by simp) at_55 (by decide) (by decide) ⟨rfl, Fr.nil n0⟩
  · show own_G p e below _ (T1.setTop (mkF m 12 #[.val (.int x0), .val (.int k), .unset, .unset, .unset] [(.ref r14)]))
    refine own_astoreN 13 Y1 #[.val (.int x0), .val (.int k), .val (.ref r14), .unset, .unset] at_12 rfl rfl rfl ?_
    refine own_aloadN 14 Y1 at_13 rfl rfl rfl ?_
    refine own_callV 17 Y1 [] [] E14 (own_wd hw 8 rfl) (own_wd hw 9 rfl) (notFace_of_selects (args := #[]) (mvT Y1.warm (own_wd hw 11 rfl))) (own_wd hw 11 rfl) (own_wd hw 10 rfl) (own_wd hw 6 rfl) (own_wd hw 12 rfl) (c_stopsOut l Z a0 hw r14 (14 : Int32) h0 F14 E14 (by decide)) at_14 (by decide) (lenOf pd2 rfl) rfl rfl (by decide) (by decide) (by decide) (by decide) rfl fun v28 T28 h28 L28 Y28 hQ28 => ?_
    obtain ⟨rfl, rfl, rfl⟩ := hQ28
    show own_G p e below _ (T28.setTop (mkF m 17 #[.val (.int x0), .val (.int k), .val (.ref r14), .unset, .unset] [(.int (0 : Int32))]))
    refine own_istoreN 18 Y28 #[.val (.int x0), .val (.int k), .val (.ref r14), .val (.int (0 : Int32)), .unset] at_17 rfl rfl ?_
    refine own_iloadN 19 Y28 at_18 rfl rfl ?_
    refine own_iconst 20 Y28 (4 : Int32) at_19 rfl rfl ?_
    refine own_icT 27 Y28 at_20 (XT.ii_ge_t (by rw [hk]; decide)) (by decide) ?_
    refine own_iconst 28 Y28 (0 : Int32) at_27 rfl rfl ?_
    refine own_istore 30 Y28 #[.val (.int x0), .val (.int k), .val (.ref r14), .val (.int (0 : Int32)), .val (.int (0 : Int32))] at_28 rfl rfl ?_
    refine own_iloadN 31 Y28 at_30 rfl rfl ?_
    refine own_iload 33 Y28 at_31 rfl rfl ?_
    refine own_icT 38 Y28 at_33 (XT.ii_eq_t rfl) (by decide) ?_
    refine own_iloadN 39 Y28 at_38 rfl rfl ?_
    refine own_ifT 54 Y28 at_39 (XT.i0_eq_t rfl) (by decide) ?_
    refine own_iconst 55 Y28 (1 : Int32) at_54 rfl rfl ?_
    exact own_retN Y28 (t := .boolean) rfl (by simp) at_55 (by decide) (by decide) ⟨rfl, Fr.nil n0⟩
  · show own_G p e below _ (T1.setTop (mkF m 12 #[.val (.int x0), .val (.int k), .unset, .unset, .unset] [(.ref r15)]))
    refine own_astoreN 13 Y1 #[.val (.int x0), .val (.int k), .val (.ref r15), .unset, .unset] at_12 rfl rfl rfl ?_
    refine own_aloadN 14 Y1 at_13 rfl rfl rfl ?_
    refine own_callV 17 Y1 [] [] E15 (own_wd hw 8 rfl) (own_wd hw 9 rfl) (notFace_of_selects (args := #[]) (mvT Y1.warm (own_wd hw 11 rfl))) (own_wd hw 11 rfl) (own_wd hw 10 rfl) (own_wd hw 6 rfl) (own_wd hw 12 rfl) (c_stopsOut l Z a0 hw r15 (15 : Int32) h0 F15 E15 (by decide)) at_14 (by decide) (lenOf pd2 rfl) rfl rfl (by decide) (by decide) (by decide) (by decide) rfl fun v29 T29 h29 L29 Y29 hQ29 => ?_
    obtain ⟨rfl, rfl, rfl⟩ := hQ29
    show own_G p e below _ (T29.setTop (mkF m 17 #[.val (.int x0), .val (.int k), .val (.ref r15), .unset, .unset] [(.int (0 : Int32))]))
    refine own_istoreN 18 Y29 #[.val (.int x0), .val (.int k), .val (.ref r15), .val (.int (0 : Int32)), .unset] at_17 rfl rfl ?_
    refine own_iloadN 19 Y29 at_18 rfl rfl ?_
    refine own_iconst 20 Y29 (4 : Int32) at_19 rfl rfl ?_
    refine own_icT 27 Y29 at_20 (XT.ii_ge_t (by rw [hk]; decide)) (by decide) ?_
    refine own_iconst 28 Y29 (0 : Int32) at_27 rfl rfl ?_
    refine own_istore 30 Y29 #[.val (.int x0), .val (.int k), .val (.ref r15), .val (.int (0 : Int32)), .val (.int (0 : Int32))] at_28 rfl rfl ?_
    refine own_iloadN 31 Y29 at_30 rfl rfl ?_
    refine own_iload 33 Y29 at_31 rfl rfl ?_
    refine own_icT 38 Y29 at_33 (XT.ii_eq_t rfl) (by decide) ?_
    refine own_iloadN 39 Y29 at_38 rfl rfl ?_
    refine own_ifT 54 Y29 at_39 (XT.i0_eq_t rfl) (by decide) ?_
    refine own_iconst 55 Y29 (1 : Int32) at_54 rfl rfl ?_
    exact own_retN Y29 (t := .boolean) rfl (by simp) at_55 (by decide) (by decide) ⟨rfl, Fr.nil n0⟩
  · show own_G p e below _ (T1.setTop (mkF m 12 #[.val (.int x0), .val (.int k), .unset, .unset, .unset] [(.ref r16)]))
    refine own_astoreN 13 Y1 #[.val (.int x0), .val (.int k), .val (.ref r16), .unset, .unset] at_12 rfl rfl rfl ?_
    refine own_aloadN 14 Y1 at_13 rfl rfl rfl ?_
    refine own_callV 17 Y1 [] [] E16 (own_wd hw 8 rfl) (own_wd hw 9 rfl) (notFace_of_selects (args := #[]) (mvT Y1.warm (own_wd hw 11 rfl))) (own_wd hw 11 rfl) (own_wd hw 10 rfl) (own_wd hw 6 rfl) (own_wd hw 12 rfl) (c_stopsOut l Z a0 hw r16 (16 : Int32) h0 F16 E16 (by decide)) at_14 (by decide) (lenOf pd2 rfl) rfl rfl (by decide) (by decide) (by decide) (by decide) rfl fun v30 T30 h30 L30 Y30 hQ30 => ?_
    obtain ⟨rfl, rfl, rfl⟩ := hQ30
    show own_G p e below _ (T30.setTop (mkF m 17 #[.val (.int x0), .val (.int k), .val (.ref r16), .unset, .unset] [(.int (0 : Int32))]))
    refine own_istoreN 18 Y30 #[.val (.int x0), .val (.int k), .val (.ref r16), .val (.int (0 : Int32)), .unset] at_17 rfl rfl ?_
    refine own_iloadN 19 Y30 at_18 rfl rfl ?_
    refine own_iconst 20 Y30 (4 : Int32) at_19 rfl rfl ?_
    refine own_icT 27 Y30 at_20 (XT.ii_ge_t (by rw [hk]; decide)) (by decide) ?_
    refine own_iconst 28 Y30 (0 : Int32) at_27 rfl rfl ?_
    refine own_istore 30 Y30 #[.val (.int x0), .val (.int k), .val (.ref r16), .val (.int (0 : Int32)), .val (.int (0 : Int32))] at_28 rfl rfl ?_
    refine own_iloadN 31 Y30 at_30 rfl rfl ?_
    refine own_iload 33 Y30 at_31 rfl rfl ?_
    refine own_icT 38 Y30 at_33 (XT.ii_eq_t rfl) (by decide) ?_
    refine own_iloadN 39 Y30 at_38 rfl rfl ?_
    refine own_ifT 54 Y30 at_39 (XT.i0_eq_t rfl) (by decide) ?_
    refine own_iconst 55 Y30 (1 : Int32) at_54 rfl rfl ?_
    exact own_retN Y30 (t := .boolean) rfl (by simp) at_55 (by decide) (by decide) ⟨rfl, Fr.nil n0⟩
  · show own_G p e below _ (T1.setTop (mkF m 12 #[.val (.int x0), .val (.int k), .unset, .unset, .unset] [(.ref r17)]))
    refine own_astoreN 13 Y1 #[.val (.int x0), .val (.int k), .val (.ref r17), .unset, .unset] at_12 rfl rfl rfl ?_
    refine own_aloadN 14 Y1 at_13 rfl rfl rfl ?_
    refine own_callV 17 Y1 [] [] E17 (own_wd hw 8 rfl) (own_wd hw 9 rfl) (notFace_of_selects (args := #[]) (mvT Y1.warm (own_wd hw 11 rfl))) (own_wd hw 11 rfl) (own_wd hw 10 rfl) (own_wd hw 6 rfl) (own_wd hw 12 rfl) (c_stopsOut l Z a0 hw r17 (17 : Int32) h0 F17 E17 (by decide)) at_14 (by decide) (lenOf pd2 rfl) rfl rfl (by decide) (by decide) (by decide) (by decide) rfl fun v31 T31 h31 L31 Y31 hQ31 => ?_
    obtain ⟨rfl, rfl, rfl⟩ := hQ31
    show own_G p e below _ (T31.setTop (mkF m 17 #[.val (.int x0), .val (.int k), .val (.ref r17), .unset, .unset] [(.int (0 : Int32))]))
    refine own_istoreN 18 Y31 #[.val (.int x0), .val (.int k), .val (.ref r17), .val (.int (0 : Int32)), .unset] at_17 rfl rfl ?_
    refine own_iloadN 19 Y31 at_18 rfl rfl ?_
    refine own_iconst 20 Y31 (4 : Int32) at_19 rfl rfl ?_
    refine own_icT 27 Y31 at_20 (XT.ii_ge_t (by rw [hk]; decide)) (by decide) ?_
    refine own_iconst 28 Y31 (0 : Int32) at_27 rfl rfl ?_
    refine own_istore 30 Y31 #[.val (.int x0), .val (.int k), .val (.ref r17), .val (.int (0 : Int32)), .val (.int (0 : Int32))] at_28 rfl rfl ?_
    refine own_iloadN 31 Y31 at_30 rfl rfl ?_
    refine own_iload 33 Y31 at_31 rfl rfl ?_
    refine own_icT 38 Y31 at_33 (XT.ii_eq_t rfl) (by decide) ?_
    refine own_iloadN 39 Y31 at_38 rfl rfl ?_
    refine own_ifT 54 Y31 at_39 (XT.i0_eq_t rfl) (by decide) ?_
    refine own_iconst 55 Y31 (1 : Int32) at_54 rfl rfl ?_
    exact own_retN Y31 (t := .boolean) rfl (by simp) at_55 (by decide) (by decide) ⟨rfl, Fr.nil n0⟩
  · show own_G p e below _ (T1.setTop (mkF m 12 #[.val (.int x0), .val (.int k), .unset, .unset, .unset] [(.ref r18)]))
    refine own_astoreN 13 Y1 #[.val (.int x0), .val (.int k), .val (.ref r18), .unset, .unset] at_12 rfl rfl rfl ?_
    refine own_aloadN 14 Y1 at_13 rfl rfl rfl ?_
    refine own_callV 17 Y1 [] [] E18 (own_wd hw 8 rfl) (own_wd hw 9 rfl) (notFace_of_selects (args := #[]) (mvT Y1.warm (own_wd hw 11 rfl))) (own_wd hw 11 rfl) (own_wd hw 10 rfl) (own_wd hw 6 rfl) (own_wd hw 12 rfl) (c_stopsOut l Z a0 hw r18 (18 : Int32) h0 F18 E18 (by decide)) at_14 (by decide) (lenOf pd2 rfl) rfl rfl (by decide) (by decide) (by decide) (by decide) rfl fun v32 T32 h32 L32 Y32 hQ32 => ?_
    obtain ⟨rfl, rfl, rfl⟩ := hQ32
    show own_G p e below _ (T32.setTop (mkF m 17 #[.val (.int x0), .val (.int k), .val (.ref r18), .unset, .unset] [(.int (0 : Int32))]))
    refine own_istoreN 18 Y32 #[.val (.int x0), .val (.int k), .val (.ref r18), .val (.int (0 : Int32)), .unset] at_17 rfl rfl ?_
    refine own_iloadN 19 Y32 at_18 rfl rfl ?_
    refine own_iconst 20 Y32 (4 : Int32) at_19 rfl rfl ?_
    refine own_icT 27 Y32 at_20 (XT.ii_ge_t (by rw [hk]; decide)) (by decide) ?_
    refine own_iconst 28 Y32 (0 : Int32) at_27 rfl rfl ?_
    refine own_istore 30 Y32 #[.val (.int x0), .val (.int k), .val (.ref r18), .val (.int (0 : Int32)), .val (.int (0 : Int32))] at_28 rfl rfl ?_
    refine own_iloadN 31 Y32 at_30 rfl rfl ?_
    refine own_iload 33 Y32 at_31 rfl rfl ?_
    refine own_icT 38 Y32 at_33 (XT.ii_eq_t rfl) (by decide) ?_
    refine own_iloadN 39 Y32 at_38 rfl rfl ?_
    refine own_ifT 54 Y32 at_39 (XT.i0_eq_t rfl) (by decide) ?_
    refine own_iconst 55 Y32 (1 : Int32) at_54 rfl rfl ?_
    exact own_retN Y32 (t := .boolean) rfl (by simp) at_55 (by decide) (by decide) ⟨rfl, Fr.nil n0⟩
  · show own_G p e below _ (T1.setTop (mkF m 12 #[.val (.int x0), .val (.int k), .unset, .unset, .unset] [(.ref r19)]))
    refine own_astoreN 13 Y1 #[.val (.int x0), .val (.int k), .val (.ref r19), .unset, .unset] at_12 rfl rfl rfl ?_
    refine own_aloadN 14 Y1 at_13 rfl rfl rfl ?_
    refine own_callV 17 Y1 [] [] E19 (own_wd hw 8 rfl) (own_wd hw 9 rfl) (notFace_of_selects (args := #[]) (mvT Y1.warm (own_wd hw 11 rfl))) (own_wd hw 11 rfl) (own_wd hw 10 rfl) (own_wd hw 6 rfl) (own_wd hw 12 rfl) (c_stopsOut l Z a0 hw r19 (19 : Int32) h0 F19 E19 (by decide)) at_14 (by decide) (lenOf pd2 rfl) rfl rfl (by decide) (by decide) (by decide) (by decide) rfl fun v33 T33 h33 L33 Y33 hQ33 => ?_
    obtain ⟨rfl, rfl, rfl⟩ := hQ33
    show own_G p e below _ (T33.setTop (mkF m 17 #[.val (.int x0), .val (.int k), .val (.ref r19), .unset, .unset] [(.int (0 : Int32))]))
    refine own_istoreN 18 Y33 #[.val (.int x0), .val (.int k), .val (.ref r19), .val (.int (0 : Int32)), .unset] at_17 rfl rfl ?_
    refine own_iloadN 19 Y33 at_18 rfl rfl ?_
    refine own_iconst 20 Y33 (4 : Int32) at_19 rfl rfl ?_
    refine own_icT 27 Y33 at_20 (XT.ii_ge_t (by rw [hk]; decide)) (by decide) ?_
    refine own_iconst 28 Y33 (0 : Int32) at_27 rfl rfl ?_
    refine own_istore 30 Y33 #[.val (.int x0), .val (.int k), .val (.ref r19), .val (.int (0 : Int32)), .val (.int (0 : Int32))] at_28 rfl rfl ?_
    refine own_iloadN 31 Y33 at_30 rfl rfl ?_
    refine own_iload 33 Y33 at_31 rfl rfl ?_
    refine own_icT 38 Y33 at_33 (XT.ii_eq_t rfl) (by decide) ?_
    refine own_iloadN 39 Y33 at_38 rfl rfl ?_
    refine own_ifT 54 Y33 at_39 (XT.i0_eq_t rfl) (by decide) ?_
    refine own_iconst 55 Y33 (1 : Int32) at_54 rfl rfl ?_
    exact own_retN Y33 (t := .boolean) rfl (by simp) at_55 (by decide) (by decide) ⟨rfl, Fr.nil n0⟩
  · show own_G p e below _ (T1.setTop (mkF m 12 #[.val (.int x0), .val (.int k), .unset, .unset, .unset] [(.ref r20)]))
    refine own_astoreN 13 Y1 #[.val (.int x0), .val (.int k), .val (.ref r20), .unset, .unset] at_12 rfl rfl rfl ?_
    refine own_aloadN 14 Y1 at_13 rfl rfl rfl ?_
    refine own_callV 17 Y1 [] [] E20 (own_wd hw 8 rfl) (own_wd hw 9 rfl) (notFace_of_selects (args := #[]) (mvT Y1.warm (own_wd hw 11 rfl))) (own_wd hw 11 rfl) (own_wd hw 10 rfl) (own_wd hw 6 rfl) (own_wd hw 12 rfl) (c_stopsOut l Z a0 hw r20 (20 : Int32) h0 F20 E20 (by decide)) at_14 (by decide) (lenOf pd2 rfl) rfl rfl (by decide) (by decide) (by decide) (by decide) rfl fun v34 T34 h34 L34 Y34 hQ34 => ?_
    obtain ⟨rfl, rfl, rfl⟩ := hQ34
    show own_G p e below _ (T34.setTop (mkF m 17 #[.val (.int x0), .val (.int k), .val (.ref r20), .unset, .unset] [(.int (0 : Int32))]))
    refine own_istoreN 18 Y34 #[.val (.int x0), .val (.int k), .val (.ref r20), .val (.int (0 : Int32)), .unset] at_17 rfl rfl ?_
    refine own_iloadN 19 Y34 at_18 rfl rfl ?_
    refine own_iconst 20 Y34 (4 : Int32) at_19 rfl rfl ?_
    refine own_icT 27 Y34 at_20 (XT.ii_ge_t (by rw [hk]; decide)) (by decide) ?_
    refine own_iconst 28 Y34 (0 : Int32) at_27 rfl rfl ?_
    refine own_istore 30 Y34 #[.val (.int x0), .val (.int k), .val (.ref r20), .val (.int (0 : Int32)), .val (.int (0 : Int32))] at_28 rfl rfl ?_
    refine own_iloadN 31 Y34 at_30 rfl rfl ?_
    refine own_iload 33 Y34 at_31 rfl rfl ?_
    refine own_icT 38 Y34 at_33 (XT.ii_eq_t rfl) (by decide) ?_
    refine own_iloadN 39 Y34 at_38 rfl rfl ?_
    refine own_ifT 54 Y34 at_39 (XT.i0_eq_t rfl) (by decide) ?_
    refine own_iconst 55 Y34 (1 : Int32) at_54 rfl rfl ?_
    exact own_retN Y34 (t := .boolean) rfl (by simp) at_55 (by decide) (by decide) ⟨rfl, Fr.nil n0⟩
  · show own_G p e below _ (T1.setTop (mkF m 12 #[.val (.int x0), .val (.int k), .unset, .unset, .unset] [(.ref r21)]))
    refine own_astoreN 13 Y1 #[.val (.int x0), .val (.int k), .val (.ref r21), .unset, .unset] at_12 rfl rfl rfl ?_
    refine own_aloadN 14 Y1 at_13 rfl rfl rfl ?_
    refine own_callV 17 Y1 [] [] E21 (own_wd hw 8 rfl) (own_wd hw 9 rfl) (notFace_of_selects (args := #[]) (mvT Y1.warm (own_wd hw 11 rfl))) (own_wd hw 11 rfl) (own_wd hw 10 rfl) (own_wd hw 6 rfl) (own_wd hw 12 rfl) (c_stopsOut l Z a0 hw r21 (21 : Int32) h0 F21 E21 (by decide)) at_14 (by decide) (lenOf pd2 rfl) rfl rfl (by decide) (by decide) (by decide) (by decide) rfl fun v35 T35 h35 L35 Y35 hQ35 => ?_
    obtain ⟨rfl, rfl, rfl⟩ := hQ35
    show own_G p e below _ (T35.setTop (mkF m 17 #[.val (.int x0), .val (.int k), .val (.ref r21), .unset, .unset] [(.int (0 : Int32))]))
    refine own_istoreN 18 Y35 #[.val (.int x0), .val (.int k), .val (.ref r21), .val (.int (0 : Int32)), .unset] at_17 rfl rfl ?_
    refine own_iloadN 19 Y35 at_18 rfl rfl ?_
    refine own_iconst 20 Y35 (4 : Int32) at_19 rfl rfl ?_
    refine own_icT 27 Y35 at_20 (XT.ii_ge_t (own_ge4 hk0 k0 k1 k2 k3)) (by decide) ?_
    refine own_iconst 28 Y35 (0 : Int32) at_27 rfl rfl ?_
    refine own_istore 30 Y35 #[.val (.int x0), .val (.int k), .val (.ref r21), .val (.int (0 : Int32)), .val (.int (0 : Int32))] at_28 rfl rfl ?_
    refine own_iloadN 31 Y35 at_30 rfl rfl ?_
    refine own_iload 33 Y35 at_31 rfl rfl ?_
    refine own_icT 38 Y35 at_33 (XT.ii_eq_t rfl) (by decide) ?_
    refine own_iloadN 39 Y35 at_38 rfl rfl ?_
    refine own_ifT 54 Y35 at_39 (XT.i0_eq_t rfl) (by decide) ?_
    refine own_iconst 55 Y35 (1 : Int32) at_54 rfl rfl ?_
    exact own_retN Y35 (t := .boolean) rfl (by simp) at_55 (by decide) (by decide) ⟨rfl, Fr.nil n0⟩
theorem own_fref {args : Array Value} {Z : State} {t u : Term} {a b : Addr} {C n d : String} (ev : t.eval args Z none [] Z = some (.ref a)) (eu : u.eval args Z none [] Z = some (.ref b)) (hx : (Jvm.Cond.eq (Jvm.Term.field t C n d) u).value args Z none Z [] = some true) : Fld Z Z.heap a C n d (.ref b) := by
  obtain ⟨z, v, e1, e2, k1, k2⟩ := cmp_v (Or.inl hx)
  cases eu.symm.trans e2
  have q := gotT (eq_R e1 e2 k2.2 rfl) hx
  subst q
  rw [fld_at ev] at e1
  exact Fld.start e1
set_option maxRecDepth 65536 in
set_option maxHeartbeats 40000000 in
theorem comes_1 {Post : Tables → Env → Array Value → State → Outcome → State → Prop} (hpost : ∀ tb e args s v u, (limb_1_1.after args s (.returned v) u = true ∧ limb_1_2.after args s (.returned v) u = true ∧ True) → FrameEnd s (.returned v) u (Jvm.fieldLocs frame_1_writes args s ++ Jvm.arrayLocs frame_1_arrays args s ++ Jvm.staticLocs frame_1_statics s) 0 0 → Post tb e args s (.returned v) u) :
    ArmFor flags0 classFile x code maxLocals ret World_1 tables_1 room_1 Calls_1 rest_1 Pre_1 Post := by
  intro l hfl _ _ p e ha hc hk s m args below hf hA hF happ hP
  obtain ⟨hcalls, hrest, hpre⟩ := hP
  obtain ⟨-, -, -, hnamed, -, -, -, hat⟩ := (Spec.applies_iff hf).mp happ
  obtain ⟨hg, hn⟩ := and_e (Cond.before_iff.mp (show (Jvm.Cond.and given_1 narrow_1).before args s = true from hpre))
  obtain ⟨g0, hg⟩ := and_e hg
  have g1 := hg
  obtain ⟨w0, rfl⟩ : ∃ w0 : Value, args = #[w0] := by
    have hs : args.size = 1 := by simpa [Cond.value, given_1] using g0
    obtain ⟨L⟩ := args
    match L, hs with
    | [w0], _ => exact ⟨w0, rfl⟩
  have hw := fun d (hd : d ∈ tables_1) => atoms_spec (ws := Jvm.Cond.code x code maxLocals ret :: tables_1) hat d (List.mem_cons_of_mem _ hd)
  have hfit : Fit s := fun {y c} hc i hi => by
    obtain ⟨ha, rfl⟩ := Array.getElem?_eq_some_iff.mp hc
    have q := List.all_eq_true.mp ((Array.all_eq_true_iff_forall_mem.mp hF) _ (Array.getElem_mem ha)) i (List.mem_range.mpr hi)
    simpa [Array.getElem?_eq_getElem hi] using q
  obtain ⟨i0, ei0⟩ := is_v g1
  obtain rfl : w0 = (.int i0) := Option.some.inj ei0
  obtain ⟨n0, hn⟩ := and_e hn
  obtain ⟨n1, hn⟩ := and_e hn
  obtain ⟨n2, hn⟩ := and_e hn
  obtain ⟨n3, hn⟩ := and_e hn
  obtain ⟨n4, hn⟩ := and_e hn
  obtain ⟨n5, hn⟩ := and_e hn
  obtain ⟨n6, hn⟩ := and_e hn
  obtain ⟨n7, hn⟩ := and_e hn
  obtain ⟨n8, hn⟩ := and_e hn
  obtain ⟨n9, hn⟩ := and_e hn
  obtain ⟨n10, hn⟩ := and_e hn
  obtain ⟨n11, hn⟩ := and_e hn
  obtain ⟨n12, hn⟩ := and_e hn
  obtain ⟨n13, hn⟩ := and_e hn
  obtain ⟨n14, hn⟩ := and_e hn
  obtain ⟨n15, hn⟩ := and_e hn
  obtain ⟨n16, hn⟩ := and_e hn
  obtain ⟨n17, hn⟩ := and_e hn
  obtain ⟨n18, hn⟩ := and_e hn
  obtain ⟨n19, hn⟩ := and_e hn
  obtain ⟨n20, hn⟩ := and_e hn
  obtain ⟨n21, hn⟩ := and_e hn
  obtain ⟨n22, hn⟩ := and_e hn
  obtain ⟨n23, hn⟩ := and_e hn
  obtain ⟨n24, hn⟩ := and_e hn
  obtain ⟨n25, hn⟩ := and_e hn
  obtain ⟨n26, hn⟩ := and_e hn
  obtain ⟨n27, hn⟩ := and_e hn
  obtain ⟨n28, hn⟩ := and_e hn
  obtain ⟨n29, hn⟩ := and_e hn
  obtain ⟨n30, hn⟩ := and_e hn
  obtain ⟨n31, hn⟩ := and_e hn
  obtain ⟨n32, hn⟩ := and_e hn
  obtain ⟨n33, hn⟩ := and_e hn
  obtain ⟨n34, hn⟩ := and_e hn
  obtain ⟨n35, hn⟩ := and_e hn
  obtain ⟨n36, hn⟩ := and_e hn
  obtain ⟨n37, hn⟩ := and_e hn
  obtain ⟨n38, hn⟩ := and_e hn
  obtain ⟨n39, hn⟩ := and_e hn
  obtain ⟨n40, hn⟩ := and_e hn
  obtain ⟨n41, hn⟩ := and_e hn
  obtain ⟨n42, hn⟩ := and_e hn
  obtain ⟨n43, hn⟩ := and_e hn
  obtain ⟨n44, hn⟩ := and_e hn
  obtain ⟨n45, hn⟩ := and_e hn
  obtain ⟨n46, hn⟩ := and_e hn
  obtain ⟨n47, hn⟩ := and_e hn
  obtain ⟨n48, hn⟩ := and_e hn
  obtain ⟨n49, hn⟩ := and_e hn
  obtain ⟨n50, hn⟩ := and_e hn
  obtain ⟨n51, hn⟩ := and_e hn
  obtain ⟨n52, hn⟩ := and_e hn
  obtain ⟨n53, hn⟩ := and_e hn
  obtain ⟨n54, hn⟩ := and_e hn
  obtain ⟨n55, hn⟩ := and_e hn
  obtain ⟨n56, hn⟩ := and_e hn
  obtain ⟨n57, hn⟩ := and_e hn
  obtain ⟨n58, hn⟩ := and_e hn
  obtain ⟨n59, hn⟩ := and_e hn
  obtain ⟨n60, hn⟩ := and_e hn
  obtain ⟨n61, hn⟩ := and_e hn
  obtain ⟨n62, hn⟩ := and_e hn
  obtain ⟨n63, hn⟩ := and_e hn
  obtain ⟨n64, hn⟩ := and_e hn
  obtain ⟨n65, hn⟩ := and_e hn
  obtain ⟨n66, hn⟩ := and_e hn
  have n67 := hn
  obtain ⟨a_Rule_JSON_SYNTAX, ev_Rule_JSON_SYNTAX⟩ := exa_v n0
  have S_Rule_JSON_SYNTAX : Sta s s.heap "com/example/chunkwright/chunkwright/Rule" "JSON_SYNTAX" "Lcom/example/chunkwright/chunkwright/Rule;" (.ref a_Rule_JSON_SYNTAX) := Sta.start ev_Rule_JSON_SYNTAX (Or.inr ⟨(own_wd hw 6 rfl), (own_wd hw 7 rfl)⟩)
  have E_Rule_JSON_SYNTAX : Exa s s.heap a_Rule_JSON_SYNTAX "com/example/chunkwright/chunkwright/Rule" := Exa.start ev_Rule_JSON_SYNTAX n0
  have F_Rule_JSON_SYNTAX_ordinal : Fld s s.heap a_Rule_JSON_SYNTAX "java/lang/Enum" "ordinal" "I" (.int (0 : Int32)) := own_ord ev_Rule_JSON_SYNTAX n1
  obtain ⟨a_Severity_ERROR, ev_Severity_ERROR⟩ := exa_v n2
  have S_Severity_ERROR : Sta s s.heap "com/example/chunkwright/chunkwright/Severity" "ERROR" "Lcom/example/chunkwright/chunkwright/Severity;" (.ref a_Severity_ERROR) := Sta.start ev_Severity_ERROR (Or.inr ⟨(own_wd hw 29 rfl), (own_wd hw 30 rfl)⟩)
  have E_Severity_ERROR : Exa s s.heap a_Severity_ERROR "com/example/chunkwright/chunkwright/Severity" := Exa.start ev_Severity_ERROR n2
  obtain ⟨a_Rule_MEMBER_UNKNOWN, ev_Rule_MEMBER_UNKNOWN⟩ := exa_v n4
  have S_Rule_MEMBER_UNKNOWN : Sta s s.heap "com/example/chunkwright/chunkwright/Rule" "MEMBER_UNKNOWN" "Lcom/example/chunkwright/chunkwright/Rule;" (.ref a_Rule_MEMBER_UNKNOWN) := Sta.start ev_Rule_MEMBER_UNKNOWN (Or.inr ⟨(own_wd hw 6 rfl), (own_wd hw 33 rfl)⟩)
  have E_Rule_MEMBER_UNKNOWN : Exa s s.heap a_Rule_MEMBER_UNKNOWN "com/example/chunkwright/chunkwright/Rule" := Exa.start ev_Rule_MEMBER_UNKNOWN n4
  have F_Rule_MEMBER_UNKNOWN_ordinal : Fld s s.heap a_Rule_MEMBER_UNKNOWN "java/lang/Enum" "ordinal" "I" (.int (3 : Int32)) := own_ord ev_Rule_MEMBER_UNKNOWN n5
  obtain ⟨a_Rule_FORMAT_VERSION, ev_Rule_FORMAT_VERSION⟩ := exa_v n7
  have S_Rule_FORMAT_VERSION : Sta s s.heap "com/example/chunkwright/chunkwright/Rule" "FORMAT_VERSION" "Lcom/example/chunkwright/chunkwright/Rule;" (.ref a_Rule_FORMAT_VERSION) := Sta.start ev_Rule_FORMAT_VERSION (Or.inr ⟨(own_wd hw 6 rfl), (own_wd hw 35 rfl)⟩)
  have E_Rule_FORMAT_VERSION : Exa s s.heap a_Rule_FORMAT_VERSION "com/example/chunkwright/chunkwright/Rule" := Exa.start ev_Rule_FORMAT_VERSION n7
  have F_Rule_FORMAT_VERSION_ordinal : Fld s s.heap a_Rule_FORMAT_VERSION "java/lang/Enum" "ordinal" "I" (.int (7 : Int32)) := own_ord ev_Rule_FORMAT_VERSION n8
  obtain ⟨a_Rule_UNKNOWN_FORMAT_VERSION, ev_Rule_UNKNOWN_FORMAT_VERSION⟩ := exa_v n9
  have S_Rule_UNKNOWN_FORMAT_VERSION : Sta s s.heap "com/example/chunkwright/chunkwright/Rule" "UNKNOWN_FORMAT_VERSION" "Lcom/example/chunkwright/chunkwright/Rule;" (.ref a_Rule_UNKNOWN_FORMAT_VERSION) := Sta.start ev_Rule_UNKNOWN_FORMAT_VERSION (Or.inr ⟨(own_wd hw 6 rfl), (own_wd hw 37 rfl)⟩)
  have E_Rule_UNKNOWN_FORMAT_VERSION : Exa s s.heap a_Rule_UNKNOWN_FORMAT_VERSION "com/example/chunkwright/chunkwright/Rule" := Exa.start ev_Rule_UNKNOWN_FORMAT_VERSION n9
  have F_Rule_UNKNOWN_FORMAT_VERSION_ordinal : Fld s s.heap a_Rule_UNKNOWN_FORMAT_VERSION "java/lang/Enum" "ordinal" "I" (.int (8 : Int32)) := own_ord ev_Rule_UNKNOWN_FORMAT_VERSION n10
  obtain ⟨a_Rule_MEMBER_MISSING, ev_Rule_MEMBER_MISSING⟩ := exa_v n11
  have S_Rule_MEMBER_MISSING : Sta s s.heap "com/example/chunkwright/chunkwright/Rule" "MEMBER_MISSING" "Lcom/example/chunkwright/chunkwright/Rule;" (.ref a_Rule_MEMBER_MISSING) := Sta.start ev_Rule_MEMBER_MISSING (Or.inr ⟨(own_wd hw 6 rfl), (own_wd hw 39 rfl)⟩)
  have E_Rule_MEMBER_MISSING : Exa s s.heap a_Rule_MEMBER_MISSING "com/example/chunkwright/chunkwright/Rule" := Exa.start ev_Rule_MEMBER_MISSING n11
  have F_Rule_MEMBER_MISSING_ordinal : Fld s s.heap a_Rule_MEMBER_MISSING "java/lang/Enum" "ordinal" "I" (.int (2 : Int32)) := own_ord ev_Rule_MEMBER_MISSING n12
  obtain ⟨a_Rule_DUPLICATE_ENTRY, ev_Rule_DUPLICATE_ENTRY⟩ := exa_v n14
  have S_Rule_DUPLICATE_ENTRY : Sta s s.heap "com/example/chunkwright/chunkwright/Rule" "DUPLICATE_ENTRY" "Lcom/example/chunkwright/chunkwright/Rule;" (.ref a_Rule_DUPLICATE_ENTRY) := Sta.start ev_Rule_DUPLICATE_ENTRY (Or.inr ⟨(own_wd hw 6 rfl), (own_wd hw 41 rfl)⟩)
  have E_Rule_DUPLICATE_ENTRY : Exa s s.heap a_Rule_DUPLICATE_ENTRY "com/example/chunkwright/chunkwright/Rule" := Exa.start ev_Rule_DUPLICATE_ENTRY n14
  have F_Rule_DUPLICATE_ENTRY_ordinal : Fld s s.heap a_Rule_DUPLICATE_ENTRY "java/lang/Enum" "ordinal" "I" (.int (11 : Int32)) := own_ord ev_Rule_DUPLICATE_ENTRY n15
  obtain ⟨a_Rule_DUPLICATE_NODE_ID, ev_Rule_DUPLICATE_NODE_ID⟩ := exa_v n16
  have S_Rule_DUPLICATE_NODE_ID : Sta s s.heap "com/example/chunkwright/chunkwright/Rule" "DUPLICATE_NODE_ID" "Lcom/example/chunkwright/chunkwright/Rule;" (.ref a_Rule_DUPLICATE_NODE_ID) := Sta.start ev_Rule_DUPLICATE_NODE_ID (Or.inr ⟨(own_wd hw 6 rfl), (own_wd hw 43 rfl)⟩)
  have E_Rule_DUPLICATE_NODE_ID : Exa s s.heap a_Rule_DUPLICATE_NODE_ID "com/example/chunkwright/chunkwright/Rule" := Exa.start ev_Rule_DUPLICATE_NODE_ID n16
  have F_Rule_DUPLICATE_NODE_ID_ordinal : Fld s s.heap a_Rule_DUPLICATE_NODE_ID "java/lang/Enum" "ordinal" "I" (.int (10 : Int32)) := own_ord ev_Rule_DUPLICATE_NODE_ID n17
  obtain ⟨a_Rule_JSON_TYPE, ev_Rule_JSON_TYPE⟩ := exa_v n18
  have S_Rule_JSON_TYPE : Sta s s.heap "com/example/chunkwright/chunkwright/Rule" "JSON_TYPE" "Lcom/example/chunkwright/chunkwright/Rule;" (.ref a_Rule_JSON_TYPE) := Sta.start ev_Rule_JSON_TYPE (Or.inr ⟨(own_wd hw 6 rfl), (own_wd hw 45 rfl)⟩)
  have E_Rule_JSON_TYPE : Exa s s.heap a_Rule_JSON_TYPE "com/example/chunkwright/chunkwright/Rule" := Exa.start ev_Rule_JSON_TYPE n18
  have F_Rule_JSON_TYPE_ordinal : Fld s s.heap a_Rule_JSON_TYPE "java/lang/Enum" "ordinal" "I" (.int (1 : Int32)) := own_ord ev_Rule_JSON_TYPE n19
  obtain ⟨a_Rule_DUPLICATE_KEY, ev_Rule_DUPLICATE_KEY⟩ := exa_v n21
  have S_Rule_DUPLICATE_KEY : Sta s s.heap "com/example/chunkwright/chunkwright/Rule" "DUPLICATE_KEY" "Lcom/example/chunkwright/chunkwright/Rule;" (.ref a_Rule_DUPLICATE_KEY) := Sta.start ev_Rule_DUPLICATE_KEY (Or.inr ⟨(own_wd hw 6 rfl), (own_wd hw 47 rfl)⟩)
  have E_Rule_DUPLICATE_KEY : Exa s s.heap a_Rule_DUPLICATE_KEY "com/example/chunkwright/chunkwright/Rule" := Exa.start ev_Rule_DUPLICATE_KEY n21
  have F_Rule_DUPLICATE_KEY_ordinal : Fld s s.heap a_Rule_DUPLICATE_KEY "java/lang/Enum" "ordinal" "I" (.int (9 : Int32)) := own_ord ev_Rule_DUPLICATE_KEY n22
  obtain ⟨a_Rule_KEY_FORMAT, ev_Rule_KEY_FORMAT⟩ := exa_v n23
  have S_Rule_KEY_FORMAT : Sta s s.heap "com/example/chunkwright/chunkwright/Rule" "KEY_FORMAT" "Lcom/example/chunkwright/chunkwright/Rule;" (.ref a_Rule_KEY_FORMAT) := Sta.start ev_Rule_KEY_FORMAT (Or.inr ⟨(own_wd hw 6 rfl), (own_wd hw 49 rfl)⟩)
  have E_Rule_KEY_FORMAT : Exa s s.heap a_Rule_KEY_FORMAT "com/example/chunkwright/chunkwright/Rule" := Exa.start ev_Rule_KEY_FORMAT n23
  have F_Rule_KEY_FORMAT_ordinal : Fld s s.heap a_Rule_KEY_FORMAT "java/lang/Enum" "ordinal" "I" (.int (5 : Int32)) := own_ord ev_Rule_KEY_FORMAT n24
  obtain ⟨a_Rule_CLASSIFIER_UNKNOWN, ev_Rule_CLASSIFIER_UNKNOWN⟩ := exa_v n25
  have S_Rule_CLASSIFIER_UNKNOWN : Sta s s.heap "com/example/chunkwright/chunkwright/Rule" "CLASSIFIER_UNKNOWN" "Lcom/example/chunkwright/chunkwright/Rule;" (.ref a_Rule_CLASSIFIER_UNKNOWN) := Sta.start ev_Rule_CLASSIFIER_UNKNOWN (Or.inr ⟨(own_wd hw 6 rfl), (own_wd hw 51 rfl)⟩)
  have E_Rule_CLASSIFIER_UNKNOWN : Exa s s.heap a_Rule_CLASSIFIER_UNKNOWN "com/example/chunkwright/chunkwright/Rule" := Exa.start ev_Rule_CLASSIFIER_UNKNOWN n25
  have F_Rule_CLASSIFIER_UNKNOWN_ordinal : Fld s s.heap a_Rule_CLASSIFIER_UNKNOWN "java/lang/Enum" "ordinal" "I" (.int (16 : Int32)) := own_ord ev_Rule_CLASSIFIER_UNKNOWN n26
  obtain ⟨a_Rule_VERSION_FORMAT, ev_Rule_VERSION_FORMAT⟩ := exa_v n27
  have S_Rule_VERSION_FORMAT : Sta s s.heap "com/example/chunkwright/chunkwright/Rule" "VERSION_FORMAT" "Lcom/example/chunkwright/chunkwright/Rule;" (.ref a_Rule_VERSION_FORMAT) := Sta.start ev_Rule_VERSION_FORMAT (Or.inr ⟨(own_wd hw 6 rfl), (own_wd hw 53 rfl)⟩)
  have E_Rule_VERSION_FORMAT : Exa s s.heap a_Rule_VERSION_FORMAT "com/example/chunkwright/chunkwright/Rule" := Exa.start ev_Rule_VERSION_FORMAT n27
  have F_Rule_VERSION_FORMAT_ordinal : Fld s s.heap a_Rule_VERSION_FORMAT "java/lang/Enum" "ordinal" "I" (.int (6 : Int32)) := own_ord ev_Rule_VERSION_FORMAT n28
  obtain ⟨a_Rule_PROPERTY_VALUE, ev_Rule_PROPERTY_VALUE⟩ := exa_v n29
  have S_Rule_PROPERTY_VALUE : Sta s s.heap "com/example/chunkwright/chunkwright/Rule" "PROPERTY_VALUE" "Lcom/example/chunkwright/chunkwright/Rule;" (.ref a_Rule_PROPERTY_VALUE) := Sta.start ev_Rule_PROPERTY_VALUE (Or.inr ⟨(own_wd hw 6 rfl), (own_wd hw 55 rfl)⟩)
  have E_Rule_PROPERTY_VALUE : Exa s s.heap a_Rule_PROPERTY_VALUE "com/example/chunkwright/chunkwright/Rule" := Exa.start ev_Rule_PROPERTY_VALUE n29
  have F_Rule_PROPERTY_VALUE_ordinal : Fld s s.heap a_Rule_PROPERTY_VALUE "java/lang/Enum" "ordinal" "I" (.int (19 : Int32)) := own_ord ev_Rule_PROPERTY_VALUE n30
  obtain ⟨a_Rule_FEATURE_KIND, ev_Rule_FEATURE_KIND⟩ := exa_v n31
  have S_Rule_FEATURE_KIND : Sta s s.heap "com/example/chunkwright/chunkwright/Rule" "FEATURE_KIND" "Lcom/example/chunkwright/chunkwright/Rule;" (.ref a_Rule_FEATURE_KIND) := Sta.start ev_Rule_FEATURE_KIND (Or.inr ⟨(own_wd hw 6 rfl), (own_wd hw 57 rfl)⟩)
  have E_Rule_FEATURE_KIND : Exa s s.heap a_Rule_FEATURE_KIND "com/example/chunkwright/chunkwright/Rule" := Exa.start ev_Rule_FEATURE_KIND n31
  have F_Rule_FEATURE_KIND_ordinal : Fld s s.heap a_Rule_FEATURE_KIND "java/lang/Enum" "ordinal" "I" (.int (18 : Int32)) := own_ord ev_Rule_FEATURE_KIND n32
  obtain ⟨a_Rule_PARENT_CYCLE, ev_Rule_PARENT_CYCLE⟩ := exa_v n33
  have S_Rule_PARENT_CYCLE : Sta s s.heap "com/example/chunkwright/chunkwright/Rule" "PARENT_CYCLE" "Lcom/example/chunkwright/chunkwright/Rule;" (.ref a_Rule_PARENT_CYCLE) := Sta.start ev_Rule_PARENT_CYCLE (Or.inr ⟨(own_wd hw 6 rfl), (own_wd hw 59 rfl)⟩)
  have E_Rule_PARENT_CYCLE : Exa s s.heap a_Rule_PARENT_CYCLE "com/example/chunkwright/chunkwright/Rule" := Exa.start ev_Rule_PARENT_CYCLE n33
  have F_Rule_PARENT_CYCLE_ordinal : Fld s s.heap a_Rule_PARENT_CYCLE "java/lang/Enum" "ordinal" "I" (.int (15 : Int32)) := own_ord ev_Rule_PARENT_CYCLE n34
  obtain ⟨a_Rule_ID_FORMAT, ev_Rule_ID_FORMAT⟩ := exa_v n35
  have S_Rule_ID_FORMAT : Sta s s.heap "com/example/chunkwright/chunkwright/Rule" "ID_FORMAT" "Lcom/example/chunkwright/chunkwright/Rule;" (.ref a_Rule_ID_FORMAT) := Sta.start ev_Rule_ID_FORMAT (Or.inr ⟨(own_wd hw 6 rfl), (own_wd hw 61 rfl)⟩)
  have E_Rule_ID_FORMAT : Exa s s.heap a_Rule_ID_FORMAT "com/example/chunkwright/chunkwright/Rule" := Exa.start ev_Rule_ID_FORMAT n35
  have F_Rule_ID_FORMAT_ordinal : Fld s s.heap a_Rule_ID_FORMAT "java/lang/Enum" "ordinal" "I" (.int (4 : Int32)) := own_ord ev_Rule_ID_FORMAT n36
  obtain ⟨a_Rule_NOT_CONVERTIBLE, ev_Rule_NOT_CONVERTIBLE⟩ := exa_v n37
  have S_Rule_NOT_CONVERTIBLE : Sta s s.heap "com/example/chunkwright/chunkwright/Rule" "NOT_CONVERTIBLE" "Lcom/example/chunkwright/chunkwright/Rule;" (.ref a_Rule_NOT_CONVERTIBLE) := Sta.start ev_Rule_NOT_CONVERTIBLE (Or.inr ⟨(own_wd hw 6 rfl), (own_wd hw 63 rfl)⟩)
  have E_Rule_NOT_CONVERTIBLE : Exa s s.heap a_Rule_NOT_CONVERTIBLE "com/example/chunkwright/chunkwright/Rule" := Exa.start ev_Rule_NOT_CONVERTIBLE n37
  have F_Rule_NOT_CONVERTIBLE_ordinal : Fld s s.heap a_Rule_NOT_CONVERTIBLE "java/lang/Enum" "ordinal" "I" (.int (21 : Int32)) := own_ord ev_Rule_NOT_CONVERTIBLE n38
  obtain ⟨a_Rule_CHILD_MISMATCH, ev_Rule_CHILD_MISMATCH⟩ := exa_v n39
  have S_Rule_CHILD_MISMATCH : Sta s s.heap "com/example/chunkwright/chunkwright/Rule" "CHILD_MISMATCH" "Lcom/example/chunkwright/chunkwright/Rule;" (.ref a_Rule_CHILD_MISMATCH) := Sta.start ev_Rule_CHILD_MISMATCH (Or.inr ⟨(own_wd hw 6 rfl), (own_wd hw 65 rfl)⟩)
  have E_Rule_CHILD_MISMATCH : Exa s s.heap a_Rule_CHILD_MISMATCH "com/example/chunkwright/chunkwright/Rule" := Exa.start ev_Rule_CHILD_MISMATCH n39
  have F_Rule_CHILD_MISMATCH_ordinal : Fld s s.heap a_Rule_CHILD_MISMATCH "java/lang/Enum" "ordinal" "I" (.int (14 : Int32)) := own_ord ev_Rule_CHILD_MISMATCH n40
  obtain ⟨a_Rule_LANGUAGE_UNDECLARED, ev_Rule_LANGUAGE_UNDECLARED⟩ := exa_v n41
  have S_Rule_LANGUAGE_UNDECLARED : Sta s s.heap "com/example/chunkwright/chunkwright/Rule" "LANGUAGE_UNDECLARED" "Lcom/example/chunkwright/chunkwright/Rule;" (.ref a_Rule_LANGUAGE_UNDECLARED) := Sta.start ev_Rule_LANGUAGE_UNDECLARED (Or.inr ⟨(own_wd hw 6 rfl), (own_wd hw 67 rfl)⟩)
  have E_Rule_LANGUAGE_UNDECLARED : Exa s s.heap a_Rule_LANGUAGE_UNDECLARED "com/example/chunkwright/chunkwright/Rule" := Exa.start ev_Rule_LANGUAGE_UNDECLARED n41
  have F_Rule_LANGUAGE_UNDECLARED_ordinal : Fld s s.heap a_Rule_LANGUAGE_UNDECLARED "java/lang/Enum" "ordinal" "I" (.int (12 : Int32)) := own_ord ev_Rule_LANGUAGE_UNDECLARED n42
  obtain ⟨a_Rule_PARENT_MISMATCH, ev_Rule_PARENT_MISMATCH⟩ := exa_v n43
  have S_Rule_PARENT_MISMATCH : Sta s s.heap "com/example/chunkwright/chunkwright/Rule" "PARENT_MISMATCH" "Lcom/example/chunkwright/chunkwright/Rule;" (.ref a_Rule_PARENT_MISMATCH) := Sta.start ev_Rule_PARENT_MISMATCH (Or.inr ⟨(own_wd hw 6 rfl), (own_wd hw 69 rfl)⟩)
  have E_Rule_PARENT_MISMATCH : Exa s s.heap a_Rule_PARENT_MISMATCH "com/example/chunkwright/chunkwright/Rule" := Exa.start ev_Rule_PARENT_MISMATCH n43
  have F_Rule_PARENT_MISMATCH_ordinal : Fld s s.heap a_Rule_PARENT_MISMATCH "java/lang/Enum" "ordinal" "I" (.int (13 : Int32)) := own_ord ev_Rule_PARENT_MISMATCH n44
  obtain ⟨a_Rule_FEATURE_UNKNOWN, ev_Rule_FEATURE_UNKNOWN⟩ := exa_v n45
  have S_Rule_FEATURE_UNKNOWN : Sta s s.heap "com/example/chunkwright/chunkwright/Rule" "FEATURE_UNKNOWN" "Lcom/example/chunkwright/chunkwright/Rule;" (.ref a_Rule_FEATURE_UNKNOWN) := Sta.start ev_Rule_FEATURE_UNKNOWN (Or.inr ⟨(own_wd hw 6 rfl), (own_wd hw 71 rfl)⟩)
  have E_Rule_FEATURE_UNKNOWN : Exa s s.heap a_Rule_FEATURE_UNKNOWN "com/example/chunkwright/chunkwright/Rule" := Exa.start ev_Rule_FEATURE_UNKNOWN n45
  have F_Rule_FEATURE_UNKNOWN_ordinal : Fld s s.heap a_Rule_FEATURE_UNKNOWN "java/lang/Enum" "ordinal" "I" (.int (17 : Int32)) := own_ord ev_Rule_FEATURE_UNKNOWN n46
  obtain ⟨a_Rule_TYPE_UNKNOWN, ev_Rule_TYPE_UNKNOWN⟩ := exa_v n47
  have S_Rule_TYPE_UNKNOWN : Sta s s.heap "com/example/chunkwright/chunkwright/Rule" "TYPE_UNKNOWN" "Lcom/example/chunkwright/chunkwright/Rule;" (.ref a_Rule_TYPE_UNKNOWN) := Sta.start ev_Rule_TYPE_UNKNOWN (Or.inr ⟨(own_wd hw 6 rfl), (own_wd hw 73 rfl)⟩)
  have E_Rule_TYPE_UNKNOWN : Exa s s.heap a_Rule_TYPE_UNKNOWN "com/example/chunkwright/chunkwright/Rule" := Exa.start ev_Rule_TYPE_UNKNOWN n47
  have F_Rule_TYPE_UNKNOWN_ordinal : Fld s s.heap a_Rule_TYPE_UNKNOWN "java/lang/Enum" "ordinal" "I" (.int (20 : Int32)) := own_ord ev_Rule_TYPE_UNKNOWN n48
  obtain ⟨a_Severity_WARNING, ev_Severity_WARNING⟩ := exa_v n50
  have S_Severity_WARNING : Sta s s.heap "com/example/chunkwright/chunkwright/Severity" "WARNING" "Lcom/example/chunkwright/chunkwright/Severity;" (.ref a_Severity_WARNING) := Sta.start ev_Severity_WARNING (Or.inr ⟨(own_wd hw 29 rfl), (own_wd hw 74 rfl)⟩)
  have E_Severity_WARNING : Exa s s.heap a_Severity_WARNING "com/example/chunkwright/chunkwright/Severity" := Exa.start ev_Severity_WARNING n50
  have G_JSON_SYNTAX : Fld s s.heap a_Rule_JSON_SYNTAX "com/example/chunkwright/chunkwright/Rule" "severity" "Lcom/example/chunkwright/chunkwright/Severity;" (.ref a_Severity_ERROR) := own_fref ev_Rule_JSON_SYNTAX ev_Severity_ERROR n3
  have G_JSON_TYPE : Fld s s.heap a_Rule_JSON_TYPE "com/example/chunkwright/chunkwright/Rule" "severity" "Lcom/example/chunkwright/chunkwright/Severity;" (.ref a_Severity_ERROR) := own_fref ev_Rule_JSON_TYPE ev_Severity_ERROR n20
  have G_MEMBER_MISSING : Fld s s.heap a_Rule_MEMBER_MISSING "com/example/chunkwright/chunkwright/Rule" "severity" "Lcom/example/chunkwright/chunkwright/Severity;" (.ref a_Severity_ERROR) := own_fref ev_Rule_MEMBER_MISSING ev_Severity_ERROR n13
  have G_MEMBER_UNKNOWN : Fld s s.heap a_Rule_MEMBER_UNKNOWN "com/example/chunkwright/chunkwright/Rule" "severity" "Lcom/example/chunkwright/chunkwright/Severity;" (.ref a_Severity_ERROR) := own_fref ev_Rule_MEMBER_UNKNOWN ev_Severity_ERROR n6
  obtain ⟨n, o, h1, h2, h3, _, L, rfl, ⟨rfl, N⟩, hq⟩ := (c_law l s _ hw i0 a_Severity_ERROR a_Rule_JSON_SYNTAX a_Rule_JSON_TYPE a_Rule_MEMBER_MISSING a_Rule_MEMBER_UNKNOWN a_Rule_ID_FORMAT a_Rule_KEY_FORMAT a_Rule_VERSION_FORMAT a_Rule_FORMAT_VERSION a_Rule_UNKNOWN_FORMAT_VERSION a_Rule_DUPLICATE_KEY a_Rule_DUPLICATE_NODE_ID a_Rule_DUPLICATE_ENTRY a_Rule_LANGUAGE_UNDECLARED a_Rule_PARENT_MISMATCH a_Rule_CHILD_MISMATCH a_Rule_PARENT_CYCLE a_Rule_CLASSIFIER_UNKNOWN a_Rule_FEATURE_UNKNOWN a_Rule_FEATURE_KIND a_Rule_PROPERTY_VALUE a_Rule_TYPE_UNKNOWN a_Rule_NOT_CONVERTIBLE s.heap s.heap.size S_Severity_ERROR S_Rule_JSON_SYNTAX S_Rule_JSON_TYPE S_Rule_MEMBER_MISSING S_Rule_MEMBER_UNKNOWN S_Rule_ID_FORMAT S_Rule_KEY_FORMAT S_Rule_VERSION_FORMAT S_Rule_FORMAT_VERSION S_Rule_UNKNOWN_FORMAT_VERSION S_Rule_DUPLICATE_KEY S_Rule_DUPLICATE_NODE_ID S_Rule_DUPLICATE_ENTRY S_Rule_LANGUAGE_UNDECLARED S_Rule_PARENT_MISMATCH S_Rule_CHILD_MISMATCH S_Rule_PARENT_CYCLE S_Rule_CLASSIFIER_UNKNOWN S_Rule_FEATURE_UNKNOWN S_Rule_FEATURE_KIND S_Rule_PROPERTY_VALUE S_Rule_TYPE_UNKNOWN S_Rule_NOT_CONVERTIBLE E_Rule_JSON_SYNTAX E_Rule_JSON_TYPE E_Rule_MEMBER_MISSING E_Rule_MEMBER_UNKNOWN E_Rule_ID_FORMAT E_Rule_KEY_FORMAT E_Rule_VERSION_FORMAT E_Rule_FORMAT_VERSION E_Rule_UNKNOWN_FORMAT_VERSION E_Rule_DUPLICATE_KEY E_Rule_DUPLICATE_NODE_ID E_Rule_DUPLICATE_ENTRY E_Rule_LANGUAGE_UNDECLARED E_Rule_PARENT_MISMATCH E_Rule_CHILD_MISMATCH E_Rule_PARENT_CYCLE E_Rule_CLASSIFIER_UNKNOWN E_Rule_FEATURE_UNKNOWN E_Rule_FEATURE_KIND E_Rule_PROPERTY_VALUE E_Rule_TYPE_UNKNOWN E_Rule_NOT_CONVERTIBLE F_Rule_JSON_SYNTAX_ordinal F_Rule_JSON_TYPE_ordinal F_Rule_MEMBER_MISSING_ordinal F_Rule_MEMBER_UNKNOWN_ordinal F_Rule_ID_FORMAT_ordinal F_Rule_KEY_FORMAT_ordinal F_Rule_VERSION_FORMAT_ordinal F_Rule_FORMAT_VERSION_ordinal F_Rule_UNKNOWN_FORMAT_VERSION_ordinal F_Rule_DUPLICATE_KEY_ordinal F_Rule_DUPLICATE_NODE_ID_ordinal F_Rule_DUPLICATE_ENTRY_ordinal F_Rule_LANGUAGE_UNDECLARED_ordinal F_Rule_PARENT_MISMATCH_ordinal F_Rule_CHILD_MISMATCH_ordinal F_Rule_PARENT_CYCLE_ordinal F_Rule_CLASSIFIER_UNKNOWN_ordinal F_Rule_FEATURE_UNKNOWN_ordinal F_Rule_FEATURE_KIND_ordinal F_Rule_PROPERTY_VALUE_ordinal F_Rule_TYPE_UNKNOWN_ordinal F_Rule_NOT_CONVERTIBLE_ordinal G_JSON_SYNTAX G_JSON_TYPE G_MEMBER_MISSING G_MEMBER_UNKNOWN) p e ha hc hk s m _ below hf ((Spec.applies_iff_loose hf).mp happ).1 ⟨rfl, State.Warmed39.refl s, rfl⟩ trivial
  refine ⟨n, _, h1, h2, h3, hpost _ _ _ _ _ _ ⟨Cond.after_iff.mpr rfl, Cond.after_iff.mpr (eq_i res_at (Term.int_eval (1)) rfl), trivial⟩ ⟨hq.1, hq.2.1, (hq.2.2.sift fun y hy => Or.inr (N y hy)).mono (by decide) (by decide)⟩⟩
theorem main_1_1 : Claimed_1_1 := comes_1 fun _ _ _ _ _ _ h hF => ⟨h.1, hF⟩
theorem main_1_2 : Claimed_1_2 := comes_1 fun _ _ _ _ _ _ h hF => ⟨h.2.1, hF⟩
end Jvm.Pilot.@@N@@
namespace Jvm.Pilot.@@N@@
open Jvm Jvm.ClassFile Sem Op Lib Jvm.Free Jvm.Stand Jvm.Pilot.@@N@@.Jvm.D
/-! MADE BY PROGRAM (witnessworld.py) out of the Statement's table words and the real class files: 13 classes; the members and pool entries that the words name. The judged class is class 1, her method 1. -/
namespace start1
open Jvm.ClassFile
def u (s : String) : CpInfo := .utf8 (stringToUtf16 s)
/-- a pool by its gaps: so many unusable entries, then the entry; so many at the end -/
def gap : Nat → List CpInfo → List CpInfo
  | 0, r => r
  | n + 1, r => .unusable :: gap n r
def poolList (es : List (Nat × CpInfo)) (last : Nat) : List CpInfo := es.foldr (fun e r => gap e.1 (e.2 :: r)) (gap last [])
def pool (es : List (Nat × CpInfo)) (last : Nat) : Array CpInfo := ⟨poolList es last⟩
def fileOf (pool : Array CpInfo) (this : Nat) (attrs : Array Attribute := #[]) (ms : Array MethodInfo := #[]) (fl : Nat := 33) (sup : Nat := 0) (ifs : Array Nat := #[]) (fds : Array FieldInfo := #[]) : ClassFile where
  minorVersion := 0
  majorVersion := 65
  constantPool := pool
  accessFlags := fl
  thisClass := this
  superClass := sup
  interfaces := ifs
  fields := fds
  methods := ms
  attributes := attrs
def plain (name : String) (sup : Option ClassId) : Class where
  name := name
  kind := .ordinary
  loader := none
  accessFlags := 33
  super := sup
  interfaces := #[]
  cf := none
  fields := #[]
  methods := #[]
  instanceTypes := #[]
  staticTypes := #[]
  resolved := #[]
  callSites := []
  init := .initialized
  statics := none
  mirror := none

def pool0 : Array CpInfo := pool [(5, u "<init>"), (0, u "()V"), (1, .class_ 10), (1, u "java/lang/Object")] 113

def k0m0 : Method := { name := "<init>", desc := "()V", sig := { parameters := [], returnType := none }, accessFlags := 1, code := none }
/-- java/lang/Object -/
def k0 : Class := { plain "java/lang/Object" none with
  accessFlags := 33
  interfaces := #[]
  cf := some (fileOf pool0 8 #[] #[{ accessFlags := 1, nameIndex := 5, descriptorIndex := 6, attributes := #[] }] 33 0 #[] #[])
  fields := #[]
  methods := #[k0m0]
  instanceTypes := #[]
  staticTypes := #[]
  resolved := Array.replicate 124 none
  statics := none }

def pool1 : Array CpInfo := pool [(2, .class_ 4), (1, u "java/lang/Object"), (0, u "<init>"), (0, u "()V"), (0, .integer 2147483647), (0, .methodref 9 10), (0, .class_ 11), (0, .nameAndType 12 13), (0, u "com/example/chunkwright/chunkwright/RuleStopsReadingPinLaw"), (0, u "pick"), (0, u "(I)Lcom/example/chunkwright/chunkwright/Rule;"), (0, .methodref 15 16), (0, .class_ 17), (0, .nameAndType 18 19), (0, u "com/example/chunkwright/chunkwright/Rule"), (0, u "stopsReading"), (0, u "()Z"), (0, .methodref 15 21), (0, .nameAndType 22 23), (0, u "severity"), (0, u "()Lcom/example/chunkwright/chunkwright/Severity;"), (0, .fieldref 25 26), (0, .class_ 27), (0, .nameAndType 28 29), (0, u "com/example/chunkwright/chunkwright/Severity"), (0, u "ERROR"), (0, u "Lcom/example/chunkwright/chunkwright/Severity;"), (0, .fieldref 15 31), (0, .nameAndType 32 33), (0, u "JSON_SYNTAX"), (0, u "Lcom/example/chunkwright/chunkwright/Rule;"), (0, .fieldref 15 35), (0, .nameAndType 36 33), (0, u "JSON_TYPE"), (0, .fieldref 15 38), (0, .nameAndType 39 33), (0, u "MEMBER_MISSING"), (0, .fieldref 15 41), (0, .nameAndType 42 33), (0, u "MEMBER_UNKNOWN"), (0, .fieldref 15 44), (0, .nameAndType 45 33), (0, u "ID_FORMAT"), (0, .fieldref 15 47), (0, .nameAndType 48 33), (0, u "KEY_FORMAT"), (0, .fieldref 15 50), (0, .nameAndType 51 33), (0, u "VERSION_FORMAT"), (0, .fieldref 15 53), (0, .nameAndType 54 33), (0, u "FORMAT_VERSION"), (0, .fieldref 15 56), (0, .nameAndType 57 33), (0, u "UNKNOWN_FORMAT_VERSION"), (0, .fieldref 15 59), (0, .nameAndType 60 33), (0, u "DUPLICATE_KEY"), (0, .fieldref 15 62), (0, .nameAndType 63 33), (0, u "DUPLICATE_NODE_ID"), (0, .fieldref 15 65), (0, .nameAndType 66 33), (0, u "DUPLICATE_ENTRY"), (0, .fieldref 15 68), (0, .nameAndType 69 33), (0, u "LANGUAGE_UNDECLARED"), (0, .fieldref 15 71), (0, .nameAndType 72 33), (0, u "PARENT_MISMATCH"), (0, .fieldref 15 74), (0, .nameAndType 75 33), (0, u "CHILD_MISMATCH"), (0, .fieldref 15 77), (0, .nameAndType 78 33), (0, u "PARENT_CYCLE"), (0, .fieldref 15 80), (0, .nameAndType 81 33), (0, u "CLASSIFIER_UNKNOWN"), (0, .fieldref 15 83), (0, .nameAndType 84 33), (0, u "FEATURE_UNKNOWN"), (0, .fieldref 15 86), (0, .nameAndType 87 33), (0, u "FEATURE_KIND"), (0, .fieldref 15 89), (0, .nameAndType 90 33), (0, u "PROPERTY_VALUE"), (0, .fieldref 15 92), (0, .nameAndType 93 33), (0, u "TYPE_UNKNOWN"), (0, .fieldref 15 95), (0, .nameAndType 96 33), (0, u "NOT_CONVERTIBLE"), (2, u "law"), (0, u "(I)Z")] 3

def k1m0 : Method := { name := "<init>", desc := "()V", sig := { parameters := [], returnType := none }, accessFlags := 2, code := none }
def k1c1 : Code := { maxStack := 2, maxLocals := 5, code := code, exceptionTable := #[], attributes := #[] }
def k1m1 : Method := { name := "law", desc := "(I)Z", sig := { parameters := [.int], returnType := some .boolean }, accessFlags := 9, code := some k1c1 }
def k1c2 : Code := { maxStack := 2, maxLocals := 1, code := method_3_code, exceptionTable := #[], attributes := #[] }
def k1m2 : Method := { name := "pick", desc := "(I)Lcom/example/chunkwright/chunkwright/Rule;", sig := { parameters := [.int], returnType := some (.object "com/example/chunkwright/chunkwright/Rule") }, accessFlags := 10, code := some k1c2 }
/-- com/example/chunkwright/chunkwright/RuleStopsReadingPinLaw -/
def k1 : Class := { plain "com/example/chunkwright/chunkwright/RuleStopsReadingPinLaw" (some 0) with
  accessFlags := 49
  interfaces := #[]
  cf := some (fileOf pool1 9 #[] #[{ accessFlags := 2, nameIndex := 5, descriptorIndex := 6, attributes := #[] }, { accessFlags := 9, nameIndex := 99, descriptorIndex := 100, attributes := #[] }, { accessFlags := 10, nameIndex := 12, descriptorIndex := 13, attributes := #[] }] 49 2 #[] #[])
  fields := #[]
  methods := #[k1m0, k1m1, k1m2]
  instanceTypes := #[]
  staticTypes := #[]
  resolved := Array.replicate 104 none
  statics := none }

def pool2 : Array CpInfo := pool [(1, .class_ 2), (0, u "java/lang/constant/Constable"), (0, .class_ 4), (0, u "java/lang/Object")] 6

/-- java/lang/constant/Constable -/
def k2 : Class := { plain "java/lang/constant/Constable" (some 0) with
  accessFlags := 1537
  interfaces := #[]
  cf := some (fileOf pool2 1 #[] #[] 1537 3 #[] #[])
  fields := #[]
  methods := #[]
  instanceTypes := #[]
  staticTypes := #[]
  resolved := Array.replicate 11 none
  statics := none }

def pool3 : Array CpInfo := pool [(1, .class_ 2), (0, u "java/lang/Comparable"), (0, .class_ 4), (0, u "java/lang/Object")] 7

/-- java/lang/Comparable -/
def k3 : Class := { plain "java/lang/Comparable" (some 0) with
  accessFlags := 1537
  interfaces := #[]
  cf := some (fileOf pool3 1 #[] #[] 1537 3 #[] #[])
  fields := #[]
  methods := #[]
  instanceTypes := #[]
  staticTypes := #[]
  resolved := Array.replicate 12 none
  statics := none }

def pool4 : Array CpInfo := pool [(1, .class_ 2), (0, u "java/io/Serializable"), (0, .class_ 4), (0, u "java/lang/Object")] 2

/-- java/io/Serializable -/
def k4 : Class := { plain "java/io/Serializable" (some 0) with
  accessFlags := 1537
  interfaces := #[]
  cf := some (fileOf pool4 1 #[] #[] 1537 3 #[] #[])
  fields := #[]
  methods := #[]
  instanceTypes := #[]
  staticTypes := #[]
  resolved := Array.replicate 7 none
  statics := none }

def pool5 : Array CpInfo := pool [(2, .class_ 4), (1, u "java/lang/Enum"), (0, u "name"), (0, u "Ljava/lang/String;"), (0, .fieldref 2 8), (0, .nameAndType 9 10), (0, u "ordinal"), (0, u "I"), (1, .class_ 14), (1, u "java/lang/Object"), (4, u "hash"), (86, .class_ 108), (1, u "java/lang/Enum$EnumDesc"), (2, .class_ 112), (0, u "java/lang/constant/Constable"), (0, .class_ 114), (0, u "java/lang/Comparable"), (0, .class_ 116), (0, u "java/io/Serializable"), (9, u "()I")] 77

def k5c0 : Code := { maxStack := 1, maxLocals := 1, code := jdk_37_method_2_code, exceptionTable := #[], attributes := #[] }
def k5m0 : Method := { name := "ordinal", desc := "()I", sig := { parameters := [], returnType := some .int }, accessFlags := 17, code := some k5c0 }
/-- java/lang/Enum -/
def k5 : Class := { plain "java/lang/Enum" (some 0) with
  accessFlags := 1057
  interfaces := #[2, 3, 4]
  cf := some (fileOf pool5 2 #[.nestMembers #[106]] #[{ accessFlags := 17, nameIndex := 9, descriptorIndex := 126, attributes := #[] }] 1057 12 #[111, 113, 115] #[{ accessFlags := 18, nameIndex := 5, descriptorIndex := 6, attributes := #[] }, { accessFlags := 18, nameIndex := 9, descriptorIndex := 10, attributes := #[] }, { accessFlags := 2, nameIndex := 19, descriptorIndex := 10, attributes := #[] }])
  fields := #[{ name := "name", type := (.object "java/lang/String"), accessFlags := 18, slot := 0, constantValue := 0 }, { name := "ordinal", type := .int, accessFlags := 18, slot := 1, constantValue := 0 }, { name := "hash", type := .int, accessFlags := 2, slot := 2, constantValue := 0 }]
  methods := #[k5m0]
  instanceTypes := #[(.object "java/lang/String"), .int, .int]
  staticTypes := #[]
  resolved := Array.replicate 204 none
  statics := none }

def pool6 : Array CpInfo := pool [(1, .class_ 2), (0, u "com/example/chunkwright/chunkwright/Rule"), (2, u "JSON_SYNTAX"), (0, u "Lcom/example/chunkwright/chunkwright/Rule;"), (2, u "JSON_TYPE"), (2, u "MEMBER_MISSING"), (2, u "MEMBER_UNKNOWN"), (2, u "ID_FORMAT"), (2, u "KEY_FORMAT"), (2, u "VERSION_FORMAT"), (2, u "FORMAT_VERSION"), (2, u "UNKNOWN_FORMAT_VERSION"), (2, u "DUPLICATE_KEY"), (2, u "DUPLICATE_NODE_ID"), (2, u "DUPLICATE_ENTRY"), (2, u "LANGUAGE_UNDECLARED"), (2, u "PARENT_MISMATCH"), (2, u "CHILD_MISMATCH"), (2, u "PARENT_CYCLE"), (2, u "CLASSIFIER_UNKNOWN"), (2, u "FEATURE_UNKNOWN"), (2, u "FEATURE_KIND"), (2, u "PROPERTY_VALUE"), (2, u "TYPE_UNKNOWN"), (2, u "NOT_CONVERTIBLE"), (2, u "$VALUES"), (0, u "[Lcom/example/chunkwright/chunkwright/Rule;"), (6, .class_ 82), (1, u "java/lang/Enum"), (8, u "id"), (0, u "Ljava/lang/String;"), (0, .fieldref 1 94), (0, .nameAndType 95 96), (0, u "severity"), (0, u "Lcom/example/chunkwright/chunkwright/Severity;"), (0, .methodref 1 98), (0, .nameAndType 99 100), (0, u "ordinal"), (0, u "()I"), (89, u "()Lcom/example/chunkwright/chunkwright/Severity;"), (0, u "stopsReading"), (0, u "()Z")] 6

def k6c0 : Code := { maxStack := 1, maxLocals := 1, code := prog_18_method_5_code, exceptionTable := #[], attributes := #[] }
def k6m0 : Method := { name := "severity", desc := "()Lcom/example/chunkwright/chunkwright/Severity;", sig := { parameters := [], returnType := some (.object "com/example/chunkwright/chunkwright/Severity") }, accessFlags := 1, code := some k6c0 }
def k6c1 : Code := { maxStack := 1, maxLocals := 1, code := prog_18_method_6_code, exceptionTable := #[], attributes := #[] }
def k6m1 : Method := { name := "stopsReading", desc := "()Z", sig := { parameters := [], returnType := some .boolean }, accessFlags := 0, code := some k6c1 }
/-- com/example/chunkwright/chunkwright/Rule -/
def k6 : Class := { plain "com/example/chunkwright/chunkwright/Rule" (some 5) with
  accessFlags := 16433
  interfaces := #[]
  cf := some (fileOf pool6 1 #[] #[{ accessFlags := 1, nameIndex := 95, descriptorIndex := 190, attributes := #[] }, { accessFlags := 0, nameIndex := 191, descriptorIndex := 192, attributes := #[] }] 16433 80 #[] #[{ accessFlags := 16409, nameIndex := 5, descriptorIndex := 6, attributes := #[] }, { accessFlags := 16409, nameIndex := 9, descriptorIndex := 6, attributes := #[] }, { accessFlags := 16409, nameIndex := 12, descriptorIndex := 6, attributes := #[] }, { accessFlags := 16409, nameIndex := 15, descriptorIndex := 6, attributes := #[] }, { accessFlags := 16409, nameIndex := 18, descriptorIndex := 6, attributes := #[] }, { accessFlags := 16409, nameIndex := 21, descriptorIndex := 6, attributes := #[] }, { accessFlags := 16409, nameIndex := 24, descriptorIndex := 6, attributes := #[] }, { accessFlags := 16409, nameIndex := 27, descriptorIndex := 6, attributes := #[] }, { accessFlags := 16409, nameIndex := 30, descriptorIndex := 6, attributes := #[] }, { accessFlags := 16409, nameIndex := 33, descriptorIndex := 6, attributes := #[] }, { accessFlags := 16409, nameIndex := 36, descriptorIndex := 6, attributes := #[] }, { accessFlags := 16409, nameIndex := 39, descriptorIndex := 6, attributes := #[] }, { accessFlags := 16409, nameIndex := 42, descriptorIndex := 6, attributes := #[] }, { accessFlags := 16409, nameIndex := 45, descriptorIndex := 6, attributes := #[] }, { accessFlags := 16409, nameIndex := 48, descriptorIndex := 6, attributes := #[] }, { accessFlags := 16409, nameIndex := 51, descriptorIndex := 6, attributes := #[] }, { accessFlags := 16409, nameIndex := 54, descriptorIndex := 6, attributes := #[] }, { accessFlags := 16409, nameIndex := 57, descriptorIndex := 6, attributes := #[] }, { accessFlags := 16409, nameIndex := 60, descriptorIndex := 6, attributes := #[] }, { accessFlags := 16409, nameIndex := 63, descriptorIndex := 6, attributes := #[] }, { accessFlags := 16409, nameIndex := 66, descriptorIndex := 6, attributes := #[] }, { accessFlags := 16409, nameIndex := 69, descriptorIndex := 6, attributes := #[] }, { accessFlags := 18, nameIndex := 91, descriptorIndex := 92, attributes := #[] }, { accessFlags := 18, nameIndex := 95, descriptorIndex := 96, attributes := #[] }, { accessFlags := 4122, nameIndex := 72, descriptorIndex := 73, attributes := #[] }])
  fields := #[{ name := "JSON_SYNTAX", type := (.object "com/example/chunkwright/chunkwright/Rule"), accessFlags := 16409, slot := 0, constantValue := 0 }, { name := "JSON_TYPE", type := (.object "com/example/chunkwright/chunkwright/Rule"), accessFlags := 16409, slot := 1, constantValue := 0 }, { name := "MEMBER_MISSING", type := (.object "com/example/chunkwright/chunkwright/Rule"), accessFlags := 16409, slot := 2, constantValue := 0 }, { name := "MEMBER_UNKNOWN", type := (.object "com/example/chunkwright/chunkwright/Rule"), accessFlags := 16409, slot := 3, constantValue := 0 }, { name := "ID_FORMAT", type := (.object "com/example/chunkwright/chunkwright/Rule"), accessFlags := 16409, slot := 4, constantValue := 0 }, { name := "KEY_FORMAT", type := (.object "com/example/chunkwright/chunkwright/Rule"), accessFlags := 16409, slot := 5, constantValue := 0 }, { name := "VERSION_FORMAT", type := (.object "com/example/chunkwright/chunkwright/Rule"), accessFlags := 16409, slot := 6, constantValue := 0 }, { name := "FORMAT_VERSION", type := (.object "com/example/chunkwright/chunkwright/Rule"), accessFlags := 16409, slot := 7, constantValue := 0 }, { name := "UNKNOWN_FORMAT_VERSION", type := (.object "com/example/chunkwright/chunkwright/Rule"), accessFlags := 16409, slot := 8, constantValue := 0 }, { name := "DUPLICATE_KEY", type := (.object "com/example/chunkwright/chunkwright/Rule"), accessFlags := 16409, slot := 9, constantValue := 0 }, { name := "DUPLICATE_NODE_ID", type := (.object "com/example/chunkwright/chunkwright/Rule"), accessFlags := 16409, slot := 10, constantValue := 0 }, { name := "DUPLICATE_ENTRY", type := (.object "com/example/chunkwright/chunkwright/Rule"), accessFlags := 16409, slot := 11, constantValue := 0 }, { name := "LANGUAGE_UNDECLARED", type := (.object "com/example/chunkwright/chunkwright/Rule"), accessFlags := 16409, slot := 12, constantValue := 0 }, { name := "PARENT_MISMATCH", type := (.object "com/example/chunkwright/chunkwright/Rule"), accessFlags := 16409, slot := 13, constantValue := 0 }, { name := "CHILD_MISMATCH", type := (.object "com/example/chunkwright/chunkwright/Rule"), accessFlags := 16409, slot := 14, constantValue := 0 }, { name := "PARENT_CYCLE", type := (.object "com/example/chunkwright/chunkwright/Rule"), accessFlags := 16409, slot := 15, constantValue := 0 }, { name := "CLASSIFIER_UNKNOWN", type := (.object "com/example/chunkwright/chunkwright/Rule"), accessFlags := 16409, slot := 16, constantValue := 0 }, { name := "FEATURE_UNKNOWN", type := (.object "com/example/chunkwright/chunkwright/Rule"), accessFlags := 16409, slot := 17, constantValue := 0 }, { name := "FEATURE_KIND", type := (.object "com/example/chunkwright/chunkwright/Rule"), accessFlags := 16409, slot := 18, constantValue := 0 }, { name := "PROPERTY_VALUE", type := (.object "com/example/chunkwright/chunkwright/Rule"), accessFlags := 16409, slot := 19, constantValue := 0 }, { name := "TYPE_UNKNOWN", type := (.object "com/example/chunkwright/chunkwright/Rule"), accessFlags := 16409, slot := 20, constantValue := 0 }, { name := "NOT_CONVERTIBLE", type := (.object "com/example/chunkwright/chunkwright/Rule"), accessFlags := 16409, slot := 21, constantValue := 0 }, { name := "id", type := (.object "java/lang/String"), accessFlags := 18, slot := 3, constantValue := 0 }, { name := "severity", type := (.object "com/example/chunkwright/chunkwright/Severity"), accessFlags := 18, slot := 4, constantValue := 0 }, { name := "$VALUES", type := (.array (.object "com/example/chunkwright/chunkwright/Rule")), accessFlags := 4122, slot := 22, constantValue := 0 }]
  methods := #[k6m0, k6m1]
  instanceTypes := #[(.object "java/lang/String"), .int, .int, (.object "java/lang/String"), (.object "com/example/chunkwright/chunkwright/Severity")]
  staticTypes := #[(.object "com/example/chunkwright/chunkwright/Rule"), (.object "com/example/chunkwright/chunkwright/Rule"), (.object "com/example/chunkwright/chunkwright/Rule"), (.object "com/example/chunkwright/chunkwright/Rule"), (.object "com/example/chunkwright/chunkwright/Rule"), (.object "com/example/chunkwright/chunkwright/Rule"), (.object "com/example/chunkwright/chunkwright/Rule"), (.object "com/example/chunkwright/chunkwright/Rule"), (.object "com/example/chunkwright/chunkwright/Rule"), (.object "com/example/chunkwright/chunkwright/Rule"), (.object "com/example/chunkwright/chunkwright/Rule"), (.object "com/example/chunkwright/chunkwright/Rule"), (.object "com/example/chunkwright/chunkwright/Rule"), (.object "com/example/chunkwright/chunkwright/Rule"), (.object "com/example/chunkwright/chunkwright/Rule"), (.object "com/example/chunkwright/chunkwright/Rule"), (.object "com/example/chunkwright/chunkwright/Rule"), (.object "com/example/chunkwright/chunkwright/Rule"), (.object "com/example/chunkwright/chunkwright/Rule"), (.object "com/example/chunkwright/chunkwright/Rule"), (.object "com/example/chunkwright/chunkwright/Rule"), (.object "com/example/chunkwright/chunkwright/Rule"), (.array (.object "com/example/chunkwright/chunkwright/Rule"))]
  resolved := Array.replicate 199 none
  statics := some 0 }

def pool7 : Array CpInfo := pool [(1, .class_ 2), (0, u "com/example/chunkwright/chunkwright/Severity"), (2, u "ERROR"), (0, u "Lcom/example/chunkwright/chunkwright/Severity;"), (2, u "WARNING"), (2, u "$VALUES"), (0, u "[Lcom/example/chunkwright/chunkwright/Severity;"), (6, .class_ 22), (1, u "java/lang/Enum"), (8, u "label"), (0, u "Ljava/lang/String;")] 26

/-- com/example/chunkwright/chunkwright/Severity -/
def k7 : Class := { plain "com/example/chunkwright/chunkwright/Severity" (some 5) with
  accessFlags := 16433
  interfaces := #[]
  cf := some (fileOf pool7 1 #[] #[] 16433 20 #[] #[{ accessFlags := 16409, nameIndex := 5, descriptorIndex := 6, attributes := #[] }, { accessFlags := 16409, nameIndex := 9, descriptorIndex := 6, attributes := #[] }, { accessFlags := 18, nameIndex := 31, descriptorIndex := 32, attributes := #[] }, { accessFlags := 4122, nameIndex := 12, descriptorIndex := 13, attributes := #[] }])
  fields := #[{ name := "ERROR", type := (.object "com/example/chunkwright/chunkwright/Severity"), accessFlags := 16409, slot := 0, constantValue := 0 }, { name := "WARNING", type := (.object "com/example/chunkwright/chunkwright/Severity"), accessFlags := 16409, slot := 1, constantValue := 0 }, { name := "label", type := (.object "java/lang/String"), accessFlags := 18, slot := 3, constantValue := 0 }, { name := "$VALUES", type := (.array (.object "com/example/chunkwright/chunkwright/Severity")), accessFlags := 4122, slot := 2, constantValue := 0 }]
  methods := #[]
  instanceTypes := #[(.object "java/lang/String"), .int, .int, (.object "java/lang/String")]
  staticTypes := #[(.object "com/example/chunkwright/chunkwright/Severity"), (.object "com/example/chunkwright/chunkwright/Severity"), (.array (.object "com/example/chunkwright/chunkwright/Severity"))]
  resolved := Array.replicate 59 none
  statics := some 1 }

def pool8 : Array CpInfo := pool [(1, u "java/lang/Cloneable"), (0, .class_ 1), (0, u "java/lang/Object"), (0, .class_ 3)] 3

/-- java/lang/Cloneable -/
def k8 : Class := { plain "java/lang/Cloneable" (some 0) with
  accessFlags := 1537
  interfaces := #[]
  cf := some (fileOf pool8 2 #[] #[] 1537 4 #[] #[])
  fields := #[]
  methods := #[]
  instanceTypes := #[]
  staticTypes := #[]
  resolved := Array.replicate 8 none
  statics := none }

/-- the primitive byte -/
def k9 : Class := { plain "byte" none with kind := .primitive 'B', accessFlags := 0x411 }
/-- [B -/
def k10 : Class := { plain "[B" (some 0) with kind := .array 9 .byte, interfaces := #[8, 4], accessFlags := 1041 }

/-- the primitive int -/
def k11 : Class := { plain "int" none with kind := .primitive 'I', accessFlags := 0x411 }
/-- [I -/
def k12 : Class := { plain "[I" (some 0) with kind := .array 11 .int, interfaces := #[8, 4], accessFlags := 1041 }

def heap : Heap := #[{ cls := 6, slots := #[.ref 2, .ref 10, .ref 7, .ref 4, .ref 18, .ref 12, .ref 14, .ref 5, .ref 6, .ref 11, .ref 9, .ref 8, .ref 21, .ref 22, .ref 20, .ref 17, .ref 13, .ref 23, .ref 16, .ref 15, .ref 24, .ref 19, .null], vm := .statics 6 },
  { cls := 7, slots := #[.ref 3, .ref 25, .null], vm := .statics 7 },
  { cls := 6, slots := #[.null, .int 0, .int 0, .null, .ref 3], vm := .none },
  { cls := 7, slots := #[.null, .int 0, .int 0, .null], vm := .none },
  { cls := 6, slots := #[.null, .int 3, .int 0, .null, .ref 3], vm := .none },
  { cls := 6, slots := #[.null, .int 7, .int 0, .null, .ref 3], vm := .none },
  { cls := 6, slots := #[.null, .int 8, .int 0, .null, .ref 25], vm := .none },
  { cls := 6, slots := #[.null, .int 2, .int 0, .null, .ref 3], vm := .none },
  { cls := 6, slots := #[.null, .int 11, .int 0, .null, .ref 3], vm := .none },
  { cls := 6, slots := #[.null, .int 10, .int 0, .null, .ref 3], vm := .none },
  { cls := 6, slots := #[.null, .int 1, .int 0, .null, .ref 3], vm := .none },
  { cls := 6, slots := #[.null, .int 9, .int 0, .null, .ref 25], vm := .none },
  { cls := 6, slots := #[.null, .int 5, .int 0, .null, .ref 3], vm := .none },
  { cls := 6, slots := #[.null, .int 16, .int 0, .null, .ref 3], vm := .none },
  { cls := 6, slots := #[.null, .int 6, .int 0, .null, .ref 3], vm := .none },
  { cls := 6, slots := #[.null, .int 19, .int 0, .null, .ref 3], vm := .none },
  { cls := 6, slots := #[.null, .int 18, .int 0, .null, .ref 3], vm := .none },
  { cls := 6, slots := #[.null, .int 15, .int 0, .null, .ref 3], vm := .none },
  { cls := 6, slots := #[.null, .int 4, .int 0, .null, .ref 3], vm := .none },
  { cls := 6, slots := #[.null, .int 21, .int 0, .null, .ref 3], vm := .none },
  { cls := 6, slots := #[.null, .int 14, .int 0, .null, .ref 3], vm := .none },
  { cls := 6, slots := #[.null, .int 12, .int 0, .null, .ref 3], vm := .none },
  { cls := 6, slots := #[.null, .int 13, .int 0, .null, .ref 3], vm := .none },
  { cls := 6, slots := #[.null, .int 17, .int 0, .null, .ref 3], vm := .none },
  { cls := 6, slots := #[.null, .int 20, .int 0, .null, .ref 25], vm := .none },
  { cls := 7, slots := #[.null, .int 0, .int 0, .null], vm := .none }]
def classes : Array Class := #[k0, k1, k2, k3, k4, k5, k6, k7, k8, k9, k10, k11, k12]
def interned : List (Array UInt16 × Addr) := []
def slotsUsed : Nat := 144
def theMethod : MethodId := ⟨1, 1⟩
def args0 : Array Value := #[.int 5]
def aboutOver (below : List Frame) : State where
  vm := { classes := classes, interned := interned.toArray }
  heap := heap
  slotsUsed := slotsUsed
  threads := #[{ frames := .invoking theMethod args0 :: below }]
def below0 : List Frame := [.native { method := ⟨0, 0⟩, args := #[] }]
def about1 : State := aboutOver below0
def p0 : Program := .bare "" "" ""
def e0 : Env := launch0.env 0 0 0
theorem w_frames : about1.frames = Frame.invoking theMethod args0 :: below0 := rfl
set_option maxRecDepth 65536 in
theorem w_args : argsFit about1.vm theMethod args0 = true := by decide +kernel
set_option maxRecDepth 65536 in
theorem w_heap : heapFits about1 = true := by decide +kernel
set_option maxRecDepth 65536 in
theorem w_runnable : about1.curStatus? = some .runnable := by decide +kernel
set_option maxRecDepth 65536 in
theorem w_alone : about1.alone = true := by decide +kernel
set_option maxRecDepth 65536 in
theorem w_named : about1.methodNamed? x = some theMethod := by decide +kernel
set_option maxRecDepth 65536 in
theorem w_hears : about1.hears theMethod below0 = true := by decide +kernel
set_option maxRecDepth 65536 in
theorem w_ripe : about1.ripe theMethod args0 below0 = true := by decide +kernel
theorem w_running : about1.status = .running := rfl
set_option maxRecDepth 65536 in
theorem w_room : about1.hasRoom e0.platform room_1 = true :=
  launch0.hasRoom_least _ room_1 (by decide +kernel) (by decide +kernel) (by decide +kernel) (by decide +kernel) (by decide +kernel) (by decide +kernel)
theorem allAtoms_all (ts : List Jvm.Cond) (a : Array Jvm.Value) (st : Jvm.State) : (allAtoms ts).before a st = ts.all (fun c => c.before a st) := by
  induction ts with
  | nil => rfl
  | cons c t ih =>
    show (Jvm.Cond.and c (allAtoms t)).before a st = _
    rw [Jvm.Cond.before_and, ih, List.all_cons]
def words1 : List Jvm.Cond := Jvm.Cond.code x code maxLocals ret :: tables_1
/-- a 'code' word, met by the world's own term for the bytes: nothing is compared byte by byte -/
theorem code_word {y : MethodName} {bytes : ByteArray} {mx : Nat} {rt : Option FieldType} {a : Array Value} {s : State} {m : MethodId} {meth : Method} {c : Code} (h1 : s.methodNamed? y = some m) (h2 : s.vm.method? m = some meth) (h3 : meth.code = some c) (h4 : c.code = bytes)
    (h5 : (c.maxLocals == mx && c.exceptionTable.isEmpty && decide (c.maxStack ≤ mostOperands) && decide (meth.sig.returnType = rt) && !meth.locks && decide (parseMethodDescriptor y.desc = some meth.sig)) = true) : (Jvm.Cond.code y bytes mx rt).before a s = true := by
  simp only [Bool.and_eq_true, beq_iff_eq, Bool.not_eq_true', decide_eq_true_eq] at h5
  obtain ⟨⟨⟨⟨⟨g1, g2⟩, g3⟩, g4⟩, g5⟩, g6⟩ := h5
  simp [Cond.before, Cond.holds, Cond.value, h1, h2, h3, h4, g1, g2, g3, g4, g5, g6]
def isCode : Jvm.Cond → Bool
  | .code _ _ _ _ => true
  | _ => false
theorem all_split {L : List Jvm.Cond} {P : Jvm.Cond → Bool} (h1 : L.all (fun c => isCode c || P c) = true) (h2 : ∀ c ∈ L.filter isCode, P c = true) : L.all P = true := by
  refine List.all_eq_true.mpr fun c hc => ?_
  have h := List.all_eq_true.mp h1 c hc
  rcases Bool.eq_false_or_eq_true (isCode c) with hi | hi
  · exact h2 c (List.mem_filter.mpr ⟨hc, hi⟩)
  · simpa [hi] using h
set_option maxRecDepth 65536 in
theorem w_c0 : (Jvm.Cond.code x code maxLocals ret).before args0 about1 = true := code_word (m := ⟨1, 1⟩) (meth := k1m1) (c := k1c1) (by decide +kernel) rfl rfl rfl (by decide +kernel)
set_option maxRecDepth 65536 in
theorem w_c1 : (Jvm.Cond.code ({ cls := "com/example/chunkwright/chunkwright/RuleStopsReadingPinLaw", name := "pick", desc := "(I)Lcom/example/chunkwright/chunkwright/Rule;" } : Jvm.MethodName) method_3_code (1 : Nat) (Option.some (Jvm.ClassFile.FieldType.object "com/example/chunkwright/chunkwright/Rule"))).before args0 about1 = true := code_word (m := ⟨1, 2⟩) (meth := k1m2) (c := k1c2) (by decide +kernel) rfl rfl rfl (by decide +kernel)
set_option maxRecDepth 65536 in
theorem w_c2 : (Jvm.Cond.code ({ cls := "com/example/chunkwright/chunkwright/Rule", name := "stopsReading", desc := "()Z" } : Jvm.MethodName) prog_18_method_6_code (1 : Nat) (Option.some Jvm.ClassFile.FieldType.boolean)).before args0 about1 = true := code_word (m := ⟨6, 1⟩) (meth := k6m1) (c := k6c1) (by decide +kernel) rfl rfl rfl (by decide +kernel)
set_option maxRecDepth 65536 in
theorem w_c3 : (Jvm.Cond.code ({ cls := "java/lang/Enum", name := "ordinal", desc := "()I" } : Jvm.MethodName) jdk_37_method_2_code (1 : Nat) (Option.some Jvm.ClassFile.FieldType.int)).before args0 about1 = true := code_word (m := ⟨5, 0⟩) (meth := k5m0) (c := k5c0) (by decide +kernel) rfl rfl rfl (by decide +kernel)
set_option maxRecDepth 65536 in
theorem w_c4 : (Jvm.Cond.code ({ cls := "com/example/chunkwright/chunkwright/Rule", name := "severity", desc := "()Lcom/example/chunkwright/chunkwright/Severity;" } : Jvm.MethodName) prog_18_method_5_code (1 : Nat) (Option.some (Jvm.ClassFile.FieldType.object "com/example/chunkwright/chunkwright/Severity"))).before args0 about1 = true := code_word (m := ⟨6, 0⟩) (meth := k6m0) (c := k6c0) (by decide +kernel) rfl rfl rfl (by decide +kernel)
def codes1 : List Jvm.Cond := [Jvm.Cond.code x code maxLocals ret, Jvm.Cond.code ({ cls := "com/example/chunkwright/chunkwright/RuleStopsReadingPinLaw", name := "pick", desc := "(I)Lcom/example/chunkwright/chunkwright/Rule;" } : Jvm.MethodName) method_3_code (1 : Nat) (Option.some (Jvm.ClassFile.FieldType.object "com/example/chunkwright/chunkwright/Rule")), Jvm.Cond.code ({ cls := "com/example/chunkwright/chunkwright/Rule", name := "stopsReading", desc := "()Z" } : Jvm.MethodName) prog_18_method_6_code (1 : Nat) (Option.some Jvm.ClassFile.FieldType.boolean), Jvm.Cond.code ({ cls := "java/lang/Enum", name := "ordinal", desc := "()I" } : Jvm.MethodName) jdk_37_method_2_code (1 : Nat) (Option.some Jvm.ClassFile.FieldType.int), Jvm.Cond.code ({ cls := "com/example/chunkwright/chunkwright/Rule", name := "severity", desc := "()Lcom/example/chunkwright/chunkwright/Severity;" } : Jvm.MethodName) prog_18_method_5_code (1 : Nat) (Option.some (Jvm.ClassFile.FieldType.object "com/example/chunkwright/chunkwright/Severity"))]
set_option maxRecDepth 65536 in
theorem codes_eq : words1.filter isCode = codes1 := rfl
theorem w_codes : ∀ c ∈ words1.filter isCode, c.before args0 about1 = true := by
  rw [codes_eq]
  intro c hc
  simp only [codes1, List.mem_cons, List.not_mem_nil, or_false] at hc
  rcases hc with rfl | rfl | rfl | rfl | rfl
  · exact w_c0
  · exact w_c1
  · exact w_c2
  · exact w_c3
  · exact w_c4
set_option maxRecDepth 65536 in
theorem w_t1 : (words1.take 24).all (fun c => isCode c || c.before args0 about1) = true := by decide +kernel
set_option maxRecDepth 65536 in
theorem w_t2 : ((words1.drop 24).take 24).all (fun c => isCode c || c.before args0 about1) = true := by decide +kernel
set_option maxRecDepth 65536 in
theorem w_t3 : (((words1.drop 24).drop 24).take 24).all (fun c => isCode c || c.before args0 about1) = true := by decide +kernel
set_option maxRecDepth 65536 in
theorem w_t4 : (((words1.drop 24).drop 24).drop 24).all (fun c => isCode c || c.before args0 about1) = true := by decide +kernel
theorem w_tables : (allAtoms (Jvm.Cond.code x code maxLocals ret :: tables_1)).before args0 about1 = true := by
  rw [allAtoms_all]
  show words1.all (fun c => c.before args0 about1) = true
  refine all_split ?_ w_codes
  rw [← List.take_append_drop 24 words1, List.all_append, w_t1, ← List.take_append_drop 24 (words1.drop 24), List.all_append, w_t2, ← List.take_append_drop 24 ((words1.drop 24).drop 24), List.all_append, w_t3, w_t4]
  rfl
set_option maxRecDepth 65536 in
theorem w_case : (Jvm.Cond.and given_1 narrow_1).before args0 about1 = true := by decide +kernel
theorem w_applies : (headSpec (Jvm.Cond.code x code maxLocals ret :: tables_1) room_1).applies x e0.platform about1 = true :=
  (Spec.applies_iff w_frames).mpr ⟨w_running, w_runnable, w_alone, w_named, w_hears, w_ripe, w_room, w_tables⟩
theorem atStart : AtStart classFile x code maxLocals ret World_1 tables_1 room_1 Calls_1 rest_1 Pre_1 launch0 p0 e0 about1 theMethod args0 below0 :=
  ⟨lists_1, trivial, launch0.admits_env _ _ _, launch0.least_env, fairChoices_fair.cas, fairChoices_fair.clock, w_frames, w_args, w_heap, w_applies, trivial, trivial, w_case⟩
end start1
theorem witness_1 : WitnessClaimed_1 := ⟨start1.p0, start1.e0, start1.about1, start1.theMethod, start1.args0, start1.below0, start1.atStart⟩
end Jvm.Pilot.@@N@@
