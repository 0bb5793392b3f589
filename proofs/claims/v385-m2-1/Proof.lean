import JvmDerived
import JvmDerived.Pilot.@@N@@Statement
import JvmDerived.Pilot.@@N@@Code
set_option linter.unusedVariables false
set_option linter.unusedSimpArgs false
namespace Jvm.Pilot.@@N@@
open Jvm Jvm.ClassFile Sem Op Lib Jvm.Free Jvm.Stand Jvm.LawKit Jvm.RoadKit Bundle Jvm.Pilot.@@N@@.Jvm.D

section Own
variable {p : Program} {l : Launch} {e : Env} {R : Room} {s : State} {m : MethodId} {args : Array Value} {below : List Frame} {meth : Method} {c : Code} {T : State} {locs : List Loc} {cells slots : Nat} {Z : State} {h : Heap} {y : MethodName} {bytes : ByteArray} {maxL : Nat} {ret : Option FieldType} {E : Outcome → State → Prop} {Q : Option Value → Heap → List Loc → Prop} {kc ks : Nat} {Ls : Array Slot} {st : List Value} {pc : Nat} {a0 : Array Value}
/-- what stays as it is through the walk of one body -/
def own_C (Z : State) (y : MethodName) (bytes : ByteArray) (maxL : Nat) (ret : Option FieldType) (p : Program) (s : State) (m : MethodId) (meth : Method) (c : Code) : Prop :=
  p.tables.exec = Jvm.exec ∧ c.code = bytes ∧ c.maxLocals = maxL ∧ s.vm.findClass y.cls = some m.cls ∧ Z.Warmed39 s.vm ∧ meth.sig.returnType = ret ∧ meth.locks = false ∧ meth.name = y.name
/-- the walk stands at T, whose heap is h -/
def own_S (Z : State) (y : MethodName) (bytes : ByteArray) (maxL : Nat) (ret : Option FieldType) (p : Program) (l : Launch) (e : Env) (R : Room) (s : State) (m : MethodId) (args : Array Value) (below : List Frame) (meth : Method) (c : Code) (T : State) (h : Heap) (locs : List Loc) (cells slots : Nat) : Prop :=
  own_C Z y bytes maxL ret p s m meth c ∧ Stand p l e R s m args below meth c T locs cells slots ∧ T.heap = h
/-- from S the run ends, and its end is as Q says -/
def own_G (p : Program) (e : Env) (below : List Frame) (E : Outcome → State → Prop) (S : State) : Prop :=
  ∃ t o, Steps p.tables e below S t ∧ t.status = .running ∧ Ended t below o ∧ E o t
def own_E (s : State) (Q : Option Value → Heap → List Loc → Prop) (kc ks : Nat) (o : Outcome) (t : State) : Prop := ∃ v L, o = .returned v ∧ Q v t.heap L ∧ FrameEnd s o t L kc ks
theorem own_st {S S' : State} (hs : ∀ t, Steps p.tables e below S' t → Steps p.tables e below S t) (K : own_G p e below E S') : own_G p e below E S := by
  obtain ⟨t, o, h1, r⟩ := K
  exact ⟨t, o, hs t h1, r⟩
theorem own_S.x (Y : own_S Z y bytes maxL ret p l e R s m args below meth c T h locs cells slots) : p.tables.exec = Jvm.exec := Y.1.1
theorem own_S.d (Y : own_S Z y bytes maxL ret p l e R s m args below meth c T h locs cells slots) {pc : Nat} {r : Except ClassFile.DecodeError (ClassFile.Instr × Nat)} (hd : decode bytes pc = r) : decode c.code pc = r := hb Y.1.2.1 hd
theorem own_S.own (Y : own_S Z y bytes maxL ret p l e R s m args below meth c T h locs cells slots) : s.vm.findClass y.cls = some m.cls := Y.1.2.2.2.1
theorem own_S.warm (Y : own_S Z y bytes maxL ret p l e R s m args below meth c T h locs cells slots) : Z.Warmed39 s.vm := Y.1.2.2.2.2.1
theorem own_S.X (Y : own_S Z y bytes maxL ret p l e R s m args below meth c T h locs cells slots) : Stand p l e R s m args below meth c T locs cells slots := Y.2.1
theorem own_S.eT (Y : own_S Z y bytes maxL ret p l e R s m args below meth c T h locs cells slots) : T.heap = h := Y.2.2
/-- the contract of a body -/
def own_M (l : Launch) (y : MethodName) (bytes : ByteArray) (maxL : Nat) (ret : Option FieldType) (ws : List Jvm.Cond) (rm : Room) (Z : State) (as' : Array Value) (h : Heap) (Q : Option Value → Heap → List Loc → Prop) : Prop :=
  MetFree l y (head1 (Jvm.Cond.code y bytes maxL ret :: ws) rm) (fun a U => a = as' ∧ Z.Warmed39 U.vm ∧ U.heap = h) (fun _ _ _ _ _ => True) (fun _ U o U' => ∃ v L, o = .returned v ∧ Q v U'.heap L ∧ FrameEnd U o U' L rm.cells rm.slots)
theorem own_met {ws : List Jvm.Cond} {rm : Room} {as' : Array Value} (hp : plainFor y = true) {Lf : Array Slot} (hE : ∀ m, entryFrame m as' maxL = mkF m 0 Lf [])
    (body : ∀ p e s m below meth c T, own_S Z y bytes maxL ret p l e rm s m as' below meth c T h [] 0 0 → own_G p e below (own_E s Q rm.cells rm.slots) (T.setTop (mkF m 0 Lf []))) : own_M l y bytes maxL ret ws rm Z as' h Q := by
  refine MetFree.of_bodySF (maxLocals := maxL) hp hisR ?_
  intro p e s m args below meth c s₁ Bd hml0 hP hK
  obtain ⟨rfl, hZ, hh⟩ := hP
  obtain ⟨t, o, h1, h2, h3, h4⟩ := body p e s m below meth c s₁ ⟨⟨Bd.exec, Bd.bytes, hml0, findClass_of_methodNamed Bd.named, hZ, Bd.returns, Bd.notSynchronized, (name_of_methodNamed Bd.named Bd.method).1⟩, Stand.of_body Bd, by rw [← hh, Bd.state]; rfl⟩
  exact ⟨t, o, castTop (hE m) h1, h2, h3, h4⟩
theorem own_wd {ts : List Jvm.Cond} (hw : ∀ d ∈ ts, d.before a0 Z = true) (i : Nat) {d : Jvm.Cond} (hi : ts[i]? = some d) : d.before a0 Z = true := hw d (List.mem_of_getElem? hi)
theorem own_M.weak {ws : List Jvm.Cond} {rm : Room} {as' : Array Value} {Q' : Option Value → Heap → List Loc → Prop} (M : own_M l y bytes maxL ret ws rm Z as' h Q) (hQ : ∀ v h' L, Q v h' L → Q' v h' L) : own_M l y bytes maxL ret ws rm Z as' h Q' := by
  intro p e ha hc hk s m args below hf happ hP hK
  obtain ⟨n, o, h1, h2, h3, v, L, h4, h5, h6⟩ := M p e ha hc hk s m args below hf happ hP hK
  exact ⟨n, o, h1, h2, h3, v, L, h4, hQ _ _ _ h5, h6⟩
theorem own_aloadN (pc' : Nat) (Y : own_S Z y bytes maxL ret p l e R s m args below meth c T h locs cells slots) {k : Fin 4} {v : Value} (hd : decode bytes pc = .ok (.aload_n k, 1)) (hl : Ls[k.val]? = some (.val v)) (hv : v.isRef = true) (hp : pc + 1 = pc') (K : own_G p e below E (T.setTop (mkF m pc' Ls (v :: st)))) : own_G p e below E (T.setTop (mkF m pc Ls (st))) := by
  subst hp
  exact own_st (fun t k => XS.aloadN Y.X.here Y.x rfl (Y.d hd) hl hv k) K
theorem own_aload (pc' : Nat) (Y : own_S Z y bytes maxL ret p l e R s m args below meth c T h locs cells slots) {k : Nat} {v : Value} (hd : decode bytes pc = .ok (.aload k, 2)) (hl : Ls[k]? = some (.val v)) (hv : v.isRef = true) (hp : pc + 2 = pc') (K : own_G p e below E (T.setTop (mkF m pc' Ls (v :: st)))) : own_G p e below E (T.setTop (mkF m pc Ls (st))) := by
  subst hp
  exact own_st (fun t k => XS.aload Y.X.here Y.x rfl (Y.d hd) hl hv k) K
theorem own_iloadN (pc' : Nat) (Y : own_S Z y bytes maxL ret p l e R s m args below meth c T h locs cells slots) {k : Fin 4} {v : Int32} (hd : decode bytes pc = .ok (.iload_n k, 1)) (hl : Ls[k.val]? = some (.val (.int v))) (hp : pc + 1 = pc') (K : own_G p e below E (T.setTop (mkF m pc' Ls (.int v :: st)))) : own_G p e below E (T.setTop (mkF m pc Ls (st))) := by
  subst hp
  exact own_st (fun t k => XS.iloadN Y.X.here Y.x rfl (Y.d hd) hl k) K
theorem own_iload (pc' : Nat) (Y : own_S Z y bytes maxL ret p l e R s m args below meth c T h locs cells slots) {k : Nat} {v : Int32} (hd : decode bytes pc = .ok (.iload k, 2)) (hl : Ls[k]? = some (.val (.int v))) (hp : pc + 2 = pc') (K : own_G p e below E (T.setTop (mkF m pc' Ls (.int v :: st)))) : own_G p e below E (T.setTop (mkF m pc Ls (st))) := by
  subst hp
  exact own_st (fun t k => XS.iload Y.X.here Y.x rfl (Y.d hd) hl k) K
theorem own_lloadN (pc' : Nat) (Y : own_S Z y bytes maxL ret p l e R s m args below meth c T h locs cells slots) {k : Fin 4} {v : Int64} (hd : decode bytes pc = .ok (.lload_n k, 1)) (hl : Ls[k.val]? = some (.val (.long v))) (hp : pc + 1 = pc') (K : own_G p e below E (T.setTop (mkF m pc' Ls (.long v :: st)))) : own_G p e below E (T.setTop (mkF m pc Ls (st))) := by
  subst hp
  exact own_st (fun t k => XS.lloadN Y.X.here Y.x rfl (Y.d hd) hl k) K
theorem own_lload (pc' : Nat) (Y : own_S Z y bytes maxL ret p l e R s m args below meth c T h locs cells slots) {k : Nat} {v : Int64} (hd : decode bytes pc = .ok (.lload k, 2)) (hl : Ls[k]? = some (.val (.long v))) (hp : pc + 2 = pc') (K : own_G p e below E (T.setTop (mkF m pc' Ls (.long v :: st)))) : own_G p e below E (T.setTop (mkF m pc Ls (st))) := by
  subst hp
  exact own_st (fun t k => XS.lload Y.X.here Y.x rfl (Y.d hd) hl k) K
theorem own_iconst (pc' : Nat) (Y : own_S Z y bytes maxL ret p l e R s m args below meth c T h locs cells slots) {i : Int} (v : Int32) (hd : decode bytes pc = .ok (.iconst i, 1)) (hv : Int32.ofInt i = v) (hp : pc + 1 = pc') (K : own_G p e below E (T.setTop (mkF m pc' Ls (.int v :: st)))) : own_G p e below E (T.setTop (mkF m pc Ls (st))) := by
  subst hp
  exact own_st (fun t k => XT.iconstV Y.X.here Y.x rfl v (Y.d hd) hv k) K
theorem own_bipush (pc' : Nat) (Y : own_S Z y bytes maxL ret p l e R s m args below meth c T h locs cells slots) {i : Int} (v : Int32) (hd : decode bytes pc = .ok (.bipush i, 2)) (hv : (Int8.ofInt i).toInt32 = v) (hp : pc + 2 = pc') (K : own_G p e below E (T.setTop (mkF m pc' Ls (.int v :: st)))) : own_G p e below E (T.setTop (mkF m pc Ls (st))) := by
  subst hp
  exact own_st (fun t k => XT.bipushV Y.X.here Y.x rfl v (Y.d hd) hv k) K
theorem own_sipush (pc' : Nat) (Y : own_S Z y bytes maxL ret p l e R s m args below meth c T h locs cells slots) {i : Int} (v : Int32) (hd : decode bytes pc = .ok (.sipush i, 3)) (hv : (Int16.ofInt i).toInt32 = v) (hp : pc + 3 = pc') (K : own_G p e below E (T.setTop (mkF m pc' Ls (.int v :: st)))) : own_G p e below E (T.setTop (mkF m pc Ls (st))) := by
  subst hp
  exact own_st (fun t k => XT.sipushV Y.X.here Y.x rfl v (Y.d hd) hv k) K
theorem own_lconst (pc' : Nat) (Y : own_S Z y bytes maxL ret p l e R s m args below meth c T h locs cells slots) {i : Fin 2} (v : Int64) (hd : decode bytes pc = .ok (.lconst i, 1)) (hv : Int64.ofNat i = v) (hp : pc + 1 = pc') (K : own_G p e below E (T.setTop (mkF m pc' Ls (.long v :: st)))) : own_G p e below E (T.setTop (mkF m pc Ls (st))) := by
  subst hp
  exact own_st (fun t k => XT.lconstV Y.X.here Y.x rfl v (Y.d hd) hv k) K
theorem own_aconst_null (pc' : Nat) (Y : own_S Z y bytes maxL ret p l e R s m args below meth c T h locs cells slots)  (hd : decode bytes pc = .ok (.aconst_null, 1))  (hp : pc + 1 = pc') (K : own_G p e below E (T.setTop (mkF m pc' Ls (.null :: st)))) : own_G p e below E (T.setTop (mkF m pc Ls (st))) := by
  subst hp
  exact own_st (fun t k => XS.aconstNull Y.X.here Y.x rfl (Y.d hd) k) K
theorem own_iadd (pc' : Nat) (Y : own_S Z y bytes maxL ret p l e R s m args below meth c T h locs cells slots) {x z : Int32} (hd : decode bytes pc = .ok (.iadd, 1))  (hp : pc + 1 = pc') (K : own_G p e below E (T.setTop (mkF m pc' Ls (.int (x + z) :: st)))) : own_G p e below E (T.setTop (mkF m pc Ls (.int z :: .int x :: st))) := by
  subst hp
  exact own_st (fun t k => XS.iadd Y.X.here Y.x rfl (Y.d hd) rfl k) K
theorem own_isub (pc' : Nat) (Y : own_S Z y bytes maxL ret p l e R s m args below meth c T h locs cells slots) {x z : Int32} (hd : decode bytes pc = .ok (.isub, 1))  (hp : pc + 1 = pc') (K : own_G p e below E (T.setTop (mkF m pc' Ls (.int (x - z) :: st)))) : own_G p e below E (T.setTop (mkF m pc Ls (.int z :: .int x :: st))) := by
  subst hp
  exact own_st (fun t k => XS.isub Y.X.here Y.x rfl (Y.d hd) rfl k) K
theorem own_imul (pc' : Nat) (Y : own_S Z y bytes maxL ret p l e R s m args below meth c T h locs cells slots) {x z : Int32} (hd : decode bytes pc = .ok (.imul, 1))  (hp : pc + 1 = pc') (K : own_G p e below E (T.setTop (mkF m pc' Ls (.int (x * z) :: st)))) : own_G p e below E (T.setTop (mkF m pc Ls (.int z :: .int x :: st))) := by
  subst hp
  exact own_st (fun t k => XS.imul Y.X.here Y.x rfl (Y.d hd) rfl k) K
theorem own_iand (pc' : Nat) (Y : own_S Z y bytes maxL ret p l e R s m args below meth c T h locs cells slots) {x z : Int32} (hd : decode bytes pc = .ok (.iand, 1))  (hp : pc + 1 = pc') (K : own_G p e below E (T.setTop (mkF m pc' Ls (.int (x &&& z) :: st)))) : own_G p e below E (T.setTop (mkF m pc Ls (.int z :: .int x :: st))) := by
  subst hp
  exact own_st (fun t k => XS.iand Y.X.here Y.x rfl (Y.d hd) rfl k) K
theorem own_ior (pc' : Nat) (Y : own_S Z y bytes maxL ret p l e R s m args below meth c T h locs cells slots) {x z : Int32} (hd : decode bytes pc = .ok (.ior, 1))  (hp : pc + 1 = pc') (K : own_G p e below E (T.setTop (mkF m pc' Ls (.int (x ||| z) :: st)))) : own_G p e below E (T.setTop (mkF m pc Ls (.int z :: .int x :: st))) := by
  subst hp
  exact own_st (fun t k => XS.ior Y.X.here Y.x rfl (Y.d hd) rfl k) K
theorem own_ixor (pc' : Nat) (Y : own_S Z y bytes maxL ret p l e R s m args below meth c T h locs cells slots) {x z : Int32} (hd : decode bytes pc = .ok (.ixor, 1))  (hp : pc + 1 = pc') (K : own_G p e below E (T.setTop (mkF m pc' Ls (.int (x ^^^ z) :: st)))) : own_G p e below E (T.setTop (mkF m pc Ls (.int z :: .int x :: st))) := by
  subst hp
  exact own_st (fun t k => XS.ixor Y.X.here Y.x rfl (Y.d hd) rfl k) K
theorem own_ishl (pc' : Nat) (Y : own_S Z y bytes maxL ret p l e R s m args below meth c T h locs cells slots) {x z : Int32} (hd : decode bytes pc = .ok (.ishl, 1))  (hp : pc + 1 = pc') (K : own_G p e below E (T.setTop (mkF m pc' Ls (.int (x <<< (z &&& 31)) :: st)))) : own_G p e below E (T.setTop (mkF m pc Ls (.int z :: .int x :: st))) := by
  subst hp
  exact own_st (fun t k => XS.ishl Y.X.here Y.x rfl (Y.d hd) rfl k) K
theorem own_ishr (pc' : Nat) (Y : own_S Z y bytes maxL ret p l e R s m args below meth c T h locs cells slots) {x z : Int32} (hd : decode bytes pc = .ok (.ishr, 1))  (hp : pc + 1 = pc') (K : own_G p e below E (T.setTop (mkF m pc' Ls (.int (x >>> (z &&& 31)) :: st)))) : own_G p e below E (T.setTop (mkF m pc Ls (.int z :: .int x :: st))) := by
  subst hp
  exact own_st (fun t k => XS.ishr Y.X.here Y.x rfl (Y.d hd) rfl k) K
theorem own_iushr (pc' : Nat) (Y : own_S Z y bytes maxL ret p l e R s m args below meth c T h locs cells slots) {x z : Int32} (hd : decode bytes pc = .ok (.iushr, 1))  (hp : pc + 1 = pc') (K : own_G p e below E (T.setTop (mkF m pc' Ls (.int ((x.toUInt32 >>> (z &&& 31).toUInt32).toInt32) :: st)))) : own_G p e below E (T.setTop (mkF m pc Ls (.int z :: .int x :: st))) := by
  subst hp
  exact own_st (fun t k => XS.iushr Y.X.here Y.x rfl (Y.d hd) rfl k) K
theorem own_ladd (pc' : Nat) (Y : own_S Z y bytes maxL ret p l e R s m args below meth c T h locs cells slots) {x z : Int64} (hd : decode bytes pc = .ok (.ladd, 1))  (hp : pc + 1 = pc') (K : own_G p e below E (T.setTop (mkF m pc' Ls (.long (x + z) :: st)))) : own_G p e below E (T.setTop (mkF m pc Ls (.long z :: .long x :: st))) := by
  subst hp
  exact own_st (fun t k => XS.ladd Y.X.here Y.x rfl (Y.d hd) rfl k) K
theorem own_lsub (pc' : Nat) (Y : own_S Z y bytes maxL ret p l e R s m args below meth c T h locs cells slots) {x z : Int64} (hd : decode bytes pc = .ok (.lsub, 1))  (hp : pc + 1 = pc') (K : own_G p e below E (T.setTop (mkF m pc' Ls (.long (x - z) :: st)))) : own_G p e below E (T.setTop (mkF m pc Ls (.long z :: .long x :: st))) := by
  subst hp
  exact own_st (fun t k => XS.lsub Y.X.here Y.x rfl (Y.d hd) rfl k) K
theorem own_lmul (pc' : Nat) (Y : own_S Z y bytes maxL ret p l e R s m args below meth c T h locs cells slots) {x z : Int64} (hd : decode bytes pc = .ok (.lmul, 1))  (hp : pc + 1 = pc') (K : own_G p e below E (T.setTop (mkF m pc' Ls (.long (x * z) :: st)))) : own_G p e below E (T.setTop (mkF m pc Ls (.long z :: .long x :: st))) := by
  subst hp
  exact own_st (fun t k => XS.lmul Y.X.here Y.x rfl (Y.d hd) rfl k) K
theorem own_land (pc' : Nat) (Y : own_S Z y bytes maxL ret p l e R s m args below meth c T h locs cells slots) {x z : Int64} (hd : decode bytes pc = .ok (.land, 1))  (hp : pc + 1 = pc') (K : own_G p e below E (T.setTop (mkF m pc' Ls (.long (x &&& z) :: st)))) : own_G p e below E (T.setTop (mkF m pc Ls (.long z :: .long x :: st))) := by
  subst hp
  exact own_st (fun t k => XS.land Y.X.here Y.x rfl (Y.d hd) rfl k) K
theorem own_lor (pc' : Nat) (Y : own_S Z y bytes maxL ret p l e R s m args below meth c T h locs cells slots) {x z : Int64} (hd : decode bytes pc = .ok (.lor, 1))  (hp : pc + 1 = pc') (K : own_G p e below E (T.setTop (mkF m pc' Ls (.long (x ||| z) :: st)))) : own_G p e below E (T.setTop (mkF m pc Ls (.long z :: .long x :: st))) := by
  subst hp
  exact own_st (fun t k => XS.lor Y.X.here Y.x rfl (Y.d hd) rfl k) K
theorem own_lxor (pc' : Nat) (Y : own_S Z y bytes maxL ret p l e R s m args below meth c T h locs cells slots) {x z : Int64} (hd : decode bytes pc = .ok (.lxor, 1))  (hp : pc + 1 = pc') (K : own_G p e below E (T.setTop (mkF m pc' Ls (.long (x ^^^ z) :: st)))) : own_G p e below E (T.setTop (mkF m pc Ls (.long z :: .long x :: st))) := by
  subst hp
  exact own_st (fun t k => XS.lxor Y.X.here Y.x rfl (Y.d hd) rfl k) K
theorem own_lshl (pc' : Nat) (Y : own_S Z y bytes maxL ret p l e R s m args below meth c T h locs cells slots) {x : Int64} {z : Int32} (hd : decode bytes pc = .ok (.lshl, 1))  (hp : pc + 1 = pc') (K : own_G p e below E (T.setTop (mkF m pc' Ls (.long (x <<< (z &&& 0x3f).toInt64) :: st)))) : own_G p e below E (T.setTop (mkF m pc Ls (.int z :: .long x :: st))) := by
  subst hp
  exact own_st (fun t k => XS.lshl Y.X.here Y.x rfl (Y.d hd) rfl k) K
theorem own_lshr (pc' : Nat) (Y : own_S Z y bytes maxL ret p l e R s m args below meth c T h locs cells slots) {x : Int64} {z : Int32} (hd : decode bytes pc = .ok (.lshr, 1))  (hp : pc + 1 = pc') (K : own_G p e below E (T.setTop (mkF m pc' Ls (.long (x >>> (z &&& 0x3f).toInt64) :: st)))) : own_G p e below E (T.setTop (mkF m pc Ls (.int z :: .long x :: st))) := by
  subst hp
  exact own_st (fun t k => XS.lshr Y.X.here Y.x rfl (Y.d hd) rfl k) K
theorem own_lushr (pc' : Nat) (Y : own_S Z y bytes maxL ret p l e R s m args below meth c T h locs cells slots) {x : Int64} {z : Int32} (hd : decode bytes pc = .ok (.lushr, 1))  (hp : pc + 1 = pc') (K : own_G p e below E (T.setTop (mkF m pc' Ls (.long ((x.toUInt64 >>> (z &&& 0x3f).toInt64.toUInt64).toInt64) :: st)))) : own_G p e below E (T.setTop (mkF m pc Ls (.int z :: .long x :: st))) := by
  subst hp
  exact own_st (fun t k => XS.lushr Y.X.here Y.x rfl (Y.d hd) rfl k) K
theorem own_idiv (pc' : Nat) (Y : own_S Z y bytes maxL ret p l e R s m args below meth c T h locs cells slots) {x z : Int32} (hd : decode bytes pc = .ok (.idiv, 1)) (hz : z ≠ 0) (hp : pc + 1 = pc') (K : own_G p e below E (T.setTop (mkF m pc' Ls (.int (x / z) :: st)))) : own_G p e below E (T.setTop (mkF m pc Ls (.int z :: .int x :: st))) := by
  subst hp
  exact own_st (fun t k => XS.idiv Y.X.here Y.x rfl (Y.d hd) rfl hz k) K
theorem own_irem (pc' : Nat) (Y : own_S Z y bytes maxL ret p l e R s m args below meth c T h locs cells slots) {x z : Int32} (hd : decode bytes pc = .ok (.irem, 1)) (hz : z ≠ 0) (hp : pc + 1 = pc') (K : own_G p e below E (T.setTop (mkF m pc' Ls (.int (x % z) :: st)))) : own_G p e below E (T.setTop (mkF m pc Ls (.int z :: .int x :: st))) := by
  subst hp
  exact own_st (fun t k => iremM Y.X Y.x rfl (Y.d hd) rfl hz k) K
theorem own_ldiv (pc' : Nat) (Y : own_S Z y bytes maxL ret p l e R s m args below meth c T h locs cells slots) {x z : Int64} (hd : decode bytes pc = .ok (.ldiv, 1)) (hz : z ≠ 0) (hp : pc + 1 = pc') (K : own_G p e below E (T.setTop (mkF m pc' Ls (.long (x / z) :: st)))) : own_G p e below E (T.setTop (mkF m pc Ls (.long z :: .long x :: st))) := by
  subst hp
  exact own_st (fun t k => XS.ldiv Y.X.here Y.x rfl (Y.d hd) rfl hz k) K
theorem own_lrem (pc' : Nat) (Y : own_S Z y bytes maxL ret p l e R s m args below meth c T h locs cells slots) {x z : Int64} (hd : decode bytes pc = .ok (.lrem, 1)) (hz : z ≠ 0) (hp : pc + 1 = pc') (K : own_G p e below E (T.setTop (mkF m pc' Ls (.long (x - (x / z) * z) :: st)))) : own_G p e below E (T.setTop (mkF m pc Ls (.long z :: .long x :: st))) := by
  subst hp
  exact own_st (fun t k => XS.lrem Y.X.here Y.x rfl (Y.d hd) rfl hz k) K
theorem own_ineg (pc' : Nat) (Y : own_S Z y bytes maxL ret p l e R s m args below meth c T h locs cells slots) {x : Int32} (hd : decode bytes pc = .ok (.ineg, 1))  (hp : pc + 1 = pc') (K : own_G p e below E (T.setTop (mkF m pc' Ls (.int (-x) :: st)))) : own_G p e below E (T.setTop (mkF m pc Ls (.int x :: st))) := by
  subst hp
  exact own_st (fun t k => XS.ineg Y.X.here Y.x rfl (Y.d hd) rfl k) K
theorem own_i2b (pc' : Nat) (Y : own_S Z y bytes maxL ret p l e R s m args below meth c T h locs cells slots) {x : Int32} (hd : decode bytes pc = .ok (.i2b, 1))  (hp : pc + 1 = pc') (K : own_G p e below E (T.setTop (mkF m pc' Ls (.int (x.toInt8.toInt32) :: st)))) : own_G p e below E (T.setTop (mkF m pc Ls (.int x :: st))) := by
  subst hp
  exact own_st (fun t k => XS.i2b Y.X.here Y.x rfl (Y.d hd) rfl k) K
theorem own_i2c (pc' : Nat) (Y : own_S Z y bytes maxL ret p l e R s m args below meth c T h locs cells slots) {x : Int32} (hd : decode bytes pc = .ok (.i2c, 1))  (hp : pc + 1 = pc') (K : own_G p e below E (T.setTop (mkF m pc' Ls (.int (x.toUInt32.toUInt16.toUInt32.toInt32) :: st)))) : own_G p e below E (T.setTop (mkF m pc Ls (.int x :: st))) := by
  subst hp
  exact own_st (fun t k => XS.i2c Y.X.here Y.x rfl (Y.d hd) rfl k) K
theorem own_i2s (pc' : Nat) (Y : own_S Z y bytes maxL ret p l e R s m args below meth c T h locs cells slots) {x : Int32} (hd : decode bytes pc = .ok (.i2s, 1))  (hp : pc + 1 = pc') (K : own_G p e below E (T.setTop (mkF m pc' Ls (.int (x.toInt16.toInt32) :: st)))) : own_G p e below E (T.setTop (mkF m pc Ls (.int x :: st))) := by
  subst hp
  exact own_st (fun t k => XS.i2s Y.X.here Y.x rfl (Y.d hd) rfl k) K
theorem own_i2l (pc' : Nat) (Y : own_S Z y bytes maxL ret p l e R s m args below meth c T h locs cells slots) {x : Int32} (hd : decode bytes pc = .ok (.i2l, 1))  (hp : pc + 1 = pc') (K : own_G p e below E (T.setTop (mkF m pc' Ls (.long x.toInt64 :: st)))) : own_G p e below E (T.setTop (mkF m pc Ls (.int x :: st))) := by
  subst hp
  exact own_st (fun t k => XS.i2l Y.X.here Y.x rfl (Y.d hd) rfl k) K
theorem own_l2i (pc' : Nat) (Y : own_S Z y bytes maxL ret p l e R s m args below meth c T h locs cells slots) {x : Int64} (hd : decode bytes pc = .ok (.l2i, 1))  (hp : pc + 1 = pc') (K : own_G p e below E (T.setTop (mkF m pc' Ls (.int x.toInt32 :: st)))) : own_G p e below E (T.setTop (mkF m pc Ls (.long x :: st))) := by
  subst hp
  exact own_st (fun t k => XS.l2i Y.X.here Y.x rfl (Y.d hd) rfl k) K
theorem own_lneg (pc' : Nat) (Y : own_S Z y bytes maxL ret p l e R s m args below meth c T h locs cells slots) {x : Int64} (hd : decode bytes pc = .ok (.lneg, 1))  (hp : pc + 1 = pc') (K : own_G p e below E (T.setTop (mkF m pc' Ls (.long (-x) :: st)))) : own_G p e below E (T.setTop (mkF m pc Ls (.long x :: st))) := by
  subst hp
  exact own_st (fun t k => XS.lneg Y.X.here Y.x rfl (Y.d hd) rfl k) K
theorem own_lcmp (pc' : Nat) (Y : own_S Z y bytes maxL ret p l e R s m args below meth c T h locs cells slots) {x z : Int64} (hd : decode bytes pc = .ok (.lcmp, 1))  (hp : pc + 1 = pc') (K : own_G p e below E (T.setTop (mkF m pc' Ls (.int (lcmpW x z) :: st)))) : own_G p e below E (T.setTop (mkF m pc Ls (.long z :: .long x :: st))) := by
  subst hp
  exact own_st (fun t k => XS.lcmp Y.X.here Y.x rfl (Y.d hd) rfl k) K
theorem own_dup (pc' : Nat) (Y : own_S Z y bytes maxL ret p l e R s m args below meth c T h locs cells slots) {x : Value} (hd : decode bytes pc = .ok (.dup, 1)) (hc : x.category = 1) (hp : pc + 1 = pc') (K : own_G p e below E (T.setTop (mkF m pc' Ls (x :: x :: st)))) : own_G p e below E (T.setTop (mkF m pc Ls (x :: st))) := by
  subst hp
  exact own_st (fun t k => XS.dup Y.X.here Y.x rfl (Y.d hd) rfl hc k) K
theorem own_dupX1 (pc' : Nat) (Y : own_S Z y bytes maxL ret p l e R s m args below meth c T h locs cells slots) {x z : Value} (hd : decode bytes pc = .ok (.dup_x1, 1)) (hc : x.category = 1) (hc' : z.category = 1) (hp : pc + 1 = pc') (K : own_G p e below E (T.setTop (mkF m pc' Ls (x :: z :: x :: st)))) : own_G p e below E (T.setTop (mkF m pc Ls (x :: z :: st))) := by
  subst hp
  exact own_st (fun t k => XS.dupX1 Y.X.here Y.x rfl (Y.d hd) rfl hc hc' k) K
theorem own_pop (pc' : Nat) (Y : own_S Z y bytes maxL ret p l e R s m args below meth c T h locs cells slots) {x : Value} (hd : decode bytes pc = .ok (.pop, 1)) (hc : x.category = 1) (hp : pc + 1 = pc') (K : own_G p e below E (T.setTop (mkF m pc' Ls (st)))) : own_G p e below E (T.setTop (mkF m pc Ls (x :: st))) := by
  subst hp
  exact own_st (fun t k => XS.pop Y.X.here Y.x rfl (Y.d hd) rfl hc k) K
theorem own_istoreN (pc' : Nat) (Y : own_S Z y bytes maxL ret p l e R s m args below meth c T h locs cells slots) (Ls' : Array Slot) {k : Fin 4} {x : Int32} (hd : decode bytes pc = .ok (.istore_n k, 1)) (hl : storeLocals Ls k.val (.int x) = some Ls') (hp : pc + 1 = pc') (K : own_G p e below E (T.setTop (mkF m pc' Ls' (st)))) : own_G p e below E (T.setTop (mkF m pc Ls (.int x :: st))) := by
  subst hp
  exact own_st (fun t k => XS.istoreN Y.X.here Y.x rfl (Y.d hd) rfl hl k) K
theorem own_istore (pc' : Nat) (Y : own_S Z y bytes maxL ret p l e R s m args below meth c T h locs cells slots) (Ls' : Array Slot) {k : Nat} {x : Int32} (hd : decode bytes pc = .ok (.istore k, 2)) (hl : storeLocals Ls k (.int x) = some Ls') (hp : pc + 2 = pc') (K : own_G p e below E (T.setTop (mkF m pc' Ls' (st)))) : own_G p e below E (T.setTop (mkF m pc Ls (.int x :: st))) := by
  subst hp
  exact own_st (fun t k => XS.istore Y.X.here Y.x rfl (Y.d hd) rfl hl k) K
theorem own_lstoreN (pc' : Nat) (Y : own_S Z y bytes maxL ret p l e R s m args below meth c T h locs cells slots) (Ls' : Array Slot) {k : Fin 4} {x : Int64} (hd : decode bytes pc = .ok (.lstore_n k, 1)) (hl : storeLocals Ls k.val (.long x) = some Ls') (hp : pc + 1 = pc') (K : own_G p e below E (T.setTop (mkF m pc' Ls' (st)))) : own_G p e below E (T.setTop (mkF m pc Ls (.long x :: st))) := by
  subst hp
  exact own_st (fun t k => XS.lstoreN Y.X.here Y.x rfl (Y.d hd) rfl hl k) K
theorem own_lstore (pc' : Nat) (Y : own_S Z y bytes maxL ret p l e R s m args below meth c T h locs cells slots) (Ls' : Array Slot) {k : Nat} {x : Int64} (hd : decode bytes pc = .ok (.lstore k, 2)) (hl : storeLocals Ls k (.long x) = some Ls') (hp : pc + 2 = pc') (K : own_G p e below E (T.setTop (mkF m pc' Ls' (st)))) : own_G p e below E (T.setTop (mkF m pc Ls (.long x :: st))) := by
  subst hp
  exact own_st (fun t k => XS.lstore Y.X.here Y.x rfl (Y.d hd) rfl hl k) K
theorem own_astoreN (pc' : Nat) (Y : own_S Z y bytes maxL ret p l e R s m args below meth c T h locs cells slots) (Ls' : Array Slot) {k : Fin 4} {x : Value} (hd : decode bytes pc = .ok (.astore_n k, 1)) (hv : x.isRef = true) (hl : storeLocals Ls k.val (x) = some Ls') (hp : pc + 1 = pc') (K : own_G p e below E (T.setTop (mkF m pc' Ls' (st)))) : own_G p e below E (T.setTop (mkF m pc Ls (x :: st))) := by
  subst hp
  exact own_st (fun t k => XS.astoreN Y.X.here Y.x rfl (Y.d hd) rfl hv hl k) K
theorem own_astore (pc' : Nat) (Y : own_S Z y bytes maxL ret p l e R s m args below meth c T h locs cells slots) (Ls' : Array Slot) {k : Nat} {x : Value} (hd : decode bytes pc = .ok (.astore k, 2)) (hv : x.isRef = true) (hl : storeLocals Ls k (x) = some Ls') (hp : pc + 2 = pc') (K : own_G p e below E (T.setTop (mkF m pc' Ls' (st)))) : own_G p e below E (T.setTop (mkF m pc Ls (x :: st))) := by
  subst hp
  exact own_st (fun t k => XS.astore Y.X.here Y.x rfl (Y.d hd) rfl hv hl k) K
theorem own_iinc (pc' : Nat) (Y : own_S Z y bytes maxL ret p l e R s m args below meth c T h locs cells slots) (Ls' : Array Slot) (v : Int32) {k : Nat} {cst : Int} {x : Int32} (hd : decode bytes pc = .ok (.iinc k cst, 3)) (hv : Int32.ofInt cst = v) (hl : Ls[k]? = some (.val (.int x))) (hl' : storeLocals Ls k (.int (x + v)) = some Ls') (hp : pc + 3 = pc') (K : own_G p e below E (T.setTop (mkF m pc' Ls' (st)))) : own_G p e below E (T.setTop (mkF m pc Ls (st))) := by
  subst hp
  exact own_st (fun t k => XT.iincV Y.X.here Y.x rfl v (Y.d hd) hv hl hl' k) K
theorem own_dloadN (pc' : Nat) (Y : own_S Z y bytes maxL ret p l e R s m args below meth c T h locs cells slots) {k : Fin 4} {v : UInt64} (hd : decode bytes pc = .ok (.dload_n k, 1)) (hl : Ls[k.val]? = some (.val (.double v))) (hp : pc + 1 = pc') (K : own_G p e below E (T.setTop (mkF m pc' Ls (.double v :: st)))) : own_G p e below E (T.setTop (mkF m pc Ls (st))) := by
  subst hp
  exact own_st (fun t k => XS.dloadN Y.X.here Y.x rfl (Y.d hd) hl k) K
theorem own_dload (pc' : Nat) (Y : own_S Z y bytes maxL ret p l e R s m args below meth c T h locs cells slots) {k : Nat} {v : UInt64} (hd : decode bytes pc = .ok (.dload k, 2)) (hl : Ls[k]? = some (.val (.double v))) (hp : pc + 2 = pc') (K : own_G p e below E (T.setTop (mkF m pc' Ls (.double v :: st)))) : own_G p e below E (T.setTop (mkF m pc Ls (st))) := by
  subst hp
  exact own_st (fun t k => XS.dload Y.X.here Y.x rfl (Y.d hd) hl k) K
theorem own_dstoreN (pc' : Nat) (Y : own_S Z y bytes maxL ret p l e R s m args below meth c T h locs cells slots) (Ls' : Array Slot) {k : Fin 4} {x : UInt64} (hd : decode bytes pc = .ok (.dstore_n k, 1)) (hl : storeLocals Ls k.val (.double x) = some Ls') (hp : pc + 1 = pc') (K : own_G p e below E (T.setTop (mkF m pc' Ls' (st)))) : own_G p e below E (T.setTop (mkF m pc Ls (.double x :: st))) := by
  subst hp
  exact own_st (fun t k => XS.dstoreN Y.X.here Y.x rfl (Y.d hd) rfl hl k) K
theorem own_dstore (pc' : Nat) (Y : own_S Z y bytes maxL ret p l e R s m args below meth c T h locs cells slots) (Ls' : Array Slot) {k : Nat} {x : UInt64} (hd : decode bytes pc = .ok (.dstore k, 2)) (hl : storeLocals Ls k (.double x) = some Ls') (hp : pc + 2 = pc') (K : own_G p e below E (T.setTop (mkF m pc' Ls' (st)))) : own_G p e below E (T.setTop (mkF m pc Ls (.double x :: st))) := by
  subst hp
  exact own_st (fun t k => XS.dstore Y.X.here Y.x rfl (Y.d hd) rfl hl k) K
theorem own_i2d (pc' : Nat) (Y : own_S Z y bytes maxL ret p l e R s m args below meth c T h locs cells slots) {x : Int32} (hd : decode bytes pc = .ok (.i2d, 1))  (hp : pc + 1 = pc') (K : own_G p e below E (T.setTop (mkF m pc' Ls (.double (FP.l2d x.toInt64) :: st)))) : own_G p e below E (T.setTop (mkF m pc Ls (.int x :: st))) := by
  subst hp
  exact own_st (fun t k => XS.i2dS Y.X.here Y.x rfl (Y.d hd) rfl (i2d_w x) k) K
theorem own_l2d (pc' : Nat) (Y : own_S Z y bytes maxL ret p l e R s m args below meth c T h locs cells slots) {x : Int64} (hd : decode bytes pc = .ok (.l2d, 1))  (hp : pc + 1 = pc') (K : own_G p e below E (T.setTop (mkF m pc' Ls (.double (FP.l2d x) :: st)))) : own_G p e below E (T.setTop (mkF m pc Ls (.long x :: st))) := by
  subst hp
  exact own_st (fun t k => XS.l2dS Y.X.here Y.x rfl (Y.d hd) rfl rfl k) K
theorem own_dsub (pc' : Nat) (Y : own_S Z y bytes maxL ret p l e R s m args below meth c T h locs cells slots) {x z : Int64} (hbx : B53 x) (hbz : B53 z) (hd : decode bytes pc = .ok (.dsub, 1))  (hp : pc + 1 = pc') (K : own_G p e below E (T.setTop (mkF m pc' Ls (.double (FP.l2d (x - z)) :: st)))) : own_G p e below E (T.setTop (mkF m pc Ls (.double (FP.l2d z) :: .double (FP.l2d x) :: st))) := by
  subst hp
  exact own_st (fun t k => XS.dsubS Y.X.here Y.x rfl (Y.d hd) rfl (nn_w (dsub_w hbx hbz)) (dsub_w hbx hbz) k) K
theorem own_dcmp (pc' : Nat) (Y : own_S Z y bytes maxL ret p l e R s m args below meth c T h locs cells slots) {o : CmpOp} {x z : Int64} (hbx : B53 x) (hbz : B53 z) (hd : decode bytes pc = .ok (.dcmp o, 1))  (hp : pc + 1 = pc') (K : own_G p e below E (T.setTop (mkF m pc' Ls (.int (lcmpW x z) :: st)))) : own_G p e below E (T.setTop (mkF m pc Ls (.double (FP.l2d z) :: .double (FP.l2d x) :: st))) := by
  subst hp
  exact own_st (fun t k => XS.dcmpS Y.X.here Y.x rfl (Y.d hd) rfl (dcmpV_w hbx hbz o) k) K
theorem own_pc {pc pc' : Nat} {o : Int} (hp : (pc : Int) + o = (pc' : Int)) : 0 ≤ (pc : Int) + o ∧ ((pc : Int) + o).toNat = pc' := by rw [hp]; exact ⟨Int.natCast_nonneg _, Int.toNat_natCast _⟩
theorem own_goto (pc' : Nat) (Y : own_S Z y bytes maxL ret p l e R s m args below meth c T h locs cells slots) {o : Int} (hd : decode bytes pc = .ok (.goto o, 3)) (hp : (pc : Int) + o = (pc' : Int)) (K : own_G p e below E (T.setTop (mkF m pc' Ls st))) : own_G p e below E (T.setTop (mkF m pc Ls st)) :=
  own_st (fun t k => XS.goto Y.X.here Y.x rfl rfl (Y.d hd) (own_pc hp).1 (own_pc hp).2 k) K
theorem own_ifT (pc' : Nat) (Y : own_S Z y bytes maxL ret p l e R s m args below meth c T h locs cells slots) {cd : ClassFile.Cond} {o : Int} {x : Int32} (hd : decode bytes pc = .ok (.ifCond cd o, 3)) (hc : ifCond.holds cd x = true) (hp : (pc : Int) + o = (pc' : Int)) (K : own_G p e below E (T.setTop (mkF m pc' Ls st))) : own_G p e below E (T.setTop (mkF m pc Ls (.int x :: st))) :=
  own_st (fun t k => XS.ifYes Y.X.here Y.x rfl rfl (Y.d hd) rfl hc (own_pc hp).1 (own_pc hp).2 k) K
theorem own_ifF (pc' : Nat) (Y : own_S Z y bytes maxL ret p l e R s m args below meth c T h locs cells slots) {cd : ClassFile.Cond} {o : Int} {x : Int32} (hd : decode bytes pc = .ok (.ifCond cd o, 3)) (hc : ifCond.holds cd x = false) (hp : pc + 3 = pc') (K : own_G p e below E (T.setTop (mkF m pc' Ls st))) : own_G p e below E (T.setTop (mkF m pc Ls (.int x :: st))) := by
  subst hp
  exact own_st (fun t k => XS.ifNo Y.X.here Y.x rfl (Y.d hd) rfl hc k) K
theorem own_icT (pc' : Nat) (Y : own_S Z y bytes maxL ret p l e R s m args below meth c T h locs cells slots) {cd : ClassFile.Cond} {o : Int} {x z : Int32} (hd : decode bytes pc = .ok (.if_icmp cd o, 3)) (hc : if_icmp.holds cd x z = true) (hp : (pc : Int) + o = (pc' : Int)) (K : own_G p e below E (T.setTop (mkF m pc' Ls st))) : own_G p e below E (T.setTop (mkF m pc Ls (.int z :: .int x :: st))) :=
  own_st (fun t k => XS.icmpYes Y.X.here Y.x rfl rfl (Y.d hd) rfl hc (own_pc hp).1 (own_pc hp).2 k) K
theorem own_icF (pc' : Nat) (Y : own_S Z y bytes maxL ret p l e R s m args below meth c T h locs cells slots) {cd : ClassFile.Cond} {o : Int} {x z : Int32} (hd : decode bytes pc = .ok (.if_icmp cd o, 3)) (hc : if_icmp.holds cd x z = false) (hp : pc + 3 = pc') (K : own_G p e below E (T.setTop (mkF m pc' Ls st))) : own_G p e below E (T.setTop (mkF m pc Ls (.int z :: .int x :: st))) := by
  subst hp
  exact own_st (fun t k => XS.icmpNo Y.X.here Y.x rfl (Y.d hd) rfl hc k) K
theorem own_if_eq (pc' pc'' : Nat) (Y : own_S Z y bytes maxL ret p l e R s m args below meth c T h locs cells slots) {x : Int32} {o : Int} (hd : decode bytes pc = .ok (.ifCond .eq o, 3)) (hp : (pc : Int) + o = (pc' : Int)) (hp' : pc + 3 = pc'') (KT : x = 0 → own_G p e below E (T.setTop (mkF m pc' Ls st))) (KF : ¬ x = 0 → own_G p e below E (T.setTop (mkF m pc'' Ls st))) : own_G p e below E (T.setTop (mkF m pc Ls (.int x :: st))) :=
  (Decidable.em (x = 0)).elim (fun q => own_ifT pc' Y hd (XT.i0_eq_t q) hp (KT q)) (fun q => own_ifF pc'' Y hd (XT.i0_eq_f q) hp' (KF q))
theorem own_ic_eq (pc' pc'' : Nat) (Y : own_S Z y bytes maxL ret p l e R s m args below meth c T h locs cells slots) {x z : Int32} {o : Int} (hd : decode bytes pc = .ok (.if_icmp .eq o, 3)) (hp : (pc : Int) + o = (pc' : Int)) (hp' : pc + 3 = pc'') (KT : x = z → own_G p e below E (T.setTop (mkF m pc' Ls st))) (KF : ¬ x = z → own_G p e below E (T.setTop (mkF m pc'' Ls st))) : own_G p e below E (T.setTop (mkF m pc Ls (.int z :: .int x :: st))) :=
  (Decidable.em (x = z)).elim (fun q => own_icT pc' Y hd (XT.ii_eq_t q) hp (KT q)) (fun q => own_icF pc'' Y hd (XT.ii_eq_f q) hp' (KF q))
theorem own_if_ne (pc' pc'' : Nat) (Y : own_S Z y bytes maxL ret p l e R s m args below meth c T h locs cells slots) {x : Int32} {o : Int} (hd : decode bytes pc = .ok (.ifCond .ne o, 3)) (hp : (pc : Int) + o = (pc' : Int)) (hp' : pc + 3 = pc'') (KT : ¬ x = 0 → own_G p e below E (T.setTop (mkF m pc' Ls st))) (KF : x = 0 → own_G p e below E (T.setTop (mkF m pc'' Ls st))) : own_G p e below E (T.setTop (mkF m pc Ls (.int x :: st))) :=
  (Decidable.em (x = 0)).elim (fun q => own_ifF pc'' Y hd (XT.i0_ne_f q) hp' (KF q)) (fun q => own_ifT pc' Y hd (XT.i0_ne_t q) hp (KT q))
theorem own_ic_ne (pc' pc'' : Nat) (Y : own_S Z y bytes maxL ret p l e R s m args below meth c T h locs cells slots) {x z : Int32} {o : Int} (hd : decode bytes pc = .ok (.if_icmp .ne o, 3)) (hp : (pc : Int) + o = (pc' : Int)) (hp' : pc + 3 = pc'') (KT : ¬ x = z → own_G p e below E (T.setTop (mkF m pc' Ls st))) (KF : x = z → own_G p e below E (T.setTop (mkF m pc'' Ls st))) : own_G p e below E (T.setTop (mkF m pc Ls (.int z :: .int x :: st))) :=
  (Decidable.em (x = z)).elim (fun q => own_icF pc'' Y hd (XT.ii_ne_f q) hp' (KF q)) (fun q => own_icT pc' Y hd (XT.ii_ne_t q) hp (KT q))
theorem own_if_lt (pc' pc'' : Nat) (Y : own_S Z y bytes maxL ret p l e R s m args below meth c T h locs cells slots) {x : Int32} {o : Int} (hd : decode bytes pc = .ok (.ifCond .lt o, 3)) (hp : (pc : Int) + o = (pc' : Int)) (hp' : pc + 3 = pc'') (KT : x < 0 → own_G p e below E (T.setTop (mkF m pc' Ls st))) (KF : ¬ x < 0 → own_G p e below E (T.setTop (mkF m pc'' Ls st))) : own_G p e below E (T.setTop (mkF m pc Ls (.int x :: st))) :=
  (Decidable.em (x < 0)).elim (fun q => own_ifT pc' Y hd (XT.i0_lt_t q) hp (KT q)) (fun q => own_ifF pc'' Y hd (XT.i0_lt_f q) hp' (KF q))
theorem own_ic_lt (pc' pc'' : Nat) (Y : own_S Z y bytes maxL ret p l e R s m args below meth c T h locs cells slots) {x z : Int32} {o : Int} (hd : decode bytes pc = .ok (.if_icmp .lt o, 3)) (hp : (pc : Int) + o = (pc' : Int)) (hp' : pc + 3 = pc'') (KT : x < z → own_G p e below E (T.setTop (mkF m pc' Ls st))) (KF : ¬ x < z → own_G p e below E (T.setTop (mkF m pc'' Ls st))) : own_G p e below E (T.setTop (mkF m pc Ls (.int z :: .int x :: st))) :=
  (Decidable.em (x < z)).elim (fun q => own_icT pc' Y hd (XT.ii_lt_t q) hp (KT q)) (fun q => own_icF pc'' Y hd (XT.ii_lt_f q) hp' (KF q))
theorem own_if_ge (pc' pc'' : Nat) (Y : own_S Z y bytes maxL ret p l e R s m args below meth c T h locs cells slots) {x : Int32} {o : Int} (hd : decode bytes pc = .ok (.ifCond .ge o, 3)) (hp : (pc : Int) + o = (pc' : Int)) (hp' : pc + 3 = pc'') (KT : ¬ x < 0 → own_G p e below E (T.setTop (mkF m pc' Ls st))) (KF : x < 0 → own_G p e below E (T.setTop (mkF m pc'' Ls st))) : own_G p e below E (T.setTop (mkF m pc Ls (.int x :: st))) :=
  (Decidable.em (x < 0)).elim (fun q => own_ifF pc'' Y hd (XT.i0_ge_f q) hp' (KF q)) (fun q => own_ifT pc' Y hd (XT.i0_ge_t q) hp (KT q))
theorem own_ic_ge (pc' pc'' : Nat) (Y : own_S Z y bytes maxL ret p l e R s m args below meth c T h locs cells slots) {x z : Int32} {o : Int} (hd : decode bytes pc = .ok (.if_icmp .ge o, 3)) (hp : (pc : Int) + o = (pc' : Int)) (hp' : pc + 3 = pc'') (KT : ¬ x < z → own_G p e below E (T.setTop (mkF m pc' Ls st))) (KF : x < z → own_G p e below E (T.setTop (mkF m pc'' Ls st))) : own_G p e below E (T.setTop (mkF m pc Ls (.int z :: .int x :: st))) :=
  (Decidable.em (x < z)).elim (fun q => own_icF pc'' Y hd (XT.ii_ge_f q) hp' (KF q)) (fun q => own_icT pc' Y hd (XT.ii_ge_t q) hp (KT q))
theorem own_if_gt (pc' pc'' : Nat) (Y : own_S Z y bytes maxL ret p l e R s m args below meth c T h locs cells slots) {x : Int32} {o : Int} (hd : decode bytes pc = .ok (.ifCond .gt o, 3)) (hp : (pc : Int) + o = (pc' : Int)) (hp' : pc + 3 = pc'') (KT : 0 < x → own_G p e below E (T.setTop (mkF m pc' Ls st))) (KF : ¬ 0 < x → own_G p e below E (T.setTop (mkF m pc'' Ls st))) : own_G p e below E (T.setTop (mkF m pc Ls (.int x :: st))) :=
  (Decidable.em (0 < x)).elim (fun q => own_ifT pc' Y hd (XT.i0_gt_t q) hp (KT q)) (fun q => own_ifF pc'' Y hd (XT.i0_gt_f q) hp' (KF q))
theorem own_ic_gt (pc' pc'' : Nat) (Y : own_S Z y bytes maxL ret p l e R s m args below meth c T h locs cells slots) {x z : Int32} {o : Int} (hd : decode bytes pc = .ok (.if_icmp .gt o, 3)) (hp : (pc : Int) + o = (pc' : Int)) (hp' : pc + 3 = pc'') (KT : z < x → own_G p e below E (T.setTop (mkF m pc' Ls st))) (KF : ¬ z < x → own_G p e below E (T.setTop (mkF m pc'' Ls st))) : own_G p e below E (T.setTop (mkF m pc Ls (.int z :: .int x :: st))) :=
  (Decidable.em (z < x)).elim (fun q => own_icT pc' Y hd (XT.ii_gt_t q) hp (KT q)) (fun q => own_icF pc'' Y hd (XT.ii_gt_f q) hp' (KF q))
theorem own_if_le (pc' pc'' : Nat) (Y : own_S Z y bytes maxL ret p l e R s m args below meth c T h locs cells slots) {x : Int32} {o : Int} (hd : decode bytes pc = .ok (.ifCond .le o, 3)) (hp : (pc : Int) + o = (pc' : Int)) (hp' : pc + 3 = pc'') (KT : ¬ 0 < x → own_G p e below E (T.setTop (mkF m pc' Ls st))) (KF : 0 < x → own_G p e below E (T.setTop (mkF m pc'' Ls st))) : own_G p e below E (T.setTop (mkF m pc Ls (.int x :: st))) :=
  (Decidable.em (0 < x)).elim (fun q => own_ifF pc'' Y hd (XT.i0_le_f q) hp' (KF q)) (fun q => own_ifT pc' Y hd (XT.i0_le_t q) hp (KT q))
theorem own_ic_le (pc' pc'' : Nat) (Y : own_S Z y bytes maxL ret p l e R s m args below meth c T h locs cells slots) {x z : Int32} {o : Int} (hd : decode bytes pc = .ok (.if_icmp .le o, 3)) (hp : (pc : Int) + o = (pc' : Int)) (hp' : pc + 3 = pc'') (KT : ¬ z < x → own_G p e below E (T.setTop (mkF m pc' Ls st))) (KF : z < x → own_G p e below E (T.setTop (mkF m pc'' Ls st))) : own_G p e below E (T.setTop (mkF m pc Ls (.int z :: .int x :: st))) :=
  (Decidable.em (z < x)).elim (fun q => own_icF pc'' Y hd (XT.ii_le_f q) hp' (KF q)) (fun q => own_icT pc' Y hd (XT.ii_le_t q) hp (KT q))
theorem own_acmp (pc' : Nat) (same : Bool) (Y : own_S Z y bytes maxL ret p l e R s m args below meth c T h locs cells slots) {cd : ACond} {o : Int} {x z : Value} (hd : decode bytes pc = .ok (.if_acmp cd o, 3)) (h1 : x.isRef = true) (h2 : z.isRef = true) (hq : decide (x = z) = same) (ho : 0 ≤ (pc : Int) + o) (hp : pc' = if acV cd same = true then ((pc : Int) + o).toNat else pc + 3) (K : own_G p e below E (T.setTop (mkF m pc' Ls st))) : own_G p e below E (T.setTop (mkF m pc Ls (z :: x :: st))) :=
  own_st (fun t k => Jvm.RoadKit.acmp Y.X Y.x rfl h1 h2 rfl (Y.d hd) rfl hq ho hp k) K
theorem own_ifnullT (pc' : Nat) (Y : own_S Z y bytes maxL ret p l e R s m args below meth c T h locs cells slots) {o : Int} (hd : decode bytes pc = .ok (.ifnull o, 3)) (hp : (pc : Int) + o = (pc' : Int)) (K : own_G p e below E (T.setTop (mkF m pc' Ls st))) : own_G p e below E (T.setTop (mkF m pc Ls (.null :: st))) :=
  own_st (fun t k => XS.ifnullYes Y.X.here Y.x rfl rfl (Y.d hd) rfl (own_pc hp).1 (own_pc hp).2 k) K
theorem own_ifnonnullT (pc' : Nat) (Y : own_S Z y bytes maxL ret p l e R s m args below meth c T h locs cells slots) {b : Addr} {o : Int} (hd : decode bytes pc = .ok (.ifnonnull o, 3)) (hp : (pc : Int) + o = (pc' : Int)) (K : own_G p e below E (T.setTop (mkF m pc' Ls st))) : own_G p e below E (T.setTop (mkF m pc Ls (.ref b :: st))) :=
  own_st (fun t k => XS.ifnonnullYes Y.X.here Y.x rfl rfl (Y.d hd) rfl (own_pc hp).1 (own_pc hp).2 k) K
theorem own_ifnullF (pc' : Nat) (Y : own_S Z y bytes maxL ret p l e R s m args below meth c T h locs cells slots) {b : Addr} {o : Int} (hd : decode bytes pc = .ok (.ifnull o, 3)) (hp : pc + 3 = pc') (K : own_G p e below E (T.setTop (mkF m pc' Ls st))) : own_G p e below E (T.setTop (mkF m pc Ls (.ref b :: st))) := by
  subst hp
  exact own_st (fun t k => XS.ifnullNo Y.X.here Y.x rfl (Y.d hd) rfl k) K
theorem own_ifnonnullF (pc' : Nat) (Y : own_S Z y bytes maxL ret p l e R s m args below meth c T h locs cells slots) {o : Int} (hd : decode bytes pc = .ok (.ifnonnull o, 3)) (hp : pc + 3 = pc') (K : own_G p e below E (T.setTop (mkF m pc' Ls st))) : own_G p e below E (T.setTop (mkF m pc Ls (.null :: st))) := by
  subst hp
  exact own_st (fun t k => XS.ifnonnullNo Y.X.here Y.x rfl (Y.d hd) rfl k) K
theorem own_tswIn (pc' : Nat) (Y : own_S Z y bytes maxL ret p l e R s m args below meth c T h locs cells slots) {dflt low high : Int} {offs : Array Int} {len : Nat} {o : Int} {i : Int32} (hd : decode bytes pc = .ok (.tableswitch dflt low high offs, len)) (hin : ¬ (i.toInt < low ∨ i.toInt > high)) (hoff : offs[(i.toInt - low).toNat]? = some o) (hp : (pc : Int) + o = (pc' : Int)) (K : own_G p e below E (T.setTop (mkF m pc' Ls st))) : own_G p e below E (T.setTop (mkF m pc Ls (.int i :: st))) :=
  own_st (fun t k => XS.tswIn Y.X.here Y.x rfl rfl (Y.d hd) rfl hin hoff (own_pc hp).1 (own_pc hp).2 k) K
theorem own_tswOut (pc' : Nat) (Y : own_S Z y bytes maxL ret p l e R s m args below meth c T h locs cells slots) {o low high : Int} {offs : Array Int} {len : Nat} {i : Int32} (hd : decode bytes pc = .ok (.tableswitch o low high offs, len)) (hout : i.toInt < low ∨ i.toInt > high) (hp : (pc : Int) + o = (pc' : Int)) (K : own_G p e below E (T.setTop (mkF m pc' Ls st))) : own_G p e below E (T.setTop (mkF m pc Ls (.int i :: st))) :=
  own_st (fun t k => XS.tswOut Y.X.here Y.x rfl rfl (Y.d hd) rfl hout (own_pc hp).1 (own_pc hp).2 k) K
theorem own_ldcI (pc' : Nat) (Y : own_S Z y bytes maxL ret p l e R s m args below meth c T h locs cells slots) {index : Nat} {v : Int32} (w : (Jvm.Cond.constant y.cls index v).before a0 Z = true) (hd : decode bytes pc = .ok (.ldc index, 2)) (hp : pc + 2 = pc') (K : own_G p e below E (T.setTop (mkF m pc' Ls (.int v :: st)))) : own_G p e below E (T.setTop (mkF m pc Ls st)) := by
  subst hp
  exact own_st (fun t k => Y.X.ldcInt Y.x Y.own (mvT Y.warm w) (g := mkF m pc Ls st) rfl (Y.d hd) t k) K
theorem own_ldc2J (pc' : Nat) (Y : own_S Z y bytes maxL ret p l e R s m args below meth c T h locs cells slots) {index : Nat} {v : Int64} (w : (Jvm.Cond.constantLong y.cls index v).before a0 Z = true) (hd : decode bytes pc = .ok (.ldc2_w index, 3)) (hp : pc + 3 = pc') (K : own_G p e below E (T.setTop (mkF m pc' Ls (.long v :: st)))) : own_G p e below E (T.setTop (mkF m pc Ls st)) := by
  subst hp
  exact own_st (fun t k => Y.X.ldc2Long Y.x Y.own (mvT Y.warm w) (g := mkF m pc Ls st) rfl (Y.d hd) t k) K
theorem own_getS (pc' : Nat) (Y : own_S Z y bytes maxL ret p l e R s m args below meth c T h locs cells slots) {R0 O n d host : String} {index : Nat} (w : (Jvm.Cond.fieldLink y.cls index R0 n d).before a0 Z = true ∨ (Jvm.Cond.fieldLinkNest y.cls index R0 n d host).before a0 Z = true) (via : Via Z R0 O n d) {v : Value} (F : Sta Z h O n d v) (hd : decode bytes pc = .ok (.getstatic index, 3)) (hp : pc + 3 = pc') (K : ∀ T', own_S Z y bytes maxL ret p l e R s m args below meth c T' h locs cells slots → own_G p e below E (T'.setTop (mkF m pc' Ls (v :: st)))) : own_G p e below E (T.setTop (mkF m pc Ls st)) := by
  subst hp
  obtain ⟨T', X', e', st'⟩ := getS2 Y.X Y.x Y.warm Y.own w via Y.eT F (g := mkF m pc Ls st) rfl (Y.d hd)
  exact own_st st' (K T' ⟨Y.1, X', e'⟩)
theorem own_getF (pc' : Nat) (Y : own_S Z y bytes maxL ret p l e R s m args below meth c T h locs cells slots) {R0 O n d host : String} {index : Nat} (w : (Jvm.Cond.fieldLink y.cls index R0 n d).before a0 Z = true ∨ (Jvm.Cond.fieldLinkNest y.cls index R0 n d host).before a0 Z = true) (via : Via Z R0 O n d) {a : Addr} {v : Value} (F : Fld Z h a O n d v) (hd : decode bytes pc = .ok (.getfield index, 3)) (hp : pc + 3 = pc') (K : ∀ T', own_S Z y bytes maxL ret p l e R s m args below meth c T' h locs cells slots → own_G p e below E (T'.setTop (mkF m pc' Ls (v :: st)))) : own_G p e below E (T.setTop (mkF m pc Ls (.ref a :: st))) := by
  subst hp
  obtain ⟨T', X', e', st'⟩ := getF Y.X Y.x Y.warm Y.own w via Y.eT F (g := mkF m pc Ls (.ref a :: st)) rfl rfl (Y.d hd)
  exact own_st st' (K T' ⟨Y.1, X', e'⟩)
theorem own_putF (pc' : Nat) (Y : own_S Z y bytes maxL ret p l e R s m args below meth c T h locs cells slots) {R0 O n d host : String} {index : Nat} {C : String} {kk : Nat} {ty : FieldType} (w : (Jvm.Cond.fieldLink y.cls index R0 n d).before a0 Z = true ∨ (Jvm.Cond.fieldLinkNest y.cls index R0 n d host).before a0 Z = true) (via : Via Z R0 O n d) {a : Addr} {v old : Value} (F : Fld Z h a O n d old) (EX : Exa Z h a C) (Lw : (Jvm.Cond.lays C O n d).before a0 Z = true ∨ ((Jvm.Cond.laysFinal C O n d).before a0 Z = true ∧ y.cls = O ∧ y.name = "<init>")) (wi : (Jvm.Cond.instantiable C kk).before a0 Z = true) (hty : parseFieldDescriptor d = some ty) (hn : narrow ty v = v) (hf : fits ty v = true) (hd : decode bytes pc = .ok (.putfield index, 3)) (hp : pc + 3 = pc')
    (K : ∀ T' h', own_S Z y bytes maxL ret p l e R s m args below meth c T' h' (locs ++ [⟨a, Jvm.RoadKit.slotOf Z O n d⟩]) cells slots → Wr h h' a (Jvm.RoadKit.slotOf Z O n d) v → own_G p e below E (T'.setTop (mkF m pc' Ls st))) : own_G p e below E (T.setTop (mkF m pc Ls (v :: .ref a :: st))) := by
  subst hp
  obtain ⟨T', h', X', e', W', st'⟩ := putF Y.X Y.x Y.warm Y.own w via Y.eT F EX (Lw.imp id fun q => ⟨q.1, q.2.1, Y.1.2.2.2.2.2.2.2.trans q.2.2⟩) wi hty hn hf (g := mkF m pc Ls (v :: .ref a :: st)) rfl rfl (Y.d hd)
  exact own_st st' (K T' h' ⟨Y.1, X', e'⟩ W')
theorem own_putFN (pc' : Nat) (Y : own_S Z y bytes maxL ret p l e R s m args below meth c T h locs cells slots) {R0 O n d : String} {index : Nat} {C : String} {kk : Nat} {ty : FieldType} (w : (Jvm.Cond.fieldLink y.cls index R0 n d).before a0 Z = true) (via : Via Z R0 O n d) {a : Addr} {v v' old : Value} (F : Fld Z h a O n d old) (EX : Exa Z h a C) (Lw : (Jvm.Cond.lays C O n d).before a0 Z = true ∨ ((Jvm.Cond.laysFinal C O n d).before a0 Z = true ∧ y.cls = O ∧ y.name = "<init>")) (wi : (Jvm.Cond.instantiable C kk).before a0 Z = true) (hty : parseFieldDescriptor d = some ty) (hn : narrow ty v = v') (hf : fits ty v' = true) (hd : decode bytes pc = .ok (.putfield index, 3)) (hp : pc + 3 = pc')
    (K : ∀ T' h', own_S Z y bytes maxL ret p l e R s m args below meth c T' h' (locs ++ [⟨a, Jvm.RoadKit.slotOf Z O n d⟩]) cells slots → Wr h h' a (Jvm.RoadKit.slotOf Z O n d) v' → own_G p e below E (T'.setTop (mkF m pc' Ls st))) : own_G p e below E (T.setTop (mkF m pc Ls (v :: .ref a :: st))) := by
  subst hp
  obtain ⟨T', h', X', e', W', st'⟩ := putFN Y.X Y.x Y.warm Y.own w via Y.eT F EX (Lw.imp id fun q => ⟨q.1, q.2.1, Y.1.2.2.2.2.2.2.2.trans q.2.2⟩) wi hty hn hf (g := mkF m pc Ls (v :: .ref a :: st)) rfl rfl (Y.d hd)
  exact own_st st' (K T' h' ⟨Y.1, X', e'⟩ W')
theorem own_newO (pc' : Nat) (Y : own_S Z y bytes maxL ret p l e R s m args below meth c T h locs cells slots) {C : String} {index n : Nat} (w : (Jvm.Cond.classLink y.cls index C).before a0 Z = true) (wi : (Jvm.Cond.instantiable C n).before a0 Z = true) (wz : (Jvm.Cond.initialized C).before a0 Z = true) (hd : decode bytes pc = .ok (.new index, 3)) (hc : cells + 1 ≤ R.cells) (hl : slots + n ≤ R.slots) (hp : pc + 3 = pc')
    (K : ∀ T' h' a, own_S Z y bytes maxL ret p l e R s m args below meth c T' h' locs (cells + 1) (slots + n) → a = h.size → Ext h h' → Exa Z h' a C → (∀ {O nm d : String} {ty : FieldType}, Laid Z a0 C O nm d → parseFieldDescriptor d = some ty → Fld Z h' a O nm d (defaultValue ty)) → own_G p e below E (T'.setTop (mkF m pc' Ls (.ref a :: st)))) : own_G p e below E (T.setTop (mkF m pc Ls st)) := by
  subst hp
  obtain ⟨T', h', X', e', E', A', D', -, st'⟩ := newO Y.X Y.x Y.warm Y.own w wi wz Y.eT (g := mkF m pc Ls st) rfl (Y.d hd) hc hl
  exact own_st st' (K T' h' _ ⟨Y.1, X', e'⟩ rfl E' A' D')
theorem own_initO (pc' : Nat) (Y : own_S Z y bytes maxL ret p l e R s m args below meth c T h locs cells slots) {idx : Nat} {a : Addr} (w1 : (Jvm.Cond.methodLink y.cls idx Lib.objectInit).before a0 Z = true) (w2 : (Jvm.Cond.instanceMethod Lib.objectInit).before a0 Z = true) (w3 : (Jvm.Cond.code Lib.objectInit ⟨#[0xb1]⟩ 1 none).before a0 Z = true) (hd : decode bytes pc = .ok (.invokespecial idx, 3)) (hLs : Ls.size = maxL) (hf : 1 ≤ R.frames) (hl : (st.map fun v => v.category).sum + 12 ≤ R.locals) (hp : pc + 3 = pc') (K : ∀ T', own_S Z y bytes maxL ret p l e R s m args below meth c T' h locs cells slots → own_G p e below E (T'.setTop (mkF m pc' Ls st))) : own_G p e below E (T.setTop (mkF m pc Ls (.ref a :: st))) := by
  subst hp
  obtain ⟨T', X', e', st'⟩ := initO Y.X Y.x Y.warm Y.own w1 w2 w3 Y.eT (g := mkF m pc Ls (.ref a :: st)) rfl (hLs.trans Y.1.2.2.1.symm) rfl (Y.d hd) hf (W := (st.map fun v => v.category).sum) (by show 2 * 0 + _ ≤ _; omega) hl
  exact own_st st' (K T' ⟨Y.1, X', e'⟩)
theorem own_cast (pc' : Nat) (Y : own_S Z y bytes maxL ret p l e R s m args below meth c T h locs cells slots) {K0 : String} {index : Nat} {a : Addr} (w : (Jvm.Cond.classLink y.cls index K0).before a0 Z = true) (F : Ins Z h a K0 true) (hd : decode bytes pc = .ok (.checkcast index, 3)) (hp : pc + 3 = pc') (K : ∀ T', own_S Z y bytes maxL ret p l e R s m args below meth c T' h locs cells slots → own_G p e below E (T'.setTop (mkF m pc' Ls (.ref a :: st)))) : own_G p e below E (T.setTop (mkF m pc Ls (.ref a :: st))) := by
  subst hp
  obtain ⟨T', X', e', st'⟩ := castY Y.X Y.x Y.warm Y.own w Y.eT F (g := mkF m pc Ls (.ref a :: st)) rfl rfl (Y.d hd)
  exact own_st st' (K T' ⟨Y.1, X', e'⟩)
theorem own_inst (pc' : Nat) (Y : own_S Z y bytes maxL ret p l e R s m args below meth c T h locs cells slots) {K0 : String} {index : Nat} {a : Addr} (w : (Jvm.Cond.classLink y.cls index K0).before a0 Z = true) (F : Ins Z h a K0 true) (hd : decode bytes pc = .ok (.instanceof index, 3)) (hp : pc + 3 = pc') (K : ∀ T', own_S Z y bytes maxL ret p l e R s m args below meth c T' h locs cells slots → own_G p e below E (T'.setTop (mkF m pc' Ls (.int 1 :: st)))) : own_G p e below E (T.setTop (mkF m pc Ls (.ref a :: st))) := by
  subst hp
  obtain ⟨T', X', e', st'⟩ := instY Y.X Y.x Y.warm Y.own w Y.eT F (g := mkF m pc Ls (.ref a :: st)) rfl rfl (Y.d hd)
  exact own_st st' (K T' ⟨Y.1, X', e'⟩)
theorem own_instNull (pc' : Nat) (Y : own_S Z y bytes maxL ret p l e R s m args below meth c T h locs cells slots) {index : Nat} (hd : decode bytes pc = .ok (.instanceof index, 3)) (hp : pc + 3 = pc') (K : own_G p e below E (T.setTop (mkF m pc' Ls (.int 0 :: st)))) : own_G p e below E (T.setTop (mkF m pc Ls (.null :: st))) := by
  subst hp
  exact own_st (fun t k => Y.X.instanceofNull Y.x (g := mkF m pc Ls (.null :: st)) rfl rfl (Y.d hd) t k) K
theorem own_newP (pc' : Nat) (Y : own_S Z y bytes maxL ret p l e R s m args below meth c T h locs cells slots) {aty : ArrayType} (w : (Jvm.Cond.arrayClass (newarray.typeOf aty)).before a0 Z = true) {n : Int32} (cap : Nat) (hd : decode bytes pc = .ok (.newarray aty, 2)) (hn : ¬ n < 0) (hcap : n.toNatClampNeg ≤ cap) (hb : cap * 8 ≤ 536870912) (hc : cells + 1 ≤ R.cells) (hl : slots + cap ≤ R.slots) (hp : pc + 2 = pc')
    (K : ∀ T' h' a kA, own_S Z y bytes maxL ret p l e R s m args below meth c T' h' locs (cells + 1) (slots + cap) → a = h.size → Ext h h' → Arv Z h' a kA (newarray.typeOf aty) n [] (defaultValue (newarray.typeOf aty)) → own_G p e below E (T'.setTop (mkF m pc' Ls (.ref a :: st)))) : own_G p e below E (T.setTop (mkF m pc Ls (.int n :: st))) := by
  subst hp
  obtain ⟨T', h', kA, X', e', E', A', st'⟩ := newP Y.X Y.x Y.warm w Y.eT (g := mkF m pc Ls (.int n :: st)) rfl (Y.d hd) rfl hn (cap := cap) hcap hb hc hl
  exact own_st st' (K T' h' _ kA ⟨Y.1, X', e'⟩ rfl E' (Arv.new A' hn))
theorem own_newR (pc' : Nat) (Y : own_S Z y bytes maxL ret p l e R s m args below meth c T h locs cells slots) {C : String} {index : Nat} (w1 : (Jvm.Cond.classLink y.cls index C).before a0 Z = true) (w2 : (Jvm.Cond.arrayOver (.object C)).before a0 Z = true) {n : Int32} (cap : Nat) (hd : decode bytes pc = .ok (.anewarray index, 3)) (hn : ¬ n < 0) (hcap : n.toNatClampNeg ≤ cap) (hb : cap * 8 ≤ 536870912) (hc : cells + 1 ≤ R.cells) (hl : slots + cap ≤ R.slots) (hp : pc + 3 = pc')
    (K : ∀ T' h' a kA, own_S Z y bytes maxL ret p l e R s m args below meth c T' h' locs (cells + 1) (slots + cap) → a = h.size → Ext h h' → Arv Z h' a kA (.object C) n [] .null → Ovr Z kA C → own_G p e below E (T'.setTop (mkF m pc' Ls (.ref a :: st)))) : own_G p e below E (T.setTop (mkF m pc Ls (.int n :: st))) := by
  subst hp
  obtain ⟨T', h', kA, X', e', E', A', O', st'⟩ := newR Y.X Y.x Y.warm Y.own w1 w2 Y.eT (g := mkF m pc Ls (.int n :: st)) rfl (Y.d hd) rfl hn (cap := cap) hcap hb hc hl
  exact own_st st' (K T' h' _ kA ⟨Y.1, X', e'⟩ rfl E' (Arv.new A' hn) O')
theorem own_stC (pc' : Nat) (Y : own_S Z y bytes maxL ret p l e R s m args below meth c T h locs cells slots) {a : Addr} {kA : ClassId} {n j : Int32} {vs : List Value} {dv : Value} {x : Int32} (A : Arv Z h a kA .char n vs dv) (hd : decode bytes pc = .ok (.castore, 1)) (hj : ¬ j < 0 ∧ j < n) (hp : pc + 1 = pc')
    (K : ∀ T' h', own_S Z y bytes maxL ret p l e R s m args below meth c T' h' (locs ++ [⟨a, j.toNatClampNeg⟩]) cells slots → Wr h h' a j.toNatClampNeg (.int (nar .char x)) → (∀ (i : Nat), j.toNatClampNeg = i → i < vs.length → fits .char (.int (nar .char x)) = true → Arv Z h' a kA .char n (vs.set i (.int (nar .char x))) dv) → own_G p e below E (T'.setTop (mkF m pc' Ls st))) : own_G p e below E (T.setTop (mkF m pc Ls (.int x :: .int j :: .ref a :: st))) := by
  subst hp
  obtain ⟨cl, A1, q1, q2, q3, q4, q5⟩ := A
  obtain ⟨T', h', X', e', W', st'⟩ := stC Y.X Y.x Y.warm Y.eT A1 (j := j) (inb_of q2 hj) (g := mkF m pc Ls (.int x :: .int j :: .ref a :: st)) rfl rfl (Y.d hd)
  exact own_st st' (K T' h' ⟨Y.1, X', e'⟩ W' fun i hi hl hf => Arv.set A1 q1 q2 q3 q4 q5 hf W' i hi hl)
theorem own_stI (pc' : Nat) (Y : own_S Z y bytes maxL ret p l e R s m args below meth c T h locs cells slots) {a : Addr} {kA : ClassId} {n j : Int32} {vs : List Value} {dv : Value} {x : Int32} (A : Arv Z h a kA .int n vs dv) (hd : decode bytes pc = .ok (.iastore, 1)) (hj : ¬ j < 0 ∧ j < n) (hp : pc + 1 = pc')
    (K : ∀ T' h', own_S Z y bytes maxL ret p l e R s m args below meth c T' h' (locs ++ [⟨a, j.toNatClampNeg⟩]) cells slots → Wr h h' a j.toNatClampNeg (.int x) → (∀ (i : Nat), j.toNatClampNeg = i → i < vs.length → fits .int (.int x) = true → Arv Z h' a kA .int n (vs.set i (.int x)) dv) → own_G p e below E (T'.setTop (mkF m pc' Ls st))) : own_G p e below E (T.setTop (mkF m pc Ls (.int x :: .int j :: .ref a :: st))) := by
  subst hp
  obtain ⟨cl, A1, q1, q2, q3, q4, q5⟩ := A
  obtain ⟨T', h', X', e', W', st'⟩ := stI Y.X Y.x Y.warm Y.eT A1 (j := j) (inb_of q2 hj) (g := mkF m pc Ls (.int x :: .int j :: .ref a :: st)) rfl rfl (Y.d hd)
  exact own_st st' (K T' h' ⟨Y.1, X', e'⟩ W' fun i hi hl hf => Arv.set A1 q1 q2 q3 q4 q5 hf W' i hi hl)
theorem own_stB (pc' : Nat) (Y : own_S Z y bytes maxL ret p l e R s m args below meth c T h locs cells slots) {a : Addr} {kA : ClassId} {n j : Int32} {vs : List Value} {dv : Value} {x : Int32} (A : Arv Z h a kA .byte n vs dv) (hd : decode bytes pc = .ok (.bastore, 1)) (hj : ¬ j < 0 ∧ j < n) (hp : pc + 1 = pc')
    (K : ∀ T' h', own_S Z y bytes maxL ret p l e R s m args below meth c T' h' (locs ++ [⟨a, j.toNatClampNeg⟩]) cells slots → Wr h h' a j.toNatClampNeg (.int (nar .byte x)) → (∀ (i : Nat), j.toNatClampNeg = i → i < vs.length → fits .byte (.int (nar .byte x)) = true → Arv Z h' a kA .byte n (vs.set i (.int (nar .byte x))) dv) → own_G p e below E (T'.setTop (mkF m pc' Ls st))) : own_G p e below E (T.setTop (mkF m pc Ls (.int x :: .int j :: .ref a :: st))) := by
  subst hp
  obtain ⟨cl, A1, q1, q2, q3, q4, q5⟩ := A
  obtain ⟨T', h', X', e', W', st'⟩ := stB Y.X Y.x Y.warm Y.eT A1 (j := j) (inb_of q2 hj) (g := mkF m pc Ls (.int x :: .int j :: .ref a :: st)) rfl rfl (Y.d hd)
  exact own_st st' (K T' h' ⟨Y.1, X', e'⟩ W' fun i hi hl hf => Arv.set A1 q1 q2 q3 q4 q5 hf W' i hi hl)
theorem own_stJ (pc' : Nat) (Y : own_S Z y bytes maxL ret p l e R s m args below meth c T h locs cells slots) {a : Addr} {kA : ClassId} {n j : Int32} {vs : List Value} {dv : Value} {x : Int64} (A : Arv Z h a kA .long n vs dv) (hd : decode bytes pc = .ok (.lastore, 1)) (hj : ¬ j < 0 ∧ j < n) (hp : pc + 1 = pc')
    (K : ∀ T' h', own_S Z y bytes maxL ret p l e R s m args below meth c T' h' (locs ++ [⟨a, j.toNatClampNeg⟩]) cells slots → Wr h h' a j.toNatClampNeg (.long x) → (∀ (i : Nat), j.toNatClampNeg = i → i < vs.length → fits .long (.long x) = true → Arv Z h' a kA .long n (vs.set i (.long x)) dv) → own_G p e below E (T'.setTop (mkF m pc' Ls st))) : own_G p e below E (T.setTop (mkF m pc Ls (.long x :: .int j :: .ref a :: st))) := by
  subst hp
  obtain ⟨cl, A1, q1, q2, q3, q4, q5⟩ := A
  obtain ⟨T', h', X', e', W', st'⟩ := stJ Y.X Y.x Y.warm Y.eT A1 (j := j) (inb_of q2 hj) (g := mkF m pc Ls (.long x :: .int j :: .ref a :: st)) rfl rfl (Y.d hd)
  exact own_st st' (K T' h' ⟨Y.1, X', e'⟩ W' fun i hi hl hf => Arv.set A1 q1 q2 q3 q4 q5 hf W' i hi hl)
theorem own_stR (pc' : Nat) (Y : own_S Z y bytes maxL ret p l e R s m args below meth c T h locs cells slots) {a : Addr} {kA : ClassId} {n j : Int32} {vs : List Value} {dv : Value} {v : Value} {ty : FieldType} (A : Arv Z h a kA ty n vs dv) (hty : ty.isReference = true) (F : Sto Z h a v) (hfit : fits ty v = true) (hd : decode bytes pc = .ok (.aastore, 1)) (hj : ¬ j < 0 ∧ j < n) (hp : pc + 1 = pc')
    (K : ∀ T' h', own_S Z y bytes maxL ret p l e R s m args below meth c T' h' (locs ++ [⟨a, j.toNatClampNeg⟩]) cells slots → Wr h h' a j.toNatClampNeg v → (∀ (i : Nat), j.toNatClampNeg = i → i < vs.length → Arv Z h' a kA ty n (vs.set i v) dv) → own_G p e below E (T'.setTop (mkF m pc' Ls st))) : own_G p e below E (T.setTop (mkF m pc Ls (v :: .int j :: .ref a :: st))) := by
  subst hp
  obtain ⟨cl, A1, q1, q2, q3, q4, q5⟩ := A
  obtain ⟨T', h', X', e', W', st'⟩ := stR Y.X Y.x Y.warm Y.eT A1 (j := j) (inb_of q2 hj) hty F (g := mkF m pc Ls (v :: .int j :: .ref a :: st)) rfl rfl (Y.d hd)
  exact own_st st' (K T' h' ⟨Y.1, X', e'⟩ W' fun i hi hl => Arv.set A1 q1 q2 q3 q4 q5 hfit W' i hi hl)
theorem own_caload (pc' : Nat) (Y : own_S Z y bytes maxL ret p l e R s m args below meth c T h locs cells slots) {a : Addr} {kA : ClassId} {n j : Int32} {vs : List Value} {dv : Value} (A : Arv Z h a kA .char n vs dv) {v : Value} (hd : decode bytes pc = .ok (.caload, 1)) (hj : ¬ j < 0 ∧ j < n) (hv : vs.getD j.toNatClampNeg dv = v) (hp : pc + 1 = pc') (K : own_G p e below E (T.setTop (mkF m pc' Ls (v :: st)))) : own_G p e below E (T.setTop (mkF m pc Ls (.int j :: .ref a :: st))) := by
  subst hp
  obtain ⟨cl, A1, q1, q2, q3, q4, q5⟩ := A
  exact own_st (fun t k => Y.X.caload Y.x (j := j) (v := v) (by rw [Y.eT]; exact A1.1) (State.isArrayOf_alike Y.warm.alike A1.2.1) A1.2.2 (inb_of q2 hj) (q4.at (inb_of q2 hj) hv) (g := mkF m pc Ls (.int j :: .ref a :: st)) rfl rfl (Y.d hd) t k) K
theorem own_iaload (pc' : Nat) (Y : own_S Z y bytes maxL ret p l e R s m args below meth c T h locs cells slots) {a : Addr} {kA : ClassId} {n j : Int32} {vs : List Value} {dv : Value} (A : Arv Z h a kA .int n vs dv) {v : Value} (hd : decode bytes pc = .ok (.iaload, 1)) (hj : ¬ j < 0 ∧ j < n) (hv : vs.getD j.toNatClampNeg dv = v) (hp : pc + 1 = pc') (K : own_G p e below E (T.setTop (mkF m pc' Ls (v :: st)))) : own_G p e below E (T.setTop (mkF m pc Ls (.int j :: .ref a :: st))) := by
  subst hp
  obtain ⟨cl, A1, q1, q2, q3, q4, q5⟩ := A
  exact own_st (fun t k => Y.X.iaload Y.x (j := j) (v := v) (by rw [Y.eT]; exact A1.1) (State.isArrayOf_alike Y.warm.alike A1.2.1) A1.2.2 (inb_of q2 hj) (q4.at (inb_of q2 hj) hv) (g := mkF m pc Ls (.int j :: .ref a :: st)) rfl rfl (Y.d hd) t k) K
theorem own_baload (pc' : Nat) (Y : own_S Z y bytes maxL ret p l e R s m args below meth c T h locs cells slots) {a : Addr} {kA : ClassId} {n j : Int32} {vs : List Value} {dv : Value} (A : Arv Z h a kA .byte n vs dv) {v : Value} (hd : decode bytes pc = .ok (.baload, 1)) (hj : ¬ j < 0 ∧ j < n) (hv : vs.getD j.toNatClampNeg dv = v) (hp : pc + 1 = pc') (K : own_G p e below E (T.setTop (mkF m pc' Ls (v :: st)))) : own_G p e below E (T.setTop (mkF m pc Ls (.int j :: .ref a :: st))) := by
  subst hp
  obtain ⟨cl, A1, q1, q2, q3, q4, q5⟩ := A
  exact own_st (fun t k => Y.X.baloadBytes Y.x (j := j) (v := v) (by rw [Y.eT]; exact A1.1) (State.isArrayOf_alike Y.warm.alike A1.2.1) A1.2.2 (inb_of q2 hj) (q4.at (inb_of q2 hj) hv) (g := mkF m pc Ls (.int j :: .ref a :: st)) rfl rfl (Y.d hd) t k) K
theorem own_laload (pc' : Nat) (Y : own_S Z y bytes maxL ret p l e R s m args below meth c T h locs cells slots) {a : Addr} {kA : ClassId} {n j : Int32} {vs : List Value} {dv : Value} (A : Arv Z h a kA .long n vs dv) {v : Value} (hd : decode bytes pc = .ok (.laload, 1)) (hj : ¬ j < 0 ∧ j < n) (hv : vs.getD j.toNatClampNeg dv = v) (hp : pc + 1 = pc') (K : own_G p e below E (T.setTop (mkF m pc' Ls (v :: st)))) : own_G p e below E (T.setTop (mkF m pc Ls (.int j :: .ref a :: st))) := by
  subst hp
  obtain ⟨cl, A1, q1, q2, q3, q4, q5⟩ := A
  exact own_st (fun t k => Y.X.laload Y.x (j := j) (v := v) (by rw [Y.eT]; exact A1.1) (State.isArrayOf_alike Y.warm.alike A1.2.1) A1.2.2 (inb_of q2 hj) (q4.at (inb_of q2 hj) hv) (g := mkF m pc Ls (.int j :: .ref a :: st)) rfl rfl (Y.d hd) t k) K
theorem own_aaload (pc' : Nat) (Y : own_S Z y bytes maxL ret p l e R s m args below meth c T h locs cells slots) {a : Addr} {kA : ClassId} {n j : Int32} {vs : List Value} {dv : Value} {ty : FieldType} (A : Arv Z h a kA ty n vs dv) (hty : ty.isReference = true) {v : Value} (hd : decode bytes pc = .ok (.aaload, 1)) (hj : ¬ j < 0 ∧ j < n) (hv : vs.getD j.toNatClampNeg dv = v) (hp : pc + 1 = pc') (K : own_G p e below E (T.setTop (mkF m pc' Ls (v :: st)))) : own_G p e below E (T.setTop (mkF m pc Ls (.int j :: .ref a :: st))) := by
  subst hp
  obtain ⟨cl, A1, q1, q2, q3, q4, q5⟩ := A
  exact own_st (fun t k => Y.X.aaload Y.x (j := j) (v := v) (by rw [Y.eT]; exact A1.1) (State.isArrayOf_alike Y.warm.alike A1.2.1) hty A1.2.2 (inb_of q2 hj) (q4.at (inb_of q2 hj) hv) (g := mkF m pc Ls (.int j :: .ref a :: st)) rfl rfl (Y.d hd) t k) K
theorem own_alen (pc' : Nat) (Y : own_S Z y bytes maxL ret p l e R s m args below meth c T h locs cells slots) {a : Addr} {kA : ClassId} {n : Int32} {vs : List Value} {dv : Value} {ty : FieldType} (A : Arv Z h a kA ty n vs dv) (hd : decode bytes pc = .ok (.arraylength, 1)) (hp : pc + 1 = pc') (K : own_G p e below E (T.setTop (mkF m pc' Ls (.int n :: st)))) : own_G p e below E (T.setTop (mkF m pc Ls (.ref a :: st))) := by
  subst hp
  obtain ⟨cl, A1, q1, q2, q3, q4, q5⟩ := A
  refine own_st (fun t k => Y.X.arraylength Y.x (by rw [Y.eT]; exact A1.1) (State.isArrayOf_alike Y.warm.alike A1.2.1) (g := mkF m pc Ls (.ref a :: st)) rfl rfl (Y.d hd) t k) ?_
  rw [len_of q2 q3]
  exact K
theorem own_callS (pc' : Nat) (Y : own_S Z y bytes maxL ret p l e R s m args below meth c T h locs cells slots) {yc : MethodName} {bc : ByteArray} {mc : Nat} {rc : Option FieldType} {rm : Room} {index : Nat} {Qc : Option Value → Heap → List Loc → Prop} (argsL rest : List Value) (w1 : (Jvm.Cond.methodLink y.cls index yc).before a0 Z = true) (w2 : (Jvm.Cond.static yc).before a0 Z = true) (w3 : (Jvm.Cond.initialized yc.cls).before a0 Z = true) (w4 : (Jvm.Cond.code yc bc mc rc).before a0 Z = true) (hM : own_M l yc bc mc rc [] rm Z argsL.toArray h Qc) (hd : decode bytes pc = .ok (.invokestatic index, 3)) (hy : (yc.cls ≠ "java/lang/invoke/MethodHandle" ∧ yc.cls ≠ "java/lang/invoke/VarHandle")) (hlen : ∀ sig, parseMethodDescriptor yc.desc = some sig → argsL.length = sig.parameters.length) (hst : st = argsL.reverse ++ rest) (hLs : Ls.size = maxL) (hf : rm.frames + 1 ≤ R.frames) (hl : (rest.map fun v => v.category).sum + (mc + 11) + rm.locals ≤ R.locals) (hc : cells + rm.cells ≤ R.cells) (hs : slots + rm.slots ≤ R.slots) (hp : pc + 3 = pc')
    (K : ∀ v T' h' L, own_S Z y bytes maxL ret p l e R s m args below meth c T' h' (locs ++ L) (cells + rm.cells) (slots + rm.slots) → Qc v h' L → own_G p e below E (T'.setTop (mkF m pc' Ls (v.toList ++ rest)))) : own_G p e below E (T.setTop (mkF m pc Ls st)) := by
  subst hp
  obtain ⟨v, _, ⟨T', L', k', n'⟩, -, X', P', st'⟩ := Jvm.LawKit.callS Y.X Y.x (y := yc) Y.own (mvT Y.warm w1) (mvT Y.warm w2) (mvT Y.warm w3) (mvT Y.warm w4) hy (backOf (W := (rest.map fun v => v.category).sum) hM Y.warm w4 w3 hf hl) (g := mkF m pc Ls st) rfl (hLs.trans Y.1.2.2.1.symm) (argsL := argsL) (rest := rest) hlen hst (by show 2 * 0 + _ ≤ _; omega) (Y.d hd) (fun _ _ => ⟨rfl, Y.eT, hc, hs⟩)
  obtain ⟨Lc, hQ, l1, y1, z1⟩ := P'
  dsimp only [Pt.U, Pt.locs, Pt.cells, Pt.slots] at l1 y1 z1 hQ
  dsimp only [Pt.U, Pt.locs, Pt.cells, Pt.slots] at X' st'
  subst l1 y1 z1
  exact own_st st' (K v T' T'.heap Lc ⟨Y.1, X', rfl⟩ hQ)
theorem own_callI (pc' : Nat) (Y : own_S Z y bytes maxL ret p l e R s m args below meth c T h locs cells slots) {yc : MethodName} {bc : ByteArray} {mc : Nat} {rm : Room} {index : Nat} {Qc : Option Value → Heap → List Loc → Prop} (argsL rest : List Value) {a : Addr} (hini : yc.name = "<init>") (w1 : (Jvm.Cond.methodLink y.cls index yc).before a0 Z = true) (w2 : (Jvm.Cond.instanceMethod yc).before a0 Z = true) (w3 : (Jvm.Cond.initialized yc.cls).before a0 Z = true) (w4 : (Jvm.Cond.code yc bc mc none).before a0 Z = true) (hM : own_M l yc bc mc none [] rm Z (.ref a :: argsL).toArray h Qc) (hd : decode bytes pc = .ok (.invokespecial index, 3)) (hy : (yc.cls ≠ "java/lang/invoke/MethodHandle" ∧ yc.cls ≠ "java/lang/invoke/VarHandle")) (hlen : ∀ sig, parseMethodDescriptor yc.desc = some sig → argsL.length = sig.parameters.length) (hst : st = argsL.reverse ++ .ref a :: rest) (hLs : Ls.size = maxL) (hf : rm.frames + 1 ≤ R.frames) (hl : (rest.map fun v => v.category).sum + (mc + 11) + rm.locals ≤ R.locals) (hc : cells + rm.cells ≤ R.cells) (hs : slots + rm.slots ≤ R.slots) (hp : pc + 3 = pc')
    (K : ∀ v T' h' L, own_S Z y bytes maxL ret p l e R s m args below meth c T' h' (locs ++ L) (cells + rm.cells) (slots + rm.slots) → Qc v h' L → own_G p e below E (T'.setTop (mkF m pc' Ls (v.toList ++ rest)))) : own_G p e below E (T.setTop (mkF m pc Ls st)) := by
  subst hp
  obtain ⟨v, _, ⟨T', L', k', n'⟩, -, X', P', st'⟩ := Y.X.specialBack Y.x (y := yc) hini Y.own (mvT Y.warm w1) (mvT Y.warm w2) (mvT Y.warm w4) hy (backOf (W := (rest.map fun v => v.category).sum) hM Y.warm w4 w3 hf hl) (g := mkF m pc Ls st) rfl (hLs.trans Y.1.2.2.1.symm) (Steps.refl _) (a := a) (argsL := argsL) (rest := rest) hlen hst (by show 2 * 0 + _ ≤ _; omega) (Y.d hd) (fun _ _ => ⟨rfl, Y.eT, hc, hs⟩)
  obtain ⟨Lc, hQ, l1, y1, z1⟩ := P'
  dsimp only [Pt.U, Pt.locs, Pt.cells, Pt.slots] at l1 y1 z1 hQ
  dsimp only [Pt.U, Pt.locs, Pt.cells, Pt.slots] at X' st'
  subst l1 y1 z1
  exact own_st (fun t k => st'.trans k) (K v T' T'.heap Lc ⟨Y.1, X', rfl⟩ hQ)
theorem own_callV (pc' : Nat) (Y : own_S Z y bytes maxL ret p l e R s m args below meth c T h locs cells slots) {yc : MethodName} {bc : ByteArray} {mc : Nat} {rc : Option FieldType} {rm : Room} {index : Nat} {Qc : Option Value → Heap → List Loc → Prop} {yr : MethodName} {C : String} (argsL rest : List Value) {a : Addr} (EX : Exa Z h a C) (w1 : (Jvm.Cond.methodLink y.cls index yr).before a0 Z = true) (wd : (Jvm.Cond.declares yr).before a0 Z = true) (nf : NotFace s yr) (ws : (Jvm.Cond.selects C yr yc).before a0 Z = true) (w2 : (Jvm.Cond.instanceMethod yc).before a0 Z = true) (w3 : (Jvm.Cond.initialized yc.cls).before a0 Z = true) (w4 : (Jvm.Cond.code yc bc mc rc).before a0 Z = true) (hM : own_M l yc bc mc rc [] rm Z (.ref a :: argsL).toArray h Qc) (hd : decode bytes pc = .ok (.invokevirtual index, 3)) (hy : (yr.cls ≠ "java/lang/invoke/MethodHandle" ∧ yr.cls ≠ "java/lang/invoke/VarHandle")) (hlen : ∀ sig, parseMethodDescriptor yr.desc = some sig → argsL.length = sig.parameters.length) (hst : st = argsL.reverse ++ .ref a :: rest) (hLs : Ls.size = maxL) (hf : rm.frames + 1 ≤ R.frames) (hl : (rest.map fun v => v.category).sum + (mc + 11) + rm.locals ≤ R.locals) (hc : cells + rm.cells ≤ R.cells) (hs : slots + rm.slots ≤ R.slots) (hp : pc + 3 = pc')
    (K : ∀ v T' h' L, own_S Z y bytes maxL ret p l e R s m args below meth c T' h' (locs ++ L) (cells + rm.cells) (slots + rm.slots) → Qc v h' L → own_G p e below E (T'.setTop (mkF m pc' Ls (v.toList ++ rest)))) : own_G p e below E (T.setTop (mkF m pc Ls st)) := by
  subst hp
  obtain ⟨cq, kq, qa, qb, qc⟩ := isOf Y.warm Y.eT EX
  obtain ⟨v, _, ⟨T', L', k', n'⟩, -, X', P', st'⟩ := Y.X.virtualBack Y.x (y := yr) (z := yc) Y.own (mvT Y.warm w1) (mvT Y.warm wd) nf (mvT Y.warm ws) (mvT Y.warm w2) hy (backOf (W := (rest.map fun v => v.category).sum) hM Y.warm w4 w3 hf hl) qa qc (g := mkF m pc Ls st) rfl (hLs.trans Y.1.2.2.1.symm) (Steps.refl _) (argsL := argsL) (rest := rest) hlen hst (by show 2 * 0 + _ ≤ _; omega) (Y.d hd) (fun _ _ => ⟨rfl, Y.eT, hc, hs⟩)
  obtain ⟨Lc, hQ, l1, y1, z1⟩ := P'
  dsimp only [Pt.U, Pt.locs, Pt.cells, Pt.slots] at l1 y1 z1 hQ
  dsimp only [Pt.U, Pt.locs, Pt.cells, Pt.slots] at X' st'
  subst l1 y1 z1
  exact own_st (fun t k => st'.trans k) (K v T' T'.heap Lc ⟨Y.1, X', rfl⟩ hQ)
theorem own_callUp (pc' : Nat) (Y : own_S Z y bytes maxL ret p l e R s m args below meth c T h locs cells slots) {yc : MethodName} {bc : ByteArray} {mc : Nat} {rc : Option FieldType} {rm : Room} {index : Nat} {Qc : Option Value → Heap → List Loc → Prop} {yr : MethodName} {C owner : String} (argsL rest : List Value) {a : Addr} (EX : Exa Z h a C) (w1 : (Jvm.Cond.methodLink y.cls index yr).before a0 Z = true) (wm : (Jvm.Cond.sameMethod yr.cls owner yr.name yr.desc).before a0 Z = true) (wd : (Jvm.Cond.declares ⟨owner, yr.name, yr.desc⟩).before a0 Z = true) (ws : (Jvm.Cond.selects C yr yc).before a0 Z = true) (w2 : (Jvm.Cond.instanceMethod yc).before a0 Z = true) (w3 : (Jvm.Cond.initialized yc.cls).before a0 Z = true) (w4 : (Jvm.Cond.code yc bc mc rc).before a0 Z = true) (hM : own_M l yc bc mc rc [] rm Z (.ref a :: argsL).toArray h Qc) (hd : decode bytes pc = .ok (.invokevirtual index, 3)) (hy : owner ≠ "java/lang/invoke/MethodHandle" ∧ owner ≠ "java/lang/invoke/VarHandle") (hlen : ∀ sig, parseMethodDescriptor yr.desc = some sig → argsL.length = sig.parameters.length) (hst : st = argsL.reverse ++ .ref a :: rest) (hLs : Ls.size = maxL) (hf : rm.frames + 1 ≤ R.frames) (hl : (rest.map fun v => v.category).sum + (mc + 11) + rm.locals ≤ R.locals) (hc : cells + rm.cells ≤ R.cells) (hs : slots + rm.slots ≤ R.slots) (hp : pc + 3 = pc')
    (K : ∀ v T' h' L, own_S Z y bytes maxL ret p l e R s m args below meth c T' h' (locs ++ L) (cells + rm.cells) (slots + rm.slots) → Qc v h' L → own_G p e below E (T'.setTop (mkF m pc' Ls (v.toList ++ rest)))) : own_G p e below E (T.setTop (mkF m pc Ls st)) := by
  subst hp
  obtain ⟨cq, kq, qa, qb, qc⟩ := isOf Y.warm Y.eT EX
  obtain ⟨v, _, ⟨T', L', k', n'⟩, -, X', P', st'⟩ := Y.X.virtualBackUp Y.x (x := yr) (y := yc) Y.own (mvT Y.warm w1) (mvT Y.warm wm) (mvT Y.warm wd) hy (mvT Y.warm ws) (mvT Y.warm w2) (backOf (W := (rest.map fun v => v.category).sum) hM Y.warm w4 w3 hf hl) qa qc (g := mkF m pc Ls st) rfl (hLs.trans Y.1.2.2.1.symm) (Steps.refl _) (argsL := argsL) (rest := rest) hlen hst (by show 2 * 0 + _ ≤ _; omega) (Y.d hd) (fun _ _ => ⟨rfl, Y.eT, hc, hs⟩)
  obtain ⟨Lc, hQ, l1, y1, z1⟩ := P'
  dsimp only [Pt.U, Pt.locs, Pt.cells, Pt.slots] at l1 y1 z1 hQ
  dsimp only [Pt.U, Pt.locs, Pt.cells, Pt.slots] at X' st'
  subst l1 y1 z1
  exact own_st (fun t k => st'.trans k) (K v T' T'.heap Lc ⟨Y.1, X', rfl⟩ hQ)
theorem own_natS (pc' : Nat) (Y : own_S Z y bytes maxL ret p l e R s m args below meth c T h locs cells slots) {yc : MethodName} {bc : ByteArray} {mc : Nat} {rc : Option FieldType} {index : Nat} {val : Value} {F : Array Value → Prop} (argsL rest : List Value) (w1 : (Jvm.Cond.methodLink y.cls index yc).before a0 Z = true) (w2 : (Jvm.Cond.static yc).before a0 Z = true) (w3 : (Jvm.Cond.initialized yc.cls).before a0 Z = true) (w4 : (Jvm.Cond.code yc bc mc rc).before a0 Z = true) (hK : (Jvm.Cond.code yc bc mc rc).before args s = true → Back l R p e below s args yc 3 (rest.map fun v => v.category).sum (fun A a' => A.cells ≤ R.cells ∧ A.slots ≤ R.slots ∧ F a') (fun A _ v B => v = some val ∧ B = A)) (hF : F argsL.toArray) (hd : decode bytes pc = .ok (.invokestatic index, 3)) (hy : (yc.cls ≠ "java/lang/invoke/MethodHandle" ∧ yc.cls ≠ "java/lang/invoke/VarHandle")) (hlen : ∀ sig, parseMethodDescriptor yc.desc = some sig → argsL.length = sig.parameters.length) (hst : st = argsL.reverse ++ rest) (hLs : Ls.size = maxL) (hc : cells ≤ R.cells) (hs : slots ≤ R.slots) (hp : pc + 3 = pc') (K : ∀ T', own_S Z y bytes maxL ret p l e R s m args below meth c T' h locs cells slots → own_G p e below E (T'.setTop (mkF m pc' Ls (val :: rest)))) : own_G p e below E (T.setTop (mkF m pc Ls st)) := by
  subst hp
  obtain ⟨T', X', e', st'⟩ := natS Y.X Y.x Y.warm Y.own w1 w2 w3 w4 hy Y.eT hK (g := mkF m pc Ls st) rfl (hLs.trans Y.1.2.2.1.symm) (argsL := argsL) (rest := rest) hlen hst (by show 2 * 0 + _ ≤ _; omega) (Y.d hd) hc hs hF rfl
  exact own_st st' (K T' ⟨Y.1, X', e'⟩)
theorem own_ret (Y : own_S Z y bytes maxL ret p l e R s m args below meth c T h locs cells slots) {w : Value} {t : FieldType} {i : Instr} (hn : narrow t w = w)
    (hi : (i = .ireturn ∧ (t = .int ∨ t = .boolean ∨ t = .byte ∨ t = .char ∨ t = .short) ∧ ∃ z, w = .int z) ∨ (i = .lreturn ∧ t = .long ∧ ∃ z, w = .long z) ∨ (i = .dreturn ∧ t = .double ∧ ∃ z, w = .double z) ∨ (i = .freturn ∧ t = .float ∧ ∃ z, w = .float z) ∨ (i = .areturn ∧ t.isReference = true ∧ w.isRef = true))
    (hret : ret = some t) (hd : decode bytes pc = .ok (i, 1)) (hc : cells ≤ kc) (hs : slots ≤ ks) (hq : Q (some w) h locs) : own_G p e below (own_E s Q kc ks) (T.setTop (mkF m pc Ls (w :: st))) := by
  obtain ⟨⟨hx, hby, hml, hown, hZ, hr0, hlk, hnm⟩, X, eT⟩ := Y
  subst eT
  obtain ⟨fs, hr, hrun, hended, hW, hsame⟩ := X.leave (v := some w) (fun q => by rw [hr0, hret] at q; cases q) hlk
  exact ⟨_, _, retOut X hx (hr0.trans hret) hn hi (hb hby hd) hr, hrun, hended, _, _, rfl, hq, ⟨_, rfl⟩, hW, hsame.mono hc hs⟩
theorem own_retI (Y : own_S Z y bytes maxL ret p l e R s m args below meth c T h locs cells slots) {z : Int32} (hret : ret = some .int) (hd : decode bytes pc = .ok (.ireturn, 1)) (hc : cells ≤ kc) (hs : slots ≤ ks) (hq : Q (some (.int z)) h locs) : own_G p e below (own_E s Q kc ks) (T.setTop (mkF m pc Ls (.int z :: st))) := own_ret Y rfl (Or.inl ⟨rfl, Or.inl rfl, _, rfl⟩) hret hd hc hs hq
theorem own_retL (Y : own_S Z y bytes maxL ret p l e R s m args below meth c T h locs cells slots) {z : Int64} (hret : ret = some .long) (hd : decode bytes pc = .ok (.lreturn, 1)) (hc : cells ≤ kc) (hs : slots ≤ ks) (hq : Q (some (.long z)) h locs) : own_G p e below (own_E s Q kc ks) (T.setTop (mkF m pc Ls (.long z :: st))) := own_ret Y rfl (Or.inr (Or.inl ⟨rfl, rfl, _, rfl⟩)) hret hd hc hs hq
theorem own_retD (Y : own_S Z y bytes maxL ret p l e R s m args below meth c T h locs cells slots) {z : UInt64} (hret : ret = some .double) (hd : decode bytes pc = .ok (.dreturn, 1)) (hc : cells ≤ kc) (hs : slots ≤ ks) (hq : Q (some (.double z)) h locs) : own_G p e below (own_E s Q kc ks) (T.setTop (mkF m pc Ls (.double z :: st))) := own_ret Y rfl (Or.inr (Or.inr (Or.inl ⟨rfl, rfl, _, rfl⟩))) hret hd hc hs hq
theorem own_retA (Y : own_S Z y bytes maxL ret p l e R s m args below meth c T h locs cells slots) {w : Value} {t : FieldType} (hret : ret = some t) (ht : t.isReference = true) (hw : w.isRef = true) (hd : decode bytes pc = .ok (.areturn, 1)) (hc : cells ≤ kc) (hs : slots ≤ ks) (hq : Q (some w) h locs) : own_G p e below (own_E s Q kc ks) (T.setTop (mkF m pc Ls (w :: st))) := own_ret Y (by cases t <;> first | rfl | (cases ht; done)) (Or.inr (Or.inr (Or.inr (Or.inr ⟨rfl, ht, hw⟩)))) hret hd hc hs hq
theorem own_retN (Y : own_S Z y bytes maxL ret p l e R s m args below meth c T h locs cells slots) {z : Int32} {t : FieldType} (hret : ret = some t) (ht : t = .boolean ∨ t = .byte ∨ t = .char ∨ t = .short) (hd : decode bytes pc = .ok (.ireturn, 1)) (hc : cells ≤ kc) (hs : slots ≤ ks) (hq : Q (some (.int (nar t z))) h locs) : own_G p e below (own_E s Q kc ks) (T.setTop (mkF m pc Ls (.int z :: st))) := by
  obtain ⟨⟨hx, hby, hml, hown, hZ, hr0, hlk, hnm⟩, X, eT⟩ := Y
  subst eT
  obtain ⟨fs, hr, hrun, hended, hW, hsame⟩ := X.leave (v := some (.int (nar t z))) (fun q => by rw [hr0, hret] at q; cases q) hlk
  exact ⟨_, _, retN X hx (hr0.trans hret) ht (hb hby hd) hr, hrun, hended, _, _, rfl, hq, ⟨_, rfl⟩, hW, hsame.mono hc hs⟩
theorem own_retV (Y : own_S Z y bytes maxL ret p l e R s m args below meth c T h locs cells slots) (hret : ret = none) (hd : decode bytes pc = .ok (.return_, 1)) (hc : cells ≤ kc) (hs : slots ≤ ks) (hq : Q none h locs) : own_G p e below (own_E s Q kc ks) (T.setTop (mkF m pc Ls [])) := by
  obtain ⟨⟨hx, hby, hml, hown, hZ, hr0, hlk, hnm⟩, X, eT⟩ := Y
  subst eT
  obtain ⟨fs, hr, hrun, hended, hW, hsame⟩ := X.leave (v := none) (fun _ => rfl) hlk
  exact ⟨_, _, X.returnOut hx (hr0.trans hret) (hb hby hd) hr, hrun, hended, _, _, rfl, hq, ⟨_, rfl⟩, hW, hsame.mono hc hs⟩
end Own

section OwnW
variable {p : Program} {l : Launch} {e : Env} {R : Room} {s : State} {m : MethodId} {args : Array Value} {below : List Frame} {meth : Method} {c : Code} {T : State} {locs : List Loc} {cells slots : Nat} {Z : State} {h : Heap} {y : MethodName} {bytes : ByteArray} {maxL : Nat} {ret : Option FieldType} {E : Outcome → State → Prop} {Q : Option Value → Heap → List Loc → Prop} {kc ks : Nat} {Ls : Array Slot} {st : List Value} {pc : Nat} {a0 : Array Value} {EL : List (String × Nat)} {vm0 : Vm}
/-- how a walk that may intern ends -/
def own_EW (Z : State) (EL : List (String × Nat)) (s : State) (Q : Option Value → Heap → List Loc → Prop) (kc ks : Nat) (o : Outcome) (t : State) : Prop := ∃ v L, o = .returned v ∧ Q v t.heap L ∧ CHr Z EL s.vm s.heap t.vm t.heap ∧ ReturnedEndW s o t L kc ks
/-- the tables vm0 and the heap h, reached from s: the constants of EL hold their text -/
def own_H (Z : State) (EL : List (String × Nat)) (a0 : Array Value) (s : State) (vm0 : Vm) (h : Heap) : Prop := (∃ k0, s.Since vm0 k0 ∧ k0 ≤ h.size) ∧ CHr Z EL s.vm s.heap vm0 h ∧ EW Z a0 EL
theorem own_H.ext {h' : Heap} (H : own_H Z EL a0 s vm0 h) (X : Ext h h') : own_H Z EL a0 s vm0 h' := by
  obtain ⟨⟨k0, q1, q2⟩, r, w⟩ := H
  exact ⟨⟨k0, q1, Nat.le_trans q2 X.1⟩, r.trans (CHr.ext X r.1), w⟩
theorem own_H.keep {h' : Heap} {ws : List Addr} (H : own_H Z EL a0 s vm0 h) (K : Keep h h' ws) (hs : ∀ x ∈ ws, Safe Z EL vm0 h x) : own_H Z EL a0 s vm0 h' := by
  obtain ⟨⟨k0, q1, q2⟩, r, w⟩ := H
  exact ⟨⟨k0, q1, Nat.le_trans q2 K.1⟩, r.trans (CHr.keep K hs r.1), w⟩
theorem own_H.wr {h' : Heap} {a : Addr} {sl : Nat} {v : Value} (H : own_H Z EL a0 s vm0 h) (W : Wr h h' a sl v) (S : Safe Z EL vm0 h a) : own_H Z EL a0 s vm0 h' := by
  obtain ⟨⟨k0, q1, q2⟩, r, w⟩ := H
  exact ⟨⟨k0, q1, Nat.le_trans q2 (Nat.le_of_eq W.size.symm)⟩, r.trans (CHr.wr W S r.1), w⟩
theorem own_H.ch (H : own_H Z EL a0 s vm0 h) : CHv Z EL vm0 h := H.2.1.1
/-- an address that is no booked String's -/
theorem own_H.sExt {h' : Heap} {x : Addr} (H : own_H Z EL a0 s vm0 h) (X : Ext h h') (F : Safe Z EL vm0 h x) : Safe Z EL vm0 h' x := Safe.ext X H.ch F
theorem own_H.sKeep {h' : Heap} {ws : List Addr} {x : Addr} (H : own_H Z EL a0 s vm0 h) (K : Keep h h' ws) (hs : ∀ x ∈ ws, Safe Z EL vm0 h x) (F : Safe Z EL vm0 h x) : Safe Z EL vm0 h' x := Safe.keep K hs H.ch F
theorem own_H.sWr {h' : Heap} {a x : Addr} {sl : Nat} {v : Value} (H : own_H Z EL a0 s vm0 h) (W : Wr h h' a sl v) (S : Safe Z EL vm0 h a) (F : Safe Z EL vm0 h x) : Safe Z EL vm0 h' x := Safe.wr W S H.ch F
theorem own_sNew {h' : Heap} {x : Addr} (H : own_H Z EL a0 s vm0 h) (X : Ext h h') (g : x = h.size) : Safe Z EL vm0 h' x := Safe.ext X H.ch (Safe.new (Nat.le_of_eq g.symm))
def own_MW (l : Launch) (y : MethodName) (bytes : ByteArray) (maxL : Nat) (ret : Option FieldType) (ws : List Jvm.Cond) (rm : Room) (Z : State) (EL : List (String × Nat)) (as' : Array Value) (h : Heap) (Q : Option Value → Heap → List Loc → Prop) : Prop :=
  MetFree l y (head1 (Jvm.Cond.code y bytes maxL ret :: ws) rm) (fun a U => a = as' ∧ Z.Warmed39 U.vm ∧ U.heap = h ∧ CHv Z EL U.vm h) (fun _ _ _ _ _ => True) (fun _ U o U' => ∃ v L, o = .returned v ∧ Q v U'.heap L ∧ CHr Z EL U.vm U.heap U'.vm U'.heap ∧ ReturnedEndW U o U' L rm.cells rm.slots)
theorem own_metW {ws : List Jvm.Cond} {rm : Room} {as' : Array Value} (hEL : EW Z a0 EL) (hp : plainFor y = true) {Lf : Array Slot} (hE : ∀ m, entryFrame m as' maxL = mkF m 0 Lf [])
    (body : ∀ p e s m below meth c T, own_S Z y bytes maxL ret p l e rm (s.setVm s.vm) m as' below meth c T h [] 0 0 → own_H Z EL a0 s s.vm h → (∀ x, Safe Z EL s.vm h x → Safe Z EL s.vm h x) → own_G p e below (own_EW Z EL s Q rm.cells rm.slots) (T.setTop (mkF m 0 Lf []))) : own_MW l y bytes maxL ret ws rm Z EL as' h Q := by
  refine MetFree.of_bodySF (maxLocals := maxL) hp hisR ?_
  intro p e s m args below meth c s₁ Bd hml0 hP hK
  obtain ⟨rfl, hZ, hh, hC⟩ := hP
  obtain ⟨t, o, h1, h2, h3, h4⟩ := body p e s m below meth c s₁ ⟨⟨Bd.exec, Bd.bytes, hml0, findClass_of_methodNamed Bd.named, hZ, Bd.returns, Bd.notSynchronized, (name_of_methodNamed Bd.named Bd.method).1⟩, Stand.of_body Bd, by rw [← hh, Bd.state]; rfl⟩ ⟨⟨0, (State.WarmedH.refl s).since 0, Nat.zero_le _⟩, by rw [hh]; exact CHr.refl hC, hEL⟩ (fun _ q => q)
  exact ⟨t, o, castTop (hE m) h1, h2, h3, h4⟩
theorem own_retW (Y : own_S Z y bytes maxL ret p l e R (s.setVm vm0) m args below meth c T h locs cells slots) (H : own_H Z EL a0 s vm0 h) {w : Value} {t : FieldType} {i : Instr} (hn : narrow t w = w)
    (hi : (i = .ireturn ∧ (t = .int ∨ t = .boolean ∨ t = .byte ∨ t = .char ∨ t = .short) ∧ ∃ z, w = .int z) ∨ (i = .lreturn ∧ t = .long ∧ ∃ z, w = .long z) ∨ (i = .dreturn ∧ t = .double ∧ ∃ z, w = .double z) ∨ (i = .freturn ∧ t = .float ∧ ∃ z, w = .float z) ∨ (i = .areturn ∧ t.isReference = true ∧ w.isRef = true))
    (hret : ret = some t) (hd : decode bytes pc = .ok (i, 1)) (hc : cells ≤ kc) (hs : slots ≤ ks) (hq : Q (some w) h locs) : own_G p e below (own_EW Z EL s Q kc ks) (T.setTop (mkF m pc Ls (w :: st))) := by
  obtain ⟨⟨hx, hby, hml, hown, hZ, hr0, hlk, hnm⟩, X, eT⟩ := Y
  subst eT
  obtain ⟨⟨k0, q1, q2⟩, r, wE⟩ := H
  have hA := CHv.at X hZ wE r.1
  obtain ⟨fs, hr, hrun, hended, b1, b2, b3, b4⟩ := X.leaveW q1 q2 (v := some w) (fun q => by rw [hr0, hret] at q; cases q) hlk
  exact ⟨_, _, retOut X hx (hr0.trans hret) hn hi (hb hby hd) hr, hrun, hended, _, _, rfl, hq, r.trans hA, b1, b2, b3, b4.mono hc hs⟩
theorem own_retIW (Y : own_S Z y bytes maxL ret p l e R (s.setVm vm0) m args below meth c T h locs cells slots) (H : own_H Z EL a0 s vm0 h) {z : Int32} (hret : ret = some .int) (hd : decode bytes pc = .ok (.ireturn, 1)) (hc : cells ≤ kc) (hs : slots ≤ ks) (hq : Q (some (.int z)) h locs) : own_G p e below (own_EW Z EL s Q kc ks) (T.setTop (mkF m pc Ls (.int z :: st))) := own_retW Y H rfl (Or.inl ⟨rfl, Or.inl rfl, _, rfl⟩) hret hd hc hs hq
theorem own_retAW (Y : own_S Z y bytes maxL ret p l e R (s.setVm vm0) m args below meth c T h locs cells slots) (H : own_H Z EL a0 s vm0 h) {w : Value} {t : FieldType} (hret : ret = some t) (ht : t.isReference = true) (hw : w.isRef = true) (hd : decode bytes pc = .ok (.areturn, 1)) (hc : cells ≤ kc) (hs : slots ≤ ks) (hq : Q (some w) h locs) : own_G p e below (own_EW Z EL s Q kc ks) (T.setTop (mkF m pc Ls (w :: st))) := own_retW Y H (by cases t <;> first | rfl | (cases ht; done)) (Or.inr (Or.inr (Or.inr (Or.inr ⟨rfl, ht, hw⟩)))) hret hd hc hs hq
theorem own_retNW (Y : own_S Z y bytes maxL ret p l e R (s.setVm vm0) m args below meth c T h locs cells slots) (H : own_H Z EL a0 s vm0 h) {z : Int32} {t : FieldType} (hret : ret = some t) (ht : t = .boolean ∨ t = .byte ∨ t = .char ∨ t = .short) (hd : decode bytes pc = .ok (.ireturn, 1)) (hc : cells ≤ kc) (hs : slots ≤ ks) (hq : Q (some (.int (nar t z))) h locs) : own_G p e below (own_EW Z EL s Q kc ks) (T.setTop (mkF m pc Ls (.int z :: st))) := by
  obtain ⟨⟨hx, hby, hml, hown, hZ, hr0, hlk, hnm⟩, X, eT⟩ := Y
  subst eT
  obtain ⟨⟨k0, q1, q2⟩, r, wE⟩ := H
  have hA := CHv.at X hZ wE r.1
  obtain ⟨fs, hr, hrun, hended, b1, b2, b3, b4⟩ := X.leaveW q1 q2 (v := some (.int (nar t z))) (fun q => by rw [hr0, hret] at q; cases q) hlk
  exact ⟨_, _, retN X hx (hr0.trans hret) ht (hb hby hd) hr, hrun, hended, _, _, rfl, hq, r.trans hA, b1, b2, b3, b4.mono hc hs⟩
theorem own_retVW (Y : own_S Z y bytes maxL ret p l e R (s.setVm vm0) m args below meth c T h locs cells slots) (H : own_H Z EL a0 s vm0 h) (hret : ret = none) (hd : decode bytes pc = .ok (.return_, 1)) (hc : cells ≤ kc) (hs : slots ≤ ks) (hq : Q none h locs) : own_G p e below (own_EW Z EL s Q kc ks) (T.setTop (mkF m pc Ls [])) := by
  obtain ⟨⟨hx, hby, hml, hown, hZ, hr0, hlk, hnm⟩, X, eT⟩ := Y
  subst eT
  obtain ⟨⟨k0, q1, q2⟩, r, wE⟩ := H
  have hA := CHv.at X hZ wE r.1
  obtain ⟨fs, hr, hrun, hended, b1, b2, b3, b4⟩ := X.leaveW q1 q2 (v := none) (fun _ => rfl) hlk
  exact ⟨_, _, X.returnOut hx (hr0.trans hret) (hb hby hd) hr, hrun, hended, _, _, rfl, hq, r.trans hA, b1, b2, b3, b4.mono hc hs⟩
theorem own_Y2 {p : Program} {l : Launch} {e : Env} {R : Room} {s : State} {m : MethodId} {args : Array Value} {below : List Frame} {meth : Method} {c : Code} {T T' : State} {locs locs' : List Loc} {cells slots cells' slots' : Nat} {Z : State} {h : Heap} {y : MethodName} {bytes : ByteArray} {maxL : Nat} {ret : Option FieldType} {vm0 : Vm} (Y : own_S Z y bytes maxL ret p l e R (s.setVm vm0) m args below meth c T h locs cells slots) {vm1 : Vm} (hal : (s.setVm vm0).Warmed39 vm1) (X' : Stand p l e R (s.setVm vm1) m args below meth c T' locs' cells' slots') : own_S Z y bytes maxL ret p l e R (s.setVm vm1) m args below meth c T' T'.heap locs' cells' slots' :=
  ⟨⟨Y.1.1, Y.1.2.1, Y.1.2.2.1, by show vm1.findClass y.cls = _; rw [hal.alike.findClass]; exact Y.1.2.2.2.1, State.Warmed39.trans Y.warm hal, Y.1.2.2.2.2.2⟩, X', rfl⟩
theorem own_ldcW (pc' : Nat) (Y : own_S Z y bytes maxL ret p l e R (s.setVm vm0) m args below meth c T h locs cells slots) (H : own_H Z EL a0 s vm0 h) {text : String} {index : Nat} (w : (Jvm.Cond.stringLink y.cls index text).before a0 Z = true) (wS : ∀ a ∈ Bundle.stringAtoms, a.before a0 Z = true) (hmem : (y.cls, index) ∈ EL) {vs : List Value} {z : Int32} (ht : (∀ c ∈ text.toList, c.toNat < 256) ∧ text.toList.map (fun c => Value.int (Jvm.Lit.byteI c.toNat.toUInt16)) = vs) (hz : ¬ z < 0) (hl : z.toNatClampNeg = vs.length) (n : Nat)
    (hd : decode bytes pc = .ok (.ldc index, 2)) (hn : 4 * text.toList.length ≤ n) (hbig : n ≤ 536870912) (hc : cells + 2 ≤ R.cells) (hs : slots + (n + 4) ≤ R.slots) (hp : pc + 2 = pc')
    (K : ∀ T' h' vm' a b kA, own_S Z y bytes maxL ret p l e R (s.setVm vm') m args below meth c T' h' locs (cells + 2) (slots + (n + 4)) → own_H Z EL a0 s vm' h' → CHr Z EL vm0 h vm' h' → Ext h h' → Exa Z h' a "java/lang/String" → Fld Z h' a "java/lang/String" "coder" "B" (.int 0) → Fld Z h' a "java/lang/String" "value" "[B" (.ref b) → Arv Z h' b kA .byte z vs (.int 0) → (∀ x, Safe Z EL vm' h' x → x ≠ a ∧ x ≠ b) → own_G p e below E (T'.setTop (mkF m pc' Ls (.ref a :: st)))) : own_G p e below E (T.setTop (mkF m pc Ls st)) := by
  subst hp
  obtain ⟨⟨k0, q1, q2⟩, r, wE⟩ := H
  obtain ⟨a, T', h', k1, b, kA, X', e', E', hS', hk', hW', hf', F1, F2, F3, F4, -, -, hC, -, hN, st'⟩ := ldcCH Y.X Y.x Y.warm Y.own w wS Y.eT q1 q2 wE hmem r.1 ht hz hl (g := mkF m pc Ls st) rfl (Y.d hd) hn hbig hc hs
  subst e'
  exact own_st st' (K T' T'.heap T'.vm a b kA ⟨⟨Y.1.1, Y.1.2.1, Y.1.2.2.1, hf', hW', Y.1.2.2.2.2.2⟩, X', rfl⟩ ⟨⟨k1, hS', hk'⟩, r.trans hC, wE⟩ hC E' F1 F2 F3 F4 hN)
theorem own_callSW (pc' : Nat) (Y : own_S Z y bytes maxL ret p l e R (s.setVm vm0) m args below meth c T h locs cells slots) (H : own_H Z EL a0 s vm0 h) {yc : MethodName} {bc : ByteArray} {mc : Nat} {rc : Option FieldType} {rm : Room} {index : Nat} {Qc : Option Value → Heap → List Loc → Prop} (argsL rest : List Value) (w1 : (Jvm.Cond.methodLink y.cls index yc).before a0 Z = true) (w2 : (Jvm.Cond.static yc).before a0 Z = true) (w3 : (Jvm.Cond.initialized yc.cls).before a0 Z = true) (w4 : (Jvm.Cond.code yc bc mc rc).before a0 Z = true) (hM : own_MW l yc bc mc rc [] rm Z EL argsL.toArray h Qc) (hd : decode bytes pc = .ok (.invokestatic index, 3)) (hy : (yc.cls ≠ "java/lang/invoke/MethodHandle" ∧ yc.cls ≠ "java/lang/invoke/VarHandle")) (hlen : ∀ sig, parseMethodDescriptor yc.desc = some sig → argsL.length = sig.parameters.length) (hst : st = argsL.reverse ++ rest) (hLs : Ls.size = maxL) (hf : rm.frames + 1 ≤ R.frames) (hl : (rest.map fun v => v.category).sum + (mc + 11) + rm.locals ≤ R.locals) (hc : cells + rm.cells ≤ R.cells) (hs : slots + rm.slots ≤ R.slots) (hp : pc + 3 = pc')
    (K : ∀ v T' h' L vm', own_S Z y bytes maxL ret p l e R (s.setVm vm') m args below meth c T' h' (locs ++ L) (cells + rm.cells) (slots + rm.slots) → own_H Z EL a0 s vm' h' → CHr Z EL vm0 h vm' h' → Qc v h' L → own_G p e below E (T'.setTop (mkF m pc' Ls (v.toList ++ rest)))) : own_G p e below E (T.setTop (mkF m pc Ls st)) := by
  subst hp
  obtain ⟨⟨k0, q1, q2⟩, r, wE⟩ := H
  obtain ⟨v, _, ⟨T', L', k', n'⟩, -, X', hS', hg', P', st'⟩ := callSS Y.X Y.x (y := yc) Y.own (mvT Y.warm w1) (mvT Y.warm w2) (mvT Y.warm w3) (mvT Y.warm w4) hy (backOfSH (W := (rest.map fun v => v.category).sum) hM Y.warm w4 w3 hf hl wE r.1) (g := mkF m pc Ls st) rfl (hLs.trans Y.1.2.2.1.symm) (argsL := argsL) (rest := rest) hlen hst (by show 2 * 0 + _ ≤ _; omega) (Y.d hd) (fun _ _ => ⟨rfl, Y.eT, hc, hs⟩)
  obtain ⟨Lc, hQ, l1, y1, z1, hC⟩ := P'
  dsimp only [Pt.U, Pt.locs, Pt.cells, Pt.slots] at l1 y1 z1 hQ hC
  dsimp only [Pt.U, Pt.locs, Pt.cells, Pt.slots] at X' st' hS' hg'
  subst l1 y1 z1
  exact own_st (fun t k => st'.trans k) (K v T' T'.heap Lc T'.vm (own_Y2 Y hS'.1 X') ⟨⟨T'.heap.size, q1.trans hS' (Nat.le_trans q2 (Y.eT ▸ hg')), Nat.le_refl _⟩, r.trans hC, wE⟩ hC hQ)
theorem own_callIW (pc' : Nat) (Y : own_S Z y bytes maxL ret p l e R (s.setVm vm0) m args below meth c T h locs cells slots) (H : own_H Z EL a0 s vm0 h) {yc : MethodName} {bc : ByteArray} {mc : Nat} {rm : Room} {index : Nat} {Qc : Option Value → Heap → List Loc → Prop} (argsL rest : List Value) {a : Addr} (hini : yc.name = "<init>") (w1 : (Jvm.Cond.methodLink y.cls index yc).before a0 Z = true) (w2 : (Jvm.Cond.instanceMethod yc).before a0 Z = true) (w3 : (Jvm.Cond.initialized yc.cls).before a0 Z = true) (w4 : (Jvm.Cond.code yc bc mc none).before a0 Z = true) (hM : own_MW l yc bc mc none [] rm Z EL (.ref a :: argsL).toArray h Qc) (hd : decode bytes pc = .ok (.invokespecial index, 3)) (hy : (yc.cls ≠ "java/lang/invoke/MethodHandle" ∧ yc.cls ≠ "java/lang/invoke/VarHandle")) (hlen : ∀ sig, parseMethodDescriptor yc.desc = some sig → argsL.length = sig.parameters.length) (hst : st = argsL.reverse ++ .ref a :: rest) (hLs : Ls.size = maxL) (hf : rm.frames + 1 ≤ R.frames) (hl : (rest.map fun v => v.category).sum + (mc + 11) + rm.locals ≤ R.locals) (hc : cells + rm.cells ≤ R.cells) (hs : slots + rm.slots ≤ R.slots) (hp : pc + 3 = pc')
    (K : ∀ v T' h' L vm', own_S Z y bytes maxL ret p l e R (s.setVm vm') m args below meth c T' h' (locs ++ L) (cells + rm.cells) (slots + rm.slots) → own_H Z EL a0 s vm' h' → CHr Z EL vm0 h vm' h' → Qc v h' L → own_G p e below E (T'.setTop (mkF m pc' Ls (v.toList ++ rest)))) : own_G p e below E (T.setTop (mkF m pc Ls st)) := by
  subst hp
  obtain ⟨⟨k0, q1, q2⟩, r, wE⟩ := H
  obtain ⟨v, _, ⟨T', L', k', n'⟩, -, X', hS', hg', P', st'⟩ := Y.X.specialBackS Y.x (y := yc) hini Y.own (mvT Y.warm w1) (mvT Y.warm w2) (mvT Y.warm w4) hy (backOfSH (W := (rest.map fun v => v.category).sum) hM Y.warm w4 w3 hf hl wE r.1) (g := mkF m pc Ls st) rfl (hLs.trans Y.1.2.2.1.symm) (Steps.refl _) (a := a) (argsL := argsL) (rest := rest) hlen hst (by show 2 * 0 + _ ≤ _; omega) (Y.d hd) (fun _ _ => ⟨rfl, Y.eT, hc, hs⟩)
  obtain ⟨Lc, hQ, l1, y1, z1, hC⟩ := P'
  dsimp only [Pt.U, Pt.locs, Pt.cells, Pt.slots] at l1 y1 z1 hQ hC
  dsimp only [Pt.U, Pt.locs, Pt.cells, Pt.slots] at X' st' hS' hg'
  subst l1 y1 z1
  exact own_st (fun t k => st'.trans k) (K v T' T'.heap Lc T'.vm (own_Y2 Y hS'.1 X') ⟨⟨T'.heap.size, q1.trans hS' (Nat.le_trans q2 (Y.eT ▸ hg')), Nat.le_refl _⟩, r.trans hC, wE⟩ hC hQ)
theorem own_callVW (pc' : Nat) (Y : own_S Z y bytes maxL ret p l e R (s.setVm vm0) m args below meth c T h locs cells slots) (H : own_H Z EL a0 s vm0 h) {yc : MethodName} {bc : ByteArray} {mc : Nat} {rc : Option FieldType} {rm : Room} {index : Nat} {Qc : Option Value → Heap → List Loc → Prop} {yr : MethodName} {C : String} (argsL rest : List Value) {a : Addr} (EX : Exa Z h a C) (w1 : (Jvm.Cond.methodLink y.cls index yr).before a0 Z = true) (wd : (Jvm.Cond.declares yr).before a0 Z = true) (nf : NotFace (s.setVm vm0) yr) (ws : (Jvm.Cond.selects C yr yc).before a0 Z = true) (w2 : (Jvm.Cond.instanceMethod yc).before a0 Z = true) (w3 : (Jvm.Cond.initialized yc.cls).before a0 Z = true) (w4 : (Jvm.Cond.code yc bc mc rc).before a0 Z = true) (hM : own_MW l yc bc mc rc [] rm Z EL (.ref a :: argsL).toArray h Qc) (hd : decode bytes pc = .ok (.invokevirtual index, 3)) (hy : (yr.cls ≠ "java/lang/invoke/MethodHandle" ∧ yr.cls ≠ "java/lang/invoke/VarHandle")) (hlen : ∀ sig, parseMethodDescriptor yr.desc = some sig → argsL.length = sig.parameters.length) (hst : st = argsL.reverse ++ .ref a :: rest) (hLs : Ls.size = maxL) (hf : rm.frames + 1 ≤ R.frames) (hl : (rest.map fun v => v.category).sum + (mc + 11) + rm.locals ≤ R.locals) (hc : cells + rm.cells ≤ R.cells) (hs : slots + rm.slots ≤ R.slots) (hp : pc + 3 = pc')
    (K : ∀ v T' h' L vm', own_S Z y bytes maxL ret p l e R (s.setVm vm') m args below meth c T' h' (locs ++ L) (cells + rm.cells) (slots + rm.slots) → own_H Z EL a0 s vm' h' → CHr Z EL vm0 h vm' h' → Qc v h' L → own_G p e below E (T'.setTop (mkF m pc' Ls (v.toList ++ rest)))) : own_G p e below E (T.setTop (mkF m pc Ls st)) := by
  subst hp
  obtain ⟨⟨k0, q1, q2⟩, r, wE⟩ := H
  obtain ⟨cq, kq, qa, qb, qc⟩ := isOf Y.warm Y.eT EX
  obtain ⟨v, _, ⟨T', L', k', n'⟩, -, X', hS', hg', P', st'⟩ := Y.X.virtualBackS Y.x (y := yr) (z := yc) Y.own (mvT Y.warm w1) (mvT Y.warm wd) nf (mvT Y.warm ws) (mvT Y.warm w2) hy (backOfSH (W := (rest.map fun v => v.category).sum) hM Y.warm w4 w3 hf hl wE r.1) qa qc (g := mkF m pc Ls st) rfl (hLs.trans Y.1.2.2.1.symm) (Steps.refl _) (argsL := argsL) (rest := rest) hlen hst (by show 2 * 0 + _ ≤ _; omega) (Y.d hd) (fun _ _ => ⟨rfl, Y.eT, hc, hs⟩)
  obtain ⟨Lc, hQ, l1, y1, z1, hC⟩ := P'
  dsimp only [Pt.U, Pt.locs, Pt.cells, Pt.slots] at l1 y1 z1 hQ hC
  dsimp only [Pt.U, Pt.locs, Pt.cells, Pt.slots] at X' st' hS' hg'
  subst l1 y1 z1
  exact own_st (fun t k => st'.trans k) (K v T' T'.heap Lc T'.vm (own_Y2 Y hS'.1 X') ⟨⟨T'.heap.size, q1.trans hS' (Nat.le_trans q2 (Y.eT ▸ hg')), Nat.le_refl _⟩, r.trans hC, wE⟩ hC hQ)
end OwnW

theorem own_frs {k : Nat} {locs : List Loc} {a : Addr} {sl : Nat} (N : Fr k locs) (q : k ≤ a) : Fr k (locs ++ [⟨a, sl⟩]) := N.app fun y hy => by cases List.mem_singleton.mp hy; exact q
theorem own_frY {p : Program} {l : Launch} {e : Env} {R : Room} {s : State} {m : MethodId} {args : Array Value} {below : List Frame} {meth : Method} {c : Code} {T : State} {locs : List Loc} {cells slots : Nat} {Z : State} {h : Heap} {y : MethodName} {bytes : ByteArray} {maxL : Nat} {ret : Option FieldType} {k : Nat} {a : Addr} {sl : Nat} (Y : own_S Z y bytes maxL ret p l e R s m args below meth c T h (locs ++ [⟨a, sl⟩]) cells slots) (N : Fr k locs) (q : k ≤ a) : Fr k (locs ++ [⟨a, sl⟩]) := own_frs N q
theorem own_fitR {n : String} {v : Value} (q : v.isRef = true) : narrow (.object n) v = v ∧ fits (.object n) v = true := by cases v <;> first | exact ⟨rfl, rfl⟩ | cases q
theorem own_fitA {t : FieldType} {v : Value} (q : v.isRef = true) : narrow (.array t) v = v ∧ fits (.array t) v = true := by cases v <;> first | exact ⟨rfl, rfl⟩ | cases q
theorem own_keepE {h0 h : Heap} (K : Keep h0 h []) : Ext h0 h := ⟨K.1, fun a c q => K.2.1 a c q nin0⟩
theorem own_keepF {h0 h1 h2 : Heap} {b : Addr} (E : Ext h0 h1) (g : b = h0.size) (K : Keep h1 h2 [b]) : Keep h0 h2 [] := ((Keep.refl h0 []).ext E).trans K (allS (Or.inr (Nat.le_of_eq g.symm)) all0)
theorem own_refCat {v : Value} (q : v.isRef = true) : v.category = 1 := by cases v <;> first | rfl | cases q

theorem own_safeN {Z : State} {EL : List (String × Nat)} {vm : Vm} {h : Heap} {x : Addr} (hal : Z.vm.Alike vm) (EX : Exa Z h x "java/lang/String") (F : Fld Z h x "java/lang/String" "value" "[B" .null) : Safe Z EL vm h x := fun B => by
  obtain ⟨p, -, u, a, -, q, -, G, rfl | rfl⟩ := B
  · obtain ⟨cell, cf, k, i, f, e1, e2, -, -, -, -, e7⟩ := F
    cases (show h[q.sa]? = some q.sC from G.ha).symm.trans e1
    obtain ⟨cS, ⟨⟨-, -, -, ⟨c1, k1, i1, f1, -⟩, -, -, -, v1, -⟩, -⟩, -⟩ := G
    obtain ⟨k3, e3, -⟩ := State.fieldFound?_setVm (s := ({ Z with heap := h } : State)) hal (show ({ Z with heap := h } : State).fieldFound? "java/lang/String" "value" "[B" = some (cf, k, i, f) from e2)
    have e4 := e3.symm.trans f1
    simp only [Option.some.injEq, Prod.mk.injEq] at e4
    rw [← e4.2.2.2, e7] at v1
    cases v1
  · obtain ⟨cell, k, e1, e2, e3, -, -⟩ := EX
    cases (show h[q.sd]? = some q.SA from G.hd).symm.trans e1
    obtain ⟨cS, -, -, f, -⟩ := G
    rw [show (Wst Z vm h).vm.findClass "[B" = Z.vm.findClass "[B" from hal.findClass _ _] at f
    obtain ⟨k1, q1, q2⟩ := Vm.findClass_spec f
    obtain ⟨k2, q3, q4⟩ := Vm.findClass_spec e2
    cases q1.symm.trans q3
    exact absurd (q2.symm.trans q4) (by decide)

theorem own_eqi {args : Array Value} {Z : State} {t : Term} {k : Int32} (hx : (Jvm.Cond.eq t (Jvm.Term.int k)).value args Z none Z [] = some true) : t.eval args Z none [] Z = some (.int k) := by
  obtain ⟨u, v, e1, e2, k1, k2⟩ := cmp_v (Or.inl hx)
  cases (Term.int_eval k).symm.trans e2
  obtain ⟨z, rfl⟩ := k2
  have q : some (decide (z = k)) = some true := by simpa [Jvm.Cond.value, Term.eval, e1] using hx
  obtain rfl : z = k := of_decide_eq_true (Option.some.inj q)
  exact e1

def Qv (u : Option Value) (h0 : Heap) (v : Option Value) (h : Heap) (L : List Loc) : Prop := h0 = h ∧ L = [] ∧ v = u
abbrev EL0 : List (String × Nat) := [("java/lang/String", 7)]
theorem own_el {Z : State} {a0 : Array Value} (hw : ∀ d ∈ tables_1, d.before a0 Z = true) : EW Z a0 EL0 := (EW.cons (own_wd hw 16 rfl) (by decide) EW.nil)
theorem own_sub : ∀ a ∈ Bundle.stringAtoms, a ∈ tables_1 := by decide +kernel
theorem own_sa {Z : State} {a0 : Array Value} (hw : ∀ d ∈ tables_1, d.before a0 Z = true) : ∀ a ∈ Bundle.stringAtoms, a.before a0 Z = true := fun a ha => hw a (own_sub a ha)
theorem dscmp5_0 : decode jdk_52_method_21_code 0 = .ok (.iconst 0, 1) := by decide +kernel
theorem dscmp5_1 : decode jdk_52_method_21_code 1 = .ok (.istore 5, 2) := by decide +kernel
theorem dscmp5_3 : decode jdk_52_method_21_code 3 = .ok (.iload 5, 2) := by decide +kernel
theorem dscmp5_5 : decode jdk_52_method_21_code 5 = .ok (.iload 4, 2) := by decide +kernel
theorem dscmp5_7 : decode jdk_52_method_21_code 7 = .ok (.if_icmp .ge 37, 3) := by decide +kernel
theorem dscmp5_10 : decode jdk_52_method_21_code 10 = .ok (.aload_n 0, 1) := by decide +kernel
theorem dscmp5_11 : decode jdk_52_method_21_code 11 = .ok (.iload_n 1, 1) := by decide +kernel
theorem dscmp5_12 : decode jdk_52_method_21_code 12 = .ok (.caload, 1) := by decide +kernel
theorem dscmp5_13 : decode jdk_52_method_21_code 13 = .ok (.istore 6, 2) := by decide +kernel
theorem dscmp5_15 : decode jdk_52_method_21_code 15 = .ok (.iload 6, 2) := by decide +kernel
theorem dscmp5_17 : decode jdk_52_method_21_code 17 = .ok (.sipush 255, 3) := by decide +kernel
theorem dscmp5_20 : decode jdk_52_method_21_code 20 = .ok (.if_icmp .le 6, 3) := by decide +kernel
theorem dscmp5_23 : decode jdk_52_method_21_code 23 = .ok (.iload 5, 2) := by decide +kernel
theorem dscmp5_25 : decode jdk_52_method_21_code 25 = .ok (.ireturn, 1) := by decide +kernel
theorem dscmp5_26 : decode jdk_52_method_21_code 26 = .ok (.aload_n 2, 1) := by decide +kernel
theorem dscmp5_27 : decode jdk_52_method_21_code 27 = .ok (.iload_n 3, 1) := by decide +kernel
theorem dscmp5_28 : decode jdk_52_method_21_code 28 = .ok (.iload 6, 2) := by decide +kernel
theorem dscmp5_30 : decode jdk_52_method_21_code 30 = .ok (.i2b, 1) := by decide +kernel
theorem dscmp5_31 : decode jdk_52_method_21_code 31 = .ok (.bastore, 1) := by decide +kernel
theorem dscmp5_32 : decode jdk_52_method_21_code 32 = .ok (.iinc 1 1, 3) := by decide +kernel
theorem dscmp5_35 : decode jdk_52_method_21_code 35 = .ok (.iinc 3 1, 3) := by decide +kernel
theorem dscmp5_38 : decode jdk_52_method_21_code 38 = .ok (.iinc 5 1, 3) := by decide +kernel
theorem dscmp5_41 : decode jdk_52_method_21_code 41 = .ok (.goto (-38), 3) := by decide +kernel
theorem dscmp5_44 : decode jdk_52_method_21_code 44 = .ok (.iload 4, 2) := by decide +kernel
theorem dscmp5_46 : decode jdk_52_method_21_code 46 = .ok (.ireturn, 1) := by decide +kernel
theorem plscmp5 : plainFor (⟨"java/lang/StringUTF16", "compress", "([CI[BII)I"⟩ : MethodName) = true := by first | exact plainFor_of_name (by first | (simp [plainName, overriddenIn]; done) | decide +kernel) | decide +kernel
theorem dscmp3_0 : decode jdk_52_method_16_code 0 = .ok (.iload_n 2, 1) := by decide +kernel
theorem dscmp3_1 : decode jdk_52_method_16_code 1 = .ok (.newarray .byte, 2) := by decide +kernel
theorem dscmp3_3 : decode jdk_52_method_16_code 3 = .ok (.astore_n 3, 1) := by decide +kernel
theorem dscmp3_4 : decode jdk_52_method_16_code 4 = .ok (.aload_n 0, 1) := by decide +kernel
theorem dscmp3_5 : decode jdk_52_method_16_code 5 = .ok (.iload_n 1, 1) := by decide +kernel
theorem dscmp3_6 : decode jdk_52_method_16_code 6 = .ok (.aload_n 3, 1) := by decide +kernel
theorem dscmp3_7 : decode jdk_52_method_16_code 7 = .ok (.iconst 0, 1) := by decide +kernel
theorem dscmp3_8 : decode jdk_52_method_16_code 8 = .ok (.iload_n 2, 1) := by decide +kernel
theorem dscmp3_9 : decode jdk_52_method_16_code 9 = .ok (.invokestatic 115, 3) := by decide +kernel
theorem dscmp3_12 : decode jdk_52_method_16_code 12 = .ok (.istore 4, 2) := by decide +kernel
theorem dscmp3_14 : decode jdk_52_method_16_code 14 = .ok (.iload 4, 2) := by decide +kernel
theorem dscmp3_16 : decode jdk_52_method_16_code 16 = .ok (.iload_n 2, 1) := by decide +kernel
theorem dscmp3_17 : decode jdk_52_method_16_code 17 = .ok (.if_icmp .eq 40, 3) := by decide +kernel
theorem dscmp3_20 : decode jdk_52_method_16_code 20 = .ok (.aload_n 0, 1) := by decide +kernel
theorem dscmp3_21 : decode jdk_52_method_16_code 21 = .ok (.iload_n 1, 1) := by decide +kernel
theorem dscmp3_22 : decode jdk_52_method_16_code 22 = .ok (.iload_n 2, 1) := by decide +kernel
theorem dscmp3_23 : decode jdk_52_method_16_code 23 = .ok (.invokestatic 119, 3) := by decide +kernel
theorem dscmp3_26 : decode jdk_52_method_16_code 26 = .ok (.astore 5, 2) := by decide +kernel
theorem dscmp3_28 : decode jdk_52_method_16_code 28 = .ok (.aload 5, 2) := by decide +kernel
theorem dscmp3_30 : decode jdk_52_method_16_code 30 = .ok (.iload 4, 2) := by decide +kernel
theorem dscmp3_32 : decode jdk_52_method_16_code 32 = .ok (.invokestatic 71, 3) := by decide +kernel
theorem dscmp3_35 : decode jdk_52_method_16_code 35 = .ok (.sipush 255, 3) := by decide +kernel
theorem dscmp3_38 : decode jdk_52_method_16_code 38 = .ok (.if_icmp .gt 16, 3) := by decide +kernel
theorem dscmp3_41 : decode jdk_52_method_16_code 41 = .ok (.aload 5, 2) := by decide +kernel
theorem dscmp3_43 : decode jdk_52_method_16_code 43 = .ok (.iconst 0, 1) := by decide +kernel
theorem dscmp3_44 : decode jdk_52_method_16_code 44 = .ok (.aload_n 3, 1) := by decide +kernel
theorem dscmp3_45 : decode jdk_52_method_16_code 45 = .ok (.iconst 0, 1) := by decide +kernel
theorem dscmp3_46 : decode jdk_52_method_16_code 46 = .ok (.iload_n 2, 1) := by decide +kernel
theorem dscmp3_47 : decode jdk_52_method_16_code 47 = .ok (.invokestatic 123, 3) := by decide +kernel
theorem dscmp3_50 : decode jdk_52_method_16_code 50 = .ok (.iload_n 2, 1) := by decide +kernel
theorem dscmp3_51 : decode jdk_52_method_16_code 51 = .ok (.if_icmp .eq 6, 3) := by decide +kernel
theorem dscmp3_54 : decode jdk_52_method_16_code 54 = .ok (.aload 5, 2) := by decide +kernel
theorem dscmp3_56 : decode jdk_52_method_16_code 56 = .ok (.areturn, 1) := by decide +kernel
theorem dscmp3_57 : decode jdk_52_method_16_code 57 = .ok (.aload_n 3, 1) := by decide +kernel
theorem dscmp3_58 : decode jdk_52_method_16_code 58 = .ok (.areturn, 1) := by decide +kernel
theorem plscmp3 : plainFor (⟨"java/lang/StringUTF16", "compress", "([CII)[B"⟩ : MethodName) = true := by first | exact plainFor_of_name (by first | (simp [plainName, overriddenIn]; done) | decide +kernel) | decide +kernel
theorem dscodl_0 : decode jdk_52_method_15_code 0 = .ok (.iload_n 1, 1) := by decide +kernel
theorem dscodl_1 : decode jdk_52_method_15_code 1 = .ok (.aload_n 0, 1) := by decide +kernel
theorem dscodl_2 : decode jdk_52_method_15_code 2 = .ok (.arraylength, 1) := by decide +kernel
theorem dscodl_3 : decode jdk_52_method_15_code 3 = .ok (.isub, 1) := by decide +kernel
theorem dscodl_4 : decode jdk_52_method_15_code 4 = .ok (.bipush 31, 2) := by decide +kernel
theorem dscodl_6 : decode jdk_52_method_15_code 6 = .ok (.iushr, 1) := by decide +kernel
theorem dscodl_7 : decode jdk_52_method_15_code 7 = .ok (.i2b, 1) := by decide +kernel
theorem dscodl_8 : decode jdk_52_method_15_code 8 = .ok (.ireturn, 1) := by decide +kernel
theorem plscodl : plainFor (⟨"java/lang/StringUTF16", "coderFromArrayLen", "([BI)B"⟩ : MethodName) = true := by first | exact plainFor_of_name (by first | (simp [plainName, overriddenIn]; done) | decide +kernel) | decide +kernel
theorem dsnew4_0 : decode jdk_42_method_149_code 0 = .ok (.aload_n 0, 1) := by decide +kernel
theorem dsnew4_1 : decode jdk_42_method_149_code 1 = .ok (.invokespecial 1, 3) := by decide +kernel
theorem dsnew4_4 : decode jdk_42_method_149_code 4 = .ok (.iload_n 3, 1) := by decide +kernel
theorem dsnew4_5 : decode jdk_42_method_149_code 5 = .ok (.ifCond .ne 22, 3) := by decide +kernel
theorem dsnew4_8 : decode jdk_42_method_149_code 8 = .ok (.aload_n 0, 1) := by decide +kernel
theorem dsnew4_9 : decode jdk_42_method_149_code 9 = .ok (.ldc 7, 2) := by decide +kernel
theorem dsnew4_11 : decode jdk_42_method_149_code 11 = .ok (.getfield 9, 3) := by decide +kernel
theorem dsnew4_14 : decode jdk_42_method_149_code 14 = .ok (.putfield 9, 3) := by decide +kernel
theorem dsnew4_17 : decode jdk_42_method_149_code 17 = .ok (.aload_n 0, 1) := by decide +kernel
theorem dsnew4_18 : decode jdk_42_method_149_code 18 = .ok (.ldc 7, 2) := by decide +kernel
theorem dsnew4_20 : decode jdk_42_method_149_code 20 = .ok (.getfield 15, 3) := by decide +kernel
theorem dsnew4_23 : decode jdk_42_method_149_code 23 = .ok (.putfield 15, 3) := by decide +kernel
theorem dsnew4_26 : decode jdk_42_method_149_code 26 = .ok (.return_, 1) := by decide +kernel
theorem dsnew4_27 : decode jdk_42_method_149_code 27 = .ok (.getstatic 38, 3) := by decide +kernel
theorem dsnew4_30 : decode jdk_42_method_149_code 30 = .ok (.ifCond .eq 28, 3) := by decide +kernel
theorem dsnew4_33 : decode jdk_42_method_149_code 33 = .ok (.aload_n 1, 1) := by decide +kernel
theorem dsnew4_34 : decode jdk_42_method_149_code 34 = .ok (.iload_n 2, 1) := by decide +kernel
theorem dsnew4_35 : decode jdk_42_method_149_code 35 = .ok (.iload_n 3, 1) := by decide +kernel
theorem dsnew4_36 : decode jdk_42_method_149_code 36 = .ok (.invokestatic 177, 3) := by decide +kernel
theorem dsnew4_39 : decode jdk_42_method_149_code 39 = .ok (.astore 5, 2) := by decide +kernel
theorem dsnew4_41 : decode jdk_42_method_149_code 41 = .ok (.aload_n 0, 1) := by decide +kernel
theorem dsnew4_42 : decode jdk_42_method_149_code 42 = .ok (.aload 5, 2) := by decide +kernel
theorem dsnew4_44 : decode jdk_42_method_149_code 44 = .ok (.iload_n 3, 1) := by decide +kernel
theorem dsnew4_45 : decode jdk_42_method_149_code 45 = .ok (.invokestatic 47, 3) := by decide +kernel
theorem dsnew4_48 : decode jdk_42_method_149_code 48 = .ok (.putfield 15, 3) := by decide +kernel
theorem dsnew4_51 : decode jdk_42_method_149_code 51 = .ok (.aload_n 0, 1) := by decide +kernel
theorem dsnew4_52 : decode jdk_42_method_149_code 52 = .ok (.aload 5, 2) := by decide +kernel
theorem dsnew4_54 : decode jdk_42_method_149_code 54 = .ok (.putfield 9, 3) := by decide +kernel
theorem dsnew4_57 : decode jdk_42_method_149_code 57 = .ok (.return_, 1) := by decide +kernel
theorem dsnew4_58 : decode jdk_42_method_149_code 58 = .ok (.aload_n 0, 1) := by decide +kernel
theorem dsnew4_59 : decode jdk_42_method_149_code 59 = .ok (.iconst 1, 1) := by decide +kernel
theorem dsnew4_60 : decode jdk_42_method_149_code 60 = .ok (.putfield 15, 3) := by decide +kernel
theorem dsnew4_63 : decode jdk_42_method_149_code 63 = .ok (.aload_n 0, 1) := by decide +kernel
theorem dsnew4_64 : decode jdk_42_method_149_code 64 = .ok (.aload_n 1, 1) := by decide +kernel
theorem dsnew4_65 : decode jdk_42_method_149_code 65 = .ok (.iload_n 2, 1) := by decide +kernel
theorem dsnew4_66 : decode jdk_42_method_149_code 66 = .ok (.iload_n 3, 1) := by decide +kernel
theorem dsnew4_67 : decode jdk_42_method_149_code 67 = .ok (.invokestatic 180, 3) := by decide +kernel
theorem dsnew4_70 : decode jdk_42_method_149_code 70 = .ok (.putfield 9, 3) := by decide +kernel
theorem dsnew4_73 : decode jdk_42_method_149_code 73 = .ok (.return_, 1) := by decide +kernel
theorem plsnew4 : plainFor (⟨"java/lang/String", "<init>", "([CIILjava/lang/Void;)V"⟩ : MethodName) = true := by first | exact plainFor_of_name (by first | (simp [plainName, overriddenIn]; done) | decide +kernel) | decide +kernel
theorem dsnew1_0 : decode jdk_42_method_3_code 0 = .ok (.aload_n 0, 1) := by decide +kernel
theorem dsnew1_1 : decode jdk_42_method_3_code 1 = .ok (.aload_n 1, 1) := by decide +kernel
theorem dsnew1_2 : decode jdk_42_method_3_code 2 = .ok (.iconst 0, 1) := by decide +kernel
theorem dsnew1_3 : decode jdk_42_method_3_code 3 = .ok (.aload_n 1, 1) := by decide +kernel
theorem dsnew1_4 : decode jdk_42_method_3_code 4 = .ok (.arraylength, 1) := by decide +kernel
theorem dsnew1_5 : decode jdk_42_method_3_code 5 = .ok (.aconst_null, 1) := by decide +kernel
theorem dsnew1_6 : decode jdk_42_method_3_code 6 = .ok (.invokespecial 27, 3) := by decide +kernel
theorem dsnew1_9 : decode jdk_42_method_3_code 9 = .ok (.return_, 1) := by decide +kernel
theorem plsnew1 : plainFor (⟨"java/lang/String", "<init>", "([C)V"⟩ : MethodName) = true := by first | exact plainFor_of_name (by first | (simp [plainName, overriddenIn]; done) | decide +kernel) | decide +kernel
theorem dspre_0 : decode jdk_41_method_11_code 0 = .ok (.iload_n 0, 1) := by decide +kernel
theorem dspre_1 : decode jdk_41_method_11_code 1 = .ok (.ifCond .lt 8, 3) := by decide +kernel
theorem dspre_4 : decode jdk_41_method_11_code 4 = .ok (.iload_n 0, 1) := by decide +kernel
theorem dspre_5 : decode jdk_41_method_11_code 5 = .ok (.iload_n 1, 1) := by decide +kernel
theorem dspre_6 : decode jdk_41_method_11_code 6 = .ok (.if_icmp .lt 10, 3) := by decide +kernel
theorem dspre_9 : decode jdk_41_method_11_code 9 = .ok (.aload_n 2, 1) := by decide +kernel
theorem dspre_10 : decode jdk_41_method_11_code 10 = .ok (.iload_n 0, 1) := by decide +kernel
theorem dspre_11 : decode jdk_41_method_11_code 11 = .ok (.iload_n 1, 1) := by decide +kernel
theorem dspre_12 : decode jdk_41_method_11_code 12 = .ok (.invokestatic 95, 3) := by decide +kernel
theorem dspre_15 : decode jdk_41_method_11_code 15 = .ok (.athrow, 1) := by decide +kernel
theorem dspre_16 : decode jdk_41_method_11_code 16 = .ok (.iload_n 0, 1) := by decide +kernel
theorem dspre_17 : decode jdk_41_method_11_code 17 = .ok (.ireturn, 1) := by decide +kernel
theorem plspre : plainFor (⟨"jdk/internal/util/Preconditions", "checkIndex", "(IILjava/util/function/BiFunction;)I"⟩ : MethodName) = true := by first | exact plainFor_of_name (by first | (simp [plainName, overriddenIn]; done) | decide +kernel) | decide +kernel
theorem dscki_0 : decode jdk_42_method_155_code 0 = .ok (.iload_n 0, 1) := by decide +kernel
theorem dscki_1 : decode jdk_42_method_155_code 1 = .ok (.iload_n 1, 1) := by decide +kernel
theorem dscki_2 : decode jdk_42_method_155_code 2 = .ok (.getstatic 1053, 3) := by decide +kernel
theorem dscki_5 : decode jdk_42_method_155_code 5 = .ok (.invokestatic 1059, 3) := by decide +kernel
theorem dscki_8 : decode jdk_42_method_155_code 8 = .ok (.pop, 1) := by decide +kernel
theorem dscki_9 : decode jdk_42_method_155_code 9 = .ok (.return_, 1) := by decide +kernel
theorem plscki : plainFor (⟨"java/lang/String", "checkIndex", "(II)V"⟩ : MethodName) = true := by first | exact plainFor_of_name (by first | (simp [plainName, overriddenIn]; done) | decide +kernel) | decide +kernel
theorem dsulen_0 : decode jdk_52_method_6_code 0 = .ok (.aload_n 0, 1) := by decide +kernel
theorem dsulen_1 : decode jdk_52_method_6_code 1 = .ok (.arraylength, 1) := by decide +kernel
theorem dsulen_2 : decode jdk_52_method_6_code 2 = .ok (.iconst 1, 1) := by decide +kernel
theorem dsulen_3 : decode jdk_52_method_6_code 3 = .ok (.ishr, 1) := by decide +kernel
theorem dsulen_4 : decode jdk_52_method_6_code 4 = .ok (.ireturn, 1) := by decide +kernel
theorem plsulen : plainFor (⟨"java/lang/StringUTF16", "length", "([B)I"⟩ : MethodName) = true := by first | exact plainFor_of_name (by first | (simp [plainName, overriddenIn]; done) | decide +kernel) | decide +kernel
theorem dsucki_0 : decode jdk_52_method_91_code 0 = .ok (.iload_n 0, 1) := by decide +kernel
theorem dsucki_1 : decode jdk_52_method_91_code 1 = .ok (.aload_n 1, 1) := by decide +kernel
theorem dsucki_2 : decode jdk_52_method_91_code 2 = .ok (.invokestatic 48, 3) := by decide +kernel
theorem dsucki_5 : decode jdk_52_method_91_code 5 = .ok (.invokestatic 414, 3) := by decide +kernel
theorem dsucki_8 : decode jdk_52_method_91_code 8 = .ok (.return_, 1) := by decide +kernel
theorem plsucki : plainFor (⟨"java/lang/StringUTF16", "checkIndex", "(I[B)V"⟩ : MethodName) = true := by first | exact plainFor_of_name (by first | (simp [plainName, overriddenIn]; done) | decide +kernel) | decide +kernel
theorem dsgetc_0 : decode jdk_52_method_5_code 0 = .ok (.getstatic 44, 3) := by decide +kernel
theorem dsgetc_3 : decode jdk_52_method_5_code 3 = .ok (.ifCond .ne 25, 3) := by decide +kernel
theorem dsgetc_6 : decode jdk_52_method_5_code 6 = .ok (.iload_n 1, 1) := by decide +kernel
theorem dsgetc_7 : decode jdk_52_method_5_code 7 = .ok (.ifCond .lt 11, 3) := by decide +kernel
theorem dsgetc_10 : decode jdk_52_method_5_code 10 = .ok (.iload_n 1, 1) := by decide +kernel
theorem dsgetc_11 : decode jdk_52_method_5_code 11 = .ok (.aload_n 0, 1) := by decide +kernel
theorem dsgetc_12 : decode jdk_52_method_5_code 12 = .ok (.invokestatic 48, 3) := by decide +kernel
theorem dsgetc_15 : decode jdk_52_method_5_code 15 = .ok (.if_icmp .lt 13, 3) := by decide +kernel
theorem dsgetc_18 : decode jdk_52_method_5_code 18 = .ok (.new 52, 3) := by decide +kernel
theorem dsgetc_21 : decode jdk_52_method_5_code 21 = .ok (.dup, 1) := by decide +kernel
theorem dsgetc_22 : decode jdk_52_method_5_code 22 = .ok (.ldc 54, 2) := by decide +kernel
theorem dsgetc_24 : decode jdk_52_method_5_code 24 = .ok (.invokespecial 56, 3) := by decide +kernel
theorem dsgetc_27 : decode jdk_52_method_5_code 27 = .ok (.athrow, 1) := by decide +kernel
theorem dsgetc_28 : decode jdk_52_method_5_code 28 = .ok (.iload_n 1, 1) := by decide +kernel
theorem dsgetc_29 : decode jdk_52_method_5_code 29 = .ok (.iconst 1, 1) := by decide +kernel
theorem dsgetc_30 : decode jdk_52_method_5_code 30 = .ok (.ishl, 1) := by decide +kernel
theorem dsgetc_31 : decode jdk_52_method_5_code 31 = .ok (.istore_n 1, 1) := by decide +kernel
theorem dsgetc_32 : decode jdk_52_method_5_code 32 = .ok (.aload_n 0, 1) := by decide +kernel
theorem dsgetc_33 : decode jdk_52_method_5_code 33 = .ok (.iload_n 1, 1) := by decide +kernel
theorem dsgetc_34 : decode jdk_52_method_5_code 34 = .ok (.iinc 1 1, 3) := by decide +kernel
theorem dsgetc_37 : decode jdk_52_method_5_code 37 = .ok (.baload, 1) := by decide +kernel
theorem dsgetc_38 : decode jdk_52_method_5_code 38 = .ok (.sipush 255, 3) := by decide +kernel
theorem dsgetc_41 : decode jdk_52_method_5_code 41 = .ok (.iand, 1) := by decide +kernel
theorem dsgetc_42 : decode jdk_52_method_5_code 42 = .ok (.getstatic 59, 3) := by decide +kernel
theorem dsgetc_45 : decode jdk_52_method_5_code 45 = .ok (.ishl, 1) := by decide +kernel
theorem dsgetc_46 : decode jdk_52_method_5_code 46 = .ok (.aload_n 0, 1) := by decide +kernel
theorem dsgetc_47 : decode jdk_52_method_5_code 47 = .ok (.iload_n 1, 1) := by decide +kernel
theorem dsgetc_48 : decode jdk_52_method_5_code 48 = .ok (.baload, 1) := by decide +kernel
theorem dsgetc_49 : decode jdk_52_method_5_code 49 = .ok (.sipush 255, 3) := by decide +kernel
theorem dsgetc_52 : decode jdk_52_method_5_code 52 = .ok (.iand, 1) := by decide +kernel
theorem dsgetc_53 : decode jdk_52_method_5_code 53 = .ok (.getstatic 63, 3) := by decide +kernel
theorem dsgetc_56 : decode jdk_52_method_5_code 56 = .ok (.ishl, 1) := by decide +kernel
theorem dsgetc_57 : decode jdk_52_method_5_code 57 = .ok (.ior, 1) := by decide +kernel
theorem dsgetc_58 : decode jdk_52_method_5_code 58 = .ok (.i2c, 1) := by decide +kernel
theorem dsgetc_59 : decode jdk_52_method_5_code 59 = .ok (.ireturn, 1) := by decide +kernel
theorem plsgetc : plainFor (⟨"java/lang/StringUTF16", "getChar", "([BI)C"⟩ : MethodName) = true := by first | exact plainFor_of_name (by first | (simp [plainName, overriddenIn]; done) | decide +kernel) | decide +kernel
theorem dsuc_0 : decode jdk_52_method_83_code 0 = .ok (.iload_n 1, 1) := by decide +kernel
theorem dsuc_1 : decode jdk_52_method_83_code 1 = .ok (.aload_n 0, 1) := by decide +kernel
theorem dsuc_2 : decode jdk_52_method_83_code 2 = .ok (.invokestatic 67, 3) := by decide +kernel
theorem dsuc_5 : decode jdk_52_method_83_code 5 = .ok (.aload_n 0, 1) := by decide +kernel
theorem dsuc_6 : decode jdk_52_method_83_code 6 = .ok (.iload_n 1, 1) := by decide +kernel
theorem dsuc_7 : decode jdk_52_method_83_code 7 = .ok (.invokestatic 71, 3) := by decide +kernel
theorem dsuc_10 : decode jdk_52_method_83_code 10 = .ok (.ireturn, 1) := by decide +kernel
theorem plsuc : plainFor (⟨"java/lang/StringUTF16", "charAt", "([BI)C"⟩ : MethodName) = true := by first | exact plainFor_of_name (by first | (simp [plainName, overriddenIn]; done) | decide +kernel) | decide +kernel
theorem dslc_0 : decode jdk_43_method_2_code 0 = .ok (.iload_n 1, 1) := by decide +kernel
theorem dslc_1 : decode jdk_43_method_2_code 1 = .ok (.aload_n 0, 1) := by decide +kernel
theorem dslc_2 : decode jdk_43_method_2_code 2 = .ok (.arraylength, 1) := by decide +kernel
theorem dslc_3 : decode jdk_43_method_2_code 3 = .ok (.invokestatic 9, 3) := by decide +kernel
theorem dslc_6 : decode jdk_43_method_2_code 6 = .ok (.aload_n 0, 1) := by decide +kernel
theorem dslc_7 : decode jdk_43_method_2_code 7 = .ok (.iload_n 1, 1) := by decide +kernel
theorem dslc_8 : decode jdk_43_method_2_code 8 = .ok (.baload, 1) := by decide +kernel
theorem dslc_9 : decode jdk_43_method_2_code 9 = .ok (.sipush 255, 3) := by decide +kernel
theorem dslc_12 : decode jdk_43_method_2_code 12 = .ok (.iand, 1) := by decide +kernel
theorem dslc_13 : decode jdk_43_method_2_code 13 = .ok (.i2c, 1) := by decide +kernel
theorem dslc_14 : decode jdk_43_method_2_code 14 = .ok (.ireturn, 1) := by decide +kernel
theorem plslc : plainFor (⟨"java/lang/StringLatin1", "charAt", "([BI)C"⟩ : MethodName) = true := by first | exact plainFor_of_name (by first | (simp [plainName, overriddenIn]; done) | decide +kernel) | decide +kernel
theorem dscoder_0 : decode jdk_42_method_152_code 0 = .ok (.getstatic 38, 3) := by decide +kernel
theorem dscoder_3 : decode jdk_42_method_152_code 3 = .ok (.ifCond .eq 10, 3) := by decide +kernel
theorem dscoder_6 : decode jdk_42_method_152_code 6 = .ok (.aload_n 0, 1) := by decide +kernel
theorem dscoder_7 : decode jdk_42_method_152_code 7 = .ok (.getfield 15, 3) := by decide +kernel
theorem dscoder_10 : decode jdk_42_method_152_code 10 = .ok (.goto 4, 3) := by decide +kernel
theorem dscoder_13 : decode jdk_42_method_152_code 13 = .ok (.iconst 1, 1) := by decide +kernel
theorem dscoder_14 : decode jdk_42_method_152_code 14 = .ok (.ireturn, 1) := by decide +kernel
theorem plscoder : plainFor (⟨"java/lang/String", "coder", "()B"⟩ : MethodName) = true := by first | exact plainFor_of_name (by first | (simp [plainName, overriddenIn]; done) | decide +kernel) | decide +kernel
theorem dsisl_0 : decode jdk_42_method_154_code 0 = .ok (.getstatic 38, 3) := by decide +kernel
theorem dsisl_3 : decode jdk_42_method_154_code 3 = .ok (.ifCond .eq 14, 3) := by decide +kernel
theorem dsisl_6 : decode jdk_42_method_154_code 6 = .ok (.aload_n 0, 1) := by decide +kernel
theorem dsisl_7 : decode jdk_42_method_154_code 7 = .ok (.getfield 15, 3) := by decide +kernel
theorem dsisl_10 : decode jdk_42_method_154_code 10 = .ok (.ifCond .ne 7, 3) := by decide +kernel
theorem dsisl_13 : decode jdk_42_method_154_code 13 = .ok (.iconst 1, 1) := by decide +kernel
theorem dsisl_14 : decode jdk_42_method_154_code 14 = .ok (.goto 4, 3) := by decide +kernel
theorem dsisl_17 : decode jdk_42_method_154_code 17 = .ok (.iconst 0, 1) := by decide +kernel
theorem dsisl_18 : decode jdk_42_method_154_code 18 = .ok (.ireturn, 1) := by decide +kernel
theorem plsisl : plainFor (⟨"java/lang/String", "isLatin1", "()Z"⟩ : MethodName) = true := by first | exact plainFor_of_name (by first | (simp [plainName, overriddenIn]; done) | decide +kernel) | decide +kernel
theorem dslen_0 : decode jdk_42_method_54_code 0 = .ok (.aload_n 0, 1) := by decide +kernel
theorem dslen_1 : decode jdk_42_method_54_code 1 = .ok (.getfield 9, 3) := by decide +kernel
theorem dslen_4 : decode jdk_42_method_54_code 4 = .ok (.arraylength, 1) := by decide +kernel
theorem dslen_5 : decode jdk_42_method_54_code 5 = .ok (.aload_n 0, 1) := by decide +kernel
theorem dslen_6 : decode jdk_42_method_54_code 6 = .ok (.invokevirtual 335, 3) := by decide +kernel
theorem dslen_9 : decode jdk_42_method_54_code 9 = .ok (.ishr, 1) := by decide +kernel
theorem dslen_10 : decode jdk_42_method_54_code 10 = .ok (.ireturn, 1) := by decide +kernel
theorem plslen : plainFor (⟨"java/lang/String", "length", "()I"⟩ : MethodName) = true := by first | exact plainFor_of_name (by first | (simp [plainName, overriddenIn]; done) | decide +kernel) | decide +kernel
theorem dscat_0 : decode jdk_42_method_56_code 0 = .ok (.aload_n 0, 1) := by decide +kernel
theorem dscat_1 : decode jdk_42_method_56_code 1 = .ok (.invokevirtual 492, 3) := by decide +kernel
theorem dscat_4 : decode jdk_42_method_56_code 4 = .ok (.ifCond .eq 12, 3) := by decide +kernel
theorem dscat_7 : decode jdk_42_method_56_code 7 = .ok (.aload_n 0, 1) := by decide +kernel
theorem dscat_8 : decode jdk_42_method_56_code 8 = .ok (.getfield 9, 3) := by decide +kernel
theorem dscat_11 : decode jdk_42_method_56_code 11 = .ok (.iload_n 1, 1) := by decide +kernel
theorem dscat_12 : decode jdk_42_method_56_code 12 = .ok (.invokestatic 495, 3) := by decide +kernel
theorem dscat_15 : decode jdk_42_method_56_code 15 = .ok (.ireturn, 1) := by decide +kernel
theorem dscat_16 : decode jdk_42_method_56_code 16 = .ok (.aload_n 0, 1) := by decide +kernel
theorem dscat_17 : decode jdk_42_method_56_code 17 = .ok (.getfield 9, 3) := by decide +kernel
theorem dscat_20 : decode jdk_42_method_56_code 20 = .ok (.iload_n 1, 1) := by decide +kernel
theorem dscat_21 : decode jdk_42_method_56_code 21 = .ok (.invokestatic 498, 3) := by decide +kernel
theorem dscat_24 : decode jdk_42_method_56_code 24 = .ok (.ireturn, 1) := by decide +kernel
theorem plscat : plainFor (⟨"java/lang/String", "charAt", "(I)C"⟩ : MethodName) = true := by first | exact plainFor_of_name (by first | (simp [plainName, overriddenIn]; done) | decide +kernel) | decide +kernel
theorem dsputc_0 : decode jdk_52_method_4_code 0 = .ok (.getstatic 44, 3) := by decide +kernel
theorem dsputc_3 : decode jdk_52_method_4_code 3 = .ok (.ifCond .ne 25, 3) := by decide +kernel
theorem dsputc_6 : decode jdk_52_method_4_code 6 = .ok (.iload_n 1, 1) := by decide +kernel
theorem dsputc_7 : decode jdk_52_method_4_code 7 = .ok (.ifCond .lt 11, 3) := by decide +kernel
theorem dsputc_10 : decode jdk_52_method_4_code 10 = .ok (.iload_n 1, 1) := by decide +kernel
theorem dsputc_11 : decode jdk_52_method_4_code 11 = .ok (.aload_n 0, 1) := by decide +kernel
theorem dsputc_12 : decode jdk_52_method_4_code 12 = .ok (.invokestatic 48, 3) := by decide +kernel
theorem dsputc_15 : decode jdk_52_method_4_code 15 = .ok (.if_icmp .lt 13, 3) := by decide +kernel
theorem dsputc_18 : decode jdk_52_method_4_code 18 = .ok (.new 52, 3) := by decide +kernel
theorem dsputc_21 : decode jdk_52_method_4_code 21 = .ok (.dup, 1) := by decide +kernel
theorem dsputc_22 : decode jdk_52_method_4_code 22 = .ok (.ldc 54, 2) := by decide +kernel
theorem dsputc_24 : decode jdk_52_method_4_code 24 = .ok (.invokespecial 56, 3) := by decide +kernel
theorem dsputc_27 : decode jdk_52_method_4_code 27 = .ok (.athrow, 1) := by decide +kernel
theorem dsputc_28 : decode jdk_52_method_4_code 28 = .ok (.iload_n 1, 1) := by decide +kernel
theorem dsputc_29 : decode jdk_52_method_4_code 29 = .ok (.iconst 1, 1) := by decide +kernel
theorem dsputc_30 : decode jdk_52_method_4_code 30 = .ok (.ishl, 1) := by decide +kernel
theorem dsputc_31 : decode jdk_52_method_4_code 31 = .ok (.istore_n 1, 1) := by decide +kernel
theorem dsputc_32 : decode jdk_52_method_4_code 32 = .ok (.aload_n 0, 1) := by decide +kernel
theorem dsputc_33 : decode jdk_52_method_4_code 33 = .ok (.iload_n 1, 1) := by decide +kernel
theorem dsputc_34 : decode jdk_52_method_4_code 34 = .ok (.iinc 1 1, 3) := by decide +kernel
theorem dsputc_37 : decode jdk_52_method_4_code 37 = .ok (.iload_n 2, 1) := by decide +kernel
theorem dsputc_38 : decode jdk_52_method_4_code 38 = .ok (.getstatic 59, 3) := by decide +kernel
theorem dsputc_41 : decode jdk_52_method_4_code 41 = .ok (.ishr, 1) := by decide +kernel
theorem dsputc_42 : decode jdk_52_method_4_code 42 = .ok (.i2b, 1) := by decide +kernel
theorem dsputc_43 : decode jdk_52_method_4_code 43 = .ok (.bastore, 1) := by decide +kernel
theorem dsputc_44 : decode jdk_52_method_4_code 44 = .ok (.aload_n 0, 1) := by decide +kernel
theorem dsputc_45 : decode jdk_52_method_4_code 45 = .ok (.iload_n 1, 1) := by decide +kernel
theorem dsputc_46 : decode jdk_52_method_4_code 46 = .ok (.iload_n 2, 1) := by decide +kernel
theorem dsputc_47 : decode jdk_52_method_4_code 47 = .ok (.getstatic 63, 3) := by decide +kernel
theorem dsputc_50 : decode jdk_52_method_4_code 50 = .ok (.ishr, 1) := by decide +kernel
theorem dsputc_51 : decode jdk_52_method_4_code 51 = .ok (.i2b, 1) := by decide +kernel
theorem dsputc_52 : decode jdk_52_method_4_code 52 = .ok (.bastore, 1) := by decide +kernel
theorem dsputc_53 : decode jdk_52_method_4_code 53 = .ok (.return_, 1) := by decide +kernel
theorem plsputc : plainFor (⟨"java/lang/StringUTF16", "putChar", "([BII)V"⟩ : MethodName) = true := by first | exact plainFor_of_name (by first | (simp [plainName, overriddenIn]; done) | decide +kernel) | decide +kernel
theorem dsnbl_0 : decode jdk_52_method_3_code 0 = .ok (.iload_n 0, 1) := by decide +kernel
theorem dsnbl_1 : decode jdk_52_method_3_code 1 = .ok (.ifCond .ge 11, 3) := by decide +kernel
theorem dsnbl_4 : decode jdk_52_method_3_code 4 = .ok (.new 17, 3) := by decide +kernel
theorem dsnbl_7 : decode jdk_52_method_3_code 7 = .ok (.dup, 1) := by decide +kernel
theorem dsnbl_8 : decode jdk_52_method_3_code 8 = .ok (.invokespecial 19, 3) := by decide +kernel
theorem dsnbl_11 : decode jdk_52_method_3_code 11 = .ok (.athrow, 1) := by decide +kernel
theorem dsnbl_12 : decode jdk_52_method_3_code 12 = .ok (.iload_n 0, 1) := by decide +kernel
theorem dsnbl_13 : decode jdk_52_method_3_code 13 = .ok (.ldc 20, 2) := by decide +kernel
theorem dsnbl_15 : decode jdk_52_method_3_code 15 = .ok (.if_icmp .lt 40, 3) := by decide +kernel
theorem dsnbl_18 : decode jdk_52_method_3_code 18 = .ok (.new 21, 3) := by decide +kernel
theorem dsnbl_21 : decode jdk_52_method_3_code 21 = .ok (.dup, 1) := by decide +kernel
theorem dsnbl_22 : decode jdk_52_method_3_code 22 = .ok (.new 23, 3) := by decide +kernel
theorem dsnbl_25 : decode jdk_52_method_3_code 25 = .ok (.dup, 1) := by decide +kernel
theorem dsnbl_26 : decode jdk_52_method_3_code 26 = .ok (.invokespecial 25, 3) := by decide +kernel
theorem dsnbl_29 : decode jdk_52_method_3_code 29 = .ok (.ldc 26, 2) := by decide +kernel
theorem dsnbl_31 : decode jdk_52_method_3_code 31 = .ok (.invokevirtual 28, 3) := by decide +kernel
theorem dsnbl_34 : decode jdk_52_method_3_code 34 = .ok (.iload_n 0, 1) := by decide +kernel
theorem dsnbl_35 : decode jdk_52_method_3_code 35 = .ok (.invokevirtual 32, 3) := by decide +kernel
theorem dsnbl_38 : decode jdk_52_method_3_code 38 = .ok (.ldc 35, 2) := by decide +kernel
theorem dsnbl_40 : decode jdk_52_method_3_code 40 = .ok (.invokevirtual 28, 3) := by decide +kernel
theorem dsnbl_43 : decode jdk_52_method_3_code 43 = .ok (.ldc 20, 2) := by decide +kernel
theorem dsnbl_45 : decode jdk_52_method_3_code 45 = .ok (.invokevirtual 32, 3) := by decide +kernel
theorem dsnbl_48 : decode jdk_52_method_3_code 48 = .ok (.invokevirtual 37, 3) := by decide +kernel
theorem dsnbl_51 : decode jdk_52_method_3_code 51 = .ok (.invokespecial 41, 3) := by decide +kernel
theorem dsnbl_54 : decode jdk_52_method_3_code 54 = .ok (.athrow, 1) := by decide +kernel
theorem dsnbl_55 : decode jdk_52_method_3_code 55 = .ok (.iload_n 0, 1) := by decide +kernel
theorem dsnbl_56 : decode jdk_52_method_3_code 56 = .ok (.iconst 1, 1) := by decide +kernel
theorem dsnbl_57 : decode jdk_52_method_3_code 57 = .ok (.ishl, 1) := by decide +kernel
theorem dsnbl_58 : decode jdk_52_method_3_code 58 = .ok (.ireturn, 1) := by decide +kernel
theorem plsnbl : plainFor (⟨"java/lang/StringUTF16", "newBytesLength", "(I)I"⟩ : MethodName) = true := by first | exact plainFor_of_name (by first | (simp [plainName, overriddenIn]; done) | decide +kernel) | decide +kernel
theorem dsnbf_0 : decode jdk_52_method_2_code 0 = .ok (.iload_n 0, 1) := by decide +kernel
theorem dsnbf_1 : decode jdk_52_method_2_code 1 = .ok (.invokestatic 11, 3) := by decide +kernel
theorem dsnbf_4 : decode jdk_52_method_2_code 4 = .ok (.newarray .byte, 2) := by decide +kernel
theorem dsnbf_6 : decode jdk_52_method_2_code 6 = .ok (.areturn, 1) := by decide +kernel
theorem plsnbf : plainFor (⟨"java/lang/StringUTF16", "newBytesFor", "(I)[B"⟩ : MethodName) = true := by first | exact plainFor_of_name (by first | (simp [plainName, overriddenIn]; done) | decide +kernel) | decide +kernel
theorem dstob_0 : decode jdk_52_method_14_code 0 = .ok (.iload_n 2, 1) := by decide +kernel
theorem dstob_1 : decode jdk_52_method_14_code 1 = .ok (.invokestatic 107, 3) := by decide +kernel
theorem dstob_4 : decode jdk_52_method_14_code 4 = .ok (.astore_n 3, 1) := by decide +kernel
theorem dstob_5 : decode jdk_52_method_14_code 5 = .ok (.iconst 0, 1) := by decide +kernel
theorem dstob_6 : decode jdk_52_method_14_code 6 = .ok (.istore 4, 2) := by decide +kernel
theorem dstob_8 : decode jdk_52_method_14_code 8 = .ok (.iload 4, 2) := by decide +kernel
theorem dstob_10 : decode jdk_52_method_14_code 10 = .ok (.iload_n 2, 1) := by decide +kernel
theorem dstob_11 : decode jdk_52_method_14_code 11 = .ok (.if_icmp .ge 21, 3) := by decide +kernel
theorem dstob_14 : decode jdk_52_method_14_code 14 = .ok (.aload_n 3, 1) := by decide +kernel
theorem dstob_15 : decode jdk_52_method_14_code 15 = .ok (.iload 4, 2) := by decide +kernel
theorem dstob_17 : decode jdk_52_method_14_code 17 = .ok (.aload_n 0, 1) := by decide +kernel
theorem dstob_18 : decode jdk_52_method_14_code 18 = .ok (.iload_n 1, 1) := by decide +kernel
theorem dstob_19 : decode jdk_52_method_14_code 19 = .ok (.caload, 1) := by decide +kernel
theorem dstob_20 : decode jdk_52_method_14_code 20 = .ok (.invokestatic 111, 3) := by decide +kernel
theorem dstob_23 : decode jdk_52_method_14_code 23 = .ok (.iinc 1 1, 3) := by decide +kernel
theorem dstob_26 : decode jdk_52_method_14_code 26 = .ok (.iinc 4 1, 3) := by decide +kernel
theorem dstob_29 : decode jdk_52_method_14_code 29 = .ok (.goto (-21), 3) := by decide +kernel
theorem dstob_32 : decode jdk_52_method_14_code 32 = .ok (.aload_n 3, 1) := by decide +kernel
theorem dstob_33 : decode jdk_52_method_14_code 33 = .ok (.areturn, 1) := by decide +kernel
theorem plstob : plainFor (⟨"java/lang/StringUTF16", "toBytes", "([CII)[B"⟩ : MethodName) = true := by first | exact plainFor_of_name (by first | (simp [plainName, overriddenIn]; done) | decide +kernel) | decide +kernel
theorem pdscmp5 : parseMethodDescriptor "([CI[BII)I" = some ⟨[(.array .char), .int, (.array .byte), .int, .int], some .int⟩ := by decide +kernel
theorem pdscmp3 : parseMethodDescriptor "([CII)[B" = some ⟨[(.array .char), .int, .int], some (.array .byte)⟩ := by decide +kernel
theorem pdscodl : parseMethodDescriptor "([BI)B" = some ⟨[(.array .byte), .int], some .byte⟩ := by decide +kernel
theorem pdsnew4 : parseMethodDescriptor "([CIILjava/lang/Void;)V" = some ⟨[(.array .char), .int, .int, (.object "java/lang/Void")], none⟩ := by decide +kernel
theorem pdsnew1 : parseMethodDescriptor "([C)V" = some ⟨[(.array .char)], none⟩ := by decide +kernel
theorem pdspre : parseMethodDescriptor "(IILjava/util/function/BiFunction;)I" = some ⟨[.int, .int, (.object "java/util/function/BiFunction")], some .int⟩ := by decide +kernel
theorem pdscki : parseMethodDescriptor "(II)V" = some ⟨[.int, .int], none⟩ := by decide +kernel
theorem pdsulen : parseMethodDescriptor "([B)I" = some ⟨[(.array .byte)], some .int⟩ := by decide +kernel
theorem pdsucki : parseMethodDescriptor "(I[B)V" = some ⟨[.int, (.array .byte)], none⟩ := by decide +kernel
theorem pdsgetc : parseMethodDescriptor "([BI)C" = some ⟨[(.array .byte), .int], some .char⟩ := by decide +kernel
theorem pdsuc : parseMethodDescriptor "([BI)C" = some ⟨[(.array .byte), .int], some .char⟩ := by decide +kernel
theorem pdslc : parseMethodDescriptor "([BI)C" = some ⟨[(.array .byte), .int], some .char⟩ := by decide +kernel
theorem pdscoder : parseMethodDescriptor "()B" = some ⟨[], some .byte⟩ := by decide +kernel
theorem pdsisl : parseMethodDescriptor "()Z" = some ⟨[], some .boolean⟩ := by decide +kernel
theorem pdslen : parseMethodDescriptor "()I" = some ⟨[], some .int⟩ := by decide +kernel
theorem pdscat : parseMethodDescriptor "(I)C" = some ⟨[.int], some .char⟩ := by decide +kernel
theorem pdsputc : parseMethodDescriptor "([BII)V" = some ⟨[(.array .byte), .int, .int], none⟩ := by decide +kernel
theorem pdsnbl : parseMethodDescriptor "(I)I" = some ⟨[.int], some .int⟩ := by decide +kernel
theorem pdsnbf : parseMethodDescriptor "(I)[B" = some ⟨[.int], some (.array .byte)⟩ := by decide +kernel
theorem pdstob : parseMethodDescriptor "([CII)[B" = some ⟨[(.array .char), .int, .int], some (.array .byte)⟩ := by decide +kernel
theorem d1_0 : decode method_2_code 0 = .ok (.iload_n 0, 1) := by decide +kernel
theorem d1_1 : decode method_2_code 1 = .ok (.bipush 97, 2) := by decide +kernel
theorem d1_3 : decode method_2_code 3 = .ok (.if_icmp .lt 11, 3) := by decide +kernel
theorem d1_6 : decode method_2_code 6 = .ok (.iload_n 0, 1) := by decide +kernel
theorem d1_7 : decode method_2_code 7 = .ok (.bipush 122, 2) := by decide +kernel
theorem d1_9 : decode method_2_code 9 = .ok (.if_icmp .gt 5, 3) := by decide +kernel
theorem d1_12 : decode method_2_code 12 = .ok (.iconst 1, 1) := by decide +kernel
theorem d1_13 : decode method_2_code 13 = .ok (.ireturn, 1) := by decide +kernel
theorem d1_14 : decode method_2_code 14 = .ok (.iload_n 0, 1) := by decide +kernel
theorem d1_15 : decode method_2_code 15 = .ok (.bipush 65, 2) := by decide +kernel
theorem d1_17 : decode method_2_code 17 = .ok (.if_icmp .lt 11, 3) := by decide +kernel
theorem d1_20 : decode method_2_code 20 = .ok (.iload_n 0, 1) := by decide +kernel
theorem d1_21 : decode method_2_code 21 = .ok (.bipush 90, 2) := by decide +kernel
theorem d1_23 : decode method_2_code 23 = .ok (.if_icmp .gt 5, 3) := by decide +kernel
theorem d1_26 : decode method_2_code 26 = .ok (.iconst 1, 1) := by decide +kernel
theorem d1_27 : decode method_2_code 27 = .ok (.ireturn, 1) := by decide +kernel
theorem d1_28 : decode method_2_code 28 = .ok (.iload_n 0, 1) := by decide +kernel
theorem d1_29 : decode method_2_code 29 = .ok (.bipush 48, 2) := by decide +kernel
theorem d1_31 : decode method_2_code 31 = .ok (.if_icmp .lt 11, 3) := by decide +kernel
theorem d1_34 : decode method_2_code 34 = .ok (.iload_n 0, 1) := by decide +kernel
theorem d1_35 : decode method_2_code 35 = .ok (.bipush 57, 2) := by decide +kernel
theorem d1_37 : decode method_2_code 37 = .ok (.if_icmp .gt 5, 3) := by decide +kernel
theorem d1_40 : decode method_2_code 40 = .ok (.iconst 1, 1) := by decide +kernel
theorem d1_41 : decode method_2_code 41 = .ok (.ireturn, 1) := by decide +kernel
theorem d1_42 : decode method_2_code 42 = .ok (.iload_n 0, 1) := by decide +kernel
theorem d1_43 : decode method_2_code 43 = .ok (.bipush 45, 2) := by decide +kernel
theorem d1_45 : decode method_2_code 45 = .ok (.if_icmp .eq 9, 3) := by decide +kernel
theorem d1_48 : decode method_2_code 48 = .ok (.iload_n 0, 1) := by decide +kernel
theorem d1_49 : decode method_2_code 49 = .ok (.bipush 95, 2) := by decide +kernel
theorem d1_51 : decode method_2_code 51 = .ok (.if_icmp .ne 7, 3) := by decide +kernel
theorem d1_54 : decode method_2_code 54 = .ok (.iconst 1, 1) := by decide +kernel
theorem d1_55 : decode method_2_code 55 = .ok (.goto 4, 3) := by decide +kernel
theorem d1_58 : decode method_2_code 58 = .ok (.iconst 0, 1) := by decide +kernel
theorem d1_59 : decode method_2_code 59 = .ok (.ireturn, 1) := by decide +kernel
theorem pl1 : plainFor (⟨"com/example/vetted_hub/vettedhub/MTypeIsMTypePinLaw", "atomChar", "(C)Z"⟩ : MethodName) = true := by first | exact plainFor_of_name (by first | (simp [plainName, overriddenIn]; done) | decide +kernel) | decide +kernel
theorem d2_0 : decode method_3_code 0 = .ok (.iload_n 0, 1) := by decide +kernel
theorem d2_1 : decode method_3_code 1 = .ok (.bipush 46, 2) := by decide +kernel
theorem d2_3 : decode method_3_code 3 = .ok (.if_icmp .eq 10, 3) := by decide +kernel
theorem d2_6 : decode method_3_code 6 = .ok (.iload_n 0, 1) := by decide +kernel
theorem d2_7 : decode method_3_code 7 = .ok (.invokestatic 7, 3) := by decide +kernel
theorem d2_10 : decode method_3_code 10 = .ok (.ifCond .eq 7, 3) := by decide +kernel
theorem d2_13 : decode method_3_code 13 = .ok (.iconst 1, 1) := by decide +kernel
theorem d2_14 : decode method_3_code 14 = .ok (.goto 4, 3) := by decide +kernel
theorem d2_17 : decode method_3_code 17 = .ok (.iconst 0, 1) := by decide +kernel
theorem d2_18 : decode method_3_code 18 = .ok (.ireturn, 1) := by decide +kernel
theorem pl2 : plainFor (⟨"com/example/vetted_hub/vettedhub/MTypeIsMTypePinLaw", "legal", "(C)Z"⟩ : MethodName) = true := by first | exact plainFor_of_name (by first | (simp [plainName, overriddenIn]; done) | decide +kernel) | decide +kernel
theorem d3_0 : decode prog_18_method_2_code 0 = .ok (.iconst 1, 1) := by decide +kernel
theorem d3_1 : decode prog_18_method_2_code 1 = .ok (.istore_n 1, 1) := by decide +kernel
theorem d3_2 : decode prog_18_method_2_code 2 = .ok (.iconst 0, 1) := by decide +kernel
theorem d3_3 : decode prog_18_method_2_code 3 = .ok (.istore_n 2, 1) := by decide +kernel
theorem d3_4 : decode prog_18_method_2_code 4 = .ok (.iload_n 2, 1) := by decide +kernel
theorem d3_5 : decode prog_18_method_2_code 5 = .ok (.aload_n 0, 1) := by decide +kernel
theorem d3_6 : decode prog_18_method_2_code 6 = .ok (.invokevirtual 7, 3) := by decide +kernel
theorem d3_9 : decode prog_18_method_2_code 9 = .ok (.if_icmp .ge 85, 3) := by decide +kernel
theorem d3_12 : decode prog_18_method_2_code 12 = .ok (.aload_n 0, 1) := by decide +kernel
theorem d3_13 : decode prog_18_method_2_code 13 = .ok (.iload_n 2, 1) := by decide +kernel
theorem d3_14 : decode prog_18_method_2_code 14 = .ok (.invokevirtual 13, 3) := by decide +kernel
theorem d3_17 : decode prog_18_method_2_code 17 = .ok (.istore_n 3, 1) := by decide +kernel
theorem d3_18 : decode prog_18_method_2_code 18 = .ok (.iload_n 3, 1) := by decide +kernel
theorem d3_19 : decode prog_18_method_2_code 19 = .ok (.bipush 46, 2) := by decide +kernel
theorem d3_21 : decode prog_18_method_2_code 21 = .ok (.if_icmp .ne 12, 3) := by decide +kernel
theorem d3_24 : decode prog_18_method_2_code 24 = .ok (.iload_n 1, 1) := by decide +kernel
theorem d3_25 : decode prog_18_method_2_code 25 = .ok (.ifCond .ne 8, 3) := by decide +kernel
theorem d3_28 : decode prog_18_method_2_code 28 = .ok (.iconst 1, 1) := by decide +kernel
theorem d3_29 : decode prog_18_method_2_code 29 = .ok (.istore_n 1, 1) := by decide +kernel
theorem d3_30 : decode prog_18_method_2_code 30 = .ok (.goto 58, 3) := by decide +kernel
theorem d3_33 : decode prog_18_method_2_code 33 = .ok (.iload_n 3, 1) := by decide +kernel
theorem d3_34 : decode prog_18_method_2_code 34 = .ok (.bipush 97, 2) := by decide +kernel
theorem d3_36 : decode prog_18_method_2_code 36 = .ok (.if_icmp .lt 9, 3) := by decide +kernel
theorem d3_39 : decode prog_18_method_2_code 39 = .ok (.iload_n 3, 1) := by decide +kernel
theorem d3_40 : decode prog_18_method_2_code 40 = .ok (.bipush 122, 2) := by decide +kernel
theorem d3_42 : decode prog_18_method_2_code 42 = .ok (.if_icmp .le 39, 3) := by decide +kernel
theorem d3_45 : decode prog_18_method_2_code 45 = .ok (.iload_n 3, 1) := by decide +kernel
theorem d3_46 : decode prog_18_method_2_code 46 = .ok (.bipush 65, 2) := by decide +kernel
theorem d3_48 : decode prog_18_method_2_code 48 = .ok (.if_icmp .lt 9, 3) := by decide +kernel
theorem d3_51 : decode prog_18_method_2_code 51 = .ok (.iload_n 3, 1) := by decide +kernel
theorem d3_52 : decode prog_18_method_2_code 52 = .ok (.bipush 90, 2) := by decide +kernel
theorem d3_54 : decode prog_18_method_2_code 54 = .ok (.if_icmp .le 27, 3) := by decide +kernel
theorem d3_57 : decode prog_18_method_2_code 57 = .ok (.iload_n 3, 1) := by decide +kernel
theorem d3_58 : decode prog_18_method_2_code 58 = .ok (.bipush 48, 2) := by decide +kernel
theorem d3_60 : decode prog_18_method_2_code 60 = .ok (.if_icmp .lt 9, 3) := by decide +kernel
theorem d3_63 : decode prog_18_method_2_code 63 = .ok (.iload_n 3, 1) := by decide +kernel
theorem d3_64 : decode prog_18_method_2_code 64 = .ok (.bipush 57, 2) := by decide +kernel
theorem d3_66 : decode prog_18_method_2_code 66 = .ok (.if_icmp .le 15, 3) := by decide +kernel
theorem d3_69 : decode prog_18_method_2_code 69 = .ok (.iload_n 3, 1) := by decide +kernel
theorem d3_70 : decode prog_18_method_2_code 70 = .ok (.bipush 45, 2) := by decide +kernel
theorem d3_72 : decode prog_18_method_2_code 72 = .ok (.if_icmp .eq 9, 3) := by decide +kernel
theorem d3_75 : decode prog_18_method_2_code 75 = .ok (.iload_n 3, 1) := by decide +kernel
theorem d3_76 : decode prog_18_method_2_code 76 = .ok (.bipush 95, 2) := by decide +kernel
theorem d3_78 : decode prog_18_method_2_code 78 = .ok (.if_icmp .ne 8, 3) := by decide +kernel
theorem d3_81 : decode prog_18_method_2_code 81 = .ok (.iconst 0, 1) := by decide +kernel
theorem d3_82 : decode prog_18_method_2_code 82 = .ok (.istore_n 1, 1) := by decide +kernel
theorem d3_83 : decode prog_18_method_2_code 83 = .ok (.goto 5, 3) := by decide +kernel
theorem d3_86 : decode prog_18_method_2_code 86 = .ok (.iconst 0, 1) := by decide +kernel
theorem d3_87 : decode prog_18_method_2_code 87 = .ok (.ireturn, 1) := by decide +kernel
theorem d3_88 : decode prog_18_method_2_code 88 = .ok (.iinc 2 1, 3) := by decide +kernel
theorem d3_91 : decode prog_18_method_2_code 91 = .ok (.goto (-87), 3) := by decide +kernel
theorem d3_94 : decode prog_18_method_2_code 94 = .ok (.iload_n 1, 1) := by decide +kernel
theorem d3_95 : decode prog_18_method_2_code 95 = .ok (.ifCond .ne 7, 3) := by decide +kernel
theorem d3_98 : decode prog_18_method_2_code 98 = .ok (.iconst 1, 1) := by decide +kernel
theorem d3_99 : decode prog_18_method_2_code 99 = .ok (.goto 4, 3) := by decide +kernel
theorem d3_102 : decode prog_18_method_2_code 102 = .ok (.iconst 0, 1) := by decide +kernel
theorem d3_103 : decode prog_18_method_2_code 103 = .ok (.ireturn, 1) := by decide +kernel
theorem pl3 : plainFor (⟨"com/example/vetted_hub/vettedhub/MType", "isMType", "(Ljava/lang/String;)Z"⟩ : MethodName) = true := by first | exact plainFor_of_name (by first | (simp [plainName, overriddenIn]; done) | decide +kernel) | decide +kernel
theorem pl0 : plainFor x = true := by first | exact plainFor_of_name (by first | (simp [plainName, overriddenIn]; done) | decide +kernel) | decide +kernel
theorem pd1 : parseMethodDescriptor "(C)Z" = some ⟨[.char], some .boolean⟩ := by decide +kernel
theorem pd2 : parseMethodDescriptor "(C)Z" = some ⟨[.char], some .boolean⟩ := by decide +kernel
theorem pd3 : parseMethodDescriptor "(Ljava/lang/String;)Z" = some ⟨[(.object "java/lang/String")], some .boolean⟩ := by decide +kernel
theorem own_a255 (b : Int32) : (b &&& 255).toUInt32.toNat = b.toUInt32.toNat % 256 := Jvm.ShelfD.StrBits.and255 b
theorem own_b8 (b : Int32) : b.toInt8.toInt32.toUInt32.toNat % 256 = b.toUInt32.toNat % 256 := by
  show ((b.toBitVec.signExtend 8).signExtend 32).toNat % 256 = b.toBitVec.toNat % 256
  have e : (((b.toBitVec.signExtend 8).signExtend 32).setWidth 8) = b.toBitVec.setWidth 8 := by
    rw [BitVec.signExtend_eq_setWidth_of_le b.toBitVec (by decide)]
    ext i hi
    simp [BitVec.getLsbD_signExtend, hi]
    omega
  have := congrArg BitVec.toNat e
  simpa [BitVec.toNat_setWidth] using this
theorem own_ch {c : Int32} (h : c.toUInt32.toUInt16.toUInt32.toInt32 = c) : c.toUInt32.toNat < 65536 := by
  have := congrArg (fun z => z.toUInt32.toNat) h
  simp at this
  omega
theorem own_i2cN (x : Int32) : x.toUInt32.toUInt16.toUInt32.toInt32.toUInt32.toNat = x.toUInt32.toNat % 65536 := by
  simp
theorem own_inj {a b : Int32} (h : a.toUInt32.toNat = b.toUInt32.toNat) : a = b := by
  have := UInt32.toNat_inj.mp h
  exact (Int32.toInt32_toUInt32 a).symm.trans ((congrArg UInt32.toInt32 this).trans (Int32.toInt32_toUInt32 b))
theorem own_pos {c : Int32} (h : c.toUInt32.toNat < 65536) : c.toInt = c.toUInt32.toNat := by
  show c.toBitVec.toInt = c.toBitVec.toNat
  have h' : c.toBitVec.toNat < 65536 := h
  rw [BitVec.toInt_eq_toNat_cond, if_pos (by omega)]
theorem own_lat {c : Int32} (h : c.toUInt32.toUInt16.toUInt32.toInt32 = c) (h1 : ¬ (255 : Int32) < c) : ((c.toInt8.toInt32.toInt8.toInt32 &&& 255).toUInt32.toUInt16.toUInt32.toInt32).toUInt32.toUInt16.toUInt32.toInt32 = c := by
  have hc := own_ch h
  have hp := own_pos hc
  rw [Int32.lt_iff_toInt_lt] at h1
  have h2 : ¬ (255 : Int) < c.toInt := h1
  apply own_inj
  rw [own_i2cN, own_i2cN, own_a255, own_b8, own_b8]
  omega
theorem own_shr (c : Int32) (h : c.toUInt32.toNat < 65536) : (c >>> ((8 : Int32) &&& 31)).toUInt32.toNat = c.toUInt32.toNat / 256 := by
  show (c.toBitVec.sshiftRight' 8#32).toNat = c.toBitVec.toNat / 256
  have h' : c.toBitVec.toNat < 65536 := h
  have hm : c.toBitVec.msb = false := by rw [BitVec.msb_eq_decide]; simp; omega
  rw [BitVec.sshiftRight_eq', BitVec.sshiftRight_eq_of_msb_false hm]
  simp [Nat.shiftRight_eq_div_pow]
theorem own_shr0 (c : Int32) : (c >>> ((0 : Int32) &&& 31)).toUInt32.toNat = c.toUInt32.toNat := by
  show (c.toBitVec.sshiftRight' 0#32).toNat = c.toBitVec.toNat
  simp
theorem own_shl (c : Int32) (h : c.toUInt32.toNat < 256) : (c <<< ((8 : Int32) &&& 31)).toUInt32.toNat = c.toUInt32.toNat * 256 := by
  show (c.toBitVec <<< 8#32).toNat = c.toBitVec.toNat * 256
  have h' : c.toBitVec.toNat < 256 := h
  simp [BitVec.toNat_shiftLeft, Nat.shiftLeft_eq]
  omega
theorem own_shl0 (c : Int32) : (c <<< ((0 : Int32) &&& 31)).toUInt32.toNat = c.toUInt32.toNat := by
  show (c.toBitVec <<< 0#32).toNat = c.toBitVec.toNat
  simp
theorem own_or8 {a b : Nat} (ha : a < 256) : a ||| b * 256 = b * 256 + a := by
  have := Nat.shiftLeft_add_eq_or_of_lt (b := a) (i := 8) ha b
  rw [Nat.shiftLeft_eq] at this
  rw [Nat.or_comm]
  exact this.symm
theorem own_u16 {c : Int32} (h : c.toUInt32.toUInt16.toUInt32.toInt32 = c) :
    ((((c >>> ((0 : Int32) &&& 31)).toInt8.toInt32.toInt8.toInt32 &&& 255) <<< ((0 : Int32) &&& 31) ||| ((c >>> ((8 : Int32) &&& 31)).toInt8.toInt32.toInt8.toInt32 &&& 255) <<< ((8 : Int32) &&& 31)).toUInt32.toUInt16.toUInt32.toInt32).toUInt32.toUInt16.toUInt32.toInt32 = c := by
  have hc := own_ch h
  apply own_inj
  rw [own_i2cN, own_i2cN, Int32.toUInt32_or, UInt32.toNat_or, own_shl0, own_shl _ (by rw [own_a255]; omega), own_a255, own_a255, own_b8, own_b8, own_b8, own_b8, own_shr0, own_shr _ hc, own_or8 (by omega)]
  omega
theorem own_nar2 (x : Int32) : x.toUInt32.toUInt16.toUInt32.toInt32.toUInt32.toUInt16.toUInt32.toInt32 = x.toUInt32.toUInt16.toUInt32.toInt32 := by
  apply own_inj; rw [own_i2cN, own_i2cN]; omega
theorem own_mod5 (x : Int32) : (x &&& (2147483647 : Int32)) % (5 : Int32) = (0 : Int32) ∨ (x &&& (2147483647 : Int32)) % (5 : Int32) = (1 : Int32) ∨ (x &&& (2147483647 : Int32)) % (5 : Int32) = (2 : Int32) ∨ (x &&& (2147483647 : Int32)) % (5 : Int32) = (3 : Int32) ∨ (x &&& (2147483647 : Int32)) % (5 : Int32) = (4 : Int32) := by
  have h2 : (x &&& (2147483647 : Int32)).toBitVec.toNat ≤ 2147483647 := by
    show (x.toBitVec &&& (2147483647 : Int32).toBitVec).toNat ≤ 2147483647
    rw [BitVec.toNat_and]; exact Nat.and_le_right
  have h3 : 0 ≤ (x &&& (2147483647 : Int32)).toInt := by
    show 0 ≤ (x &&& (2147483647 : Int32)).toBitVec.toInt
    rw [BitVec.toInt_eq_toNat_cond]; split <;> omega
  have h4 : ((x &&& (2147483647 : Int32)) % (5 : Int32)).toInt = (x &&& (2147483647 : Int32)).toInt % 5 := by
    rw [Int32.toInt_mod, show (5 : Int32).toInt = 5 from rfl, Int.tmod_eq_emod_of_nonneg h3]
  have h5 : ((x &&& (2147483647 : Int32)) % (5 : Int32)).toInt = (0 : Int32).toInt ∨ ((x &&& (2147483647 : Int32)) % (5 : Int32)).toInt = (1 : Int32).toInt ∨ ((x &&& (2147483647 : Int32)) % (5 : Int32)).toInt = (2 : Int32).toInt ∨ ((x &&& (2147483647 : Int32)) % (5 : Int32)).toInt = (3 : Int32).toInt ∨ ((x &&& (2147483647 : Int32)) % (5 : Int32)).toInt = (4 : Int32).toInt := by
    rw [h4, show (0 : Int32).toInt = 0 from rfl, show (1 : Int32).toInt = 1 from rfl, show (2 : Int32).toInt = 2 from rfl, show (3 : Int32).toInt = 3 from rfl, show (4 : Int32).toInt = 4 from rfl]
    omega
  exact h5.imp Int32.toInt_inj.mp fun h => h.imp Int32.toInt_inj.mp fun h => h.imp Int32.toInt_inj.mp fun h => h.imp Int32.toInt_inj.mp Int32.toInt_inj.mp

def own_Ws (Z : State) (z : Int32) (fm : Value) : Prop := Sta Z Z.heap "java/lang/String" "COMPACT_STRINGS" "Z" (.int z) ∧ (¬ z = 0) ∧ Sta Z Z.heap "java/lang/StringUTF16" "$assertionsDisabled" "Z" (.int (1 : Int32)) ∧ Sta Z Z.heap "java/lang/StringUTF16" "HI_BYTE_SHIFT" "I" (.int (0 : Int32)) ∧ Sta Z Z.heap "java/lang/StringUTF16" "LO_BYTE_SHIFT" "I" (.int (8 : Int32)) ∧ Sta Z Z.heap "jdk/internal/util/Preconditions" "SIOOBE_FORMATTER" "Ljava/util/function/BiFunction;" fm ∧ fm.isRef = true
set_option maxRecDepth 65536 in
set_option maxHeartbeats 4000000 in
theorem c_pre (l : Launch) (Z : State) (a0 : Array Value) (hw : ∀ d ∈ tables_1, d.before a0 Z = true) (i n : Int32) (fm : Value) (hfm : fm.isRef = true) (h0 : Heap) (hi : ¬ i < 0) (hn : i < n) : own_M l (⟨"jdk/internal/util/Preconditions", "checkIndex", "(IILjava/util/function/BiFunction;)I"⟩ : MethodName) jdk_41_method_11_code 3 (some .int) [] ({ frames := 0, cells := 0, slots := 0, locals := 0 } : Room) Z #[.int i, .int n, fm] h0 (Qv (some (.int i)) h0) := by
  refine own_met plspre (Lf := #[.val (.int i), .val (.int n), .val fm]) (fun m => by rcases ref_cases hfm with rfl | ⟨_, rfl⟩ <;> rfl) ?_
  intro p e s m below meth c T Y
  refine own_iloadN 1 Y dspre_0 rfl rfl ?_
  refine own_ifF 4 Y dspre_1 (XT.i0_lt_f hi) rfl ?_
  refine own_iloadN 5 Y dspre_4 rfl rfl ?_
  refine own_iloadN 6 Y dspre_5 rfl rfl ?_
  refine own_icT 16 Y dspre_6 (XT.ii_lt_t hn) (by decide) ?_
  refine own_iloadN 17 Y dspre_16 rfl rfl ?_
  exact own_retI Y rfl dspre_17 (by decide) (by decide) ⟨rfl, rfl, rfl⟩
set_option maxRecDepth 65536 in
set_option maxHeartbeats 4000000 in
theorem c_cki (l : Launch) (Z : State) (a0 : Array Value) (hw : ∀ d ∈ tables_1, d.before a0 Z = true) (i n : Int32) (z : Int32) (fm : Value) (h0 : Heap) (n0 : Nat) (O : Old Z n0 h0) (WS : own_Ws Z z fm) (hi : ¬ i < 0) (hn : i < n) : own_M l (⟨"java/lang/String", "checkIndex", "(II)V"⟩ : MethodName) jdk_42_method_155_code 2 none [] ({ frames := 1, cells := 0, slots := 0, locals := 14 } : Room) Z #[.int i, .int n] h0 (Qv none h0) := by
  refine own_met plscki (Lf := #[.val (.int i), .val (.int n)]) (fun m => by first | (simp [entryFrame, mkF, argsToLocals, Value.category]; done) | rfl) ?_
  intro p e s m below meth c T Y
  have hfm := WS.2.2.2.2.2.2
  refine own_iloadN 1 Y dscki_0 rfl rfl ?_
  refine own_iloadN 2 Y dscki_1 rfl rfl ?_
  refine own_getS 5 Y (host := "") (Or.inl (own_wd hw 66 rfl)) Via.refl (WS.2.2.2.2.2.1.ext O.2) dscki_2 rfl fun T2 Y1 => ?_
  refine own_callS 8 Y1 [(.int i), (.int n), fm] [] (own_wd hw 68 rfl) (own_wd hw 69 rfl) (own_wd hw 67 rfl) (own_wd hw 70 rfl) (c_pre l Z a0 hw i n fm hfm _ hi hn) dscki_5 (by decide) (lenOf pdspre rfl) rfl rfl (by decide) (Nat.le_of_ble_eq_true rfl) (by decide) (by decide) rfl fun v3 T3 h3 L3 Y3 hQ3 => ?_
  obtain ⟨rfl, rfl, rfl⟩ := hQ3
  show own_G p e below _ (T3.setTop (mkF m 8 #[.val (.int i), .val (.int n)] [(.int i)]))
  refine own_pop 9 Y3 dscki_8 rfl rfl ?_
  exact own_retV Y3 rfl dscki_9 (by decide) (by decide) ⟨rfl, rfl, rfl⟩
set_option maxRecDepth 65536 in
set_option maxHeartbeats 4000000 in
theorem c_ulen (l : Launch) (Z : State) (a0 : Array Value) (hw : ∀ d ∈ tables_1, d.before a0 Z = true) (d : Addr) (kd : ClassId) (nn : Int32) (vs : List Value) (h0 : Heap) (V_d : Arv Z h0 d kd .byte nn vs (.int (0 : Int32))) : own_M l (⟨"java/lang/StringUTF16", "length", "([B)I"⟩ : MethodName) jdk_52_method_6_code 1 (some .int) [] ({ frames := 0, cells := 0, slots := 0, locals := 0 } : Room) Z #[.ref d] h0 (Qv (some (.int (nn >>> ((1 : Int32) &&& 31)))) h0) := by
  refine own_met plsulen (Lf := #[.val (.ref d)]) (fun m => by first | (simp [entryFrame, mkF, argsToLocals, Value.category]; done) | rfl) ?_
  intro p e s m below meth c T Y
  refine own_aloadN 1 Y dsulen_0 rfl rfl rfl ?_
  refine own_alen 2 Y V_d dsulen_1 rfl ?_
  refine own_iconst 3 Y (1 : Int32) dsulen_2 rfl rfl ?_
  refine own_ishr 4 Y dsulen_3 rfl ?_
  exact own_retI Y rfl dsulen_4 (by decide) (by decide) ⟨rfl, rfl, rfl⟩
set_option maxRecDepth 65536 in
set_option maxHeartbeats 4000000 in
theorem c_ucki (l : Launch) (Z : State) (a0 : Array Value) (hw : ∀ d ∈ tables_1, d.before a0 Z = true) (i : Int32) (d : Addr) (kd : ClassId) (nn : Int32) (vs : List Value) (z : Int32) (fm : Value) (h0 : Heap) (n0 : Nat) (O : Old Z n0 h0) (WS : own_Ws Z z fm) (V_d : Arv Z h0 d kd .byte nn vs (.int (0 : Int32))) (hi : ¬ i < 0) (hn : i < (nn >>> ((1 : Int32) &&& 31))) : own_M l (⟨"java/lang/StringUTF16", "checkIndex", "(I[B)V"⟩ : MethodName) jdk_52_method_91_code 2 none [] ({ frames := 2, cells := 0, slots := 0, locals := 27 } : Room) Z #[.int i, .ref d] h0 (Qv none h0) := by
  refine own_met plsucki (Lf := #[.val (.int i), .val (.ref d)]) (fun m => by first | (simp [entryFrame, mkF, argsToLocals, Value.category]; done) | rfl) ?_
  intro p e s m below meth c T Y
  refine own_iloadN 1 Y dsucki_0 rfl rfl ?_
  refine own_aloadN 2 Y dsucki_1 rfl rfl rfl ?_
  refine own_callS 5 Y [(.ref d)] [(.int i)] (own_wd hw 103 rfl) (own_wd hw 104 rfl) (own_wd hw 41 rfl) (own_wd hw 105 rfl) (c_ulen l Z a0 hw d kd nn vs _ V_d) dsucki_2 (by decide) (lenOf pdsulen rfl) rfl rfl (by decide) (Nat.le_of_ble_eq_true rfl) (by decide) (by decide) rfl fun v1 T1 h1 L1 Y1 hQ1 => ?_
  obtain ⟨rfl, rfl, rfl⟩ := hQ1
  show own_G p e below _ (T1.setTop (mkF m 5 #[.val (.int i), .val (.ref d)] [(.int (nn >>> ((1 : Int32) &&& 31))), (.int i)]))
  refine own_callS 8 Y1 [(.int i), (.int (nn >>> ((1 : Int32) &&& 31)))] [] (own_wd hw 106 rfl) (own_wd hw 64 rfl) (own_wd hw 4 rfl) (own_wd hw 65 rfl) (c_cki l Z a0 hw i (nn >>> ((1 : Int32) &&& 31)) z fm _ n0 O WS hi hn) dsucki_5 (by decide) (lenOf pdscki rfl) rfl rfl (by decide) (Nat.le_of_ble_eq_true rfl) (by decide) (by decide) rfl fun v2 T2 h2 L2 Y2 hQ2 => ?_
  obtain ⟨rfl, rfl, rfl⟩ := hQ2
  show own_G p e below _ (T2.setTop (mkF m 8 #[.val (.int i), .val (.ref d)] []))
  exact own_retV Y2 rfl dsucki_8 (by decide) (by decide) ⟨rfl, rfl, rfl⟩
set_option maxRecDepth 65536 in
set_option maxHeartbeats 4000000 in
theorem c_getc (l : Launch) (Z : State) (a0 : Array Value) (hw : ∀ d ∈ tables_1, d.before a0 Z = true) (i b0 b1 cc : Int32) (d : Addr) (kd : ClassId) (nn : Int32) (vs : List Value) (z : Int32) (fm : Value) (h0 : Heap) (n0 : Nat) (O : Old Z n0 h0) (WS : own_Ws Z z fm) (V_d : Arv Z h0 d kd .byte nn vs (.int (0 : Int32))) (hj0 : ¬ (i <<< ((1 : Int32) &&& 31)) < 0 ∧ (i <<< ((1 : Int32) &&& 31)) < nn) (hv0 : vs.getD (i <<< ((1 : Int32) &&& 31)).toNatClampNeg (.int (0 : Int32)) = .int b0) (hj1 : ¬ ((i <<< ((1 : Int32) &&& 31)) + (1 : Int32)) < 0 ∧ ((i <<< ((1 : Int32) &&& 31)) + (1 : Int32)) < nn) (hv1 : vs.getD ((i <<< ((1 : Int32) &&& 31)) + (1 : Int32)).toNatClampNeg (.int (0 : Int32)) = .int b1) (hcc : nar .char ((((b0 &&& (255 : Int32)) <<< ((0 : Int32) &&& 31)) ||| ((b1 &&& (255 : Int32)) <<< ((8 : Int32) &&& 31))).toUInt32.toUInt16.toUInt32.toInt32) = cc) : own_M l (⟨"java/lang/StringUTF16", "getChar", "([BI)C"⟩ : MethodName) jdk_52_method_5_code 2 (some .char) [] ({ frames := 0, cells := 0, slots := 0, locals := 0 } : Room) Z #[.ref d, .int i] h0 (Qv (some (.int cc)) h0) := by
  refine own_met plsgetc (Lf := #[.val (.ref d), .val (.int i)]) (fun m => by first | (simp [entryFrame, mkF, argsToLocals, Value.category]; done) | rfl) ?_
  intro p e s m below meth c T Y
  refine own_getS 3 Y (host := "") (Or.inl (own_wd hw 91 rfl)) Via.refl (WS.2.2.1.ext O.2) dsgetc_0 rfl fun T2 Y1 => ?_
  refine own_ifT 28 Y1 dsgetc_3 (XT.i0_ne_t (by decide)) (by decide) ?_
  refine own_iloadN 29 Y1 dsgetc_28 rfl rfl ?_
  refine own_iconst 30 Y1 (1 : Int32) dsgetc_29 rfl rfl ?_
  refine own_ishl 31 Y1 dsgetc_30 rfl ?_
  refine own_istoreN 32 Y1 #[.val (.ref d), .val (.int (i <<< ((1 : Int32) &&& 31)))] dsgetc_31 rfl rfl ?_
  refine own_aloadN 33 Y1 dsgetc_32 rfl rfl rfl ?_
  refine own_iloadN 34 Y1 dsgetc_33 rfl rfl ?_
  refine own_iinc 37 Y1 #[.val (.ref d), .val (.int ((i <<< ((1 : Int32) &&& 31)) + (1 : Int32)))] (1 : Int32) dsgetc_34 rfl rfl rfl rfl ?_
  refine own_baload 38 Y1 V_d dsgetc_37 hj0 hv0 rfl ?_
  refine own_sipush 41 Y1 (255 : Int32) dsgetc_38 rfl rfl ?_
  refine own_iand 42 Y1 dsgetc_41 rfl ?_
  refine own_getS 45 Y1 (host := "") (Or.inl (own_wd hw 92 rfl)) Via.refl (WS.2.2.2.1.ext O.2) dsgetc_42 rfl fun T4 Y3 => ?_
  refine own_ishl 46 Y3 dsgetc_45 rfl ?_
  refine own_aloadN 47 Y3 dsgetc_46 rfl rfl rfl ?_
  refine own_iloadN 48 Y3 dsgetc_47 rfl rfl ?_
  refine own_baload 49 Y3 V_d dsgetc_48 hj1 hv1 rfl ?_
  refine own_sipush 52 Y3 (255 : Int32) dsgetc_49 rfl rfl ?_
  refine own_iand 53 Y3 dsgetc_52 rfl ?_
  refine own_getS 56 Y3 (host := "") (Or.inl (own_wd hw 93 rfl)) Via.refl (WS.2.2.2.2.1.ext O.2) dsgetc_53 rfl fun T6 Y5 => ?_
  refine own_ishl 57 Y5 dsgetc_56 rfl ?_
  refine own_ior 58 Y5 dsgetc_57 rfl ?_
  refine own_i2c 59 Y5 dsgetc_58 rfl ?_
  exact own_retN Y5 (t := .char) rfl (by simp) dsgetc_59 (by decide) (by decide) ⟨rfl, rfl, congrArg (fun z => some (Value.int z)) hcc⟩
set_option maxRecDepth 65536 in
set_option maxHeartbeats 4000000 in
theorem c_uc (l : Launch) (Z : State) (a0 : Array Value) (hw : ∀ d ∈ tables_1, d.before a0 Z = true) (i b0 b1 cc : Int32) (hnc : nar .char cc = cc) (d : Addr) (kd : ClassId) (nn : Int32) (vs : List Value) (z : Int32) (fm : Value) (h0 : Heap) (n0 : Nat) (O : Old Z n0 h0) (WS : own_Ws Z z fm) (V_d : Arv Z h0 d kd .byte nn vs (.int (0 : Int32))) (hj0 : ¬ (i <<< ((1 : Int32) &&& 31)) < 0 ∧ (i <<< ((1 : Int32) &&& 31)) < nn) (hv0 : vs.getD (i <<< ((1 : Int32) &&& 31)).toNatClampNeg (.int (0 : Int32)) = .int b0) (hj1 : ¬ ((i <<< ((1 : Int32) &&& 31)) + (1 : Int32)) < 0 ∧ ((i <<< ((1 : Int32) &&& 31)) + (1 : Int32)) < nn) (hv1 : vs.getD ((i <<< ((1 : Int32) &&& 31)) + (1 : Int32)).toNatClampNeg (.int (0 : Int32)) = .int b1) (hcc : nar .char ((((b0 &&& (255 : Int32)) <<< ((0 : Int32) &&& 31)) ||| ((b1 &&& (255 : Int32)) <<< ((8 : Int32) &&& 31))).toUInt32.toUInt16.toUInt32.toInt32) = cc) (hi : ¬ i < 0) (hn : i < (nn >>> ((1 : Int32) &&& 31))) : own_M l (⟨"java/lang/StringUTF16", "charAt", "([BI)C"⟩ : MethodName) jdk_52_method_83_code 2 (some .char) [] ({ frames := 3, cells := 0, slots := 0, locals := 40 } : Room) Z #[.ref d, .int i] h0 (Qv (some (.int cc)) h0) := by
  refine own_met plsuc (Lf := #[.val (.ref d), .val (.int i)]) (fun m => by first | (simp [entryFrame, mkF, argsToLocals, Value.category]; done) | rfl) ?_
  intro p e s m below meth c T Y
  refine own_iloadN 1 Y dsuc_0 rfl rfl ?_
  refine own_aloadN 2 Y dsuc_1 rfl rfl rfl ?_
  refine own_callS 5 Y [(.int i), (.ref d)] [] (own_wd hw 100 rfl) (own_wd hw 101 rfl) (own_wd hw 41 rfl) (own_wd hw 102 rfl) (c_ucki l Z a0 hw i d kd nn vs z fm _ n0 O WS V_d hi hn) dsuc_2 (by decide) (lenOf pdsucki rfl) rfl rfl (by decide) (Nat.le_of_ble_eq_true rfl) (by decide) (by decide) rfl fun v1 T1 h1 L1 Y1 hQ1 => ?_
  obtain ⟨rfl, rfl, rfl⟩ := hQ1
  show own_G p e below _ (T1.setTop (mkF m 5 #[.val (.ref d), .val (.int i)] []))
  refine own_aloadN 6 Y1 dsuc_5 rfl rfl rfl ?_
  refine own_iloadN 7 Y1 dsuc_6 rfl rfl ?_
  refine own_callS 10 Y1 [(.ref d), (.int i)] [] (own_wd hw 94 rfl) (own_wd hw 95 rfl) (own_wd hw 41 rfl) (own_wd hw 96 rfl) (c_getc l Z a0 hw i b0 b1 cc d kd nn vs z fm _ n0 O WS V_d hj0 hv0 hj1 hv1 hcc) dsuc_7 (by decide) (lenOf pdsgetc rfl) rfl rfl (by decide) (Nat.le_of_ble_eq_true rfl) (by decide) (by decide) rfl fun v2 T2 h2 L2 Y2 hQ2 => ?_
  obtain ⟨rfl, rfl, rfl⟩ := hQ2
  show own_G p e below _ (T2.setTop (mkF m 10 #[.val (.ref d), .val (.int i)] [(.int cc)]))
  exact own_retN Y2 (t := .char) rfl (by simp) dsuc_10 (by decide) (by decide) ⟨rfl, rfl, congrArg (fun z => some (Value.int z)) hnc⟩
set_option maxRecDepth 65536 in
set_option maxHeartbeats 4000000 in
theorem c_lc (l : Launch) (Z : State) (a0 : Array Value) (hw : ∀ d ∈ tables_1, d.before a0 Z = true) (i b0 cc : Int32) (d : Addr) (kd : ClassId) (nn : Int32) (vs : List Value) (z : Int32) (fm : Value) (h0 : Heap) (n0 : Nat) (O : Old Z n0 h0) (WS : own_Ws Z z fm) (V_d : Arv Z h0 d kd .byte nn vs (.int (0 : Int32))) (hj : ¬ i < 0 ∧ i < nn) (hv : vs.getD i.toNatClampNeg (.int (0 : Int32)) = .int b0) (hcc : nar .char ((b0 &&& (255 : Int32)).toUInt32.toUInt16.toUInt32.toInt32) = cc) : own_M l (⟨"java/lang/StringLatin1", "charAt", "([BI)C"⟩ : MethodName) jdk_43_method_2_code 2 (some .char) [] ({ frames := 2, cells := 0, slots := 0, locals := 27 } : Room) Z #[.ref d, .int i] h0 (Qv (some (.int cc)) h0) := by
  refine own_met plslc (Lf := #[.val (.ref d), .val (.int i)]) (fun m => by first | (simp [entryFrame, mkF, argsToLocals, Value.category]; done) | rfl) ?_
  intro p e s m below meth c T Y
  refine own_iloadN 1 Y dslc_0 rfl rfl ?_
  refine own_aloadN 2 Y dslc_1 rfl rfl rfl ?_
  refine own_alen 3 Y V_d dslc_2 rfl ?_
  refine own_callS 6 Y [(.int i), (.int nn)] [] (own_wd hw 63 rfl) (own_wd hw 64 rfl) (own_wd hw 4 rfl) (own_wd hw 65 rfl) (c_cki l Z a0 hw i nn z fm _ n0 O WS hj.1 hj.2) dslc_3 (by decide) (lenOf pdscki rfl) rfl rfl (by decide) (Nat.le_of_ble_eq_true rfl) (by decide) (by decide) rfl fun v1 T1 h1 L1 Y1 hQ1 => ?_
  obtain ⟨rfl, rfl, rfl⟩ := hQ1
  show own_G p e below _ (T1.setTop (mkF m 6 #[.val (.ref d), .val (.int i)] []))
  refine own_aloadN 7 Y1 dslc_6 rfl rfl rfl ?_
  refine own_iloadN 8 Y1 dslc_7 rfl rfl ?_
  refine own_baload 9 Y1 V_d dslc_8 hj hv rfl ?_
  refine own_sipush 12 Y1 (255 : Int32) dslc_9 rfl rfl ?_
  refine own_iand 13 Y1 dslc_12 rfl ?_
  refine own_i2c 14 Y1 dslc_13 rfl ?_
  exact own_retN Y1 (t := .char) rfl (by simp) dslc_14 (by decide) (by decide) ⟨rfl, rfl, congrArg (fun z => some (Value.int z)) hcc⟩
set_option maxRecDepth 65536 in
set_option maxHeartbeats 4000000 in
theorem c_coder (l : Launch) (Z : State) (a0 : Array Value) (hw : ∀ d ∈ tables_1, d.before a0 Z = true) (a : Addr) (k : Int32) (hk : nar .byte k = k) (z : Int32) (fm : Value) (h0 : Heap) (n0 : Nat) (O : Old Z n0 h0) (WS : own_Ws Z z fm) (F : Fld Z h0 a "java/lang/String" "coder" "B" (.int k)) : own_M l (⟨"java/lang/String", "coder", "()B"⟩ : MethodName) jdk_42_method_152_code 1 (some .byte) [] ({ frames := 0, cells := 0, slots := 0, locals := 0 } : Room) Z #[.ref a] h0 (Qv (some (.int k)) h0) := by
  refine own_met plscoder (Lf := #[.val (.ref a)]) (fun m => by first | (simp [entryFrame, mkF, argsToLocals, Value.category]; done) | rfl) ?_
  intro p e s m below meth c T Y
  refine own_getS 3 Y (host := "") (Or.inl (own_wd hw 38 rfl)) Via.refl (WS.1.ext O.2) dscoder_0 rfl fun T2 Y1 => ?_
  refine own_ifF 6 Y1 dscoder_3 (XT.i0_eq_f WS.2.1) rfl ?_
  refine own_aloadN 7 Y1 dscoder_6 rfl rfl rfl ?_
  refine own_getF 10 Y1 (host := "") (Or.inl (own_wd hw 23 rfl)) Via.refl F dscoder_7 rfl fun T4 Y3 => ?_
  refine own_goto 14 Y3 dscoder_10 (by decide) ?_
  exact own_retN Y3 (t := .byte) rfl (by simp) dscoder_14 (by decide) (by decide) ⟨rfl, rfl, congrArg (fun z => some (Value.int z)) hk⟩
set_option maxRecDepth 65536 in
set_option maxHeartbeats 4000000 in
theorem c_isl_0 (l : Launch) (Z : State) (a0 : Array Value) (hw : ∀ d ∈ tables_1, d.before a0 Z = true) (a : Addr) (z : Int32) (fm : Value) (h0 : Heap) (n0 : Nat) (O : Old Z n0 h0) (WS : own_Ws Z z fm) (F : Fld Z h0 a "java/lang/String" "coder" "B" (.int (0 : Int32))) : own_M l (⟨"java/lang/String", "isLatin1", "()Z"⟩ : MethodName) jdk_42_method_154_code 1 (some .boolean) [] ({ frames := 0, cells := 0, slots := 0, locals := 0 } : Room) Z #[.ref a] h0 (Qv (some (.int (1 : Int32))) h0) := by
  refine own_met plsisl (Lf := #[.val (.ref a)]) (fun m => by first | (simp [entryFrame, mkF, argsToLocals, Value.category]; done) | rfl) ?_
  intro p e s m below meth c T Y
  refine own_getS 3 Y (host := "") (Or.inl (own_wd hw 38 rfl)) Via.refl (WS.1.ext O.2) dsisl_0 rfl fun T2 Y1 => ?_
  refine own_ifF 6 Y1 dsisl_3 (XT.i0_eq_f WS.2.1) rfl ?_
  refine own_aloadN 7 Y1 dsisl_6 rfl rfl rfl ?_
  refine own_getF 10 Y1 (host := "") (Or.inl (own_wd hw 23 rfl)) Via.refl F dsisl_7 rfl fun T4 Y3 => ?_
  refine own_ifF 13 Y3 dsisl_10 (XT.i0_ne_f (by decide)) rfl ?_
  refine own_iconst 14 Y3 (1 : Int32) dsisl_13 rfl rfl ?_
  refine own_goto 18 Y3 dsisl_14 (by decide) ?_
  exact own_retN Y3 (t := .boolean) rfl (by simp) dsisl_18 (by decide) (by decide) ⟨rfl, rfl, rfl⟩
set_option maxRecDepth 65536 in
set_option maxHeartbeats 4000000 in
theorem c_isl_1 (l : Launch) (Z : State) (a0 : Array Value) (hw : ∀ d ∈ tables_1, d.before a0 Z = true) (a : Addr) (z : Int32) (fm : Value) (h0 : Heap) (n0 : Nat) (O : Old Z n0 h0) (WS : own_Ws Z z fm) (F : Fld Z h0 a "java/lang/String" "coder" "B" (.int (1 : Int32))) : own_M l (⟨"java/lang/String", "isLatin1", "()Z"⟩ : MethodName) jdk_42_method_154_code 1 (some .boolean) [] ({ frames := 0, cells := 0, slots := 0, locals := 0 } : Room) Z #[.ref a] h0 (Qv (some (.int (0 : Int32))) h0) := by
  refine own_met plsisl (Lf := #[.val (.ref a)]) (fun m => by first | (simp [entryFrame, mkF, argsToLocals, Value.category]; done) | rfl) ?_
  intro p e s m below meth c T Y
  refine own_getS 3 Y (host := "") (Or.inl (own_wd hw 38 rfl)) Via.refl (WS.1.ext O.2) dsisl_0 rfl fun T2 Y1 => ?_
  refine own_ifF 6 Y1 dsisl_3 (XT.i0_eq_f WS.2.1) rfl ?_
  refine own_aloadN 7 Y1 dsisl_6 rfl rfl rfl ?_
  refine own_getF 10 Y1 (host := "") (Or.inl (own_wd hw 23 rfl)) Via.refl F dsisl_7 rfl fun T4 Y3 => ?_
  refine own_ifT 17 Y3 dsisl_10 (XT.i0_ne_t (by decide)) (by decide) ?_
  refine own_iconst 18 Y3 (0 : Int32) dsisl_17 rfl rfl ?_
  exact own_retN Y3 (t := .boolean) rfl (by simp) dsisl_18 (by decide) (by decide) ⟨rfl, rfl, rfl⟩
def Qnew_0 (Z : State) (a : Addr) (h0 : Heap) (n0 : Nat) (v : Option Value) (h : Heap) (L : List Loc) : Prop := v = none ∧ Keep h0 h [a] ∧ Fr n0 L ∧ Exa Z h a "java/lang/String" ∧ ∃ (d : Addr) (kd : ClassId), Fld Z h a "java/lang/String" "value" "[B" (.ref d) ∧ Fld Z h a "java/lang/String" "coder" "B" (.int (0 : Int32)) ∧ Arv Z h d kd .byte (0 : Int32) [] (.int 0)
set_option maxRecDepth 65536 in
set_option maxHeartbeats 4000000 in
theorem c_new4_0 (l : Launch) (Z : State) (a0 : Array Value) (hw : ∀ d ∈ tables_1, d.before a0 Z = true) (a b : Addr) (h0 : Heap) (n0 : Nat) (ga : n0 ≤ a) (u2 : Value) (X_a : Exa Z h0 a "java/lang/String") (F_a_value : Fld Z h0 a "java/lang/String" "value" "[B" .null) (F_a_coder : Fld Z h0 a "java/lang/String" "coder" "B" u2) : own_MW l (⟨"java/lang/String", "<init>", "([CIILjava/lang/Void;)V"⟩ : MethodName) jdk_42_method_149_code 6 none [] ({ frames := 1, cells := 4, slots := 8, locals := 12 } : Room) Z EL0 #[.ref a, .ref b, .int (0 : Int32), .int (0 : Int32), .null] h0 (Qnew_0 Z a h0 n0) := by
  refine own_metW (own_el hw) plsnew4 (Lf := #[.val (.ref a), .val (.ref b), .val (.int (0 : Int32)), .val (.int (0 : Int32)), .val .null, .unset]) (fun m => by first | (simp [entryFrame, mkF, argsToLocals, Value.category]; done) | rfl) ?_
  intro p e s m below meth c T Y H _
  have Kp := Keep.refl h0 [a]
  have N := Fr.nil n0
  have sf_a := own_safeN (EL := EL0) Y.warm.alike X_a F_a_value
  refine own_aloadN 1 Y dsnew4_0 rfl rfl rfl ?_
  refine own_initO 4 Y (own_wd hw 13 rfl) (own_wd hw 14 rfl) (own_wd hw 15 rfl) dsnew4_1 rfl (by decide) (by decide) rfl fun T2 Y1 => ?_
  refine own_iloadN 5 Y1 dsnew4_4 rfl rfl ?_
  refine own_ifF 8 Y1 dsnew4_5 (XT.i0_ne_f (by decide)) rfl ?_
  refine own_aloadN 9 Y1 dsnew4_8 rfl rfl rfl ?_
  refine own_ldcW 11 Y1 H (own_wd hw 16 rfl) (own_sa hw) (List.mem_of_getElem? (i := 0) rfl) (vs := []) (z := (0 : Int32)) ⟨by decide, by decide⟩ (by decide) (by decide) 0 dsnew4_9 (by decide) (by decide) (by decide) (by decide) rfl fun T3 h3 vm3 s1 s1_b k_s1_b Y3 H3 C3 E3 X_s1 F_s1_coder F_s1_value V_s1_b hN3 => ?_
  have sf_a := C3.safe X_a.lt sf_a
  have ne_a_s1 := (hN3 a sf_a).1
  have ne_a_s1_b := (hN3 a sf_a).2
  have X_a := X_a.ext E3
  have F_a_value := F_a_value.ext E3
  have F_a_coder := F_a_coder.ext E3
  have Kp := Kp.ext E3
  have H := H3
  refine own_getF 14 Y3 (host := "") (Or.inl (own_wd hw 22 rfl)) Via.refl F_s1_value dsnew4_11 rfl fun T5 Y4 => ?_
  refine own_putF 17 Y4 (host := "") (Or.inl (own_wd hw 22 rfl)) Via.refl F_a_value X_a (Or.inr ⟨(own_wd hw 18 rfl), rfl, rfl⟩) (own_wd hw 3 rfl) (ty := (.array .byte)) (by decide) rfl rfl dsnew4_14 rfl fun T6 h6 Y6 W6 => ?_
  have H' := H.wr W6 sf_a
  have sf_a := H.sWr W6 sf_a sf_a
  have H := H'
  have X_a := X_a.wr W6
  have F_a_value := F_a_value.same W6
  have F_a_coder := F_a_coder.other W6 (Or.inr (slot_ne (Or.inr (own_wd hw 19 rfl)) (Or.inr (own_wd hw 18 rfl)) (by decide) (t := .byte) (t' := (.array .byte)) (by decide) (by decide)))
  have Kp := Kp.wr W6 (Or.inl (List.mem_of_getElem? (i := 0) rfl))
  have N := own_frY Y6 N ga
  have X_s1 := X_s1.wr W6
  have F_s1_coder := F_s1_coder.other W6 (Or.inl (Ne.symm ne_a_s1))
  have F_s1_value := F_s1_value.other W6 (Or.inl (Ne.symm ne_a_s1))
  have V_s1_b := V_s1_b.other W6 (Ne.symm ne_a_s1_b)
  refine own_aloadN 18 Y6 dsnew4_17 rfl rfl rfl ?_
  refine own_ldcW 20 Y6 H (own_wd hw 16 rfl) (own_sa hw) (List.mem_of_getElem? (i := 0) rfl) (vs := []) (z := (0 : Int32)) ⟨by decide, by decide⟩ (by decide) (by decide) 0 dsnew4_18 (by decide) (by decide) (by decide) (by decide) rfl fun T7 h7 vm7 s2 s2_b k_s2_b Y7 H7 C7 E7 X_s2 F_s2_coder F_s2_value V_s2_b hN7 => ?_
  have sf_a := C7.safe X_a.lt sf_a
  have ne_a_s2 := (hN7 a sf_a).1
  have ne_a_s2_b := (hN7 a sf_a).2
  have X_a := X_a.ext E7
  have F_a_value := F_a_value.ext E7
  have F_a_coder := F_a_coder.ext E7
  have Kp := Kp.ext E7
  have V_s1_b := V_s1_b.ext E7
  have H := H7
  refine own_getF 23 Y7 (host := "") (Or.inl (own_wd hw 23 rfl)) Via.refl F_s2_coder dsnew4_20 rfl fun T9 Y8 => ?_
  refine own_putFN 26 Y8 (own_wd hw 23 rfl) Via.refl F_a_coder X_a (Or.inr ⟨(own_wd hw 19 rfl), rfl, rfl⟩) (own_wd hw 3 rfl) (ty := .byte) (v' := (.int (0 : Int32))) (by decide) rfl rfl dsnew4_23 rfl fun T10 h10 Y10 W10 => ?_
  have H' := H.wr W10 sf_a
  have sf_a := H.sWr W10 sf_a sf_a
  have H := H'
  have X_a := X_a.wr W10
  have F_a_value := F_a_value.other W10 (Or.inr (slot_ne (Or.inr (own_wd hw 18 rfl)) (Or.inr (own_wd hw 19 rfl)) (by decide) (t := (.array .byte)) (t' := .byte) (by decide) (by decide)))
  have F_a_coder := F_a_coder.same W10
  have Kp := Kp.wr W10 (Or.inl (List.mem_of_getElem? (i := 0) rfl))
  have N := own_frY Y10 N ga
  have V_s1_b := V_s1_b.other W10 (Ne.symm ne_a_s1_b)
  have X_s2 := X_s2.wr W10
  have F_s2_coder := F_s2_coder.other W10 (Or.inl (Ne.symm ne_a_s2))
  have F_s2_value := F_s2_value.other W10 (Or.inl (Ne.symm ne_a_s2))
  have V_s2_b := V_s2_b.other W10 (Ne.symm ne_a_s2_b)
  exact own_retVW Y10 H rfl dsnew4_26 (by decide) (by decide) ⟨rfl, Kp, N, X_a, s1_b, k_s1_b, F_a_value, F_a_coder, V_s1_b⟩
set_option maxRecDepth 65536 in
set_option maxHeartbeats 4000000 in
theorem c_new1_0 (l : Launch) (Z : State) (a0 : Array Value) (hw : ∀ d ∈ tables_1, d.before a0 Z = true) (a b : Addr) (h0 : Heap) (n0 : Nat) (ga : n0 ≤ a) (u2 : Value) (X_a : Exa Z h0 a "java/lang/String") (F_a_value : Fld Z h0 a "java/lang/String" "value" "[B" .null) (F_a_coder : Fld Z h0 a "java/lang/String" "coder" "B" u2) (kb : ClassId) (V_b : Arv Z h0 b kb .char (0 : Int32) [] (.int (0 : Int32))) : own_MW l (⟨"java/lang/String", "<init>", "([C)V"⟩ : MethodName) jdk_42_method_3_code 2 none [] ({ frames := 2, cells := 4, slots := 8, locals := 36 } : Room) Z EL0 #[.ref a, .ref b] h0 (Qnew_0 Z a h0 n0) := by
  refine own_metW (own_el hw) plsnew1 (Lf := #[.val (.ref a), .val (.ref b)]) (fun m => by first | (simp [entryFrame, mkF, argsToLocals, Value.category]; done) | rfl) ?_
  intro p e s m below meth c T Y H _
  refine own_aloadN 1 Y dsnew1_0 rfl rfl rfl ?_
  refine own_aloadN 2 Y dsnew1_1 rfl rfl rfl ?_
  refine own_iconst 3 Y (0 : Int32) dsnew1_2 rfl rfl ?_
  refine own_aloadN 4 Y dsnew1_3 rfl rfl rfl ?_
  refine own_alen 5 Y V_b dsnew1_4 rfl ?_
  refine own_aconst_null 6 Y dsnew1_5 rfl ?_
  refine own_callIW 9 Y H [(.ref b), (.int (0 : Int32)), (.int (0 : Int32)), .null] [] rfl (own_wd hw 9 rfl) (own_wd hw 10 rfl) (own_wd hw 4 rfl) (own_wd hw 12 rfl) (c_new4_0 l Z a0 hw a b _ n0 ga _ X_a F_a_value F_a_coder) dsnew1_6 (by decide) (lenOf pdsnew4 rfl) rfl rfl (by decide) (Nat.le_of_ble_eq_true rfl) (by decide) (by decide) rfl fun v1 T1 h1 L1 vm1 Y1 H1 C1 hQ1 => ?_
  have H := H1
  obtain ⟨rfl, K1, N1, R1⟩ := hQ1
  have N := (Fr.nil n0).app N1
  show own_G p e below _ (T1.setTop (mkF m 9 #[.val (.ref a), .val (.ref b)] []))
  exact own_retVW Y1 H rfl dsnew1_9 (by decide) (by decide) ⟨rfl, K1, N, R1⟩
def Scont_0 (Z : State) (h : Heap) (a : Addr) : Prop := Exa Z h a "java/lang/String" ∧ ∃ (d : Addr) (kd : ClassId), Fld Z h a "java/lang/String" "value" "[B" (.ref d) ∧ ((Fld Z h a "java/lang/String" "coder" "B" (.int (0 : Int32)) ∧ Arv Z h d kd .byte (0 : Int32) [] (.int (0 : Int32))) ∨ (Fld Z h a "java/lang/String" "coder" "B" (.int (1 : Int32)) ∧ Arv Z h d kd .byte (0 : Int32) [] (.int (0 : Int32))))
set_option maxRecDepth 65536 in
set_option maxHeartbeats 4000000 in
theorem c_len_0 (l : Launch) (Z : State) (a0 : Array Value) (hw : ∀ d ∈ tables_1, d.before a0 Z = true) (a : Addr)  (z : Int32) (fm : Value) (h0 : Heap) (n0 : Nat) (O : Old Z n0 h0) (WS : own_Ws Z z fm) (S_a : Scont_0 Z h0 a) : own_M l (⟨"java/lang/String", "length", "()I"⟩ : MethodName) jdk_42_method_54_code 1 (some .int) [] ({ frames := 1, cells := 0, slots := 0, locals := 13 } : Room) Z #[.ref a] h0 (Qv (some (.int (0 : Int32))) h0) := by
  refine own_met plslen (Lf := #[.val (.ref a)]) (fun m => by first | (simp [entryFrame, mkF, argsToLocals, Value.category]; done) | rfl) ?_
  intro p e s m below meth c T Y
  obtain ⟨X_a, d, kd, F_a_value, ⟨F_a_coder, V_d⟩ | ⟨F_a_coder, V_d⟩⟩ := S_a
  · refine own_aloadN 1 Y dslen_0 rfl rfl rfl ?_
    refine own_getF 4 Y (host := "") (Or.inl (own_wd hw 22 rfl)) Via.refl F_a_value dslen_1 rfl fun T2 Y1 => ?_
    refine own_alen 5 Y1 V_d dslen_4 rfl ?_
    refine own_aloadN 6 Y1 dslen_5 rfl rfl rfl ?_
    refine own_callV 9 Y1 [] [(.int (0 : Int32))] X_a (own_wd hw 33 rfl) (own_wd hw 34 rfl) (notFace_of_selects (args := #[]) (mvT Y1.warm (own_wd hw 36 rfl))) (own_wd hw 36 rfl) (own_wd hw 35 rfl) (own_wd hw 4 rfl) (own_wd hw 37 rfl) (c_coder l Z a0 hw a (0 : Int32) rfl z fm _ n0 O WS F_a_coder) dslen_6 (by decide) (lenOf pdscoder rfl) rfl rfl (by decide) (Nat.le_of_ble_eq_true rfl) (by decide) (by decide) rfl fun v3 T3 h3 L3 Y3 hQ3 => ?_
    obtain ⟨rfl, rfl, rfl⟩ := hQ3
    show own_G p e below _ (T3.setTop (mkF m 9 #[.val (.ref a)] [(.int (0 : Int32)), (.int (0 : Int32))]))
    refine own_ishr 10 Y3 dslen_9 rfl ?_
    show own_G p e below _ (State.setTop _ (mkF m 10 #[.val (.ref a)] [(.int (0 : Int32))]))
    exact own_retI Y3 rfl dslen_10 (by decide) (by decide) ⟨rfl, rfl, rfl⟩
  · refine own_aloadN 1 Y dslen_0 rfl rfl rfl ?_
    refine own_getF 4 Y (host := "") (Or.inl (own_wd hw 22 rfl)) Via.refl F_a_value dslen_1 rfl fun T5 Y4 => ?_
    refine own_alen 5 Y4 V_d dslen_4 rfl ?_
    refine own_aloadN 6 Y4 dslen_5 rfl rfl rfl ?_
    refine own_callV 9 Y4 [] [(.int (0 : Int32))] X_a (own_wd hw 33 rfl) (own_wd hw 34 rfl) (notFace_of_selects (args := #[]) (mvT Y4.warm (own_wd hw 36 rfl))) (own_wd hw 36 rfl) (own_wd hw 35 rfl) (own_wd hw 4 rfl) (own_wd hw 37 rfl) (c_coder l Z a0 hw a (1 : Int32) rfl z fm _ n0 O WS F_a_coder) dslen_6 (by decide) (lenOf pdscoder rfl) rfl rfl (by decide) (Nat.le_of_ble_eq_true rfl) (by decide) (by decide) rfl fun v6 T6 h6 L6 Y6 hQ6 => ?_
    obtain ⟨rfl, rfl, rfl⟩ := hQ6
    show own_G p e below _ (T6.setTop (mkF m 9 #[.val (.ref a)] [(.int (1 : Int32)), (.int (0 : Int32))]))
    refine own_ishr 10 Y6 dslen_9 rfl ?_
    show own_G p e below _ (State.setTop _ (mkF m 10 #[.val (.ref a)] [(.int (0 : Int32))]))
    exact own_retI Y6 rfl dslen_10 (by decide) (by decide) ⟨rfl, rfl, rfl⟩
def Scont_1 (Z : State) (h : Heap) (a : Addr) (c0 : Int32) : Prop := Exa Z h a "java/lang/String" ∧ ∃ (d : Addr) (kd : ClassId), Fld Z h a "java/lang/String" "value" "[B" (.ref d) ∧ ((¬ (255 : Int32) < c0 ∧ Fld Z h a "java/lang/String" "coder" "B" (.int (0 : Int32)) ∧ Arv Z h d kd .byte (1 : Int32) [(.int (nar .byte c0.toInt8.toInt32))] (.int (0 : Int32))) ∨ (Fld Z h a "java/lang/String" "coder" "B" (.int (1 : Int32)) ∧ Arv Z h d kd .byte (2 : Int32) [(.int (nar .byte (c0 >>> ((0 : Int32) &&& 31)).toInt8.toInt32)), (.int (nar .byte (c0 >>> ((8 : Int32) &&& 31)).toInt8.toInt32))] (.int (0 : Int32))))
set_option maxRecDepth 65536 in
set_option maxHeartbeats 4000000 in
theorem c_len_1 (l : Launch) (Z : State) (a0 : Array Value) (hw : ∀ d ∈ tables_1, d.before a0 Z = true) (a : Addr) (c0 : Int32) (hn0 : nar .char c0 = c0) (z : Int32) (fm : Value) (h0 : Heap) (n0 : Nat) (O : Old Z n0 h0) (WS : own_Ws Z z fm) (S_a : Scont_1 Z h0 a c0) : own_M l (⟨"java/lang/String", "length", "()I"⟩ : MethodName) jdk_42_method_54_code 1 (some .int) [] ({ frames := 1, cells := 0, slots := 0, locals := 13 } : Room) Z #[.ref a] h0 (Qv (some (.int (1 : Int32))) h0) := by
  refine own_met plslen (Lf := #[.val (.ref a)]) (fun m => by first | (simp [entryFrame, mkF, argsToLocals, Value.category]; done) | rfl) ?_
  intro p e s m below meth c T Y
  obtain ⟨X_a, d, kd, F_a_value, ⟨hc0, F_a_coder, V_d⟩ | ⟨F_a_coder, V_d⟩⟩ := S_a
  · refine own_aloadN 1 Y dslen_0 rfl rfl rfl ?_
    refine own_getF 4 Y (host := "") (Or.inl (own_wd hw 22 rfl)) Via.refl F_a_value dslen_1 rfl fun T2 Y1 => ?_
    refine own_alen 5 Y1 V_d dslen_4 rfl ?_
    refine own_aloadN 6 Y1 dslen_5 rfl rfl rfl ?_
    refine own_callV 9 Y1 [] [(.int (1 : Int32))] X_a (own_wd hw 33 rfl) (own_wd hw 34 rfl) (notFace_of_selects (args := #[]) (mvT Y1.warm (own_wd hw 36 rfl))) (own_wd hw 36 rfl) (own_wd hw 35 rfl) (own_wd hw 4 rfl) (own_wd hw 37 rfl) (c_coder l Z a0 hw a (0 : Int32) rfl z fm _ n0 O WS F_a_coder) dslen_6 (by decide) (lenOf pdscoder rfl) rfl rfl (by decide) (Nat.le_of_ble_eq_true rfl) (by decide) (by decide) rfl fun v3 T3 h3 L3 Y3 hQ3 => ?_
    obtain ⟨rfl, rfl, rfl⟩ := hQ3
    show own_G p e below _ (T3.setTop (mkF m 9 #[.val (.ref a)] [(.int (0 : Int32)), (.int (1 : Int32))]))
    refine own_ishr 10 Y3 dslen_9 rfl ?_
    show own_G p e below _ (State.setTop _ (mkF m 10 #[.val (.ref a)] [(.int (1 : Int32))]))
    exact own_retI Y3 rfl dslen_10 (by decide) (by decide) ⟨rfl, rfl, rfl⟩
  · refine own_aloadN 1 Y dslen_0 rfl rfl rfl ?_
    refine own_getF 4 Y (host := "") (Or.inl (own_wd hw 22 rfl)) Via.refl F_a_value dslen_1 rfl fun T5 Y4 => ?_
    refine own_alen 5 Y4 V_d dslen_4 rfl ?_
    refine own_aloadN 6 Y4 dslen_5 rfl rfl rfl ?_
    refine own_callV 9 Y4 [] [(.int (2 : Int32))] X_a (own_wd hw 33 rfl) (own_wd hw 34 rfl) (notFace_of_selects (args := #[]) (mvT Y4.warm (own_wd hw 36 rfl))) (own_wd hw 36 rfl) (own_wd hw 35 rfl) (own_wd hw 4 rfl) (own_wd hw 37 rfl) (c_coder l Z a0 hw a (1 : Int32) rfl z fm _ n0 O WS F_a_coder) dslen_6 (by decide) (lenOf pdscoder rfl) rfl rfl (by decide) (Nat.le_of_ble_eq_true rfl) (by decide) (by decide) rfl fun v6 T6 h6 L6 Y6 hQ6 => ?_
    obtain ⟨rfl, rfl, rfl⟩ := hQ6
    show own_G p e below _ (T6.setTop (mkF m 9 #[.val (.ref a)] [(.int (1 : Int32)), (.int (2 : Int32))]))
    refine own_ishr 10 Y6 dslen_9 rfl ?_
    show own_G p e below _ (State.setTop _ (mkF m 10 #[.val (.ref a)] [(.int (1 : Int32))]))
    exact own_retI Y6 rfl dslen_10 (by decide) (by decide) ⟨rfl, rfl, rfl⟩
set_option maxRecDepth 65536 in
set_option maxHeartbeats 4000000 in
theorem c_cat_1_0 (l : Launch) (Z : State) (a0 : Array Value) (hw : ∀ d ∈ tables_1, d.before a0 Z = true) (a : Addr) (c0 : Int32) (hn0 : nar .char c0 = c0) (z : Int32) (fm : Value) (h0 : Heap) (n0 : Nat) (O : Old Z n0 h0) (WS : own_Ws Z z fm) (S_a : Scont_1 Z h0 a c0) : own_M l (⟨"java/lang/String", "charAt", "(I)C"⟩ : MethodName) jdk_42_method_56_code 2 (some .char) [] ({ frames := 4, cells := 0, slots := 0, locals := 53 } : Room) Z #[.ref a, .int (0 : Int32)] h0 (Qv (some (.int c0)) h0) := by
  refine own_met plscat (Lf := #[.val (.ref a), .val (.int (0 : Int32))]) (fun m => by first | (simp [entryFrame, mkF, argsToLocals, Value.category]; done) | rfl) ?_
  intro p e s m below meth c T Y
  obtain ⟨X_a, d, kd, F_a_value, ⟨hc0, F_a_coder, V_d⟩ | ⟨F_a_coder, V_d⟩⟩ := S_a
  · refine own_aloadN 1 Y dscat_0 rfl rfl rfl ?_
    refine own_callV 4 Y [] [] X_a (own_wd hw 54 rfl) (own_wd hw 55 rfl) (notFace_of_selects (args := #[]) (mvT Y.warm (own_wd hw 57 rfl))) (own_wd hw 57 rfl) (own_wd hw 56 rfl) (own_wd hw 4 rfl) (own_wd hw 58 rfl) (c_isl_0 l Z a0 hw a z fm _ n0 O WS F_a_coder) dscat_1 (by decide) (lenOf pdsisl rfl) rfl rfl (by decide) (Nat.le_of_ble_eq_true rfl) (by decide) (by decide) rfl fun v1 T1 h1 L1 Y1 hQ1 => ?_
    obtain ⟨rfl, rfl, rfl⟩ := hQ1
    show own_G p e below _ (T1.setTop (mkF m 4 #[.val (.ref a), .val (.int (0 : Int32))] [(.int (1 : Int32))]))
    refine own_ifF 7 Y1 dscat_4 (XT.i0_eq_f (by decide)) rfl ?_
    refine own_aloadN 8 Y1 dscat_7 rfl rfl rfl ?_
    refine own_getF 11 Y1 (host := "") (Or.inl (own_wd hw 22 rfl)) Via.refl F_a_value dscat_8 rfl fun T3 Y2 => ?_
    refine own_iloadN 12 Y2 dscat_11 rfl rfl ?_
    refine own_callS 15 Y2 [(.ref d), (.int (0 : Int32))] [] (own_wd hw 59 rfl) (own_wd hw 60 rfl) (own_wd hw 61 rfl) (own_wd hw 62 rfl) (c_lc l Z a0 hw (0 : Int32) _ c0 d kd _ _ z fm _ n0 O WS V_d ⟨by decide, by decide⟩ rfl (own_lat hn0 hc0)) dscat_12 (by decide) (lenOf pdslc rfl) rfl rfl (by decide) (Nat.le_of_ble_eq_true rfl) (by decide) (by decide) rfl fun v4 T4 h4 L4 Y4 hQ4 => ?_
    obtain ⟨rfl, rfl, rfl⟩ := hQ4
    show own_G p e below _ (T4.setTop (mkF m 15 #[.val (.ref a), .val (.int (0 : Int32))] [(.int c0)]))
    exact own_retN Y4 (t := .char) rfl (by simp) dscat_15 (by decide) (by decide) ⟨rfl, rfl, congrArg (fun z => some (Value.int z)) hn0⟩
  · refine own_aloadN 1 Y dscat_0 rfl rfl rfl ?_
    refine own_callV 4 Y [] [] X_a (own_wd hw 54 rfl) (own_wd hw 55 rfl) (notFace_of_selects (args := #[]) (mvT Y.warm (own_wd hw 57 rfl))) (own_wd hw 57 rfl) (own_wd hw 56 rfl) (own_wd hw 4 rfl) (own_wd hw 58 rfl) (c_isl_1 l Z a0 hw a z fm _ n0 O WS F_a_coder) dscat_1 (by decide) (lenOf pdsisl rfl) rfl rfl (by decide) (Nat.le_of_ble_eq_true rfl) (by decide) (by decide) rfl fun v5 T5 h5 L5 Y5 hQ5 => ?_
    obtain ⟨rfl, rfl, rfl⟩ := hQ5
    show own_G p e below _ (T5.setTop (mkF m 4 #[.val (.ref a), .val (.int (0 : Int32))] [(.int (0 : Int32))]))
    refine own_ifT 16 Y5 dscat_4 (XT.i0_eq_t (by decide)) (by decide) ?_
    refine own_aloadN 17 Y5 dscat_16 rfl rfl rfl ?_
    refine own_getF 20 Y5 (host := "") (Or.inl (own_wd hw 22 rfl)) Via.refl F_a_value dscat_17 rfl fun T7 Y6 => ?_
    refine own_iloadN 21 Y6 dscat_20 rfl rfl ?_
    refine own_callS 24 Y6 [(.ref d), (.int (0 : Int32))] [] (own_wd hw 97 rfl) (own_wd hw 98 rfl) (own_wd hw 41 rfl) (own_wd hw 99 rfl) (c_uc l Z a0 hw (0 : Int32) _ _ c0 hn0 d kd _ _ z fm _ n0 O WS V_d ⟨by decide, by decide⟩ rfl ⟨by decide, by decide⟩ rfl (own_u16 hn0) (by decide) (by decide)) dscat_21 (by decide) (lenOf pdsuc rfl) rfl rfl (by decide) (Nat.le_of_ble_eq_true rfl) (by decide) (by decide) rfl fun v8 T8 h8 L8 Y8 hQ8 => ?_
    obtain ⟨rfl, rfl, rfl⟩ := hQ8
    show own_G p e below _ (T8.setTop (mkF m 24 #[.val (.ref a), .val (.int (0 : Int32))] [(.int c0)]))
    exact own_retN Y8 (t := .char) rfl (by simp) dscat_24 (by decide) (by decide) ⟨rfl, rfl, congrArg (fun z => some (Value.int z)) hn0⟩
def Scont_2 (Z : State) (h : Heap) (a : Addr) (c0 c1 : Int32) : Prop := Exa Z h a "java/lang/String" ∧ ∃ (d : Addr) (kd : ClassId), Fld Z h a "java/lang/String" "value" "[B" (.ref d) ∧ ((¬ (255 : Int32) < c0 ∧ ¬ (255 : Int32) < c1 ∧ Fld Z h a "java/lang/String" "coder" "B" (.int (0 : Int32)) ∧ Arv Z h d kd .byte (2 : Int32) [(.int (nar .byte c0.toInt8.toInt32)), (.int (nar .byte c1.toInt8.toInt32))] (.int (0 : Int32))) ∨ (Fld Z h a "java/lang/String" "coder" "B" (.int (1 : Int32)) ∧ Arv Z h d kd .byte (4 : Int32) [(.int (nar .byte (c0 >>> ((0 : Int32) &&& 31)).toInt8.toInt32)), (.int (nar .byte (c0 >>> ((8 : Int32) &&& 31)).toInt8.toInt32)), (.int (nar .byte (c1 >>> ((0 : Int32) &&& 31)).toInt8.toInt32)), (.int (nar .byte (c1 >>> ((8 : Int32) &&& 31)).toInt8.toInt32))] (.int (0 : Int32))))
set_option maxRecDepth 65536 in
set_option maxHeartbeats 4000000 in
theorem c_len_2 (l : Launch) (Z : State) (a0 : Array Value) (hw : ∀ d ∈ tables_1, d.before a0 Z = true) (a : Addr) (c0 c1 : Int32) (hn0 : nar .char c0 = c0) (hn1 : nar .char c1 = c1) (z : Int32) (fm : Value) (h0 : Heap) (n0 : Nat) (O : Old Z n0 h0) (WS : own_Ws Z z fm) (S_a : Scont_2 Z h0 a c0 c1) : own_M l (⟨"java/lang/String", "length", "()I"⟩ : MethodName) jdk_42_method_54_code 1 (some .int) [] ({ frames := 1, cells := 0, slots := 0, locals := 13 } : Room) Z #[.ref a] h0 (Qv (some (.int (2 : Int32))) h0) := by
  refine own_met plslen (Lf := #[.val (.ref a)]) (fun m => by first | (simp [entryFrame, mkF, argsToLocals, Value.category]; done) | rfl) ?_
  intro p e s m below meth c T Y
  obtain ⟨X_a, d, kd, F_a_value, ⟨hc0, hc1, F_a_coder, V_d⟩ | ⟨F_a_coder, V_d⟩⟩ := S_a
  · refine own_aloadN 1 Y dslen_0 rfl rfl rfl ?_
    refine own_getF 4 Y (host := "") (Or.inl (own_wd hw 22 rfl)) Via.refl F_a_value dslen_1 rfl fun T2 Y1 => ?_
    refine own_alen 5 Y1 V_d dslen_4 rfl ?_
    refine own_aloadN 6 Y1 dslen_5 rfl rfl rfl ?_
    refine own_callV 9 Y1 [] [(.int (2 : Int32))] X_a (own_wd hw 33 rfl) (own_wd hw 34 rfl) (notFace_of_selects (args := #[]) (mvT Y1.warm (own_wd hw 36 rfl))) (own_wd hw 36 rfl) (own_wd hw 35 rfl) (own_wd hw 4 rfl) (own_wd hw 37 rfl) (c_coder l Z a0 hw a (0 : Int32) rfl z fm _ n0 O WS F_a_coder) dslen_6 (by decide) (lenOf pdscoder rfl) rfl rfl (by decide) (Nat.le_of_ble_eq_true rfl) (by decide) (by decide) rfl fun v3 T3 h3 L3 Y3 hQ3 => ?_
    obtain ⟨rfl, rfl, rfl⟩ := hQ3
    show own_G p e below _ (T3.setTop (mkF m 9 #[.val (.ref a)] [(.int (0 : Int32)), (.int (2 : Int32))]))
    refine own_ishr 10 Y3 dslen_9 rfl ?_
    show own_G p e below _ (State.setTop _ (mkF m 10 #[.val (.ref a)] [(.int (2 : Int32))]))
    exact own_retI Y3 rfl dslen_10 (by decide) (by decide) ⟨rfl, rfl, rfl⟩
  · refine own_aloadN 1 Y dslen_0 rfl rfl rfl ?_
    refine own_getF 4 Y (host := "") (Or.inl (own_wd hw 22 rfl)) Via.refl F_a_value dslen_1 rfl fun T5 Y4 => ?_
    refine own_alen 5 Y4 V_d dslen_4 rfl ?_
    refine own_aloadN 6 Y4 dslen_5 rfl rfl rfl ?_
    refine own_callV 9 Y4 [] [(.int (4 : Int32))] X_a (own_wd hw 33 rfl) (own_wd hw 34 rfl) (notFace_of_selects (args := #[]) (mvT Y4.warm (own_wd hw 36 rfl))) (own_wd hw 36 rfl) (own_wd hw 35 rfl) (own_wd hw 4 rfl) (own_wd hw 37 rfl) (c_coder l Z a0 hw a (1 : Int32) rfl z fm _ n0 O WS F_a_coder) dslen_6 (by decide) (lenOf pdscoder rfl) rfl rfl (by decide) (Nat.le_of_ble_eq_true rfl) (by decide) (by decide) rfl fun v6 T6 h6 L6 Y6 hQ6 => ?_
    obtain ⟨rfl, rfl, rfl⟩ := hQ6
    show own_G p e below _ (T6.setTop (mkF m 9 #[.val (.ref a)] [(.int (1 : Int32)), (.int (4 : Int32))]))
    refine own_ishr 10 Y6 dslen_9 rfl ?_
    show own_G p e below _ (State.setTop _ (mkF m 10 #[.val (.ref a)] [(.int (2 : Int32))]))
    exact own_retI Y6 rfl dslen_10 (by decide) (by decide) ⟨rfl, rfl, rfl⟩
set_option maxRecDepth 65536 in
set_option maxHeartbeats 4000000 in
theorem c_cat_2_0 (l : Launch) (Z : State) (a0 : Array Value) (hw : ∀ d ∈ tables_1, d.before a0 Z = true) (a : Addr) (c0 c1 : Int32) (hn0 : nar .char c0 = c0) (hn1 : nar .char c1 = c1) (z : Int32) (fm : Value) (h0 : Heap) (n0 : Nat) (O : Old Z n0 h0) (WS : own_Ws Z z fm) (S_a : Scont_2 Z h0 a c0 c1) : own_M l (⟨"java/lang/String", "charAt", "(I)C"⟩ : MethodName) jdk_42_method_56_code 2 (some .char) [] ({ frames := 4, cells := 0, slots := 0, locals := 53 } : Room) Z #[.ref a, .int (0 : Int32)] h0 (Qv (some (.int c0)) h0) := by
  refine own_met plscat (Lf := #[.val (.ref a), .val (.int (0 : Int32))]) (fun m => by first | (simp [entryFrame, mkF, argsToLocals, Value.category]; done) | rfl) ?_
  intro p e s m below meth c T Y
  obtain ⟨X_a, d, kd, F_a_value, ⟨hc0, hc1, F_a_coder, V_d⟩ | ⟨F_a_coder, V_d⟩⟩ := S_a
  · refine own_aloadN 1 Y dscat_0 rfl rfl rfl ?_
    refine own_callV 4 Y [] [] X_a (own_wd hw 54 rfl) (own_wd hw 55 rfl) (notFace_of_selects (args := #[]) (mvT Y.warm (own_wd hw 57 rfl))) (own_wd hw 57 rfl) (own_wd hw 56 rfl) (own_wd hw 4 rfl) (own_wd hw 58 rfl) (c_isl_0 l Z a0 hw a z fm _ n0 O WS F_a_coder) dscat_1 (by decide) (lenOf pdsisl rfl) rfl rfl (by decide) (Nat.le_of_ble_eq_true rfl) (by decide) (by decide) rfl fun v1 T1 h1 L1 Y1 hQ1 => ?_
    obtain ⟨rfl, rfl, rfl⟩ := hQ1
    show own_G p e below _ (T1.setTop (mkF m 4 #[.val (.ref a), .val (.int (0 : Int32))] [(.int (1 : Int32))]))
    refine own_ifF 7 Y1 dscat_4 (XT.i0_eq_f (by decide)) rfl ?_
    refine own_aloadN 8 Y1 dscat_7 rfl rfl rfl ?_
    refine own_getF 11 Y1 (host := "") (Or.inl (own_wd hw 22 rfl)) Via.refl F_a_value dscat_8 rfl fun T3 Y2 => ?_
    refine own_iloadN 12 Y2 dscat_11 rfl rfl ?_
    refine own_callS 15 Y2 [(.ref d), (.int (0 : Int32))] [] (own_wd hw 59 rfl) (own_wd hw 60 rfl) (own_wd hw 61 rfl) (own_wd hw 62 rfl) (c_lc l Z a0 hw (0 : Int32) _ c0 d kd _ _ z fm _ n0 O WS V_d ⟨by decide, by decide⟩ rfl (own_lat hn0 hc0)) dscat_12 (by decide) (lenOf pdslc rfl) rfl rfl (by decide) (Nat.le_of_ble_eq_true rfl) (by decide) (by decide) rfl fun v4 T4 h4 L4 Y4 hQ4 => ?_
    obtain ⟨rfl, rfl, rfl⟩ := hQ4
    show own_G p e below _ (T4.setTop (mkF m 15 #[.val (.ref a), .val (.int (0 : Int32))] [(.int c0)]))
    exact own_retN Y4 (t := .char) rfl (by simp) dscat_15 (by decide) (by decide) ⟨rfl, rfl, congrArg (fun z => some (Value.int z)) hn0⟩
  · refine own_aloadN 1 Y dscat_0 rfl rfl rfl ?_
    refine own_callV 4 Y [] [] X_a (own_wd hw 54 rfl) (own_wd hw 55 rfl) (notFace_of_selects (args := #[]) (mvT Y.warm (own_wd hw 57 rfl))) (own_wd hw 57 rfl) (own_wd hw 56 rfl) (own_wd hw 4 rfl) (own_wd hw 58 rfl) (c_isl_1 l Z a0 hw a z fm _ n0 O WS F_a_coder) dscat_1 (by decide) (lenOf pdsisl rfl) rfl rfl (by decide) (Nat.le_of_ble_eq_true rfl) (by decide) (by decide) rfl fun v5 T5 h5 L5 Y5 hQ5 => ?_
    obtain ⟨rfl, rfl, rfl⟩ := hQ5
    show own_G p e below _ (T5.setTop (mkF m 4 #[.val (.ref a), .val (.int (0 : Int32))] [(.int (0 : Int32))]))
    refine own_ifT 16 Y5 dscat_4 (XT.i0_eq_t (by decide)) (by decide) ?_
    refine own_aloadN 17 Y5 dscat_16 rfl rfl rfl ?_
    refine own_getF 20 Y5 (host := "") (Or.inl (own_wd hw 22 rfl)) Via.refl F_a_value dscat_17 rfl fun T7 Y6 => ?_
    refine own_iloadN 21 Y6 dscat_20 rfl rfl ?_
    refine own_callS 24 Y6 [(.ref d), (.int (0 : Int32))] [] (own_wd hw 97 rfl) (own_wd hw 98 rfl) (own_wd hw 41 rfl) (own_wd hw 99 rfl) (c_uc l Z a0 hw (0 : Int32) _ _ c0 hn0 d kd _ _ z fm _ n0 O WS V_d ⟨by decide, by decide⟩ rfl ⟨by decide, by decide⟩ rfl (own_u16 hn0) (by decide) (by decide)) dscat_21 (by decide) (lenOf pdsuc rfl) rfl rfl (by decide) (Nat.le_of_ble_eq_true rfl) (by decide) (by decide) rfl fun v8 T8 h8 L8 Y8 hQ8 => ?_
    obtain ⟨rfl, rfl, rfl⟩ := hQ8
    show own_G p e below _ (T8.setTop (mkF m 24 #[.val (.ref a), .val (.int (0 : Int32))] [(.int c0)]))
    exact own_retN Y8 (t := .char) rfl (by simp) dscat_24 (by decide) (by decide) ⟨rfl, rfl, congrArg (fun z => some (Value.int z)) hn0⟩
set_option maxRecDepth 65536 in
set_option maxHeartbeats 4000000 in
theorem c_cat_2_1 (l : Launch) (Z : State) (a0 : Array Value) (hw : ∀ d ∈ tables_1, d.before a0 Z = true) (a : Addr) (c0 c1 : Int32) (hn0 : nar .char c0 = c0) (hn1 : nar .char c1 = c1) (z : Int32) (fm : Value) (h0 : Heap) (n0 : Nat) (O : Old Z n0 h0) (WS : own_Ws Z z fm) (S_a : Scont_2 Z h0 a c0 c1) : own_M l (⟨"java/lang/String", "charAt", "(I)C"⟩ : MethodName) jdk_42_method_56_code 2 (some .char) [] ({ frames := 4, cells := 0, slots := 0, locals := 53 } : Room) Z #[.ref a, .int (1 : Int32)] h0 (Qv (some (.int c1)) h0) := by
  refine own_met plscat (Lf := #[.val (.ref a), .val (.int (1 : Int32))]) (fun m => by first | (simp [entryFrame, mkF, argsToLocals, Value.category]; done) | rfl) ?_
  intro p e s m below meth c T Y
  obtain ⟨X_a, d, kd, F_a_value, ⟨hc0, hc1, F_a_coder, V_d⟩ | ⟨F_a_coder, V_d⟩⟩ := S_a
  · refine own_aloadN 1 Y dscat_0 rfl rfl rfl ?_
    refine own_callV 4 Y [] [] X_a (own_wd hw 54 rfl) (own_wd hw 55 rfl) (notFace_of_selects (args := #[]) (mvT Y.warm (own_wd hw 57 rfl))) (own_wd hw 57 rfl) (own_wd hw 56 rfl) (own_wd hw 4 rfl) (own_wd hw 58 rfl) (c_isl_0 l Z a0 hw a z fm _ n0 O WS F_a_coder) dscat_1 (by decide) (lenOf pdsisl rfl) rfl rfl (by decide) (Nat.le_of_ble_eq_true rfl) (by decide) (by decide) rfl fun v1 T1 h1 L1 Y1 hQ1 => ?_
    obtain ⟨rfl, rfl, rfl⟩ := hQ1
    show own_G p e below _ (T1.setTop (mkF m 4 #[.val (.ref a), .val (.int (1 : Int32))] [(.int (1 : Int32))]))
    refine own_ifF 7 Y1 dscat_4 (XT.i0_eq_f (by decide)) rfl ?_
    refine own_aloadN 8 Y1 dscat_7 rfl rfl rfl ?_
    refine own_getF 11 Y1 (host := "") (Or.inl (own_wd hw 22 rfl)) Via.refl F_a_value dscat_8 rfl fun T3 Y2 => ?_
    refine own_iloadN 12 Y2 dscat_11 rfl rfl ?_
    refine own_callS 15 Y2 [(.ref d), (.int (1 : Int32))] [] (own_wd hw 59 rfl) (own_wd hw 60 rfl) (own_wd hw 61 rfl) (own_wd hw 62 rfl) (c_lc l Z a0 hw (1 : Int32) _ c1 d kd _ _ z fm _ n0 O WS V_d ⟨by decide, by decide⟩ rfl (own_lat hn1 hc1)) dscat_12 (by decide) (lenOf pdslc rfl) rfl rfl (by decide) (Nat.le_of_ble_eq_true rfl) (by decide) (by decide) rfl fun v4 T4 h4 L4 Y4 hQ4 => ?_
    obtain ⟨rfl, rfl, rfl⟩ := hQ4
    show own_G p e below _ (T4.setTop (mkF m 15 #[.val (.ref a), .val (.int (1 : Int32))] [(.int c1)]))
    exact own_retN Y4 (t := .char) rfl (by simp) dscat_15 (by decide) (by decide) ⟨rfl, rfl, congrArg (fun z => some (Value.int z)) hn1⟩
  · refine own_aloadN 1 Y dscat_0 rfl rfl rfl ?_
    refine own_callV 4 Y [] [] X_a (own_wd hw 54 rfl) (own_wd hw 55 rfl) (notFace_of_selects (args := #[]) (mvT Y.warm (own_wd hw 57 rfl))) (own_wd hw 57 rfl) (own_wd hw 56 rfl) (own_wd hw 4 rfl) (own_wd hw 58 rfl) (c_isl_1 l Z a0 hw a z fm _ n0 O WS F_a_coder) dscat_1 (by decide) (lenOf pdsisl rfl) rfl rfl (by decide) (Nat.le_of_ble_eq_true rfl) (by decide) (by decide) rfl fun v5 T5 h5 L5 Y5 hQ5 => ?_
    obtain ⟨rfl, rfl, rfl⟩ := hQ5
    show own_G p e below _ (T5.setTop (mkF m 4 #[.val (.ref a), .val (.int (1 : Int32))] [(.int (0 : Int32))]))
    refine own_ifT 16 Y5 dscat_4 (XT.i0_eq_t (by decide)) (by decide) ?_
    refine own_aloadN 17 Y5 dscat_16 rfl rfl rfl ?_
    refine own_getF 20 Y5 (host := "") (Or.inl (own_wd hw 22 rfl)) Via.refl F_a_value dscat_17 rfl fun T7 Y6 => ?_
    refine own_iloadN 21 Y6 dscat_20 rfl rfl ?_
    refine own_callS 24 Y6 [(.ref d), (.int (1 : Int32))] [] (own_wd hw 97 rfl) (own_wd hw 98 rfl) (own_wd hw 41 rfl) (own_wd hw 99 rfl) (c_uc l Z a0 hw (1 : Int32) _ _ c1 hn1 d kd _ _ z fm _ n0 O WS V_d ⟨by decide, by decide⟩ rfl ⟨by decide, by decide⟩ rfl (own_u16 hn1) (by decide) (by decide)) dscat_21 (by decide) (lenOf pdsuc rfl) rfl rfl (by decide) (Nat.le_of_ble_eq_true rfl) (by decide) (by decide) rfl fun v8 T8 h8 L8 Y8 hQ8 => ?_
    obtain ⟨rfl, rfl, rfl⟩ := hQ8
    show own_G p e below _ (T8.setTop (mkF m 24 #[.val (.ref a), .val (.int (1 : Int32))] [(.int c1)]))
    exact own_retN Y8 (t := .char) rfl (by simp) dscat_24 (by decide) (by decide) ⟨rfl, rfl, congrArg (fun z => some (Value.int z)) hn1⟩
def Scont_3 (Z : State) (h : Heap) (a : Addr) (c0 c1 c2 : Int32) : Prop := Exa Z h a "java/lang/String" ∧ ∃ (d : Addr) (kd : ClassId), Fld Z h a "java/lang/String" "value" "[B" (.ref d) ∧ ((¬ (255 : Int32) < c0 ∧ ¬ (255 : Int32) < c1 ∧ ¬ (255 : Int32) < c2 ∧ Fld Z h a "java/lang/String" "coder" "B" (.int (0 : Int32)) ∧ Arv Z h d kd .byte (3 : Int32) [(.int (nar .byte c0.toInt8.toInt32)), (.int (nar .byte c1.toInt8.toInt32)), (.int (nar .byte c2.toInt8.toInt32))] (.int (0 : Int32))) ∨ (Fld Z h a "java/lang/String" "coder" "B" (.int (1 : Int32)) ∧ Arv Z h d kd .byte (6 : Int32) [(.int (nar .byte (c0 >>> ((0 : Int32) &&& 31)).toInt8.toInt32)), (.int (nar .byte (c0 >>> ((8 : Int32) &&& 31)).toInt8.toInt32)), (.int (nar .byte (c1 >>> ((0 : Int32) &&& 31)).toInt8.toInt32)), (.int (nar .byte (c1 >>> ((8 : Int32) &&& 31)).toInt8.toInt32)), (.int (nar .byte (c2 >>> ((0 : Int32) &&& 31)).toInt8.toInt32)), (.int (nar .byte (c2 >>> ((8 : Int32) &&& 31)).toInt8.toInt32))] (.int (0 : Int32))))
set_option maxRecDepth 65536 in
set_option maxHeartbeats 4000000 in
theorem c_len_3 (l : Launch) (Z : State) (a0 : Array Value) (hw : ∀ d ∈ tables_1, d.before a0 Z = true) (a : Addr) (c0 c1 c2 : Int32) (hn0 : nar .char c0 = c0) (hn1 : nar .char c1 = c1) (hn2 : nar .char c2 = c2) (z : Int32) (fm : Value) (h0 : Heap) (n0 : Nat) (O : Old Z n0 h0) (WS : own_Ws Z z fm) (S_a : Scont_3 Z h0 a c0 c1 c2) : own_M l (⟨"java/lang/String", "length", "()I"⟩ : MethodName) jdk_42_method_54_code 1 (some .int) [] ({ frames := 1, cells := 0, slots := 0, locals := 13 } : Room) Z #[.ref a] h0 (Qv (some (.int (3 : Int32))) h0) := by
  refine own_met plslen (Lf := #[.val (.ref a)]) (fun m => by first | (simp [entryFrame, mkF, argsToLocals, Value.category]; done) | rfl) ?_
  intro p e s m below meth c T Y
  obtain ⟨X_a, d, kd, F_a_value, ⟨hc0, hc1, hc2, F_a_coder, V_d⟩ | ⟨F_a_coder, V_d⟩⟩ := S_a
  · refine own_aloadN 1 Y dslen_0 rfl rfl rfl ?_
    refine own_getF 4 Y (host := "") (Or.inl (own_wd hw 22 rfl)) Via.refl F_a_value dslen_1 rfl fun T2 Y1 => ?_
    refine own_alen 5 Y1 V_d dslen_4 rfl ?_
    refine own_aloadN 6 Y1 dslen_5 rfl rfl rfl ?_
    refine own_callV 9 Y1 [] [(.int (3 : Int32))] X_a (own_wd hw 33 rfl) (own_wd hw 34 rfl) (notFace_of_selects (args := #[]) (mvT Y1.warm (own_wd hw 36 rfl))) (own_wd hw 36 rfl) (own_wd hw 35 rfl) (own_wd hw 4 rfl) (own_wd hw 37 rfl) (c_coder l Z a0 hw a (0 : Int32) rfl z fm _ n0 O WS F_a_coder) dslen_6 (by decide) (lenOf pdscoder rfl) rfl rfl (by decide) (Nat.le_of_ble_eq_true rfl) (by decide) (by decide) rfl fun v3 T3 h3 L3 Y3 hQ3 => ?_
    obtain ⟨rfl, rfl, rfl⟩ := hQ3
    show own_G p e below _ (T3.setTop (mkF m 9 #[.val (.ref a)] [(.int (0 : Int32)), (.int (3 : Int32))]))
    refine own_ishr 10 Y3 dslen_9 rfl ?_
    show own_G p e below _ (State.setTop _ (mkF m 10 #[.val (.ref a)] [(.int (3 : Int32))]))
    exact own_retI Y3 rfl dslen_10 (by decide) (by decide) ⟨rfl, rfl, rfl⟩
  · refine own_aloadN 1 Y dslen_0 rfl rfl rfl ?_
    refine own_getF 4 Y (host := "") (Or.inl (own_wd hw 22 rfl)) Via.refl F_a_value dslen_1 rfl fun T5 Y4 => ?_
    refine own_alen 5 Y4 V_d dslen_4 rfl ?_
    refine own_aloadN 6 Y4 dslen_5 rfl rfl rfl ?_
    refine own_callV 9 Y4 [] [(.int (6 : Int32))] X_a (own_wd hw 33 rfl) (own_wd hw 34 rfl) (notFace_of_selects (args := #[]) (mvT Y4.warm (own_wd hw 36 rfl))) (own_wd hw 36 rfl) (own_wd hw 35 rfl) (own_wd hw 4 rfl) (own_wd hw 37 rfl) (c_coder l Z a0 hw a (1 : Int32) rfl z fm _ n0 O WS F_a_coder) dslen_6 (by decide) (lenOf pdscoder rfl) rfl rfl (by decide) (Nat.le_of_ble_eq_true rfl) (by decide) (by decide) rfl fun v6 T6 h6 L6 Y6 hQ6 => ?_
    obtain ⟨rfl, rfl, rfl⟩ := hQ6
    show own_G p e below _ (T6.setTop (mkF m 9 #[.val (.ref a)] [(.int (1 : Int32)), (.int (6 : Int32))]))
    refine own_ishr 10 Y6 dslen_9 rfl ?_
    show own_G p e below _ (State.setTop _ (mkF m 10 #[.val (.ref a)] [(.int (3 : Int32))]))
    exact own_retI Y6 rfl dslen_10 (by decide) (by decide) ⟨rfl, rfl, rfl⟩
set_option maxRecDepth 65536 in
set_option maxHeartbeats 4000000 in
theorem c_cat_3_0 (l : Launch) (Z : State) (a0 : Array Value) (hw : ∀ d ∈ tables_1, d.before a0 Z = true) (a : Addr) (c0 c1 c2 : Int32) (hn0 : nar .char c0 = c0) (hn1 : nar .char c1 = c1) (hn2 : nar .char c2 = c2) (z : Int32) (fm : Value) (h0 : Heap) (n0 : Nat) (O : Old Z n0 h0) (WS : own_Ws Z z fm) (S_a : Scont_3 Z h0 a c0 c1 c2) : own_M l (⟨"java/lang/String", "charAt", "(I)C"⟩ : MethodName) jdk_42_method_56_code 2 (some .char) [] ({ frames := 4, cells := 0, slots := 0, locals := 53 } : Room) Z #[.ref a, .int (0 : Int32)] h0 (Qv (some (.int c0)) h0) := by
  refine own_met plscat (Lf := #[.val (.ref a), .val (.int (0 : Int32))]) (fun m => by first | (simp [entryFrame, mkF, argsToLocals, Value.category]; done) | rfl) ?_
  intro p e s m below meth c T Y
  obtain ⟨X_a, d, kd, F_a_value, ⟨hc0, hc1, hc2, F_a_coder, V_d⟩ | ⟨F_a_coder, V_d⟩⟩ := S_a
  · refine own_aloadN 1 Y dscat_0 rfl rfl rfl ?_
    refine own_callV 4 Y [] [] X_a (own_wd hw 54 rfl) (own_wd hw 55 rfl) (notFace_of_selects (args := #[]) (mvT Y.warm (own_wd hw 57 rfl))) (own_wd hw 57 rfl) (own_wd hw 56 rfl) (own_wd hw 4 rfl) (own_wd hw 58 rfl) (c_isl_0 l Z a0 hw a z fm _ n0 O WS F_a_coder) dscat_1 (by decide) (lenOf pdsisl rfl) rfl rfl (by decide) (Nat.le_of_ble_eq_true rfl) (by decide) (by decide) rfl fun v1 T1 h1 L1 Y1 hQ1 => ?_
    obtain ⟨rfl, rfl, rfl⟩ := hQ1
    show own_G p e below _ (T1.setTop (mkF m 4 #[.val (.ref a), .val (.int (0 : Int32))] [(.int (1 : Int32))]))
    refine own_ifF 7 Y1 dscat_4 (XT.i0_eq_f (by decide)) rfl ?_
    refine own_aloadN 8 Y1 dscat_7 rfl rfl rfl ?_
    refine own_getF 11 Y1 (host := "") (Or.inl (own_wd hw 22 rfl)) Via.refl F_a_value dscat_8 rfl fun T3 Y2 => ?_
    refine own_iloadN 12 Y2 dscat_11 rfl rfl ?_
    refine own_callS 15 Y2 [(.ref d), (.int (0 : Int32))] [] (own_wd hw 59 rfl) (own_wd hw 60 rfl) (own_wd hw 61 rfl) (own_wd hw 62 rfl) (c_lc l Z a0 hw (0 : Int32) _ c0 d kd _ _ z fm _ n0 O WS V_d ⟨by decide, by decide⟩ rfl (own_lat hn0 hc0)) dscat_12 (by decide) (lenOf pdslc rfl) rfl rfl (by decide) (Nat.le_of_ble_eq_true rfl) (by decide) (by decide) rfl fun v4 T4 h4 L4 Y4 hQ4 => ?_
    obtain ⟨rfl, rfl, rfl⟩ := hQ4
    show own_G p e below _ (T4.setTop (mkF m 15 #[.val (.ref a), .val (.int (0 : Int32))] [(.int c0)]))
    exact own_retN Y4 (t := .char) rfl (by simp) dscat_15 (by decide) (by decide) ⟨rfl, rfl, congrArg (fun z => some (Value.int z)) hn0⟩
  · refine own_aloadN 1 Y dscat_0 rfl rfl rfl ?_
    refine own_callV 4 Y [] [] X_a (own_wd hw 54 rfl) (own_wd hw 55 rfl) (notFace_of_selects (args := #[]) (mvT Y.warm (own_wd hw 57 rfl))) (own_wd hw 57 rfl) (own_wd hw 56 rfl) (own_wd hw 4 rfl) (own_wd hw 58 rfl) (c_isl_1 l Z a0 hw a z fm _ n0 O WS F_a_coder) dscat_1 (by decide) (lenOf pdsisl rfl) rfl rfl (by decide) (Nat.le_of_ble_eq_true rfl) (by decide) (by decide) rfl fun v5 T5 h5 L5 Y5 hQ5 => ?_
    obtain ⟨rfl, rfl, rfl⟩ := hQ5
    show own_G p e below _ (T5.setTop (mkF m 4 #[.val (.ref a), .val (.int (0 : Int32))] [(.int (0 : Int32))]))
    refine own_ifT 16 Y5 dscat_4 (XT.i0_eq_t (by decide)) (by decide) ?_
    refine own_aloadN 17 Y5 dscat_16 rfl rfl rfl ?_
    refine own_getF 20 Y5 (host := "") (Or.inl (own_wd hw 22 rfl)) Via.refl F_a_value dscat_17 rfl fun T7 Y6 => ?_
    refine own_iloadN 21 Y6 dscat_20 rfl rfl ?_
    refine own_callS 24 Y6 [(.ref d), (.int (0 : Int32))] [] (own_wd hw 97 rfl) (own_wd hw 98 rfl) (own_wd hw 41 rfl) (own_wd hw 99 rfl) (c_uc l Z a0 hw (0 : Int32) _ _ c0 hn0 d kd _ _ z fm _ n0 O WS V_d ⟨by decide, by decide⟩ rfl ⟨by decide, by decide⟩ rfl (own_u16 hn0) (by decide) (by decide)) dscat_21 (by decide) (lenOf pdsuc rfl) rfl rfl (by decide) (Nat.le_of_ble_eq_true rfl) (by decide) (by decide) rfl fun v8 T8 h8 L8 Y8 hQ8 => ?_
    obtain ⟨rfl, rfl, rfl⟩ := hQ8
    show own_G p e below _ (T8.setTop (mkF m 24 #[.val (.ref a), .val (.int (0 : Int32))] [(.int c0)]))
    exact own_retN Y8 (t := .char) rfl (by simp) dscat_24 (by decide) (by decide) ⟨rfl, rfl, congrArg (fun z => some (Value.int z)) hn0⟩
set_option maxRecDepth 65536 in
set_option maxHeartbeats 4000000 in
theorem c_cat_3_1 (l : Launch) (Z : State) (a0 : Array Value) (hw : ∀ d ∈ tables_1, d.before a0 Z = true) (a : Addr) (c0 c1 c2 : Int32) (hn0 : nar .char c0 = c0) (hn1 : nar .char c1 = c1) (hn2 : nar .char c2 = c2) (z : Int32) (fm : Value) (h0 : Heap) (n0 : Nat) (O : Old Z n0 h0) (WS : own_Ws Z z fm) (S_a : Scont_3 Z h0 a c0 c1 c2) : own_M l (⟨"java/lang/String", "charAt", "(I)C"⟩ : MethodName) jdk_42_method_56_code 2 (some .char) [] ({ frames := 4, cells := 0, slots := 0, locals := 53 } : Room) Z #[.ref a, .int (1 : Int32)] h0 (Qv (some (.int c1)) h0) := by
  refine own_met plscat (Lf := #[.val (.ref a), .val (.int (1 : Int32))]) (fun m => by first | (simp [entryFrame, mkF, argsToLocals, Value.category]; done) | rfl) ?_
  intro p e s m below meth c T Y
  obtain ⟨X_a, d, kd, F_a_value, ⟨hc0, hc1, hc2, F_a_coder, V_d⟩ | ⟨F_a_coder, V_d⟩⟩ := S_a
  · refine own_aloadN 1 Y dscat_0 rfl rfl rfl ?_
    refine own_callV 4 Y [] [] X_a (own_wd hw 54 rfl) (own_wd hw 55 rfl) (notFace_of_selects (args := #[]) (mvT Y.warm (own_wd hw 57 rfl))) (own_wd hw 57 rfl) (own_wd hw 56 rfl) (own_wd hw 4 rfl) (own_wd hw 58 rfl) (c_isl_0 l Z a0 hw a z fm _ n0 O WS F_a_coder) dscat_1 (by decide) (lenOf pdsisl rfl) rfl rfl (by decide) (Nat.le_of_ble_eq_true rfl) (by decide) (by decide) rfl fun v1 T1 h1 L1 Y1 hQ1 => ?_
    obtain ⟨rfl, rfl, rfl⟩ := hQ1
    show own_G p e below _ (T1.setTop (mkF m 4 #[.val (.ref a), .val (.int (1 : Int32))] [(.int (1 : Int32))]))
    refine own_ifF 7 Y1 dscat_4 (XT.i0_eq_f (by decide)) rfl ?_
    refine own_aloadN 8 Y1 dscat_7 rfl rfl rfl ?_
    refine own_getF 11 Y1 (host := "") (Or.inl (own_wd hw 22 rfl)) Via.refl F_a_value dscat_8 rfl fun T3 Y2 => ?_
    refine own_iloadN 12 Y2 dscat_11 rfl rfl ?_
    refine own_callS 15 Y2 [(.ref d), (.int (1 : Int32))] [] (own_wd hw 59 rfl) (own_wd hw 60 rfl) (own_wd hw 61 rfl) (own_wd hw 62 rfl) (c_lc l Z a0 hw (1 : Int32) _ c1 d kd _ _ z fm _ n0 O WS V_d ⟨by decide, by decide⟩ rfl (own_lat hn1 hc1)) dscat_12 (by decide) (lenOf pdslc rfl) rfl rfl (by decide) (Nat.le_of_ble_eq_true rfl) (by decide) (by decide) rfl fun v4 T4 h4 L4 Y4 hQ4 => ?_
    obtain ⟨rfl, rfl, rfl⟩ := hQ4
    show own_G p e below _ (T4.setTop (mkF m 15 #[.val (.ref a), .val (.int (1 : Int32))] [(.int c1)]))
    exact own_retN Y4 (t := .char) rfl (by simp) dscat_15 (by decide) (by decide) ⟨rfl, rfl, congrArg (fun z => some (Value.int z)) hn1⟩
  · refine own_aloadN 1 Y dscat_0 rfl rfl rfl ?_
    refine own_callV 4 Y [] [] X_a (own_wd hw 54 rfl) (own_wd hw 55 rfl) (notFace_of_selects (args := #[]) (mvT Y.warm (own_wd hw 57 rfl))) (own_wd hw 57 rfl) (own_wd hw 56 rfl) (own_wd hw 4 rfl) (own_wd hw 58 rfl) (c_isl_1 l Z a0 hw a z fm _ n0 O WS F_a_coder) dscat_1 (by decide) (lenOf pdsisl rfl) rfl rfl (by decide) (Nat.le_of_ble_eq_true rfl) (by decide) (by decide) rfl fun v5 T5 h5 L5 Y5 hQ5 => ?_
    obtain ⟨rfl, rfl, rfl⟩ := hQ5
    show own_G p e below _ (T5.setTop (mkF m 4 #[.val (.ref a), .val (.int (1 : Int32))] [(.int (0 : Int32))]))
    refine own_ifT 16 Y5 dscat_4 (XT.i0_eq_t (by decide)) (by decide) ?_
    refine own_aloadN 17 Y5 dscat_16 rfl rfl rfl ?_
    refine own_getF 20 Y5 (host := "") (Or.inl (own_wd hw 22 rfl)) Via.refl F_a_value dscat_17 rfl fun T7 Y6 => ?_
    refine own_iloadN 21 Y6 dscat_20 rfl rfl ?_
    refine own_callS 24 Y6 [(.ref d), (.int (1 : Int32))] [] (own_wd hw 97 rfl) (own_wd hw 98 rfl) (own_wd hw 41 rfl) (own_wd hw 99 rfl) (c_uc l Z a0 hw (1 : Int32) _ _ c1 hn1 d kd _ _ z fm _ n0 O WS V_d ⟨by decide, by decide⟩ rfl ⟨by decide, by decide⟩ rfl (own_u16 hn1) (by decide) (by decide)) dscat_21 (by decide) (lenOf pdsuc rfl) rfl rfl (by decide) (Nat.le_of_ble_eq_true rfl) (by decide) (by decide) rfl fun v8 T8 h8 L8 Y8 hQ8 => ?_
    obtain ⟨rfl, rfl, rfl⟩ := hQ8
    show own_G p e below _ (T8.setTop (mkF m 24 #[.val (.ref a), .val (.int (1 : Int32))] [(.int c1)]))
    exact own_retN Y8 (t := .char) rfl (by simp) dscat_24 (by decide) (by decide) ⟨rfl, rfl, congrArg (fun z => some (Value.int z)) hn1⟩
set_option maxRecDepth 65536 in
set_option maxHeartbeats 4000000 in
theorem c_cat_3_2 (l : Launch) (Z : State) (a0 : Array Value) (hw : ∀ d ∈ tables_1, d.before a0 Z = true) (a : Addr) (c0 c1 c2 : Int32) (hn0 : nar .char c0 = c0) (hn1 : nar .char c1 = c1) (hn2 : nar .char c2 = c2) (z : Int32) (fm : Value) (h0 : Heap) (n0 : Nat) (O : Old Z n0 h0) (WS : own_Ws Z z fm) (S_a : Scont_3 Z h0 a c0 c1 c2) : own_M l (⟨"java/lang/String", "charAt", "(I)C"⟩ : MethodName) jdk_42_method_56_code 2 (some .char) [] ({ frames := 4, cells := 0, slots := 0, locals := 53 } : Room) Z #[.ref a, .int (2 : Int32)] h0 (Qv (some (.int c2)) h0) := by
  refine own_met plscat (Lf := #[.val (.ref a), .val (.int (2 : Int32))]) (fun m => by first | (simp [entryFrame, mkF, argsToLocals, Value.category]; done) | rfl) ?_
  intro p e s m below meth c T Y
  obtain ⟨X_a, d, kd, F_a_value, ⟨hc0, hc1, hc2, F_a_coder, V_d⟩ | ⟨F_a_coder, V_d⟩⟩ := S_a
  · refine own_aloadN 1 Y dscat_0 rfl rfl rfl ?_
    refine own_callV 4 Y [] [] X_a (own_wd hw 54 rfl) (own_wd hw 55 rfl) (notFace_of_selects (args := #[]) (mvT Y.warm (own_wd hw 57 rfl))) (own_wd hw 57 rfl) (own_wd hw 56 rfl) (own_wd hw 4 rfl) (own_wd hw 58 rfl) (c_isl_0 l Z a0 hw a z fm _ n0 O WS F_a_coder) dscat_1 (by decide) (lenOf pdsisl rfl) rfl rfl (by decide) (Nat.le_of_ble_eq_true rfl) (by decide) (by decide) rfl fun v1 T1 h1 L1 Y1 hQ1 => ?_
    obtain ⟨rfl, rfl, rfl⟩ := hQ1
    show own_G p e below _ (T1.setTop (mkF m 4 #[.val (.ref a), .val (.int (2 : Int32))] [(.int (1 : Int32))]))
    refine own_ifF 7 Y1 dscat_4 (XT.i0_eq_f (by decide)) rfl ?_
    refine own_aloadN 8 Y1 dscat_7 rfl rfl rfl ?_
    refine own_getF 11 Y1 (host := "") (Or.inl (own_wd hw 22 rfl)) Via.refl F_a_value dscat_8 rfl fun T3 Y2 => ?_
    refine own_iloadN 12 Y2 dscat_11 rfl rfl ?_
    refine own_callS 15 Y2 [(.ref d), (.int (2 : Int32))] [] (own_wd hw 59 rfl) (own_wd hw 60 rfl) (own_wd hw 61 rfl) (own_wd hw 62 rfl) (c_lc l Z a0 hw (2 : Int32) _ c2 d kd _ _ z fm _ n0 O WS V_d ⟨by decide, by decide⟩ rfl (own_lat hn2 hc2)) dscat_12 (by decide) (lenOf pdslc rfl) rfl rfl (by decide) (Nat.le_of_ble_eq_true rfl) (by decide) (by decide) rfl fun v4 T4 h4 L4 Y4 hQ4 => ?_
    obtain ⟨rfl, rfl, rfl⟩ := hQ4
    show own_G p e below _ (T4.setTop (mkF m 15 #[.val (.ref a), .val (.int (2 : Int32))] [(.int c2)]))
    exact own_retN Y4 (t := .char) rfl (by simp) dscat_15 (by decide) (by decide) ⟨rfl, rfl, congrArg (fun z => some (Value.int z)) hn2⟩
  · refine own_aloadN 1 Y dscat_0 rfl rfl rfl ?_
    refine own_callV 4 Y [] [] X_a (own_wd hw 54 rfl) (own_wd hw 55 rfl) (notFace_of_selects (args := #[]) (mvT Y.warm (own_wd hw 57 rfl))) (own_wd hw 57 rfl) (own_wd hw 56 rfl) (own_wd hw 4 rfl) (own_wd hw 58 rfl) (c_isl_1 l Z a0 hw a z fm _ n0 O WS F_a_coder) dscat_1 (by decide) (lenOf pdsisl rfl) rfl rfl (by decide) (Nat.le_of_ble_eq_true rfl) (by decide) (by decide) rfl fun v5 T5 h5 L5 Y5 hQ5 => ?_
    obtain ⟨rfl, rfl, rfl⟩ := hQ5
    show own_G p e below _ (T5.setTop (mkF m 4 #[.val (.ref a), .val (.int (2 : Int32))] [(.int (0 : Int32))]))
    refine own_ifT 16 Y5 dscat_4 (XT.i0_eq_t (by decide)) (by decide) ?_
    refine own_aloadN 17 Y5 dscat_16 rfl rfl rfl ?_
    refine own_getF 20 Y5 (host := "") (Or.inl (own_wd hw 22 rfl)) Via.refl F_a_value dscat_17 rfl fun T7 Y6 => ?_
    refine own_iloadN 21 Y6 dscat_20 rfl rfl ?_
    refine own_callS 24 Y6 [(.ref d), (.int (2 : Int32))] [] (own_wd hw 97 rfl) (own_wd hw 98 rfl) (own_wd hw 41 rfl) (own_wd hw 99 rfl) (c_uc l Z a0 hw (2 : Int32) _ _ c2 hn2 d kd _ _ z fm _ n0 O WS V_d ⟨by decide, by decide⟩ rfl ⟨by decide, by decide⟩ rfl (own_u16 hn2) (by decide) (by decide)) dscat_21 (by decide) (lenOf pdsuc rfl) rfl rfl (by decide) (Nat.le_of_ble_eq_true rfl) (by decide) (by decide) rfl fun v8 T8 h8 L8 Y8 hQ8 => ?_
    obtain ⟨rfl, rfl, rfl⟩ := hQ8
    show own_G p e below _ (T8.setTop (mkF m 24 #[.val (.ref a), .val (.int (2 : Int32))] [(.int c2)]))
    exact own_retN Y8 (t := .char) rfl (by simp) dscat_24 (by decide) (by decide) ⟨rfl, rfl, congrArg (fun z => some (Value.int z)) hn2⟩
def Scont_4 (Z : State) (h : Heap) (a : Addr) (c0 c1 c2 c3 : Int32) : Prop := Exa Z h a "java/lang/String" ∧ ∃ (d : Addr) (kd : ClassId), Fld Z h a "java/lang/String" "value" "[B" (.ref d) ∧ ((¬ (255 : Int32) < c0 ∧ ¬ (255 : Int32) < c1 ∧ ¬ (255 : Int32) < c2 ∧ ¬ (255 : Int32) < c3 ∧ Fld Z h a "java/lang/String" "coder" "B" (.int (0 : Int32)) ∧ Arv Z h d kd .byte (4 : Int32) [(.int (nar .byte c0.toInt8.toInt32)), (.int (nar .byte c1.toInt8.toInt32)), (.int (nar .byte c2.toInt8.toInt32)), (.int (nar .byte c3.toInt8.toInt32))] (.int (0 : Int32))) ∨ (Fld Z h a "java/lang/String" "coder" "B" (.int (1 : Int32)) ∧ Arv Z h d kd .byte (8 : Int32) [(.int (nar .byte (c0 >>> ((0 : Int32) &&& 31)).toInt8.toInt32)), (.int (nar .byte (c0 >>> ((8 : Int32) &&& 31)).toInt8.toInt32)), (.int (nar .byte (c1 >>> ((0 : Int32) &&& 31)).toInt8.toInt32)), (.int (nar .byte (c1 >>> ((8 : Int32) &&& 31)).toInt8.toInt32)), (.int (nar .byte (c2 >>> ((0 : Int32) &&& 31)).toInt8.toInt32)), (.int (nar .byte (c2 >>> ((8 : Int32) &&& 31)).toInt8.toInt32)), (.int (nar .byte (c3 >>> ((0 : Int32) &&& 31)).toInt8.toInt32)), (.int (nar .byte (c3 >>> ((8 : Int32) &&& 31)).toInt8.toInt32))] (.int (0 : Int32))))
set_option maxRecDepth 65536 in
set_option maxHeartbeats 4000000 in
theorem c_len_4 (l : Launch) (Z : State) (a0 : Array Value) (hw : ∀ d ∈ tables_1, d.before a0 Z = true) (a : Addr) (c0 c1 c2 c3 : Int32) (hn0 : nar .char c0 = c0) (hn1 : nar .char c1 = c1) (hn2 : nar .char c2 = c2) (hn3 : nar .char c3 = c3) (z : Int32) (fm : Value) (h0 : Heap) (n0 : Nat) (O : Old Z n0 h0) (WS : own_Ws Z z fm) (S_a : Scont_4 Z h0 a c0 c1 c2 c3) : own_M l (⟨"java/lang/String", "length", "()I"⟩ : MethodName) jdk_42_method_54_code 1 (some .int) [] ({ frames := 1, cells := 0, slots := 0, locals := 13 } : Room) Z #[.ref a] h0 (Qv (some (.int (4 : Int32))) h0) := by
  refine own_met plslen (Lf := #[.val (.ref a)]) (fun m => by first | (simp [entryFrame, mkF, argsToLocals, Value.category]; done) | rfl) ?_
  intro p e s m below meth c T Y
  obtain ⟨X_a, d, kd, F_a_value, ⟨hc0, hc1, hc2, hc3, F_a_coder, V_d⟩ | ⟨F_a_coder, V_d⟩⟩ := S_a
  · refine own_aloadN 1 Y dslen_0 rfl rfl rfl ?_
    refine own_getF 4 Y (host := "") (Or.inl (own_wd hw 22 rfl)) Via.refl F_a_value dslen_1 rfl fun T2 Y1 => ?_
    refine own_alen 5 Y1 V_d dslen_4 rfl ?_
    refine own_aloadN 6 Y1 dslen_5 rfl rfl rfl ?_
    refine own_callV 9 Y1 [] [(.int (4 : Int32))] X_a (own_wd hw 33 rfl) (own_wd hw 34 rfl) (notFace_of_selects (args := #[]) (mvT Y1.warm (own_wd hw 36 rfl))) (own_wd hw 36 rfl) (own_wd hw 35 rfl) (own_wd hw 4 rfl) (own_wd hw 37 rfl) (c_coder l Z a0 hw a (0 : Int32) rfl z fm _ n0 O WS F_a_coder) dslen_6 (by decide) (lenOf pdscoder rfl) rfl rfl (by decide) (Nat.le_of_ble_eq_true rfl) (by decide) (by decide) rfl fun v3 T3 h3 L3 Y3 hQ3 => ?_
    obtain ⟨rfl, rfl, rfl⟩ := hQ3
    show own_G p e below _ (T3.setTop (mkF m 9 #[.val (.ref a)] [(.int (0 : Int32)), (.int (4 : Int32))]))
    refine own_ishr 10 Y3 dslen_9 rfl ?_
    show own_G p e below _ (State.setTop _ (mkF m 10 #[.val (.ref a)] [(.int (4 : Int32))]))
    exact own_retI Y3 rfl dslen_10 (by decide) (by decide) ⟨rfl, rfl, rfl⟩
  · refine own_aloadN 1 Y dslen_0 rfl rfl rfl ?_
    refine own_getF 4 Y (host := "") (Or.inl (own_wd hw 22 rfl)) Via.refl F_a_value dslen_1 rfl fun T5 Y4 => ?_
    refine own_alen 5 Y4 V_d dslen_4 rfl ?_
    refine own_aloadN 6 Y4 dslen_5 rfl rfl rfl ?_
    refine own_callV 9 Y4 [] [(.int (8 : Int32))] X_a (own_wd hw 33 rfl) (own_wd hw 34 rfl) (notFace_of_selects (args := #[]) (mvT Y4.warm (own_wd hw 36 rfl))) (own_wd hw 36 rfl) (own_wd hw 35 rfl) (own_wd hw 4 rfl) (own_wd hw 37 rfl) (c_coder l Z a0 hw a (1 : Int32) rfl z fm _ n0 O WS F_a_coder) dslen_6 (by decide) (lenOf pdscoder rfl) rfl rfl (by decide) (Nat.le_of_ble_eq_true rfl) (by decide) (by decide) rfl fun v6 T6 h6 L6 Y6 hQ6 => ?_
    obtain ⟨rfl, rfl, rfl⟩ := hQ6
    show own_G p e below _ (T6.setTop (mkF m 9 #[.val (.ref a)] [(.int (1 : Int32)), (.int (8 : Int32))]))
    refine own_ishr 10 Y6 dslen_9 rfl ?_
    show own_G p e below _ (State.setTop _ (mkF m 10 #[.val (.ref a)] [(.int (4 : Int32))]))
    exact own_retI Y6 rfl dslen_10 (by decide) (by decide) ⟨rfl, rfl, rfl⟩
set_option maxRecDepth 65536 in
set_option maxHeartbeats 4000000 in
theorem c_cat_4_0 (l : Launch) (Z : State) (a0 : Array Value) (hw : ∀ d ∈ tables_1, d.before a0 Z = true) (a : Addr) (c0 c1 c2 c3 : Int32) (hn0 : nar .char c0 = c0) (hn1 : nar .char c1 = c1) (hn2 : nar .char c2 = c2) (hn3 : nar .char c3 = c3) (z : Int32) (fm : Value) (h0 : Heap) (n0 : Nat) (O : Old Z n0 h0) (WS : own_Ws Z z fm) (S_a : Scont_4 Z h0 a c0 c1 c2 c3) : own_M l (⟨"java/lang/String", "charAt", "(I)C"⟩ : MethodName) jdk_42_method_56_code 2 (some .char) [] ({ frames := 4, cells := 0, slots := 0, locals := 53 } : Room) Z #[.ref a, .int (0 : Int32)] h0 (Qv (some (.int c0)) h0) := by
  refine own_met plscat (Lf := #[.val (.ref a), .val (.int (0 : Int32))]) (fun m => by first | (simp [entryFrame, mkF, argsToLocals, Value.category]; done) | rfl) ?_
  intro p e s m below meth c T Y
  obtain ⟨X_a, d, kd, F_a_value, ⟨hc0, hc1, hc2, hc3, F_a_coder, V_d⟩ | ⟨F_a_coder, V_d⟩⟩ := S_a
  · refine own_aloadN 1 Y dscat_0 rfl rfl rfl ?_
    refine own_callV 4 Y [] [] X_a (own_wd hw 54 rfl) (own_wd hw 55 rfl) (notFace_of_selects (args := #[]) (mvT Y.warm (own_wd hw 57 rfl))) (own_wd hw 57 rfl) (own_wd hw 56 rfl) (own_wd hw 4 rfl) (own_wd hw 58 rfl) (c_isl_0 l Z a0 hw a z fm _ n0 O WS F_a_coder) dscat_1 (by decide) (lenOf pdsisl rfl) rfl rfl (by decide) (Nat.le_of_ble_eq_true rfl) (by decide) (by decide) rfl fun v1 T1 h1 L1 Y1 hQ1 => ?_
    obtain ⟨rfl, rfl, rfl⟩ := hQ1
    show own_G p e below _ (T1.setTop (mkF m 4 #[.val (.ref a), .val (.int (0 : Int32))] [(.int (1 : Int32))]))
    refine own_ifF 7 Y1 dscat_4 (XT.i0_eq_f (by decide)) rfl ?_
    refine own_aloadN 8 Y1 dscat_7 rfl rfl rfl ?_
    refine own_getF 11 Y1 (host := "") (Or.inl (own_wd hw 22 rfl)) Via.refl F_a_value dscat_8 rfl fun T3 Y2 => ?_
    refine own_iloadN 12 Y2 dscat_11 rfl rfl ?_
    refine own_callS 15 Y2 [(.ref d), (.int (0 : Int32))] [] (own_wd hw 59 rfl) (own_wd hw 60 rfl) (own_wd hw 61 rfl) (own_wd hw 62 rfl) (c_lc l Z a0 hw (0 : Int32) _ c0 d kd _ _ z fm _ n0 O WS V_d ⟨by decide, by decide⟩ rfl (own_lat hn0 hc0)) dscat_12 (by decide) (lenOf pdslc rfl) rfl rfl (by decide) (Nat.le_of_ble_eq_true rfl) (by decide) (by decide) rfl fun v4 T4 h4 L4 Y4 hQ4 => ?_
    obtain ⟨rfl, rfl, rfl⟩ := hQ4
    show own_G p e below _ (T4.setTop (mkF m 15 #[.val (.ref a), .val (.int (0 : Int32))] [(.int c0)]))
    exact own_retN Y4 (t := .char) rfl (by simp) dscat_15 (by decide) (by decide) ⟨rfl, rfl, congrArg (fun z => some (Value.int z)) hn0⟩
  · refine own_aloadN 1 Y dscat_0 rfl rfl rfl ?_
    refine own_callV 4 Y [] [] X_a (own_wd hw 54 rfl) (own_wd hw 55 rfl) (notFace_of_selects (args := #[]) (mvT Y.warm (own_wd hw 57 rfl))) (own_wd hw 57 rfl) (own_wd hw 56 rfl) (own_wd hw 4 rfl) (own_wd hw 58 rfl) (c_isl_1 l Z a0 hw a z fm _ n0 O WS F_a_coder) dscat_1 (by decide) (lenOf pdsisl rfl) rfl rfl (by decide) (Nat.le_of_ble_eq_true rfl) (by decide) (by decide) rfl fun v5 T5 h5 L5 Y5 hQ5 => ?_
    obtain ⟨rfl, rfl, rfl⟩ := hQ5
    show own_G p e below _ (T5.setTop (mkF m 4 #[.val (.ref a), .val (.int (0 : Int32))] [(.int (0 : Int32))]))
    refine own_ifT 16 Y5 dscat_4 (XT.i0_eq_t (by decide)) (by decide) ?_
    refine own_aloadN 17 Y5 dscat_16 rfl rfl rfl ?_
    refine own_getF 20 Y5 (host := "") (Or.inl (own_wd hw 22 rfl)) Via.refl F_a_value dscat_17 rfl fun T7 Y6 => ?_
    refine own_iloadN 21 Y6 dscat_20 rfl rfl ?_
    refine own_callS 24 Y6 [(.ref d), (.int (0 : Int32))] [] (own_wd hw 97 rfl) (own_wd hw 98 rfl) (own_wd hw 41 rfl) (own_wd hw 99 rfl) (c_uc l Z a0 hw (0 : Int32) _ _ c0 hn0 d kd _ _ z fm _ n0 O WS V_d ⟨by decide, by decide⟩ rfl ⟨by decide, by decide⟩ rfl (own_u16 hn0) (by decide) (by decide)) dscat_21 (by decide) (lenOf pdsuc rfl) rfl rfl (by decide) (Nat.le_of_ble_eq_true rfl) (by decide) (by decide) rfl fun v8 T8 h8 L8 Y8 hQ8 => ?_
    obtain ⟨rfl, rfl, rfl⟩ := hQ8
    show own_G p e below _ (T8.setTop (mkF m 24 #[.val (.ref a), .val (.int (0 : Int32))] [(.int c0)]))
    exact own_retN Y8 (t := .char) rfl (by simp) dscat_24 (by decide) (by decide) ⟨rfl, rfl, congrArg (fun z => some (Value.int z)) hn0⟩
set_option maxRecDepth 65536 in
set_option maxHeartbeats 4000000 in
theorem c_cat_4_1 (l : Launch) (Z : State) (a0 : Array Value) (hw : ∀ d ∈ tables_1, d.before a0 Z = true) (a : Addr) (c0 c1 c2 c3 : Int32) (hn0 : nar .char c0 = c0) (hn1 : nar .char c1 = c1) (hn2 : nar .char c2 = c2) (hn3 : nar .char c3 = c3) (z : Int32) (fm : Value) (h0 : Heap) (n0 : Nat) (O : Old Z n0 h0) (WS : own_Ws Z z fm) (S_a : Scont_4 Z h0 a c0 c1 c2 c3) : own_M l (⟨"java/lang/String", "charAt", "(I)C"⟩ : MethodName) jdk_42_method_56_code 2 (some .char) [] ({ frames := 4, cells := 0, slots := 0, locals := 53 } : Room) Z #[.ref a, .int (1 : Int32)] h0 (Qv (some (.int c1)) h0) := by
  refine own_met plscat (Lf := #[.val (.ref a), .val (.int (1 : Int32))]) (fun m => by first | (simp [entryFrame, mkF, argsToLocals, Value.category]; done) | rfl) ?_
  intro p e s m below meth c T Y
  obtain ⟨X_a, d, kd, F_a_value, ⟨hc0, hc1, hc2, hc3, F_a_coder, V_d⟩ | ⟨F_a_coder, V_d⟩⟩ := S_a
  · refine own_aloadN 1 Y dscat_0 rfl rfl rfl ?_
    refine own_callV 4 Y [] [] X_a (own_wd hw 54 rfl) (own_wd hw 55 rfl) (notFace_of_selects (args := #[]) (mvT Y.warm (own_wd hw 57 rfl))) (own_wd hw 57 rfl) (own_wd hw 56 rfl) (own_wd hw 4 rfl) (own_wd hw 58 rfl) (c_isl_0 l Z a0 hw a z fm _ n0 O WS F_a_coder) dscat_1 (by decide) (lenOf pdsisl rfl) rfl rfl (by decide) (Nat.le_of_ble_eq_true rfl) (by decide) (by decide) rfl fun v1 T1 h1 L1 Y1 hQ1 => ?_
    obtain ⟨rfl, rfl, rfl⟩ := hQ1
    show own_G p e below _ (T1.setTop (mkF m 4 #[.val (.ref a), .val (.int (1 : Int32))] [(.int (1 : Int32))]))
    refine own_ifF 7 Y1 dscat_4 (XT.i0_eq_f (by decide)) rfl ?_
    refine own_aloadN 8 Y1 dscat_7 rfl rfl rfl ?_
    refine own_getF 11 Y1 (host := "") (Or.inl (own_wd hw 22 rfl)) Via.refl F_a_value dscat_8 rfl fun T3 Y2 => ?_
    refine own_iloadN 12 Y2 dscat_11 rfl rfl ?_
    refine own_callS 15 Y2 [(.ref d), (.int (1 : Int32))] [] (own_wd hw 59 rfl) (own_wd hw 60 rfl) (own_wd hw 61 rfl) (own_wd hw 62 rfl) (c_lc l Z a0 hw (1 : Int32) _ c1 d kd _ _ z fm _ n0 O WS V_d ⟨by decide, by decide⟩ rfl (own_lat hn1 hc1)) dscat_12 (by decide) (lenOf pdslc rfl) rfl rfl (by decide) (Nat.le_of_ble_eq_true rfl) (by decide) (by decide) rfl fun v4 T4 h4 L4 Y4 hQ4 => ?_
    obtain ⟨rfl, rfl, rfl⟩ := hQ4
    show own_G p e below _ (T4.setTop (mkF m 15 #[.val (.ref a), .val (.int (1 : Int32))] [(.int c1)]))
    exact own_retN Y4 (t := .char) rfl (by simp) dscat_15 (by decide) (by decide) ⟨rfl, rfl, congrArg (fun z => some (Value.int z)) hn1⟩
  · refine own_aloadN 1 Y dscat_0 rfl rfl rfl ?_
    refine own_callV 4 Y [] [] X_a (own_wd hw 54 rfl) (own_wd hw 55 rfl) (notFace_of_selects (args := #[]) (mvT Y.warm (own_wd hw 57 rfl))) (own_wd hw 57 rfl) (own_wd hw 56 rfl) (own_wd hw 4 rfl) (own_wd hw 58 rfl) (c_isl_1 l Z a0 hw a z fm _ n0 O WS F_a_coder) dscat_1 (by decide) (lenOf pdsisl rfl) rfl rfl (by decide) (Nat.le_of_ble_eq_true rfl) (by decide) (by decide) rfl fun v5 T5 h5 L5 Y5 hQ5 => ?_
    obtain ⟨rfl, rfl, rfl⟩ := hQ5
    show own_G p e below _ (T5.setTop (mkF m 4 #[.val (.ref a), .val (.int (1 : Int32))] [(.int (0 : Int32))]))
    refine own_ifT 16 Y5 dscat_4 (XT.i0_eq_t (by decide)) (by decide) ?_
    refine own_aloadN 17 Y5 dscat_16 rfl rfl rfl ?_
    refine own_getF 20 Y5 (host := "") (Or.inl (own_wd hw 22 rfl)) Via.refl F_a_value dscat_17 rfl fun T7 Y6 => ?_
    refine own_iloadN 21 Y6 dscat_20 rfl rfl ?_
    refine own_callS 24 Y6 [(.ref d), (.int (1 : Int32))] [] (own_wd hw 97 rfl) (own_wd hw 98 rfl) (own_wd hw 41 rfl) (own_wd hw 99 rfl) (c_uc l Z a0 hw (1 : Int32) _ _ c1 hn1 d kd _ _ z fm _ n0 O WS V_d ⟨by decide, by decide⟩ rfl ⟨by decide, by decide⟩ rfl (own_u16 hn1) (by decide) (by decide)) dscat_21 (by decide) (lenOf pdsuc rfl) rfl rfl (by decide) (Nat.le_of_ble_eq_true rfl) (by decide) (by decide) rfl fun v8 T8 h8 L8 Y8 hQ8 => ?_
    obtain ⟨rfl, rfl, rfl⟩ := hQ8
    show own_G p e below _ (T8.setTop (mkF m 24 #[.val (.ref a), .val (.int (1 : Int32))] [(.int c1)]))
    exact own_retN Y8 (t := .char) rfl (by simp) dscat_24 (by decide) (by decide) ⟨rfl, rfl, congrArg (fun z => some (Value.int z)) hn1⟩
set_option maxRecDepth 65536 in
set_option maxHeartbeats 4000000 in
theorem c_cat_4_2 (l : Launch) (Z : State) (a0 : Array Value) (hw : ∀ d ∈ tables_1, d.before a0 Z = true) (a : Addr) (c0 c1 c2 c3 : Int32) (hn0 : nar .char c0 = c0) (hn1 : nar .char c1 = c1) (hn2 : nar .char c2 = c2) (hn3 : nar .char c3 = c3) (z : Int32) (fm : Value) (h0 : Heap) (n0 : Nat) (O : Old Z n0 h0) (WS : own_Ws Z z fm) (S_a : Scont_4 Z h0 a c0 c1 c2 c3) : own_M l (⟨"java/lang/String", "charAt", "(I)C"⟩ : MethodName) jdk_42_method_56_code 2 (some .char) [] ({ frames := 4, cells := 0, slots := 0, locals := 53 } : Room) Z #[.ref a, .int (2 : Int32)] h0 (Qv (some (.int c2)) h0) := by
  refine own_met plscat (Lf := #[.val (.ref a), .val (.int (2 : Int32))]) (fun m => by first | (simp [entryFrame, mkF, argsToLocals, Value.category]; done) | rfl) ?_
  intro p e s m below meth c T Y
  obtain ⟨X_a, d, kd, F_a_value, ⟨hc0, hc1, hc2, hc3, F_a_coder, V_d⟩ | ⟨F_a_coder, V_d⟩⟩ := S_a
  · refine own_aloadN 1 Y dscat_0 rfl rfl rfl ?_
    refine own_callV 4 Y [] [] X_a (own_wd hw 54 rfl) (own_wd hw 55 rfl) (notFace_of_selects (args := #[]) (mvT Y.warm (own_wd hw 57 rfl))) (own_wd hw 57 rfl) (own_wd hw 56 rfl) (own_wd hw 4 rfl) (own_wd hw 58 rfl) (c_isl_0 l Z a0 hw a z fm _ n0 O WS F_a_coder) dscat_1 (by decide) (lenOf pdsisl rfl) rfl rfl (by decide) (Nat.le_of_ble_eq_true rfl) (by decide) (by decide) rfl fun v1 T1 h1 L1 Y1 hQ1 => ?_
    obtain ⟨rfl, rfl, rfl⟩ := hQ1
    show own_G p e below _ (T1.setTop (mkF m 4 #[.val (.ref a), .val (.int (2 : Int32))] [(.int (1 : Int32))]))
    refine own_ifF 7 Y1 dscat_4 (XT.i0_eq_f (by decide)) rfl ?_
    refine own_aloadN 8 Y1 dscat_7 rfl rfl rfl ?_
    refine own_getF 11 Y1 (host := "") (Or.inl (own_wd hw 22 rfl)) Via.refl F_a_value dscat_8 rfl fun T3 Y2 => ?_
    refine own_iloadN 12 Y2 dscat_11 rfl rfl ?_
    refine own_callS 15 Y2 [(.ref d), (.int (2 : Int32))] [] (own_wd hw 59 rfl) (own_wd hw 60 rfl) (own_wd hw 61 rfl) (own_wd hw 62 rfl) (c_lc l Z a0 hw (2 : Int32) _ c2 d kd _ _ z fm _ n0 O WS V_d ⟨by decide, by decide⟩ rfl (own_lat hn2 hc2)) dscat_12 (by decide) (lenOf pdslc rfl) rfl rfl (by decide) (Nat.le_of_ble_eq_true rfl) (by decide) (by decide) rfl fun v4 T4 h4 L4 Y4 hQ4 => ?_
    obtain ⟨rfl, rfl, rfl⟩ := hQ4
    show own_G p e below _ (T4.setTop (mkF m 15 #[.val (.ref a), .val (.int (2 : Int32))] [(.int c2)]))
    exact own_retN Y4 (t := .char) rfl (by simp) dscat_15 (by decide) (by decide) ⟨rfl, rfl, congrArg (fun z => some (Value.int z)) hn2⟩
  · refine own_aloadN 1 Y dscat_0 rfl rfl rfl ?_
    refine own_callV 4 Y [] [] X_a (own_wd hw 54 rfl) (own_wd hw 55 rfl) (notFace_of_selects (args := #[]) (mvT Y.warm (own_wd hw 57 rfl))) (own_wd hw 57 rfl) (own_wd hw 56 rfl) (own_wd hw 4 rfl) (own_wd hw 58 rfl) (c_isl_1 l Z a0 hw a z fm _ n0 O WS F_a_coder) dscat_1 (by decide) (lenOf pdsisl rfl) rfl rfl (by decide) (Nat.le_of_ble_eq_true rfl) (by decide) (by decide) rfl fun v5 T5 h5 L5 Y5 hQ5 => ?_
    obtain ⟨rfl, rfl, rfl⟩ := hQ5
    show own_G p e below _ (T5.setTop (mkF m 4 #[.val (.ref a), .val (.int (2 : Int32))] [(.int (0 : Int32))]))
    refine own_ifT 16 Y5 dscat_4 (XT.i0_eq_t (by decide)) (by decide) ?_
    refine own_aloadN 17 Y5 dscat_16 rfl rfl rfl ?_
    refine own_getF 20 Y5 (host := "") (Or.inl (own_wd hw 22 rfl)) Via.refl F_a_value dscat_17 rfl fun T7 Y6 => ?_
    refine own_iloadN 21 Y6 dscat_20 rfl rfl ?_
    refine own_callS 24 Y6 [(.ref d), (.int (2 : Int32))] [] (own_wd hw 97 rfl) (own_wd hw 98 rfl) (own_wd hw 41 rfl) (own_wd hw 99 rfl) (c_uc l Z a0 hw (2 : Int32) _ _ c2 hn2 d kd _ _ z fm _ n0 O WS V_d ⟨by decide, by decide⟩ rfl ⟨by decide, by decide⟩ rfl (own_u16 hn2) (by decide) (by decide)) dscat_21 (by decide) (lenOf pdsuc rfl) rfl rfl (by decide) (Nat.le_of_ble_eq_true rfl) (by decide) (by decide) rfl fun v8 T8 h8 L8 Y8 hQ8 => ?_
    obtain ⟨rfl, rfl, rfl⟩ := hQ8
    show own_G p e below _ (T8.setTop (mkF m 24 #[.val (.ref a), .val (.int (2 : Int32))] [(.int c2)]))
    exact own_retN Y8 (t := .char) rfl (by simp) dscat_24 (by decide) (by decide) ⟨rfl, rfl, congrArg (fun z => some (Value.int z)) hn2⟩
set_option maxRecDepth 65536 in
set_option maxHeartbeats 4000000 in
theorem c_cat_4_3 (l : Launch) (Z : State) (a0 : Array Value) (hw : ∀ d ∈ tables_1, d.before a0 Z = true) (a : Addr) (c0 c1 c2 c3 : Int32) (hn0 : nar .char c0 = c0) (hn1 : nar .char c1 = c1) (hn2 : nar .char c2 = c2) (hn3 : nar .char c3 = c3) (z : Int32) (fm : Value) (h0 : Heap) (n0 : Nat) (O : Old Z n0 h0) (WS : own_Ws Z z fm) (S_a : Scont_4 Z h0 a c0 c1 c2 c3) : own_M l (⟨"java/lang/String", "charAt", "(I)C"⟩ : MethodName) jdk_42_method_56_code 2 (some .char) [] ({ frames := 4, cells := 0, slots := 0, locals := 53 } : Room) Z #[.ref a, .int (3 : Int32)] h0 (Qv (some (.int c3)) h0) := by
  refine own_met plscat (Lf := #[.val (.ref a), .val (.int (3 : Int32))]) (fun m => by first | (simp [entryFrame, mkF, argsToLocals, Value.category]; done) | rfl) ?_
  intro p e s m below meth c T Y
  obtain ⟨X_a, d, kd, F_a_value, ⟨hc0, hc1, hc2, hc3, F_a_coder, V_d⟩ | ⟨F_a_coder, V_d⟩⟩ := S_a
  · refine own_aloadN 1 Y dscat_0 rfl rfl rfl ?_
    refine own_callV 4 Y [] [] X_a (own_wd hw 54 rfl) (own_wd hw 55 rfl) (notFace_of_selects (args := #[]) (mvT Y.warm (own_wd hw 57 rfl))) (own_wd hw 57 rfl) (own_wd hw 56 rfl) (own_wd hw 4 rfl) (own_wd hw 58 rfl) (c_isl_0 l Z a0 hw a z fm _ n0 O WS F_a_coder) dscat_1 (by decide) (lenOf pdsisl rfl) rfl rfl (by decide) (Nat.le_of_ble_eq_true rfl) (by decide) (by decide) rfl fun v1 T1 h1 L1 Y1 hQ1 => ?_
    obtain ⟨rfl, rfl, rfl⟩ := hQ1
    show own_G p e below _ (T1.setTop (mkF m 4 #[.val (.ref a), .val (.int (3 : Int32))] [(.int (1 : Int32))]))
    refine own_ifF 7 Y1 dscat_4 (XT.i0_eq_f (by decide)) rfl ?_
    refine own_aloadN 8 Y1 dscat_7 rfl rfl rfl ?_
    refine own_getF 11 Y1 (host := "") (Or.inl (own_wd hw 22 rfl)) Via.refl F_a_value dscat_8 rfl fun T3 Y2 => ?_
    refine own_iloadN 12 Y2 dscat_11 rfl rfl ?_
    refine own_callS 15 Y2 [(.ref d), (.int (3 : Int32))] [] (own_wd hw 59 rfl) (own_wd hw 60 rfl) (own_wd hw 61 rfl) (own_wd hw 62 rfl) (c_lc l Z a0 hw (3 : Int32) _ c3 d kd _ _ z fm _ n0 O WS V_d ⟨by decide, by decide⟩ rfl (own_lat hn3 hc3)) dscat_12 (by decide) (lenOf pdslc rfl) rfl rfl (by decide) (Nat.le_of_ble_eq_true rfl) (by decide) (by decide) rfl fun v4 T4 h4 L4 Y4 hQ4 => ?_
    obtain ⟨rfl, rfl, rfl⟩ := hQ4
    show own_G p e below _ (T4.setTop (mkF m 15 #[.val (.ref a), .val (.int (3 : Int32))] [(.int c3)]))
    exact own_retN Y4 (t := .char) rfl (by simp) dscat_15 (by decide) (by decide) ⟨rfl, rfl, congrArg (fun z => some (Value.int z)) hn3⟩
  · refine own_aloadN 1 Y dscat_0 rfl rfl rfl ?_
    refine own_callV 4 Y [] [] X_a (own_wd hw 54 rfl) (own_wd hw 55 rfl) (notFace_of_selects (args := #[]) (mvT Y.warm (own_wd hw 57 rfl))) (own_wd hw 57 rfl) (own_wd hw 56 rfl) (own_wd hw 4 rfl) (own_wd hw 58 rfl) (c_isl_1 l Z a0 hw a z fm _ n0 O WS F_a_coder) dscat_1 (by decide) (lenOf pdsisl rfl) rfl rfl (by decide) (Nat.le_of_ble_eq_true rfl) (by decide) (by decide) rfl fun v5 T5 h5 L5 Y5 hQ5 => ?_
    obtain ⟨rfl, rfl, rfl⟩ := hQ5
    show own_G p e below _ (T5.setTop (mkF m 4 #[.val (.ref a), .val (.int (3 : Int32))] [(.int (0 : Int32))]))
    refine own_ifT 16 Y5 dscat_4 (XT.i0_eq_t (by decide)) (by decide) ?_
    refine own_aloadN 17 Y5 dscat_16 rfl rfl rfl ?_
    refine own_getF 20 Y5 (host := "") (Or.inl (own_wd hw 22 rfl)) Via.refl F_a_value dscat_17 rfl fun T7 Y6 => ?_
    refine own_iloadN 21 Y6 dscat_20 rfl rfl ?_
    refine own_callS 24 Y6 [(.ref d), (.int (3 : Int32))] [] (own_wd hw 97 rfl) (own_wd hw 98 rfl) (own_wd hw 41 rfl) (own_wd hw 99 rfl) (c_uc l Z a0 hw (3 : Int32) _ _ c3 hn3 d kd _ _ z fm _ n0 O WS V_d ⟨by decide, by decide⟩ rfl ⟨by decide, by decide⟩ rfl (own_u16 hn3) (by decide) (by decide)) dscat_21 (by decide) (lenOf pdsuc rfl) rfl rfl (by decide) (Nat.le_of_ble_eq_true rfl) (by decide) (by decide) rfl fun v8 T8 h8 L8 Y8 hQ8 => ?_
    obtain ⟨rfl, rfl, rfl⟩ := hQ8
    show own_G p e below _ (T8.setTop (mkF m 24 #[.val (.ref a), .val (.int (3 : Int32))] [(.int c3)]))
    exact own_retN Y8 (t := .char) rfl (by simp) dscat_24 (by decide) (by decide) ⟨rfl, rfl, congrArg (fun z => some (Value.int z)) hn3⟩
def Qcmp5w_1 (Z : State) (d : Addr) (kd : ClassId) (c0 : Int32) (h0 : Heap) (n0 : Nat) (v : Option Value) (h : Heap) (L : List Loc) : Prop := Keep h0 h [d] ∧ Fr n0 L ∧ ((¬ (255 : Int32) < c0 ∧ v = some (.int (1 : Int32)) ∧ Arv Z h d kd .byte (1 : Int32) [(.int (nar .byte c0.toInt8.toInt32))] (.int (0 : Int32))) ∨ ((255 : Int32) < c0 ∧ v = some (.int (0 : Int32))))
set_option maxRecDepth 65536 in
set_option maxHeartbeats 4000000 in
theorem c_cmp5w_1 (l : Launch) (Z : State) (a0 : Array Value) (hw : ∀ d ∈ tables_1, d.before a0 Z = true) (b d : Addr) (kb kd : ClassId) (c0 : Int32) (hn0 : nar .char c0 = c0) (h0 : Heap) (n0 : Nat) (gd : n0 ≤ d) (nbd : b ≠ d) (V_b : Arv Z h0 b kb .char (1 : Int32) [(.int c0)] (.int (0 : Int32))) (V_d : Arv Z h0 d kd .byte (1 : Int32) [(.int (0 : Int32))] (.int (0 : Int32))) : own_M l (⟨"java/lang/StringUTF16", "compress", "([CI[BII)I"⟩ : MethodName) jdk_52_method_21_code 7 (some .int) [] ({ frames := 0, cells := 0, slots := 0, locals := 0 } : Room) Z #[.ref b, .int (0 : Int32), .ref d, .int (0 : Int32), .int (1 : Int32)] h0 (Qcmp5w_1 Z d kd c0 h0 n0) := by
  refine own_met plscmp5 (Lf := #[.val (.ref b), .val (.int (0 : Int32)), .val (.ref d), .val (.int (0 : Int32)), .val (.int (1 : Int32)), .unset, .unset]) (fun m => by first | (simp [entryFrame, mkF, argsToLocals, Value.category]; done) | rfl) ?_
  intro p e s m below meth c T Y
  have Kp := Keep.refl h0 [d]
  have N := Fr.nil n0
  refine own_iconst 1 Y (0 : Int32) dscmp5_0 rfl rfl ?_
  refine own_istore 3 Y #[.val (.ref b), .val (.int (0 : Int32)), .val (.ref d), .val (.int (0 : Int32)), .val (.int (1 : Int32)), .val (.int (0 : Int32)), .unset] dscmp5_1 rfl rfl ?_
  refine own_iload 5 Y dscmp5_3 rfl rfl ?_
  refine own_iload 7 Y dscmp5_5 rfl rfl ?_
  refine own_icF 10 Y dscmp5_7 (XT.ii_ge_f (by decide)) rfl ?_
  refine own_aloadN 11 Y dscmp5_10 rfl rfl rfl ?_
  refine own_iloadN 12 Y dscmp5_11 rfl rfl ?_
  refine own_caload 13 Y V_b dscmp5_12 ⟨by decide, by decide⟩ rfl rfl ?_
  refine own_istore 15 Y #[.val (.ref b), .val (.int (0 : Int32)), .val (.ref d), .val (.int (0 : Int32)), .val (.int (1 : Int32)), .val (.int (0 : Int32)), .val (.int c0)] dscmp5_13 rfl rfl ?_
  refine own_iload 17 Y dscmp5_15 rfl rfl ?_
  refine own_sipush 20 Y (255 : Int32) dscmp5_17 rfl rfl ?_
  refine own_ic_le 26 23 Y dscmp5_20 (by decide) rfl (fun q20 => ?_) (fun q20 => ?_)
  · have hc0 := q20
    refine own_aloadN 27 Y dscmp5_26 rfl rfl rfl ?_
    refine own_iloadN 28 Y dscmp5_27 rfl rfl ?_
    refine own_iload 30 Y dscmp5_28 rfl rfl ?_
    refine own_i2b 31 Y dscmp5_30 rfl ?_
    refine own_stB 32 Y V_d dscmp5_31 ⟨by decide, by decide⟩ rfl fun T1 h1 Y1 W1 A1 => ?_
    have V_b := V_b.other W1 nbd
    have Kp := Kp.wr W1 (Or.inl (List.mem_of_getElem? (i := 0) rfl))
    have N := own_frY Y1 N gd
    have V_d : Arv Z h1 d kd .byte (1 : Int32) [(.int (nar .byte c0.toInt8.toInt32))] (.int (0 : Int32)) := A1 0 rfl (Nat.le_of_ble_eq_true rfl) (fits_nar_byte _)
    refine own_iinc 35 Y1 #[.val (.ref b), .val (.int (1 : Int32)), .val (.ref d), .val (.int (0 : Int32)), .val (.int (1 : Int32)), .val (.int (0 : Int32)), .val (.int c0)] (1 : Int32) dscmp5_32 rfl rfl rfl rfl ?_
    refine own_iinc 38 Y1 #[.val (.ref b), .val (.int (1 : Int32)), .val (.ref d), .val (.int (1 : Int32)), .val (.int (1 : Int32)), .val (.int (0 : Int32)), .val (.int c0)] (1 : Int32) dscmp5_35 rfl rfl rfl rfl ?_
    refine own_iinc 41 Y1 #[.val (.ref b), .val (.int (1 : Int32)), .val (.ref d), .val (.int (1 : Int32)), .val (.int (1 : Int32)), .val (.int (1 : Int32)), .val (.int c0)] (1 : Int32) dscmp5_38 rfl rfl rfl rfl ?_
    refine own_goto 3 Y1 dscmp5_41 (by decide) ?_
    refine own_iload 5 Y1 dscmp5_3 rfl rfl ?_
    refine own_iload 7 Y1 dscmp5_5 rfl rfl ?_
    refine own_icT 44 Y1 dscmp5_7 (XT.ii_ge_t (by decide)) (by decide) ?_
    refine own_iload 46 Y1 dscmp5_44 rfl rfl ?_
    exact own_retI Y1 rfl dscmp5_46 (by decide) (by decide) ⟨Kp, N, Or.inl ⟨hc0, rfl, V_d⟩⟩
  · refine own_iload 25 Y dscmp5_23 rfl rfl ?_
    exact own_retI Y rfl dscmp5_25 (by decide) (by decide) ⟨Kp, N, Or.inr ⟨q20, rfl⟩⟩
def Qputc_1_0 (Z : State) (d : Addr) (kd : ClassId) (cc : Int32) (p0 p1 : Value) (h0 : Heap) (n0 : Nat) (v : Option Value) (h : Heap) (L : List Loc) : Prop := v = none ∧ Keep h0 h [d] ∧ Fr n0 L ∧ Arv Z h d kd .byte (2 : Int32) [(.int (nar .byte (cc >>> ((0 : Int32) &&& 31)).toInt8.toInt32)), (.int (nar .byte (cc >>> ((8 : Int32) &&& 31)).toInt8.toInt32))] (.int (0 : Int32))
set_option maxRecDepth 65536 in
set_option maxHeartbeats 4000000 in
theorem c_putc_1_0 (l : Launch) (Z : State) (a0 : Array Value) (hw : ∀ d ∈ tables_1, d.before a0 Z = true) (d : Addr) (kd : ClassId) (cc : Int32) (p0 p1 : Value) (z : Int32) (fm : Value) (h0 : Heap) (n0 : Nat) (O : Old Z n0 h0) (WS : own_Ws Z z fm) (gd : n0 ≤ d) (V_d : Arv Z h0 d kd .byte (2 : Int32) [p0, p1] (.int (0 : Int32))) : own_M l (⟨"java/lang/StringUTF16", "putChar", "([BII)V"⟩ : MethodName) jdk_52_method_4_code 3 none [] ({ frames := 0, cells := 0, slots := 0, locals := 0 } : Room) Z #[.ref d, .int (0 : Int32), .int cc] h0 (Qputc_1_0 Z d kd cc p0 p1 h0 n0) := by
  refine own_met plsputc (Lf := #[.val (.ref d), .val (.int (0 : Int32)), .val (.int cc)]) (fun m => by first | (simp [entryFrame, mkF, argsToLocals, Value.category]; done) | rfl) ?_
  intro p e s m below meth c T Y
  have Kp := Keep.refl h0 [d]
  have N := Fr.nil n0
  refine own_getS 3 Y (host := "") (Or.inl (own_wd hw 91 rfl)) Via.refl (WS.2.2.1.ext O.2) dsputc_0 rfl fun T2 Y1 => ?_
  refine own_ifT 28 Y1 dsputc_3 (XT.i0_ne_t (by decide)) (by decide) ?_
  refine own_iloadN 29 Y1 dsputc_28 rfl rfl ?_
  refine own_iconst 30 Y1 (1 : Int32) dsputc_29 rfl rfl ?_
  refine own_ishl 31 Y1 dsputc_30 rfl ?_
  show own_G p e below _ (State.setTop _ (mkF m 31 #[.val (.ref d), .val (.int (0 : Int32)), .val (.int cc)] [(.int (0 : Int32))]))
  refine own_istoreN 32 Y1 #[.val (.ref d), .val (.int (0 : Int32)), .val (.int cc)] dsputc_31 rfl rfl ?_
  refine own_aloadN 33 Y1 dsputc_32 rfl rfl rfl ?_
  refine own_iloadN 34 Y1 dsputc_33 rfl rfl ?_
  refine own_iinc 37 Y1 #[.val (.ref d), .val (.int (1 : Int32)), .val (.int cc)] (1 : Int32) dsputc_34 rfl rfl rfl rfl ?_
  refine own_iloadN 38 Y1 dsputc_37 rfl rfl ?_
  refine own_getS 41 Y1 (host := "") (Or.inl (own_wd hw 92 rfl)) Via.refl (WS.2.2.2.1.ext O.2) dsputc_38 rfl fun T4 Y3 => ?_
  refine own_ishr 42 Y3 dsputc_41 rfl ?_
  refine own_i2b 43 Y3 dsputc_42 rfl ?_
  refine own_stB 44 Y3 V_d dsputc_43 ⟨by decide, by decide⟩ rfl fun T5 h5 Y5 W5 A5 => ?_
  have Kp := Kp.wr W5 (Or.inl (List.mem_of_getElem? (i := 0) rfl))
  have N := own_frY Y5 N gd
  have O := O.wr W5 gd
  have V_d : Arv Z h5 d kd .byte (2 : Int32) [(.int (nar .byte (cc >>> ((0 : Int32) &&& 31)).toInt8.toInt32)), p1] (.int (0 : Int32)) := A5 0 rfl (Nat.le_of_ble_eq_true rfl) (fits_nar_byte _)
  refine own_aloadN 45 Y5 dsputc_44 rfl rfl rfl ?_
  refine own_iloadN 46 Y5 dsputc_45 rfl rfl ?_
  refine own_iloadN 47 Y5 dsputc_46 rfl rfl ?_
  refine own_getS 50 Y5 (host := "") (Or.inl (own_wd hw 93 rfl)) Via.refl (WS.2.2.2.2.1.ext O.2) dsputc_47 rfl fun T7 Y6 => ?_
  refine own_ishr 51 Y6 dsputc_50 rfl ?_
  refine own_i2b 52 Y6 dsputc_51 rfl ?_
  refine own_stB 53 Y6 V_d dsputc_52 ⟨by decide, by decide⟩ rfl fun T8 h8 Y8 W8 A8 => ?_
  have Kp := Kp.wr W8 (Or.inl (List.mem_of_getElem? (i := 0) rfl))
  have N := own_frY Y8 N gd
  have O := O.wr W8 gd
  have V_d : Arv Z h8 d kd .byte (2 : Int32) [(.int (nar .byte (cc >>> ((0 : Int32) &&& 31)).toInt8.toInt32)), (.int (nar .byte (cc >>> ((8 : Int32) &&& 31)).toInt8.toInt32))] (.int (0 : Int32)) := A8 1 rfl (Nat.le_of_ble_eq_true rfl) (fits_nar_byte _)
  exact own_retV Y8 rfl dsputc_53 (by decide) (by decide) ⟨rfl, Kp, N, V_d⟩
set_option maxRecDepth 65536 in
set_option maxHeartbeats 4000000 in
theorem c_nbl_1 (l : Launch) (Z : State) (a0 : Array Value) (hw : ∀ d ∈ tables_1, d.before a0 Z = true) (h0 : Heap) : own_M l (⟨"java/lang/StringUTF16", "newBytesLength", "(I)I"⟩ : MethodName) jdk_52_method_3_code 1 (some .int) [] ({ frames := 0, cells := 0, slots := 0, locals := 0 } : Room) Z #[.int (1 : Int32)] h0 (Qv (some (.int (2 : Int32))) h0) := by
  refine own_met plsnbl (Lf := #[.val (.int (1 : Int32))]) (fun m => by first | (simp [entryFrame, mkF, argsToLocals, Value.category]; done) | rfl) ?_
  intro p e s m below meth c T Y
  refine own_iloadN 1 Y dsnbl_0 rfl rfl ?_
  refine own_ifT 12 Y dsnbl_1 (XT.i0_ge_t (by decide)) (by decide) ?_
  refine own_iloadN 13 Y dsnbl_12 rfl rfl ?_
  refine own_ldcI 15 Y (own_wd hw 87 rfl) dsnbl_13 rfl ?_
  refine own_icT 55 Y dsnbl_15 (XT.ii_lt_t (by decide)) (by decide) ?_
  refine own_iloadN 56 Y dsnbl_55 rfl rfl ?_
  refine own_iconst 57 Y (1 : Int32) dsnbl_56 rfl rfl ?_
  refine own_ishl 58 Y dsnbl_57 rfl ?_
  show own_G p e below _ (State.setTop _ (mkF m 58 #[.val (.int (1 : Int32))] [(.int (2 : Int32))]))
  exact own_retI Y rfl dsnbl_58 (by decide) (by decide) ⟨rfl, rfl, rfl⟩
def Qnbf_1 (Z : State) (h0 : Heap) (n0 : Nat) (v : Option Value) (h : Heap) (L : List Loc) : Prop := ∃ (d : Addr) (kd : ClassId), v = some (.ref d) ∧ h0.size ≤ d ∧ Keep h0 h [] ∧ Fr n0 L ∧ Arv Z h d kd .byte (2 : Int32) [(.int (0 : Int32)), (.int (0 : Int32))] (.int (0 : Int32))
set_option maxRecDepth 65536 in
set_option maxHeartbeats 4000000 in
theorem c_nbf_1 (l : Launch) (Z : State) (a0 : Array Value) (hw : ∀ d ∈ tables_1, d.before a0 Z = true) (h0 : Heap) (n0 : Nat) (Zs : n0 ≤ h0.size) : own_M l (⟨"java/lang/StringUTF16", "newBytesFor", "(I)[B"⟩ : MethodName) jdk_52_method_2_code 1 (some (.array .byte)) [] ({ frames := 1, cells := 1, slots := 2, locals := 12 } : Room) Z #[.int (1 : Int32)] h0 (Qnbf_1 Z h0 n0) := by
  refine own_met plsnbf (Lf := #[.val (.int (1 : Int32))]) (fun m => by first | (simp [entryFrame, mkF, argsToLocals, Value.category]; done) | rfl) ?_
  intro p e s m below meth c T Y
  have Kp := Keep.refl h0 []
  have N := Fr.nil n0
  refine own_iloadN 1 Y dsnbf_0 rfl rfl ?_
  refine own_callS 4 Y [(.int (1 : Int32))] [] (own_wd hw 84 rfl) (own_wd hw 85 rfl) (own_wd hw 41 rfl) (own_wd hw 86 rfl) (c_nbl_1 l Z a0 hw _) dsnbf_1 (by decide) (lenOf pdsnbl rfl) rfl rfl (by decide) (Nat.le_of_ble_eq_true rfl) (by decide) (by decide) rfl fun v1 T1 h1 L1 Y1 hQ1 => ?_
  obtain ⟨rfl, rfl, rfl⟩ := hQ1
  have N := N.app (Fr.nil n0)
  show own_G p e below _ (T1.setTop (mkF m 4 #[.val (.int (1 : Int32))] [(.int (2 : Int32))]))
  refine own_newP 6 Y1 (own_wd hw 17 rfl) 2 dsnbf_4 (by decide) (by decide) (by decide) (by decide) (by decide) rfl fun T2 h2 d k_d Y2 g_d E2 V_d => ?_
  have gk_d := Nat.le_trans Kp.1 (Nat.le_of_eq g_d.symm)
  have gn_d : n0 ≤ d := by rw [g_d]; exact Zs
  have Kp := Kp.ext E2
  have Zs := Nat.le_trans Zs E2.1
  have V_d : Arv Z h2 d k_d .byte (2 : Int32) [(.int (0 : Int32)), (.int (0 : Int32))] (.int (0 : Int32)) := V_d.pad (pad_rep [] _ 2)
  exact own_retA Y2 rfl rfl rfl dsnbf_6 (by decide) (by decide) ⟨d, k_d, rfl, gk_d, Kp, N, V_d⟩
def Qtob_1 (Z : State) (c0 : Int32) (h0 : Heap) (n0 : Nat) (v : Option Value) (h : Heap) (L : List Loc) : Prop := ∃ (d : Addr) (kd : ClassId), v = some (.ref d) ∧ h0.size ≤ d ∧ Keep h0 h [] ∧ Fr n0 L ∧ Arv Z h d kd .byte (2 : Int32) [(.int (nar .byte (c0 >>> ((0 : Int32) &&& 31)).toInt8.toInt32)), (.int (nar .byte (c0 >>> ((8 : Int32) &&& 31)).toInt8.toInt32))] (.int (0 : Int32))
set_option maxRecDepth 65536 in
set_option maxHeartbeats 4000000 in
theorem c_tob_1 (l : Launch) (Z : State) (a0 : Array Value) (hw : ∀ d ∈ tables_1, d.before a0 Z = true) (b : Addr) (kb : ClassId) (c0 : Int32) (hn0 : nar .char c0 = c0) (z : Int32) (fm : Value) (h0 : Heap) (n0 : Nat) (O : Old Z n0 h0) (WS : own_Ws Z z fm) (Zs : n0 ≤ h0.size) (V_b : Arv Z h0 b kb .char (1 : Int32) [(.int c0)] (.int (0 : Int32))) : own_M l (⟨"java/lang/StringUTF16", "toBytes", "([CII)[B"⟩ : MethodName) jdk_52_method_14_code 5 (some (.array .byte)) [] ({ frames := 2, cells := 1, slots := 2, locals := 24 } : Room) Z #[.ref b, .int (0 : Int32), .int (1 : Int32)] h0 (Qtob_1 Z c0 h0 n0) := by
  refine own_met plstob (Lf := #[.val (.ref b), .val (.int (0 : Int32)), .val (.int (1 : Int32)), .unset, .unset]) (fun m => by first | (simp [entryFrame, mkF, argsToLocals, Value.category]; done) | rfl) ?_
  intro p e s m below meth c T Y
  have Kp := Keep.refl h0 []
  have N := Fr.nil n0
  refine own_iloadN 1 Y dstob_0 rfl rfl ?_
  refine own_callS 4 Y [(.int (1 : Int32))] [] (own_wd hw 81 rfl) (own_wd hw 82 rfl) (own_wd hw 41 rfl) (own_wd hw 83 rfl) (c_nbf_1 l Z a0 hw _ n0 Zs) dstob_1 (by decide) (lenOf pdsnbf rfl) rfl rfl (by decide) (Nat.le_of_ble_eq_true rfl) (by decide) (by decide) rfl fun v1 T1 h1 L1 Y1 hQ1 => ?_
  obtain ⟨d, kd, rfl, gk_d, K1, N1, V_d⟩ := hQ1
  have gn_d := Nat.le_trans Zs gk_d
  have ne_b_d : b ≠ d := Nat.ne_of_lt (Nat.lt_of_lt_of_le V_b.lt gk_d)
  have V_b := V_b.keep K1 nin0
  have Kp := Kp.trans K1 all0
  have N := N.app N1
  have Zs := Nat.le_trans Zs K1.1
  have O := O.keep K1 all0
  show own_G p e below _ (T1.setTop (mkF m 4 #[.val (.ref b), .val (.int (0 : Int32)), .val (.int (1 : Int32)), .unset, .unset] [(.ref d)]))
  refine own_astoreN 5 Y1 #[.val (.ref b), .val (.int (0 : Int32)), .val (.int (1 : Int32)), .val (.ref d), .unset] dstob_4 rfl rfl rfl ?_
  refine own_iconst 6 Y1 (0 : Int32) dstob_5 rfl rfl ?_
  refine own_istore 8 Y1 #[.val (.ref b), .val (.int (0 : Int32)), .val (.int (1 : Int32)), .val (.ref d), .val (.int (0 : Int32))] dstob_6 rfl rfl ?_
  refine own_iload 10 Y1 dstob_8 rfl rfl ?_
  refine own_iloadN 11 Y1 dstob_10 rfl rfl ?_
  refine own_icF 14 Y1 dstob_11 (XT.ii_ge_f (by decide)) rfl ?_
  refine own_aloadN 15 Y1 dstob_14 rfl rfl rfl ?_
  refine own_iload 17 Y1 dstob_15 rfl rfl ?_
  refine own_aloadN 18 Y1 dstob_17 rfl rfl rfl ?_
  refine own_iloadN 19 Y1 dstob_18 rfl rfl ?_
  refine own_caload 20 Y1 V_b dstob_19 ⟨by decide, by decide⟩ rfl rfl ?_
  refine own_callS 23 Y1 [(.ref d), (.int (0 : Int32)), (.int c0)] [] (own_wd hw 88 rfl) (own_wd hw 89 rfl) (own_wd hw 41 rfl) (own_wd hw 90 rfl) (c_putc_1_0 l Z a0 hw d kd c0 (.int (0 : Int32)) (.int (0 : Int32)) z fm _ n0 O WS gn_d V_d) dstob_20 (by decide) (lenOf pdsputc rfl) rfl rfl (by decide) (Nat.le_of_ble_eq_true rfl) (by decide) (by decide) rfl fun v2 T2 h2 L2 Y2 hQ2 => ?_
  obtain ⟨rfl, K2, N2, G2⟩ := hQ2
  have V_b := V_b.keep K2 (ninS ne_b_d nin0)
  have Kp := Kp.trans K2 (allS (Or.inr gk_d) all0)
  have N := N.app N2
  have Zs := Nat.le_trans Zs K2.1
  have O := O.keep K2 (allS gn_d all0)
  have V_d := G2
  show own_G p e below _ (T2.setTop (mkF m 23 #[.val (.ref b), .val (.int (0 : Int32)), .val (.int (1 : Int32)), .val (.ref d), .val (.int (0 : Int32))] []))
  refine own_iinc 26 Y2 #[.val (.ref b), .val (.int (1 : Int32)), .val (.int (1 : Int32)), .val (.ref d), .val (.int (0 : Int32))] (1 : Int32) dstob_23 rfl rfl rfl rfl ?_
  refine own_iinc 29 Y2 #[.val (.ref b), .val (.int (1 : Int32)), .val (.int (1 : Int32)), .val (.ref d), .val (.int (1 : Int32))] (1 : Int32) dstob_26 rfl rfl rfl rfl ?_
  refine own_goto 8 Y2 dstob_29 (by decide) ?_
  refine own_iload 10 Y2 dstob_8 rfl rfl ?_
  refine own_iloadN 11 Y2 dstob_10 rfl rfl ?_
  refine own_icT 32 Y2 dstob_11 (XT.ii_ge_t (by decide)) (by decide) ?_
  refine own_aloadN 33 Y2 dstob_32 rfl rfl rfl ?_
  exact own_retA Y2 rfl rfl rfl dstob_33 (by decide) (by decide) ⟨d, kd, rfl, gk_d, Kp, N, V_d⟩
def Qcmp3w_1 (Z : State) (c0 : Int32) (h0 : Heap) (n0 : Nat) (v : Option Value) (h : Heap) (L : List Loc) : Prop := ∃ (d : Addr) (kd : ClassId), v = some (.ref d) ∧ h0.size ≤ d ∧ Keep h0 h [] ∧ Fr n0 L ∧ ((¬ (255 : Int32) < c0 ∧ Arv Z h d kd .byte (1 : Int32) [(.int (nar .byte c0.toInt8.toInt32))] (.int (0 : Int32))) ∨ Arv Z h d kd .byte (2 : Int32) [(.int (nar .byte (c0 >>> ((0 : Int32) &&& 31)).toInt8.toInt32)), (.int (nar .byte (c0 >>> ((8 : Int32) &&& 31)).toInt8.toInt32))] (.int (0 : Int32)))
set_option maxRecDepth 65536 in
set_option maxHeartbeats 4000000 in
theorem c_cmp3w_1 (l : Launch) (Z : State) (a0 : Array Value) (hw : ∀ d ∈ tables_1, d.before a0 Z = true) (b : Addr) (kb : ClassId) (c0 : Int32) (hn0 : nar .char c0 = c0) (z : Int32) (fm : Value) (h0 : Heap) (n0 : Nat) (O : Old Z n0 h0) (WS : own_Ws Z z fm) (Zs : n0 ≤ h0.size) (V_b : Arv Z h0 b kb .char (1 : Int32) [(.int c0)] (.int (0 : Int32))) : own_M l (⟨"java/lang/StringUTF16", "compress", "([CII)[B"⟩ : MethodName) jdk_52_method_16_code 6 (some (.array .byte)) [] ({ frames := 3, cells := 2, slots := 3, locals := 40 } : Room) Z #[.ref b, .int (0 : Int32), .int (1 : Int32)] h0 (Qcmp3w_1 Z c0 h0 n0) := by
  refine own_met plscmp3 (Lf := #[.val (.ref b), .val (.int (0 : Int32)), .val (.int (1 : Int32)), .unset, .unset, .unset]) (fun m => by first | (simp [entryFrame, mkF, argsToLocals, Value.category]; done) | rfl) ?_
  intro p e s m below meth c T Y
  have Kp := Keep.refl h0 []
  have N := Fr.nil n0
  refine own_iloadN 1 Y dscmp3_0 rfl rfl ?_
  refine own_newP 3 Y (own_wd hw 17 rfl) 1 dscmp3_1 (by decide) (by decide) (by decide) (by decide) (by decide) rfl fun T1 h1 d k_d Y1 g_d E1 V_d => ?_
  have ne_b_d : b ≠ d := by rw [g_d]; exact Nat.ne_of_lt V_b.lt
  have gk_d := Nat.le_trans Kp.1 (Nat.le_of_eq g_d.symm)
  have gn_d : n0 ≤ d := by rw [g_d]; exact Zs
  have V_b := V_b.ext E1
  have Kp := Kp.ext E1
  have Zs := Nat.le_trans Zs E1.1
  have O := O.ext E1
  have V_d : Arv Z h1 d k_d .byte (1 : Int32) [(.int (0 : Int32))] (.int (0 : Int32)) := V_d.pad (pad_rep [] _ 1)
  refine own_astoreN 4 Y1 #[.val (.ref b), .val (.int (0 : Int32)), .val (.int (1 : Int32)), .val (.ref d), .unset, .unset] dscmp3_3 rfl rfl rfl ?_
  refine own_aloadN 5 Y1 dscmp3_4 rfl rfl rfl ?_
  refine own_iloadN 6 Y1 dscmp3_5 rfl rfl ?_
  refine own_aloadN 7 Y1 dscmp3_6 rfl rfl rfl ?_
  refine own_iconst 8 Y1 (0 : Int32) dscmp3_7 rfl rfl ?_
  refine own_iloadN 9 Y1 dscmp3_8 rfl rfl ?_
  refine own_callS 12 Y1 [(.ref b), (.int (0 : Int32)), (.ref d), (.int (0 : Int32)), (.int (1 : Int32))] [] (own_wd hw 43 rfl) (own_wd hw 44 rfl) (own_wd hw 41 rfl) (own_wd hw 45 rfl) (c_cmp5w_1 l Z a0 hw b d kb k_d c0 hn0 _ n0 gn_d ne_b_d V_b V_d) dscmp3_9 (by decide) (lenOf pdscmp5 rfl) rfl rfl (by decide) (Nat.le_of_ble_eq_true rfl) (by decide) (by decide) rfl fun v2 T2 h2 L2 Y2 hQ2 => ?_
  obtain ⟨K2, N2, D2⟩ := hQ2
  have V_b := V_b.keep K2 (ninS ne_b_d nin0)
  have Kp := Kp.trans K2 (allS (Or.inr gk_d) all0)
  have N := N.app N2
  have Zs := Nat.le_trans Zs K2.1
  have O := O.keep K2 (allS gn_d all0)
  rcases D2 with ⟨hc0, rfl, V_d⟩ | ⟨hwd, rfl⟩
  · show own_G p e below _ (T2.setTop (mkF m 12 #[.val (.ref b), .val (.int (0 : Int32)), .val (.int (1 : Int32)), .val (.ref d), .unset, .unset] [(.int (1 : Int32))]))
    refine own_istore 14 Y2 #[.val (.ref b), .val (.int (0 : Int32)), .val (.int (1 : Int32)), .val (.ref d), .val (.int (1 : Int32)), .unset] dscmp3_12 rfl rfl ?_
    refine own_iload 16 Y2 dscmp3_14 rfl rfl ?_
    refine own_iloadN 17 Y2 dscmp3_16 rfl rfl ?_
    refine own_icT 57 Y2 dscmp3_17 (XT.ii_eq_t (by decide)) (by decide) ?_
    refine own_aloadN 58 Y2 dscmp3_57 rfl rfl rfl ?_
    exact own_retA Y2 rfl rfl rfl dscmp3_58 (by decide) (by decide) ⟨d, k_d, rfl, gk_d, Kp, N, Or.inl ⟨hc0, V_d⟩⟩
  · show own_G p e below _ (T2.setTop (mkF m 12 #[.val (.ref b), .val (.int (0 : Int32)), .val (.int (1 : Int32)), .val (.ref d), .unset, .unset] [(.int (0 : Int32))]))
    refine own_istore 14 Y2 #[.val (.ref b), .val (.int (0 : Int32)), .val (.int (1 : Int32)), .val (.ref d), .val (.int (0 : Int32)), .unset] dscmp3_12 rfl rfl ?_
    refine own_iload 16 Y2 dscmp3_14 rfl rfl ?_
    refine own_iloadN 17 Y2 dscmp3_16 rfl rfl ?_
    refine own_icF 20 Y2 dscmp3_17 (XT.ii_eq_f (by decide)) rfl ?_
    refine own_aloadN 21 Y2 dscmp3_20 rfl rfl rfl ?_
    refine own_iloadN 22 Y2 dscmp3_21 rfl rfl ?_
    refine own_iloadN 23 Y2 dscmp3_22 rfl rfl ?_
    refine own_callS 26 Y2 [(.ref b), (.int (0 : Int32)), (.int (1 : Int32))] [] (own_wd hw 78 rfl) (own_wd hw 79 rfl) (own_wd hw 41 rfl) (own_wd hw 80 rfl) (c_tob_1 l Z a0 hw b kb c0 hn0 z fm _ n0 O WS Zs V_b) dscmp3_23 (by decide) (lenOf pdstob rfl) rfl rfl (by decide) (Nat.le_of_ble_eq_true rfl) (by decide) (by decide) rfl fun v3 T3 h3 L3 Y3 hQ3 => ?_
    obtain ⟨u, ku, rfl, gu, K3, N3, V_u⟩ := hQ3
    have gk_u := Nat.le_trans Kp.1 gu
    have V_b := V_b.keep K3 nin0
    have Kp := Kp.trans K3 all0
    have N := N.app N3
    have Zs := Nat.le_trans Zs K3.1
    have O := O.keep K3 all0
    show own_G p e below _ (T3.setTop (mkF m 26 #[.val (.ref b), .val (.int (0 : Int32)), .val (.int (1 : Int32)), .val (.ref d), .val (.int (0 : Int32)), .unset] [(.ref u)]))
    refine own_astore 28 Y3 #[.val (.ref b), .val (.int (0 : Int32)), .val (.int (1 : Int32)), .val (.ref d), .val (.int (0 : Int32)), .val (.ref u)] dscmp3_26 rfl rfl rfl ?_
    refine own_aload 30 Y3 dscmp3_28 rfl rfl rfl ?_
    refine own_iload 32 Y3 dscmp3_30 rfl rfl ?_
    refine own_callS 35 Y3 [(.ref u), (.int (0 : Int32))] [] (own_wd hw 94 rfl) (own_wd hw 95 rfl) (own_wd hw 41 rfl) (own_wd hw 96 rfl) (c_getc l Z a0 hw (0 : Int32) _ _ c0 u ku _ _ z fm _ n0 O WS V_u ⟨by decide, by decide⟩ rfl ⟨by decide, by decide⟩ rfl (own_u16 hn0)) dscmp3_32 (by decide) (lenOf pdsgetc rfl) rfl rfl (by decide) (Nat.le_of_ble_eq_true rfl) (by decide) (by decide) rfl fun v4 T4 h4 L4 Y4 hQ4 => ?_
    obtain ⟨rfl, rfl, rfl⟩ := hQ4
    have N := N.app (Fr.nil n0)
    show own_G p e below _ (T4.setTop (mkF m 35 #[.val (.ref b), .val (.int (0 : Int32)), .val (.int (1 : Int32)), .val (.ref d), .val (.int (0 : Int32)), .val (.ref u)] [(.int c0)]))
    refine own_sipush 38 Y4 (255 : Int32) dscmp3_35 rfl rfl ?_
    refine own_icT 54 Y4 dscmp3_38 (XT.ii_gt_t hwd) (by decide) ?_
    refine own_aload 56 Y4 dscmp3_54 rfl rfl rfl ?_
    exact own_retA Y4 rfl rfl rfl dscmp3_56 (by decide) (by decide) ⟨u, ku, rfl, gk_u, Kp, N, Or.inr V_u⟩
set_option maxRecDepth 65536 in
set_option maxHeartbeats 4000000 in
theorem c_codlw_1_0 (l : Launch) (Z : State) (a0 : Array Value) (hw : ∀ d ∈ tables_1, d.before a0 Z = true) (d : Addr) (kd : ClassId) (vs : List Value) (h0 : Heap) (V_d : Arv Z h0 d kd .byte (1 : Int32) vs (.int (0 : Int32))) : own_M l (⟨"java/lang/StringUTF16", "coderFromArrayLen", "([BI)B"⟩ : MethodName) jdk_52_method_15_code 2 (some .byte) [] ({ frames := 0, cells := 0, slots := 0, locals := 0 } : Room) Z #[.ref d, .int (1 : Int32)] h0 (Qv (some (.int (0 : Int32))) h0) := by
  refine own_met plscodl (Lf := #[.val (.ref d), .val (.int (1 : Int32))]) (fun m => by first | (simp [entryFrame, mkF, argsToLocals, Value.category]; done) | rfl) ?_
  intro p e s m below meth c T Y
  refine own_iloadN 1 Y dscodl_0 rfl rfl ?_
  refine own_aloadN 2 Y dscodl_1 rfl rfl rfl ?_
  refine own_alen 3 Y V_d dscodl_2 rfl ?_
  refine own_isub 4 Y dscodl_3 rfl ?_
  show own_G p e below _ (State.setTop _ (mkF m 4 #[.val (.ref d), .val (.int (1 : Int32))] [(.int (0 : Int32))]))
  refine own_bipush 6 Y (31 : Int32) dscodl_4 rfl rfl ?_
  refine own_iushr 7 Y dscodl_6 rfl ?_
  refine own_i2b 8 Y dscodl_7 rfl ?_
  exact own_retN Y (t := .byte) rfl (by simp) dscodl_8 (by decide) (by decide) ⟨rfl, rfl, rfl⟩
set_option maxRecDepth 65536 in
set_option maxHeartbeats 4000000 in
theorem c_codlw_1_1 (l : Launch) (Z : State) (a0 : Array Value) (hw : ∀ d ∈ tables_1, d.before a0 Z = true) (d : Addr) (kd : ClassId) (vs : List Value) (h0 : Heap) (V_d : Arv Z h0 d kd .byte (2 : Int32) vs (.int (0 : Int32))) : own_M l (⟨"java/lang/StringUTF16", "coderFromArrayLen", "([BI)B"⟩ : MethodName) jdk_52_method_15_code 2 (some .byte) [] ({ frames := 0, cells := 0, slots := 0, locals := 0 } : Room) Z #[.ref d, .int (1 : Int32)] h0 (Qv (some (.int (1 : Int32))) h0) := by
  refine own_met plscodl (Lf := #[.val (.ref d), .val (.int (1 : Int32))]) (fun m => by first | (simp [entryFrame, mkF, argsToLocals, Value.category]; done) | rfl) ?_
  intro p e s m below meth c T Y
  refine own_iloadN 1 Y dscodl_0 rfl rfl ?_
  refine own_aloadN 2 Y dscodl_1 rfl rfl rfl ?_
  refine own_alen 3 Y V_d dscodl_2 rfl ?_
  refine own_isub 4 Y dscodl_3 rfl ?_
  show own_G p e below _ (State.setTop _ (mkF m 4 #[.val (.ref d), .val (.int (1 : Int32))] [(.int (-1 : Int32))]))
  refine own_bipush 6 Y (31 : Int32) dscodl_4 rfl rfl ?_
  refine own_iushr 7 Y dscodl_6 rfl ?_
  refine own_i2b 8 Y dscodl_7 rfl ?_
  exact own_retN Y (t := .byte) rfl (by simp) dscodl_8 (by decide) (by decide) ⟨rfl, rfl, rfl⟩
def Qneww_1 (Z : State) (a : Addr) (c0 : Int32) (h0 : Heap) (n0 : Nat) (v : Option Value) (h : Heap) (L : List Loc) : Prop := v = none ∧ Keep h0 h [a] ∧ Fr n0 L ∧ Scont_1 Z h a c0
set_option maxRecDepth 65536 in
set_option maxHeartbeats 4000000 in
theorem c_new4w_1 (l : Launch) (Z : State) (a0 : Array Value) (hw : ∀ d ∈ tables_1, d.before a0 Z = true) (a b : Addr) (kb : ClassId) (c0 : Int32) (hn0 : nar .char c0 = c0) (z : Int32) (fm : Value) (h0 : Heap) (n0 : Nat) (O : Old Z n0 h0) (WS : own_Ws Z z fm) (Zs : n0 ≤ h0.size) (ga : n0 ≤ a) (nab : a ≠ b) (u1 u2 : Value) (X_a : Exa Z h0 a "java/lang/String") (F_a_value : Fld Z h0 a "java/lang/String" "value" "[B" u1) (F_a_coder : Fld Z h0 a "java/lang/String" "coder" "B" u2) (V_b : Arv Z h0 b kb .char (1 : Int32) [(.int c0)] (.int (0 : Int32))) : own_M l (⟨"java/lang/String", "<init>", "([CIILjava/lang/Void;)V"⟩ : MethodName) jdk_42_method_149_code 6 none [] ({ frames := 4, cells := 2, slots := 3, locals := 57 } : Room) Z #[.ref a, .ref b, .int (0 : Int32), .int (1 : Int32), .null] h0 (Qneww_1 Z a c0 h0 n0) := by
  refine own_met plsnew4 (Lf := #[.val (.ref a), .val (.ref b), .val (.int (0 : Int32)), .val (.int (1 : Int32)), .val .null, .unset]) (fun m => by first | (simp [entryFrame, mkF, argsToLocals, Value.category]; done) | rfl) ?_
  intro p e s m below meth c T Y
  have Kp := Keep.refl h0 [a]
  have N := Fr.nil n0
  refine own_aloadN 1 Y dsnew4_0 rfl rfl rfl ?_
  refine own_initO 4 Y (own_wd hw 13 rfl) (own_wd hw 14 rfl) (own_wd hw 15 rfl) dsnew4_1 rfl (by decide) (by decide) rfl fun T2 Y1 => ?_
  refine own_iloadN 5 Y1 dsnew4_4 rfl rfl ?_
  refine own_ifT 27 Y1 dsnew4_5 (XT.i0_ne_t (by decide)) (by decide) ?_
  refine own_getS 30 Y1 (host := "") (Or.inl (own_wd hw 38 rfl)) Via.refl (WS.1.ext O.2) dsnew4_27 rfl fun T4 Y3 => ?_
  refine own_ifF 33 Y3 dsnew4_30 (XT.i0_eq_f WS.2.1) rfl ?_
  refine own_aloadN 34 Y3 dsnew4_33 rfl rfl rfl ?_
  refine own_iloadN 35 Y3 dsnew4_34 rfl rfl ?_
  refine own_iloadN 36 Y3 dsnew4_35 rfl rfl ?_
  refine own_callS 39 Y3 [(.ref b), (.int (0 : Int32)), (.int (1 : Int32))] [] (own_wd hw 39 rfl) (own_wd hw 40 rfl) (own_wd hw 41 rfl) (own_wd hw 42 rfl) (c_cmp3w_1 l Z a0 hw b kb c0 hn0 z fm _ n0 O WS Zs V_b) dsnew4_36 (by decide) (lenOf pdscmp3 rfl) rfl rfl (by decide) (Nat.le_of_ble_eq_true rfl) (by decide) (by decide) rfl fun v5 T5 h5 L5 Y5 hQ5 => ?_
  obtain ⟨d, kd, rfl, gk_d, K5, N5, D⟩ := hQ5
  have gn_d := Nat.le_trans Zs gk_d
  have ne_a_d : a ≠ d := Nat.ne_of_lt (Nat.lt_of_lt_of_le X_a.lt gk_d)
  have X_a := X_a.keep K5
  have F_a_value := F_a_value.keep K5 nin0
  have F_a_coder := F_a_coder.keep K5 nin0
  have V_b := V_b.keep K5 nin0
  have Kp := Kp.trans K5 all0
  have N := N.app N5
  have Zs := Nat.le_trans Zs K5.1
  have O := O.keep K5 all0
  rcases D with ⟨hc0, V_d⟩ | V_d
  · show own_G p e below _ (T5.setTop (mkF m 39 #[.val (.ref a), .val (.ref b), .val (.int (0 : Int32)), .val (.int (1 : Int32)), .val .null, .unset] [(.ref d)]))
    refine own_astore 41 Y5 #[.val (.ref a), .val (.ref b), .val (.int (0 : Int32)), .val (.int (1 : Int32)), .val .null, .val (.ref d)] dsnew4_39 rfl rfl rfl ?_
    refine own_aloadN 42 Y5 dsnew4_41 rfl rfl rfl ?_
    refine own_aload 44 Y5 dsnew4_42 rfl rfl rfl ?_
    refine own_iloadN 45 Y5 dsnew4_44 rfl rfl ?_
    refine own_callS 48 Y5 [(.ref d), (.int (1 : Int32))] [(.ref a)] (own_wd hw 46 rfl) (own_wd hw 47 rfl) (own_wd hw 41 rfl) (own_wd hw 48 rfl) (c_codlw_1_0 l Z a0 hw d kd _ _ V_d) dsnew4_45 (by decide) (lenOf pdscodl rfl) rfl rfl (by decide) (Nat.le_of_ble_eq_true rfl) (by decide) (by decide) rfl fun v6 T6 h6 L6 Y6 hQ6 => ?_
    obtain ⟨rfl, rfl, rfl⟩ := hQ6
    have N := N.app (Fr.nil n0)
    show own_G p e below _ (T6.setTop (mkF m 48 #[.val (.ref a), .val (.ref b), .val (.int (0 : Int32)), .val (.int (1 : Int32)), .val .null, .val (.ref d)] [(.int (0 : Int32)), (.ref a)]))
    refine own_putFN 51 Y6 (own_wd hw 23 rfl) Via.refl F_a_coder X_a (Or.inr ⟨(own_wd hw 19 rfl), rfl, rfl⟩) (own_wd hw 3 rfl) (ty := .byte) (v' := (.int (0 : Int32))) (by decide) rfl rfl dsnew4_48 rfl fun T7 h7 Y7 W7 => ?_
    have X_a := X_a.wr W7
    have F_a_value := F_a_value.other W7 (Or.inr (slot_ne (Or.inr (own_wd hw 18 rfl)) (Or.inr (own_wd hw 19 rfl)) (by decide) (t := (.array .byte)) (t' := .byte) (by decide) (by decide)))
    have F_a_coder := F_a_coder.same W7
    have V_b := V_b.other W7 (Ne.symm nab)
    have Kp := Kp.wr W7 (Or.inl (List.mem_of_getElem? (i := 0) rfl))
    have N := own_frY Y7 N ga
    have Zs := Nat.le_trans Zs (Nat.le_of_eq W7.size.symm)
    have O := O.wr W7 ga
    have V_d := V_d.other W7 (Ne.symm ne_a_d)
    refine own_aloadN 52 Y7 dsnew4_51 rfl rfl rfl ?_
    refine own_aload 54 Y7 dsnew4_52 rfl rfl rfl ?_
    refine own_putF 57 Y7 (host := "") (Or.inl (own_wd hw 22 rfl)) Via.refl F_a_value X_a (Or.inr ⟨(own_wd hw 18 rfl), rfl, rfl⟩) (own_wd hw 3 rfl) (ty := (.array .byte)) (by decide) rfl rfl dsnew4_54 rfl fun T8 h8 Y8 W8 => ?_
    have X_a := X_a.wr W8
    have F_a_value := F_a_value.same W8
    have F_a_coder := F_a_coder.other W8 (Or.inr (slot_ne (Or.inr (own_wd hw 19 rfl)) (Or.inr (own_wd hw 18 rfl)) (by decide) (t := .byte) (t' := (.array .byte)) (by decide) (by decide)))
    have V_b := V_b.other W8 (Ne.symm nab)
    have Kp := Kp.wr W8 (Or.inl (List.mem_of_getElem? (i := 0) rfl))
    have N := own_frY Y8 N ga
    have Zs := Nat.le_trans Zs (Nat.le_of_eq W8.size.symm)
    have O := O.wr W8 ga
    have V_d := V_d.other W8 (Ne.symm ne_a_d)
    exact own_retV Y8 rfl dsnew4_57 (by decide) (by decide) ⟨rfl, Kp, N, X_a, d, kd, F_a_value, Or.inl ⟨hc0, F_a_coder, V_d⟩⟩
  · show own_G p e below _ (T5.setTop (mkF m 39 #[.val (.ref a), .val (.ref b), .val (.int (0 : Int32)), .val (.int (1 : Int32)), .val .null, .unset] [(.ref d)]))
    refine own_astore 41 Y5 #[.val (.ref a), .val (.ref b), .val (.int (0 : Int32)), .val (.int (1 : Int32)), .val .null, .val (.ref d)] dsnew4_39 rfl rfl rfl ?_
    refine own_aloadN 42 Y5 dsnew4_41 rfl rfl rfl ?_
    refine own_aload 44 Y5 dsnew4_42 rfl rfl rfl ?_
    refine own_iloadN 45 Y5 dsnew4_44 rfl rfl ?_
    refine own_callS 48 Y5 [(.ref d), (.int (1 : Int32))] [(.ref a)] (own_wd hw 46 rfl) (own_wd hw 47 rfl) (own_wd hw 41 rfl) (own_wd hw 48 rfl) (c_codlw_1_1 l Z a0 hw d kd _ _ V_d) dsnew4_45 (by decide) (lenOf pdscodl rfl) rfl rfl (by decide) (Nat.le_of_ble_eq_true rfl) (by decide) (by decide) rfl fun v9 T9 h9 L9 Y9 hQ9 => ?_
    obtain ⟨rfl, rfl, rfl⟩ := hQ9
    have N := N.app (Fr.nil n0)
    show own_G p e below _ (T9.setTop (mkF m 48 #[.val (.ref a), .val (.ref b), .val (.int (0 : Int32)), .val (.int (1 : Int32)), .val .null, .val (.ref d)] [(.int (1 : Int32)), (.ref a)]))
    refine own_putFN 51 Y9 (own_wd hw 23 rfl) Via.refl F_a_coder X_a (Or.inr ⟨(own_wd hw 19 rfl), rfl, rfl⟩) (own_wd hw 3 rfl) (ty := .byte) (v' := (.int (1 : Int32))) (by decide) rfl rfl dsnew4_48 rfl fun T10 h10 Y10 W10 => ?_
    have X_a := X_a.wr W10
    have F_a_value := F_a_value.other W10 (Or.inr (slot_ne (Or.inr (own_wd hw 18 rfl)) (Or.inr (own_wd hw 19 rfl)) (by decide) (t := (.array .byte)) (t' := .byte) (by decide) (by decide)))
    have F_a_coder := F_a_coder.same W10
    have V_b := V_b.other W10 (Ne.symm nab)
    have Kp := Kp.wr W10 (Or.inl (List.mem_of_getElem? (i := 0) rfl))
    have N := own_frY Y10 N ga
    have Zs := Nat.le_trans Zs (Nat.le_of_eq W10.size.symm)
    have O := O.wr W10 ga
    have V_d := V_d.other W10 (Ne.symm ne_a_d)
    refine own_aloadN 52 Y10 dsnew4_51 rfl rfl rfl ?_
    refine own_aload 54 Y10 dsnew4_52 rfl rfl rfl ?_
    refine own_putF 57 Y10 (host := "") (Or.inl (own_wd hw 22 rfl)) Via.refl F_a_value X_a (Or.inr ⟨(own_wd hw 18 rfl), rfl, rfl⟩) (own_wd hw 3 rfl) (ty := (.array .byte)) (by decide) rfl rfl dsnew4_54 rfl fun T11 h11 Y11 W11 => ?_
    have X_a := X_a.wr W11
    have F_a_value := F_a_value.same W11
    have F_a_coder := F_a_coder.other W11 (Or.inr (slot_ne (Or.inr (own_wd hw 19 rfl)) (Or.inr (own_wd hw 18 rfl)) (by decide) (t := .byte) (t' := (.array .byte)) (by decide) (by decide)))
    have V_b := V_b.other W11 (Ne.symm nab)
    have Kp := Kp.wr W11 (Or.inl (List.mem_of_getElem? (i := 0) rfl))
    have N := own_frY Y11 N ga
    have Zs := Nat.le_trans Zs (Nat.le_of_eq W11.size.symm)
    have O := O.wr W11 ga
    have V_d := V_d.other W11 (Ne.symm ne_a_d)
    exact own_retV Y11 rfl dsnew4_57 (by decide) (by decide) ⟨rfl, Kp, N, X_a, d, kd, F_a_value, Or.inr ⟨F_a_coder, V_d⟩⟩
set_option maxRecDepth 65536 in
set_option maxHeartbeats 4000000 in
theorem c_new1w_1 (l : Launch) (Z : State) (a0 : Array Value) (hw : ∀ d ∈ tables_1, d.before a0 Z = true) (a b : Addr) (kb : ClassId) (c0 : Int32) (hn0 : nar .char c0 = c0) (z : Int32) (fm : Value) (h0 : Heap) (n0 : Nat) (O : Old Z n0 h0) (WS : own_Ws Z z fm) (Zs : n0 ≤ h0.size) (ga : n0 ≤ a) (nab : a ≠ b) (u1 u2 : Value) (X_a : Exa Z h0 a "java/lang/String") (F_a_value : Fld Z h0 a "java/lang/String" "value" "[B" u1) (F_a_coder : Fld Z h0 a "java/lang/String" "coder" "B" u2) (V_b : Arv Z h0 b kb .char (1 : Int32) [(.int c0)] (.int (0 : Int32))) : own_M l (⟨"java/lang/String", "<init>", "([C)V"⟩ : MethodName) jdk_42_method_3_code 2 none [] ({ frames := 5, cells := 2, slots := 3, locals := 74 } : Room) Z #[.ref a, .ref b] h0 (Qneww_1 Z a c0 h0 n0) := by
  refine own_met plsnew1 (Lf := #[.val (.ref a), .val (.ref b)]) (fun m => by first | (simp [entryFrame, mkF, argsToLocals, Value.category]; done) | rfl) ?_
  intro p e s m below meth c T Y
  refine own_aloadN 1 Y dsnew1_0 rfl rfl rfl ?_
  refine own_aloadN 2 Y dsnew1_1 rfl rfl rfl ?_
  refine own_iconst 3 Y (0 : Int32) dsnew1_2 rfl rfl ?_
  refine own_aloadN 4 Y dsnew1_3 rfl rfl rfl ?_
  refine own_alen 5 Y V_b dsnew1_4 rfl ?_
  refine own_aconst_null 6 Y dsnew1_5 rfl ?_
  refine own_callI 9 Y [(.ref b), (.int (0 : Int32)), (.int (1 : Int32)), .null] [] rfl (own_wd hw 9 rfl) (own_wd hw 10 rfl) (own_wd hw 4 rfl) (own_wd hw 12 rfl) (c_new4w_1 l Z a0 hw a b kb c0 hn0 z fm _ n0 O WS Zs ga nab _ _ X_a F_a_value F_a_coder V_b) dsnew1_6 (by decide) (lenOf pdsnew4 rfl) rfl rfl (by decide) (Nat.le_of_ble_eq_true rfl) (by decide) (by decide) rfl fun v1 T1 h1 L1 Y1 hQ1 => ?_
  obtain ⟨rfl, K1, N1, R1⟩ := hQ1
  have N := (Fr.nil n0).app N1
  show own_G p e below _ (T1.setTop (mkF m 9 #[.val (.ref a), .val (.ref b)] []))
  exact own_retV Y1 rfl dsnew1_9 (by decide) (by decide) ⟨rfl, K1, N, R1⟩
def Qcmp5w_2 (Z : State) (d : Addr) (kd : ClassId) (c0 c1 : Int32) (h0 : Heap) (n0 : Nat) (v : Option Value) (h : Heap) (L : List Loc) : Prop := Keep h0 h [d] ∧ Fr n0 L ∧ ((¬ (255 : Int32) < c0 ∧ ¬ (255 : Int32) < c1 ∧ v = some (.int (2 : Int32)) ∧ Arv Z h d kd .byte (2 : Int32) [(.int (nar .byte c0.toInt8.toInt32)), (.int (nar .byte c1.toInt8.toInt32))] (.int (0 : Int32))) ∨ ((255 : Int32) < c0 ∧ v = some (.int (0 : Int32))) ∨ ((255 : Int32) < c1 ∧ v = some (.int (1 : Int32))))
set_option maxRecDepth 65536 in
set_option maxHeartbeats 4000000 in
theorem c_cmp5w_2 (l : Launch) (Z : State) (a0 : Array Value) (hw : ∀ d ∈ tables_1, d.before a0 Z = true) (b d : Addr) (kb kd : ClassId) (c0 c1 : Int32) (hn0 : nar .char c0 = c0) (hn1 : nar .char c1 = c1) (h0 : Heap) (n0 : Nat) (gd : n0 ≤ d) (nbd : b ≠ d) (V_b : Arv Z h0 b kb .char (2 : Int32) [(.int c0), (.int c1)] (.int (0 : Int32))) (V_d : Arv Z h0 d kd .byte (2 : Int32) [(.int (0 : Int32)), (.int (0 : Int32))] (.int (0 : Int32))) : own_M l (⟨"java/lang/StringUTF16", "compress", "([CI[BII)I"⟩ : MethodName) jdk_52_method_21_code 7 (some .int) [] ({ frames := 0, cells := 0, slots := 0, locals := 0 } : Room) Z #[.ref b, .int (0 : Int32), .ref d, .int (0 : Int32), .int (2 : Int32)] h0 (Qcmp5w_2 Z d kd c0 c1 h0 n0) := by
  refine own_met plscmp5 (Lf := #[.val (.ref b), .val (.int (0 : Int32)), .val (.ref d), .val (.int (0 : Int32)), .val (.int (2 : Int32)), .unset, .unset]) (fun m => by first | (simp [entryFrame, mkF, argsToLocals, Value.category]; done) | rfl) ?_
  intro p e s m below meth c T Y
  have Kp := Keep.refl h0 [d]
  have N := Fr.nil n0
  refine own_iconst 1 Y (0 : Int32) dscmp5_0 rfl rfl ?_
  refine own_istore 3 Y #[.val (.ref b), .val (.int (0 : Int32)), .val (.ref d), .val (.int (0 : Int32)), .val (.int (2 : Int32)), .val (.int (0 : Int32)), .unset] dscmp5_1 rfl rfl ?_
  refine own_iload 5 Y dscmp5_3 rfl rfl ?_
  refine own_iload 7 Y dscmp5_5 rfl rfl ?_
  refine own_icF 10 Y dscmp5_7 (XT.ii_ge_f (by decide)) rfl ?_
  refine own_aloadN 11 Y dscmp5_10 rfl rfl rfl ?_
  refine own_iloadN 12 Y dscmp5_11 rfl rfl ?_
  refine own_caload 13 Y V_b dscmp5_12 ⟨by decide, by decide⟩ rfl rfl ?_
  refine own_istore 15 Y #[.val (.ref b), .val (.int (0 : Int32)), .val (.ref d), .val (.int (0 : Int32)), .val (.int (2 : Int32)), .val (.int (0 : Int32)), .val (.int c0)] dscmp5_13 rfl rfl ?_
  refine own_iload 17 Y dscmp5_15 rfl rfl ?_
  refine own_sipush 20 Y (255 : Int32) dscmp5_17 rfl rfl ?_
  refine own_ic_le 26 23 Y dscmp5_20 (by decide) rfl (fun q20 => ?_) (fun q20 => ?_)
  · have hc0 := q20
    refine own_aloadN 27 Y dscmp5_26 rfl rfl rfl ?_
    refine own_iloadN 28 Y dscmp5_27 rfl rfl ?_
    refine own_iload 30 Y dscmp5_28 rfl rfl ?_
    refine own_i2b 31 Y dscmp5_30 rfl ?_
    refine own_stB 32 Y V_d dscmp5_31 ⟨by decide, by decide⟩ rfl fun T1 h1 Y1 W1 A1 => ?_
    have V_b := V_b.other W1 nbd
    have Kp := Kp.wr W1 (Or.inl (List.mem_of_getElem? (i := 0) rfl))
    have N := own_frY Y1 N gd
    have V_d : Arv Z h1 d kd .byte (2 : Int32) [(.int (nar .byte c0.toInt8.toInt32)), (.int (0 : Int32))] (.int (0 : Int32)) := A1 0 rfl (Nat.le_of_ble_eq_true rfl) (fits_nar_byte _)
    refine own_iinc 35 Y1 #[.val (.ref b), .val (.int (1 : Int32)), .val (.ref d), .val (.int (0 : Int32)), .val (.int (2 : Int32)), .val (.int (0 : Int32)), .val (.int c0)] (1 : Int32) dscmp5_32 rfl rfl rfl rfl ?_
    refine own_iinc 38 Y1 #[.val (.ref b), .val (.int (1 : Int32)), .val (.ref d), .val (.int (1 : Int32)), .val (.int (2 : Int32)), .val (.int (0 : Int32)), .val (.int c0)] (1 : Int32) dscmp5_35 rfl rfl rfl rfl ?_
    refine own_iinc 41 Y1 #[.val (.ref b), .val (.int (1 : Int32)), .val (.ref d), .val (.int (1 : Int32)), .val (.int (2 : Int32)), .val (.int (1 : Int32)), .val (.int c0)] (1 : Int32) dscmp5_38 rfl rfl rfl rfl ?_
    refine own_goto 3 Y1 dscmp5_41 (by decide) ?_
    refine own_iload 5 Y1 dscmp5_3 rfl rfl ?_
    refine own_iload 7 Y1 dscmp5_5 rfl rfl ?_
    refine own_icF 10 Y1 dscmp5_7 (XT.ii_ge_f (by decide)) rfl ?_
    refine own_aloadN 11 Y1 dscmp5_10 rfl rfl rfl ?_
    refine own_iloadN 12 Y1 dscmp5_11 rfl rfl ?_
    refine own_caload 13 Y1 V_b dscmp5_12 ⟨by decide, by decide⟩ rfl rfl ?_
    refine own_istore 15 Y1 #[.val (.ref b), .val (.int (1 : Int32)), .val (.ref d), .val (.int (1 : Int32)), .val (.int (2 : Int32)), .val (.int (1 : Int32)), .val (.int c1)] dscmp5_13 rfl rfl ?_
    refine own_iload 17 Y1 dscmp5_15 rfl rfl ?_
    refine own_sipush 20 Y1 (255 : Int32) dscmp5_17 rfl rfl ?_
    refine own_ic_le 26 23 Y1 dscmp5_20 (by decide) rfl (fun q20 => ?_) (fun q20 => ?_)
    · have hc1 := q20
      refine own_aloadN 27 Y1 dscmp5_26 rfl rfl rfl ?_
      refine own_iloadN 28 Y1 dscmp5_27 rfl rfl ?_
      refine own_iload 30 Y1 dscmp5_28 rfl rfl ?_
      refine own_i2b 31 Y1 dscmp5_30 rfl ?_
      refine own_stB 32 Y1 V_d dscmp5_31 ⟨by decide, by decide⟩ rfl fun T2 h2 Y2 W2 A2 => ?_
      have V_b := V_b.other W2 nbd
      have Kp := Kp.wr W2 (Or.inl (List.mem_of_getElem? (i := 0) rfl))
      have N := own_frY Y2 N gd
      have V_d : Arv Z h2 d kd .byte (2 : Int32) [(.int (nar .byte c0.toInt8.toInt32)), (.int (nar .byte c1.toInt8.toInt32))] (.int (0 : Int32)) := A2 1 rfl (Nat.le_of_ble_eq_true rfl) (fits_nar_byte _)
      refine own_iinc 35 Y2 #[.val (.ref b), .val (.int (2 : Int32)), .val (.ref d), .val (.int (1 : Int32)), .val (.int (2 : Int32)), .val (.int (1 : Int32)), .val (.int c1)] (1 : Int32) dscmp5_32 rfl rfl rfl rfl ?_
      refine own_iinc 38 Y2 #[.val (.ref b), .val (.int (2 : Int32)), .val (.ref d), .val (.int (2 : Int32)), .val (.int (2 : Int32)), .val (.int (1 : Int32)), .val (.int c1)] (1 : Int32) dscmp5_35 rfl rfl rfl rfl ?_
      refine own_iinc 41 Y2 #[.val (.ref b), .val (.int (2 : Int32)), .val (.ref d), .val (.int (2 : Int32)), .val (.int (2 : Int32)), .val (.int (2 : Int32)), .val (.int c1)] (1 : Int32) dscmp5_38 rfl rfl rfl rfl ?_
      refine own_goto 3 Y2 dscmp5_41 (by decide) ?_
      refine own_iload 5 Y2 dscmp5_3 rfl rfl ?_
      refine own_iload 7 Y2 dscmp5_5 rfl rfl ?_
      refine own_icT 44 Y2 dscmp5_7 (XT.ii_ge_t (by decide)) (by decide) ?_
      refine own_iload 46 Y2 dscmp5_44 rfl rfl ?_
      exact own_retI Y2 rfl dscmp5_46 (by decide) (by decide) ⟨Kp, N, Or.inl ⟨hc0, hc1, rfl, V_d⟩⟩
    · refine own_iload 25 Y1 dscmp5_23 rfl rfl ?_
      exact own_retI Y1 rfl dscmp5_25 (by decide) (by decide) ⟨Kp, N, Or.inr (Or.inr ⟨q20, rfl⟩)⟩
  · refine own_iload 25 Y dscmp5_23 rfl rfl ?_
    exact own_retI Y rfl dscmp5_25 (by decide) (by decide) ⟨Kp, N, Or.inr (Or.inl ⟨q20, rfl⟩)⟩
def Qputc_2_0 (Z : State) (d : Addr) (kd : ClassId) (cc : Int32) (p0 p1 p2 p3 : Value) (h0 : Heap) (n0 : Nat) (v : Option Value) (h : Heap) (L : List Loc) : Prop := v = none ∧ Keep h0 h [d] ∧ Fr n0 L ∧ Arv Z h d kd .byte (4 : Int32) [(.int (nar .byte (cc >>> ((0 : Int32) &&& 31)).toInt8.toInt32)), (.int (nar .byte (cc >>> ((8 : Int32) &&& 31)).toInt8.toInt32)), p2, p3] (.int (0 : Int32))
set_option maxRecDepth 65536 in
set_option maxHeartbeats 4000000 in
theorem c_putc_2_0 (l : Launch) (Z : State) (a0 : Array Value) (hw : ∀ d ∈ tables_1, d.before a0 Z = true) (d : Addr) (kd : ClassId) (cc : Int32) (p0 p1 p2 p3 : Value) (z : Int32) (fm : Value) (h0 : Heap) (n0 : Nat) (O : Old Z n0 h0) (WS : own_Ws Z z fm) (gd : n0 ≤ d) (V_d : Arv Z h0 d kd .byte (4 : Int32) [p0, p1, p2, p3] (.int (0 : Int32))) : own_M l (⟨"java/lang/StringUTF16", "putChar", "([BII)V"⟩ : MethodName) jdk_52_method_4_code 3 none [] ({ frames := 0, cells := 0, slots := 0, locals := 0 } : Room) Z #[.ref d, .int (0 : Int32), .int cc] h0 (Qputc_2_0 Z d kd cc p0 p1 p2 p3 h0 n0) := by
  refine own_met plsputc (Lf := #[.val (.ref d), .val (.int (0 : Int32)), .val (.int cc)]) (fun m => by first | (simp [entryFrame, mkF, argsToLocals, Value.category]; done) | rfl) ?_
  intro p e s m below meth c T Y
  have Kp := Keep.refl h0 [d]
  have N := Fr.nil n0
  refine own_getS 3 Y (host := "") (Or.inl (own_wd hw 91 rfl)) Via.refl (WS.2.2.1.ext O.2) dsputc_0 rfl fun T2 Y1 => ?_
  refine own_ifT 28 Y1 dsputc_3 (XT.i0_ne_t (by decide)) (by decide) ?_
  refine own_iloadN 29 Y1 dsputc_28 rfl rfl ?_
  refine own_iconst 30 Y1 (1 : Int32) dsputc_29 rfl rfl ?_
  refine own_ishl 31 Y1 dsputc_30 rfl ?_
  show own_G p e below _ (State.setTop _ (mkF m 31 #[.val (.ref d), .val (.int (0 : Int32)), .val (.int cc)] [(.int (0 : Int32))]))
  refine own_istoreN 32 Y1 #[.val (.ref d), .val (.int (0 : Int32)), .val (.int cc)] dsputc_31 rfl rfl ?_
  refine own_aloadN 33 Y1 dsputc_32 rfl rfl rfl ?_
  refine own_iloadN 34 Y1 dsputc_33 rfl rfl ?_
  refine own_iinc 37 Y1 #[.val (.ref d), .val (.int (1 : Int32)), .val (.int cc)] (1 : Int32) dsputc_34 rfl rfl rfl rfl ?_
  refine own_iloadN 38 Y1 dsputc_37 rfl rfl ?_
  refine own_getS 41 Y1 (host := "") (Or.inl (own_wd hw 92 rfl)) Via.refl (WS.2.2.2.1.ext O.2) dsputc_38 rfl fun T4 Y3 => ?_
  refine own_ishr 42 Y3 dsputc_41 rfl ?_
  refine own_i2b 43 Y3 dsputc_42 rfl ?_
  refine own_stB 44 Y3 V_d dsputc_43 ⟨by decide, by decide⟩ rfl fun T5 h5 Y5 W5 A5 => ?_
  have Kp := Kp.wr W5 (Or.inl (List.mem_of_getElem? (i := 0) rfl))
  have N := own_frY Y5 N gd
  have O := O.wr W5 gd
  have V_d : Arv Z h5 d kd .byte (4 : Int32) [(.int (nar .byte (cc >>> ((0 : Int32) &&& 31)).toInt8.toInt32)), p1, p2, p3] (.int (0 : Int32)) := A5 0 rfl (Nat.le_of_ble_eq_true rfl) (fits_nar_byte _)
  refine own_aloadN 45 Y5 dsputc_44 rfl rfl rfl ?_
  refine own_iloadN 46 Y5 dsputc_45 rfl rfl ?_
  refine own_iloadN 47 Y5 dsputc_46 rfl rfl ?_
  refine own_getS 50 Y5 (host := "") (Or.inl (own_wd hw 93 rfl)) Via.refl (WS.2.2.2.2.1.ext O.2) dsputc_47 rfl fun T7 Y6 => ?_
  refine own_ishr 51 Y6 dsputc_50 rfl ?_
  refine own_i2b 52 Y6 dsputc_51 rfl ?_
  refine own_stB 53 Y6 V_d dsputc_52 ⟨by decide, by decide⟩ rfl fun T8 h8 Y8 W8 A8 => ?_
  have Kp := Kp.wr W8 (Or.inl (List.mem_of_getElem? (i := 0) rfl))
  have N := own_frY Y8 N gd
  have O := O.wr W8 gd
  have V_d : Arv Z h8 d kd .byte (4 : Int32) [(.int (nar .byte (cc >>> ((0 : Int32) &&& 31)).toInt8.toInt32)), (.int (nar .byte (cc >>> ((8 : Int32) &&& 31)).toInt8.toInt32)), p2, p3] (.int (0 : Int32)) := A8 1 rfl (Nat.le_of_ble_eq_true rfl) (fits_nar_byte _)
  exact own_retV Y8 rfl dsputc_53 (by decide) (by decide) ⟨rfl, Kp, N, V_d⟩
def Qputc_2_1 (Z : State) (d : Addr) (kd : ClassId) (cc : Int32) (p0 p1 p2 p3 : Value) (h0 : Heap) (n0 : Nat) (v : Option Value) (h : Heap) (L : List Loc) : Prop := v = none ∧ Keep h0 h [d] ∧ Fr n0 L ∧ Arv Z h d kd .byte (4 : Int32) [p0, p1, (.int (nar .byte (cc >>> ((0 : Int32) &&& 31)).toInt8.toInt32)), (.int (nar .byte (cc >>> ((8 : Int32) &&& 31)).toInt8.toInt32))] (.int (0 : Int32))
set_option maxRecDepth 65536 in
set_option maxHeartbeats 4000000 in
theorem c_putc_2_1 (l : Launch) (Z : State) (a0 : Array Value) (hw : ∀ d ∈ tables_1, d.before a0 Z = true) (d : Addr) (kd : ClassId) (cc : Int32) (p0 p1 p2 p3 : Value) (z : Int32) (fm : Value) (h0 : Heap) (n0 : Nat) (O : Old Z n0 h0) (WS : own_Ws Z z fm) (gd : n0 ≤ d) (V_d : Arv Z h0 d kd .byte (4 : Int32) [p0, p1, p2, p3] (.int (0 : Int32))) : own_M l (⟨"java/lang/StringUTF16", "putChar", "([BII)V"⟩ : MethodName) jdk_52_method_4_code 3 none [] ({ frames := 0, cells := 0, slots := 0, locals := 0 } : Room) Z #[.ref d, .int (1 : Int32), .int cc] h0 (Qputc_2_1 Z d kd cc p0 p1 p2 p3 h0 n0) := by
  refine own_met plsputc (Lf := #[.val (.ref d), .val (.int (1 : Int32)), .val (.int cc)]) (fun m => by first | (simp [entryFrame, mkF, argsToLocals, Value.category]; done) | rfl) ?_
  intro p e s m below meth c T Y
  have Kp := Keep.refl h0 [d]
  have N := Fr.nil n0
  refine own_getS 3 Y (host := "") (Or.inl (own_wd hw 91 rfl)) Via.refl (WS.2.2.1.ext O.2) dsputc_0 rfl fun T2 Y1 => ?_
  refine own_ifT 28 Y1 dsputc_3 (XT.i0_ne_t (by decide)) (by decide) ?_
  refine own_iloadN 29 Y1 dsputc_28 rfl rfl ?_
  refine own_iconst 30 Y1 (1 : Int32) dsputc_29 rfl rfl ?_
  refine own_ishl 31 Y1 dsputc_30 rfl ?_
  show own_G p e below _ (State.setTop _ (mkF m 31 #[.val (.ref d), .val (.int (1 : Int32)), .val (.int cc)] [(.int (2 : Int32))]))
  refine own_istoreN 32 Y1 #[.val (.ref d), .val (.int (2 : Int32)), .val (.int cc)] dsputc_31 rfl rfl ?_
  refine own_aloadN 33 Y1 dsputc_32 rfl rfl rfl ?_
  refine own_iloadN 34 Y1 dsputc_33 rfl rfl ?_
  refine own_iinc 37 Y1 #[.val (.ref d), .val (.int (3 : Int32)), .val (.int cc)] (1 : Int32) dsputc_34 rfl rfl rfl rfl ?_
  refine own_iloadN 38 Y1 dsputc_37 rfl rfl ?_
  refine own_getS 41 Y1 (host := "") (Or.inl (own_wd hw 92 rfl)) Via.refl (WS.2.2.2.1.ext O.2) dsputc_38 rfl fun T4 Y3 => ?_
  refine own_ishr 42 Y3 dsputc_41 rfl ?_
  refine own_i2b 43 Y3 dsputc_42 rfl ?_
  refine own_stB 44 Y3 V_d dsputc_43 ⟨by decide, by decide⟩ rfl fun T5 h5 Y5 W5 A5 => ?_
  have Kp := Kp.wr W5 (Or.inl (List.mem_of_getElem? (i := 0) rfl))
  have N := own_frY Y5 N gd
  have O := O.wr W5 gd
  have V_d : Arv Z h5 d kd .byte (4 : Int32) [p0, p1, (.int (nar .byte (cc >>> ((0 : Int32) &&& 31)).toInt8.toInt32)), p3] (.int (0 : Int32)) := A5 2 rfl (Nat.le_of_ble_eq_true rfl) (fits_nar_byte _)
  refine own_aloadN 45 Y5 dsputc_44 rfl rfl rfl ?_
  refine own_iloadN 46 Y5 dsputc_45 rfl rfl ?_
  refine own_iloadN 47 Y5 dsputc_46 rfl rfl ?_
  refine own_getS 50 Y5 (host := "") (Or.inl (own_wd hw 93 rfl)) Via.refl (WS.2.2.2.2.1.ext O.2) dsputc_47 rfl fun T7 Y6 => ?_
  refine own_ishr 51 Y6 dsputc_50 rfl ?_
  refine own_i2b 52 Y6 dsputc_51 rfl ?_
  refine own_stB 53 Y6 V_d dsputc_52 ⟨by decide, by decide⟩ rfl fun T8 h8 Y8 W8 A8 => ?_
  have Kp := Kp.wr W8 (Or.inl (List.mem_of_getElem? (i := 0) rfl))
  have N := own_frY Y8 N gd
  have O := O.wr W8 gd
  have V_d : Arv Z h8 d kd .byte (4 : Int32) [p0, p1, (.int (nar .byte (cc >>> ((0 : Int32) &&& 31)).toInt8.toInt32)), (.int (nar .byte (cc >>> ((8 : Int32) &&& 31)).toInt8.toInt32))] (.int (0 : Int32)) := A8 3 rfl (Nat.le_of_ble_eq_true rfl) (fits_nar_byte _)
  exact own_retV Y8 rfl dsputc_53 (by decide) (by decide) ⟨rfl, Kp, N, V_d⟩
set_option maxRecDepth 65536 in
set_option maxHeartbeats 4000000 in
theorem c_nbl_2 (l : Launch) (Z : State) (a0 : Array Value) (hw : ∀ d ∈ tables_1, d.before a0 Z = true) (h0 : Heap) : own_M l (⟨"java/lang/StringUTF16", "newBytesLength", "(I)I"⟩ : MethodName) jdk_52_method_3_code 1 (some .int) [] ({ frames := 0, cells := 0, slots := 0, locals := 0 } : Room) Z #[.int (2 : Int32)] h0 (Qv (some (.int (4 : Int32))) h0) := by
  refine own_met plsnbl (Lf := #[.val (.int (2 : Int32))]) (fun m => by first | (simp [entryFrame, mkF, argsToLocals, Value.category]; done) | rfl) ?_
  intro p e s m below meth c T Y
  refine own_iloadN 1 Y dsnbl_0 rfl rfl ?_
  refine own_ifT 12 Y dsnbl_1 (XT.i0_ge_t (by decide)) (by decide) ?_
  refine own_iloadN 13 Y dsnbl_12 rfl rfl ?_
  refine own_ldcI 15 Y (own_wd hw 87 rfl) dsnbl_13 rfl ?_
  refine own_icT 55 Y dsnbl_15 (XT.ii_lt_t (by decide)) (by decide) ?_
  refine own_iloadN 56 Y dsnbl_55 rfl rfl ?_
  refine own_iconst 57 Y (1 : Int32) dsnbl_56 rfl rfl ?_
  refine own_ishl 58 Y dsnbl_57 rfl ?_
  show own_G p e below _ (State.setTop _ (mkF m 58 #[.val (.int (2 : Int32))] [(.int (4 : Int32))]))
  exact own_retI Y rfl dsnbl_58 (by decide) (by decide) ⟨rfl, rfl, rfl⟩
def Qnbf_2 (Z : State) (h0 : Heap) (n0 : Nat) (v : Option Value) (h : Heap) (L : List Loc) : Prop := ∃ (d : Addr) (kd : ClassId), v = some (.ref d) ∧ h0.size ≤ d ∧ Keep h0 h [] ∧ Fr n0 L ∧ Arv Z h d kd .byte (4 : Int32) [(.int (0 : Int32)), (.int (0 : Int32)), (.int (0 : Int32)), (.int (0 : Int32))] (.int (0 : Int32))
set_option maxRecDepth 65536 in
set_option maxHeartbeats 4000000 in
theorem c_nbf_2 (l : Launch) (Z : State) (a0 : Array Value) (hw : ∀ d ∈ tables_1, d.before a0 Z = true) (h0 : Heap) (n0 : Nat) (Zs : n0 ≤ h0.size) : own_M l (⟨"java/lang/StringUTF16", "newBytesFor", "(I)[B"⟩ : MethodName) jdk_52_method_2_code 1 (some (.array .byte)) [] ({ frames := 1, cells := 1, slots := 4, locals := 12 } : Room) Z #[.int (2 : Int32)] h0 (Qnbf_2 Z h0 n0) := by
  refine own_met plsnbf (Lf := #[.val (.int (2 : Int32))]) (fun m => by first | (simp [entryFrame, mkF, argsToLocals, Value.category]; done) | rfl) ?_
  intro p e s m below meth c T Y
  have Kp := Keep.refl h0 []
  have N := Fr.nil n0
  refine own_iloadN 1 Y dsnbf_0 rfl rfl ?_
  refine own_callS 4 Y [(.int (2 : Int32))] [] (own_wd hw 84 rfl) (own_wd hw 85 rfl) (own_wd hw 41 rfl) (own_wd hw 86 rfl) (c_nbl_2 l Z a0 hw _) dsnbf_1 (by decide) (lenOf pdsnbl rfl) rfl rfl (by decide) (Nat.le_of_ble_eq_true rfl) (by decide) (by decide) rfl fun v1 T1 h1 L1 Y1 hQ1 => ?_
  obtain ⟨rfl, rfl, rfl⟩ := hQ1
  have N := N.app (Fr.nil n0)
  show own_G p e below _ (T1.setTop (mkF m 4 #[.val (.int (2 : Int32))] [(.int (4 : Int32))]))
  refine own_newP 6 Y1 (own_wd hw 17 rfl) 4 dsnbf_4 (by decide) (by decide) (by decide) (by decide) (by decide) rfl fun T2 h2 d k_d Y2 g_d E2 V_d => ?_
  have gk_d := Nat.le_trans Kp.1 (Nat.le_of_eq g_d.symm)
  have gn_d : n0 ≤ d := by rw [g_d]; exact Zs
  have Kp := Kp.ext E2
  have Zs := Nat.le_trans Zs E2.1
  have V_d : Arv Z h2 d k_d .byte (4 : Int32) [(.int (0 : Int32)), (.int (0 : Int32)), (.int (0 : Int32)), (.int (0 : Int32))] (.int (0 : Int32)) := V_d.pad (pad_rep [] _ 4)
  exact own_retA Y2 rfl rfl rfl dsnbf_6 (by decide) (by decide) ⟨d, k_d, rfl, gk_d, Kp, N, V_d⟩
def Qtob_2 (Z : State) (c0 c1 : Int32) (h0 : Heap) (n0 : Nat) (v : Option Value) (h : Heap) (L : List Loc) : Prop := ∃ (d : Addr) (kd : ClassId), v = some (.ref d) ∧ h0.size ≤ d ∧ Keep h0 h [] ∧ Fr n0 L ∧ Arv Z h d kd .byte (4 : Int32) [(.int (nar .byte (c0 >>> ((0 : Int32) &&& 31)).toInt8.toInt32)), (.int (nar .byte (c0 >>> ((8 : Int32) &&& 31)).toInt8.toInt32)), (.int (nar .byte (c1 >>> ((0 : Int32) &&& 31)).toInt8.toInt32)), (.int (nar .byte (c1 >>> ((8 : Int32) &&& 31)).toInt8.toInt32))] (.int (0 : Int32))
set_option maxRecDepth 65536 in
set_option maxHeartbeats 4000000 in
theorem c_tob_2 (l : Launch) (Z : State) (a0 : Array Value) (hw : ∀ d ∈ tables_1, d.before a0 Z = true) (b : Addr) (kb : ClassId) (c0 c1 : Int32) (hn0 : nar .char c0 = c0) (hn1 : nar .char c1 = c1) (z : Int32) (fm : Value) (h0 : Heap) (n0 : Nat) (O : Old Z n0 h0) (WS : own_Ws Z z fm) (Zs : n0 ≤ h0.size) (V_b : Arv Z h0 b kb .char (2 : Int32) [(.int c0), (.int c1)] (.int (0 : Int32))) : own_M l (⟨"java/lang/StringUTF16", "toBytes", "([CII)[B"⟩ : MethodName) jdk_52_method_14_code 5 (some (.array .byte)) [] ({ frames := 2, cells := 1, slots := 4, locals := 24 } : Room) Z #[.ref b, .int (0 : Int32), .int (2 : Int32)] h0 (Qtob_2 Z c0 c1 h0 n0) := by
  refine own_met plstob (Lf := #[.val (.ref b), .val (.int (0 : Int32)), .val (.int (2 : Int32)), .unset, .unset]) (fun m => by first | (simp [entryFrame, mkF, argsToLocals, Value.category]; done) | rfl) ?_
  intro p e s m below meth c T Y
  have Kp := Keep.refl h0 []
  have N := Fr.nil n0
  refine own_iloadN 1 Y dstob_0 rfl rfl ?_
  refine own_callS 4 Y [(.int (2 : Int32))] [] (own_wd hw 81 rfl) (own_wd hw 82 rfl) (own_wd hw 41 rfl) (own_wd hw 83 rfl) (c_nbf_2 l Z a0 hw _ n0 Zs) dstob_1 (by decide) (lenOf pdsnbf rfl) rfl rfl (by decide) (Nat.le_of_ble_eq_true rfl) (by decide) (by decide) rfl fun v1 T1 h1 L1 Y1 hQ1 => ?_
  obtain ⟨d, kd, rfl, gk_d, K1, N1, V_d⟩ := hQ1
  have gn_d := Nat.le_trans Zs gk_d
  have ne_b_d : b ≠ d := Nat.ne_of_lt (Nat.lt_of_lt_of_le V_b.lt gk_d)
  have V_b := V_b.keep K1 nin0
  have Kp := Kp.trans K1 all0
  have N := N.app N1
  have Zs := Nat.le_trans Zs K1.1
  have O := O.keep K1 all0
  show own_G p e below _ (T1.setTop (mkF m 4 #[.val (.ref b), .val (.int (0 : Int32)), .val (.int (2 : Int32)), .unset, .unset] [(.ref d)]))
  refine own_astoreN 5 Y1 #[.val (.ref b), .val (.int (0 : Int32)), .val (.int (2 : Int32)), .val (.ref d), .unset] dstob_4 rfl rfl rfl ?_
  refine own_iconst 6 Y1 (0 : Int32) dstob_5 rfl rfl ?_
  refine own_istore 8 Y1 #[.val (.ref b), .val (.int (0 : Int32)), .val (.int (2 : Int32)), .val (.ref d), .val (.int (0 : Int32))] dstob_6 rfl rfl ?_
  refine own_iload 10 Y1 dstob_8 rfl rfl ?_
  refine own_iloadN 11 Y1 dstob_10 rfl rfl ?_
  refine own_icF 14 Y1 dstob_11 (XT.ii_ge_f (by decide)) rfl ?_
  refine own_aloadN 15 Y1 dstob_14 rfl rfl rfl ?_
  refine own_iload 17 Y1 dstob_15 rfl rfl ?_
  refine own_aloadN 18 Y1 dstob_17 rfl rfl rfl ?_
  refine own_iloadN 19 Y1 dstob_18 rfl rfl ?_
  refine own_caload 20 Y1 V_b dstob_19 ⟨by decide, by decide⟩ rfl rfl ?_
  refine own_callS 23 Y1 [(.ref d), (.int (0 : Int32)), (.int c0)] [] (own_wd hw 88 rfl) (own_wd hw 89 rfl) (own_wd hw 41 rfl) (own_wd hw 90 rfl) (c_putc_2_0 l Z a0 hw d kd c0 (.int (0 : Int32)) (.int (0 : Int32)) (.int (0 : Int32)) (.int (0 : Int32)) z fm _ n0 O WS gn_d V_d) dstob_20 (by decide) (lenOf pdsputc rfl) rfl rfl (by decide) (Nat.le_of_ble_eq_true rfl) (by decide) (by decide) rfl fun v2 T2 h2 L2 Y2 hQ2 => ?_
  obtain ⟨rfl, K2, N2, G2⟩ := hQ2
  have V_b := V_b.keep K2 (ninS ne_b_d nin0)
  have Kp := Kp.trans K2 (allS (Or.inr gk_d) all0)
  have N := N.app N2
  have Zs := Nat.le_trans Zs K2.1
  have O := O.keep K2 (allS gn_d all0)
  have V_d := G2
  show own_G p e below _ (T2.setTop (mkF m 23 #[.val (.ref b), .val (.int (0 : Int32)), .val (.int (2 : Int32)), .val (.ref d), .val (.int (0 : Int32))] []))
  refine own_iinc 26 Y2 #[.val (.ref b), .val (.int (1 : Int32)), .val (.int (2 : Int32)), .val (.ref d), .val (.int (0 : Int32))] (1 : Int32) dstob_23 rfl rfl rfl rfl ?_
  refine own_iinc 29 Y2 #[.val (.ref b), .val (.int (1 : Int32)), .val (.int (2 : Int32)), .val (.ref d), .val (.int (1 : Int32))] (1 : Int32) dstob_26 rfl rfl rfl rfl ?_
  refine own_goto 8 Y2 dstob_29 (by decide) ?_
  refine own_iload 10 Y2 dstob_8 rfl rfl ?_
  refine own_iloadN 11 Y2 dstob_10 rfl rfl ?_
  refine own_icF 14 Y2 dstob_11 (XT.ii_ge_f (by decide)) rfl ?_
  refine own_aloadN 15 Y2 dstob_14 rfl rfl rfl ?_
  refine own_iload 17 Y2 dstob_15 rfl rfl ?_
  refine own_aloadN 18 Y2 dstob_17 rfl rfl rfl ?_
  refine own_iloadN 19 Y2 dstob_18 rfl rfl ?_
  refine own_caload 20 Y2 V_b dstob_19 ⟨by decide, by decide⟩ rfl rfl ?_
  refine own_callS 23 Y2 [(.ref d), (.int (1 : Int32)), (.int c1)] [] (own_wd hw 88 rfl) (own_wd hw 89 rfl) (own_wd hw 41 rfl) (own_wd hw 90 rfl) (c_putc_2_1 l Z a0 hw d kd c1 (.int (nar .byte (c0 >>> ((0 : Int32) &&& 31)).toInt8.toInt32)) (.int (nar .byte (c0 >>> ((8 : Int32) &&& 31)).toInt8.toInt32)) (.int (0 : Int32)) (.int (0 : Int32)) z fm _ n0 O WS gn_d V_d) dstob_20 (by decide) (lenOf pdsputc rfl) rfl rfl (by decide) (Nat.le_of_ble_eq_true rfl) (by decide) (by decide) rfl fun v3 T3 h3 L3 Y3 hQ3 => ?_
  obtain ⟨rfl, K3, N3, G3⟩ := hQ3
  have V_b := V_b.keep K3 (ninS ne_b_d nin0)
  have Kp := Kp.trans K3 (allS (Or.inr gk_d) all0)
  have N := N.app N3
  have Zs := Nat.le_trans Zs K3.1
  have O := O.keep K3 (allS gn_d all0)
  have V_d := G3
  show own_G p e below _ (T3.setTop (mkF m 23 #[.val (.ref b), .val (.int (1 : Int32)), .val (.int (2 : Int32)), .val (.ref d), .val (.int (1 : Int32))] []))
  refine own_iinc 26 Y3 #[.val (.ref b), .val (.int (2 : Int32)), .val (.int (2 : Int32)), .val (.ref d), .val (.int (1 : Int32))] (1 : Int32) dstob_23 rfl rfl rfl rfl ?_
  refine own_iinc 29 Y3 #[.val (.ref b), .val (.int (2 : Int32)), .val (.int (2 : Int32)), .val (.ref d), .val (.int (2 : Int32))] (1 : Int32) dstob_26 rfl rfl rfl rfl ?_
  refine own_goto 8 Y3 dstob_29 (by decide) ?_
  refine own_iload 10 Y3 dstob_8 rfl rfl ?_
  refine own_iloadN 11 Y3 dstob_10 rfl rfl ?_
  refine own_icT 32 Y3 dstob_11 (XT.ii_ge_t (by decide)) (by decide) ?_
  refine own_aloadN 33 Y3 dstob_32 rfl rfl rfl ?_
  exact own_retA Y3 rfl rfl rfl dstob_33 (by decide) (by decide) ⟨d, kd, rfl, gk_d, Kp, N, V_d⟩
def Qcmp3w_2 (Z : State) (c0 c1 : Int32) (h0 : Heap) (n0 : Nat) (v : Option Value) (h : Heap) (L : List Loc) : Prop := ∃ (d : Addr) (kd : ClassId), v = some (.ref d) ∧ h0.size ≤ d ∧ Keep h0 h [] ∧ Fr n0 L ∧ ((¬ (255 : Int32) < c0 ∧ ¬ (255 : Int32) < c1 ∧ Arv Z h d kd .byte (2 : Int32) [(.int (nar .byte c0.toInt8.toInt32)), (.int (nar .byte c1.toInt8.toInt32))] (.int (0 : Int32))) ∨ Arv Z h d kd .byte (4 : Int32) [(.int (nar .byte (c0 >>> ((0 : Int32) &&& 31)).toInt8.toInt32)), (.int (nar .byte (c0 >>> ((8 : Int32) &&& 31)).toInt8.toInt32)), (.int (nar .byte (c1 >>> ((0 : Int32) &&& 31)).toInt8.toInt32)), (.int (nar .byte (c1 >>> ((8 : Int32) &&& 31)).toInt8.toInt32))] (.int (0 : Int32)))
set_option maxRecDepth 65536 in
set_option maxHeartbeats 4000000 in
theorem c_cmp3w_2 (l : Launch) (Z : State) (a0 : Array Value) (hw : ∀ d ∈ tables_1, d.before a0 Z = true) (b : Addr) (kb : ClassId) (c0 c1 : Int32) (hn0 : nar .char c0 = c0) (hn1 : nar .char c1 = c1) (z : Int32) (fm : Value) (h0 : Heap) (n0 : Nat) (O : Old Z n0 h0) (WS : own_Ws Z z fm) (Zs : n0 ≤ h0.size) (V_b : Arv Z h0 b kb .char (2 : Int32) [(.int c0), (.int c1)] (.int (0 : Int32))) : own_M l (⟨"java/lang/StringUTF16", "compress", "([CII)[B"⟩ : MethodName) jdk_52_method_16_code 6 (some (.array .byte)) [] ({ frames := 3, cells := 2, slots := 6, locals := 40 } : Room) Z #[.ref b, .int (0 : Int32), .int (2 : Int32)] h0 (Qcmp3w_2 Z c0 c1 h0 n0) := by
  refine own_met plscmp3 (Lf := #[.val (.ref b), .val (.int (0 : Int32)), .val (.int (2 : Int32)), .unset, .unset, .unset]) (fun m => by first | (simp [entryFrame, mkF, argsToLocals, Value.category]; done) | rfl) ?_
  intro p e s m below meth c T Y
  have Kp := Keep.refl h0 []
  have N := Fr.nil n0
  refine own_iloadN 1 Y dscmp3_0 rfl rfl ?_
  refine own_newP 3 Y (own_wd hw 17 rfl) 2 dscmp3_1 (by decide) (by decide) (by decide) (by decide) (by decide) rfl fun T1 h1 d k_d Y1 g_d E1 V_d => ?_
  have ne_b_d : b ≠ d := by rw [g_d]; exact Nat.ne_of_lt V_b.lt
  have gk_d := Nat.le_trans Kp.1 (Nat.le_of_eq g_d.symm)
  have gn_d : n0 ≤ d := by rw [g_d]; exact Zs
  have V_b := V_b.ext E1
  have Kp := Kp.ext E1
  have Zs := Nat.le_trans Zs E1.1
  have O := O.ext E1
  have V_d : Arv Z h1 d k_d .byte (2 : Int32) [(.int (0 : Int32)), (.int (0 : Int32))] (.int (0 : Int32)) := V_d.pad (pad_rep [] _ 2)
  refine own_astoreN 4 Y1 #[.val (.ref b), .val (.int (0 : Int32)), .val (.int (2 : Int32)), .val (.ref d), .unset, .unset] dscmp3_3 rfl rfl rfl ?_
  refine own_aloadN 5 Y1 dscmp3_4 rfl rfl rfl ?_
  refine own_iloadN 6 Y1 dscmp3_5 rfl rfl ?_
  refine own_aloadN 7 Y1 dscmp3_6 rfl rfl rfl ?_
  refine own_iconst 8 Y1 (0 : Int32) dscmp3_7 rfl rfl ?_
  refine own_iloadN 9 Y1 dscmp3_8 rfl rfl ?_
  refine own_callS 12 Y1 [(.ref b), (.int (0 : Int32)), (.ref d), (.int (0 : Int32)), (.int (2 : Int32))] [] (own_wd hw 43 rfl) (own_wd hw 44 rfl) (own_wd hw 41 rfl) (own_wd hw 45 rfl) (c_cmp5w_2 l Z a0 hw b d kb k_d c0 c1 hn0 hn1 _ n0 gn_d ne_b_d V_b V_d) dscmp3_9 (by decide) (lenOf pdscmp5 rfl) rfl rfl (by decide) (Nat.le_of_ble_eq_true rfl) (by decide) (by decide) rfl fun v2 T2 h2 L2 Y2 hQ2 => ?_
  obtain ⟨K2, N2, D2⟩ := hQ2
  have V_b := V_b.keep K2 (ninS ne_b_d nin0)
  have Kp := Kp.trans K2 (allS (Or.inr gk_d) all0)
  have N := N.app N2
  have Zs := Nat.le_trans Zs K2.1
  have O := O.keep K2 (allS gn_d all0)
  rcases D2 with ⟨hc0, hc1, rfl, V_d⟩ | ⟨hwd, rfl⟩ | ⟨hwd, rfl⟩
  · show own_G p e below _ (T2.setTop (mkF m 12 #[.val (.ref b), .val (.int (0 : Int32)), .val (.int (2 : Int32)), .val (.ref d), .unset, .unset] [(.int (2 : Int32))]))
    refine own_istore 14 Y2 #[.val (.ref b), .val (.int (0 : Int32)), .val (.int (2 : Int32)), .val (.ref d), .val (.int (2 : Int32)), .unset] dscmp3_12 rfl rfl ?_
    refine own_iload 16 Y2 dscmp3_14 rfl rfl ?_
    refine own_iloadN 17 Y2 dscmp3_16 rfl rfl ?_
    refine own_icT 57 Y2 dscmp3_17 (XT.ii_eq_t (by decide)) (by decide) ?_
    refine own_aloadN 58 Y2 dscmp3_57 rfl rfl rfl ?_
    exact own_retA Y2 rfl rfl rfl dscmp3_58 (by decide) (by decide) ⟨d, k_d, rfl, gk_d, Kp, N, Or.inl ⟨hc0, hc1, V_d⟩⟩
  · show own_G p e below _ (T2.setTop (mkF m 12 #[.val (.ref b), .val (.int (0 : Int32)), .val (.int (2 : Int32)), .val (.ref d), .unset, .unset] [(.int (0 : Int32))]))
    refine own_istore 14 Y2 #[.val (.ref b), .val (.int (0 : Int32)), .val (.int (2 : Int32)), .val (.ref d), .val (.int (0 : Int32)), .unset] dscmp3_12 rfl rfl ?_
    refine own_iload 16 Y2 dscmp3_14 rfl rfl ?_
    refine own_iloadN 17 Y2 dscmp3_16 rfl rfl ?_
    refine own_icF 20 Y2 dscmp3_17 (XT.ii_eq_f (by decide)) rfl ?_
    refine own_aloadN 21 Y2 dscmp3_20 rfl rfl rfl ?_
    refine own_iloadN 22 Y2 dscmp3_21 rfl rfl ?_
    refine own_iloadN 23 Y2 dscmp3_22 rfl rfl ?_
    refine own_callS 26 Y2 [(.ref b), (.int (0 : Int32)), (.int (2 : Int32))] [] (own_wd hw 78 rfl) (own_wd hw 79 rfl) (own_wd hw 41 rfl) (own_wd hw 80 rfl) (c_tob_2 l Z a0 hw b kb c0 c1 hn0 hn1 z fm _ n0 O WS Zs V_b) dscmp3_23 (by decide) (lenOf pdstob rfl) rfl rfl (by decide) (Nat.le_of_ble_eq_true rfl) (by decide) (by decide) rfl fun v3 T3 h3 L3 Y3 hQ3 => ?_
    obtain ⟨u, ku, rfl, gu, K3, N3, V_u⟩ := hQ3
    have gk_u := Nat.le_trans Kp.1 gu
    have V_b := V_b.keep K3 nin0
    have Kp := Kp.trans K3 all0
    have N := N.app N3
    have Zs := Nat.le_trans Zs K3.1
    have O := O.keep K3 all0
    show own_G p e below _ (T3.setTop (mkF m 26 #[.val (.ref b), .val (.int (0 : Int32)), .val (.int (2 : Int32)), .val (.ref d), .val (.int (0 : Int32)), .unset] [(.ref u)]))
    refine own_astore 28 Y3 #[.val (.ref b), .val (.int (0 : Int32)), .val (.int (2 : Int32)), .val (.ref d), .val (.int (0 : Int32)), .val (.ref u)] dscmp3_26 rfl rfl rfl ?_
    refine own_aload 30 Y3 dscmp3_28 rfl rfl rfl ?_
    refine own_iload 32 Y3 dscmp3_30 rfl rfl ?_
    refine own_callS 35 Y3 [(.ref u), (.int (0 : Int32))] [] (own_wd hw 94 rfl) (own_wd hw 95 rfl) (own_wd hw 41 rfl) (own_wd hw 96 rfl) (c_getc l Z a0 hw (0 : Int32) _ _ c0 u ku _ _ z fm _ n0 O WS V_u ⟨by decide, by decide⟩ rfl ⟨by decide, by decide⟩ rfl (own_u16 hn0)) dscmp3_32 (by decide) (lenOf pdsgetc rfl) rfl rfl (by decide) (Nat.le_of_ble_eq_true rfl) (by decide) (by decide) rfl fun v4 T4 h4 L4 Y4 hQ4 => ?_
    obtain ⟨rfl, rfl, rfl⟩ := hQ4
    have N := N.app (Fr.nil n0)
    show own_G p e below _ (T4.setTop (mkF m 35 #[.val (.ref b), .val (.int (0 : Int32)), .val (.int (2 : Int32)), .val (.ref d), .val (.int (0 : Int32)), .val (.ref u)] [(.int c0)]))
    refine own_sipush 38 Y4 (255 : Int32) dscmp3_35 rfl rfl ?_
    refine own_icT 54 Y4 dscmp3_38 (XT.ii_gt_t hwd) (by decide) ?_
    refine own_aload 56 Y4 dscmp3_54 rfl rfl rfl ?_
    exact own_retA Y4 rfl rfl rfl dscmp3_56 (by decide) (by decide) ⟨u, ku, rfl, gk_u, Kp, N, Or.inr V_u⟩
  · show own_G p e below _ (T2.setTop (mkF m 12 #[.val (.ref b), .val (.int (0 : Int32)), .val (.int (2 : Int32)), .val (.ref d), .unset, .unset] [(.int (1 : Int32))]))
    refine own_istore 14 Y2 #[.val (.ref b), .val (.int (0 : Int32)), .val (.int (2 : Int32)), .val (.ref d), .val (.int (1 : Int32)), .unset] dscmp3_12 rfl rfl ?_
    refine own_iload 16 Y2 dscmp3_14 rfl rfl ?_
    refine own_iloadN 17 Y2 dscmp3_16 rfl rfl ?_
    refine own_icF 20 Y2 dscmp3_17 (XT.ii_eq_f (by decide)) rfl ?_
    refine own_aloadN 21 Y2 dscmp3_20 rfl rfl rfl ?_
    refine own_iloadN 22 Y2 dscmp3_21 rfl rfl ?_
    refine own_iloadN 23 Y2 dscmp3_22 rfl rfl ?_
    refine own_callS 26 Y2 [(.ref b), (.int (0 : Int32)), (.int (2 : Int32))] [] (own_wd hw 78 rfl) (own_wd hw 79 rfl) (own_wd hw 41 rfl) (own_wd hw 80 rfl) (c_tob_2 l Z a0 hw b kb c0 c1 hn0 hn1 z fm _ n0 O WS Zs V_b) dscmp3_23 (by decide) (lenOf pdstob rfl) rfl rfl (by decide) (Nat.le_of_ble_eq_true rfl) (by decide) (by decide) rfl fun v5 T5 h5 L5 Y5 hQ5 => ?_
    obtain ⟨u, ku, rfl, gu, K5, N5, V_u⟩ := hQ5
    have gk_u := Nat.le_trans Kp.1 gu
    have V_b := V_b.keep K5 nin0
    have Kp := Kp.trans K5 all0
    have N := N.app N5
    have Zs := Nat.le_trans Zs K5.1
    have O := O.keep K5 all0
    show own_G p e below _ (T5.setTop (mkF m 26 #[.val (.ref b), .val (.int (0 : Int32)), .val (.int (2 : Int32)), .val (.ref d), .val (.int (1 : Int32)), .unset] [(.ref u)]))
    refine own_astore 28 Y5 #[.val (.ref b), .val (.int (0 : Int32)), .val (.int (2 : Int32)), .val (.ref d), .val (.int (1 : Int32)), .val (.ref u)] dscmp3_26 rfl rfl rfl ?_
    refine own_aload 30 Y5 dscmp3_28 rfl rfl rfl ?_
    refine own_iload 32 Y5 dscmp3_30 rfl rfl ?_
    refine own_callS 35 Y5 [(.ref u), (.int (1 : Int32))] [] (own_wd hw 94 rfl) (own_wd hw 95 rfl) (own_wd hw 41 rfl) (own_wd hw 96 rfl) (c_getc l Z a0 hw (1 : Int32) _ _ c1 u ku _ _ z fm _ n0 O WS V_u ⟨by decide, by decide⟩ rfl ⟨by decide, by decide⟩ rfl (own_u16 hn1)) dscmp3_32 (by decide) (lenOf pdsgetc rfl) rfl rfl (by decide) (Nat.le_of_ble_eq_true rfl) (by decide) (by decide) rfl fun v6 T6 h6 L6 Y6 hQ6 => ?_
    obtain ⟨rfl, rfl, rfl⟩ := hQ6
    have N := N.app (Fr.nil n0)
    show own_G p e below _ (T6.setTop (mkF m 35 #[.val (.ref b), .val (.int (0 : Int32)), .val (.int (2 : Int32)), .val (.ref d), .val (.int (1 : Int32)), .val (.ref u)] [(.int c1)]))
    refine own_sipush 38 Y6 (255 : Int32) dscmp3_35 rfl rfl ?_
    refine own_icT 54 Y6 dscmp3_38 (XT.ii_gt_t hwd) (by decide) ?_
    refine own_aload 56 Y6 dscmp3_54 rfl rfl rfl ?_
    exact own_retA Y6 rfl rfl rfl dscmp3_56 (by decide) (by decide) ⟨u, ku, rfl, gk_u, Kp, N, Or.inr V_u⟩
set_option maxRecDepth 65536 in
set_option maxHeartbeats 4000000 in
theorem c_codlw_2_0 (l : Launch) (Z : State) (a0 : Array Value) (hw : ∀ d ∈ tables_1, d.before a0 Z = true) (d : Addr) (kd : ClassId) (vs : List Value) (h0 : Heap) (V_d : Arv Z h0 d kd .byte (2 : Int32) vs (.int (0 : Int32))) : own_M l (⟨"java/lang/StringUTF16", "coderFromArrayLen", "([BI)B"⟩ : MethodName) jdk_52_method_15_code 2 (some .byte) [] ({ frames := 0, cells := 0, slots := 0, locals := 0 } : Room) Z #[.ref d, .int (2 : Int32)] h0 (Qv (some (.int (0 : Int32))) h0) := by
  refine own_met plscodl (Lf := #[.val (.ref d), .val (.int (2 : Int32))]) (fun m => by first | (simp [entryFrame, mkF, argsToLocals, Value.category]; done) | rfl) ?_
  intro p e s m below meth c T Y
  refine own_iloadN 1 Y dscodl_0 rfl rfl ?_
  refine own_aloadN 2 Y dscodl_1 rfl rfl rfl ?_
  refine own_alen 3 Y V_d dscodl_2 rfl ?_
  refine own_isub 4 Y dscodl_3 rfl ?_
  show own_G p e below _ (State.setTop _ (mkF m 4 #[.val (.ref d), .val (.int (2 : Int32))] [(.int (0 : Int32))]))
  refine own_bipush 6 Y (31 : Int32) dscodl_4 rfl rfl ?_
  refine own_iushr 7 Y dscodl_6 rfl ?_
  refine own_i2b 8 Y dscodl_7 rfl ?_
  exact own_retN Y (t := .byte) rfl (by simp) dscodl_8 (by decide) (by decide) ⟨rfl, rfl, rfl⟩
set_option maxRecDepth 65536 in
set_option maxHeartbeats 4000000 in
theorem c_codlw_2_1 (l : Launch) (Z : State) (a0 : Array Value) (hw : ∀ d ∈ tables_1, d.before a0 Z = true) (d : Addr) (kd : ClassId) (vs : List Value) (h0 : Heap) (V_d : Arv Z h0 d kd .byte (4 : Int32) vs (.int (0 : Int32))) : own_M l (⟨"java/lang/StringUTF16", "coderFromArrayLen", "([BI)B"⟩ : MethodName) jdk_52_method_15_code 2 (some .byte) [] ({ frames := 0, cells := 0, slots := 0, locals := 0 } : Room) Z #[.ref d, .int (2 : Int32)] h0 (Qv (some (.int (1 : Int32))) h0) := by
  refine own_met plscodl (Lf := #[.val (.ref d), .val (.int (2 : Int32))]) (fun m => by first | (simp [entryFrame, mkF, argsToLocals, Value.category]; done) | rfl) ?_
  intro p e s m below meth c T Y
  refine own_iloadN 1 Y dscodl_0 rfl rfl ?_
  refine own_aloadN 2 Y dscodl_1 rfl rfl rfl ?_
  refine own_alen 3 Y V_d dscodl_2 rfl ?_
  refine own_isub 4 Y dscodl_3 rfl ?_
  show own_G p e below _ (State.setTop _ (mkF m 4 #[.val (.ref d), .val (.int (2 : Int32))] [(.int (-2 : Int32))]))
  refine own_bipush 6 Y (31 : Int32) dscodl_4 rfl rfl ?_
  refine own_iushr 7 Y dscodl_6 rfl ?_
  refine own_i2b 8 Y dscodl_7 rfl ?_
  exact own_retN Y (t := .byte) rfl (by simp) dscodl_8 (by decide) (by decide) ⟨rfl, rfl, rfl⟩
def Qneww_2 (Z : State) (a : Addr) (c0 c1 : Int32) (h0 : Heap) (n0 : Nat) (v : Option Value) (h : Heap) (L : List Loc) : Prop := v = none ∧ Keep h0 h [a] ∧ Fr n0 L ∧ Scont_2 Z h a c0 c1
set_option maxRecDepth 65536 in
set_option maxHeartbeats 4000000 in
theorem c_new4w_2 (l : Launch) (Z : State) (a0 : Array Value) (hw : ∀ d ∈ tables_1, d.before a0 Z = true) (a b : Addr) (kb : ClassId) (c0 c1 : Int32) (hn0 : nar .char c0 = c0) (hn1 : nar .char c1 = c1) (z : Int32) (fm : Value) (h0 : Heap) (n0 : Nat) (O : Old Z n0 h0) (WS : own_Ws Z z fm) (Zs : n0 ≤ h0.size) (ga : n0 ≤ a) (nab : a ≠ b) (u1 u2 : Value) (X_a : Exa Z h0 a "java/lang/String") (F_a_value : Fld Z h0 a "java/lang/String" "value" "[B" u1) (F_a_coder : Fld Z h0 a "java/lang/String" "coder" "B" u2) (V_b : Arv Z h0 b kb .char (2 : Int32) [(.int c0), (.int c1)] (.int (0 : Int32))) : own_M l (⟨"java/lang/String", "<init>", "([CIILjava/lang/Void;)V"⟩ : MethodName) jdk_42_method_149_code 6 none [] ({ frames := 4, cells := 2, slots := 6, locals := 57 } : Room) Z #[.ref a, .ref b, .int (0 : Int32), .int (2 : Int32), .null] h0 (Qneww_2 Z a c0 c1 h0 n0) := by
  refine own_met plsnew4 (Lf := #[.val (.ref a), .val (.ref b), .val (.int (0 : Int32)), .val (.int (2 : Int32)), .val .null, .unset]) (fun m => by first | (simp [entryFrame, mkF, argsToLocals, Value.category]; done) | rfl) ?_
  intro p e s m below meth c T Y
  have Kp := Keep.refl h0 [a]
  have N := Fr.nil n0
  refine own_aloadN 1 Y dsnew4_0 rfl rfl rfl ?_
  refine own_initO 4 Y (own_wd hw 13 rfl) (own_wd hw 14 rfl) (own_wd hw 15 rfl) dsnew4_1 rfl (by decide) (by decide) rfl fun T2 Y1 => ?_
  refine own_iloadN 5 Y1 dsnew4_4 rfl rfl ?_
  refine own_ifT 27 Y1 dsnew4_5 (XT.i0_ne_t (by decide)) (by decide) ?_
  refine own_getS 30 Y1 (host := "") (Or.inl (own_wd hw 38 rfl)) Via.refl (WS.1.ext O.2) dsnew4_27 rfl fun T4 Y3 => ?_
  refine own_ifF 33 Y3 dsnew4_30 (XT.i0_eq_f WS.2.1) rfl ?_
  refine own_aloadN 34 Y3 dsnew4_33 rfl rfl rfl ?_
  refine own_iloadN 35 Y3 dsnew4_34 rfl rfl ?_
  refine own_iloadN 36 Y3 dsnew4_35 rfl rfl ?_
  refine own_callS 39 Y3 [(.ref b), (.int (0 : Int32)), (.int (2 : Int32))] [] (own_wd hw 39 rfl) (own_wd hw 40 rfl) (own_wd hw 41 rfl) (own_wd hw 42 rfl) (c_cmp3w_2 l Z a0 hw b kb c0 c1 hn0 hn1 z fm _ n0 O WS Zs V_b) dsnew4_36 (by decide) (lenOf pdscmp3 rfl) rfl rfl (by decide) (Nat.le_of_ble_eq_true rfl) (by decide) (by decide) rfl fun v5 T5 h5 L5 Y5 hQ5 => ?_
  obtain ⟨d, kd, rfl, gk_d, K5, N5, D⟩ := hQ5
  have gn_d := Nat.le_trans Zs gk_d
  have ne_a_d : a ≠ d := Nat.ne_of_lt (Nat.lt_of_lt_of_le X_a.lt gk_d)
  have X_a := X_a.keep K5
  have F_a_value := F_a_value.keep K5 nin0
  have F_a_coder := F_a_coder.keep K5 nin0
  have V_b := V_b.keep K5 nin0
  have Kp := Kp.trans K5 all0
  have N := N.app N5
  have Zs := Nat.le_trans Zs K5.1
  have O := O.keep K5 all0
  rcases D with ⟨hc0, hc1, V_d⟩ | V_d
  · show own_G p e below _ (T5.setTop (mkF m 39 #[.val (.ref a), .val (.ref b), .val (.int (0 : Int32)), .val (.int (2 : Int32)), .val .null, .unset] [(.ref d)]))
    refine own_astore 41 Y5 #[.val (.ref a), .val (.ref b), .val (.int (0 : Int32)), .val (.int (2 : Int32)), .val .null, .val (.ref d)] dsnew4_39 rfl rfl rfl ?_
    refine own_aloadN 42 Y5 dsnew4_41 rfl rfl rfl ?_
    refine own_aload 44 Y5 dsnew4_42 rfl rfl rfl ?_
    refine own_iloadN 45 Y5 dsnew4_44 rfl rfl ?_
    refine own_callS 48 Y5 [(.ref d), (.int (2 : Int32))] [(.ref a)] (own_wd hw 46 rfl) (own_wd hw 47 rfl) (own_wd hw 41 rfl) (own_wd hw 48 rfl) (c_codlw_2_0 l Z a0 hw d kd _ _ V_d) dsnew4_45 (by decide) (lenOf pdscodl rfl) rfl rfl (by decide) (Nat.le_of_ble_eq_true rfl) (by decide) (by decide) rfl fun v6 T6 h6 L6 Y6 hQ6 => ?_
    obtain ⟨rfl, rfl, rfl⟩ := hQ6
    have N := N.app (Fr.nil n0)
    show own_G p e below _ (T6.setTop (mkF m 48 #[.val (.ref a), .val (.ref b), .val (.int (0 : Int32)), .val (.int (2 : Int32)), .val .null, .val (.ref d)] [(.int (0 : Int32)), (.ref a)]))
    refine own_putFN 51 Y6 (own_wd hw 23 rfl) Via.refl F_a_coder X_a (Or.inr ⟨(own_wd hw 19 rfl), rfl, rfl⟩) (own_wd hw 3 rfl) (ty := .byte) (v' := (.int (0 : Int32))) (by decide) rfl rfl dsnew4_48 rfl fun T7 h7 Y7 W7 => ?_
    have X_a := X_a.wr W7
    have F_a_value := F_a_value.other W7 (Or.inr (slot_ne (Or.inr (own_wd hw 18 rfl)) (Or.inr (own_wd hw 19 rfl)) (by decide) (t := (.array .byte)) (t' := .byte) (by decide) (by decide)))
    have F_a_coder := F_a_coder.same W7
    have V_b := V_b.other W7 (Ne.symm nab)
    have Kp := Kp.wr W7 (Or.inl (List.mem_of_getElem? (i := 0) rfl))
    have N := own_frY Y7 N ga
    have Zs := Nat.le_trans Zs (Nat.le_of_eq W7.size.symm)
    have O := O.wr W7 ga
    have V_d := V_d.other W7 (Ne.symm ne_a_d)
    refine own_aloadN 52 Y7 dsnew4_51 rfl rfl rfl ?_
    refine own_aload 54 Y7 dsnew4_52 rfl rfl rfl ?_
    refine own_putF 57 Y7 (host := "") (Or.inl (own_wd hw 22 rfl)) Via.refl F_a_value X_a (Or.inr ⟨(own_wd hw 18 rfl), rfl, rfl⟩) (own_wd hw 3 rfl) (ty := (.array .byte)) (by decide) rfl rfl dsnew4_54 rfl fun T8 h8 Y8 W8 => ?_
    have X_a := X_a.wr W8
    have F_a_value := F_a_value.same W8
    have F_a_coder := F_a_coder.other W8 (Or.inr (slot_ne (Or.inr (own_wd hw 19 rfl)) (Or.inr (own_wd hw 18 rfl)) (by decide) (t := .byte) (t' := (.array .byte)) (by decide) (by decide)))
    have V_b := V_b.other W8 (Ne.symm nab)
    have Kp := Kp.wr W8 (Or.inl (List.mem_of_getElem? (i := 0) rfl))
    have N := own_frY Y8 N ga
    have Zs := Nat.le_trans Zs (Nat.le_of_eq W8.size.symm)
    have O := O.wr W8 ga
    have V_d := V_d.other W8 (Ne.symm ne_a_d)
    exact own_retV Y8 rfl dsnew4_57 (by decide) (by decide) ⟨rfl, Kp, N, X_a, d, kd, F_a_value, Or.inl ⟨hc0, hc1, F_a_coder, V_d⟩⟩
  · show own_G p e below _ (T5.setTop (mkF m 39 #[.val (.ref a), .val (.ref b), .val (.int (0 : Int32)), .val (.int (2 : Int32)), .val .null, .unset] [(.ref d)]))
    refine own_astore 41 Y5 #[.val (.ref a), .val (.ref b), .val (.int (0 : Int32)), .val (.int (2 : Int32)), .val .null, .val (.ref d)] dsnew4_39 rfl rfl rfl ?_
    refine own_aloadN 42 Y5 dsnew4_41 rfl rfl rfl ?_
    refine own_aload 44 Y5 dsnew4_42 rfl rfl rfl ?_
    refine own_iloadN 45 Y5 dsnew4_44 rfl rfl ?_
    refine own_callS 48 Y5 [(.ref d), (.int (2 : Int32))] [(.ref a)] (own_wd hw 46 rfl) (own_wd hw 47 rfl) (own_wd hw 41 rfl) (own_wd hw 48 rfl) (c_codlw_2_1 l Z a0 hw d kd _ _ V_d) dsnew4_45 (by decide) (lenOf pdscodl rfl) rfl rfl (by decide) (Nat.le_of_ble_eq_true rfl) (by decide) (by decide) rfl fun v9 T9 h9 L9 Y9 hQ9 => ?_
    obtain ⟨rfl, rfl, rfl⟩ := hQ9
    have N := N.app (Fr.nil n0)
    show own_G p e below _ (T9.setTop (mkF m 48 #[.val (.ref a), .val (.ref b), .val (.int (0 : Int32)), .val (.int (2 : Int32)), .val .null, .val (.ref d)] [(.int (1 : Int32)), (.ref a)]))
    refine own_putFN 51 Y9 (own_wd hw 23 rfl) Via.refl F_a_coder X_a (Or.inr ⟨(own_wd hw 19 rfl), rfl, rfl⟩) (own_wd hw 3 rfl) (ty := .byte) (v' := (.int (1 : Int32))) (by decide) rfl rfl dsnew4_48 rfl fun T10 h10 Y10 W10 => ?_
    have X_a := X_a.wr W10
    have F_a_value := F_a_value.other W10 (Or.inr (slot_ne (Or.inr (own_wd hw 18 rfl)) (Or.inr (own_wd hw 19 rfl)) (by decide) (t := (.array .byte)) (t' := .byte) (by decide) (by decide)))
    have F_a_coder := F_a_coder.same W10
    have V_b := V_b.other W10 (Ne.symm nab)
    have Kp := Kp.wr W10 (Or.inl (List.mem_of_getElem? (i := 0) rfl))
    have N := own_frY Y10 N ga
    have Zs := Nat.le_trans Zs (Nat.le_of_eq W10.size.symm)
    have O := O.wr W10 ga
    have V_d := V_d.other W10 (Ne.symm ne_a_d)
    refine own_aloadN 52 Y10 dsnew4_51 rfl rfl rfl ?_
    refine own_aload 54 Y10 dsnew4_52 rfl rfl rfl ?_
    refine own_putF 57 Y10 (host := "") (Or.inl (own_wd hw 22 rfl)) Via.refl F_a_value X_a (Or.inr ⟨(own_wd hw 18 rfl), rfl, rfl⟩) (own_wd hw 3 rfl) (ty := (.array .byte)) (by decide) rfl rfl dsnew4_54 rfl fun T11 h11 Y11 W11 => ?_
    have X_a := X_a.wr W11
    have F_a_value := F_a_value.same W11
    have F_a_coder := F_a_coder.other W11 (Or.inr (slot_ne (Or.inr (own_wd hw 19 rfl)) (Or.inr (own_wd hw 18 rfl)) (by decide) (t := .byte) (t' := (.array .byte)) (by decide) (by decide)))
    have V_b := V_b.other W11 (Ne.symm nab)
    have Kp := Kp.wr W11 (Or.inl (List.mem_of_getElem? (i := 0) rfl))
    have N := own_frY Y11 N ga
    have Zs := Nat.le_trans Zs (Nat.le_of_eq W11.size.symm)
    have O := O.wr W11 ga
    have V_d := V_d.other W11 (Ne.symm ne_a_d)
    exact own_retV Y11 rfl dsnew4_57 (by decide) (by decide) ⟨rfl, Kp, N, X_a, d, kd, F_a_value, Or.inr ⟨F_a_coder, V_d⟩⟩
set_option maxRecDepth 65536 in
set_option maxHeartbeats 4000000 in
theorem c_new1w_2 (l : Launch) (Z : State) (a0 : Array Value) (hw : ∀ d ∈ tables_1, d.before a0 Z = true) (a b : Addr) (kb : ClassId) (c0 c1 : Int32) (hn0 : nar .char c0 = c0) (hn1 : nar .char c1 = c1) (z : Int32) (fm : Value) (h0 : Heap) (n0 : Nat) (O : Old Z n0 h0) (WS : own_Ws Z z fm) (Zs : n0 ≤ h0.size) (ga : n0 ≤ a) (nab : a ≠ b) (u1 u2 : Value) (X_a : Exa Z h0 a "java/lang/String") (F_a_value : Fld Z h0 a "java/lang/String" "value" "[B" u1) (F_a_coder : Fld Z h0 a "java/lang/String" "coder" "B" u2) (V_b : Arv Z h0 b kb .char (2 : Int32) [(.int c0), (.int c1)] (.int (0 : Int32))) : own_M l (⟨"java/lang/String", "<init>", "([C)V"⟩ : MethodName) jdk_42_method_3_code 2 none [] ({ frames := 5, cells := 2, slots := 6, locals := 74 } : Room) Z #[.ref a, .ref b] h0 (Qneww_2 Z a c0 c1 h0 n0) := by
  refine own_met plsnew1 (Lf := #[.val (.ref a), .val (.ref b)]) (fun m => by first | (simp [entryFrame, mkF, argsToLocals, Value.category]; done) | rfl) ?_
  intro p e s m below meth c T Y
  refine own_aloadN 1 Y dsnew1_0 rfl rfl rfl ?_
  refine own_aloadN 2 Y dsnew1_1 rfl rfl rfl ?_
  refine own_iconst 3 Y (0 : Int32) dsnew1_2 rfl rfl ?_
  refine own_aloadN 4 Y dsnew1_3 rfl rfl rfl ?_
  refine own_alen 5 Y V_b dsnew1_4 rfl ?_
  refine own_aconst_null 6 Y dsnew1_5 rfl ?_
  refine own_callI 9 Y [(.ref b), (.int (0 : Int32)), (.int (2 : Int32)), .null] [] rfl (own_wd hw 9 rfl) (own_wd hw 10 rfl) (own_wd hw 4 rfl) (own_wd hw 12 rfl) (c_new4w_2 l Z a0 hw a b kb c0 c1 hn0 hn1 z fm _ n0 O WS Zs ga nab _ _ X_a F_a_value F_a_coder V_b) dsnew1_6 (by decide) (lenOf pdsnew4 rfl) rfl rfl (by decide) (Nat.le_of_ble_eq_true rfl) (by decide) (by decide) rfl fun v1 T1 h1 L1 Y1 hQ1 => ?_
  obtain ⟨rfl, K1, N1, R1⟩ := hQ1
  have N := (Fr.nil n0).app N1
  show own_G p e below _ (T1.setTop (mkF m 9 #[.val (.ref a), .val (.ref b)] []))
  exact own_retV Y1 rfl dsnew1_9 (by decide) (by decide) ⟨rfl, K1, N, R1⟩
def Qcmp5w_3 (Z : State) (d : Addr) (kd : ClassId) (c0 c1 c2 : Int32) (h0 : Heap) (n0 : Nat) (v : Option Value) (h : Heap) (L : List Loc) : Prop := Keep h0 h [d] ∧ Fr n0 L ∧ ((¬ (255 : Int32) < c0 ∧ ¬ (255 : Int32) < c1 ∧ ¬ (255 : Int32) < c2 ∧ v = some (.int (3 : Int32)) ∧ Arv Z h d kd .byte (3 : Int32) [(.int (nar .byte c0.toInt8.toInt32)), (.int (nar .byte c1.toInt8.toInt32)), (.int (nar .byte c2.toInt8.toInt32))] (.int (0 : Int32))) ∨ ((255 : Int32) < c0 ∧ v = some (.int (0 : Int32))) ∨ ((255 : Int32) < c1 ∧ v = some (.int (1 : Int32))) ∨ ((255 : Int32) < c2 ∧ v = some (.int (2 : Int32))))
set_option maxRecDepth 65536 in
set_option maxHeartbeats 4000000 in
theorem c_cmp5w_3 (l : Launch) (Z : State) (a0 : Array Value) (hw : ∀ d ∈ tables_1, d.before a0 Z = true) (b d : Addr) (kb kd : ClassId) (c0 c1 c2 : Int32) (hn0 : nar .char c0 = c0) (hn1 : nar .char c1 = c1) (hn2 : nar .char c2 = c2) (h0 : Heap) (n0 : Nat) (gd : n0 ≤ d) (nbd : b ≠ d) (V_b : Arv Z h0 b kb .char (3 : Int32) [(.int c0), (.int c1), (.int c2)] (.int (0 : Int32))) (V_d : Arv Z h0 d kd .byte (3 : Int32) [(.int (0 : Int32)), (.int (0 : Int32)), (.int (0 : Int32))] (.int (0 : Int32))) : own_M l (⟨"java/lang/StringUTF16", "compress", "([CI[BII)I"⟩ : MethodName) jdk_52_method_21_code 7 (some .int) [] ({ frames := 0, cells := 0, slots := 0, locals := 0 } : Room) Z #[.ref b, .int (0 : Int32), .ref d, .int (0 : Int32), .int (3 : Int32)] h0 (Qcmp5w_3 Z d kd c0 c1 c2 h0 n0) := by
  refine own_met plscmp5 (Lf := #[.val (.ref b), .val (.int (0 : Int32)), .val (.ref d), .val (.int (0 : Int32)), .val (.int (3 : Int32)), .unset, .unset]) (fun m => by first | (simp [entryFrame, mkF, argsToLocals, Value.category]; done) | rfl) ?_
  intro p e s m below meth c T Y
  have Kp := Keep.refl h0 [d]
  have N := Fr.nil n0
  refine own_iconst 1 Y (0 : Int32) dscmp5_0 rfl rfl ?_
  refine own_istore 3 Y #[.val (.ref b), .val (.int (0 : Int32)), .val (.ref d), .val (.int (0 : Int32)), .val (.int (3 : Int32)), .val (.int (0 : Int32)), .unset] dscmp5_1 rfl rfl ?_
  refine own_iload 5 Y dscmp5_3 rfl rfl ?_
  refine own_iload 7 Y dscmp5_5 rfl rfl ?_
  refine own_icF 10 Y dscmp5_7 (XT.ii_ge_f (by decide)) rfl ?_
  refine own_aloadN 11 Y dscmp5_10 rfl rfl rfl ?_
  refine own_iloadN 12 Y dscmp5_11 rfl rfl ?_
  refine own_caload 13 Y V_b dscmp5_12 ⟨by decide, by decide⟩ rfl rfl ?_
  refine own_istore 15 Y #[.val (.ref b), .val (.int (0 : Int32)), .val (.ref d), .val (.int (0 : Int32)), .val (.int (3 : Int32)), .val (.int (0 : Int32)), .val (.int c0)] dscmp5_13 rfl rfl ?_
  refine own_iload 17 Y dscmp5_15 rfl rfl ?_
  refine own_sipush 20 Y (255 : Int32) dscmp5_17 rfl rfl ?_
  refine own_ic_le 26 23 Y dscmp5_20 (by decide) rfl (fun q20 => ?_) (fun q20 => ?_)
  · have hc0 := q20
    refine own_aloadN 27 Y dscmp5_26 rfl rfl rfl ?_
    refine own_iloadN 28 Y dscmp5_27 rfl rfl ?_
    refine own_iload 30 Y dscmp5_28 rfl rfl ?_
    refine own_i2b 31 Y dscmp5_30 rfl ?_
    refine own_stB 32 Y V_d dscmp5_31 ⟨by decide, by decide⟩ rfl fun T1 h1 Y1 W1 A1 => ?_
    have V_b := V_b.other W1 nbd
    have Kp := Kp.wr W1 (Or.inl (List.mem_of_getElem? (i := 0) rfl))
    have N := own_frY Y1 N gd
    have V_d : Arv Z h1 d kd .byte (3 : Int32) [(.int (nar .byte c0.toInt8.toInt32)), (.int (0 : Int32)), (.int (0 : Int32))] (.int (0 : Int32)) := A1 0 rfl (Nat.le_of_ble_eq_true rfl) (fits_nar_byte _)
    refine own_iinc 35 Y1 #[.val (.ref b), .val (.int (1 : Int32)), .val (.ref d), .val (.int (0 : Int32)), .val (.int (3 : Int32)), .val (.int (0 : Int32)), .val (.int c0)] (1 : Int32) dscmp5_32 rfl rfl rfl rfl ?_
    refine own_iinc 38 Y1 #[.val (.ref b), .val (.int (1 : Int32)), .val (.ref d), .val (.int (1 : Int32)), .val (.int (3 : Int32)), .val (.int (0 : Int32)), .val (.int c0)] (1 : Int32) dscmp5_35 rfl rfl rfl rfl ?_
    refine own_iinc 41 Y1 #[.val (.ref b), .val (.int (1 : Int32)), .val (.ref d), .val (.int (1 : Int32)), .val (.int (3 : Int32)), .val (.int (1 : Int32)), .val (.int c0)] (1 : Int32) dscmp5_38 rfl rfl rfl rfl ?_
    refine own_goto 3 Y1 dscmp5_41 (by decide) ?_
    refine own_iload 5 Y1 dscmp5_3 rfl rfl ?_
    refine own_iload 7 Y1 dscmp5_5 rfl rfl ?_
    refine own_icF 10 Y1 dscmp5_7 (XT.ii_ge_f (by decide)) rfl ?_
    refine own_aloadN 11 Y1 dscmp5_10 rfl rfl rfl ?_
    refine own_iloadN 12 Y1 dscmp5_11 rfl rfl ?_
    refine own_caload 13 Y1 V_b dscmp5_12 ⟨by decide, by decide⟩ rfl rfl ?_
    refine own_istore 15 Y1 #[.val (.ref b), .val (.int (1 : Int32)), .val (.ref d), .val (.int (1 : Int32)), .val (.int (3 : Int32)), .val (.int (1 : Int32)), .val (.int c1)] dscmp5_13 rfl rfl ?_
    refine own_iload 17 Y1 dscmp5_15 rfl rfl ?_
    refine own_sipush 20 Y1 (255 : Int32) dscmp5_17 rfl rfl ?_
    refine own_ic_le 26 23 Y1 dscmp5_20 (by decide) rfl (fun q20 => ?_) (fun q20 => ?_)
    · have hc1 := q20
      refine own_aloadN 27 Y1 dscmp5_26 rfl rfl rfl ?_
      refine own_iloadN 28 Y1 dscmp5_27 rfl rfl ?_
      refine own_iload 30 Y1 dscmp5_28 rfl rfl ?_
      refine own_i2b 31 Y1 dscmp5_30 rfl ?_
      refine own_stB 32 Y1 V_d dscmp5_31 ⟨by decide, by decide⟩ rfl fun T2 h2 Y2 W2 A2 => ?_
      have V_b := V_b.other W2 nbd
      have Kp := Kp.wr W2 (Or.inl (List.mem_of_getElem? (i := 0) rfl))
      have N := own_frY Y2 N gd
      have V_d : Arv Z h2 d kd .byte (3 : Int32) [(.int (nar .byte c0.toInt8.toInt32)), (.int (nar .byte c1.toInt8.toInt32)), (.int (0 : Int32))] (.int (0 : Int32)) := A2 1 rfl (Nat.le_of_ble_eq_true rfl) (fits_nar_byte _)
      refine own_iinc 35 Y2 #[.val (.ref b), .val (.int (2 : Int32)), .val (.ref d), .val (.int (1 : Int32)), .val (.int (3 : Int32)), .val (.int (1 : Int32)), .val (.int c1)] (1 : Int32) dscmp5_32 rfl rfl rfl rfl ?_
      refine own_iinc 38 Y2 #[.val (.ref b), .val (.int (2 : Int32)), .val (.ref d), .val (.int (2 : Int32)), .val (.int (3 : Int32)), .val (.int (1 : Int32)), .val (.int c1)] (1 : Int32) dscmp5_35 rfl rfl rfl rfl ?_
      refine own_iinc 41 Y2 #[.val (.ref b), .val (.int (2 : Int32)), .val (.ref d), .val (.int (2 : Int32)), .val (.int (3 : Int32)), .val (.int (2 : Int32)), .val (.int c1)] (1 : Int32) dscmp5_38 rfl rfl rfl rfl ?_
      refine own_goto 3 Y2 dscmp5_41 (by decide) ?_
      refine own_iload 5 Y2 dscmp5_3 rfl rfl ?_
      refine own_iload 7 Y2 dscmp5_5 rfl rfl ?_
      refine own_icF 10 Y2 dscmp5_7 (XT.ii_ge_f (by decide)) rfl ?_
      refine own_aloadN 11 Y2 dscmp5_10 rfl rfl rfl ?_
      refine own_iloadN 12 Y2 dscmp5_11 rfl rfl ?_
      refine own_caload 13 Y2 V_b dscmp5_12 ⟨by decide, by decide⟩ rfl rfl ?_
      refine own_istore 15 Y2 #[.val (.ref b), .val (.int (2 : Int32)), .val (.ref d), .val (.int (2 : Int32)), .val (.int (3 : Int32)), .val (.int (2 : Int32)), .val (.int c2)] dscmp5_13 rfl rfl ?_
      refine own_iload 17 Y2 dscmp5_15 rfl rfl ?_
      refine own_sipush 20 Y2 (255 : Int32) dscmp5_17 rfl rfl ?_
      refine own_ic_le 26 23 Y2 dscmp5_20 (by decide) rfl (fun q20 => ?_) (fun q20 => ?_)
      · have hc2 := q20
        refine own_aloadN 27 Y2 dscmp5_26 rfl rfl rfl ?_
        refine own_iloadN 28 Y2 dscmp5_27 rfl rfl ?_
        refine own_iload 30 Y2 dscmp5_28 rfl rfl ?_
        refine own_i2b 31 Y2 dscmp5_30 rfl ?_
        refine own_stB 32 Y2 V_d dscmp5_31 ⟨by decide, by decide⟩ rfl fun T3 h3 Y3 W3 A3 => ?_
        have V_b := V_b.other W3 nbd
        have Kp := Kp.wr W3 (Or.inl (List.mem_of_getElem? (i := 0) rfl))
        have N := own_frY Y3 N gd
        have V_d : Arv Z h3 d kd .byte (3 : Int32) [(.int (nar .byte c0.toInt8.toInt32)), (.int (nar .byte c1.toInt8.toInt32)), (.int (nar .byte c2.toInt8.toInt32))] (.int (0 : Int32)) := A3 2 rfl (Nat.le_of_ble_eq_true rfl) (fits_nar_byte _)
        refine own_iinc 35 Y3 #[.val (.ref b), .val (.int (3 : Int32)), .val (.ref d), .val (.int (2 : Int32)), .val (.int (3 : Int32)), .val (.int (2 : Int32)), .val (.int c2)] (1 : Int32) dscmp5_32 rfl rfl rfl rfl ?_
        refine own_iinc 38 Y3 #[.val (.ref b), .val (.int (3 : Int32)), .val (.ref d), .val (.int (3 : Int32)), .val (.int (3 : Int32)), .val (.int (2 : Int32)), .val (.int c2)] (1 : Int32) dscmp5_35 rfl rfl rfl rfl ?_
        refine own_iinc 41 Y3 #[.val (.ref b), .val (.int (3 : Int32)), .val (.ref d), .val (.int (3 : Int32)), .val (.int (3 : Int32)), .val (.int (3 : Int32)), .val (.int c2)] (1 : Int32) dscmp5_38 rfl rfl rfl rfl ?_
        refine own_goto 3 Y3 dscmp5_41 (by decide) ?_
        refine own_iload 5 Y3 dscmp5_3 rfl rfl ?_
        refine own_iload 7 Y3 dscmp5_5 rfl rfl ?_
        refine own_icT 44 Y3 dscmp5_7 (XT.ii_ge_t (by decide)) (by decide) ?_
        refine own_iload 46 Y3 dscmp5_44 rfl rfl ?_
        exact own_retI Y3 rfl dscmp5_46 (by decide) (by decide) ⟨Kp, N, Or.inl ⟨hc0, hc1, hc2, rfl, V_d⟩⟩
      · refine own_iload 25 Y2 dscmp5_23 rfl rfl ?_
        exact own_retI Y2 rfl dscmp5_25 (by decide) (by decide) ⟨Kp, N, Or.inr (Or.inr (Or.inr ⟨q20, rfl⟩))⟩
    · refine own_iload 25 Y1 dscmp5_23 rfl rfl ?_
      exact own_retI Y1 rfl dscmp5_25 (by decide) (by decide) ⟨Kp, N, Or.inr (Or.inr (Or.inl ⟨q20, rfl⟩))⟩
  · refine own_iload 25 Y dscmp5_23 rfl rfl ?_
    exact own_retI Y rfl dscmp5_25 (by decide) (by decide) ⟨Kp, N, Or.inr (Or.inl ⟨q20, rfl⟩)⟩
def Qputc_3_0 (Z : State) (d : Addr) (kd : ClassId) (cc : Int32) (p0 p1 p2 p3 p4 p5 : Value) (h0 : Heap) (n0 : Nat) (v : Option Value) (h : Heap) (L : List Loc) : Prop := v = none ∧ Keep h0 h [d] ∧ Fr n0 L ∧ Arv Z h d kd .byte (6 : Int32) [(.int (nar .byte (cc >>> ((0 : Int32) &&& 31)).toInt8.toInt32)), (.int (nar .byte (cc >>> ((8 : Int32) &&& 31)).toInt8.toInt32)), p2, p3, p4, p5] (.int (0 : Int32))
set_option maxRecDepth 65536 in
set_option maxHeartbeats 4000000 in
theorem c_putc_3_0 (l : Launch) (Z : State) (a0 : Array Value) (hw : ∀ d ∈ tables_1, d.before a0 Z = true) (d : Addr) (kd : ClassId) (cc : Int32) (p0 p1 p2 p3 p4 p5 : Value) (z : Int32) (fm : Value) (h0 : Heap) (n0 : Nat) (O : Old Z n0 h0) (WS : own_Ws Z z fm) (gd : n0 ≤ d) (V_d : Arv Z h0 d kd .byte (6 : Int32) [p0, p1, p2, p3, p4, p5] (.int (0 : Int32))) : own_M l (⟨"java/lang/StringUTF16", "putChar", "([BII)V"⟩ : MethodName) jdk_52_method_4_code 3 none [] ({ frames := 0, cells := 0, slots := 0, locals := 0 } : Room) Z #[.ref d, .int (0 : Int32), .int cc] h0 (Qputc_3_0 Z d kd cc p0 p1 p2 p3 p4 p5 h0 n0) := by
  refine own_met plsputc (Lf := #[.val (.ref d), .val (.int (0 : Int32)), .val (.int cc)]) (fun m => by first | (simp [entryFrame, mkF, argsToLocals, Value.category]; done) | rfl) ?_
  intro p e s m below meth c T Y
  have Kp := Keep.refl h0 [d]
  have N := Fr.nil n0
  refine own_getS 3 Y (host := "") (Or.inl (own_wd hw 91 rfl)) Via.refl (WS.2.2.1.ext O.2) dsputc_0 rfl fun T2 Y1 => ?_
  refine own_ifT 28 Y1 dsputc_3 (XT.i0_ne_t (by decide)) (by decide) ?_
  refine own_iloadN 29 Y1 dsputc_28 rfl rfl ?_
  refine own_iconst 30 Y1 (1 : Int32) dsputc_29 rfl rfl ?_
  refine own_ishl 31 Y1 dsputc_30 rfl ?_
  show own_G p e below _ (State.setTop _ (mkF m 31 #[.val (.ref d), .val (.int (0 : Int32)), .val (.int cc)] [(.int (0 : Int32))]))
  refine own_istoreN 32 Y1 #[.val (.ref d), .val (.int (0 : Int32)), .val (.int cc)] dsputc_31 rfl rfl ?_
  refine own_aloadN 33 Y1 dsputc_32 rfl rfl rfl ?_
  refine own_iloadN 34 Y1 dsputc_33 rfl rfl ?_
  refine own_iinc 37 Y1 #[.val (.ref d), .val (.int (1 : Int32)), .val (.int cc)] (1 : Int32) dsputc_34 rfl rfl rfl rfl ?_
  refine own_iloadN 38 Y1 dsputc_37 rfl rfl ?_
  refine own_getS 41 Y1 (host := "") (Or.inl (own_wd hw 92 rfl)) Via.refl (WS.2.2.2.1.ext O.2) dsputc_38 rfl fun T4 Y3 => ?_
  refine own_ishr 42 Y3 dsputc_41 rfl ?_
  refine own_i2b 43 Y3 dsputc_42 rfl ?_
  refine own_stB 44 Y3 V_d dsputc_43 ⟨by decide, by decide⟩ rfl fun T5 h5 Y5 W5 A5 => ?_
  have Kp := Kp.wr W5 (Or.inl (List.mem_of_getElem? (i := 0) rfl))
  have N := own_frY Y5 N gd
  have O := O.wr W5 gd
  have V_d : Arv Z h5 d kd .byte (6 : Int32) [(.int (nar .byte (cc >>> ((0 : Int32) &&& 31)).toInt8.toInt32)), p1, p2, p3, p4, p5] (.int (0 : Int32)) := A5 0 rfl (Nat.le_of_ble_eq_true rfl) (fits_nar_byte _)
  refine own_aloadN 45 Y5 dsputc_44 rfl rfl rfl ?_
  refine own_iloadN 46 Y5 dsputc_45 rfl rfl ?_
  refine own_iloadN 47 Y5 dsputc_46 rfl rfl ?_
  refine own_getS 50 Y5 (host := "") (Or.inl (own_wd hw 93 rfl)) Via.refl (WS.2.2.2.2.1.ext O.2) dsputc_47 rfl fun T7 Y6 => ?_
  refine own_ishr 51 Y6 dsputc_50 rfl ?_
  refine own_i2b 52 Y6 dsputc_51 rfl ?_
  refine own_stB 53 Y6 V_d dsputc_52 ⟨by decide, by decide⟩ rfl fun T8 h8 Y8 W8 A8 => ?_
  have Kp := Kp.wr W8 (Or.inl (List.mem_of_getElem? (i := 0) rfl))
  have N := own_frY Y8 N gd
  have O := O.wr W8 gd
  have V_d : Arv Z h8 d kd .byte (6 : Int32) [(.int (nar .byte (cc >>> ((0 : Int32) &&& 31)).toInt8.toInt32)), (.int (nar .byte (cc >>> ((8 : Int32) &&& 31)).toInt8.toInt32)), p2, p3, p4, p5] (.int (0 : Int32)) := A8 1 rfl (Nat.le_of_ble_eq_true rfl) (fits_nar_byte _)
  exact own_retV Y8 rfl dsputc_53 (by decide) (by decide) ⟨rfl, Kp, N, V_d⟩
def Qputc_3_1 (Z : State) (d : Addr) (kd : ClassId) (cc : Int32) (p0 p1 p2 p3 p4 p5 : Value) (h0 : Heap) (n0 : Nat) (v : Option Value) (h : Heap) (L : List Loc) : Prop := v = none ∧ Keep h0 h [d] ∧ Fr n0 L ∧ Arv Z h d kd .byte (6 : Int32) [p0, p1, (.int (nar .byte (cc >>> ((0 : Int32) &&& 31)).toInt8.toInt32)), (.int (nar .byte (cc >>> ((8 : Int32) &&& 31)).toInt8.toInt32)), p4, p5] (.int (0 : Int32))
set_option maxRecDepth 65536 in
set_option maxHeartbeats 4000000 in
theorem c_putc_3_1 (l : Launch) (Z : State) (a0 : Array Value) (hw : ∀ d ∈ tables_1, d.before a0 Z = true) (d : Addr) (kd : ClassId) (cc : Int32) (p0 p1 p2 p3 p4 p5 : Value) (z : Int32) (fm : Value) (h0 : Heap) (n0 : Nat) (O : Old Z n0 h0) (WS : own_Ws Z z fm) (gd : n0 ≤ d) (V_d : Arv Z h0 d kd .byte (6 : Int32) [p0, p1, p2, p3, p4, p5] (.int (0 : Int32))) : own_M l (⟨"java/lang/StringUTF16", "putChar", "([BII)V"⟩ : MethodName) jdk_52_method_4_code 3 none [] ({ frames := 0, cells := 0, slots := 0, locals := 0 } : Room) Z #[.ref d, .int (1 : Int32), .int cc] h0 (Qputc_3_1 Z d kd cc p0 p1 p2 p3 p4 p5 h0 n0) := by
  refine own_met plsputc (Lf := #[.val (.ref d), .val (.int (1 : Int32)), .val (.int cc)]) (fun m => by first | (simp [entryFrame, mkF, argsToLocals, Value.category]; done) | rfl) ?_
  intro p e s m below meth c T Y
  have Kp := Keep.refl h0 [d]
  have N := Fr.nil n0
  refine own_getS 3 Y (host := "") (Or.inl (own_wd hw 91 rfl)) Via.refl (WS.2.2.1.ext O.2) dsputc_0 rfl fun T2 Y1 => ?_
  refine own_ifT 28 Y1 dsputc_3 (XT.i0_ne_t (by decide)) (by decide) ?_
  refine own_iloadN 29 Y1 dsputc_28 rfl rfl ?_
  refine own_iconst 30 Y1 (1 : Int32) dsputc_29 rfl rfl ?_
  refine own_ishl 31 Y1 dsputc_30 rfl ?_
  show own_G p e below _ (State.setTop _ (mkF m 31 #[.val (.ref d), .val (.int (1 : Int32)), .val (.int cc)] [(.int (2 : Int32))]))
  refine own_istoreN 32 Y1 #[.val (.ref d), .val (.int (2 : Int32)), .val (.int cc)] dsputc_31 rfl rfl ?_
  refine own_aloadN 33 Y1 dsputc_32 rfl rfl rfl ?_
  refine own_iloadN 34 Y1 dsputc_33 rfl rfl ?_
  refine own_iinc 37 Y1 #[.val (.ref d), .val (.int (3 : Int32)), .val (.int cc)] (1 : Int32) dsputc_34 rfl rfl rfl rfl ?_
  refine own_iloadN 38 Y1 dsputc_37 rfl rfl ?_
  refine own_getS 41 Y1 (host := "") (Or.inl (own_wd hw 92 rfl)) Via.refl (WS.2.2.2.1.ext O.2) dsputc_38 rfl fun T4 Y3 => ?_
  refine own_ishr 42 Y3 dsputc_41 rfl ?_
  refine own_i2b 43 Y3 dsputc_42 rfl ?_
  refine own_stB 44 Y3 V_d dsputc_43 ⟨by decide, by decide⟩ rfl fun T5 h5 Y5 W5 A5 => ?_
  have Kp := Kp.wr W5 (Or.inl (List.mem_of_getElem? (i := 0) rfl))
  have N := own_frY Y5 N gd
  have O := O.wr W5 gd
  have V_d : Arv Z h5 d kd .byte (6 : Int32) [p0, p1, (.int (nar .byte (cc >>> ((0 : Int32) &&& 31)).toInt8.toInt32)), p3, p4, p5] (.int (0 : Int32)) := A5 2 rfl (Nat.le_of_ble_eq_true rfl) (fits_nar_byte _)
  refine own_aloadN 45 Y5 dsputc_44 rfl rfl rfl ?_
  refine own_iloadN 46 Y5 dsputc_45 rfl rfl ?_
  refine own_iloadN 47 Y5 dsputc_46 rfl rfl ?_
  refine own_getS 50 Y5 (host := "") (Or.inl (own_wd hw 93 rfl)) Via.refl (WS.2.2.2.2.1.ext O.2) dsputc_47 rfl fun T7 Y6 => ?_
  refine own_ishr 51 Y6 dsputc_50 rfl ?_
  refine own_i2b 52 Y6 dsputc_51 rfl ?_
  refine own_stB 53 Y6 V_d dsputc_52 ⟨by decide, by decide⟩ rfl fun T8 h8 Y8 W8 A8 => ?_
  have Kp := Kp.wr W8 (Or.inl (List.mem_of_getElem? (i := 0) rfl))
  have N := own_frY Y8 N gd
  have O := O.wr W8 gd
  have V_d : Arv Z h8 d kd .byte (6 : Int32) [p0, p1, (.int (nar .byte (cc >>> ((0 : Int32) &&& 31)).toInt8.toInt32)), (.int (nar .byte (cc >>> ((8 : Int32) &&& 31)).toInt8.toInt32)), p4, p5] (.int (0 : Int32)) := A8 3 rfl (Nat.le_of_ble_eq_true rfl) (fits_nar_byte _)
  exact own_retV Y8 rfl dsputc_53 (by decide) (by decide) ⟨rfl, Kp, N, V_d⟩
def Qputc_3_2 (Z : State) (d : Addr) (kd : ClassId) (cc : Int32) (p0 p1 p2 p3 p4 p5 : Value) (h0 : Heap) (n0 : Nat) (v : Option Value) (h : Heap) (L : List Loc) : Prop := v = none ∧ Keep h0 h [d] ∧ Fr n0 L ∧ Arv Z h d kd .byte (6 : Int32) [p0, p1, p2, p3, (.int (nar .byte (cc >>> ((0 : Int32) &&& 31)).toInt8.toInt32)), (.int (nar .byte (cc >>> ((8 : Int32) &&& 31)).toInt8.toInt32))] (.int (0 : Int32))
set_option maxRecDepth 65536 in
set_option maxHeartbeats 4000000 in
theorem c_putc_3_2 (l : Launch) (Z : State) (a0 : Array Value) (hw : ∀ d ∈ tables_1, d.before a0 Z = true) (d : Addr) (kd : ClassId) (cc : Int32) (p0 p1 p2 p3 p4 p5 : Value) (z : Int32) (fm : Value) (h0 : Heap) (n0 : Nat) (O : Old Z n0 h0) (WS : own_Ws Z z fm) (gd : n0 ≤ d) (V_d : Arv Z h0 d kd .byte (6 : Int32) [p0, p1, p2, p3, p4, p5] (.int (0 : Int32))) : own_M l (⟨"java/lang/StringUTF16", "putChar", "([BII)V"⟩ : MethodName) jdk_52_method_4_code 3 none [] ({ frames := 0, cells := 0, slots := 0, locals := 0 } : Room) Z #[.ref d, .int (2 : Int32), .int cc] h0 (Qputc_3_2 Z d kd cc p0 p1 p2 p3 p4 p5 h0 n0) := by
  refine own_met plsputc (Lf := #[.val (.ref d), .val (.int (2 : Int32)), .val (.int cc)]) (fun m => by first | (simp [entryFrame, mkF, argsToLocals, Value.category]; done) | rfl) ?_
  intro p e s m below meth c T Y
  have Kp := Keep.refl h0 [d]
  have N := Fr.nil n0
  refine own_getS 3 Y (host := "") (Or.inl (own_wd hw 91 rfl)) Via.refl (WS.2.2.1.ext O.2) dsputc_0 rfl fun T2 Y1 => ?_
  refine own_ifT 28 Y1 dsputc_3 (XT.i0_ne_t (by decide)) (by decide) ?_
  refine own_iloadN 29 Y1 dsputc_28 rfl rfl ?_
  refine own_iconst 30 Y1 (1 : Int32) dsputc_29 rfl rfl ?_
  refine own_ishl 31 Y1 dsputc_30 rfl ?_
  show own_G p e below _ (State.setTop _ (mkF m 31 #[.val (.ref d), .val (.int (2 : Int32)), .val (.int cc)] [(.int (4 : Int32))]))
  refine own_istoreN 32 Y1 #[.val (.ref d), .val (.int (4 : Int32)), .val (.int cc)] dsputc_31 rfl rfl ?_
  refine own_aloadN 33 Y1 dsputc_32 rfl rfl rfl ?_
  refine own_iloadN 34 Y1 dsputc_33 rfl rfl ?_
  refine own_iinc 37 Y1 #[.val (.ref d), .val (.int (5 : Int32)), .val (.int cc)] (1 : Int32) dsputc_34 rfl rfl rfl rfl ?_
  refine own_iloadN 38 Y1 dsputc_37 rfl rfl ?_
  refine own_getS 41 Y1 (host := "") (Or.inl (own_wd hw 92 rfl)) Via.refl (WS.2.2.2.1.ext O.2) dsputc_38 rfl fun T4 Y3 => ?_
  refine own_ishr 42 Y3 dsputc_41 rfl ?_
  refine own_i2b 43 Y3 dsputc_42 rfl ?_
  refine own_stB 44 Y3 V_d dsputc_43 ⟨by decide, by decide⟩ rfl fun T5 h5 Y5 W5 A5 => ?_
  have Kp := Kp.wr W5 (Or.inl (List.mem_of_getElem? (i := 0) rfl))
  have N := own_frY Y5 N gd
  have O := O.wr W5 gd
  have V_d : Arv Z h5 d kd .byte (6 : Int32) [p0, p1, p2, p3, (.int (nar .byte (cc >>> ((0 : Int32) &&& 31)).toInt8.toInt32)), p5] (.int (0 : Int32)) := A5 4 rfl (Nat.le_of_ble_eq_true rfl) (fits_nar_byte _)
  refine own_aloadN 45 Y5 dsputc_44 rfl rfl rfl ?_
  refine own_iloadN 46 Y5 dsputc_45 rfl rfl ?_
  refine own_iloadN 47 Y5 dsputc_46 rfl rfl ?_
  refine own_getS 50 Y5 (host := "") (Or.inl (own_wd hw 93 rfl)) Via.refl (WS.2.2.2.2.1.ext O.2) dsputc_47 rfl fun T7 Y6 => ?_
  refine own_ishr 51 Y6 dsputc_50 rfl ?_
  refine own_i2b 52 Y6 dsputc_51 rfl ?_
  refine own_stB 53 Y6 V_d dsputc_52 ⟨by decide, by decide⟩ rfl fun T8 h8 Y8 W8 A8 => ?_
  have Kp := Kp.wr W8 (Or.inl (List.mem_of_getElem? (i := 0) rfl))
  have N := own_frY Y8 N gd
  have O := O.wr W8 gd
  have V_d : Arv Z h8 d kd .byte (6 : Int32) [p0, p1, p2, p3, (.int (nar .byte (cc >>> ((0 : Int32) &&& 31)).toInt8.toInt32)), (.int (nar .byte (cc >>> ((8 : Int32) &&& 31)).toInt8.toInt32))] (.int (0 : Int32)) := A8 5 rfl (Nat.le_of_ble_eq_true rfl) (fits_nar_byte _)
  exact own_retV Y8 rfl dsputc_53 (by decide) (by decide) ⟨rfl, Kp, N, V_d⟩
set_option maxRecDepth 65536 in
set_option maxHeartbeats 4000000 in
theorem c_nbl_3 (l : Launch) (Z : State) (a0 : Array Value) (hw : ∀ d ∈ tables_1, d.before a0 Z = true) (h0 : Heap) : own_M l (⟨"java/lang/StringUTF16", "newBytesLength", "(I)I"⟩ : MethodName) jdk_52_method_3_code 1 (some .int) [] ({ frames := 0, cells := 0, slots := 0, locals := 0 } : Room) Z #[.int (3 : Int32)] h0 (Qv (some (.int (6 : Int32))) h0) := by
  refine own_met plsnbl (Lf := #[.val (.int (3 : Int32))]) (fun m => by first | (simp [entryFrame, mkF, argsToLocals, Value.category]; done) | rfl) ?_
  intro p e s m below meth c T Y
  refine own_iloadN 1 Y dsnbl_0 rfl rfl ?_
  refine own_ifT 12 Y dsnbl_1 (XT.i0_ge_t (by decide)) (by decide) ?_
  refine own_iloadN 13 Y dsnbl_12 rfl rfl ?_
  refine own_ldcI 15 Y (own_wd hw 87 rfl) dsnbl_13 rfl ?_
  refine own_icT 55 Y dsnbl_15 (XT.ii_lt_t (by decide)) (by decide) ?_
  refine own_iloadN 56 Y dsnbl_55 rfl rfl ?_
  refine own_iconst 57 Y (1 : Int32) dsnbl_56 rfl rfl ?_
  refine own_ishl 58 Y dsnbl_57 rfl ?_
  show own_G p e below _ (State.setTop _ (mkF m 58 #[.val (.int (3 : Int32))] [(.int (6 : Int32))]))
  exact own_retI Y rfl dsnbl_58 (by decide) (by decide) ⟨rfl, rfl, rfl⟩
def Qnbf_3 (Z : State) (h0 : Heap) (n0 : Nat) (v : Option Value) (h : Heap) (L : List Loc) : Prop := ∃ (d : Addr) (kd : ClassId), v = some (.ref d) ∧ h0.size ≤ d ∧ Keep h0 h [] ∧ Fr n0 L ∧ Arv Z h d kd .byte (6 : Int32) [(.int (0 : Int32)), (.int (0 : Int32)), (.int (0 : Int32)), (.int (0 : Int32)), (.int (0 : Int32)), (.int (0 : Int32))] (.int (0 : Int32))
set_option maxRecDepth 65536 in
set_option maxHeartbeats 4000000 in
theorem c_nbf_3 (l : Launch) (Z : State) (a0 : Array Value) (hw : ∀ d ∈ tables_1, d.before a0 Z = true) (h0 : Heap) (n0 : Nat) (Zs : n0 ≤ h0.size) : own_M l (⟨"java/lang/StringUTF16", "newBytesFor", "(I)[B"⟩ : MethodName) jdk_52_method_2_code 1 (some (.array .byte)) [] ({ frames := 1, cells := 1, slots := 6, locals := 12 } : Room) Z #[.int (3 : Int32)] h0 (Qnbf_3 Z h0 n0) := by
  refine own_met plsnbf (Lf := #[.val (.int (3 : Int32))]) (fun m => by first | (simp [entryFrame, mkF, argsToLocals, Value.category]; done) | rfl) ?_
  intro p e s m below meth c T Y
  have Kp := Keep.refl h0 []
  have N := Fr.nil n0
  refine own_iloadN 1 Y dsnbf_0 rfl rfl ?_
  refine own_callS 4 Y [(.int (3 : Int32))] [] (own_wd hw 84 rfl) (own_wd hw 85 rfl) (own_wd hw 41 rfl) (own_wd hw 86 rfl) (c_nbl_3 l Z a0 hw _) dsnbf_1 (by decide) (lenOf pdsnbl rfl) rfl rfl (by decide) (Nat.le_of_ble_eq_true rfl) (by decide) (by decide) rfl fun v1 T1 h1 L1 Y1 hQ1 => ?_
  obtain ⟨rfl, rfl, rfl⟩ := hQ1
  have N := N.app (Fr.nil n0)
  show own_G p e below _ (T1.setTop (mkF m 4 #[.val (.int (3 : Int32))] [(.int (6 : Int32))]))
  refine own_newP 6 Y1 (own_wd hw 17 rfl) 6 dsnbf_4 (by decide) (by decide) (by decide) (by decide) (by decide) rfl fun T2 h2 d k_d Y2 g_d E2 V_d => ?_
  have gk_d := Nat.le_trans Kp.1 (Nat.le_of_eq g_d.symm)
  have gn_d : n0 ≤ d := by rw [g_d]; exact Zs
  have Kp := Kp.ext E2
  have Zs := Nat.le_trans Zs E2.1
  have V_d : Arv Z h2 d k_d .byte (6 : Int32) [(.int (0 : Int32)), (.int (0 : Int32)), (.int (0 : Int32)), (.int (0 : Int32)), (.int (0 : Int32)), (.int (0 : Int32))] (.int (0 : Int32)) := V_d.pad (pad_rep [] _ 6)
  exact own_retA Y2 rfl rfl rfl dsnbf_6 (by decide) (by decide) ⟨d, k_d, rfl, gk_d, Kp, N, V_d⟩
def Qtob_3 (Z : State) (c0 c1 c2 : Int32) (h0 : Heap) (n0 : Nat) (v : Option Value) (h : Heap) (L : List Loc) : Prop := ∃ (d : Addr) (kd : ClassId), v = some (.ref d) ∧ h0.size ≤ d ∧ Keep h0 h [] ∧ Fr n0 L ∧ Arv Z h d kd .byte (6 : Int32) [(.int (nar .byte (c0 >>> ((0 : Int32) &&& 31)).toInt8.toInt32)), (.int (nar .byte (c0 >>> ((8 : Int32) &&& 31)).toInt8.toInt32)), (.int (nar .byte (c1 >>> ((0 : Int32) &&& 31)).toInt8.toInt32)), (.int (nar .byte (c1 >>> ((8 : Int32) &&& 31)).toInt8.toInt32)), (.int (nar .byte (c2 >>> ((0 : Int32) &&& 31)).toInt8.toInt32)), (.int (nar .byte (c2 >>> ((8 : Int32) &&& 31)).toInt8.toInt32))] (.int (0 : Int32))
set_option maxRecDepth 65536 in
set_option maxHeartbeats 4000000 in
theorem c_tob_3 (l : Launch) (Z : State) (a0 : Array Value) (hw : ∀ d ∈ tables_1, d.before a0 Z = true) (b : Addr) (kb : ClassId) (c0 c1 c2 : Int32) (hn0 : nar .char c0 = c0) (hn1 : nar .char c1 = c1) (hn2 : nar .char c2 = c2) (z : Int32) (fm : Value) (h0 : Heap) (n0 : Nat) (O : Old Z n0 h0) (WS : own_Ws Z z fm) (Zs : n0 ≤ h0.size) (V_b : Arv Z h0 b kb .char (3 : Int32) [(.int c0), (.int c1), (.int c2)] (.int (0 : Int32))) : own_M l (⟨"java/lang/StringUTF16", "toBytes", "([CII)[B"⟩ : MethodName) jdk_52_method_14_code 5 (some (.array .byte)) [] ({ frames := 2, cells := 1, slots := 6, locals := 24 } : Room) Z #[.ref b, .int (0 : Int32), .int (3 : Int32)] h0 (Qtob_3 Z c0 c1 c2 h0 n0) := by
  refine own_met plstob (Lf := #[.val (.ref b), .val (.int (0 : Int32)), .val (.int (3 : Int32)), .unset, .unset]) (fun m => by first | (simp [entryFrame, mkF, argsToLocals, Value.category]; done) | rfl) ?_
  intro p e s m below meth c T Y
  have Kp := Keep.refl h0 []
  have N := Fr.nil n0
  refine own_iloadN 1 Y dstob_0 rfl rfl ?_
  refine own_callS 4 Y [(.int (3 : Int32))] [] (own_wd hw 81 rfl) (own_wd hw 82 rfl) (own_wd hw 41 rfl) (own_wd hw 83 rfl) (c_nbf_3 l Z a0 hw _ n0 Zs) dstob_1 (by decide) (lenOf pdsnbf rfl) rfl rfl (by decide) (Nat.le_of_ble_eq_true rfl) (by decide) (by decide) rfl fun v1 T1 h1 L1 Y1 hQ1 => ?_
  obtain ⟨d, kd, rfl, gk_d, K1, N1, V_d⟩ := hQ1
  have gn_d := Nat.le_trans Zs gk_d
  have ne_b_d : b ≠ d := Nat.ne_of_lt (Nat.lt_of_lt_of_le V_b.lt gk_d)
  have V_b := V_b.keep K1 nin0
  have Kp := Kp.trans K1 all0
  have N := N.app N1
  have Zs := Nat.le_trans Zs K1.1
  have O := O.keep K1 all0
  show own_G p e below _ (T1.setTop (mkF m 4 #[.val (.ref b), .val (.int (0 : Int32)), .val (.int (3 : Int32)), .unset, .unset] [(.ref d)]))
  refine own_astoreN 5 Y1 #[.val (.ref b), .val (.int (0 : Int32)), .val (.int (3 : Int32)), .val (.ref d), .unset] dstob_4 rfl rfl rfl ?_
  refine own_iconst 6 Y1 (0 : Int32) dstob_5 rfl rfl ?_
  refine own_istore 8 Y1 #[.val (.ref b), .val (.int (0 : Int32)), .val (.int (3 : Int32)), .val (.ref d), .val (.int (0 : Int32))] dstob_6 rfl rfl ?_
  refine own_iload 10 Y1 dstob_8 rfl rfl ?_
  refine own_iloadN 11 Y1 dstob_10 rfl rfl ?_
  refine own_icF 14 Y1 dstob_11 (XT.ii_ge_f (by decide)) rfl ?_
  refine own_aloadN 15 Y1 dstob_14 rfl rfl rfl ?_
  refine own_iload 17 Y1 dstob_15 rfl rfl ?_
  refine own_aloadN 18 Y1 dstob_17 rfl rfl rfl ?_
  refine own_iloadN 19 Y1 dstob_18 rfl rfl ?_
  refine own_caload 20 Y1 V_b dstob_19 ⟨by decide, by decide⟩ rfl rfl ?_
  refine own_callS 23 Y1 [(.ref d), (.int (0 : Int32)), (.int c0)] [] (own_wd hw 88 rfl) (own_wd hw 89 rfl) (own_wd hw 41 rfl) (own_wd hw 90 rfl) (c_putc_3_0 l Z a0 hw d kd c0 (.int (0 : Int32)) (.int (0 : Int32)) (.int (0 : Int32)) (.int (0 : Int32)) (.int (0 : Int32)) (.int (0 : Int32)) z fm _ n0 O WS gn_d V_d) dstob_20 (by decide) (lenOf pdsputc rfl) rfl rfl (by decide) (Nat.le_of_ble_eq_true rfl) (by decide) (by decide) rfl fun v2 T2 h2 L2 Y2 hQ2 => ?_
  obtain ⟨rfl, K2, N2, G2⟩ := hQ2
  have V_b := V_b.keep K2 (ninS ne_b_d nin0)
  have Kp := Kp.trans K2 (allS (Or.inr gk_d) all0)
  have N := N.app N2
  have Zs := Nat.le_trans Zs K2.1
  have O := O.keep K2 (allS gn_d all0)
  have V_d := G2
  show own_G p e below _ (T2.setTop (mkF m 23 #[.val (.ref b), .val (.int (0 : Int32)), .val (.int (3 : Int32)), .val (.ref d), .val (.int (0 : Int32))] []))
  refine own_iinc 26 Y2 #[.val (.ref b), .val (.int (1 : Int32)), .val (.int (3 : Int32)), .val (.ref d), .val (.int (0 : Int32))] (1 : Int32) dstob_23 rfl rfl rfl rfl ?_
  refine own_iinc 29 Y2 #[.val (.ref b), .val (.int (1 : Int32)), .val (.int (3 : Int32)), .val (.ref d), .val (.int (1 : Int32))] (1 : Int32) dstob_26 rfl rfl rfl rfl ?_
  refine own_goto 8 Y2 dstob_29 (by decide) ?_
  refine own_iload 10 Y2 dstob_8 rfl rfl ?_
  refine own_iloadN 11 Y2 dstob_10 rfl rfl ?_
  refine own_icF 14 Y2 dstob_11 (XT.ii_ge_f (by decide)) rfl ?_
  refine own_aloadN 15 Y2 dstob_14 rfl rfl rfl ?_
  refine own_iload 17 Y2 dstob_15 rfl rfl ?_
  refine own_aloadN 18 Y2 dstob_17 rfl rfl rfl ?_
  refine own_iloadN 19 Y2 dstob_18 rfl rfl ?_
  refine own_caload 20 Y2 V_b dstob_19 ⟨by decide, by decide⟩ rfl rfl ?_
  refine own_callS 23 Y2 [(.ref d), (.int (1 : Int32)), (.int c1)] [] (own_wd hw 88 rfl) (own_wd hw 89 rfl) (own_wd hw 41 rfl) (own_wd hw 90 rfl) (c_putc_3_1 l Z a0 hw d kd c1 (.int (nar .byte (c0 >>> ((0 : Int32) &&& 31)).toInt8.toInt32)) (.int (nar .byte (c0 >>> ((8 : Int32) &&& 31)).toInt8.toInt32)) (.int (0 : Int32)) (.int (0 : Int32)) (.int (0 : Int32)) (.int (0 : Int32)) z fm _ n0 O WS gn_d V_d) dstob_20 (by decide) (lenOf pdsputc rfl) rfl rfl (by decide) (Nat.le_of_ble_eq_true rfl) (by decide) (by decide) rfl fun v3 T3 h3 L3 Y3 hQ3 => ?_
  obtain ⟨rfl, K3, N3, G3⟩ := hQ3
  have V_b := V_b.keep K3 (ninS ne_b_d nin0)
  have Kp := Kp.trans K3 (allS (Or.inr gk_d) all0)
  have N := N.app N3
  have Zs := Nat.le_trans Zs K3.1
  have O := O.keep K3 (allS gn_d all0)
  have V_d := G3
  show own_G p e below _ (T3.setTop (mkF m 23 #[.val (.ref b), .val (.int (1 : Int32)), .val (.int (3 : Int32)), .val (.ref d), .val (.int (1 : Int32))] []))
  refine own_iinc 26 Y3 #[.val (.ref b), .val (.int (2 : Int32)), .val (.int (3 : Int32)), .val (.ref d), .val (.int (1 : Int32))] (1 : Int32) dstob_23 rfl rfl rfl rfl ?_
  refine own_iinc 29 Y3 #[.val (.ref b), .val (.int (2 : Int32)), .val (.int (3 : Int32)), .val (.ref d), .val (.int (2 : Int32))] (1 : Int32) dstob_26 rfl rfl rfl rfl ?_
  refine own_goto 8 Y3 dstob_29 (by decide) ?_
  refine own_iload 10 Y3 dstob_8 rfl rfl ?_
  refine own_iloadN 11 Y3 dstob_10 rfl rfl ?_
  refine own_icF 14 Y3 dstob_11 (XT.ii_ge_f (by decide)) rfl ?_
  refine own_aloadN 15 Y3 dstob_14 rfl rfl rfl ?_
  refine own_iload 17 Y3 dstob_15 rfl rfl ?_
  refine own_aloadN 18 Y3 dstob_17 rfl rfl rfl ?_
  refine own_iloadN 19 Y3 dstob_18 rfl rfl ?_
  refine own_caload 20 Y3 V_b dstob_19 ⟨by decide, by decide⟩ rfl rfl ?_
  refine own_callS 23 Y3 [(.ref d), (.int (2 : Int32)), (.int c2)] [] (own_wd hw 88 rfl) (own_wd hw 89 rfl) (own_wd hw 41 rfl) (own_wd hw 90 rfl) (c_putc_3_2 l Z a0 hw d kd c2 (.int (nar .byte (c0 >>> ((0 : Int32) &&& 31)).toInt8.toInt32)) (.int (nar .byte (c0 >>> ((8 : Int32) &&& 31)).toInt8.toInt32)) (.int (nar .byte (c1 >>> ((0 : Int32) &&& 31)).toInt8.toInt32)) (.int (nar .byte (c1 >>> ((8 : Int32) &&& 31)).toInt8.toInt32)) (.int (0 : Int32)) (.int (0 : Int32)) z fm _ n0 O WS gn_d V_d) dstob_20 (by decide) (lenOf pdsputc rfl) rfl rfl (by decide) (Nat.le_of_ble_eq_true rfl) (by decide) (by decide) rfl fun v4 T4 h4 L4 Y4 hQ4 => ?_
  obtain ⟨rfl, K4, N4, G4⟩ := hQ4
  have V_b := V_b.keep K4 (ninS ne_b_d nin0)
  have Kp := Kp.trans K4 (allS (Or.inr gk_d) all0)
  have N := N.app N4
  have Zs := Nat.le_trans Zs K4.1
  have O := O.keep K4 (allS gn_d all0)
  have V_d := G4
  show own_G p e below _ (T4.setTop (mkF m 23 #[.val (.ref b), .val (.int (2 : Int32)), .val (.int (3 : Int32)), .val (.ref d), .val (.int (2 : Int32))] []))
  refine own_iinc 26 Y4 #[.val (.ref b), .val (.int (3 : Int32)), .val (.int (3 : Int32)), .val (.ref d), .val (.int (2 : Int32))] (1 : Int32) dstob_23 rfl rfl rfl rfl ?_
  refine own_iinc 29 Y4 #[.val (.ref b), .val (.int (3 : Int32)), .val (.int (3 : Int32)), .val (.ref d), .val (.int (3 : Int32))] (1 : Int32) dstob_26 rfl rfl rfl rfl ?_
  refine own_goto 8 Y4 dstob_29 (by decide) ?_
  refine own_iload 10 Y4 dstob_8 rfl rfl ?_
  refine own_iloadN 11 Y4 dstob_10 rfl rfl ?_
  refine own_icT 32 Y4 dstob_11 (XT.ii_ge_t (by decide)) (by decide) ?_
  refine own_aloadN 33 Y4 dstob_32 rfl rfl rfl ?_
  exact own_retA Y4 rfl rfl rfl dstob_33 (by decide) (by decide) ⟨d, kd, rfl, gk_d, Kp, N, V_d⟩
def Qcmp3w_3 (Z : State) (c0 c1 c2 : Int32) (h0 : Heap) (n0 : Nat) (v : Option Value) (h : Heap) (L : List Loc) : Prop := ∃ (d : Addr) (kd : ClassId), v = some (.ref d) ∧ h0.size ≤ d ∧ Keep h0 h [] ∧ Fr n0 L ∧ ((¬ (255 : Int32) < c0 ∧ ¬ (255 : Int32) < c1 ∧ ¬ (255 : Int32) < c2 ∧ Arv Z h d kd .byte (3 : Int32) [(.int (nar .byte c0.toInt8.toInt32)), (.int (nar .byte c1.toInt8.toInt32)), (.int (nar .byte c2.toInt8.toInt32))] (.int (0 : Int32))) ∨ Arv Z h d kd .byte (6 : Int32) [(.int (nar .byte (c0 >>> ((0 : Int32) &&& 31)).toInt8.toInt32)), (.int (nar .byte (c0 >>> ((8 : Int32) &&& 31)).toInt8.toInt32)), (.int (nar .byte (c1 >>> ((0 : Int32) &&& 31)).toInt8.toInt32)), (.int (nar .byte (c1 >>> ((8 : Int32) &&& 31)).toInt8.toInt32)), (.int (nar .byte (c2 >>> ((0 : Int32) &&& 31)).toInt8.toInt32)), (.int (nar .byte (c2 >>> ((8 : Int32) &&& 31)).toInt8.toInt32))] (.int (0 : Int32)))
set_option maxRecDepth 65536 in
set_option maxHeartbeats 4000000 in
theorem c_cmp3w_3 (l : Launch) (Z : State) (a0 : Array Value) (hw : ∀ d ∈ tables_1, d.before a0 Z = true) (b : Addr) (kb : ClassId) (c0 c1 c2 : Int32) (hn0 : nar .char c0 = c0) (hn1 : nar .char c1 = c1) (hn2 : nar .char c2 = c2) (z : Int32) (fm : Value) (h0 : Heap) (n0 : Nat) (O : Old Z n0 h0) (WS : own_Ws Z z fm) (Zs : n0 ≤ h0.size) (V_b : Arv Z h0 b kb .char (3 : Int32) [(.int c0), (.int c1), (.int c2)] (.int (0 : Int32))) : own_M l (⟨"java/lang/StringUTF16", "compress", "([CII)[B"⟩ : MethodName) jdk_52_method_16_code 6 (some (.array .byte)) [] ({ frames := 3, cells := 2, slots := 9, locals := 40 } : Room) Z #[.ref b, .int (0 : Int32), .int (3 : Int32)] h0 (Qcmp3w_3 Z c0 c1 c2 h0 n0) := by
  refine own_met plscmp3 (Lf := #[.val (.ref b), .val (.int (0 : Int32)), .val (.int (3 : Int32)), .unset, .unset, .unset]) (fun m => by first | (simp [entryFrame, mkF, argsToLocals, Value.category]; done) | rfl) ?_
  intro p e s m below meth c T Y
  have Kp := Keep.refl h0 []
  have N := Fr.nil n0
  refine own_iloadN 1 Y dscmp3_0 rfl rfl ?_
  refine own_newP 3 Y (own_wd hw 17 rfl) 3 dscmp3_1 (by decide) (by decide) (by decide) (by decide) (by decide) rfl fun T1 h1 d k_d Y1 g_d E1 V_d => ?_
  have ne_b_d : b ≠ d := by rw [g_d]; exact Nat.ne_of_lt V_b.lt
  have gk_d := Nat.le_trans Kp.1 (Nat.le_of_eq g_d.symm)
  have gn_d : n0 ≤ d := by rw [g_d]; exact Zs
  have V_b := V_b.ext E1
  have Kp := Kp.ext E1
  have Zs := Nat.le_trans Zs E1.1
  have O := O.ext E1
  have V_d : Arv Z h1 d k_d .byte (3 : Int32) [(.int (0 : Int32)), (.int (0 : Int32)), (.int (0 : Int32))] (.int (0 : Int32)) := V_d.pad (pad_rep [] _ 3)
  refine own_astoreN 4 Y1 #[.val (.ref b), .val (.int (0 : Int32)), .val (.int (3 : Int32)), .val (.ref d), .unset, .unset] dscmp3_3 rfl rfl rfl ?_
  refine own_aloadN 5 Y1 dscmp3_4 rfl rfl rfl ?_
  refine own_iloadN 6 Y1 dscmp3_5 rfl rfl ?_
  refine own_aloadN 7 Y1 dscmp3_6 rfl rfl rfl ?_
  refine own_iconst 8 Y1 (0 : Int32) dscmp3_7 rfl rfl ?_
  refine own_iloadN 9 Y1 dscmp3_8 rfl rfl ?_
  refine own_callS 12 Y1 [(.ref b), (.int (0 : Int32)), (.ref d), (.int (0 : Int32)), (.int (3 : Int32))] [] (own_wd hw 43 rfl) (own_wd hw 44 rfl) (own_wd hw 41 rfl) (own_wd hw 45 rfl) (c_cmp5w_3 l Z a0 hw b d kb k_d c0 c1 c2 hn0 hn1 hn2 _ n0 gn_d ne_b_d V_b V_d) dscmp3_9 (by decide) (lenOf pdscmp5 rfl) rfl rfl (by decide) (Nat.le_of_ble_eq_true rfl) (by decide) (by decide) rfl fun v2 T2 h2 L2 Y2 hQ2 => ?_
  obtain ⟨K2, N2, D2⟩ := hQ2
  have V_b := V_b.keep K2 (ninS ne_b_d nin0)
  have Kp := Kp.trans K2 (allS (Or.inr gk_d) all0)
  have N := N.app N2
  have Zs := Nat.le_trans Zs K2.1
  have O := O.keep K2 (allS gn_d all0)
  rcases D2 with ⟨hc0, hc1, hc2, rfl, V_d⟩ | ⟨hwd, rfl⟩ | ⟨hwd, rfl⟩ | ⟨hwd, rfl⟩
  · show own_G p e below _ (T2.setTop (mkF m 12 #[.val (.ref b), .val (.int (0 : Int32)), .val (.int (3 : Int32)), .val (.ref d), .unset, .unset] [(.int (3 : Int32))]))
    refine own_istore 14 Y2 #[.val (.ref b), .val (.int (0 : Int32)), .val (.int (3 : Int32)), .val (.ref d), .val (.int (3 : Int32)), .unset] dscmp3_12 rfl rfl ?_
    refine own_iload 16 Y2 dscmp3_14 rfl rfl ?_
    refine own_iloadN 17 Y2 dscmp3_16 rfl rfl ?_
    refine own_icT 57 Y2 dscmp3_17 (XT.ii_eq_t (by decide)) (by decide) ?_
    refine own_aloadN 58 Y2 dscmp3_57 rfl rfl rfl ?_
    exact own_retA Y2 rfl rfl rfl dscmp3_58 (by decide) (by decide) ⟨d, k_d, rfl, gk_d, Kp, N, Or.inl ⟨hc0, hc1, hc2, V_d⟩⟩
  · show own_G p e below _ (T2.setTop (mkF m 12 #[.val (.ref b), .val (.int (0 : Int32)), .val (.int (3 : Int32)), .val (.ref d), .unset, .unset] [(.int (0 : Int32))]))
    refine own_istore 14 Y2 #[.val (.ref b), .val (.int (0 : Int32)), .val (.int (3 : Int32)), .val (.ref d), .val (.int (0 : Int32)), .unset] dscmp3_12 rfl rfl ?_
    refine own_iload 16 Y2 dscmp3_14 rfl rfl ?_
    refine own_iloadN 17 Y2 dscmp3_16 rfl rfl ?_
    refine own_icF 20 Y2 dscmp3_17 (XT.ii_eq_f (by decide)) rfl ?_
    refine own_aloadN 21 Y2 dscmp3_20 rfl rfl rfl ?_
    refine own_iloadN 22 Y2 dscmp3_21 rfl rfl ?_
    refine own_iloadN 23 Y2 dscmp3_22 rfl rfl ?_
    refine own_callS 26 Y2 [(.ref b), (.int (0 : Int32)), (.int (3 : Int32))] [] (own_wd hw 78 rfl) (own_wd hw 79 rfl) (own_wd hw 41 rfl) (own_wd hw 80 rfl) (c_tob_3 l Z a0 hw b kb c0 c1 c2 hn0 hn1 hn2 z fm _ n0 O WS Zs V_b) dscmp3_23 (by decide) (lenOf pdstob rfl) rfl rfl (by decide) (Nat.le_of_ble_eq_true rfl) (by decide) (by decide) rfl fun v3 T3 h3 L3 Y3 hQ3 => ?_
    obtain ⟨u, ku, rfl, gu, K3, N3, V_u⟩ := hQ3
    have gk_u := Nat.le_trans Kp.1 gu
    have V_b := V_b.keep K3 nin0
    have Kp := Kp.trans K3 all0
    have N := N.app N3
    have Zs := Nat.le_trans Zs K3.1
    have O := O.keep K3 all0
    show own_G p e below _ (T3.setTop (mkF m 26 #[.val (.ref b), .val (.int (0 : Int32)), .val (.int (3 : Int32)), .val (.ref d), .val (.int (0 : Int32)), .unset] [(.ref u)]))
    refine own_astore 28 Y3 #[.val (.ref b), .val (.int (0 : Int32)), .val (.int (3 : Int32)), .val (.ref d), .val (.int (0 : Int32)), .val (.ref u)] dscmp3_26 rfl rfl rfl ?_
    refine own_aload 30 Y3 dscmp3_28 rfl rfl rfl ?_
    refine own_iload 32 Y3 dscmp3_30 rfl rfl ?_
    refine own_callS 35 Y3 [(.ref u), (.int (0 : Int32))] [] (own_wd hw 94 rfl) (own_wd hw 95 rfl) (own_wd hw 41 rfl) (own_wd hw 96 rfl) (c_getc l Z a0 hw (0 : Int32) _ _ c0 u ku _ _ z fm _ n0 O WS V_u ⟨by decide, by decide⟩ rfl ⟨by decide, by decide⟩ rfl (own_u16 hn0)) dscmp3_32 (by decide) (lenOf pdsgetc rfl) rfl rfl (by decide) (Nat.le_of_ble_eq_true rfl) (by decide) (by decide) rfl fun v4 T4 h4 L4 Y4 hQ4 => ?_
    obtain ⟨rfl, rfl, rfl⟩ := hQ4
    have N := N.app (Fr.nil n0)
    show own_G p e below _ (T4.setTop (mkF m 35 #[.val (.ref b), .val (.int (0 : Int32)), .val (.int (3 : Int32)), .val (.ref d), .val (.int (0 : Int32)), .val (.ref u)] [(.int c0)]))
    refine own_sipush 38 Y4 (255 : Int32) dscmp3_35 rfl rfl ?_
    refine own_icT 54 Y4 dscmp3_38 (XT.ii_gt_t hwd) (by decide) ?_
    refine own_aload 56 Y4 dscmp3_54 rfl rfl rfl ?_
    exact own_retA Y4 rfl rfl rfl dscmp3_56 (by decide) (by decide) ⟨u, ku, rfl, gk_u, Kp, N, Or.inr V_u⟩
  · show own_G p e below _ (T2.setTop (mkF m 12 #[.val (.ref b), .val (.int (0 : Int32)), .val (.int (3 : Int32)), .val (.ref d), .unset, .unset] [(.int (1 : Int32))]))
    refine own_istore 14 Y2 #[.val (.ref b), .val (.int (0 : Int32)), .val (.int (3 : Int32)), .val (.ref d), .val (.int (1 : Int32)), .unset] dscmp3_12 rfl rfl ?_
    refine own_iload 16 Y2 dscmp3_14 rfl rfl ?_
    refine own_iloadN 17 Y2 dscmp3_16 rfl rfl ?_
    refine own_icF 20 Y2 dscmp3_17 (XT.ii_eq_f (by decide)) rfl ?_
    refine own_aloadN 21 Y2 dscmp3_20 rfl rfl rfl ?_
    refine own_iloadN 22 Y2 dscmp3_21 rfl rfl ?_
    refine own_iloadN 23 Y2 dscmp3_22 rfl rfl ?_
    refine own_callS 26 Y2 [(.ref b), (.int (0 : Int32)), (.int (3 : Int32))] [] (own_wd hw 78 rfl) (own_wd hw 79 rfl) (own_wd hw 41 rfl) (own_wd hw 80 rfl) (c_tob_3 l Z a0 hw b kb c0 c1 c2 hn0 hn1 hn2 z fm _ n0 O WS Zs V_b) dscmp3_23 (by decide) (lenOf pdstob rfl) rfl rfl (by decide) (Nat.le_of_ble_eq_true rfl) (by decide) (by decide) rfl fun v5 T5 h5 L5 Y5 hQ5 => ?_
    obtain ⟨u, ku, rfl, gu, K5, N5, V_u⟩ := hQ5
    have gk_u := Nat.le_trans Kp.1 gu
    have V_b := V_b.keep K5 nin0
    have Kp := Kp.trans K5 all0
    have N := N.app N5
    have Zs := Nat.le_trans Zs K5.1
    have O := O.keep K5 all0
    show own_G p e below _ (T5.setTop (mkF m 26 #[.val (.ref b), .val (.int (0 : Int32)), .val (.int (3 : Int32)), .val (.ref d), .val (.int (1 : Int32)), .unset] [(.ref u)]))
    refine own_astore 28 Y5 #[.val (.ref b), .val (.int (0 : Int32)), .val (.int (3 : Int32)), .val (.ref d), .val (.int (1 : Int32)), .val (.ref u)] dscmp3_26 rfl rfl rfl ?_
    refine own_aload 30 Y5 dscmp3_28 rfl rfl rfl ?_
    refine own_iload 32 Y5 dscmp3_30 rfl rfl ?_
    refine own_callS 35 Y5 [(.ref u), (.int (1 : Int32))] [] (own_wd hw 94 rfl) (own_wd hw 95 rfl) (own_wd hw 41 rfl) (own_wd hw 96 rfl) (c_getc l Z a0 hw (1 : Int32) _ _ c1 u ku _ _ z fm _ n0 O WS V_u ⟨by decide, by decide⟩ rfl ⟨by decide, by decide⟩ rfl (own_u16 hn1)) dscmp3_32 (by decide) (lenOf pdsgetc rfl) rfl rfl (by decide) (Nat.le_of_ble_eq_true rfl) (by decide) (by decide) rfl fun v6 T6 h6 L6 Y6 hQ6 => ?_
    obtain ⟨rfl, rfl, rfl⟩ := hQ6
    have N := N.app (Fr.nil n0)
    show own_G p e below _ (T6.setTop (mkF m 35 #[.val (.ref b), .val (.int (0 : Int32)), .val (.int (3 : Int32)), .val (.ref d), .val (.int (1 : Int32)), .val (.ref u)] [(.int c1)]))
    refine own_sipush 38 Y6 (255 : Int32) dscmp3_35 rfl rfl ?_
    refine own_icT 54 Y6 dscmp3_38 (XT.ii_gt_t hwd) (by decide) ?_
    refine own_aload 56 Y6 dscmp3_54 rfl rfl rfl ?_
    exact own_retA Y6 rfl rfl rfl dscmp3_56 (by decide) (by decide) ⟨u, ku, rfl, gk_u, Kp, N, Or.inr V_u⟩
  · show own_G p e below _ (T2.setTop (mkF m 12 #[.val (.ref b), .val (.int (0 : Int32)), .val (.int (3 : Int32)), .val (.ref d), .unset, .unset] [(.int (2 : Int32))]))
    refine own_istore 14 Y2 #[.val (.ref b), .val (.int (0 : Int32)), .val (.int (3 : Int32)), .val (.ref d), .val (.int (2 : Int32)), .unset] dscmp3_12 rfl rfl ?_
    refine own_iload 16 Y2 dscmp3_14 rfl rfl ?_
    refine own_iloadN 17 Y2 dscmp3_16 rfl rfl ?_
    refine own_icF 20 Y2 dscmp3_17 (XT.ii_eq_f (by decide)) rfl ?_
    refine own_aloadN 21 Y2 dscmp3_20 rfl rfl rfl ?_
    refine own_iloadN 22 Y2 dscmp3_21 rfl rfl ?_
    refine own_iloadN 23 Y2 dscmp3_22 rfl rfl ?_
    refine own_callS 26 Y2 [(.ref b), (.int (0 : Int32)), (.int (3 : Int32))] [] (own_wd hw 78 rfl) (own_wd hw 79 rfl) (own_wd hw 41 rfl) (own_wd hw 80 rfl) (c_tob_3 l Z a0 hw b kb c0 c1 c2 hn0 hn1 hn2 z fm _ n0 O WS Zs V_b) dscmp3_23 (by decide) (lenOf pdstob rfl) rfl rfl (by decide) (Nat.le_of_ble_eq_true rfl) (by decide) (by decide) rfl fun v7 T7 h7 L7 Y7 hQ7 => ?_
    obtain ⟨u, ku, rfl, gu, K7, N7, V_u⟩ := hQ7
    have gk_u := Nat.le_trans Kp.1 gu
    have V_b := V_b.keep K7 nin0
    have Kp := Kp.trans K7 all0
    have N := N.app N7
    have Zs := Nat.le_trans Zs K7.1
    have O := O.keep K7 all0
    show own_G p e below _ (T7.setTop (mkF m 26 #[.val (.ref b), .val (.int (0 : Int32)), .val (.int (3 : Int32)), .val (.ref d), .val (.int (2 : Int32)), .unset] [(.ref u)]))
    refine own_astore 28 Y7 #[.val (.ref b), .val (.int (0 : Int32)), .val (.int (3 : Int32)), .val (.ref d), .val (.int (2 : Int32)), .val (.ref u)] dscmp3_26 rfl rfl rfl ?_
    refine own_aload 30 Y7 dscmp3_28 rfl rfl rfl ?_
    refine own_iload 32 Y7 dscmp3_30 rfl rfl ?_
    refine own_callS 35 Y7 [(.ref u), (.int (2 : Int32))] [] (own_wd hw 94 rfl) (own_wd hw 95 rfl) (own_wd hw 41 rfl) (own_wd hw 96 rfl) (c_getc l Z a0 hw (2 : Int32) _ _ c2 u ku _ _ z fm _ n0 O WS V_u ⟨by decide, by decide⟩ rfl ⟨by decide, by decide⟩ rfl (own_u16 hn2)) dscmp3_32 (by decide) (lenOf pdsgetc rfl) rfl rfl (by decide) (Nat.le_of_ble_eq_true rfl) (by decide) (by decide) rfl fun v8 T8 h8 L8 Y8 hQ8 => ?_
    obtain ⟨rfl, rfl, rfl⟩ := hQ8
    have N := N.app (Fr.nil n0)
    show own_G p e below _ (T8.setTop (mkF m 35 #[.val (.ref b), .val (.int (0 : Int32)), .val (.int (3 : Int32)), .val (.ref d), .val (.int (2 : Int32)), .val (.ref u)] [(.int c2)]))
    refine own_sipush 38 Y8 (255 : Int32) dscmp3_35 rfl rfl ?_
    refine own_icT 54 Y8 dscmp3_38 (XT.ii_gt_t hwd) (by decide) ?_
    refine own_aload 56 Y8 dscmp3_54 rfl rfl rfl ?_
    exact own_retA Y8 rfl rfl rfl dscmp3_56 (by decide) (by decide) ⟨u, ku, rfl, gk_u, Kp, N, Or.inr V_u⟩
set_option maxRecDepth 65536 in
set_option maxHeartbeats 4000000 in
theorem c_codlw_3_0 (l : Launch) (Z : State) (a0 : Array Value) (hw : ∀ d ∈ tables_1, d.before a0 Z = true) (d : Addr) (kd : ClassId) (vs : List Value) (h0 : Heap) (V_d : Arv Z h0 d kd .byte (3 : Int32) vs (.int (0 : Int32))) : own_M l (⟨"java/lang/StringUTF16", "coderFromArrayLen", "([BI)B"⟩ : MethodName) jdk_52_method_15_code 2 (some .byte) [] ({ frames := 0, cells := 0, slots := 0, locals := 0 } : Room) Z #[.ref d, .int (3 : Int32)] h0 (Qv (some (.int (0 : Int32))) h0) := by
  refine own_met plscodl (Lf := #[.val (.ref d), .val (.int (3 : Int32))]) (fun m => by first | (simp [entryFrame, mkF, argsToLocals, Value.category]; done) | rfl) ?_
  intro p e s m below meth c T Y
  refine own_iloadN 1 Y dscodl_0 rfl rfl ?_
  refine own_aloadN 2 Y dscodl_1 rfl rfl rfl ?_
  refine own_alen 3 Y V_d dscodl_2 rfl ?_
  refine own_isub 4 Y dscodl_3 rfl ?_
  show own_G p e below _ (State.setTop _ (mkF m 4 #[.val (.ref d), .val (.int (3 : Int32))] [(.int (0 : Int32))]))
  refine own_bipush 6 Y (31 : Int32) dscodl_4 rfl rfl ?_
  refine own_iushr 7 Y dscodl_6 rfl ?_
  refine own_i2b 8 Y dscodl_7 rfl ?_
  exact own_retN Y (t := .byte) rfl (by simp) dscodl_8 (by decide) (by decide) ⟨rfl, rfl, rfl⟩
set_option maxRecDepth 65536 in
set_option maxHeartbeats 4000000 in
theorem c_codlw_3_1 (l : Launch) (Z : State) (a0 : Array Value) (hw : ∀ d ∈ tables_1, d.before a0 Z = true) (d : Addr) (kd : ClassId) (vs : List Value) (h0 : Heap) (V_d : Arv Z h0 d kd .byte (6 : Int32) vs (.int (0 : Int32))) : own_M l (⟨"java/lang/StringUTF16", "coderFromArrayLen", "([BI)B"⟩ : MethodName) jdk_52_method_15_code 2 (some .byte) [] ({ frames := 0, cells := 0, slots := 0, locals := 0 } : Room) Z #[.ref d, .int (3 : Int32)] h0 (Qv (some (.int (1 : Int32))) h0) := by
  refine own_met plscodl (Lf := #[.val (.ref d), .val (.int (3 : Int32))]) (fun m => by first | (simp [entryFrame, mkF, argsToLocals, Value.category]; done) | rfl) ?_
  intro p e s m below meth c T Y
  refine own_iloadN 1 Y dscodl_0 rfl rfl ?_
  refine own_aloadN 2 Y dscodl_1 rfl rfl rfl ?_
  refine own_alen 3 Y V_d dscodl_2 rfl ?_
  refine own_isub 4 Y dscodl_3 rfl ?_
  show own_G p e below _ (State.setTop _ (mkF m 4 #[.val (.ref d), .val (.int (3 : Int32))] [(.int (-3 : Int32))]))
  refine own_bipush 6 Y (31 : Int32) dscodl_4 rfl rfl ?_
  refine own_iushr 7 Y dscodl_6 rfl ?_
  refine own_i2b 8 Y dscodl_7 rfl ?_
  exact own_retN Y (t := .byte) rfl (by simp) dscodl_8 (by decide) (by decide) ⟨rfl, rfl, rfl⟩
def Qneww_3 (Z : State) (a : Addr) (c0 c1 c2 : Int32) (h0 : Heap) (n0 : Nat) (v : Option Value) (h : Heap) (L : List Loc) : Prop := v = none ∧ Keep h0 h [a] ∧ Fr n0 L ∧ Scont_3 Z h a c0 c1 c2
set_option maxRecDepth 65536 in
set_option maxHeartbeats 4000000 in
theorem c_new4w_3 (l : Launch) (Z : State) (a0 : Array Value) (hw : ∀ d ∈ tables_1, d.before a0 Z = true) (a b : Addr) (kb : ClassId) (c0 c1 c2 : Int32) (hn0 : nar .char c0 = c0) (hn1 : nar .char c1 = c1) (hn2 : nar .char c2 = c2) (z : Int32) (fm : Value) (h0 : Heap) (n0 : Nat) (O : Old Z n0 h0) (WS : own_Ws Z z fm) (Zs : n0 ≤ h0.size) (ga : n0 ≤ a) (nab : a ≠ b) (u1 u2 : Value) (X_a : Exa Z h0 a "java/lang/String") (F_a_value : Fld Z h0 a "java/lang/String" "value" "[B" u1) (F_a_coder : Fld Z h0 a "java/lang/String" "coder" "B" u2) (V_b : Arv Z h0 b kb .char (3 : Int32) [(.int c0), (.int c1), (.int c2)] (.int (0 : Int32))) : own_M l (⟨"java/lang/String", "<init>", "([CIILjava/lang/Void;)V"⟩ : MethodName) jdk_42_method_149_code 6 none [] ({ frames := 4, cells := 2, slots := 9, locals := 57 } : Room) Z #[.ref a, .ref b, .int (0 : Int32), .int (3 : Int32), .null] h0 (Qneww_3 Z a c0 c1 c2 h0 n0) := by
  refine own_met plsnew4 (Lf := #[.val (.ref a), .val (.ref b), .val (.int (0 : Int32)), .val (.int (3 : Int32)), .val .null, .unset]) (fun m => by first | (simp [entryFrame, mkF, argsToLocals, Value.category]; done) | rfl) ?_
  intro p e s m below meth c T Y
  have Kp := Keep.refl h0 [a]
  have N := Fr.nil n0
  refine own_aloadN 1 Y dsnew4_0 rfl rfl rfl ?_
  refine own_initO 4 Y (own_wd hw 13 rfl) (own_wd hw 14 rfl) (own_wd hw 15 rfl) dsnew4_1 rfl (by decide) (by decide) rfl fun T2 Y1 => ?_
  refine own_iloadN 5 Y1 dsnew4_4 rfl rfl ?_
  refine own_ifT 27 Y1 dsnew4_5 (XT.i0_ne_t (by decide)) (by decide) ?_
  refine own_getS 30 Y1 (host := "") (Or.inl (own_wd hw 38 rfl)) Via.refl (WS.1.ext O.2) dsnew4_27 rfl fun T4 Y3 => ?_
  refine own_ifF 33 Y3 dsnew4_30 (XT.i0_eq_f WS.2.1) rfl ?_
  refine own_aloadN 34 Y3 dsnew4_33 rfl rfl rfl ?_
  refine own_iloadN 35 Y3 dsnew4_34 rfl rfl ?_
  refine own_iloadN 36 Y3 dsnew4_35 rfl rfl ?_
  refine own_callS 39 Y3 [(.ref b), (.int (0 : Int32)), (.int (3 : Int32))] [] (own_wd hw 39 rfl) (own_wd hw 40 rfl) (own_wd hw 41 rfl) (own_wd hw 42 rfl) (c_cmp3w_3 l Z a0 hw b kb c0 c1 c2 hn0 hn1 hn2 z fm _ n0 O WS Zs V_b) dsnew4_36 (by decide) (lenOf pdscmp3 rfl) rfl rfl (by decide) (Nat.le_of_ble_eq_true rfl) (by decide) (by decide) rfl fun v5 T5 h5 L5 Y5 hQ5 => ?_
  obtain ⟨d, kd, rfl, gk_d, K5, N5, D⟩ := hQ5
  have gn_d := Nat.le_trans Zs gk_d
  have ne_a_d : a ≠ d := Nat.ne_of_lt (Nat.lt_of_lt_of_le X_a.lt gk_d)
  have X_a := X_a.keep K5
  have F_a_value := F_a_value.keep K5 nin0
  have F_a_coder := F_a_coder.keep K5 nin0
  have V_b := V_b.keep K5 nin0
  have Kp := Kp.trans K5 all0
  have N := N.app N5
  have Zs := Nat.le_trans Zs K5.1
  have O := O.keep K5 all0
  rcases D with ⟨hc0, hc1, hc2, V_d⟩ | V_d
  · show own_G p e below _ (T5.setTop (mkF m 39 #[.val (.ref a), .val (.ref b), .val (.int (0 : Int32)), .val (.int (3 : Int32)), .val .null, .unset] [(.ref d)]))
    refine own_astore 41 Y5 #[.val (.ref a), .val (.ref b), .val (.int (0 : Int32)), .val (.int (3 : Int32)), .val .null, .val (.ref d)] dsnew4_39 rfl rfl rfl ?_
    refine own_aloadN 42 Y5 dsnew4_41 rfl rfl rfl ?_
    refine own_aload 44 Y5 dsnew4_42 rfl rfl rfl ?_
    refine own_iloadN 45 Y5 dsnew4_44 rfl rfl ?_
    refine own_callS 48 Y5 [(.ref d), (.int (3 : Int32))] [(.ref a)] (own_wd hw 46 rfl) (own_wd hw 47 rfl) (own_wd hw 41 rfl) (own_wd hw 48 rfl) (c_codlw_3_0 l Z a0 hw d kd _ _ V_d) dsnew4_45 (by decide) (lenOf pdscodl rfl) rfl rfl (by decide) (Nat.le_of_ble_eq_true rfl) (by decide) (by decide) rfl fun v6 T6 h6 L6 Y6 hQ6 => ?_
    obtain ⟨rfl, rfl, rfl⟩ := hQ6
    have N := N.app (Fr.nil n0)
    show own_G p e below _ (T6.setTop (mkF m 48 #[.val (.ref a), .val (.ref b), .val (.int (0 : Int32)), .val (.int (3 : Int32)), .val .null, .val (.ref d)] [(.int (0 : Int32)), (.ref a)]))
    refine own_putFN 51 Y6 (own_wd hw 23 rfl) Via.refl F_a_coder X_a (Or.inr ⟨(own_wd hw 19 rfl), rfl, rfl⟩) (own_wd hw 3 rfl) (ty := .byte) (v' := (.int (0 : Int32))) (by decide) rfl rfl dsnew4_48 rfl fun T7 h7 Y7 W7 => ?_
    have X_a := X_a.wr W7
    have F_a_value := F_a_value.other W7 (Or.inr (slot_ne (Or.inr (own_wd hw 18 rfl)) (Or.inr (own_wd hw 19 rfl)) (by decide) (t := (.array .byte)) (t' := .byte) (by decide) (by decide)))
    have F_a_coder := F_a_coder.same W7
    have V_b := V_b.other W7 (Ne.symm nab)
    have Kp := Kp.wr W7 (Or.inl (List.mem_of_getElem? (i := 0) rfl))
    have N := own_frY Y7 N ga
    have Zs := Nat.le_trans Zs (Nat.le_of_eq W7.size.symm)
    have O := O.wr W7 ga
    have V_d := V_d.other W7 (Ne.symm ne_a_d)
    refine own_aloadN 52 Y7 dsnew4_51 rfl rfl rfl ?_
    refine own_aload 54 Y7 dsnew4_52 rfl rfl rfl ?_
    refine own_putF 57 Y7 (host := "") (Or.inl (own_wd hw 22 rfl)) Via.refl F_a_value X_a (Or.inr ⟨(own_wd hw 18 rfl), rfl, rfl⟩) (own_wd hw 3 rfl) (ty := (.array .byte)) (by decide) rfl rfl dsnew4_54 rfl fun T8 h8 Y8 W8 => ?_
    have X_a := X_a.wr W8
    have F_a_value := F_a_value.same W8
    have F_a_coder := F_a_coder.other W8 (Or.inr (slot_ne (Or.inr (own_wd hw 19 rfl)) (Or.inr (own_wd hw 18 rfl)) (by decide) (t := .byte) (t' := (.array .byte)) (by decide) (by decide)))
    have V_b := V_b.other W8 (Ne.symm nab)
    have Kp := Kp.wr W8 (Or.inl (List.mem_of_getElem? (i := 0) rfl))
    have N := own_frY Y8 N ga
    have Zs := Nat.le_trans Zs (Nat.le_of_eq W8.size.symm)
    have O := O.wr W8 ga
    have V_d := V_d.other W8 (Ne.symm ne_a_d)
    exact own_retV Y8 rfl dsnew4_57 (by decide) (by decide) ⟨rfl, Kp, N, X_a, d, kd, F_a_value, Or.inl ⟨hc0, hc1, hc2, F_a_coder, V_d⟩⟩
  · show own_G p e below _ (T5.setTop (mkF m 39 #[.val (.ref a), .val (.ref b), .val (.int (0 : Int32)), .val (.int (3 : Int32)), .val .null, .unset] [(.ref d)]))
    refine own_astore 41 Y5 #[.val (.ref a), .val (.ref b), .val (.int (0 : Int32)), .val (.int (3 : Int32)), .val .null, .val (.ref d)] dsnew4_39 rfl rfl rfl ?_
    refine own_aloadN 42 Y5 dsnew4_41 rfl rfl rfl ?_
    refine own_aload 44 Y5 dsnew4_42 rfl rfl rfl ?_
    refine own_iloadN 45 Y5 dsnew4_44 rfl rfl ?_
    refine own_callS 48 Y5 [(.ref d), (.int (3 : Int32))] [(.ref a)] (own_wd hw 46 rfl) (own_wd hw 47 rfl) (own_wd hw 41 rfl) (own_wd hw 48 rfl) (c_codlw_3_1 l Z a0 hw d kd _ _ V_d) dsnew4_45 (by decide) (lenOf pdscodl rfl) rfl rfl (by decide) (Nat.le_of_ble_eq_true rfl) (by decide) (by decide) rfl fun v9 T9 h9 L9 Y9 hQ9 => ?_
    obtain ⟨rfl, rfl, rfl⟩ := hQ9
    have N := N.app (Fr.nil n0)
    show own_G p e below _ (T9.setTop (mkF m 48 #[.val (.ref a), .val (.ref b), .val (.int (0 : Int32)), .val (.int (3 : Int32)), .val .null, .val (.ref d)] [(.int (1 : Int32)), (.ref a)]))
    refine own_putFN 51 Y9 (own_wd hw 23 rfl) Via.refl F_a_coder X_a (Or.inr ⟨(own_wd hw 19 rfl), rfl, rfl⟩) (own_wd hw 3 rfl) (ty := .byte) (v' := (.int (1 : Int32))) (by decide) rfl rfl dsnew4_48 rfl fun T10 h10 Y10 W10 => ?_
    have X_a := X_a.wr W10
    have F_a_value := F_a_value.other W10 (Or.inr (slot_ne (Or.inr (own_wd hw 18 rfl)) (Or.inr (own_wd hw 19 rfl)) (by decide) (t := (.array .byte)) (t' := .byte) (by decide) (by decide)))
    have F_a_coder := F_a_coder.same W10
    have V_b := V_b.other W10 (Ne.symm nab)
    have Kp := Kp.wr W10 (Or.inl (List.mem_of_getElem? (i := 0) rfl))
    have N := own_frY Y10 N ga
    have Zs := Nat.le_trans Zs (Nat.le_of_eq W10.size.symm)
    have O := O.wr W10 ga
    have V_d := V_d.other W10 (Ne.symm ne_a_d)
    refine own_aloadN 52 Y10 dsnew4_51 rfl rfl rfl ?_
    refine own_aload 54 Y10 dsnew4_52 rfl rfl rfl ?_
    refine own_putF 57 Y10 (host := "") (Or.inl (own_wd hw 22 rfl)) Via.refl F_a_value X_a (Or.inr ⟨(own_wd hw 18 rfl), rfl, rfl⟩) (own_wd hw 3 rfl) (ty := (.array .byte)) (by decide) rfl rfl dsnew4_54 rfl fun T11 h11 Y11 W11 => ?_
    have X_a := X_a.wr W11
    have F_a_value := F_a_value.same W11
    have F_a_coder := F_a_coder.other W11 (Or.inr (slot_ne (Or.inr (own_wd hw 19 rfl)) (Or.inr (own_wd hw 18 rfl)) (by decide) (t := .byte) (t' := (.array .byte)) (by decide) (by decide)))
    have V_b := V_b.other W11 (Ne.symm nab)
    have Kp := Kp.wr W11 (Or.inl (List.mem_of_getElem? (i := 0) rfl))
    have N := own_frY Y11 N ga
    have Zs := Nat.le_trans Zs (Nat.le_of_eq W11.size.symm)
    have O := O.wr W11 ga
    have V_d := V_d.other W11 (Ne.symm ne_a_d)
    exact own_retV Y11 rfl dsnew4_57 (by decide) (by decide) ⟨rfl, Kp, N, X_a, d, kd, F_a_value, Or.inr ⟨F_a_coder, V_d⟩⟩
set_option maxRecDepth 65536 in
set_option maxHeartbeats 4000000 in
theorem c_new1w_3 (l : Launch) (Z : State) (a0 : Array Value) (hw : ∀ d ∈ tables_1, d.before a0 Z = true) (a b : Addr) (kb : ClassId) (c0 c1 c2 : Int32) (hn0 : nar .char c0 = c0) (hn1 : nar .char c1 = c1) (hn2 : nar .char c2 = c2) (z : Int32) (fm : Value) (h0 : Heap) (n0 : Nat) (O : Old Z n0 h0) (WS : own_Ws Z z fm) (Zs : n0 ≤ h0.size) (ga : n0 ≤ a) (nab : a ≠ b) (u1 u2 : Value) (X_a : Exa Z h0 a "java/lang/String") (F_a_value : Fld Z h0 a "java/lang/String" "value" "[B" u1) (F_a_coder : Fld Z h0 a "java/lang/String" "coder" "B" u2) (V_b : Arv Z h0 b kb .char (3 : Int32) [(.int c0), (.int c1), (.int c2)] (.int (0 : Int32))) : own_M l (⟨"java/lang/String", "<init>", "([C)V"⟩ : MethodName) jdk_42_method_3_code 2 none [] ({ frames := 5, cells := 2, slots := 9, locals := 74 } : Room) Z #[.ref a, .ref b] h0 (Qneww_3 Z a c0 c1 c2 h0 n0) := by
  refine own_met plsnew1 (Lf := #[.val (.ref a), .val (.ref b)]) (fun m => by first | (simp [entryFrame, mkF, argsToLocals, Value.category]; done) | rfl) ?_
  intro p e s m below meth c T Y
  refine own_aloadN 1 Y dsnew1_0 rfl rfl rfl ?_
  refine own_aloadN 2 Y dsnew1_1 rfl rfl rfl ?_
  refine own_iconst 3 Y (0 : Int32) dsnew1_2 rfl rfl ?_
  refine own_aloadN 4 Y dsnew1_3 rfl rfl rfl ?_
  refine own_alen 5 Y V_b dsnew1_4 rfl ?_
  refine own_aconst_null 6 Y dsnew1_5 rfl ?_
  refine own_callI 9 Y [(.ref b), (.int (0 : Int32)), (.int (3 : Int32)), .null] [] rfl (own_wd hw 9 rfl) (own_wd hw 10 rfl) (own_wd hw 4 rfl) (own_wd hw 12 rfl) (c_new4w_3 l Z a0 hw a b kb c0 c1 c2 hn0 hn1 hn2 z fm _ n0 O WS Zs ga nab _ _ X_a F_a_value F_a_coder V_b) dsnew1_6 (by decide) (lenOf pdsnew4 rfl) rfl rfl (by decide) (Nat.le_of_ble_eq_true rfl) (by decide) (by decide) rfl fun v1 T1 h1 L1 Y1 hQ1 => ?_
  obtain ⟨rfl, K1, N1, R1⟩ := hQ1
  have N := (Fr.nil n0).app N1
  show own_G p e below _ (T1.setTop (mkF m 9 #[.val (.ref a), .val (.ref b)] []))
  exact own_retV Y1 rfl dsnew1_9 (by decide) (by decide) ⟨rfl, K1, N, R1⟩
def Qcmp5w_4 (Z : State) (d : Addr) (kd : ClassId) (c0 c1 c2 c3 : Int32) (h0 : Heap) (n0 : Nat) (v : Option Value) (h : Heap) (L : List Loc) : Prop := Keep h0 h [d] ∧ Fr n0 L ∧ ((¬ (255 : Int32) < c0 ∧ ¬ (255 : Int32) < c1 ∧ ¬ (255 : Int32) < c2 ∧ ¬ (255 : Int32) < c3 ∧ v = some (.int (4 : Int32)) ∧ Arv Z h d kd .byte (4 : Int32) [(.int (nar .byte c0.toInt8.toInt32)), (.int (nar .byte c1.toInt8.toInt32)), (.int (nar .byte c2.toInt8.toInt32)), (.int (nar .byte c3.toInt8.toInt32))] (.int (0 : Int32))) ∨ ((255 : Int32) < c0 ∧ v = some (.int (0 : Int32))) ∨ ((255 : Int32) < c1 ∧ v = some (.int (1 : Int32))) ∨ ((255 : Int32) < c2 ∧ v = some (.int (2 : Int32))) ∨ ((255 : Int32) < c3 ∧ v = some (.int (3 : Int32))))
set_option maxRecDepth 65536 in
set_option maxHeartbeats 4000000 in
theorem c_cmp5w_4 (l : Launch) (Z : State) (a0 : Array Value) (hw : ∀ d ∈ tables_1, d.before a0 Z = true) (b d : Addr) (kb kd : ClassId) (c0 c1 c2 c3 : Int32) (hn0 : nar .char c0 = c0) (hn1 : nar .char c1 = c1) (hn2 : nar .char c2 = c2) (hn3 : nar .char c3 = c3) (h0 : Heap) (n0 : Nat) (gd : n0 ≤ d) (nbd : b ≠ d) (V_b : Arv Z h0 b kb .char (4 : Int32) [(.int c0), (.int c1), (.int c2), (.int c3)] (.int (0 : Int32))) (V_d : Arv Z h0 d kd .byte (4 : Int32) [(.int (0 : Int32)), (.int (0 : Int32)), (.int (0 : Int32)), (.int (0 : Int32))] (.int (0 : Int32))) : own_M l (⟨"java/lang/StringUTF16", "compress", "([CI[BII)I"⟩ : MethodName) jdk_52_method_21_code 7 (some .int) [] ({ frames := 0, cells := 0, slots := 0, locals := 0 } : Room) Z #[.ref b, .int (0 : Int32), .ref d, .int (0 : Int32), .int (4 : Int32)] h0 (Qcmp5w_4 Z d kd c0 c1 c2 c3 h0 n0) := by
  refine own_met plscmp5 (Lf := #[.val (.ref b), .val (.int (0 : Int32)), .val (.ref d), .val (.int (0 : Int32)), .val (.int (4 : Int32)), .unset, .unset]) (fun m => by first | (simp [entryFrame, mkF, argsToLocals, Value.category]; done) | rfl) ?_
  intro p e s m below meth c T Y
  have Kp := Keep.refl h0 [d]
  have N := Fr.nil n0
  refine own_iconst 1 Y (0 : Int32) dscmp5_0 rfl rfl ?_
  refine own_istore 3 Y #[.val (.ref b), .val (.int (0 : Int32)), .val (.ref d), .val (.int (0 : Int32)), .val (.int (4 : Int32)), .val (.int (0 : Int32)), .unset] dscmp5_1 rfl rfl ?_
  refine own_iload 5 Y dscmp5_3 rfl rfl ?_
  refine own_iload 7 Y dscmp5_5 rfl rfl ?_
  refine own_icF 10 Y dscmp5_7 (XT.ii_ge_f (by decide)) rfl ?_
  refine own_aloadN 11 Y dscmp5_10 rfl rfl rfl ?_
  refine own_iloadN 12 Y dscmp5_11 rfl rfl ?_
  refine own_caload 13 Y V_b dscmp5_12 ⟨by decide, by decide⟩ rfl rfl ?_
  refine own_istore 15 Y #[.val (.ref b), .val (.int (0 : Int32)), .val (.ref d), .val (.int (0 : Int32)), .val (.int (4 : Int32)), .val (.int (0 : Int32)), .val (.int c0)] dscmp5_13 rfl rfl ?_
  refine own_iload 17 Y dscmp5_15 rfl rfl ?_
  refine own_sipush 20 Y (255 : Int32) dscmp5_17 rfl rfl ?_
  refine own_ic_le 26 23 Y dscmp5_20 (by decide) rfl (fun q20 => ?_) (fun q20 => ?_)
  · have hc0 := q20
    refine own_aloadN 27 Y dscmp5_26 rfl rfl rfl ?_
    refine own_iloadN 28 Y dscmp5_27 rfl rfl ?_
    refine own_iload 30 Y dscmp5_28 rfl rfl ?_
    refine own_i2b 31 Y dscmp5_30 rfl ?_
    refine own_stB 32 Y V_d dscmp5_31 ⟨by decide, by decide⟩ rfl fun T1 h1 Y1 W1 A1 => ?_
    have V_b := V_b.other W1 nbd
    have Kp := Kp.wr W1 (Or.inl (List.mem_of_getElem? (i := 0) rfl))
    have N := own_frY Y1 N gd
    have V_d : Arv Z h1 d kd .byte (4 : Int32) [(.int (nar .byte c0.toInt8.toInt32)), (.int (0 : Int32)), (.int (0 : Int32)), (.int (0 : Int32))] (.int (0 : Int32)) := A1 0 rfl (Nat.le_of_ble_eq_true rfl) (fits_nar_byte _)
    refine own_iinc 35 Y1 #[.val (.ref b), .val (.int (1 : Int32)), .val (.ref d), .val (.int (0 : Int32)), .val (.int (4 : Int32)), .val (.int (0 : Int32)), .val (.int c0)] (1 : Int32) dscmp5_32 rfl rfl rfl rfl ?_
    refine own_iinc 38 Y1 #[.val (.ref b), .val (.int (1 : Int32)), .val (.ref d), .val (.int (1 : Int32)), .val (.int (4 : Int32)), .val (.int (0 : Int32)), .val (.int c0)] (1 : Int32) dscmp5_35 rfl rfl rfl rfl ?_
    refine own_iinc 41 Y1 #[.val (.ref b), .val (.int (1 : Int32)), .val (.ref d), .val (.int (1 : Int32)), .val (.int (4 : Int32)), .val (.int (1 : Int32)), .val (.int c0)] (1 : Int32) dscmp5_38 rfl rfl rfl rfl ?_
    refine own_goto 3 Y1 dscmp5_41 (by decide) ?_
    refine own_iload 5 Y1 dscmp5_3 rfl rfl ?_
    refine own_iload 7 Y1 dscmp5_5 rfl rfl ?_
    refine own_icF 10 Y1 dscmp5_7 (XT.ii_ge_f (by decide)) rfl ?_
    refine own_aloadN 11 Y1 dscmp5_10 rfl rfl rfl ?_
    refine own_iloadN 12 Y1 dscmp5_11 rfl rfl ?_
    refine own_caload 13 Y1 V_b dscmp5_12 ⟨by decide, by decide⟩ rfl rfl ?_
    refine own_istore 15 Y1 #[.val (.ref b), .val (.int (1 : Int32)), .val (.ref d), .val (.int (1 : Int32)), .val (.int (4 : Int32)), .val (.int (1 : Int32)), .val (.int c1)] dscmp5_13 rfl rfl ?_
    refine own_iload 17 Y1 dscmp5_15 rfl rfl ?_
    refine own_sipush 20 Y1 (255 : Int32) dscmp5_17 rfl rfl ?_
    refine own_ic_le 26 23 Y1 dscmp5_20 (by decide) rfl (fun q20 => ?_) (fun q20 => ?_)
    · have hc1 := q20
      refine own_aloadN 27 Y1 dscmp5_26 rfl rfl rfl ?_
      refine own_iloadN 28 Y1 dscmp5_27 rfl rfl ?_
      refine own_iload 30 Y1 dscmp5_28 rfl rfl ?_
      refine own_i2b 31 Y1 dscmp5_30 rfl ?_
      refine own_stB 32 Y1 V_d dscmp5_31 ⟨by decide, by decide⟩ rfl fun T2 h2 Y2 W2 A2 => ?_
      have V_b := V_b.other W2 nbd
      have Kp := Kp.wr W2 (Or.inl (List.mem_of_getElem? (i := 0) rfl))
      have N := own_frY Y2 N gd
      have V_d : Arv Z h2 d kd .byte (4 : Int32) [(.int (nar .byte c0.toInt8.toInt32)), (.int (nar .byte c1.toInt8.toInt32)), (.int (0 : Int32)), (.int (0 : Int32))] (.int (0 : Int32)) := A2 1 rfl (Nat.le_of_ble_eq_true rfl) (fits_nar_byte _)
      refine own_iinc 35 Y2 #[.val (.ref b), .val (.int (2 : Int32)), .val (.ref d), .val (.int (1 : Int32)), .val (.int (4 : Int32)), .val (.int (1 : Int32)), .val (.int c1)] (1 : Int32) dscmp5_32 rfl rfl rfl rfl ?_
      refine own_iinc 38 Y2 #[.val (.ref b), .val (.int (2 : Int32)), .val (.ref d), .val (.int (2 : Int32)), .val (.int (4 : Int32)), .val (.int (1 : Int32)), .val (.int c1)] (1 : Int32) dscmp5_35 rfl rfl rfl rfl ?_
      refine own_iinc 41 Y2 #[.val (.ref b), .val (.int (2 : Int32)), .val (.ref d), .val (.int (2 : Int32)), .val (.int (4 : Int32)), .val (.int (2 : Int32)), .val (.int c1)] (1 : Int32) dscmp5_38 rfl rfl rfl rfl ?_
      refine own_goto 3 Y2 dscmp5_41 (by decide) ?_
      refine own_iload 5 Y2 dscmp5_3 rfl rfl ?_
      refine own_iload 7 Y2 dscmp5_5 rfl rfl ?_
      refine own_icF 10 Y2 dscmp5_7 (XT.ii_ge_f (by decide)) rfl ?_
      refine own_aloadN 11 Y2 dscmp5_10 rfl rfl rfl ?_
      refine own_iloadN 12 Y2 dscmp5_11 rfl rfl ?_
      refine own_caload 13 Y2 V_b dscmp5_12 ⟨by decide, by decide⟩ rfl rfl ?_
      refine own_istore 15 Y2 #[.val (.ref b), .val (.int (2 : Int32)), .val (.ref d), .val (.int (2 : Int32)), .val (.int (4 : Int32)), .val (.int (2 : Int32)), .val (.int c2)] dscmp5_13 rfl rfl ?_
      refine own_iload 17 Y2 dscmp5_15 rfl rfl ?_
      refine own_sipush 20 Y2 (255 : Int32) dscmp5_17 rfl rfl ?_
      refine own_ic_le 26 23 Y2 dscmp5_20 (by decide) rfl (fun q20 => ?_) (fun q20 => ?_)
      · have hc2 := q20
        refine own_aloadN 27 Y2 dscmp5_26 rfl rfl rfl ?_
        refine own_iloadN 28 Y2 dscmp5_27 rfl rfl ?_
        refine own_iload 30 Y2 dscmp5_28 rfl rfl ?_
        refine own_i2b 31 Y2 dscmp5_30 rfl ?_
        refine own_stB 32 Y2 V_d dscmp5_31 ⟨by decide, by decide⟩ rfl fun T3 h3 Y3 W3 A3 => ?_
        have V_b := V_b.other W3 nbd
        have Kp := Kp.wr W3 (Or.inl (List.mem_of_getElem? (i := 0) rfl))
        have N := own_frY Y3 N gd
        have V_d : Arv Z h3 d kd .byte (4 : Int32) [(.int (nar .byte c0.toInt8.toInt32)), (.int (nar .byte c1.toInt8.toInt32)), (.int (nar .byte c2.toInt8.toInt32)), (.int (0 : Int32))] (.int (0 : Int32)) := A3 2 rfl (Nat.le_of_ble_eq_true rfl) (fits_nar_byte _)
        refine own_iinc 35 Y3 #[.val (.ref b), .val (.int (3 : Int32)), .val (.ref d), .val (.int (2 : Int32)), .val (.int (4 : Int32)), .val (.int (2 : Int32)), .val (.int c2)] (1 : Int32) dscmp5_32 rfl rfl rfl rfl ?_
        refine own_iinc 38 Y3 #[.val (.ref b), .val (.int (3 : Int32)), .val (.ref d), .val (.int (3 : Int32)), .val (.int (4 : Int32)), .val (.int (2 : Int32)), .val (.int c2)] (1 : Int32) dscmp5_35 rfl rfl rfl rfl ?_
        refine own_iinc 41 Y3 #[.val (.ref b), .val (.int (3 : Int32)), .val (.ref d), .val (.int (3 : Int32)), .val (.int (4 : Int32)), .val (.int (3 : Int32)), .val (.int c2)] (1 : Int32) dscmp5_38 rfl rfl rfl rfl ?_
        refine own_goto 3 Y3 dscmp5_41 (by decide) ?_
        refine own_iload 5 Y3 dscmp5_3 rfl rfl ?_
        refine own_iload 7 Y3 dscmp5_5 rfl rfl ?_
        refine own_icF 10 Y3 dscmp5_7 (XT.ii_ge_f (by decide)) rfl ?_
        refine own_aloadN 11 Y3 dscmp5_10 rfl rfl rfl ?_
        refine own_iloadN 12 Y3 dscmp5_11 rfl rfl ?_
        refine own_caload 13 Y3 V_b dscmp5_12 ⟨by decide, by decide⟩ rfl rfl ?_
        refine own_istore 15 Y3 #[.val (.ref b), .val (.int (3 : Int32)), .val (.ref d), .val (.int (3 : Int32)), .val (.int (4 : Int32)), .val (.int (3 : Int32)), .val (.int c3)] dscmp5_13 rfl rfl ?_
        refine own_iload 17 Y3 dscmp5_15 rfl rfl ?_
        refine own_sipush 20 Y3 (255 : Int32) dscmp5_17 rfl rfl ?_
        refine own_ic_le 26 23 Y3 dscmp5_20 (by decide) rfl (fun q20 => ?_) (fun q20 => ?_)
        · have hc3 := q20
          refine own_aloadN 27 Y3 dscmp5_26 rfl rfl rfl ?_
          refine own_iloadN 28 Y3 dscmp5_27 rfl rfl ?_
          refine own_iload 30 Y3 dscmp5_28 rfl rfl ?_
          refine own_i2b 31 Y3 dscmp5_30 rfl ?_
          refine own_stB 32 Y3 V_d dscmp5_31 ⟨by decide, by decide⟩ rfl fun T4 h4 Y4 W4 A4 => ?_
          have V_b := V_b.other W4 nbd
          have Kp := Kp.wr W4 (Or.inl (List.mem_of_getElem? (i := 0) rfl))
          have N := own_frY Y4 N gd
          have V_d : Arv Z h4 d kd .byte (4 : Int32) [(.int (nar .byte c0.toInt8.toInt32)), (.int (nar .byte c1.toInt8.toInt32)), (.int (nar .byte c2.toInt8.toInt32)), (.int (nar .byte c3.toInt8.toInt32))] (.int (0 : Int32)) := A4 3 rfl (Nat.le_of_ble_eq_true rfl) (fits_nar_byte _)
          refine own_iinc 35 Y4 #[.val (.ref b), .val (.int (4 : Int32)), .val (.ref d), .val (.int (3 : Int32)), .val (.int (4 : Int32)), .val (.int (3 : Int32)), .val (.int c3)] (1 : Int32) dscmp5_32 rfl rfl rfl rfl ?_
          refine own_iinc 38 Y4 #[.val (.ref b), .val (.int (4 : Int32)), .val (.ref d), .val (.int (4 : Int32)), .val (.int (4 : Int32)), .val (.int (3 : Int32)), .val (.int c3)] (1 : Int32) dscmp5_35 rfl rfl rfl rfl ?_
          refine own_iinc 41 Y4 #[.val (.ref b), .val (.int (4 : Int32)), .val (.ref d), .val (.int (4 : Int32)), .val (.int (4 : Int32)), .val (.int (4 : Int32)), .val (.int c3)] (1 : Int32) dscmp5_38 rfl rfl rfl rfl ?_
          refine own_goto 3 Y4 dscmp5_41 (by decide) ?_
          refine own_iload 5 Y4 dscmp5_3 rfl rfl ?_
          refine own_iload 7 Y4 dscmp5_5 rfl rfl ?_
          refine own_icT 44 Y4 dscmp5_7 (XT.ii_ge_t (by decide)) (by decide) ?_
          refine own_iload 46 Y4 dscmp5_44 rfl rfl ?_
          exact own_retI Y4 rfl dscmp5_46 (by decide) (by decide) ⟨Kp, N, Or.inl ⟨hc0, hc1, hc2, hc3, rfl, V_d⟩⟩
        · refine own_iload 25 Y3 dscmp5_23 rfl rfl ?_
          exact own_retI Y3 rfl dscmp5_25 (by decide) (by decide) ⟨Kp, N, Or.inr (Or.inr (Or.inr (Or.inr ⟨q20, rfl⟩)))⟩
      · refine own_iload 25 Y2 dscmp5_23 rfl rfl ?_
        exact own_retI Y2 rfl dscmp5_25 (by decide) (by decide) ⟨Kp, N, Or.inr (Or.inr (Or.inr (Or.inl ⟨q20, rfl⟩)))⟩
    · refine own_iload 25 Y1 dscmp5_23 rfl rfl ?_
      exact own_retI Y1 rfl dscmp5_25 (by decide) (by decide) ⟨Kp, N, Or.inr (Or.inr (Or.inl ⟨q20, rfl⟩))⟩
  · refine own_iload 25 Y dscmp5_23 rfl rfl ?_
    exact own_retI Y rfl dscmp5_25 (by decide) (by decide) ⟨Kp, N, Or.inr (Or.inl ⟨q20, rfl⟩)⟩
def Qputc_4_0 (Z : State) (d : Addr) (kd : ClassId) (cc : Int32) (p0 p1 p2 p3 p4 p5 p6 p7 : Value) (h0 : Heap) (n0 : Nat) (v : Option Value) (h : Heap) (L : List Loc) : Prop := v = none ∧ Keep h0 h [d] ∧ Fr n0 L ∧ Arv Z h d kd .byte (8 : Int32) [(.int (nar .byte (cc >>> ((0 : Int32) &&& 31)).toInt8.toInt32)), (.int (nar .byte (cc >>> ((8 : Int32) &&& 31)).toInt8.toInt32)), p2, p3, p4, p5, p6, p7] (.int (0 : Int32))
set_option maxRecDepth 65536 in
set_option maxHeartbeats 4000000 in
theorem c_putc_4_0 (l : Launch) (Z : State) (a0 : Array Value) (hw : ∀ d ∈ tables_1, d.before a0 Z = true) (d : Addr) (kd : ClassId) (cc : Int32) (p0 p1 p2 p3 p4 p5 p6 p7 : Value) (z : Int32) (fm : Value) (h0 : Heap) (n0 : Nat) (O : Old Z n0 h0) (WS : own_Ws Z z fm) (gd : n0 ≤ d) (V_d : Arv Z h0 d kd .byte (8 : Int32) [p0, p1, p2, p3, p4, p5, p6, p7] (.int (0 : Int32))) : own_M l (⟨"java/lang/StringUTF16", "putChar", "([BII)V"⟩ : MethodName) jdk_52_method_4_code 3 none [] ({ frames := 0, cells := 0, slots := 0, locals := 0 } : Room) Z #[.ref d, .int (0 : Int32), .int cc] h0 (Qputc_4_0 Z d kd cc p0 p1 p2 p3 p4 p5 p6 p7 h0 n0) := by
  refine own_met plsputc (Lf := #[.val (.ref d), .val (.int (0 : Int32)), .val (.int cc)]) (fun m => by first | (simp [entryFrame, mkF, argsToLocals, Value.category]; done) | rfl) ?_
  intro p e s m below meth c T Y
  have Kp := Keep.refl h0 [d]
  have N := Fr.nil n0
  refine own_getS 3 Y (host := "") (Or.inl (own_wd hw 91 rfl)) Via.refl (WS.2.2.1.ext O.2) dsputc_0 rfl fun T2 Y1 => ?_
  refine own_ifT 28 Y1 dsputc_3 (XT.i0_ne_t (by decide)) (by decide) ?_
  refine own_iloadN 29 Y1 dsputc_28 rfl rfl ?_
  refine own_iconst 30 Y1 (1 : Int32) dsputc_29 rfl rfl ?_
  refine own_ishl 31 Y1 dsputc_30 rfl ?_
  show own_G p e below _ (State.setTop _ (mkF m 31 #[.val (.ref d), .val (.int (0 : Int32)), .val (.int cc)] [(.int (0 : Int32))]))
  refine own_istoreN 32 Y1 #[.val (.ref d), .val (.int (0 : Int32)), .val (.int cc)] dsputc_31 rfl rfl ?_
  refine own_aloadN 33 Y1 dsputc_32 rfl rfl rfl ?_
  refine own_iloadN 34 Y1 dsputc_33 rfl rfl ?_
  refine own_iinc 37 Y1 #[.val (.ref d), .val (.int (1 : Int32)), .val (.int cc)] (1 : Int32) dsputc_34 rfl rfl rfl rfl ?_
  refine own_iloadN 38 Y1 dsputc_37 rfl rfl ?_
  refine own_getS 41 Y1 (host := "") (Or.inl (own_wd hw 92 rfl)) Via.refl (WS.2.2.2.1.ext O.2) dsputc_38 rfl fun T4 Y3 => ?_
  refine own_ishr 42 Y3 dsputc_41 rfl ?_
  refine own_i2b 43 Y3 dsputc_42 rfl ?_
  refine own_stB 44 Y3 V_d dsputc_43 ⟨by decide, by decide⟩ rfl fun T5 h5 Y5 W5 A5 => ?_
  have Kp := Kp.wr W5 (Or.inl (List.mem_of_getElem? (i := 0) rfl))
  have N := own_frY Y5 N gd
  have O := O.wr W5 gd
  have V_d : Arv Z h5 d kd .byte (8 : Int32) [(.int (nar .byte (cc >>> ((0 : Int32) &&& 31)).toInt8.toInt32)), p1, p2, p3, p4, p5, p6, p7] (.int (0 : Int32)) := A5 0 rfl (Nat.le_of_ble_eq_true rfl) (fits_nar_byte _)
  refine own_aloadN 45 Y5 dsputc_44 rfl rfl rfl ?_
  refine own_iloadN 46 Y5 dsputc_45 rfl rfl ?_
  refine own_iloadN 47 Y5 dsputc_46 rfl rfl ?_
  refine own_getS 50 Y5 (host := "") (Or.inl (own_wd hw 93 rfl)) Via.refl (WS.2.2.2.2.1.ext O.2) dsputc_47 rfl fun T7 Y6 => ?_
  refine own_ishr 51 Y6 dsputc_50 rfl ?_
  refine own_i2b 52 Y6 dsputc_51 rfl ?_
  refine own_stB 53 Y6 V_d dsputc_52 ⟨by decide, by decide⟩ rfl fun T8 h8 Y8 W8 A8 => ?_
  have Kp := Kp.wr W8 (Or.inl (List.mem_of_getElem? (i := 0) rfl))
  have N := own_frY Y8 N gd
  have O := O.wr W8 gd
  have V_d : Arv Z h8 d kd .byte (8 : Int32) [(.int (nar .byte (cc >>> ((0 : Int32) &&& 31)).toInt8.toInt32)), (.int (nar .byte (cc >>> ((8 : Int32) &&& 31)).toInt8.toInt32)), p2, p3, p4, p5, p6, p7] (.int (0 : Int32)) := A8 1 rfl (Nat.le_of_ble_eq_true rfl) (fits_nar_byte _)
  exact own_retV Y8 rfl dsputc_53 (by decide) (by decide) ⟨rfl, Kp, N, V_d⟩
def Qputc_4_1 (Z : State) (d : Addr) (kd : ClassId) (cc : Int32) (p0 p1 p2 p3 p4 p5 p6 p7 : Value) (h0 : Heap) (n0 : Nat) (v : Option Value) (h : Heap) (L : List Loc) : Prop := v = none ∧ Keep h0 h [d] ∧ Fr n0 L ∧ Arv Z h d kd .byte (8 : Int32) [p0, p1, (.int (nar .byte (cc >>> ((0 : Int32) &&& 31)).toInt8.toInt32)), (.int (nar .byte (cc >>> ((8 : Int32) &&& 31)).toInt8.toInt32)), p4, p5, p6, p7] (.int (0 : Int32))
set_option maxRecDepth 65536 in
set_option maxHeartbeats 4000000 in
theorem c_putc_4_1 (l : Launch) (Z : State) (a0 : Array Value) (hw : ∀ d ∈ tables_1, d.before a0 Z = true) (d : Addr) (kd : ClassId) (cc : Int32) (p0 p1 p2 p3 p4 p5 p6 p7 : Value) (z : Int32) (fm : Value) (h0 : Heap) (n0 : Nat) (O : Old Z n0 h0) (WS : own_Ws Z z fm) (gd : n0 ≤ d) (V_d : Arv Z h0 d kd .byte (8 : Int32) [p0, p1, p2, p3, p4, p5, p6, p7] (.int (0 : Int32))) : own_M l (⟨"java/lang/StringUTF16", "putChar", "([BII)V"⟩ : MethodName) jdk_52_method_4_code 3 none [] ({ frames := 0, cells := 0, slots := 0, locals := 0 } : Room) Z #[.ref d, .int (1 : Int32), .int cc] h0 (Qputc_4_1 Z d kd cc p0 p1 p2 p3 p4 p5 p6 p7 h0 n0) := by
  refine own_met plsputc (Lf := #[.val (.ref d), .val (.int (1 : Int32)), .val (.int cc)]) (fun m => by first | (simp [entryFrame, mkF, argsToLocals, Value.category]; done) | rfl) ?_
  intro p e s m below meth c T Y
  have Kp := Keep.refl h0 [d]
  have N := Fr.nil n0
  refine own_getS 3 Y (host := "") (Or.inl (own_wd hw 91 rfl)) Via.refl (WS.2.2.1.ext O.2) dsputc_0 rfl fun T2 Y1 => ?_
  refine own_ifT 28 Y1 dsputc_3 (XT.i0_ne_t (by decide)) (by decide) ?_
  refine own_iloadN 29 Y1 dsputc_28 rfl rfl ?_
  refine own_iconst 30 Y1 (1 : Int32) dsputc_29 rfl rfl ?_
  refine own_ishl 31 Y1 dsputc_30 rfl ?_
  show own_G p e below _ (State.setTop _ (mkF m 31 #[.val (.ref d), .val (.int (1 : Int32)), .val (.int cc)] [(.int (2 : Int32))]))
  refine own_istoreN 32 Y1 #[.val (.ref d), .val (.int (2 : Int32)), .val (.int cc)] dsputc_31 rfl rfl ?_
  refine own_aloadN 33 Y1 dsputc_32 rfl rfl rfl ?_
  refine own_iloadN 34 Y1 dsputc_33 rfl rfl ?_
  refine own_iinc 37 Y1 #[.val (.ref d), .val (.int (3 : Int32)), .val (.int cc)] (1 : Int32) dsputc_34 rfl rfl rfl rfl ?_
  refine own_iloadN 38 Y1 dsputc_37 rfl rfl ?_
  refine own_getS 41 Y1 (host := "") (Or.inl (own_wd hw 92 rfl)) Via.refl (WS.2.2.2.1.ext O.2) dsputc_38 rfl fun T4 Y3 => ?_
  refine own_ishr 42 Y3 dsputc_41 rfl ?_
  refine own_i2b 43 Y3 dsputc_42 rfl ?_
  refine own_stB 44 Y3 V_d dsputc_43 ⟨by decide, by decide⟩ rfl fun T5 h5 Y5 W5 A5 => ?_
  have Kp := Kp.wr W5 (Or.inl (List.mem_of_getElem? (i := 0) rfl))
  have N := own_frY Y5 N gd
  have O := O.wr W5 gd
  have V_d : Arv Z h5 d kd .byte (8 : Int32) [p0, p1, (.int (nar .byte (cc >>> ((0 : Int32) &&& 31)).toInt8.toInt32)), p3, p4, p5, p6, p7] (.int (0 : Int32)) := A5 2 rfl (Nat.le_of_ble_eq_true rfl) (fits_nar_byte _)
  refine own_aloadN 45 Y5 dsputc_44 rfl rfl rfl ?_
  refine own_iloadN 46 Y5 dsputc_45 rfl rfl ?_
  refine own_iloadN 47 Y5 dsputc_46 rfl rfl ?_
  refine own_getS 50 Y5 (host := "") (Or.inl (own_wd hw 93 rfl)) Via.refl (WS.2.2.2.2.1.ext O.2) dsputc_47 rfl fun T7 Y6 => ?_
  refine own_ishr 51 Y6 dsputc_50 rfl ?_
  refine own_i2b 52 Y6 dsputc_51 rfl ?_
  refine own_stB 53 Y6 V_d dsputc_52 ⟨by decide, by decide⟩ rfl fun T8 h8 Y8 W8 A8 => ?_
  have Kp := Kp.wr W8 (Or.inl (List.mem_of_getElem? (i := 0) rfl))
  have N := own_frY Y8 N gd
  have O := O.wr W8 gd
  have V_d : Arv Z h8 d kd .byte (8 : Int32) [p0, p1, (.int (nar .byte (cc >>> ((0 : Int32) &&& 31)).toInt8.toInt32)), (.int (nar .byte (cc >>> ((8 : Int32) &&& 31)).toInt8.toInt32)), p4, p5, p6, p7] (.int (0 : Int32)) := A8 3 rfl (Nat.le_of_ble_eq_true rfl) (fits_nar_byte _)
  exact own_retV Y8 rfl dsputc_53 (by decide) (by decide) ⟨rfl, Kp, N, V_d⟩
def Qputc_4_2 (Z : State) (d : Addr) (kd : ClassId) (cc : Int32) (p0 p1 p2 p3 p4 p5 p6 p7 : Value) (h0 : Heap) (n0 : Nat) (v : Option Value) (h : Heap) (L : List Loc) : Prop := v = none ∧ Keep h0 h [d] ∧ Fr n0 L ∧ Arv Z h d kd .byte (8 : Int32) [p0, p1, p2, p3, (.int (nar .byte (cc >>> ((0 : Int32) &&& 31)).toInt8.toInt32)), (.int (nar .byte (cc >>> ((8 : Int32) &&& 31)).toInt8.toInt32)), p6, p7] (.int (0 : Int32))
set_option maxRecDepth 65536 in
set_option maxHeartbeats 4000000 in
theorem c_putc_4_2 (l : Launch) (Z : State) (a0 : Array Value) (hw : ∀ d ∈ tables_1, d.before a0 Z = true) (d : Addr) (kd : ClassId) (cc : Int32) (p0 p1 p2 p3 p4 p5 p6 p7 : Value) (z : Int32) (fm : Value) (h0 : Heap) (n0 : Nat) (O : Old Z n0 h0) (WS : own_Ws Z z fm) (gd : n0 ≤ d) (V_d : Arv Z h0 d kd .byte (8 : Int32) [p0, p1, p2, p3, p4, p5, p6, p7] (.int (0 : Int32))) : own_M l (⟨"java/lang/StringUTF16", "putChar", "([BII)V"⟩ : MethodName) jdk_52_method_4_code 3 none [] ({ frames := 0, cells := 0, slots := 0, locals := 0 } : Room) Z #[.ref d, .int (2 : Int32), .int cc] h0 (Qputc_4_2 Z d kd cc p0 p1 p2 p3 p4 p5 p6 p7 h0 n0) := by
  refine own_met plsputc (Lf := #[.val (.ref d), .val (.int (2 : Int32)), .val (.int cc)]) (fun m => by first | (simp [entryFrame, mkF, argsToLocals, Value.category]; done) | rfl) ?_
  intro p e s m below meth c T Y
  have Kp := Keep.refl h0 [d]
  have N := Fr.nil n0
  refine own_getS 3 Y (host := "") (Or.inl (own_wd hw 91 rfl)) Via.refl (WS.2.2.1.ext O.2) dsputc_0 rfl fun T2 Y1 => ?_
  refine own_ifT 28 Y1 dsputc_3 (XT.i0_ne_t (by decide)) (by decide) ?_
  refine own_iloadN 29 Y1 dsputc_28 rfl rfl ?_
  refine own_iconst 30 Y1 (1 : Int32) dsputc_29 rfl rfl ?_
  refine own_ishl 31 Y1 dsputc_30 rfl ?_
  show own_G p e below _ (State.setTop _ (mkF m 31 #[.val (.ref d), .val (.int (2 : Int32)), .val (.int cc)] [(.int (4 : Int32))]))
  refine own_istoreN 32 Y1 #[.val (.ref d), .val (.int (4 : Int32)), .val (.int cc)] dsputc_31 rfl rfl ?_
  refine own_aloadN 33 Y1 dsputc_32 rfl rfl rfl ?_
  refine own_iloadN 34 Y1 dsputc_33 rfl rfl ?_
  refine own_iinc 37 Y1 #[.val (.ref d), .val (.int (5 : Int32)), .val (.int cc)] (1 : Int32) dsputc_34 rfl rfl rfl rfl ?_
  refine own_iloadN 38 Y1 dsputc_37 rfl rfl ?_
  refine own_getS 41 Y1 (host := "") (Or.inl (own_wd hw 92 rfl)) Via.refl (WS.2.2.2.1.ext O.2) dsputc_38 rfl fun T4 Y3 => ?_
  refine own_ishr 42 Y3 dsputc_41 rfl ?_
  refine own_i2b 43 Y3 dsputc_42 rfl ?_
  refine own_stB 44 Y3 V_d dsputc_43 ⟨by decide, by decide⟩ rfl fun T5 h5 Y5 W5 A5 => ?_
  have Kp := Kp.wr W5 (Or.inl (List.mem_of_getElem? (i := 0) rfl))
  have N := own_frY Y5 N gd
  have O := O.wr W5 gd
  have V_d : Arv Z h5 d kd .byte (8 : Int32) [p0, p1, p2, p3, (.int (nar .byte (cc >>> ((0 : Int32) &&& 31)).toInt8.toInt32)), p5, p6, p7] (.int (0 : Int32)) := A5 4 rfl (Nat.le_of_ble_eq_true rfl) (fits_nar_byte _)
  refine own_aloadN 45 Y5 dsputc_44 rfl rfl rfl ?_
  refine own_iloadN 46 Y5 dsputc_45 rfl rfl ?_
  refine own_iloadN 47 Y5 dsputc_46 rfl rfl ?_
  refine own_getS 50 Y5 (host := "") (Or.inl (own_wd hw 93 rfl)) Via.refl (WS.2.2.2.2.1.ext O.2) dsputc_47 rfl fun T7 Y6 => ?_
  refine own_ishr 51 Y6 dsputc_50 rfl ?_
  refine own_i2b 52 Y6 dsputc_51 rfl ?_
  refine own_stB 53 Y6 V_d dsputc_52 ⟨by decide, by decide⟩ rfl fun T8 h8 Y8 W8 A8 => ?_
  have Kp := Kp.wr W8 (Or.inl (List.mem_of_getElem? (i := 0) rfl))
  have N := own_frY Y8 N gd
  have O := O.wr W8 gd
  have V_d : Arv Z h8 d kd .byte (8 : Int32) [p0, p1, p2, p3, (.int (nar .byte (cc >>> ((0 : Int32) &&& 31)).toInt8.toInt32)), (.int (nar .byte (cc >>> ((8 : Int32) &&& 31)).toInt8.toInt32)), p6, p7] (.int (0 : Int32)) := A8 5 rfl (Nat.le_of_ble_eq_true rfl) (fits_nar_byte _)
  exact own_retV Y8 rfl dsputc_53 (by decide) (by decide) ⟨rfl, Kp, N, V_d⟩
def Qputc_4_3 (Z : State) (d : Addr) (kd : ClassId) (cc : Int32) (p0 p1 p2 p3 p4 p5 p6 p7 : Value) (h0 : Heap) (n0 : Nat) (v : Option Value) (h : Heap) (L : List Loc) : Prop := v = none ∧ Keep h0 h [d] ∧ Fr n0 L ∧ Arv Z h d kd .byte (8 : Int32) [p0, p1, p2, p3, p4, p5, (.int (nar .byte (cc >>> ((0 : Int32) &&& 31)).toInt8.toInt32)), (.int (nar .byte (cc >>> ((8 : Int32) &&& 31)).toInt8.toInt32))] (.int (0 : Int32))
set_option maxRecDepth 65536 in
set_option maxHeartbeats 4000000 in
theorem c_putc_4_3 (l : Launch) (Z : State) (a0 : Array Value) (hw : ∀ d ∈ tables_1, d.before a0 Z = true) (d : Addr) (kd : ClassId) (cc : Int32) (p0 p1 p2 p3 p4 p5 p6 p7 : Value) (z : Int32) (fm : Value) (h0 : Heap) (n0 : Nat) (O : Old Z n0 h0) (WS : own_Ws Z z fm) (gd : n0 ≤ d) (V_d : Arv Z h0 d kd .byte (8 : Int32) [p0, p1, p2, p3, p4, p5, p6, p7] (.int (0 : Int32))) : own_M l (⟨"java/lang/StringUTF16", "putChar", "([BII)V"⟩ : MethodName) jdk_52_method_4_code 3 none [] ({ frames := 0, cells := 0, slots := 0, locals := 0 } : Room) Z #[.ref d, .int (3 : Int32), .int cc] h0 (Qputc_4_3 Z d kd cc p0 p1 p2 p3 p4 p5 p6 p7 h0 n0) := by
  refine own_met plsputc (Lf := #[.val (.ref d), .val (.int (3 : Int32)), .val (.int cc)]) (fun m => by first | (simp [entryFrame, mkF, argsToLocals, Value.category]; done) | rfl) ?_
  intro p e s m below meth c T Y
  have Kp := Keep.refl h0 [d]
  have N := Fr.nil n0
  refine own_getS 3 Y (host := "") (Or.inl (own_wd hw 91 rfl)) Via.refl (WS.2.2.1.ext O.2) dsputc_0 rfl fun T2 Y1 => ?_
  refine own_ifT 28 Y1 dsputc_3 (XT.i0_ne_t (by decide)) (by decide) ?_
  refine own_iloadN 29 Y1 dsputc_28 rfl rfl ?_
  refine own_iconst 30 Y1 (1 : Int32) dsputc_29 rfl rfl ?_
  refine own_ishl 31 Y1 dsputc_30 rfl ?_
  show own_G p e below _ (State.setTop _ (mkF m 31 #[.val (.ref d), .val (.int (3 : Int32)), .val (.int cc)] [(.int (6 : Int32))]))
  refine own_istoreN 32 Y1 #[.val (.ref d), .val (.int (6 : Int32)), .val (.int cc)] dsputc_31 rfl rfl ?_
  refine own_aloadN 33 Y1 dsputc_32 rfl rfl rfl ?_
  refine own_iloadN 34 Y1 dsputc_33 rfl rfl ?_
  refine own_iinc 37 Y1 #[.val (.ref d), .val (.int (7 : Int32)), .val (.int cc)] (1 : Int32) dsputc_34 rfl rfl rfl rfl ?_
  refine own_iloadN 38 Y1 dsputc_37 rfl rfl ?_
  refine own_getS 41 Y1 (host := "") (Or.inl (own_wd hw 92 rfl)) Via.refl (WS.2.2.2.1.ext O.2) dsputc_38 rfl fun T4 Y3 => ?_
  refine own_ishr 42 Y3 dsputc_41 rfl ?_
  refine own_i2b 43 Y3 dsputc_42 rfl ?_
  refine own_stB 44 Y3 V_d dsputc_43 ⟨by decide, by decide⟩ rfl fun T5 h5 Y5 W5 A5 => ?_
  have Kp := Kp.wr W5 (Or.inl (List.mem_of_getElem? (i := 0) rfl))
  have N := own_frY Y5 N gd
  have O := O.wr W5 gd
  have V_d : Arv Z h5 d kd .byte (8 : Int32) [p0, p1, p2, p3, p4, p5, (.int (nar .byte (cc >>> ((0 : Int32) &&& 31)).toInt8.toInt32)), p7] (.int (0 : Int32)) := A5 6 rfl (Nat.le_of_ble_eq_true rfl) (fits_nar_byte _)
  refine own_aloadN 45 Y5 dsputc_44 rfl rfl rfl ?_
  refine own_iloadN 46 Y5 dsputc_45 rfl rfl ?_
  refine own_iloadN 47 Y5 dsputc_46 rfl rfl ?_
  refine own_getS 50 Y5 (host := "") (Or.inl (own_wd hw 93 rfl)) Via.refl (WS.2.2.2.2.1.ext O.2) dsputc_47 rfl fun T7 Y6 => ?_
  refine own_ishr 51 Y6 dsputc_50 rfl ?_
  refine own_i2b 52 Y6 dsputc_51 rfl ?_
  refine own_stB 53 Y6 V_d dsputc_52 ⟨by decide, by decide⟩ rfl fun T8 h8 Y8 W8 A8 => ?_
  have Kp := Kp.wr W8 (Or.inl (List.mem_of_getElem? (i := 0) rfl))
  have N := own_frY Y8 N gd
  have O := O.wr W8 gd
  have V_d : Arv Z h8 d kd .byte (8 : Int32) [p0, p1, p2, p3, p4, p5, (.int (nar .byte (cc >>> ((0 : Int32) &&& 31)).toInt8.toInt32)), (.int (nar .byte (cc >>> ((8 : Int32) &&& 31)).toInt8.toInt32))] (.int (0 : Int32)) := A8 7 rfl (Nat.le_of_ble_eq_true rfl) (fits_nar_byte _)
  exact own_retV Y8 rfl dsputc_53 (by decide) (by decide) ⟨rfl, Kp, N, V_d⟩
set_option maxRecDepth 65536 in
set_option maxHeartbeats 4000000 in
theorem c_nbl_4 (l : Launch) (Z : State) (a0 : Array Value) (hw : ∀ d ∈ tables_1, d.before a0 Z = true) (h0 : Heap) : own_M l (⟨"java/lang/StringUTF16", "newBytesLength", "(I)I"⟩ : MethodName) jdk_52_method_3_code 1 (some .int) [] ({ frames := 0, cells := 0, slots := 0, locals := 0 } : Room) Z #[.int (4 : Int32)] h0 (Qv (some (.int (8 : Int32))) h0) := by
  refine own_met plsnbl (Lf := #[.val (.int (4 : Int32))]) (fun m => by first | (simp [entryFrame, mkF, argsToLocals, Value.category]; done) | rfl) ?_
  intro p e s m below meth c T Y
  refine own_iloadN 1 Y dsnbl_0 rfl rfl ?_
  refine own_ifT 12 Y dsnbl_1 (XT.i0_ge_t (by decide)) (by decide) ?_
  refine own_iloadN 13 Y dsnbl_12 rfl rfl ?_
  refine own_ldcI 15 Y (own_wd hw 87 rfl) dsnbl_13 rfl ?_
  refine own_icT 55 Y dsnbl_15 (XT.ii_lt_t (by decide)) (by decide) ?_
  refine own_iloadN 56 Y dsnbl_55 rfl rfl ?_
  refine own_iconst 57 Y (1 : Int32) dsnbl_56 rfl rfl ?_
  refine own_ishl 58 Y dsnbl_57 rfl ?_
  show own_G p e below _ (State.setTop _ (mkF m 58 #[.val (.int (4 : Int32))] [(.int (8 : Int32))]))
  exact own_retI Y rfl dsnbl_58 (by decide) (by decide) ⟨rfl, rfl, rfl⟩
def Qnbf_4 (Z : State) (h0 : Heap) (n0 : Nat) (v : Option Value) (h : Heap) (L : List Loc) : Prop := ∃ (d : Addr) (kd : ClassId), v = some (.ref d) ∧ h0.size ≤ d ∧ Keep h0 h [] ∧ Fr n0 L ∧ Arv Z h d kd .byte (8 : Int32) [(.int (0 : Int32)), (.int (0 : Int32)), (.int (0 : Int32)), (.int (0 : Int32)), (.int (0 : Int32)), (.int (0 : Int32)), (.int (0 : Int32)), (.int (0 : Int32))] (.int (0 : Int32))
set_option maxRecDepth 65536 in
set_option maxHeartbeats 4000000 in
theorem c_nbf_4 (l : Launch) (Z : State) (a0 : Array Value) (hw : ∀ d ∈ tables_1, d.before a0 Z = true) (h0 : Heap) (n0 : Nat) (Zs : n0 ≤ h0.size) : own_M l (⟨"java/lang/StringUTF16", "newBytesFor", "(I)[B"⟩ : MethodName) jdk_52_method_2_code 1 (some (.array .byte)) [] ({ frames := 1, cells := 1, slots := 8, locals := 12 } : Room) Z #[.int (4 : Int32)] h0 (Qnbf_4 Z h0 n0) := by
  refine own_met plsnbf (Lf := #[.val (.int (4 : Int32))]) (fun m => by first | (simp [entryFrame, mkF, argsToLocals, Value.category]; done) | rfl) ?_
  intro p e s m below meth c T Y
  have Kp := Keep.refl h0 []
  have N := Fr.nil n0
  refine own_iloadN 1 Y dsnbf_0 rfl rfl ?_
  refine own_callS 4 Y [(.int (4 : Int32))] [] (own_wd hw 84 rfl) (own_wd hw 85 rfl) (own_wd hw 41 rfl) (own_wd hw 86 rfl) (c_nbl_4 l Z a0 hw _) dsnbf_1 (by decide) (lenOf pdsnbl rfl) rfl rfl (by decide) (Nat.le_of_ble_eq_true rfl) (by decide) (by decide) rfl fun v1 T1 h1 L1 Y1 hQ1 => ?_
  obtain ⟨rfl, rfl, rfl⟩ := hQ1
  have N := N.app (Fr.nil n0)
  show own_G p e below _ (T1.setTop (mkF m 4 #[.val (.int (4 : Int32))] [(.int (8 : Int32))]))
  refine own_newP 6 Y1 (own_wd hw 17 rfl) 8 dsnbf_4 (by decide) (by decide) (by decide) (by decide) (by decide) rfl fun T2 h2 d k_d Y2 g_d E2 V_d => ?_
  have gk_d := Nat.le_trans Kp.1 (Nat.le_of_eq g_d.symm)
  have gn_d : n0 ≤ d := by rw [g_d]; exact Zs
  have Kp := Kp.ext E2
  have Zs := Nat.le_trans Zs E2.1
  have V_d : Arv Z h2 d k_d .byte (8 : Int32) [(.int (0 : Int32)), (.int (0 : Int32)), (.int (0 : Int32)), (.int (0 : Int32)), (.int (0 : Int32)), (.int (0 : Int32)), (.int (0 : Int32)), (.int (0 : Int32))] (.int (0 : Int32)) := V_d.pad (pad_rep [] _ 8)
  exact own_retA Y2 rfl rfl rfl dsnbf_6 (by decide) (by decide) ⟨d, k_d, rfl, gk_d, Kp, N, V_d⟩
def Qtob_4 (Z : State) (c0 c1 c2 c3 : Int32) (h0 : Heap) (n0 : Nat) (v : Option Value) (h : Heap) (L : List Loc) : Prop := ∃ (d : Addr) (kd : ClassId), v = some (.ref d) ∧ h0.size ≤ d ∧ Keep h0 h [] ∧ Fr n0 L ∧ Arv Z h d kd .byte (8 : Int32) [(.int (nar .byte (c0 >>> ((0 : Int32) &&& 31)).toInt8.toInt32)), (.int (nar .byte (c0 >>> ((8 : Int32) &&& 31)).toInt8.toInt32)), (.int (nar .byte (c1 >>> ((0 : Int32) &&& 31)).toInt8.toInt32)), (.int (nar .byte (c1 >>> ((8 : Int32) &&& 31)).toInt8.toInt32)), (.int (nar .byte (c2 >>> ((0 : Int32) &&& 31)).toInt8.toInt32)), (.int (nar .byte (c2 >>> ((8 : Int32) &&& 31)).toInt8.toInt32)), (.int (nar .byte (c3 >>> ((0 : Int32) &&& 31)).toInt8.toInt32)), (.int (nar .byte (c3 >>> ((8 : Int32) &&& 31)).toInt8.toInt32))] (.int (0 : Int32))
set_option maxRecDepth 65536 in
set_option maxHeartbeats 4000000 in
theorem c_tob_4 (l : Launch) (Z : State) (a0 : Array Value) (hw : ∀ d ∈ tables_1, d.before a0 Z = true) (b : Addr) (kb : ClassId) (c0 c1 c2 c3 : Int32) (hn0 : nar .char c0 = c0) (hn1 : nar .char c1 = c1) (hn2 : nar .char c2 = c2) (hn3 : nar .char c3 = c3) (z : Int32) (fm : Value) (h0 : Heap) (n0 : Nat) (O : Old Z n0 h0) (WS : own_Ws Z z fm) (Zs : n0 ≤ h0.size) (V_b : Arv Z h0 b kb .char (4 : Int32) [(.int c0), (.int c1), (.int c2), (.int c3)] (.int (0 : Int32))) : own_M l (⟨"java/lang/StringUTF16", "toBytes", "([CII)[B"⟩ : MethodName) jdk_52_method_14_code 5 (some (.array .byte)) [] ({ frames := 2, cells := 1, slots := 8, locals := 24 } : Room) Z #[.ref b, .int (0 : Int32), .int (4 : Int32)] h0 (Qtob_4 Z c0 c1 c2 c3 h0 n0) := by
  refine own_met plstob (Lf := #[.val (.ref b), .val (.int (0 : Int32)), .val (.int (4 : Int32)), .unset, .unset]) (fun m => by first | (simp [entryFrame, mkF, argsToLocals, Value.category]; done) | rfl) ?_
  intro p e s m below meth c T Y
  have Kp := Keep.refl h0 []
  have N := Fr.nil n0
  refine own_iloadN 1 Y dstob_0 rfl rfl ?_
  refine own_callS 4 Y [(.int (4 : Int32))] [] (own_wd hw 81 rfl) (own_wd hw 82 rfl) (own_wd hw 41 rfl) (own_wd hw 83 rfl) (c_nbf_4 l Z a0 hw _ n0 Zs) dstob_1 (by decide) (lenOf pdsnbf rfl) rfl rfl (by decide) (Nat.le_of_ble_eq_true rfl) (by decide) (by decide) rfl fun v1 T1 h1 L1 Y1 hQ1 => ?_
  obtain ⟨d, kd, rfl, gk_d, K1, N1, V_d⟩ := hQ1
  have gn_d := Nat.le_trans Zs gk_d
  have ne_b_d : b ≠ d := Nat.ne_of_lt (Nat.lt_of_lt_of_le V_b.lt gk_d)
  have V_b := V_b.keep K1 nin0
  have Kp := Kp.trans K1 all0
  have N := N.app N1
  have Zs := Nat.le_trans Zs K1.1
  have O := O.keep K1 all0
  show own_G p e below _ (T1.setTop (mkF m 4 #[.val (.ref b), .val (.int (0 : Int32)), .val (.int (4 : Int32)), .unset, .unset] [(.ref d)]))
  refine own_astoreN 5 Y1 #[.val (.ref b), .val (.int (0 : Int32)), .val (.int (4 : Int32)), .val (.ref d), .unset] dstob_4 rfl rfl rfl ?_
  refine own_iconst 6 Y1 (0 : Int32) dstob_5 rfl rfl ?_
  refine own_istore 8 Y1 #[.val (.ref b), .val (.int (0 : Int32)), .val (.int (4 : Int32)), .val (.ref d), .val (.int (0 : Int32))] dstob_6 rfl rfl ?_
  refine own_iload 10 Y1 dstob_8 rfl rfl ?_
  refine own_iloadN 11 Y1 dstob_10 rfl rfl ?_
  refine own_icF 14 Y1 dstob_11 (XT.ii_ge_f (by decide)) rfl ?_
  refine own_aloadN 15 Y1 dstob_14 rfl rfl rfl ?_
  refine own_iload 17 Y1 dstob_15 rfl rfl ?_
  refine own_aloadN 18 Y1 dstob_17 rfl rfl rfl ?_
  refine own_iloadN 19 Y1 dstob_18 rfl rfl ?_
  refine own_caload 20 Y1 V_b dstob_19 ⟨by decide, by decide⟩ rfl rfl ?_
  refine own_callS 23 Y1 [(.ref d), (.int (0 : Int32)), (.int c0)] [] (own_wd hw 88 rfl) (own_wd hw 89 rfl) (own_wd hw 41 rfl) (own_wd hw 90 rfl) (c_putc_4_0 l Z a0 hw d kd c0 (.int (0 : Int32)) (.int (0 : Int32)) (.int (0 : Int32)) (.int (0 : Int32)) (.int (0 : Int32)) (.int (0 : Int32)) (.int (0 : Int32)) (.int (0 : Int32)) z fm _ n0 O WS gn_d V_d) dstob_20 (by decide) (lenOf pdsputc rfl) rfl rfl (by decide) (Nat.le_of_ble_eq_true rfl) (by decide) (by decide) rfl fun v2 T2 h2 L2 Y2 hQ2 => ?_
  obtain ⟨rfl, K2, N2, G2⟩ := hQ2
  have V_b := V_b.keep K2 (ninS ne_b_d nin0)
  have Kp := Kp.trans K2 (allS (Or.inr gk_d) all0)
  have N := N.app N2
  have Zs := Nat.le_trans Zs K2.1
  have O := O.keep K2 (allS gn_d all0)
  have V_d := G2
  show own_G p e below _ (T2.setTop (mkF m 23 #[.val (.ref b), .val (.int (0 : Int32)), .val (.int (4 : Int32)), .val (.ref d), .val (.int (0 : Int32))] []))
  refine own_iinc 26 Y2 #[.val (.ref b), .val (.int (1 : Int32)), .val (.int (4 : Int32)), .val (.ref d), .val (.int (0 : Int32))] (1 : Int32) dstob_23 rfl rfl rfl rfl ?_
  refine own_iinc 29 Y2 #[.val (.ref b), .val (.int (1 : Int32)), .val (.int (4 : Int32)), .val (.ref d), .val (.int (1 : Int32))] (1 : Int32) dstob_26 rfl rfl rfl rfl ?_
  refine own_goto 8 Y2 dstob_29 (by decide) ?_
  refine own_iload 10 Y2 dstob_8 rfl rfl ?_
  refine own_iloadN 11 Y2 dstob_10 rfl rfl ?_
  refine own_icF 14 Y2 dstob_11 (XT.ii_ge_f (by decide)) rfl ?_
  refine own_aloadN 15 Y2 dstob_14 rfl rfl rfl ?_
  refine own_iload 17 Y2 dstob_15 rfl rfl ?_
  refine own_aloadN 18 Y2 dstob_17 rfl rfl rfl ?_
  refine own_iloadN 19 Y2 dstob_18 rfl rfl ?_
  refine own_caload 20 Y2 V_b dstob_19 ⟨by decide, by decide⟩ rfl rfl ?_
  refine own_callS 23 Y2 [(.ref d), (.int (1 : Int32)), (.int c1)] [] (own_wd hw 88 rfl) (own_wd hw 89 rfl) (own_wd hw 41 rfl) (own_wd hw 90 rfl) (c_putc_4_1 l Z a0 hw d kd c1 (.int (nar .byte (c0 >>> ((0 : Int32) &&& 31)).toInt8.toInt32)) (.int (nar .byte (c0 >>> ((8 : Int32) &&& 31)).toInt8.toInt32)) (.int (0 : Int32)) (.int (0 : Int32)) (.int (0 : Int32)) (.int (0 : Int32)) (.int (0 : Int32)) (.int (0 : Int32)) z fm _ n0 O WS gn_d V_d) dstob_20 (by decide) (lenOf pdsputc rfl) rfl rfl (by decide) (Nat.le_of_ble_eq_true rfl) (by decide) (by decide) rfl fun v3 T3 h3 L3 Y3 hQ3 => ?_
  obtain ⟨rfl, K3, N3, G3⟩ := hQ3
  have V_b := V_b.keep K3 (ninS ne_b_d nin0)
  have Kp := Kp.trans K3 (allS (Or.inr gk_d) all0)
  have N := N.app N3
  have Zs := Nat.le_trans Zs K3.1
  have O := O.keep K3 (allS gn_d all0)
  have V_d := G3
  show own_G p e below _ (T3.setTop (mkF m 23 #[.val (.ref b), .val (.int (1 : Int32)), .val (.int (4 : Int32)), .val (.ref d), .val (.int (1 : Int32))] []))
  refine own_iinc 26 Y3 #[.val (.ref b), .val (.int (2 : Int32)), .val (.int (4 : Int32)), .val (.ref d), .val (.int (1 : Int32))] (1 : Int32) dstob_23 rfl rfl rfl rfl ?_
  refine own_iinc 29 Y3 #[.val (.ref b), .val (.int (2 : Int32)), .val (.int (4 : Int32)), .val (.ref d), .val (.int (2 : Int32))] (1 : Int32) dstob_26 rfl rfl rfl rfl ?_
  refine own_goto 8 Y3 dstob_29 (by decide) ?_
  refine own_iload 10 Y3 dstob_8 rfl rfl ?_
  refine own_iloadN 11 Y3 dstob_10 rfl rfl ?_
  refine own_icF 14 Y3 dstob_11 (XT.ii_ge_f (by decide)) rfl ?_
  refine own_aloadN 15 Y3 dstob_14 rfl rfl rfl ?_
  refine own_iload 17 Y3 dstob_15 rfl rfl ?_
  refine own_aloadN 18 Y3 dstob_17 rfl rfl rfl ?_
  refine own_iloadN 19 Y3 dstob_18 rfl rfl ?_
  refine own_caload 20 Y3 V_b dstob_19 ⟨by decide, by decide⟩ rfl rfl ?_
  refine own_callS 23 Y3 [(.ref d), (.int (2 : Int32)), (.int c2)] [] (own_wd hw 88 rfl) (own_wd hw 89 rfl) (own_wd hw 41 rfl) (own_wd hw 90 rfl) (c_putc_4_2 l Z a0 hw d kd c2 (.int (nar .byte (c0 >>> ((0 : Int32) &&& 31)).toInt8.toInt32)) (.int (nar .byte (c0 >>> ((8 : Int32) &&& 31)).toInt8.toInt32)) (.int (nar .byte (c1 >>> ((0 : Int32) &&& 31)).toInt8.toInt32)) (.int (nar .byte (c1 >>> ((8 : Int32) &&& 31)).toInt8.toInt32)) (.int (0 : Int32)) (.int (0 : Int32)) (.int (0 : Int32)) (.int (0 : Int32)) z fm _ n0 O WS gn_d V_d) dstob_20 (by decide) (lenOf pdsputc rfl) rfl rfl (by decide) (Nat.le_of_ble_eq_true rfl) (by decide) (by decide) rfl fun v4 T4 h4 L4 Y4 hQ4 => ?_
  obtain ⟨rfl, K4, N4, G4⟩ := hQ4
  have V_b := V_b.keep K4 (ninS ne_b_d nin0)
  have Kp := Kp.trans K4 (allS (Or.inr gk_d) all0)
  have N := N.app N4
  have Zs := Nat.le_trans Zs K4.1
  have O := O.keep K4 (allS gn_d all0)
  have V_d := G4
  show own_G p e below _ (T4.setTop (mkF m 23 #[.val (.ref b), .val (.int (2 : Int32)), .val (.int (4 : Int32)), .val (.ref d), .val (.int (2 : Int32))] []))
  refine own_iinc 26 Y4 #[.val (.ref b), .val (.int (3 : Int32)), .val (.int (4 : Int32)), .val (.ref d), .val (.int (2 : Int32))] (1 : Int32) dstob_23 rfl rfl rfl rfl ?_
  refine own_iinc 29 Y4 #[.val (.ref b), .val (.int (3 : Int32)), .val (.int (4 : Int32)), .val (.ref d), .val (.int (3 : Int32))] (1 : Int32) dstob_26 rfl rfl rfl rfl ?_
  refine own_goto 8 Y4 dstob_29 (by decide) ?_
  refine own_iload 10 Y4 dstob_8 rfl rfl ?_
  refine own_iloadN 11 Y4 dstob_10 rfl rfl ?_
  refine own_icF 14 Y4 dstob_11 (XT.ii_ge_f (by decide)) rfl ?_
  refine own_aloadN 15 Y4 dstob_14 rfl rfl rfl ?_
  refine own_iload 17 Y4 dstob_15 rfl rfl ?_
  refine own_aloadN 18 Y4 dstob_17 rfl rfl rfl ?_
  refine own_iloadN 19 Y4 dstob_18 rfl rfl ?_
  refine own_caload 20 Y4 V_b dstob_19 ⟨by decide, by decide⟩ rfl rfl ?_
  refine own_callS 23 Y4 [(.ref d), (.int (3 : Int32)), (.int c3)] [] (own_wd hw 88 rfl) (own_wd hw 89 rfl) (own_wd hw 41 rfl) (own_wd hw 90 rfl) (c_putc_4_3 l Z a0 hw d kd c3 (.int (nar .byte (c0 >>> ((0 : Int32) &&& 31)).toInt8.toInt32)) (.int (nar .byte (c0 >>> ((8 : Int32) &&& 31)).toInt8.toInt32)) (.int (nar .byte (c1 >>> ((0 : Int32) &&& 31)).toInt8.toInt32)) (.int (nar .byte (c1 >>> ((8 : Int32) &&& 31)).toInt8.toInt32)) (.int (nar .byte (c2 >>> ((0 : Int32) &&& 31)).toInt8.toInt32)) (.int (nar .byte (c2 >>> ((8 : Int32) &&& 31)).toInt8.toInt32)) (.int (0 : Int32)) (.int (0 : Int32)) z fm _ n0 O WS gn_d V_d) dstob_20 (by decide) (lenOf pdsputc rfl) rfl rfl (by decide) (Nat.le_of_ble_eq_true rfl) (by decide) (by decide) rfl fun v5 T5 h5 L5 Y5 hQ5 => ?_
  obtain ⟨rfl, K5, N5, G5⟩ := hQ5
  have V_b := V_b.keep K5 (ninS ne_b_d nin0)
  have Kp := Kp.trans K5 (allS (Or.inr gk_d) all0)
  have N := N.app N5
  have Zs := Nat.le_trans Zs K5.1
  have O := O.keep K5 (allS gn_d all0)
  have V_d := G5
  show own_G p e below _ (T5.setTop (mkF m 23 #[.val (.ref b), .val (.int (3 : Int32)), .val (.int (4 : Int32)), .val (.ref d), .val (.int (3 : Int32))] []))
  refine own_iinc 26 Y5 #[.val (.ref b), .val (.int (4 : Int32)), .val (.int (4 : Int32)), .val (.ref d), .val (.int (3 : Int32))] (1 : Int32) dstob_23 rfl rfl rfl rfl ?_
  refine own_iinc 29 Y5 #[.val (.ref b), .val (.int (4 : Int32)), .val (.int (4 : Int32)), .val (.ref d), .val (.int (4 : Int32))] (1 : Int32) dstob_26 rfl rfl rfl rfl ?_
  refine own_goto 8 Y5 dstob_29 (by decide) ?_
  refine own_iload 10 Y5 dstob_8 rfl rfl ?_
  refine own_iloadN 11 Y5 dstob_10 rfl rfl ?_
  refine own_icT 32 Y5 dstob_11 (XT.ii_ge_t (by decide)) (by decide) ?_
  refine own_aloadN 33 Y5 dstob_32 rfl rfl rfl ?_
  exact own_retA Y5 rfl rfl rfl dstob_33 (by decide) (by decide) ⟨d, kd, rfl, gk_d, Kp, N, V_d⟩
def Qcmp3w_4 (Z : State) (c0 c1 c2 c3 : Int32) (h0 : Heap) (n0 : Nat) (v : Option Value) (h : Heap) (L : List Loc) : Prop := ∃ (d : Addr) (kd : ClassId), v = some (.ref d) ∧ h0.size ≤ d ∧ Keep h0 h [] ∧ Fr n0 L ∧ ((¬ (255 : Int32) < c0 ∧ ¬ (255 : Int32) < c1 ∧ ¬ (255 : Int32) < c2 ∧ ¬ (255 : Int32) < c3 ∧ Arv Z h d kd .byte (4 : Int32) [(.int (nar .byte c0.toInt8.toInt32)), (.int (nar .byte c1.toInt8.toInt32)), (.int (nar .byte c2.toInt8.toInt32)), (.int (nar .byte c3.toInt8.toInt32))] (.int (0 : Int32))) ∨ Arv Z h d kd .byte (8 : Int32) [(.int (nar .byte (c0 >>> ((0 : Int32) &&& 31)).toInt8.toInt32)), (.int (nar .byte (c0 >>> ((8 : Int32) &&& 31)).toInt8.toInt32)), (.int (nar .byte (c1 >>> ((0 : Int32) &&& 31)).toInt8.toInt32)), (.int (nar .byte (c1 >>> ((8 : Int32) &&& 31)).toInt8.toInt32)), (.int (nar .byte (c2 >>> ((0 : Int32) &&& 31)).toInt8.toInt32)), (.int (nar .byte (c2 >>> ((8 : Int32) &&& 31)).toInt8.toInt32)), (.int (nar .byte (c3 >>> ((0 : Int32) &&& 31)).toInt8.toInt32)), (.int (nar .byte (c3 >>> ((8 : Int32) &&& 31)).toInt8.toInt32))] (.int (0 : Int32)))
set_option maxRecDepth 65536 in
set_option maxHeartbeats 4000000 in
theorem c_cmp3w_4 (l : Launch) (Z : State) (a0 : Array Value) (hw : ∀ d ∈ tables_1, d.before a0 Z = true) (b : Addr) (kb : ClassId) (c0 c1 c2 c3 : Int32) (hn0 : nar .char c0 = c0) (hn1 : nar .char c1 = c1) (hn2 : nar .char c2 = c2) (hn3 : nar .char c3 = c3) (z : Int32) (fm : Value) (h0 : Heap) (n0 : Nat) (O : Old Z n0 h0) (WS : own_Ws Z z fm) (Zs : n0 ≤ h0.size) (V_b : Arv Z h0 b kb .char (4 : Int32) [(.int c0), (.int c1), (.int c2), (.int c3)] (.int (0 : Int32))) : own_M l (⟨"java/lang/StringUTF16", "compress", "([CII)[B"⟩ : MethodName) jdk_52_method_16_code 6 (some (.array .byte)) [] ({ frames := 3, cells := 2, slots := 12, locals := 40 } : Room) Z #[.ref b, .int (0 : Int32), .int (4 : Int32)] h0 (Qcmp3w_4 Z c0 c1 c2 c3 h0 n0) := by
  refine own_met plscmp3 (Lf := #[.val (.ref b), .val (.int (0 : Int32)), .val (.int (4 : Int32)), .unset, .unset, .unset]) (fun m => by first | (simp [entryFrame, mkF, argsToLocals, Value.category]; done) | rfl) ?_
  intro p e s m below meth c T Y
  have Kp := Keep.refl h0 []
  have N := Fr.nil n0
  refine own_iloadN 1 Y dscmp3_0 rfl rfl ?_
  refine own_newP 3 Y (own_wd hw 17 rfl) 4 dscmp3_1 (by decide) (by decide) (by decide) (by decide) (by decide) rfl fun T1 h1 d k_d Y1 g_d E1 V_d => ?_
  have ne_b_d : b ≠ d := by rw [g_d]; exact Nat.ne_of_lt V_b.lt
  have gk_d := Nat.le_trans Kp.1 (Nat.le_of_eq g_d.symm)
  have gn_d : n0 ≤ d := by rw [g_d]; exact Zs
  have V_b := V_b.ext E1
  have Kp := Kp.ext E1
  have Zs := Nat.le_trans Zs E1.1
  have O := O.ext E1
  have V_d : Arv Z h1 d k_d .byte (4 : Int32) [(.int (0 : Int32)), (.int (0 : Int32)), (.int (0 : Int32)), (.int (0 : Int32))] (.int (0 : Int32)) := V_d.pad (pad_rep [] _ 4)
  refine own_astoreN 4 Y1 #[.val (.ref b), .val (.int (0 : Int32)), .val (.int (4 : Int32)), .val (.ref d), .unset, .unset] dscmp3_3 rfl rfl rfl ?_
  refine own_aloadN 5 Y1 dscmp3_4 rfl rfl rfl ?_
  refine own_iloadN 6 Y1 dscmp3_5 rfl rfl ?_
  refine own_aloadN 7 Y1 dscmp3_6 rfl rfl rfl ?_
  refine own_iconst 8 Y1 (0 : Int32) dscmp3_7 rfl rfl ?_
  refine own_iloadN 9 Y1 dscmp3_8 rfl rfl ?_
  refine own_callS 12 Y1 [(.ref b), (.int (0 : Int32)), (.ref d), (.int (0 : Int32)), (.int (4 : Int32))] [] (own_wd hw 43 rfl) (own_wd hw 44 rfl) (own_wd hw 41 rfl) (own_wd hw 45 rfl) (c_cmp5w_4 l Z a0 hw b d kb k_d c0 c1 c2 c3 hn0 hn1 hn2 hn3 _ n0 gn_d ne_b_d V_b V_d) dscmp3_9 (by decide) (lenOf pdscmp5 rfl) rfl rfl (by decide) (Nat.le_of_ble_eq_true rfl) (by decide) (by decide) rfl fun v2 T2 h2 L2 Y2 hQ2 => ?_
  obtain ⟨K2, N2, D2⟩ := hQ2
  have V_b := V_b.keep K2 (ninS ne_b_d nin0)
  have Kp := Kp.trans K2 (allS (Or.inr gk_d) all0)
  have N := N.app N2
  have Zs := Nat.le_trans Zs K2.1
  have O := O.keep K2 (allS gn_d all0)
  rcases D2 with ⟨hc0, hc1, hc2, hc3, rfl, V_d⟩ | ⟨hwd, rfl⟩ | ⟨hwd, rfl⟩ | ⟨hwd, rfl⟩ | ⟨hwd, rfl⟩
  · show own_G p e below _ (T2.setTop (mkF m 12 #[.val (.ref b), .val (.int (0 : Int32)), .val (.int (4 : Int32)), .val (.ref d), .unset, .unset] [(.int (4 : Int32))]))
    refine own_istore 14 Y2 #[.val (.ref b), .val (.int (0 : Int32)), .val (.int (4 : Int32)), .val (.ref d), .val (.int (4 : Int32)), .unset] dscmp3_12 rfl rfl ?_
    refine own_iload 16 Y2 dscmp3_14 rfl rfl ?_
    refine own_iloadN 17 Y2 dscmp3_16 rfl rfl ?_
    refine own_icT 57 Y2 dscmp3_17 (XT.ii_eq_t (by decide)) (by decide) ?_
    refine own_aloadN 58 Y2 dscmp3_57 rfl rfl rfl ?_
    exact own_retA Y2 rfl rfl rfl dscmp3_58 (by decide) (by decide) ⟨d, k_d, rfl, gk_d, Kp, N, Or.inl ⟨hc0, hc1, hc2, hc3, V_d⟩⟩
  · show own_G p e below _ (T2.setTop (mkF m 12 #[.val (.ref b), .val (.int (0 : Int32)), .val (.int (4 : Int32)), .val (.ref d), .unset, .unset] [(.int (0 : Int32))]))
    refine own_istore 14 Y2 #[.val (.ref b), .val (.int (0 : Int32)), .val (.int (4 : Int32)), .val (.ref d), .val (.int (0 : Int32)), .unset] dscmp3_12 rfl rfl ?_
    refine own_iload 16 Y2 dscmp3_14 rfl rfl ?_
    refine own_iloadN 17 Y2 dscmp3_16 rfl rfl ?_
    refine own_icF 20 Y2 dscmp3_17 (XT.ii_eq_f (by decide)) rfl ?_
    refine own_aloadN 21 Y2 dscmp3_20 rfl rfl rfl ?_
    refine own_iloadN 22 Y2 dscmp3_21 rfl rfl ?_
    refine own_iloadN 23 Y2 dscmp3_22 rfl rfl ?_
    refine own_callS 26 Y2 [(.ref b), (.int (0 : Int32)), (.int (4 : Int32))] [] (own_wd hw 78 rfl) (own_wd hw 79 rfl) (own_wd hw 41 rfl) (own_wd hw 80 rfl) (c_tob_4 l Z a0 hw b kb c0 c1 c2 c3 hn0 hn1 hn2 hn3 z fm _ n0 O WS Zs V_b) dscmp3_23 (by decide) (lenOf pdstob rfl) rfl rfl (by decide) (Nat.le_of_ble_eq_true rfl) (by decide) (by decide) rfl fun v3 T3 h3 L3 Y3 hQ3 => ?_
    obtain ⟨u, ku, rfl, gu, K3, N3, V_u⟩ := hQ3
    have gk_u := Nat.le_trans Kp.1 gu
    have V_b := V_b.keep K3 nin0
    have Kp := Kp.trans K3 all0
    have N := N.app N3
    have Zs := Nat.le_trans Zs K3.1
    have O := O.keep K3 all0
    show own_G p e below _ (T3.setTop (mkF m 26 #[.val (.ref b), .val (.int (0 : Int32)), .val (.int (4 : Int32)), .val (.ref d), .val (.int (0 : Int32)), .unset] [(.ref u)]))
    refine own_astore 28 Y3 #[.val (.ref b), .val (.int (0 : Int32)), .val (.int (4 : Int32)), .val (.ref d), .val (.int (0 : Int32)), .val (.ref u)] dscmp3_26 rfl rfl rfl ?_
    refine own_aload 30 Y3 dscmp3_28 rfl rfl rfl ?_
    refine own_iload 32 Y3 dscmp3_30 rfl rfl ?_
    refine own_callS 35 Y3 [(.ref u), (.int (0 : Int32))] [] (own_wd hw 94 rfl) (own_wd hw 95 rfl) (own_wd hw 41 rfl) (own_wd hw 96 rfl) (c_getc l Z a0 hw (0 : Int32) _ _ c0 u ku _ _ z fm _ n0 O WS V_u ⟨by decide, by decide⟩ rfl ⟨by decide, by decide⟩ rfl (own_u16 hn0)) dscmp3_32 (by decide) (lenOf pdsgetc rfl) rfl rfl (by decide) (Nat.le_of_ble_eq_true rfl) (by decide) (by decide) rfl fun v4 T4 h4 L4 Y4 hQ4 => ?_
    obtain ⟨rfl, rfl, rfl⟩ := hQ4
    have N := N.app (Fr.nil n0)
    show own_G p e below _ (T4.setTop (mkF m 35 #[.val (.ref b), .val (.int (0 : Int32)), .val (.int (4 : Int32)), .val (.ref d), .val (.int (0 : Int32)), .val (.ref u)] [(.int c0)]))
    refine own_sipush 38 Y4 (255 : Int32) dscmp3_35 rfl rfl ?_
    refine own_icT 54 Y4 dscmp3_38 (XT.ii_gt_t hwd) (by decide) ?_
    refine own_aload 56 Y4 dscmp3_54 rfl rfl rfl ?_
    exact own_retA Y4 rfl rfl rfl dscmp3_56 (by decide) (by decide) ⟨u, ku, rfl, gk_u, Kp, N, Or.inr V_u⟩
  · show own_G p e below _ (T2.setTop (mkF m 12 #[.val (.ref b), .val (.int (0 : Int32)), .val (.int (4 : Int32)), .val (.ref d), .unset, .unset] [(.int (1 : Int32))]))
    refine own_istore 14 Y2 #[.val (.ref b), .val (.int (0 : Int32)), .val (.int (4 : Int32)), .val (.ref d), .val (.int (1 : Int32)), .unset] dscmp3_12 rfl rfl ?_
    refine own_iload 16 Y2 dscmp3_14 rfl rfl ?_
    refine own_iloadN 17 Y2 dscmp3_16 rfl rfl ?_
    refine own_icF 20 Y2 dscmp3_17 (XT.ii_eq_f (by decide)) rfl ?_
    refine own_aloadN 21 Y2 dscmp3_20 rfl rfl rfl ?_
    refine own_iloadN 22 Y2 dscmp3_21 rfl rfl ?_
    refine own_iloadN 23 Y2 dscmp3_22 rfl rfl ?_
    refine own_callS 26 Y2 [(.ref b), (.int (0 : Int32)), (.int (4 : Int32))] [] (own_wd hw 78 rfl) (own_wd hw 79 rfl) (own_wd hw 41 rfl) (own_wd hw 80 rfl) (c_tob_4 l Z a0 hw b kb c0 c1 c2 c3 hn0 hn1 hn2 hn3 z fm _ n0 O WS Zs V_b) dscmp3_23 (by decide) (lenOf pdstob rfl) rfl rfl (by decide) (Nat.le_of_ble_eq_true rfl) (by decide) (by decide) rfl fun v5 T5 h5 L5 Y5 hQ5 => ?_
    obtain ⟨u, ku, rfl, gu, K5, N5, V_u⟩ := hQ5
    have gk_u := Nat.le_trans Kp.1 gu
    have V_b := V_b.keep K5 nin0
    have Kp := Kp.trans K5 all0
    have N := N.app N5
    have Zs := Nat.le_trans Zs K5.1
    have O := O.keep K5 all0
    show own_G p e below _ (T5.setTop (mkF m 26 #[.val (.ref b), .val (.int (0 : Int32)), .val (.int (4 : Int32)), .val (.ref d), .val (.int (1 : Int32)), .unset] [(.ref u)]))
    refine own_astore 28 Y5 #[.val (.ref b), .val (.int (0 : Int32)), .val (.int (4 : Int32)), .val (.ref d), .val (.int (1 : Int32)), .val (.ref u)] dscmp3_26 rfl rfl rfl ?_
    refine own_aload 30 Y5 dscmp3_28 rfl rfl rfl ?_
    refine own_iload 32 Y5 dscmp3_30 rfl rfl ?_
    refine own_callS 35 Y5 [(.ref u), (.int (1 : Int32))] [] (own_wd hw 94 rfl) (own_wd hw 95 rfl) (own_wd hw 41 rfl) (own_wd hw 96 rfl) (c_getc l Z a0 hw (1 : Int32) _ _ c1 u ku _ _ z fm _ n0 O WS V_u ⟨by decide, by decide⟩ rfl ⟨by decide, by decide⟩ rfl (own_u16 hn1)) dscmp3_32 (by decide) (lenOf pdsgetc rfl) rfl rfl (by decide) (Nat.le_of_ble_eq_true rfl) (by decide) (by decide) rfl fun v6 T6 h6 L6 Y6 hQ6 => ?_
    obtain ⟨rfl, rfl, rfl⟩ := hQ6
    have N := N.app (Fr.nil n0)
    show own_G p e below _ (T6.setTop (mkF m 35 #[.val (.ref b), .val (.int (0 : Int32)), .val (.int (4 : Int32)), .val (.ref d), .val (.int (1 : Int32)), .val (.ref u)] [(.int c1)]))
    refine own_sipush 38 Y6 (255 : Int32) dscmp3_35 rfl rfl ?_
    refine own_icT 54 Y6 dscmp3_38 (XT.ii_gt_t hwd) (by decide) ?_
    refine own_aload 56 Y6 dscmp3_54 rfl rfl rfl ?_
    exact own_retA Y6 rfl rfl rfl dscmp3_56 (by decide) (by decide) ⟨u, ku, rfl, gk_u, Kp, N, Or.inr V_u⟩
  · show own_G p e below _ (T2.setTop (mkF m 12 #[.val (.ref b), .val (.int (0 : Int32)), .val (.int (4 : Int32)), .val (.ref d), .unset, .unset] [(.int (2 : Int32))]))
    refine own_istore 14 Y2 #[.val (.ref b), .val (.int (0 : Int32)), .val (.int (4 : Int32)), .val (.ref d), .val (.int (2 : Int32)), .unset] dscmp3_12 rfl rfl ?_
    refine own_iload 16 Y2 dscmp3_14 rfl rfl ?_
    refine own_iloadN 17 Y2 dscmp3_16 rfl rfl ?_
    refine own_icF 20 Y2 dscmp3_17 (XT.ii_eq_f (by decide)) rfl ?_
    refine own_aloadN 21 Y2 dscmp3_20 rfl rfl rfl ?_
    refine own_iloadN 22 Y2 dscmp3_21 rfl rfl ?_
    refine own_iloadN 23 Y2 dscmp3_22 rfl rfl ?_
    refine own_callS 26 Y2 [(.ref b), (.int (0 : Int32)), (.int (4 : Int32))] [] (own_wd hw 78 rfl) (own_wd hw 79 rfl) (own_wd hw 41 rfl) (own_wd hw 80 rfl) (c_tob_4 l Z a0 hw b kb c0 c1 c2 c3 hn0 hn1 hn2 hn3 z fm _ n0 O WS Zs V_b) dscmp3_23 (by decide) (lenOf pdstob rfl) rfl rfl (by decide) (Nat.le_of_ble_eq_true rfl) (by decide) (by decide) rfl fun v7 T7 h7 L7 Y7 hQ7 => ?_
    obtain ⟨u, ku, rfl, gu, K7, N7, V_u⟩ := hQ7
    have gk_u := Nat.le_trans Kp.1 gu
    have V_b := V_b.keep K7 nin0
    have Kp := Kp.trans K7 all0
    have N := N.app N7
    have Zs := Nat.le_trans Zs K7.1
    have O := O.keep K7 all0
    show own_G p e below _ (T7.setTop (mkF m 26 #[.val (.ref b), .val (.int (0 : Int32)), .val (.int (4 : Int32)), .val (.ref d), .val (.int (2 : Int32)), .unset] [(.ref u)]))
    refine own_astore 28 Y7 #[.val (.ref b), .val (.int (0 : Int32)), .val (.int (4 : Int32)), .val (.ref d), .val (.int (2 : Int32)), .val (.ref u)] dscmp3_26 rfl rfl rfl ?_
    refine own_aload 30 Y7 dscmp3_28 rfl rfl rfl ?_
    refine own_iload 32 Y7 dscmp3_30 rfl rfl ?_
    refine own_callS 35 Y7 [(.ref u), (.int (2 : Int32))] [] (own_wd hw 94 rfl) (own_wd hw 95 rfl) (own_wd hw 41 rfl) (own_wd hw 96 rfl) (c_getc l Z a0 hw (2 : Int32) _ _ c2 u ku _ _ z fm _ n0 O WS V_u ⟨by decide, by decide⟩ rfl ⟨by decide, by decide⟩ rfl (own_u16 hn2)) dscmp3_32 (by decide) (lenOf pdsgetc rfl) rfl rfl (by decide) (Nat.le_of_ble_eq_true rfl) (by decide) (by decide) rfl fun v8 T8 h8 L8 Y8 hQ8 => ?_
    obtain ⟨rfl, rfl, rfl⟩ := hQ8
    have N := N.app (Fr.nil n0)
    show own_G p e below _ (T8.setTop (mkF m 35 #[.val (.ref b), .val (.int (0 : Int32)), .val (.int (4 : Int32)), .val (.ref d), .val (.int (2 : Int32)), .val (.ref u)] [(.int c2)]))
    refine own_sipush 38 Y8 (255 : Int32) dscmp3_35 rfl rfl ?_
    refine own_icT 54 Y8 dscmp3_38 (XT.ii_gt_t hwd) (by decide) ?_
    refine own_aload 56 Y8 dscmp3_54 rfl rfl rfl ?_
    exact own_retA Y8 rfl rfl rfl dscmp3_56 (by decide) (by decide) ⟨u, ku, rfl, gk_u, Kp, N, Or.inr V_u⟩
  · show own_G p e below _ (T2.setTop (mkF m 12 #[.val (.ref b), .val (.int (0 : Int32)), .val (.int (4 : Int32)), .val (.ref d), .unset, .unset] [(.int (3 : Int32))]))
    refine own_istore 14 Y2 #[.val (.ref b), .val (.int (0 : Int32)), .val (.int (4 : Int32)), .val (.ref d), .val (.int (3 : Int32)), .unset] dscmp3_12 rfl rfl ?_
    refine own_iload 16 Y2 dscmp3_14 rfl rfl ?_
    refine own_iloadN 17 Y2 dscmp3_16 rfl rfl ?_
    refine own_icF 20 Y2 dscmp3_17 (XT.ii_eq_f (by decide)) rfl ?_
    refine own_aloadN 21 Y2 dscmp3_20 rfl rfl rfl ?_
    refine own_iloadN 22 Y2 dscmp3_21 rfl rfl ?_
    refine own_iloadN 23 Y2 dscmp3_22 rfl rfl ?_
    refine own_callS 26 Y2 [(.ref b), (.int (0 : Int32)), (.int (4 : Int32))] [] (own_wd hw 78 rfl) (own_wd hw 79 rfl) (own_wd hw 41 rfl) (own_wd hw 80 rfl) (c_tob_4 l Z a0 hw b kb c0 c1 c2 c3 hn0 hn1 hn2 hn3 z fm _ n0 O WS Zs V_b) dscmp3_23 (by decide) (lenOf pdstob rfl) rfl rfl (by decide) (Nat.le_of_ble_eq_true rfl) (by decide) (by decide) rfl fun v9 T9 h9 L9 Y9 hQ9 => ?_
    obtain ⟨u, ku, rfl, gu, K9, N9, V_u⟩ := hQ9
    have gk_u := Nat.le_trans Kp.1 gu
    have V_b := V_b.keep K9 nin0
    have Kp := Kp.trans K9 all0
    have N := N.app N9
    have Zs := Nat.le_trans Zs K9.1
    have O := O.keep K9 all0
    show own_G p e below _ (T9.setTop (mkF m 26 #[.val (.ref b), .val (.int (0 : Int32)), .val (.int (4 : Int32)), .val (.ref d), .val (.int (3 : Int32)), .unset] [(.ref u)]))
    refine own_astore 28 Y9 #[.val (.ref b), .val (.int (0 : Int32)), .val (.int (4 : Int32)), .val (.ref d), .val (.int (3 : Int32)), .val (.ref u)] dscmp3_26 rfl rfl rfl ?_
    refine own_aload 30 Y9 dscmp3_28 rfl rfl rfl ?_
    refine own_iload 32 Y9 dscmp3_30 rfl rfl ?_
    refine own_callS 35 Y9 [(.ref u), (.int (3 : Int32))] [] (own_wd hw 94 rfl) (own_wd hw 95 rfl) (own_wd hw 41 rfl) (own_wd hw 96 rfl) (c_getc l Z a0 hw (3 : Int32) _ _ c3 u ku _ _ z fm _ n0 O WS V_u ⟨by decide, by decide⟩ rfl ⟨by decide, by decide⟩ rfl (own_u16 hn3)) dscmp3_32 (by decide) (lenOf pdsgetc rfl) rfl rfl (by decide) (Nat.le_of_ble_eq_true rfl) (by decide) (by decide) rfl fun v10 T10 h10 L10 Y10 hQ10 => ?_
    obtain ⟨rfl, rfl, rfl⟩ := hQ10
    have N := N.app (Fr.nil n0)
    show own_G p e below _ (T10.setTop (mkF m 35 #[.val (.ref b), .val (.int (0 : Int32)), .val (.int (4 : Int32)), .val (.ref d), .val (.int (3 : Int32)), .val (.ref u)] [(.int c3)]))
    refine own_sipush 38 Y10 (255 : Int32) dscmp3_35 rfl rfl ?_
    refine own_icT 54 Y10 dscmp3_38 (XT.ii_gt_t hwd) (by decide) ?_
    refine own_aload 56 Y10 dscmp3_54 rfl rfl rfl ?_
    exact own_retA Y10 rfl rfl rfl dscmp3_56 (by decide) (by decide) ⟨u, ku, rfl, gk_u, Kp, N, Or.inr V_u⟩
set_option maxRecDepth 65536 in
set_option maxHeartbeats 4000000 in
theorem c_codlw_4_0 (l : Launch) (Z : State) (a0 : Array Value) (hw : ∀ d ∈ tables_1, d.before a0 Z = true) (d : Addr) (kd : ClassId) (vs : List Value) (h0 : Heap) (V_d : Arv Z h0 d kd .byte (4 : Int32) vs (.int (0 : Int32))) : own_M l (⟨"java/lang/StringUTF16", "coderFromArrayLen", "([BI)B"⟩ : MethodName) jdk_52_method_15_code 2 (some .byte) [] ({ frames := 0, cells := 0, slots := 0, locals := 0 } : Room) Z #[.ref d, .int (4 : Int32)] h0 (Qv (some (.int (0 : Int32))) h0) := by
  refine own_met plscodl (Lf := #[.val (.ref d), .val (.int (4 : Int32))]) (fun m => by first | (simp [entryFrame, mkF, argsToLocals, Value.category]; done) | rfl) ?_
  intro p e s m below meth c T Y
  refine own_iloadN 1 Y dscodl_0 rfl rfl ?_
  refine own_aloadN 2 Y dscodl_1 rfl rfl rfl ?_
  refine own_alen 3 Y V_d dscodl_2 rfl ?_
  refine own_isub 4 Y dscodl_3 rfl ?_
  show own_G p e below _ (State.setTop _ (mkF m 4 #[.val (.ref d), .val (.int (4 : Int32))] [(.int (0 : Int32))]))
  refine own_bipush 6 Y (31 : Int32) dscodl_4 rfl rfl ?_
  refine own_iushr 7 Y dscodl_6 rfl ?_
  refine own_i2b 8 Y dscodl_7 rfl ?_
  exact own_retN Y (t := .byte) rfl (by simp) dscodl_8 (by decide) (by decide) ⟨rfl, rfl, rfl⟩
set_option maxRecDepth 65536 in
set_option maxHeartbeats 4000000 in
theorem c_codlw_4_1 (l : Launch) (Z : State) (a0 : Array Value) (hw : ∀ d ∈ tables_1, d.before a0 Z = true) (d : Addr) (kd : ClassId) (vs : List Value) (h0 : Heap) (V_d : Arv Z h0 d kd .byte (8 : Int32) vs (.int (0 : Int32))) : own_M l (⟨"java/lang/StringUTF16", "coderFromArrayLen", "([BI)B"⟩ : MethodName) jdk_52_method_15_code 2 (some .byte) [] ({ frames := 0, cells := 0, slots := 0, locals := 0 } : Room) Z #[.ref d, .int (4 : Int32)] h0 (Qv (some (.int (1 : Int32))) h0) := by
  refine own_met plscodl (Lf := #[.val (.ref d), .val (.int (4 : Int32))]) (fun m => by first | (simp [entryFrame, mkF, argsToLocals, Value.category]; done) | rfl) ?_
  intro p e s m below meth c T Y
  refine own_iloadN 1 Y dscodl_0 rfl rfl ?_
  refine own_aloadN 2 Y dscodl_1 rfl rfl rfl ?_
  refine own_alen 3 Y V_d dscodl_2 rfl ?_
  refine own_isub 4 Y dscodl_3 rfl ?_
  show own_G p e below _ (State.setTop _ (mkF m 4 #[.val (.ref d), .val (.int (4 : Int32))] [(.int (-4 : Int32))]))
  refine own_bipush 6 Y (31 : Int32) dscodl_4 rfl rfl ?_
  refine own_iushr 7 Y dscodl_6 rfl ?_
  refine own_i2b 8 Y dscodl_7 rfl ?_
  exact own_retN Y (t := .byte) rfl (by simp) dscodl_8 (by decide) (by decide) ⟨rfl, rfl, rfl⟩
def Qneww_4 (Z : State) (a : Addr) (c0 c1 c2 c3 : Int32) (h0 : Heap) (n0 : Nat) (v : Option Value) (h : Heap) (L : List Loc) : Prop := v = none ∧ Keep h0 h [a] ∧ Fr n0 L ∧ Scont_4 Z h a c0 c1 c2 c3
set_option maxRecDepth 65536 in
set_option maxHeartbeats 4000000 in
theorem c_new4w_4 (l : Launch) (Z : State) (a0 : Array Value) (hw : ∀ d ∈ tables_1, d.before a0 Z = true) (a b : Addr) (kb : ClassId) (c0 c1 c2 c3 : Int32) (hn0 : nar .char c0 = c0) (hn1 : nar .char c1 = c1) (hn2 : nar .char c2 = c2) (hn3 : nar .char c3 = c3) (z : Int32) (fm : Value) (h0 : Heap) (n0 : Nat) (O : Old Z n0 h0) (WS : own_Ws Z z fm) (Zs : n0 ≤ h0.size) (ga : n0 ≤ a) (nab : a ≠ b) (u1 u2 : Value) (X_a : Exa Z h0 a "java/lang/String") (F_a_value : Fld Z h0 a "java/lang/String" "value" "[B" u1) (F_a_coder : Fld Z h0 a "java/lang/String" "coder" "B" u2) (V_b : Arv Z h0 b kb .char (4 : Int32) [(.int c0), (.int c1), (.int c2), (.int c3)] (.int (0 : Int32))) : own_M l (⟨"java/lang/String", "<init>", "([CIILjava/lang/Void;)V"⟩ : MethodName) jdk_42_method_149_code 6 none [] ({ frames := 4, cells := 2, slots := 12, locals := 57 } : Room) Z #[.ref a, .ref b, .int (0 : Int32), .int (4 : Int32), .null] h0 (Qneww_4 Z a c0 c1 c2 c3 h0 n0) := by
  refine own_met plsnew4 (Lf := #[.val (.ref a), .val (.ref b), .val (.int (0 : Int32)), .val (.int (4 : Int32)), .val .null, .unset]) (fun m => by first | (simp [entryFrame, mkF, argsToLocals, Value.category]; done) | rfl) ?_
  intro p e s m below meth c T Y
  have Kp := Keep.refl h0 [a]
  have N := Fr.nil n0
  refine own_aloadN 1 Y dsnew4_0 rfl rfl rfl ?_
  refine own_initO 4 Y (own_wd hw 13 rfl) (own_wd hw 14 rfl) (own_wd hw 15 rfl) dsnew4_1 rfl (by decide) (by decide) rfl fun T2 Y1 => ?_
  refine own_iloadN 5 Y1 dsnew4_4 rfl rfl ?_
  refine own_ifT 27 Y1 dsnew4_5 (XT.i0_ne_t (by decide)) (by decide) ?_
  refine own_getS 30 Y1 (host := "") (Or.inl (own_wd hw 38 rfl)) Via.refl (WS.1.ext O.2) dsnew4_27 rfl fun T4 Y3 => ?_
  refine own_ifF 33 Y3 dsnew4_30 (XT.i0_eq_f WS.2.1) rfl ?_
  refine own_aloadN 34 Y3 dsnew4_33 rfl rfl rfl ?_
  refine own_iloadN 35 Y3 dsnew4_34 rfl rfl ?_
  refine own_iloadN 36 Y3 dsnew4_35 rfl rfl ?_
  refine own_callS 39 Y3 [(.ref b), (.int (0 : Int32)), (.int (4 : Int32))] [] (own_wd hw 39 rfl) (own_wd hw 40 rfl) (own_wd hw 41 rfl) (own_wd hw 42 rfl) (c_cmp3w_4 l Z a0 hw b kb c0 c1 c2 c3 hn0 hn1 hn2 hn3 z fm _ n0 O WS Zs V_b) dsnew4_36 (by decide) (lenOf pdscmp3 rfl) rfl rfl (by decide) (Nat.le_of_ble_eq_true rfl) (by decide) (by decide) rfl fun v5 T5 h5 L5 Y5 hQ5 => ?_
  obtain ⟨d, kd, rfl, gk_d, K5, N5, D⟩ := hQ5
  have gn_d := Nat.le_trans Zs gk_d
  have ne_a_d : a ≠ d := Nat.ne_of_lt (Nat.lt_of_lt_of_le X_a.lt gk_d)
  have X_a := X_a.keep K5
  have F_a_value := F_a_value.keep K5 nin0
  have F_a_coder := F_a_coder.keep K5 nin0
  have V_b := V_b.keep K5 nin0
  have Kp := Kp.trans K5 all0
  have N := N.app N5
  have Zs := Nat.le_trans Zs K5.1
  have O := O.keep K5 all0
  rcases D with ⟨hc0, hc1, hc2, hc3, V_d⟩ | V_d
  · show own_G p e below _ (T5.setTop (mkF m 39 #[.val (.ref a), .val (.ref b), .val (.int (0 : Int32)), .val (.int (4 : Int32)), .val .null, .unset] [(.ref d)]))
    refine own_astore 41 Y5 #[.val (.ref a), .val (.ref b), .val (.int (0 : Int32)), .val (.int (4 : Int32)), .val .null, .val (.ref d)] dsnew4_39 rfl rfl rfl ?_
    refine own_aloadN 42 Y5 dsnew4_41 rfl rfl rfl ?_
    refine own_aload 44 Y5 dsnew4_42 rfl rfl rfl ?_
    refine own_iloadN 45 Y5 dsnew4_44 rfl rfl ?_
    refine own_callS 48 Y5 [(.ref d), (.int (4 : Int32))] [(.ref a)] (own_wd hw 46 rfl) (own_wd hw 47 rfl) (own_wd hw 41 rfl) (own_wd hw 48 rfl) (c_codlw_4_0 l Z a0 hw d kd _ _ V_d) dsnew4_45 (by decide) (lenOf pdscodl rfl) rfl rfl (by decide) (Nat.le_of_ble_eq_true rfl) (by decide) (by decide) rfl fun v6 T6 h6 L6 Y6 hQ6 => ?_
    obtain ⟨rfl, rfl, rfl⟩ := hQ6
    have N := N.app (Fr.nil n0)
    show own_G p e below _ (T6.setTop (mkF m 48 #[.val (.ref a), .val (.ref b), .val (.int (0 : Int32)), .val (.int (4 : Int32)), .val .null, .val (.ref d)] [(.int (0 : Int32)), (.ref a)]))
    refine own_putFN 51 Y6 (own_wd hw 23 rfl) Via.refl F_a_coder X_a (Or.inr ⟨(own_wd hw 19 rfl), rfl, rfl⟩) (own_wd hw 3 rfl) (ty := .byte) (v' := (.int (0 : Int32))) (by decide) rfl rfl dsnew4_48 rfl fun T7 h7 Y7 W7 => ?_
    have X_a := X_a.wr W7
    have F_a_value := F_a_value.other W7 (Or.inr (slot_ne (Or.inr (own_wd hw 18 rfl)) (Or.inr (own_wd hw 19 rfl)) (by decide) (t := (.array .byte)) (t' := .byte) (by decide) (by decide)))
    have F_a_coder := F_a_coder.same W7
    have V_b := V_b.other W7 (Ne.symm nab)
    have Kp := Kp.wr W7 (Or.inl (List.mem_of_getElem? (i := 0) rfl))
    have N := own_frY Y7 N ga
    have Zs := Nat.le_trans Zs (Nat.le_of_eq W7.size.symm)
    have O := O.wr W7 ga
    have V_d := V_d.other W7 (Ne.symm ne_a_d)
    refine own_aloadN 52 Y7 dsnew4_51 rfl rfl rfl ?_
    refine own_aload 54 Y7 dsnew4_52 rfl rfl rfl ?_
    refine own_putF 57 Y7 (host := "") (Or.inl (own_wd hw 22 rfl)) Via.refl F_a_value X_a (Or.inr ⟨(own_wd hw 18 rfl), rfl, rfl⟩) (own_wd hw 3 rfl) (ty := (.array .byte)) (by decide) rfl rfl dsnew4_54 rfl fun T8 h8 Y8 W8 => ?_
    have X_a := X_a.wr W8
    have F_a_value := F_a_value.same W8
    have F_a_coder := F_a_coder.other W8 (Or.inr (slot_ne (Or.inr (own_wd hw 19 rfl)) (Or.inr (own_wd hw 18 rfl)) (by decide) (t := .byte) (t' := (.array .byte)) (by decide) (by decide)))
    have V_b := V_b.other W8 (Ne.symm nab)
    have Kp := Kp.wr W8 (Or.inl (List.mem_of_getElem? (i := 0) rfl))
    have N := own_frY Y8 N ga
    have Zs := Nat.le_trans Zs (Nat.le_of_eq W8.size.symm)
    have O := O.wr W8 ga
    have V_d := V_d.other W8 (Ne.symm ne_a_d)
    exact own_retV Y8 rfl dsnew4_57 (by decide) (by decide) ⟨rfl, Kp, N, X_a, d, kd, F_a_value, Or.inl ⟨hc0, hc1, hc2, hc3, F_a_coder, V_d⟩⟩
  · show own_G p e below _ (T5.setTop (mkF m 39 #[.val (.ref a), .val (.ref b), .val (.int (0 : Int32)), .val (.int (4 : Int32)), .val .null, .unset] [(.ref d)]))
    refine own_astore 41 Y5 #[.val (.ref a), .val (.ref b), .val (.int (0 : Int32)), .val (.int (4 : Int32)), .val .null, .val (.ref d)] dsnew4_39 rfl rfl rfl ?_
    refine own_aloadN 42 Y5 dsnew4_41 rfl rfl rfl ?_
    refine own_aload 44 Y5 dsnew4_42 rfl rfl rfl ?_
    refine own_iloadN 45 Y5 dsnew4_44 rfl rfl ?_
    refine own_callS 48 Y5 [(.ref d), (.int (4 : Int32))] [(.ref a)] (own_wd hw 46 rfl) (own_wd hw 47 rfl) (own_wd hw 41 rfl) (own_wd hw 48 rfl) (c_codlw_4_1 l Z a0 hw d kd _ _ V_d) dsnew4_45 (by decide) (lenOf pdscodl rfl) rfl rfl (by decide) (Nat.le_of_ble_eq_true rfl) (by decide) (by decide) rfl fun v9 T9 h9 L9 Y9 hQ9 => ?_
    obtain ⟨rfl, rfl, rfl⟩ := hQ9
    have N := N.app (Fr.nil n0)
    show own_G p e below _ (T9.setTop (mkF m 48 #[.val (.ref a), .val (.ref b), .val (.int (0 : Int32)), .val (.int (4 : Int32)), .val .null, .val (.ref d)] [(.int (1 : Int32)), (.ref a)]))
    refine own_putFN 51 Y9 (own_wd hw 23 rfl) Via.refl F_a_coder X_a (Or.inr ⟨(own_wd hw 19 rfl), rfl, rfl⟩) (own_wd hw 3 rfl) (ty := .byte) (v' := (.int (1 : Int32))) (by decide) rfl rfl dsnew4_48 rfl fun T10 h10 Y10 W10 => ?_
    have X_a := X_a.wr W10
    have F_a_value := F_a_value.other W10 (Or.inr (slot_ne (Or.inr (own_wd hw 18 rfl)) (Or.inr (own_wd hw 19 rfl)) (by decide) (t := (.array .byte)) (t' := .byte) (by decide) (by decide)))
    have F_a_coder := F_a_coder.same W10
    have V_b := V_b.other W10 (Ne.symm nab)
    have Kp := Kp.wr W10 (Or.inl (List.mem_of_getElem? (i := 0) rfl))
    have N := own_frY Y10 N ga
    have Zs := Nat.le_trans Zs (Nat.le_of_eq W10.size.symm)
    have O := O.wr W10 ga
    have V_d := V_d.other W10 (Ne.symm ne_a_d)
    refine own_aloadN 52 Y10 dsnew4_51 rfl rfl rfl ?_
    refine own_aload 54 Y10 dsnew4_52 rfl rfl rfl ?_
    refine own_putF 57 Y10 (host := "") (Or.inl (own_wd hw 22 rfl)) Via.refl F_a_value X_a (Or.inr ⟨(own_wd hw 18 rfl), rfl, rfl⟩) (own_wd hw 3 rfl) (ty := (.array .byte)) (by decide) rfl rfl dsnew4_54 rfl fun T11 h11 Y11 W11 => ?_
    have X_a := X_a.wr W11
    have F_a_value := F_a_value.same W11
    have F_a_coder := F_a_coder.other W11 (Or.inr (slot_ne (Or.inr (own_wd hw 19 rfl)) (Or.inr (own_wd hw 18 rfl)) (by decide) (t := .byte) (t' := (.array .byte)) (by decide) (by decide)))
    have V_b := V_b.other W11 (Ne.symm nab)
    have Kp := Kp.wr W11 (Or.inl (List.mem_of_getElem? (i := 0) rfl))
    have N := own_frY Y11 N ga
    have Zs := Nat.le_trans Zs (Nat.le_of_eq W11.size.symm)
    have O := O.wr W11 ga
    have V_d := V_d.other W11 (Ne.symm ne_a_d)
    exact own_retV Y11 rfl dsnew4_57 (by decide) (by decide) ⟨rfl, Kp, N, X_a, d, kd, F_a_value, Or.inr ⟨F_a_coder, V_d⟩⟩
set_option maxRecDepth 65536 in
set_option maxHeartbeats 4000000 in
theorem c_new1w_4 (l : Launch) (Z : State) (a0 : Array Value) (hw : ∀ d ∈ tables_1, d.before a0 Z = true) (a b : Addr) (kb : ClassId) (c0 c1 c2 c3 : Int32) (hn0 : nar .char c0 = c0) (hn1 : nar .char c1 = c1) (hn2 : nar .char c2 = c2) (hn3 : nar .char c3 = c3) (z : Int32) (fm : Value) (h0 : Heap) (n0 : Nat) (O : Old Z n0 h0) (WS : own_Ws Z z fm) (Zs : n0 ≤ h0.size) (ga : n0 ≤ a) (nab : a ≠ b) (u1 u2 : Value) (X_a : Exa Z h0 a "java/lang/String") (F_a_value : Fld Z h0 a "java/lang/String" "value" "[B" u1) (F_a_coder : Fld Z h0 a "java/lang/String" "coder" "B" u2) (V_b : Arv Z h0 b kb .char (4 : Int32) [(.int c0), (.int c1), (.int c2), (.int c3)] (.int (0 : Int32))) : own_M l (⟨"java/lang/String", "<init>", "([C)V"⟩ : MethodName) jdk_42_method_3_code 2 none [] ({ frames := 5, cells := 2, slots := 12, locals := 74 } : Room) Z #[.ref a, .ref b] h0 (Qneww_4 Z a c0 c1 c2 c3 h0 n0) := by
  refine own_met plsnew1 (Lf := #[.val (.ref a), .val (.ref b)]) (fun m => by first | (simp [entryFrame, mkF, argsToLocals, Value.category]; done) | rfl) ?_
  intro p e s m below meth c T Y
  refine own_aloadN 1 Y dsnew1_0 rfl rfl rfl ?_
  refine own_aloadN 2 Y dsnew1_1 rfl rfl rfl ?_
  refine own_iconst 3 Y (0 : Int32) dsnew1_2 rfl rfl ?_
  refine own_aloadN 4 Y dsnew1_3 rfl rfl rfl ?_
  refine own_alen 5 Y V_b dsnew1_4 rfl ?_
  refine own_aconst_null 6 Y dsnew1_5 rfl ?_
  refine own_callI 9 Y [(.ref b), (.int (0 : Int32)), (.int (4 : Int32)), .null] [] rfl (own_wd hw 9 rfl) (own_wd hw 10 rfl) (own_wd hw 4 rfl) (own_wd hw 12 rfl) (c_new4w_4 l Z a0 hw a b kb c0 c1 c2 c3 hn0 hn1 hn2 hn3 z fm _ n0 O WS Zs ga nab _ _ X_a F_a_value F_a_coder V_b) dsnew1_6 (by decide) (lenOf pdsnew4 rfl) rfl rfl (by decide) (Nat.le_of_ble_eq_true rfl) (by decide) (by decide) rfl fun v1 T1 h1 L1 Y1 hQ1 => ?_
  obtain ⟨rfl, K1, N1, R1⟩ := hQ1
  have N := (Fr.nil n0).app N1
  show own_G p e below _ (T1.setTop (mkF m 9 #[.val (.ref a), .val (.ref b)] []))
  exact own_retV Y1 rfl dsnew1_9 (by decide) (by decide) ⟨rfl, K1, N, R1⟩
def atm (c : Int32) : Prop := (¬ c < 97 ∧ ¬ 122 < c) ∨ (¬ c < 65 ∧ ¬ 90 < c) ∨ (¬ c < 48 ∧ ¬ 57 < c) ∨ c = 45 ∨ c = 95
instance (c : Int32) : Decidable (atm c) := by unfold atm; infer_instance
theorem own_at46 {c : Int32} (h : c = 46) : ¬ atm c := by subst h; decide
theorem own_cls (c : Int32) : c = 46 ∨ (¬ c = 46 ∧ atm c) ∨ (¬ c = 46 ∧ ¬ atm c) := by
  by_cases h : c = 46
  · exact Or.inl h
  · by_cases k : atm c
    · exact Or.inr (Or.inl ⟨h, k⟩)
    · exact Or.inr (Or.inr ⟨h, k⟩)
set_option maxRecDepth 65536 in
set_option maxHeartbeats 4000000 in
theorem c_atc (l : Launch) (Z : State) (a0 : Array Value) (hw : ∀ d ∈ tables_1, d.before a0 Z = true) (cc : Int32) (h0 : Heap) : own_M l (⟨"com/example/vetted_hub/vettedhub/MTypeIsMTypePinLaw", "atomChar", "(C)Z"⟩ : MethodName) method_2_code 1 (some .boolean) [] ({ frames := 0, cells := 0, slots := 0, locals := 0 } : Room) Z #[.int cc] h0 (Qv (some (.int (if atm cc then (1 : Int32) else (0 : Int32)))) h0) := by
  refine own_met pl1 (Lf := #[.val (.int cc)]) (fun m => by first | (simp [entryFrame, mkF, argsToLocals, Value.category]; done) | rfl) ?_
  intro p e s m below meth c T Y
  refine own_iloadN 1 Y d1_0 rfl rfl ?_
  refine own_bipush 3 Y (97 : Int32) d1_1 rfl rfl ?_
  refine own_ic_lt 14 6 Y d1_3 (by decide) rfl (fun q3 => ?_) (fun q3 => ?_)
  · refine own_iloadN 15 Y d1_14 rfl rfl ?_
    refine own_bipush 17 Y (65 : Int32) d1_15 rfl rfl ?_
    refine own_ic_lt 28 20 Y d1_17 (by decide) rfl (fun q17 => ?_) (fun q17 => ?_)
    · refine own_iloadN 29 Y d1_28 rfl rfl ?_
      refine own_bipush 31 Y (48 : Int32) d1_29 rfl rfl ?_
      refine own_ic_lt 42 34 Y d1_31 (by decide) rfl (fun q31 => ?_) (fun q31 => ?_)
      · refine own_iloadN 43 Y d1_42 rfl rfl ?_
        refine own_bipush 45 Y (45 : Int32) d1_43 rfl rfl ?_
        refine own_ic_eq 54 48 Y d1_45 (by decide) rfl (fun q45 => ?_) (fun q45 => ?_)
        · refine own_iconst 55 Y (1 : Int32) d1_54 rfl rfl ?_
          refine own_goto 59 Y d1_55 (by decide) ?_
          exact own_retN Y (t := .boolean) rfl (by simp) d1_59 (by decide) (by decide) ⟨rfl, rfl, (congrArg (fun z => some (Value.int z)) (if_pos (Or.inr (Or.inr (Or.inr (Or.inl q45)))))).symm⟩
        · refine own_iloadN 49 Y d1_48 rfl rfl ?_
          refine own_bipush 51 Y (95 : Int32) d1_49 rfl rfl ?_
          refine own_ic_ne 58 54 Y d1_51 (by decide) rfl (fun q51 => ?_) (fun q51 => ?_)
          · refine own_iconst 59 Y (0 : Int32) d1_58 rfl rfl ?_
            exact own_retN Y (t := .boolean) rfl (by simp) d1_59 (by decide) (by decide) ⟨rfl, rfl, (congrArg (fun z => some (Value.int z)) (if_neg (fun z => z.elim (fun z => z.1 q3) (fun z => z.elim (fun z => z.1 q17) (fun z => z.elim (fun z => z.1 q31) (fun z => z.elim q45 q51)))))).symm⟩
          · refine own_iconst 55 Y (1 : Int32) d1_54 rfl rfl ?_
            refine own_goto 59 Y d1_55 (by decide) ?_
            exact own_retN Y (t := .boolean) rfl (by simp) d1_59 (by decide) (by decide) ⟨rfl, rfl, (congrArg (fun z => some (Value.int z)) (if_pos (Or.inr (Or.inr (Or.inr (Or.inr q51)))))).symm⟩
      · refine own_iloadN 35 Y d1_34 rfl rfl ?_
        refine own_bipush 37 Y (57 : Int32) d1_35 rfl rfl ?_
        refine own_ic_gt 42 40 Y d1_37 (by decide) rfl (fun q37 => ?_) (fun q37 => ?_)
        · refine own_iloadN 43 Y d1_42 rfl rfl ?_
          refine own_bipush 45 Y (45 : Int32) d1_43 rfl rfl ?_
          refine own_ic_eq 54 48 Y d1_45 (by decide) rfl (fun q45 => ?_) (fun q45 => ?_)
          · refine own_iconst 55 Y (1 : Int32) d1_54 rfl rfl ?_
            refine own_goto 59 Y d1_55 (by decide) ?_
            exact own_retN Y (t := .boolean) rfl (by simp) d1_59 (by decide) (by decide) ⟨rfl, rfl, (congrArg (fun z => some (Value.int z)) (if_pos (Or.inr (Or.inr (Or.inr (Or.inl q45)))))).symm⟩
          · refine own_iloadN 49 Y d1_48 rfl rfl ?_
            refine own_bipush 51 Y (95 : Int32) d1_49 rfl rfl ?_
            refine own_ic_ne 58 54 Y d1_51 (by decide) rfl (fun q51 => ?_) (fun q51 => ?_)
            · refine own_iconst 59 Y (0 : Int32) d1_58 rfl rfl ?_
              exact own_retN Y (t := .boolean) rfl (by simp) d1_59 (by decide) (by decide) ⟨rfl, rfl, (congrArg (fun z => some (Value.int z)) (if_neg (fun z => z.elim (fun z => z.1 q3) (fun z => z.elim (fun z => z.1 q17) (fun z => z.elim (fun z => z.2 q37) (fun z => z.elim q45 q51)))))).symm⟩
            · refine own_iconst 55 Y (1 : Int32) d1_54 rfl rfl ?_
              refine own_goto 59 Y d1_55 (by decide) ?_
              exact own_retN Y (t := .boolean) rfl (by simp) d1_59 (by decide) (by decide) ⟨rfl, rfl, (congrArg (fun z => some (Value.int z)) (if_pos (Or.inr (Or.inr (Or.inr (Or.inr q51)))))).symm⟩
        · refine own_iconst 41 Y (1 : Int32) d1_40 rfl rfl ?_
          exact own_retN Y (t := .boolean) rfl (by simp) d1_41 (by decide) (by decide) ⟨rfl, rfl, (congrArg (fun z => some (Value.int z)) (if_pos (Or.inr (Or.inr (Or.inl ⟨q31, q37⟩))))).symm⟩
    · refine own_iloadN 21 Y d1_20 rfl rfl ?_
      refine own_bipush 23 Y (90 : Int32) d1_21 rfl rfl ?_
      refine own_ic_gt 28 26 Y d1_23 (by decide) rfl (fun q23 => ?_) (fun q23 => ?_)
      · refine own_iloadN 29 Y d1_28 rfl rfl ?_
        refine own_bipush 31 Y (48 : Int32) d1_29 rfl rfl ?_
        refine own_ic_lt 42 34 Y d1_31 (by decide) rfl (fun q31 => ?_) (fun q31 => ?_)
        · refine own_iloadN 43 Y d1_42 rfl rfl ?_
          refine own_bipush 45 Y (45 : Int32) d1_43 rfl rfl ?_
          refine own_ic_eq 54 48 Y d1_45 (by decide) rfl (fun q45 => ?_) (fun q45 => ?_)
          · refine own_iconst 55 Y (1 : Int32) d1_54 rfl rfl ?_
            refine own_goto 59 Y d1_55 (by decide) ?_
            exact own_retN Y (t := .boolean) rfl (by simp) d1_59 (by decide) (by decide) ⟨rfl, rfl, (congrArg (fun z => some (Value.int z)) (if_pos (Or.inr (Or.inr (Or.inr (Or.inl q45)))))).symm⟩
          · refine own_iloadN 49 Y d1_48 rfl rfl ?_
            refine own_bipush 51 Y (95 : Int32) d1_49 rfl rfl ?_
            refine own_ic_ne 58 54 Y d1_51 (by decide) rfl (fun q51 => ?_) (fun q51 => ?_)
            · refine own_iconst 59 Y (0 : Int32) d1_58 rfl rfl ?_
              exact own_retN Y (t := .boolean) rfl (by simp) d1_59 (by decide) (by decide) ⟨rfl, rfl, (congrArg (fun z => some (Value.int z)) (if_neg (fun z => z.elim (fun z => z.1 q3) (fun z => z.elim (fun z => z.2 q23) (fun z => z.elim (fun z => z.1 q31) (fun z => z.elim q45 q51)))))).symm⟩
            · refine own_iconst 55 Y (1 : Int32) d1_54 rfl rfl ?_
              refine own_goto 59 Y d1_55 (by decide) ?_
              exact own_retN Y (t := .boolean) rfl (by simp) d1_59 (by decide) (by decide) ⟨rfl, rfl, (congrArg (fun z => some (Value.int z)) (if_pos (Or.inr (Or.inr (Or.inr (Or.inr q51)))))).symm⟩
        · refine own_iloadN 35 Y d1_34 rfl rfl ?_
          refine own_bipush 37 Y (57 : Int32) d1_35 rfl rfl ?_
          refine own_ic_gt 42 40 Y d1_37 (by decide) rfl (fun q37 => ?_) (fun q37 => ?_)
          · refine own_iloadN 43 Y d1_42 rfl rfl ?_
            refine own_bipush 45 Y (45 : Int32) d1_43 rfl rfl ?_
            refine own_ic_eq 54 48 Y d1_45 (by decide) rfl (fun q45 => ?_) (fun q45 => ?_)
            · refine own_iconst 55 Y (1 : Int32) d1_54 rfl rfl ?_
              refine own_goto 59 Y d1_55 (by decide) ?_
              exact own_retN Y (t := .boolean) rfl (by simp) d1_59 (by decide) (by decide) ⟨rfl, rfl, (congrArg (fun z => some (Value.int z)) (if_pos (Or.inr (Or.inr (Or.inr (Or.inl q45)))))).symm⟩
            · refine own_iloadN 49 Y d1_48 rfl rfl ?_
              refine own_bipush 51 Y (95 : Int32) d1_49 rfl rfl ?_
              refine own_ic_ne 58 54 Y d1_51 (by decide) rfl (fun q51 => ?_) (fun q51 => ?_)
              · refine own_iconst 59 Y (0 : Int32) d1_58 rfl rfl ?_
                exact own_retN Y (t := .boolean) rfl (by simp) d1_59 (by decide) (by decide) ⟨rfl, rfl, (congrArg (fun z => some (Value.int z)) (if_neg (fun z => z.elim (fun z => z.1 q3) (fun z => z.elim (fun z => z.2 q23) (fun z => z.elim (fun z => z.2 q37) (fun z => z.elim q45 q51)))))).symm⟩
              · refine own_iconst 55 Y (1 : Int32) d1_54 rfl rfl ?_
                refine own_goto 59 Y d1_55 (by decide) ?_
                exact own_retN Y (t := .boolean) rfl (by simp) d1_59 (by decide) (by decide) ⟨rfl, rfl, (congrArg (fun z => some (Value.int z)) (if_pos (Or.inr (Or.inr (Or.inr (Or.inr q51)))))).symm⟩
          · refine own_iconst 41 Y (1 : Int32) d1_40 rfl rfl ?_
            exact own_retN Y (t := .boolean) rfl (by simp) d1_41 (by decide) (by decide) ⟨rfl, rfl, (congrArg (fun z => some (Value.int z)) (if_pos (Or.inr (Or.inr (Or.inl ⟨q31, q37⟩))))).symm⟩
      · refine own_iconst 27 Y (1 : Int32) d1_26 rfl rfl ?_
        exact own_retN Y (t := .boolean) rfl (by simp) d1_27 (by decide) (by decide) ⟨rfl, rfl, (congrArg (fun z => some (Value.int z)) (if_pos (Or.inr (Or.inl ⟨q17, q23⟩)))).symm⟩
  · refine own_iloadN 7 Y d1_6 rfl rfl ?_
    refine own_bipush 9 Y (122 : Int32) d1_7 rfl rfl ?_
    refine own_ic_gt 14 12 Y d1_9 (by decide) rfl (fun q9 => ?_) (fun q9 => ?_)
    · refine own_iloadN 15 Y d1_14 rfl rfl ?_
      refine own_bipush 17 Y (65 : Int32) d1_15 rfl rfl ?_
      refine own_ic_lt 28 20 Y d1_17 (by decide) rfl (fun q17 => ?_) (fun q17 => ?_)
      · refine own_iloadN 29 Y d1_28 rfl rfl ?_
        refine own_bipush 31 Y (48 : Int32) d1_29 rfl rfl ?_
        refine own_ic_lt 42 34 Y d1_31 (by decide) rfl (fun q31 => ?_) (fun q31 => ?_)
        · refine own_iloadN 43 Y d1_42 rfl rfl ?_
          refine own_bipush 45 Y (45 : Int32) d1_43 rfl rfl ?_
          refine own_ic_eq 54 48 Y d1_45 (by decide) rfl (fun q45 => ?_) (fun q45 => ?_)
          · refine own_iconst 55 Y (1 : Int32) d1_54 rfl rfl ?_
            refine own_goto 59 Y d1_55 (by decide) ?_
            exact own_retN Y (t := .boolean) rfl (by simp) d1_59 (by decide) (by decide) ⟨rfl, rfl, (congrArg (fun z => some (Value.int z)) (if_pos (Or.inr (Or.inr (Or.inr (Or.inl q45)))))).symm⟩
          · refine own_iloadN 49 Y d1_48 rfl rfl ?_
            refine own_bipush 51 Y (95 : Int32) d1_49 rfl rfl ?_
            refine own_ic_ne 58 54 Y d1_51 (by decide) rfl (fun q51 => ?_) (fun q51 => ?_)
            · refine own_iconst 59 Y (0 : Int32) d1_58 rfl rfl ?_
              exact own_retN Y (t := .boolean) rfl (by simp) d1_59 (by decide) (by decide) ⟨rfl, rfl, (congrArg (fun z => some (Value.int z)) (if_neg (fun z => z.elim (fun z => z.2 q9) (fun z => z.elim (fun z => z.1 q17) (fun z => z.elim (fun z => z.1 q31) (fun z => z.elim q45 q51)))))).symm⟩
            · refine own_iconst 55 Y (1 : Int32) d1_54 rfl rfl ?_
              refine own_goto 59 Y d1_55 (by decide) ?_
              exact own_retN Y (t := .boolean) rfl (by simp) d1_59 (by decide) (by decide) ⟨rfl, rfl, (congrArg (fun z => some (Value.int z)) (if_pos (Or.inr (Or.inr (Or.inr (Or.inr q51)))))).symm⟩
        · refine own_iloadN 35 Y d1_34 rfl rfl ?_
          refine own_bipush 37 Y (57 : Int32) d1_35 rfl rfl ?_
          refine own_ic_gt 42 40 Y d1_37 (by decide) rfl (fun q37 => ?_) (fun q37 => ?_)
          · refine own_iloadN 43 Y d1_42 rfl rfl ?_
            refine own_bipush 45 Y (45 : Int32) d1_43 rfl rfl ?_
            refine own_ic_eq 54 48 Y d1_45 (by decide) rfl (fun q45 => ?_) (fun q45 => ?_)
            · refine own_iconst 55 Y (1 : Int32) d1_54 rfl rfl ?_
              refine own_goto 59 Y d1_55 (by decide) ?_
              exact own_retN Y (t := .boolean) rfl (by simp) d1_59 (by decide) (by decide) ⟨rfl, rfl, (congrArg (fun z => some (Value.int z)) (if_pos (Or.inr (Or.inr (Or.inr (Or.inl q45)))))).symm⟩
            · refine own_iloadN 49 Y d1_48 rfl rfl ?_
              refine own_bipush 51 Y (95 : Int32) d1_49 rfl rfl ?_
              refine own_ic_ne 58 54 Y d1_51 (by decide) rfl (fun q51 => ?_) (fun q51 => ?_)
              · refine own_iconst 59 Y (0 : Int32) d1_58 rfl rfl ?_
                exact own_retN Y (t := .boolean) rfl (by simp) d1_59 (by decide) (by decide) ⟨rfl, rfl, (congrArg (fun z => some (Value.int z)) (if_neg (fun z => z.elim (fun z => z.2 q9) (fun z => z.elim (fun z => z.1 q17) (fun z => z.elim (fun z => z.2 q37) (fun z => z.elim q45 q51)))))).symm⟩
              · refine own_iconst 55 Y (1 : Int32) d1_54 rfl rfl ?_
                refine own_goto 59 Y d1_55 (by decide) ?_
                exact own_retN Y (t := .boolean) rfl (by simp) d1_59 (by decide) (by decide) ⟨rfl, rfl, (congrArg (fun z => some (Value.int z)) (if_pos (Or.inr (Or.inr (Or.inr (Or.inr q51)))))).symm⟩
          · refine own_iconst 41 Y (1 : Int32) d1_40 rfl rfl ?_
            exact own_retN Y (t := .boolean) rfl (by simp) d1_41 (by decide) (by decide) ⟨rfl, rfl, (congrArg (fun z => some (Value.int z)) (if_pos (Or.inr (Or.inr (Or.inl ⟨q31, q37⟩))))).symm⟩
      · refine own_iloadN 21 Y d1_20 rfl rfl ?_
        refine own_bipush 23 Y (90 : Int32) d1_21 rfl rfl ?_
        refine own_ic_gt 28 26 Y d1_23 (by decide) rfl (fun q23 => ?_) (fun q23 => ?_)
        · refine own_iloadN 29 Y d1_28 rfl rfl ?_
          refine own_bipush 31 Y (48 : Int32) d1_29 rfl rfl ?_
          refine own_ic_lt 42 34 Y d1_31 (by decide) rfl (fun q31 => ?_) (fun q31 => ?_)
          · refine own_iloadN 43 Y d1_42 rfl rfl ?_
            refine own_bipush 45 Y (45 : Int32) d1_43 rfl rfl ?_
            refine own_ic_eq 54 48 Y d1_45 (by decide) rfl (fun q45 => ?_) (fun q45 => ?_)
            · refine own_iconst 55 Y (1 : Int32) d1_54 rfl rfl ?_
              refine own_goto 59 Y d1_55 (by decide) ?_
              exact own_retN Y (t := .boolean) rfl (by simp) d1_59 (by decide) (by decide) ⟨rfl, rfl, (congrArg (fun z => some (Value.int z)) (if_pos (Or.inr (Or.inr (Or.inr (Or.inl q45)))))).symm⟩
            · refine own_iloadN 49 Y d1_48 rfl rfl ?_
              refine own_bipush 51 Y (95 : Int32) d1_49 rfl rfl ?_
              refine own_ic_ne 58 54 Y d1_51 (by decide) rfl (fun q51 => ?_) (fun q51 => ?_)
              · refine own_iconst 59 Y (0 : Int32) d1_58 rfl rfl ?_
                exact own_retN Y (t := .boolean) rfl (by simp) d1_59 (by decide) (by decide) ⟨rfl, rfl, (congrArg (fun z => some (Value.int z)) (if_neg (fun z => z.elim (fun z => z.2 q9) (fun z => z.elim (fun z => z.2 q23) (fun z => z.elim (fun z => z.1 q31) (fun z => z.elim q45 q51)))))).symm⟩
              · refine own_iconst 55 Y (1 : Int32) d1_54 rfl rfl ?_
                refine own_goto 59 Y d1_55 (by decide) ?_
                exact own_retN Y (t := .boolean) rfl (by simp) d1_59 (by decide) (by decide) ⟨rfl, rfl, (congrArg (fun z => some (Value.int z)) (if_pos (Or.inr (Or.inr (Or.inr (Or.inr q51)))))).symm⟩
          · refine own_iloadN 35 Y d1_34 rfl rfl ?_
            refine own_bipush 37 Y (57 : Int32) d1_35 rfl rfl ?_
            refine own_ic_gt 42 40 Y d1_37 (by decide) rfl (fun q37 => ?_) (fun q37 => ?_)
            · refine own_iloadN 43 Y d1_42 rfl rfl ?_
              refine own_bipush 45 Y (45 : Int32) d1_43 rfl rfl ?_
              refine own_ic_eq 54 48 Y d1_45 (by decide) rfl (fun q45 => ?_) (fun q45 => ?_)
              · refine own_iconst 55 Y (1 : Int32) d1_54 rfl rfl ?_
                refine own_goto 59 Y d1_55 (by decide) ?_
                exact own_retN Y (t := .boolean) rfl (by simp) d1_59 (by decide) (by decide) ⟨rfl, rfl, (congrArg (fun z => some (Value.int z)) (if_pos (Or.inr (Or.inr (Or.inr (Or.inl q45)))))).symm⟩
              · refine own_iloadN 49 Y d1_48 rfl rfl ?_
                refine own_bipush 51 Y (95 : Int32) d1_49 rfl rfl ?_
                refine own_ic_ne 58 54 Y d1_51 (by decide) rfl (fun q51 => ?_) (fun q51 => ?_)
                · refine own_iconst 59 Y (0 : Int32) d1_58 rfl rfl ?_
                  exact own_retN Y (t := .boolean) rfl (by simp) d1_59 (by decide) (by decide) ⟨rfl, rfl, (congrArg (fun z => some (Value.int z)) (if_neg (fun z => z.elim (fun z => z.2 q9) (fun z => z.elim (fun z => z.2 q23) (fun z => z.elim (fun z => z.2 q37) (fun z => z.elim q45 q51)))))).symm⟩
                · refine own_iconst 55 Y (1 : Int32) d1_54 rfl rfl ?_
                  refine own_goto 59 Y d1_55 (by decide) ?_
                  exact own_retN Y (t := .boolean) rfl (by simp) d1_59 (by decide) (by decide) ⟨rfl, rfl, (congrArg (fun z => some (Value.int z)) (if_pos (Or.inr (Or.inr (Or.inr (Or.inr q51)))))).symm⟩
            · refine own_iconst 41 Y (1 : Int32) d1_40 rfl rfl ?_
              exact own_retN Y (t := .boolean) rfl (by simp) d1_41 (by decide) (by decide) ⟨rfl, rfl, (congrArg (fun z => some (Value.int z)) (if_pos (Or.inr (Or.inr (Or.inl ⟨q31, q37⟩))))).symm⟩
        · refine own_iconst 27 Y (1 : Int32) d1_26 rfl rfl ?_
          exact own_retN Y (t := .boolean) rfl (by simp) d1_27 (by decide) (by decide) ⟨rfl, rfl, (congrArg (fun z => some (Value.int z)) (if_pos (Or.inr (Or.inl ⟨q17, q23⟩)))).symm⟩
    · refine own_iconst 13 Y (1 : Int32) d1_12 rfl rfl ?_
      exact own_retN Y (t := .boolean) rfl (by simp) d1_13 (by decide) (by decide) ⟨rfl, rfl, (congrArg (fun z => some (Value.int z)) (if_pos (Or.inl ⟨q3, q9⟩))).symm⟩
set_option maxRecDepth 65536 in
set_option maxHeartbeats 4000000 in
theorem c_leg (l : Launch) (Z : State) (a0 : Array Value) (hw : ∀ d ∈ tables_1, d.before a0 Z = true) (cc : Int32) (h0 : Heap) : own_M l (⟨"com/example/vetted_hub/vettedhub/MTypeIsMTypePinLaw", "legal", "(C)Z"⟩ : MethodName) method_3_code 1 (some .boolean) [] ({ frames := 1, cells := 0, slots := 0, locals := 12 } : Room) Z #[.int cc] h0 (Qv (some (.int (if cc = 46 ∨ atm cc then (1 : Int32) else (0 : Int32)))) h0) := by
  refine own_met pl2 (Lf := #[.val (.int cc)]) (fun m => by first | (simp [entryFrame, mkF, argsToLocals, Value.category]; done) | rfl) ?_
  intro p e s m below meth c T Y
  refine own_iloadN 1 Y d2_0 rfl rfl ?_
  refine own_bipush 3 Y (46 : Int32) d2_1 rfl rfl ?_
  refine own_ic_eq 13 6 Y d2_3 (by decide) rfl (fun q3 => ?_) (fun q3 => ?_)
  · refine own_iconst 14 Y (1 : Int32) d2_13 rfl rfl ?_
    refine own_goto 18 Y d2_14 (by decide) ?_
    exact own_retN Y (t := .boolean) rfl (by simp) d2_18 (by decide) (by decide) ⟨rfl, rfl, (congrArg (fun z => some (Value.int z)) (if_pos (Or.inl q3))).symm⟩
  · refine own_iloadN 7 Y d2_6 rfl rfl ?_
    refine own_callS 10 Y [(.int cc)] [] (own_wd hw 75 rfl) (own_wd hw 76 rfl) (own_wd hw 73 rfl) (own_wd hw 77 rfl) (c_atc l Z a0 hw cc _) d2_7 (by decide) (lenOf pd1 rfl) rfl rfl (by decide) (Nat.le_of_ble_eq_true rfl) (by decide) (by decide) rfl fun v1 T1 h1 L1 Y1 hQ1 => ?_
    obtain ⟨rfl, rfl, rfl⟩ := hQ1
    by_cases t_a : atm cc
    · rw [if_pos t_a]
      show own_G p e below _ (T1.setTop (mkF m 10 #[.val (.int cc)] [(.int (1 : Int32))]))
      refine own_ifF 13 Y1 d2_10 (XT.i0_eq_f (by decide)) rfl ?_
      refine own_iconst 14 Y1 (1 : Int32) d2_13 rfl rfl ?_
      refine own_goto 18 Y1 d2_14 (by decide) ?_
      exact own_retN Y1 (t := .boolean) rfl (by simp) d2_18 (by decide) (by decide) ⟨rfl, rfl, (congrArg (fun z => some (Value.int z)) (if_pos (Or.inr t_a))).symm⟩
    · rw [if_neg t_a]
      show own_G p e below _ (T1.setTop (mkF m 10 #[.val (.int cc)] [(.int (0 : Int32))]))
      refine own_ifT 17 Y1 d2_10 (XT.i0_eq_t (by decide)) (by decide) ?_
      refine own_iconst 18 Y1 (0 : Int32) d2_17 rfl rfl ?_
      exact own_retN Y1 (t := .boolean) rfl (by simp) d2_18 (by decide) (by decide) ⟨rfl, rfl, (congrArg (fun z => some (Value.int z)) (if_neg (fun z => z.elim q3 t_a))).symm⟩
set_option maxRecDepth 65536 in
set_option maxHeartbeats 4000000 in
theorem own_seg {p : Program} {l : Launch} {e : Env} {R : Room} {s : State} {m : MethodId} {args : Array Value} {below : List Frame} {meth : Method} {c : Code} {T : State} {locs : List Loc} {cells slots : Nat} {Z : State} {h : Heap} {E : Outcome → State → Prop} {a0 : Array Value} (hw : ∀ d ∈ tables_1, d.before a0 Z = true) (a : Addr) (r i cc : Int32) (Y : own_S Z (⟨"com/example/vetted_hub/vettedhub/MType", "isMType", "(Ljava/lang/String;)Z"⟩ : MethodName) prog_18_method_2_code 4 (some .boolean) p l e R s m args below meth c T h locs cells slots) (KT : atm cc → own_G p e below E (T.setTop (mkF m 81 #[.val (.ref a), .val (.int r), .val (.int i), .val (.int cc)] []))) (KF : ¬ atm cc → own_G p e below E (T.setTop (mkF m 86 #[.val (.ref a), .val (.int r), .val (.int i), .val (.int cc)] []))) : own_G p e below E (T.setTop (mkF m 33 #[.val (.ref a), .val (.int r), .val (.int i), .val (.int cc)] [])) := by
  refine own_iloadN 34 Y d3_33 rfl rfl ?_
  refine own_bipush 36 Y (97 : Int32) d3_34 rfl rfl ?_
  refine own_ic_lt 45 39 Y d3_36 (by decide) rfl (fun q36 => ?_) (fun q36 => ?_)
  · refine own_iloadN 46 Y d3_45 rfl rfl ?_
    refine own_bipush 48 Y (65 : Int32) d3_46 rfl rfl ?_
    refine own_ic_lt 57 51 Y d3_48 (by decide) rfl (fun q48 => ?_) (fun q48 => ?_)
    · refine own_iloadN 58 Y d3_57 rfl rfl ?_
      refine own_bipush 60 Y (48 : Int32) d3_58 rfl rfl ?_
      refine own_ic_lt 69 63 Y d3_60 (by decide) rfl (fun q60 => ?_) (fun q60 => ?_)
      · refine own_iloadN 70 Y d3_69 rfl rfl ?_
        refine own_bipush 72 Y (45 : Int32) d3_70 rfl rfl ?_
        refine own_ic_eq 81 75 Y d3_72 (by decide) rfl (fun q72 => ?_) (fun q72 => ?_)
        · exact KT (Or.inr (Or.inr (Or.inr (Or.inl q72))))
        · refine own_iloadN 76 Y d3_75 rfl rfl ?_
          refine own_bipush 78 Y (95 : Int32) d3_76 rfl rfl ?_
          refine own_ic_ne 86 81 Y d3_78 (by decide) rfl (fun q78 => ?_) (fun q78 => ?_)
          · exact KF (fun z => z.elim (fun z => z.1 q36) (fun z => z.elim (fun z => z.1 q48) (fun z => z.elim (fun z => z.1 q60) (fun z => z.elim q72 q78))))
          · exact KT (Or.inr (Or.inr (Or.inr (Or.inr q78))))
      · refine own_iloadN 64 Y d3_63 rfl rfl ?_
        refine own_bipush 66 Y (57 : Int32) d3_64 rfl rfl ?_
        refine own_ic_le 81 69 Y d3_66 (by decide) rfl (fun q66 => ?_) (fun q66 => ?_)
        · exact KT (Or.inr (Or.inr (Or.inl ⟨q60, q66⟩)))
        · refine own_iloadN 70 Y d3_69 rfl rfl ?_
          refine own_bipush 72 Y (45 : Int32) d3_70 rfl rfl ?_
          refine own_ic_eq 81 75 Y d3_72 (by decide) rfl (fun q72 => ?_) (fun q72 => ?_)
          · exact KT (Or.inr (Or.inr (Or.inr (Or.inl q72))))
          · refine own_iloadN 76 Y d3_75 rfl rfl ?_
            refine own_bipush 78 Y (95 : Int32) d3_76 rfl rfl ?_
            refine own_ic_ne 86 81 Y d3_78 (by decide) rfl (fun q78 => ?_) (fun q78 => ?_)
            · exact KF (fun z => z.elim (fun z => z.1 q36) (fun z => z.elim (fun z => z.1 q48) (fun z => z.elim (fun z => z.2 q66) (fun z => z.elim q72 q78))))
            · exact KT (Or.inr (Or.inr (Or.inr (Or.inr q78))))
    · refine own_iloadN 52 Y d3_51 rfl rfl ?_
      refine own_bipush 54 Y (90 : Int32) d3_52 rfl rfl ?_
      refine own_ic_le 81 57 Y d3_54 (by decide) rfl (fun q54 => ?_) (fun q54 => ?_)
      · exact KT (Or.inr (Or.inl ⟨q48, q54⟩))
      · refine own_iloadN 58 Y d3_57 rfl rfl ?_
        refine own_bipush 60 Y (48 : Int32) d3_58 rfl rfl ?_
        refine own_ic_lt 69 63 Y d3_60 (by decide) rfl (fun q60 => ?_) (fun q60 => ?_)
        · refine own_iloadN 70 Y d3_69 rfl rfl ?_
          refine own_bipush 72 Y (45 : Int32) d3_70 rfl rfl ?_
          refine own_ic_eq 81 75 Y d3_72 (by decide) rfl (fun q72 => ?_) (fun q72 => ?_)
          · exact KT (Or.inr (Or.inr (Or.inr (Or.inl q72))))
          · refine own_iloadN 76 Y d3_75 rfl rfl ?_
            refine own_bipush 78 Y (95 : Int32) d3_76 rfl rfl ?_
            refine own_ic_ne 86 81 Y d3_78 (by decide) rfl (fun q78 => ?_) (fun q78 => ?_)
            · exact KF (fun z => z.elim (fun z => z.1 q36) (fun z => z.elim (fun z => z.2 q54) (fun z => z.elim (fun z => z.1 q60) (fun z => z.elim q72 q78))))
            · exact KT (Or.inr (Or.inr (Or.inr (Or.inr q78))))
        · refine own_iloadN 64 Y d3_63 rfl rfl ?_
          refine own_bipush 66 Y (57 : Int32) d3_64 rfl rfl ?_
          refine own_ic_le 81 69 Y d3_66 (by decide) rfl (fun q66 => ?_) (fun q66 => ?_)
          · exact KT (Or.inr (Or.inr (Or.inl ⟨q60, q66⟩)))
          · refine own_iloadN 70 Y d3_69 rfl rfl ?_
            refine own_bipush 72 Y (45 : Int32) d3_70 rfl rfl ?_
            refine own_ic_eq 81 75 Y d3_72 (by decide) rfl (fun q72 => ?_) (fun q72 => ?_)
            · exact KT (Or.inr (Or.inr (Or.inr (Or.inl q72))))
            · refine own_iloadN 76 Y d3_75 rfl rfl ?_
              refine own_bipush 78 Y (95 : Int32) d3_76 rfl rfl ?_
              refine own_ic_ne 86 81 Y d3_78 (by decide) rfl (fun q78 => ?_) (fun q78 => ?_)
              · exact KF (fun z => z.elim (fun z => z.1 q36) (fun z => z.elim (fun z => z.2 q54) (fun z => z.elim (fun z => z.2 q66) (fun z => z.elim q72 q78))))
              · exact KT (Or.inr (Or.inr (Or.inr (Or.inr q78))))
  · refine own_iloadN 40 Y d3_39 rfl rfl ?_
    refine own_bipush 42 Y (122 : Int32) d3_40 rfl rfl ?_
    refine own_ic_le 81 45 Y d3_42 (by decide) rfl (fun q42 => ?_) (fun q42 => ?_)
    · exact KT (Or.inl ⟨q36, q42⟩)
    · refine own_iloadN 46 Y d3_45 rfl rfl ?_
      refine own_bipush 48 Y (65 : Int32) d3_46 rfl rfl ?_
      refine own_ic_lt 57 51 Y d3_48 (by decide) rfl (fun q48 => ?_) (fun q48 => ?_)
      · refine own_iloadN 58 Y d3_57 rfl rfl ?_
        refine own_bipush 60 Y (48 : Int32) d3_58 rfl rfl ?_
        refine own_ic_lt 69 63 Y d3_60 (by decide) rfl (fun q60 => ?_) (fun q60 => ?_)
        · refine own_iloadN 70 Y d3_69 rfl rfl ?_
          refine own_bipush 72 Y (45 : Int32) d3_70 rfl rfl ?_
          refine own_ic_eq 81 75 Y d3_72 (by decide) rfl (fun q72 => ?_) (fun q72 => ?_)
          · exact KT (Or.inr (Or.inr (Or.inr (Or.inl q72))))
          · refine own_iloadN 76 Y d3_75 rfl rfl ?_
            refine own_bipush 78 Y (95 : Int32) d3_76 rfl rfl ?_
            refine own_ic_ne 86 81 Y d3_78 (by decide) rfl (fun q78 => ?_) (fun q78 => ?_)
            · exact KF (fun z => z.elim (fun z => z.2 q42) (fun z => z.elim (fun z => z.1 q48) (fun z => z.elim (fun z => z.1 q60) (fun z => z.elim q72 q78))))
            · exact KT (Or.inr (Or.inr (Or.inr (Or.inr q78))))
        · refine own_iloadN 64 Y d3_63 rfl rfl ?_
          refine own_bipush 66 Y (57 : Int32) d3_64 rfl rfl ?_
          refine own_ic_le 81 69 Y d3_66 (by decide) rfl (fun q66 => ?_) (fun q66 => ?_)
          · exact KT (Or.inr (Or.inr (Or.inl ⟨q60, q66⟩)))
          · refine own_iloadN 70 Y d3_69 rfl rfl ?_
            refine own_bipush 72 Y (45 : Int32) d3_70 rfl rfl ?_
            refine own_ic_eq 81 75 Y d3_72 (by decide) rfl (fun q72 => ?_) (fun q72 => ?_)
            · exact KT (Or.inr (Or.inr (Or.inr (Or.inl q72))))
            · refine own_iloadN 76 Y d3_75 rfl rfl ?_
              refine own_bipush 78 Y (95 : Int32) d3_76 rfl rfl ?_
              refine own_ic_ne 86 81 Y d3_78 (by decide) rfl (fun q78 => ?_) (fun q78 => ?_)
              · exact KF (fun z => z.elim (fun z => z.2 q42) (fun z => z.elim (fun z => z.1 q48) (fun z => z.elim (fun z => z.2 q66) (fun z => z.elim q72 q78))))
              · exact KT (Or.inr (Or.inr (Or.inr (Or.inr q78))))
      · refine own_iloadN 52 Y d3_51 rfl rfl ?_
        refine own_bipush 54 Y (90 : Int32) d3_52 rfl rfl ?_
        refine own_ic_le 81 57 Y d3_54 (by decide) rfl (fun q54 => ?_) (fun q54 => ?_)
        · exact KT (Or.inr (Or.inl ⟨q48, q54⟩))
        · refine own_iloadN 58 Y d3_57 rfl rfl ?_
          refine own_bipush 60 Y (48 : Int32) d3_58 rfl rfl ?_
          refine own_ic_lt 69 63 Y d3_60 (by decide) rfl (fun q60 => ?_) (fun q60 => ?_)
          · refine own_iloadN 70 Y d3_69 rfl rfl ?_
            refine own_bipush 72 Y (45 : Int32) d3_70 rfl rfl ?_
            refine own_ic_eq 81 75 Y d3_72 (by decide) rfl (fun q72 => ?_) (fun q72 => ?_)
            · exact KT (Or.inr (Or.inr (Or.inr (Or.inl q72))))
            · refine own_iloadN 76 Y d3_75 rfl rfl ?_
              refine own_bipush 78 Y (95 : Int32) d3_76 rfl rfl ?_
              refine own_ic_ne 86 81 Y d3_78 (by decide) rfl (fun q78 => ?_) (fun q78 => ?_)
              · exact KF (fun z => z.elim (fun z => z.2 q42) (fun z => z.elim (fun z => z.2 q54) (fun z => z.elim (fun z => z.1 q60) (fun z => z.elim q72 q78))))
              · exact KT (Or.inr (Or.inr (Or.inr (Or.inr q78))))
          · refine own_iloadN 64 Y d3_63 rfl rfl ?_
            refine own_bipush 66 Y (57 : Int32) d3_64 rfl rfl ?_
            refine own_ic_le 81 69 Y d3_66 (by decide) rfl (fun q66 => ?_) (fun q66 => ?_)
            · exact KT (Or.inr (Or.inr (Or.inl ⟨q60, q66⟩)))
            · refine own_iloadN 70 Y d3_69 rfl rfl ?_
              refine own_bipush 72 Y (45 : Int32) d3_70 rfl rfl ?_
              refine own_ic_eq 81 75 Y d3_72 (by decide) rfl (fun q72 => ?_) (fun q72 => ?_)
              · exact KT (Or.inr (Or.inr (Or.inr (Or.inl q72))))
              · refine own_iloadN 76 Y d3_75 rfl rfl ?_
                refine own_bipush 78 Y (95 : Int32) d3_76 rfl rfl ?_
                refine own_ic_ne 86 81 Y d3_78 (by decide) rfl (fun q78 => ?_) (fun q78 => ?_)
                · exact KF (fun z => z.elim (fun z => z.2 q42) (fun z => z.elim (fun z => z.2 q54) (fun z => z.elim (fun z => z.2 q66) (fun z => z.elim q72 q78))))
                · exact KT (Or.inr (Or.inr (Or.inr (Or.inr q78))))
set_option maxRecDepth 65536 in
set_option maxHeartbeats 4000000 in
theorem c_ism_0 (l : Launch) (Z : State) (a0 : Array Value) (hw : ∀ d ∈ tables_1, d.before a0 Z = true) (a : Addr)  (z : Int32) (fm : Value) (h0 : Heap) (n0 : Nat) (O : Old Z n0 h0) (WS : own_Ws Z z fm) (S_a : Scont_0 Z h0 a) : own_M l (⟨"com/example/vetted_hub/vettedhub/MType", "isMType", "(Ljava/lang/String;)Z"⟩ : MethodName) prog_18_method_2_code 4 (some .boolean) [] ({ frames := 5, cells := 0, slots := 0, locals := 66 } : Room) Z #[.ref a] h0 (Qv (some (.int (0 : Int32))) h0) := by
  refine own_met pl3 (Lf := #[.val (.ref a), .unset, .unset, .unset]) (fun m => by first | (simp [entryFrame, mkF, argsToLocals, Value.category]; done) | rfl) ?_
  intro p e s m below meth c T Y
  refine own_iconst 1 Y (1 : Int32) d3_0 rfl rfl ?_
  refine own_istoreN 2 Y #[.val (.ref a), .val (.int (1 : Int32)), .unset, .unset] d3_1 rfl rfl ?_
  refine own_iconst 3 Y (0 : Int32) d3_2 rfl rfl ?_
  refine own_istoreN 4 Y #[.val (.ref a), .val (.int (1 : Int32)), .val (.int (0 : Int32)), .unset] d3_3 rfl rfl ?_
  refine own_iloadN 5 Y d3_4 rfl rfl ?_
  refine own_aloadN 6 Y d3_5 rfl rfl rfl ?_
  refine own_callV 9 Y [] [(.int (0 : Int32))] S_a.1 (own_wd hw 28 rfl) (own_wd hw 29 rfl) (notFace_of_selects (args := #[]) (mvT Y.warm (own_wd hw 31 rfl))) (own_wd hw 31 rfl) (own_wd hw 30 rfl) (own_wd hw 4 rfl) (own_wd hw 32 rfl) (c_len_0 l Z a0 hw a  z fm _ n0 O WS S_a) d3_6 (by decide) (lenOf pdslen rfl) rfl rfl (by decide) (Nat.le_of_ble_eq_true rfl) (by decide) (by decide) rfl fun v1 T1 h1 L1 Y1 hQ1 => ?_
  obtain ⟨rfl, rfl, rfl⟩ := hQ1
  show own_G p e below _ (T1.setTop (mkF m 9 #[.val (.ref a), .val (.int (1 : Int32)), .val (.int (0 : Int32)), .unset] [(.int (0 : Int32)), (.int (0 : Int32))]))
  refine own_icT 94 Y1 d3_9 (XT.ii_ge_t (by decide)) (by decide) ?_
  refine own_iloadN 95 Y1 d3_94 rfl rfl ?_
  refine own_ifT 102 Y1 d3_95 (XT.i0_ne_t (by decide)) (by decide) ?_
  refine own_iconst 103 Y1 (0 : Int32) d3_102 rfl rfl ?_
  exact own_retN Y1 (t := .boolean) rfl (by simp) d3_103 (by decide) (by decide) ⟨rfl, rfl, rfl⟩
set_option maxRecDepth 65536 in
set_option maxHeartbeats 4000000 in
theorem c_ism_1 (l : Launch) (Z : State) (a0 : Array Value) (hw : ∀ d ∈ tables_1, d.before a0 Z = true) (a : Addr) (c0 : Int32) (hn0 : nar .char c0 = c0) (z : Int32) (fm : Value) (h0 : Heap) (n0 : Nat) (O : Old Z n0 h0) (WS : own_Ws Z z fm) (S_a : Scont_1 Z h0 a c0) : own_M l (⟨"com/example/vetted_hub/vettedhub/MType", "isMType", "(Ljava/lang/String;)Z"⟩ : MethodName) prog_18_method_2_code 4 (some .boolean) [] ({ frames := 5, cells := 0, slots := 0, locals := 66 } : Room) Z #[.ref a] h0 (Qv (some (.int (if c0 = 46 then (0 : Int32) else (if atm c0 then (1 : Int32) else (0 : Int32))))) h0) := by
  refine own_met pl3 (Lf := #[.val (.ref a), .unset, .unset, .unset]) (fun m => by first | (simp [entryFrame, mkF, argsToLocals, Value.category]; done) | rfl) ?_
  intro p e s m below meth c T Y
  refine own_iconst 1 Y (1 : Int32) d3_0 rfl rfl ?_
  refine own_istoreN 2 Y #[.val (.ref a), .val (.int (1 : Int32)), .unset, .unset] d3_1 rfl rfl ?_
  refine own_iconst 3 Y (0 : Int32) d3_2 rfl rfl ?_
  refine own_istoreN 4 Y #[.val (.ref a), .val (.int (1 : Int32)), .val (.int (0 : Int32)), .unset] d3_3 rfl rfl ?_
  refine own_iloadN 5 Y d3_4 rfl rfl ?_
  refine own_aloadN 6 Y d3_5 rfl rfl rfl ?_
  refine own_callV 9 Y [] [(.int (0 : Int32))] S_a.1 (own_wd hw 28 rfl) (own_wd hw 29 rfl) (notFace_of_selects (args := #[]) (mvT Y.warm (own_wd hw 31 rfl))) (own_wd hw 31 rfl) (own_wd hw 30 rfl) (own_wd hw 4 rfl) (own_wd hw 32 rfl) (c_len_1 l Z a0 hw a c0 hn0 z fm _ n0 O WS S_a) d3_6 (by decide) (lenOf pdslen rfl) rfl rfl (by decide) (Nat.le_of_ble_eq_true rfl) (by decide) (by decide) rfl fun v1 T1 h1 L1 Y1 hQ1 => ?_
  obtain ⟨rfl, rfl, rfl⟩ := hQ1
  show own_G p e below _ (T1.setTop (mkF m 9 #[.val (.ref a), .val (.int (1 : Int32)), .val (.int (0 : Int32)), .unset] [(.int (1 : Int32)), (.int (0 : Int32))]))
  refine own_icF 12 Y1 d3_9 (XT.ii_ge_f (by decide)) rfl ?_
  refine own_aloadN 13 Y1 d3_12 rfl rfl rfl ?_
  refine own_iloadN 14 Y1 d3_13 rfl rfl ?_
  refine own_callV 17 Y1 [(.int (0 : Int32))] [] S_a.1 (own_wd hw 49 rfl) (own_wd hw 50 rfl) (notFace_of_selects (args := #[]) (mvT Y1.warm (own_wd hw 52 rfl))) (own_wd hw 52 rfl) (own_wd hw 51 rfl) (own_wd hw 4 rfl) (own_wd hw 53 rfl) (c_cat_1_0 l Z a0 hw a c0 hn0 z fm _ n0 O WS S_a) d3_14 (by decide) (lenOf pdscat rfl) rfl rfl (by decide) (Nat.le_of_ble_eq_true rfl) (by decide) (by decide) rfl fun v2 T2 h2 L2 Y2 hQ2 => ?_
  obtain ⟨rfl, rfl, rfl⟩ := hQ2
  show own_G p e below _ (T2.setTop (mkF m 17 #[.val (.ref a), .val (.int (1 : Int32)), .val (.int (0 : Int32)), .unset] [(.int c0)]))
  refine own_istoreN 18 Y2 #[.val (.ref a), .val (.int (1 : Int32)), .val (.int (0 : Int32)), .val (.int c0)] d3_17 rfl rfl ?_
  by_cases dt0 : c0 = 46
  · refine own_iloadN 19 Y2 d3_18 rfl rfl ?_
    refine own_bipush 21 Y2 (46 : Int32) d3_19 rfl rfl ?_
    refine own_icF 24 Y2 d3_21 (XT.ii_ne_f dt0) rfl ?_
    refine own_iloadN 25 Y2 d3_24 rfl rfl ?_
    refine own_ifT 33 Y2 d3_25 (XT.i0_ne_t (by decide)) (by decide) ?_
    refine own_seg (a0 := a0) hw a (1 : Int32) (0 : Int32) c0 Y2 (fun t => absurd t (own_at46 dt0)) (fun _ => ?_)
    refine own_iconst 87 Y2 (0 : Int32) d3_86 rfl rfl ?_
    exact own_retN Y2 (t := .boolean) rfl (by simp) d3_87 (by decide) (by decide) ⟨rfl, rfl, by rw [if_pos dt0] <;> rfl⟩
  · refine own_iloadN 19 Y2 d3_18 rfl rfl ?_
    refine own_bipush 21 Y2 (46 : Int32) d3_19 rfl rfl ?_
    refine own_icT 33 Y2 d3_21 (XT.ii_ne_t dt0) (by decide) ?_
    refine own_seg (a0 := a0) hw a (1 : Int32) (0 : Int32) c0 Y2 (fun at0 => ?_) (fun at0 => ?_)
    · refine own_iconst 82 Y2 (0 : Int32) d3_81 rfl rfl ?_
      refine own_istoreN 83 Y2 #[.val (.ref a), .val (.int (0 : Int32)), .val (.int (0 : Int32)), .val (.int c0)] d3_82 rfl rfl ?_
      refine own_goto 88 Y2 d3_83 (by decide) ?_
      refine own_iinc 91 Y2 #[.val (.ref a), .val (.int (0 : Int32)), .val (.int (1 : Int32)), .val (.int c0)] (1 : Int32) d3_88 rfl rfl rfl rfl ?_
      refine own_goto 4 Y2 d3_91 (by decide) ?_
      refine own_iloadN 5 Y2 d3_4 rfl rfl ?_
      refine own_aloadN 6 Y2 d3_5 rfl rfl rfl ?_
      refine own_callV 9 Y2 [] [(.int (1 : Int32))] S_a.1 (own_wd hw 28 rfl) (own_wd hw 29 rfl) (notFace_of_selects (args := #[]) (mvT Y2.warm (own_wd hw 31 rfl))) (own_wd hw 31 rfl) (own_wd hw 30 rfl) (own_wd hw 4 rfl) (own_wd hw 32 rfl) (c_len_1 l Z a0 hw a c0 hn0 z fm _ n0 O WS S_a) d3_6 (by decide) (lenOf pdslen rfl) rfl rfl (by decide) (Nat.le_of_ble_eq_true rfl) (by decide) (by decide) rfl fun v3 T3 h3 L3 Y3 hQ3 => ?_
      obtain ⟨rfl, rfl, rfl⟩ := hQ3
      show own_G p e below _ (T3.setTop (mkF m 9 #[.val (.ref a), .val (.int (0 : Int32)), .val (.int (1 : Int32)), .val (.int c0)] [(.int (1 : Int32)), (.int (1 : Int32))]))
      refine own_icT 94 Y3 d3_9 (XT.ii_ge_t (by decide)) (by decide) ?_
      refine own_iloadN 95 Y3 d3_94 rfl rfl ?_
      refine own_ifF 98 Y3 d3_95 (XT.i0_ne_f (by decide)) rfl ?_
      refine own_iconst 99 Y3 (1 : Int32) d3_98 rfl rfl ?_
      refine own_goto 103 Y3 d3_99 (by decide) ?_
      exact own_retN Y3 (t := .boolean) rfl (by simp) d3_103 (by decide) (by decide) ⟨rfl, rfl, by rw [if_neg dt0, if_pos at0] <;> rfl⟩
    · refine own_iconst 87 Y2 (0 : Int32) d3_86 rfl rfl ?_
      exact own_retN Y2 (t := .boolean) rfl (by simp) d3_87 (by decide) (by decide) ⟨rfl, rfl, by rw [if_neg dt0, if_neg at0] <;> rfl⟩
set_option maxRecDepth 65536 in
set_option maxHeartbeats 4000000 in
theorem c_ism_2 (l : Launch) (Z : State) (a0 : Array Value) (hw : ∀ d ∈ tables_1, d.before a0 Z = true) (a : Addr) (c0 c1 : Int32) (hn0 : nar .char c0 = c0) (hn1 : nar .char c1 = c1) (z : Int32) (fm : Value) (h0 : Heap) (n0 : Nat) (O : Old Z n0 h0) (WS : own_Ws Z z fm) (S_a : Scont_2 Z h0 a c0 c1) : own_M l (⟨"com/example/vetted_hub/vettedhub/MType", "isMType", "(Ljava/lang/String;)Z"⟩ : MethodName) prog_18_method_2_code 4 (some .boolean) [] ({ frames := 5, cells := 0, slots := 0, locals := 66 } : Room) Z #[.ref a] h0 (Qv (some (.int (if c0 = 46 then (0 : Int32) else (if atm c0 then (if c1 = 46 then (0 : Int32) else (if atm c1 then (1 : Int32) else (0 : Int32))) else (0 : Int32))))) h0) := by
  refine own_met pl3 (Lf := #[.val (.ref a), .unset, .unset, .unset]) (fun m => by first | (simp [entryFrame, mkF, argsToLocals, Value.category]; done) | rfl) ?_
  intro p e s m below meth c T Y
  refine own_iconst 1 Y (1 : Int32) d3_0 rfl rfl ?_
  refine own_istoreN 2 Y #[.val (.ref a), .val (.int (1 : Int32)), .unset, .unset] d3_1 rfl rfl ?_
  refine own_iconst 3 Y (0 : Int32) d3_2 rfl rfl ?_
  refine own_istoreN 4 Y #[.val (.ref a), .val (.int (1 : Int32)), .val (.int (0 : Int32)), .unset] d3_3 rfl rfl ?_
  refine own_iloadN 5 Y d3_4 rfl rfl ?_
  refine own_aloadN 6 Y d3_5 rfl rfl rfl ?_
  refine own_callV 9 Y [] [(.int (0 : Int32))] S_a.1 (own_wd hw 28 rfl) (own_wd hw 29 rfl) (notFace_of_selects (args := #[]) (mvT Y.warm (own_wd hw 31 rfl))) (own_wd hw 31 rfl) (own_wd hw 30 rfl) (own_wd hw 4 rfl) (own_wd hw 32 rfl) (c_len_2 l Z a0 hw a c0 c1 hn0 hn1 z fm _ n0 O WS S_a) d3_6 (by decide) (lenOf pdslen rfl) rfl rfl (by decide) (Nat.le_of_ble_eq_true rfl) (by decide) (by decide) rfl fun v1 T1 h1 L1 Y1 hQ1 => ?_
  obtain ⟨rfl, rfl, rfl⟩ := hQ1
  show own_G p e below _ (T1.setTop (mkF m 9 #[.val (.ref a), .val (.int (1 : Int32)), .val (.int (0 : Int32)), .unset] [(.int (2 : Int32)), (.int (0 : Int32))]))
  refine own_icF 12 Y1 d3_9 (XT.ii_ge_f (by decide)) rfl ?_
  refine own_aloadN 13 Y1 d3_12 rfl rfl rfl ?_
  refine own_iloadN 14 Y1 d3_13 rfl rfl ?_
  refine own_callV 17 Y1 [(.int (0 : Int32))] [] S_a.1 (own_wd hw 49 rfl) (own_wd hw 50 rfl) (notFace_of_selects (args := #[]) (mvT Y1.warm (own_wd hw 52 rfl))) (own_wd hw 52 rfl) (own_wd hw 51 rfl) (own_wd hw 4 rfl) (own_wd hw 53 rfl) (c_cat_2_0 l Z a0 hw a c0 c1 hn0 hn1 z fm _ n0 O WS S_a) d3_14 (by decide) (lenOf pdscat rfl) rfl rfl (by decide) (Nat.le_of_ble_eq_true rfl) (by decide) (by decide) rfl fun v2 T2 h2 L2 Y2 hQ2 => ?_
  obtain ⟨rfl, rfl, rfl⟩ := hQ2
  show own_G p e below _ (T2.setTop (mkF m 17 #[.val (.ref a), .val (.int (1 : Int32)), .val (.int (0 : Int32)), .unset] [(.int c0)]))
  refine own_istoreN 18 Y2 #[.val (.ref a), .val (.int (1 : Int32)), .val (.int (0 : Int32)), .val (.int c0)] d3_17 rfl rfl ?_
  by_cases dt0 : c0 = 46
  · refine own_iloadN 19 Y2 d3_18 rfl rfl ?_
    refine own_bipush 21 Y2 (46 : Int32) d3_19 rfl rfl ?_
    refine own_icF 24 Y2 d3_21 (XT.ii_ne_f dt0) rfl ?_
    refine own_iloadN 25 Y2 d3_24 rfl rfl ?_
    refine own_ifT 33 Y2 d3_25 (XT.i0_ne_t (by decide)) (by decide) ?_
    refine own_seg (a0 := a0) hw a (1 : Int32) (0 : Int32) c0 Y2 (fun t => absurd t (own_at46 dt0)) (fun _ => ?_)
    refine own_iconst 87 Y2 (0 : Int32) d3_86 rfl rfl ?_
    exact own_retN Y2 (t := .boolean) rfl (by simp) d3_87 (by decide) (by decide) ⟨rfl, rfl, by rw [if_pos dt0] <;> rfl⟩
  · refine own_iloadN 19 Y2 d3_18 rfl rfl ?_
    refine own_bipush 21 Y2 (46 : Int32) d3_19 rfl rfl ?_
    refine own_icT 33 Y2 d3_21 (XT.ii_ne_t dt0) (by decide) ?_
    refine own_seg (a0 := a0) hw a (1 : Int32) (0 : Int32) c0 Y2 (fun at0 => ?_) (fun at0 => ?_)
    · refine own_iconst 82 Y2 (0 : Int32) d3_81 rfl rfl ?_
      refine own_istoreN 83 Y2 #[.val (.ref a), .val (.int (0 : Int32)), .val (.int (0 : Int32)), .val (.int c0)] d3_82 rfl rfl ?_
      refine own_goto 88 Y2 d3_83 (by decide) ?_
      refine own_iinc 91 Y2 #[.val (.ref a), .val (.int (0 : Int32)), .val (.int (1 : Int32)), .val (.int c0)] (1 : Int32) d3_88 rfl rfl rfl rfl ?_
      refine own_goto 4 Y2 d3_91 (by decide) ?_
      refine own_iloadN 5 Y2 d3_4 rfl rfl ?_
      refine own_aloadN 6 Y2 d3_5 rfl rfl rfl ?_
      refine own_callV 9 Y2 [] [(.int (1 : Int32))] S_a.1 (own_wd hw 28 rfl) (own_wd hw 29 rfl) (notFace_of_selects (args := #[]) (mvT Y2.warm (own_wd hw 31 rfl))) (own_wd hw 31 rfl) (own_wd hw 30 rfl) (own_wd hw 4 rfl) (own_wd hw 32 rfl) (c_len_2 l Z a0 hw a c0 c1 hn0 hn1 z fm _ n0 O WS S_a) d3_6 (by decide) (lenOf pdslen rfl) rfl rfl (by decide) (Nat.le_of_ble_eq_true rfl) (by decide) (by decide) rfl fun v3 T3 h3 L3 Y3 hQ3 => ?_
      obtain ⟨rfl, rfl, rfl⟩ := hQ3
      show own_G p e below _ (T3.setTop (mkF m 9 #[.val (.ref a), .val (.int (0 : Int32)), .val (.int (1 : Int32)), .val (.int c0)] [(.int (2 : Int32)), (.int (1 : Int32))]))
      refine own_icF 12 Y3 d3_9 (XT.ii_ge_f (by decide)) rfl ?_
      refine own_aloadN 13 Y3 d3_12 rfl rfl rfl ?_
      refine own_iloadN 14 Y3 d3_13 rfl rfl ?_
      refine own_callV 17 Y3 [(.int (1 : Int32))] [] S_a.1 (own_wd hw 49 rfl) (own_wd hw 50 rfl) (notFace_of_selects (args := #[]) (mvT Y3.warm (own_wd hw 52 rfl))) (own_wd hw 52 rfl) (own_wd hw 51 rfl) (own_wd hw 4 rfl) (own_wd hw 53 rfl) (c_cat_2_1 l Z a0 hw a c0 c1 hn0 hn1 z fm _ n0 O WS S_a) d3_14 (by decide) (lenOf pdscat rfl) rfl rfl (by decide) (Nat.le_of_ble_eq_true rfl) (by decide) (by decide) rfl fun v4 T4 h4 L4 Y4 hQ4 => ?_
      obtain ⟨rfl, rfl, rfl⟩ := hQ4
      show own_G p e below _ (T4.setTop (mkF m 17 #[.val (.ref a), .val (.int (0 : Int32)), .val (.int (1 : Int32)), .val (.int c0)] [(.int c1)]))
      refine own_istoreN 18 Y4 #[.val (.ref a), .val (.int (0 : Int32)), .val (.int (1 : Int32)), .val (.int c1)] d3_17 rfl rfl ?_
      by_cases dt1 : c1 = 46
      · refine own_iloadN 19 Y4 d3_18 rfl rfl ?_
        refine own_bipush 21 Y4 (46 : Int32) d3_19 rfl rfl ?_
        refine own_icF 24 Y4 d3_21 (XT.ii_ne_f dt1) rfl ?_
        refine own_iloadN 25 Y4 d3_24 rfl rfl ?_
        refine own_ifF 28 Y4 d3_25 (XT.i0_ne_f (by decide)) rfl ?_
        refine own_iconst 29 Y4 (1 : Int32) d3_28 rfl rfl ?_
        refine own_istoreN 30 Y4 #[.val (.ref a), .val (.int (1 : Int32)), .val (.int (1 : Int32)), .val (.int c1)] d3_29 rfl rfl ?_
        refine own_goto 88 Y4 d3_30 (by decide) ?_
        refine own_iinc 91 Y4 #[.val (.ref a), .val (.int (1 : Int32)), .val (.int (2 : Int32)), .val (.int c1)] (1 : Int32) d3_88 rfl rfl rfl rfl ?_
        refine own_goto 4 Y4 d3_91 (by decide) ?_
        refine own_iloadN 5 Y4 d3_4 rfl rfl ?_
        refine own_aloadN 6 Y4 d3_5 rfl rfl rfl ?_
        refine own_callV 9 Y4 [] [(.int (2 : Int32))] S_a.1 (own_wd hw 28 rfl) (own_wd hw 29 rfl) (notFace_of_selects (args := #[]) (mvT Y4.warm (own_wd hw 31 rfl))) (own_wd hw 31 rfl) (own_wd hw 30 rfl) (own_wd hw 4 rfl) (own_wd hw 32 rfl) (c_len_2 l Z a0 hw a c0 c1 hn0 hn1 z fm _ n0 O WS S_a) d3_6 (by decide) (lenOf pdslen rfl) rfl rfl (by decide) (Nat.le_of_ble_eq_true rfl) (by decide) (by decide) rfl fun v5 T5 h5 L5 Y5 hQ5 => ?_
        obtain ⟨rfl, rfl, rfl⟩ := hQ5
        show own_G p e below _ (T5.setTop (mkF m 9 #[.val (.ref a), .val (.int (1 : Int32)), .val (.int (2 : Int32)), .val (.int c1)] [(.int (2 : Int32)), (.int (2 : Int32))]))
        refine own_icT 94 Y5 d3_9 (XT.ii_ge_t (by decide)) (by decide) ?_
        refine own_iloadN 95 Y5 d3_94 rfl rfl ?_
        refine own_ifT 102 Y5 d3_95 (XT.i0_ne_t (by decide)) (by decide) ?_
        refine own_iconst 103 Y5 (0 : Int32) d3_102 rfl rfl ?_
        exact own_retN Y5 (t := .boolean) rfl (by simp) d3_103 (by decide) (by decide) ⟨rfl, rfl, by rw [if_neg dt0, if_pos at0, if_pos dt1] <;> rfl⟩
      · refine own_iloadN 19 Y4 d3_18 rfl rfl ?_
        refine own_bipush 21 Y4 (46 : Int32) d3_19 rfl rfl ?_
        refine own_icT 33 Y4 d3_21 (XT.ii_ne_t dt1) (by decide) ?_
        refine own_seg (a0 := a0) hw a (0 : Int32) (1 : Int32) c1 Y4 (fun at1 => ?_) (fun at1 => ?_)
        · refine own_iconst 82 Y4 (0 : Int32) d3_81 rfl rfl ?_
          refine own_istoreN 83 Y4 #[.val (.ref a), .val (.int (0 : Int32)), .val (.int (1 : Int32)), .val (.int c1)] d3_82 rfl rfl ?_
          refine own_goto 88 Y4 d3_83 (by decide) ?_
          refine own_iinc 91 Y4 #[.val (.ref a), .val (.int (0 : Int32)), .val (.int (2 : Int32)), .val (.int c1)] (1 : Int32) d3_88 rfl rfl rfl rfl ?_
          refine own_goto 4 Y4 d3_91 (by decide) ?_
          refine own_iloadN 5 Y4 d3_4 rfl rfl ?_
          refine own_aloadN 6 Y4 d3_5 rfl rfl rfl ?_
          refine own_callV 9 Y4 [] [(.int (2 : Int32))] S_a.1 (own_wd hw 28 rfl) (own_wd hw 29 rfl) (notFace_of_selects (args := #[]) (mvT Y4.warm (own_wd hw 31 rfl))) (own_wd hw 31 rfl) (own_wd hw 30 rfl) (own_wd hw 4 rfl) (own_wd hw 32 rfl) (c_len_2 l Z a0 hw a c0 c1 hn0 hn1 z fm _ n0 O WS S_a) d3_6 (by decide) (lenOf pdslen rfl) rfl rfl (by decide) (Nat.le_of_ble_eq_true rfl) (by decide) (by decide) rfl fun v6 T6 h6 L6 Y6 hQ6 => ?_
          obtain ⟨rfl, rfl, rfl⟩ := hQ6
          show own_G p e below _ (T6.setTop (mkF m 9 #[.val (.ref a), .val (.int (0 : Int32)), .val (.int (2 : Int32)), .val (.int c1)] [(.int (2 : Int32)), (.int (2 : Int32))]))
          refine own_icT 94 Y6 d3_9 (XT.ii_ge_t (by decide)) (by decide) ?_
          refine own_iloadN 95 Y6 d3_94 rfl rfl ?_
          refine own_ifF 98 Y6 d3_95 (XT.i0_ne_f (by decide)) rfl ?_
          refine own_iconst 99 Y6 (1 : Int32) d3_98 rfl rfl ?_
          refine own_goto 103 Y6 d3_99 (by decide) ?_
          exact own_retN Y6 (t := .boolean) rfl (by simp) d3_103 (by decide) (by decide) ⟨rfl, rfl, by rw [if_neg dt0, if_pos at0, if_neg dt1, if_pos at1] <;> rfl⟩
        · refine own_iconst 87 Y4 (0 : Int32) d3_86 rfl rfl ?_
          exact own_retN Y4 (t := .boolean) rfl (by simp) d3_87 (by decide) (by decide) ⟨rfl, rfl, by rw [if_neg dt0, if_pos at0, if_neg dt1, if_neg at1] <;> rfl⟩
    · refine own_iconst 87 Y2 (0 : Int32) d3_86 rfl rfl ?_
      exact own_retN Y2 (t := .boolean) rfl (by simp) d3_87 (by decide) (by decide) ⟨rfl, rfl, by rw [if_neg dt0, if_neg at0] <;> rfl⟩
set_option maxRecDepth 65536 in
set_option maxHeartbeats 4000000 in
theorem c_ism_3 (l : Launch) (Z : State) (a0 : Array Value) (hw : ∀ d ∈ tables_1, d.before a0 Z = true) (a : Addr) (c0 c1 c2 : Int32) (hn0 : nar .char c0 = c0) (hn1 : nar .char c1 = c1) (hn2 : nar .char c2 = c2) (z : Int32) (fm : Value) (h0 : Heap) (n0 : Nat) (O : Old Z n0 h0) (WS : own_Ws Z z fm) (S_a : Scont_3 Z h0 a c0 c1 c2) : own_M l (⟨"com/example/vetted_hub/vettedhub/MType", "isMType", "(Ljava/lang/String;)Z"⟩ : MethodName) prog_18_method_2_code 4 (some .boolean) [] ({ frames := 5, cells := 0, slots := 0, locals := 66 } : Room) Z #[.ref a] h0 (Qv (some (.int (if c0 = 46 then (0 : Int32) else (if atm c0 then (if c1 = 46 then (if c2 = 46 then (0 : Int32) else (if atm c2 then (1 : Int32) else (0 : Int32))) else (if atm c1 then (if c2 = 46 then (0 : Int32) else (if atm c2 then (1 : Int32) else (0 : Int32))) else (0 : Int32))) else (0 : Int32))))) h0) := by
  refine own_met pl3 (Lf := #[.val (.ref a), .unset, .unset, .unset]) (fun m => by first | (simp [entryFrame, mkF, argsToLocals, Value.category]; done) | rfl) ?_
  intro p e s m below meth c T Y
  refine own_iconst 1 Y (1 : Int32) d3_0 rfl rfl ?_
  refine own_istoreN 2 Y #[.val (.ref a), .val (.int (1 : Int32)), .unset, .unset] d3_1 rfl rfl ?_
  refine own_iconst 3 Y (0 : Int32) d3_2 rfl rfl ?_
  refine own_istoreN 4 Y #[.val (.ref a), .val (.int (1 : Int32)), .val (.int (0 : Int32)), .unset] d3_3 rfl rfl ?_
  refine own_iloadN 5 Y d3_4 rfl rfl ?_
  refine own_aloadN 6 Y d3_5 rfl rfl rfl ?_
  refine own_callV 9 Y [] [(.int (0 : Int32))] S_a.1 (own_wd hw 28 rfl) (own_wd hw 29 rfl) (notFace_of_selects (args := #[]) (mvT Y.warm (own_wd hw 31 rfl))) (own_wd hw 31 rfl) (own_wd hw 30 rfl) (own_wd hw 4 rfl) (own_wd hw 32 rfl) (c_len_3 l Z a0 hw a c0 c1 c2 hn0 hn1 hn2 z fm _ n0 O WS S_a) d3_6 (by decide) (lenOf pdslen rfl) rfl rfl (by decide) (Nat.le_of_ble_eq_true rfl) (by decide) (by decide) rfl fun v1 T1 h1 L1 Y1 hQ1 => ?_
  obtain ⟨rfl, rfl, rfl⟩ := hQ1
  show own_G p e below _ (T1.setTop (mkF m 9 #[.val (.ref a), .val (.int (1 : Int32)), .val (.int (0 : Int32)), .unset] [(.int (3 : Int32)), (.int (0 : Int32))]))
  refine own_icF 12 Y1 d3_9 (XT.ii_ge_f (by decide)) rfl ?_
  refine own_aloadN 13 Y1 d3_12 rfl rfl rfl ?_
  refine own_iloadN 14 Y1 d3_13 rfl rfl ?_
  refine own_callV 17 Y1 [(.int (0 : Int32))] [] S_a.1 (own_wd hw 49 rfl) (own_wd hw 50 rfl) (notFace_of_selects (args := #[]) (mvT Y1.warm (own_wd hw 52 rfl))) (own_wd hw 52 rfl) (own_wd hw 51 rfl) (own_wd hw 4 rfl) (own_wd hw 53 rfl) (c_cat_3_0 l Z a0 hw a c0 c1 c2 hn0 hn1 hn2 z fm _ n0 O WS S_a) d3_14 (by decide) (lenOf pdscat rfl) rfl rfl (by decide) (Nat.le_of_ble_eq_true rfl) (by decide) (by decide) rfl fun v2 T2 h2 L2 Y2 hQ2 => ?_
  obtain ⟨rfl, rfl, rfl⟩ := hQ2
  show own_G p e below _ (T2.setTop (mkF m 17 #[.val (.ref a), .val (.int (1 : Int32)), .val (.int (0 : Int32)), .unset] [(.int c0)]))
  refine own_istoreN 18 Y2 #[.val (.ref a), .val (.int (1 : Int32)), .val (.int (0 : Int32)), .val (.int c0)] d3_17 rfl rfl ?_
  by_cases dt0 : c0 = 46
  · refine own_iloadN 19 Y2 d3_18 rfl rfl ?_
    refine own_bipush 21 Y2 (46 : Int32) d3_19 rfl rfl ?_
    refine own_icF 24 Y2 d3_21 (XT.ii_ne_f dt0) rfl ?_
    refine own_iloadN 25 Y2 d3_24 rfl rfl ?_
    refine own_ifT 33 Y2 d3_25 (XT.i0_ne_t (by decide)) (by decide) ?_
    refine own_seg (a0 := a0) hw a (1 : Int32) (0 : Int32) c0 Y2 (fun t => absurd t (own_at46 dt0)) (fun _ => ?_)
    refine own_iconst 87 Y2 (0 : Int32) d3_86 rfl rfl ?_
    exact own_retN Y2 (t := .boolean) rfl (by simp) d3_87 (by decide) (by decide) ⟨rfl, rfl, by rw [if_pos dt0] <;> rfl⟩
  · refine own_iloadN 19 Y2 d3_18 rfl rfl ?_
    refine own_bipush 21 Y2 (46 : Int32) d3_19 rfl rfl ?_
    refine own_icT 33 Y2 d3_21 (XT.ii_ne_t dt0) (by decide) ?_
    refine own_seg (a0 := a0) hw a (1 : Int32) (0 : Int32) c0 Y2 (fun at0 => ?_) (fun at0 => ?_)
    · refine own_iconst 82 Y2 (0 : Int32) d3_81 rfl rfl ?_
      refine own_istoreN 83 Y2 #[.val (.ref a), .val (.int (0 : Int32)), .val (.int (0 : Int32)), .val (.int c0)] d3_82 rfl rfl ?_
      refine own_goto 88 Y2 d3_83 (by decide) ?_
      refine own_iinc 91 Y2 #[.val (.ref a), .val (.int (0 : Int32)), .val (.int (1 : Int32)), .val (.int c0)] (1 : Int32) d3_88 rfl rfl rfl rfl ?_
      refine own_goto 4 Y2 d3_91 (by decide) ?_
      refine own_iloadN 5 Y2 d3_4 rfl rfl ?_
      refine own_aloadN 6 Y2 d3_5 rfl rfl rfl ?_
      refine own_callV 9 Y2 [] [(.int (1 : Int32))] S_a.1 (own_wd hw 28 rfl) (own_wd hw 29 rfl) (notFace_of_selects (args := #[]) (mvT Y2.warm (own_wd hw 31 rfl))) (own_wd hw 31 rfl) (own_wd hw 30 rfl) (own_wd hw 4 rfl) (own_wd hw 32 rfl) (c_len_3 l Z a0 hw a c0 c1 c2 hn0 hn1 hn2 z fm _ n0 O WS S_a) d3_6 (by decide) (lenOf pdslen rfl) rfl rfl (by decide) (Nat.le_of_ble_eq_true rfl) (by decide) (by decide) rfl fun v3 T3 h3 L3 Y3 hQ3 => ?_
      obtain ⟨rfl, rfl, rfl⟩ := hQ3
      show own_G p e below _ (T3.setTop (mkF m 9 #[.val (.ref a), .val (.int (0 : Int32)), .val (.int (1 : Int32)), .val (.int c0)] [(.int (3 : Int32)), (.int (1 : Int32))]))
      refine own_icF 12 Y3 d3_9 (XT.ii_ge_f (by decide)) rfl ?_
      refine own_aloadN 13 Y3 d3_12 rfl rfl rfl ?_
      refine own_iloadN 14 Y3 d3_13 rfl rfl ?_
      refine own_callV 17 Y3 [(.int (1 : Int32))] [] S_a.1 (own_wd hw 49 rfl) (own_wd hw 50 rfl) (notFace_of_selects (args := #[]) (mvT Y3.warm (own_wd hw 52 rfl))) (own_wd hw 52 rfl) (own_wd hw 51 rfl) (own_wd hw 4 rfl) (own_wd hw 53 rfl) (c_cat_3_1 l Z a0 hw a c0 c1 c2 hn0 hn1 hn2 z fm _ n0 O WS S_a) d3_14 (by decide) (lenOf pdscat rfl) rfl rfl (by decide) (Nat.le_of_ble_eq_true rfl) (by decide) (by decide) rfl fun v4 T4 h4 L4 Y4 hQ4 => ?_
      obtain ⟨rfl, rfl, rfl⟩ := hQ4
      show own_G p e below _ (T4.setTop (mkF m 17 #[.val (.ref a), .val (.int (0 : Int32)), .val (.int (1 : Int32)), .val (.int c0)] [(.int c1)]))
      refine own_istoreN 18 Y4 #[.val (.ref a), .val (.int (0 : Int32)), .val (.int (1 : Int32)), .val (.int c1)] d3_17 rfl rfl ?_
      by_cases dt1 : c1 = 46
      · refine own_iloadN 19 Y4 d3_18 rfl rfl ?_
        refine own_bipush 21 Y4 (46 : Int32) d3_19 rfl rfl ?_
        refine own_icF 24 Y4 d3_21 (XT.ii_ne_f dt1) rfl ?_
        refine own_iloadN 25 Y4 d3_24 rfl rfl ?_
        refine own_ifF 28 Y4 d3_25 (XT.i0_ne_f (by decide)) rfl ?_
        refine own_iconst 29 Y4 (1 : Int32) d3_28 rfl rfl ?_
        refine own_istoreN 30 Y4 #[.val (.ref a), .val (.int (1 : Int32)), .val (.int (1 : Int32)), .val (.int c1)] d3_29 rfl rfl ?_
        refine own_goto 88 Y4 d3_30 (by decide) ?_
        refine own_iinc 91 Y4 #[.val (.ref a), .val (.int (1 : Int32)), .val (.int (2 : Int32)), .val (.int c1)] (1 : Int32) d3_88 rfl rfl rfl rfl ?_
        refine own_goto 4 Y4 d3_91 (by decide) ?_
        refine own_iloadN 5 Y4 d3_4 rfl rfl ?_
        refine own_aloadN 6 Y4 d3_5 rfl rfl rfl ?_
        refine own_callV 9 Y4 [] [(.int (2 : Int32))] S_a.1 (own_wd hw 28 rfl) (own_wd hw 29 rfl) (notFace_of_selects (args := #[]) (mvT Y4.warm (own_wd hw 31 rfl))) (own_wd hw 31 rfl) (own_wd hw 30 rfl) (own_wd hw 4 rfl) (own_wd hw 32 rfl) (c_len_3 l Z a0 hw a c0 c1 c2 hn0 hn1 hn2 z fm _ n0 O WS S_a) d3_6 (by decide) (lenOf pdslen rfl) rfl rfl (by decide) (Nat.le_of_ble_eq_true rfl) (by decide) (by decide) rfl fun v5 T5 h5 L5 Y5 hQ5 => ?_
        obtain ⟨rfl, rfl, rfl⟩ := hQ5
        show own_G p e below _ (T5.setTop (mkF m 9 #[.val (.ref a), .val (.int (1 : Int32)), .val (.int (2 : Int32)), .val (.int c1)] [(.int (3 : Int32)), (.int (2 : Int32))]))
        refine own_icF 12 Y5 d3_9 (XT.ii_ge_f (by decide)) rfl ?_
        refine own_aloadN 13 Y5 d3_12 rfl rfl rfl ?_
        refine own_iloadN 14 Y5 d3_13 rfl rfl ?_
        refine own_callV 17 Y5 [(.int (2 : Int32))] [] S_a.1 (own_wd hw 49 rfl) (own_wd hw 50 rfl) (notFace_of_selects (args := #[]) (mvT Y5.warm (own_wd hw 52 rfl))) (own_wd hw 52 rfl) (own_wd hw 51 rfl) (own_wd hw 4 rfl) (own_wd hw 53 rfl) (c_cat_3_2 l Z a0 hw a c0 c1 c2 hn0 hn1 hn2 z fm _ n0 O WS S_a) d3_14 (by decide) (lenOf pdscat rfl) rfl rfl (by decide) (Nat.le_of_ble_eq_true rfl) (by decide) (by decide) rfl fun v6 T6 h6 L6 Y6 hQ6 => ?_
        obtain ⟨rfl, rfl, rfl⟩ := hQ6
        show own_G p e below _ (T6.setTop (mkF m 17 #[.val (.ref a), .val (.int (1 : Int32)), .val (.int (2 : Int32)), .val (.int c1)] [(.int c2)]))
        refine own_istoreN 18 Y6 #[.val (.ref a), .val (.int (1 : Int32)), .val (.int (2 : Int32)), .val (.int c2)] d3_17 rfl rfl ?_
        by_cases dt2 : c2 = 46
        · refine own_iloadN 19 Y6 d3_18 rfl rfl ?_
          refine own_bipush 21 Y6 (46 : Int32) d3_19 rfl rfl ?_
          refine own_icF 24 Y6 d3_21 (XT.ii_ne_f dt2) rfl ?_
          refine own_iloadN 25 Y6 d3_24 rfl rfl ?_
          refine own_ifT 33 Y6 d3_25 (XT.i0_ne_t (by decide)) (by decide) ?_
          refine own_seg (a0 := a0) hw a (1 : Int32) (2 : Int32) c2 Y6 (fun t => absurd t (own_at46 dt2)) (fun _ => ?_)
          refine own_iconst 87 Y6 (0 : Int32) d3_86 rfl rfl ?_
          exact own_retN Y6 (t := .boolean) rfl (by simp) d3_87 (by decide) (by decide) ⟨rfl, rfl, by rw [if_neg dt0, if_pos at0, if_pos dt1, if_pos dt2] <;> rfl⟩
        · refine own_iloadN 19 Y6 d3_18 rfl rfl ?_
          refine own_bipush 21 Y6 (46 : Int32) d3_19 rfl rfl ?_
          refine own_icT 33 Y6 d3_21 (XT.ii_ne_t dt2) (by decide) ?_
          refine own_seg (a0 := a0) hw a (1 : Int32) (2 : Int32) c2 Y6 (fun at2 => ?_) (fun at2 => ?_)
          · refine own_iconst 82 Y6 (0 : Int32) d3_81 rfl rfl ?_
            refine own_istoreN 83 Y6 #[.val (.ref a), .val (.int (0 : Int32)), .val (.int (2 : Int32)), .val (.int c2)] d3_82 rfl rfl ?_
            refine own_goto 88 Y6 d3_83 (by decide) ?_
            refine own_iinc 91 Y6 #[.val (.ref a), .val (.int (0 : Int32)), .val (.int (3 : Int32)), .val (.int c2)] (1 : Int32) d3_88 rfl rfl rfl rfl ?_
            refine own_goto 4 Y6 d3_91 (by decide) ?_
            refine own_iloadN 5 Y6 d3_4 rfl rfl ?_
            refine own_aloadN 6 Y6 d3_5 rfl rfl rfl ?_
            refine own_callV 9 Y6 [] [(.int (3 : Int32))] S_a.1 (own_wd hw 28 rfl) (own_wd hw 29 rfl) (notFace_of_selects (args := #[]) (mvT Y6.warm (own_wd hw 31 rfl))) (own_wd hw 31 rfl) (own_wd hw 30 rfl) (own_wd hw 4 rfl) (own_wd hw 32 rfl) (c_len_3 l Z a0 hw a c0 c1 c2 hn0 hn1 hn2 z fm _ n0 O WS S_a) d3_6 (by decide) (lenOf pdslen rfl) rfl rfl (by decide) (Nat.le_of_ble_eq_true rfl) (by decide) (by decide) rfl fun v7 T7 h7 L7 Y7 hQ7 => ?_
            obtain ⟨rfl, rfl, rfl⟩ := hQ7
            show own_G p e below _ (T7.setTop (mkF m 9 #[.val (.ref a), .val (.int (0 : Int32)), .val (.int (3 : Int32)), .val (.int c2)] [(.int (3 : Int32)), (.int (3 : Int32))]))
            refine own_icT 94 Y7 d3_9 (XT.ii_ge_t (by decide)) (by decide) ?_
            refine own_iloadN 95 Y7 d3_94 rfl rfl ?_
            refine own_ifF 98 Y7 d3_95 (XT.i0_ne_f (by decide)) rfl ?_
            refine own_iconst 99 Y7 (1 : Int32) d3_98 rfl rfl ?_
            refine own_goto 103 Y7 d3_99 (by decide) ?_
            exact own_retN Y7 (t := .boolean) rfl (by simp) d3_103 (by decide) (by decide) ⟨rfl, rfl, by rw [if_neg dt0, if_pos at0, if_pos dt1, if_neg dt2, if_pos at2] <;> rfl⟩
          · refine own_iconst 87 Y6 (0 : Int32) d3_86 rfl rfl ?_
            exact own_retN Y6 (t := .boolean) rfl (by simp) d3_87 (by decide) (by decide) ⟨rfl, rfl, by rw [if_neg dt0, if_pos at0, if_pos dt1, if_neg dt2, if_neg at2] <;> rfl⟩
      · refine own_iloadN 19 Y4 d3_18 rfl rfl ?_
        refine own_bipush 21 Y4 (46 : Int32) d3_19 rfl rfl ?_
        refine own_icT 33 Y4 d3_21 (XT.ii_ne_t dt1) (by decide) ?_
        refine own_seg (a0 := a0) hw a (0 : Int32) (1 : Int32) c1 Y4 (fun at1 => ?_) (fun at1 => ?_)
        · refine own_iconst 82 Y4 (0 : Int32) d3_81 rfl rfl ?_
          refine own_istoreN 83 Y4 #[.val (.ref a), .val (.int (0 : Int32)), .val (.int (1 : Int32)), .val (.int c1)] d3_82 rfl rfl ?_
          refine own_goto 88 Y4 d3_83 (by decide) ?_
          refine own_iinc 91 Y4 #[.val (.ref a), .val (.int (0 : Int32)), .val (.int (2 : Int32)), .val (.int c1)] (1 : Int32) d3_88 rfl rfl rfl rfl ?_
          refine own_goto 4 Y4 d3_91 (by decide) ?_
          refine own_iloadN 5 Y4 d3_4 rfl rfl ?_
          refine own_aloadN 6 Y4 d3_5 rfl rfl rfl ?_
          refine own_callV 9 Y4 [] [(.int (2 : Int32))] S_a.1 (own_wd hw 28 rfl) (own_wd hw 29 rfl) (notFace_of_selects (args := #[]) (mvT Y4.warm (own_wd hw 31 rfl))) (own_wd hw 31 rfl) (own_wd hw 30 rfl) (own_wd hw 4 rfl) (own_wd hw 32 rfl) (c_len_3 l Z a0 hw a c0 c1 c2 hn0 hn1 hn2 z fm _ n0 O WS S_a) d3_6 (by decide) (lenOf pdslen rfl) rfl rfl (by decide) (Nat.le_of_ble_eq_true rfl) (by decide) (by decide) rfl fun v8 T8 h8 L8 Y8 hQ8 => ?_
          obtain ⟨rfl, rfl, rfl⟩ := hQ8
          show own_G p e below _ (T8.setTop (mkF m 9 #[.val (.ref a), .val (.int (0 : Int32)), .val (.int (2 : Int32)), .val (.int c1)] [(.int (3 : Int32)), (.int (2 : Int32))]))
          refine own_icF 12 Y8 d3_9 (XT.ii_ge_f (by decide)) rfl ?_
          refine own_aloadN 13 Y8 d3_12 rfl rfl rfl ?_
          refine own_iloadN 14 Y8 d3_13 rfl rfl ?_
          refine own_callV 17 Y8 [(.int (2 : Int32))] [] S_a.1 (own_wd hw 49 rfl) (own_wd hw 50 rfl) (notFace_of_selects (args := #[]) (mvT Y8.warm (own_wd hw 52 rfl))) (own_wd hw 52 rfl) (own_wd hw 51 rfl) (own_wd hw 4 rfl) (own_wd hw 53 rfl) (c_cat_3_2 l Z a0 hw a c0 c1 c2 hn0 hn1 hn2 z fm _ n0 O WS S_a) d3_14 (by decide) (lenOf pdscat rfl) rfl rfl (by decide) (Nat.le_of_ble_eq_true rfl) (by decide) (by decide) rfl fun v9 T9 h9 L9 Y9 hQ9 => ?_
          obtain ⟨rfl, rfl, rfl⟩ := hQ9
          show own_G p e below _ (T9.setTop (mkF m 17 #[.val (.ref a), .val (.int (0 : Int32)), .val (.int (2 : Int32)), .val (.int c1)] [(.int c2)]))
          refine own_istoreN 18 Y9 #[.val (.ref a), .val (.int (0 : Int32)), .val (.int (2 : Int32)), .val (.int c2)] d3_17 rfl rfl ?_
          by_cases dt2 : c2 = 46
          · refine own_iloadN 19 Y9 d3_18 rfl rfl ?_
            refine own_bipush 21 Y9 (46 : Int32) d3_19 rfl rfl ?_
            refine own_icF 24 Y9 d3_21 (XT.ii_ne_f dt2) rfl ?_
            refine own_iloadN 25 Y9 d3_24 rfl rfl ?_
            refine own_ifF 28 Y9 d3_25 (XT.i0_ne_f (by decide)) rfl ?_
            refine own_iconst 29 Y9 (1 : Int32) d3_28 rfl rfl ?_
            refine own_istoreN 30 Y9 #[.val (.ref a), .val (.int (1 : Int32)), .val (.int (2 : Int32)), .val (.int c2)] d3_29 rfl rfl ?_
            refine own_goto 88 Y9 d3_30 (by decide) ?_
            refine own_iinc 91 Y9 #[.val (.ref a), .val (.int (1 : Int32)), .val (.int (3 : Int32)), .val (.int c2)] (1 : Int32) d3_88 rfl rfl rfl rfl ?_
            refine own_goto 4 Y9 d3_91 (by decide) ?_
            refine own_iloadN 5 Y9 d3_4 rfl rfl ?_
            refine own_aloadN 6 Y9 d3_5 rfl rfl rfl ?_
            refine own_callV 9 Y9 [] [(.int (3 : Int32))] S_a.1 (own_wd hw 28 rfl) (own_wd hw 29 rfl) (notFace_of_selects (args := #[]) (mvT Y9.warm (own_wd hw 31 rfl))) (own_wd hw 31 rfl) (own_wd hw 30 rfl) (own_wd hw 4 rfl) (own_wd hw 32 rfl) (c_len_3 l Z a0 hw a c0 c1 c2 hn0 hn1 hn2 z fm _ n0 O WS S_a) d3_6 (by decide) (lenOf pdslen rfl) rfl rfl (by decide) (Nat.le_of_ble_eq_true rfl) (by decide) (by decide) rfl fun v10 T10 h10 L10 Y10 hQ10 => ?_
            obtain ⟨rfl, rfl, rfl⟩ := hQ10
            show own_G p e below _ (T10.setTop (mkF m 9 #[.val (.ref a), .val (.int (1 : Int32)), .val (.int (3 : Int32)), .val (.int c2)] [(.int (3 : Int32)), (.int (3 : Int32))]))
            refine own_icT 94 Y10 d3_9 (XT.ii_ge_t (by decide)) (by decide) ?_
            refine own_iloadN 95 Y10 d3_94 rfl rfl ?_
            refine own_ifT 102 Y10 d3_95 (XT.i0_ne_t (by decide)) (by decide) ?_
            refine own_iconst 103 Y10 (0 : Int32) d3_102 rfl rfl ?_
            exact own_retN Y10 (t := .boolean) rfl (by simp) d3_103 (by decide) (by decide) ⟨rfl, rfl, by rw [if_neg dt0, if_pos at0, if_neg dt1, if_pos at1, if_pos dt2] <;> rfl⟩
          · refine own_iloadN 19 Y9 d3_18 rfl rfl ?_
            refine own_bipush 21 Y9 (46 : Int32) d3_19 rfl rfl ?_
            refine own_icT 33 Y9 d3_21 (XT.ii_ne_t dt2) (by decide) ?_
            refine own_seg (a0 := a0) hw a (0 : Int32) (2 : Int32) c2 Y9 (fun at2 => ?_) (fun at2 => ?_)
            · refine own_iconst 82 Y9 (0 : Int32) d3_81 rfl rfl ?_
              refine own_istoreN 83 Y9 #[.val (.ref a), .val (.int (0 : Int32)), .val (.int (2 : Int32)), .val (.int c2)] d3_82 rfl rfl ?_
              refine own_goto 88 Y9 d3_83 (by decide) ?_
              refine own_iinc 91 Y9 #[.val (.ref a), .val (.int (0 : Int32)), .val (.int (3 : Int32)), .val (.int c2)] (1 : Int32) d3_88 rfl rfl rfl rfl ?_
              refine own_goto 4 Y9 d3_91 (by decide) ?_
              refine own_iloadN 5 Y9 d3_4 rfl rfl ?_
              refine own_aloadN 6 Y9 d3_5 rfl rfl rfl ?_
              refine own_callV 9 Y9 [] [(.int (3 : Int32))] S_a.1 (own_wd hw 28 rfl) (own_wd hw 29 rfl) (notFace_of_selects (args := #[]) (mvT Y9.warm (own_wd hw 31 rfl))) (own_wd hw 31 rfl) (own_wd hw 30 rfl) (own_wd hw 4 rfl) (own_wd hw 32 rfl) (c_len_3 l Z a0 hw a c0 c1 c2 hn0 hn1 hn2 z fm _ n0 O WS S_a) d3_6 (by decide) (lenOf pdslen rfl) rfl rfl (by decide) (Nat.le_of_ble_eq_true rfl) (by decide) (by decide) rfl fun v11 T11 h11 L11 Y11 hQ11 => ?_
              obtain ⟨rfl, rfl, rfl⟩ := hQ11
              show own_G p e below _ (T11.setTop (mkF m 9 #[.val (.ref a), .val (.int (0 : Int32)), .val (.int (3 : Int32)), .val (.int c2)] [(.int (3 : Int32)), (.int (3 : Int32))]))
              refine own_icT 94 Y11 d3_9 (XT.ii_ge_t (by decide)) (by decide) ?_
              refine own_iloadN 95 Y11 d3_94 rfl rfl ?_
              refine own_ifF 98 Y11 d3_95 (XT.i0_ne_f (by decide)) rfl ?_
              refine own_iconst 99 Y11 (1 : Int32) d3_98 rfl rfl ?_
              refine own_goto 103 Y11 d3_99 (by decide) ?_
              exact own_retN Y11 (t := .boolean) rfl (by simp) d3_103 (by decide) (by decide) ⟨rfl, rfl, by rw [if_neg dt0, if_pos at0, if_neg dt1, if_pos at1, if_neg dt2, if_pos at2] <;> rfl⟩
            · refine own_iconst 87 Y9 (0 : Int32) d3_86 rfl rfl ?_
              exact own_retN Y9 (t := .boolean) rfl (by simp) d3_87 (by decide) (by decide) ⟨rfl, rfl, by rw [if_neg dt0, if_pos at0, if_neg dt1, if_pos at1, if_neg dt2, if_neg at2] <;> rfl⟩
        · refine own_iconst 87 Y4 (0 : Int32) d3_86 rfl rfl ?_
          exact own_retN Y4 (t := .boolean) rfl (by simp) d3_87 (by decide) (by decide) ⟨rfl, rfl, by rw [if_neg dt0, if_pos at0, if_neg dt1, if_neg at1] <;> rfl⟩
    · refine own_iconst 87 Y2 (0 : Int32) d3_86 rfl rfl ?_
      exact own_retN Y2 (t := .boolean) rfl (by simp) d3_87 (by decide) (by decide) ⟨rfl, rfl, by rw [if_neg dt0, if_neg at0] <;> rfl⟩
set_option maxRecDepth 65536 in
set_option maxHeartbeats 4000000 in
theorem c_ism_4 (l : Launch) (Z : State) (a0 : Array Value) (hw : ∀ d ∈ tables_1, d.before a0 Z = true) (a : Addr) (c0 c1 c2 c3 : Int32) (hn0 : nar .char c0 = c0) (hn1 : nar .char c1 = c1) (hn2 : nar .char c2 = c2) (hn3 : nar .char c3 = c3) (z : Int32) (fm : Value) (h0 : Heap) (n0 : Nat) (O : Old Z n0 h0) (WS : own_Ws Z z fm) (S_a : Scont_4 Z h0 a c0 c1 c2 c3) : own_M l (⟨"com/example/vetted_hub/vettedhub/MType", "isMType", "(Ljava/lang/String;)Z"⟩ : MethodName) prog_18_method_2_code 4 (some .boolean) [] ({ frames := 5, cells := 0, slots := 0, locals := 66 } : Room) Z #[.ref a] h0 (Qv (some (.int (if c0 = 46 then (0 : Int32) else (if atm c0 then (if c1 = 46 then (if c2 = 46 then (0 : Int32) else (if atm c2 then (if c3 = 46 then (0 : Int32) else (if atm c3 then (1 : Int32) else (0 : Int32))) else (0 : Int32))) else (if atm c1 then (if c2 = 46 then (if c3 = 46 then (0 : Int32) else (if atm c3 then (1 : Int32) else (0 : Int32))) else (if atm c2 then (if c3 = 46 then (0 : Int32) else (if atm c3 then (1 : Int32) else (0 : Int32))) else (0 : Int32))) else (0 : Int32))) else (0 : Int32))))) h0) := by
  refine own_met pl3 (Lf := #[.val (.ref a), .unset, .unset, .unset]) (fun m => by first | (simp [entryFrame, mkF, argsToLocals, Value.category]; done) | rfl) ?_
  intro p e s m below meth c T Y
  refine own_iconst 1 Y (1 : Int32) d3_0 rfl rfl ?_
  refine own_istoreN 2 Y #[.val (.ref a), .val (.int (1 : Int32)), .unset, .unset] d3_1 rfl rfl ?_
  refine own_iconst 3 Y (0 : Int32) d3_2 rfl rfl ?_
  refine own_istoreN 4 Y #[.val (.ref a), .val (.int (1 : Int32)), .val (.int (0 : Int32)), .unset] d3_3 rfl rfl ?_
  refine own_iloadN 5 Y d3_4 rfl rfl ?_
  refine own_aloadN 6 Y d3_5 rfl rfl rfl ?_
  refine own_callV 9 Y [] [(.int (0 : Int32))] S_a.1 (own_wd hw 28 rfl) (own_wd hw 29 rfl) (notFace_of_selects (args := #[]) (mvT Y.warm (own_wd hw 31 rfl))) (own_wd hw 31 rfl) (own_wd hw 30 rfl) (own_wd hw 4 rfl) (own_wd hw 32 rfl) (c_len_4 l Z a0 hw a c0 c1 c2 c3 hn0 hn1 hn2 hn3 z fm _ n0 O WS S_a) d3_6 (by decide) (lenOf pdslen rfl) rfl rfl (by decide) (Nat.le_of_ble_eq_true rfl) (by decide) (by decide) rfl fun v1 T1 h1 L1 Y1 hQ1 => ?_
  obtain ⟨rfl, rfl, rfl⟩ := hQ1
  show own_G p e below _ (T1.setTop (mkF m 9 #[.val (.ref a), .val (.int (1 : Int32)), .val (.int (0 : Int32)), .unset] [(.int (4 : Int32)), (.int (0 : Int32))]))
  refine own_icF 12 Y1 d3_9 (XT.ii_ge_f (by decide)) rfl ?_
  refine own_aloadN 13 Y1 d3_12 rfl rfl rfl ?_
  refine own_iloadN 14 Y1 d3_13 rfl rfl ?_
  refine own_callV 17 Y1 [(.int (0 : Int32))] [] S_a.1 (own_wd hw 49 rfl) (own_wd hw 50 rfl) (notFace_of_selects (args := #[]) (mvT Y1.warm (own_wd hw 52 rfl))) (own_wd hw 52 rfl) (own_wd hw 51 rfl) (own_wd hw 4 rfl) (own_wd hw 53 rfl) (c_cat_4_0 l Z a0 hw a c0 c1 c2 c3 hn0 hn1 hn2 hn3 z fm _ n0 O WS S_a) d3_14 (by decide) (lenOf pdscat rfl) rfl rfl (by decide) (Nat.le_of_ble_eq_true rfl) (by decide) (by decide) rfl fun v2 T2 h2 L2 Y2 hQ2 => ?_
  obtain ⟨rfl, rfl, rfl⟩ := hQ2
  show own_G p e below _ (T2.setTop (mkF m 17 #[.val (.ref a), .val (.int (1 : Int32)), .val (.int (0 : Int32)), .unset] [(.int c0)]))
  refine own_istoreN 18 Y2 #[.val (.ref a), .val (.int (1 : Int32)), .val (.int (0 : Int32)), .val (.int c0)] d3_17 rfl rfl ?_
  by_cases dt0 : c0 = 46
  · refine own_iloadN 19 Y2 d3_18 rfl rfl ?_
    refine own_bipush 21 Y2 (46 : Int32) d3_19 rfl rfl ?_
    refine own_icF 24 Y2 d3_21 (XT.ii_ne_f dt0) rfl ?_
    refine own_iloadN 25 Y2 d3_24 rfl rfl ?_
    refine own_ifT 33 Y2 d3_25 (XT.i0_ne_t (by decide)) (by decide) ?_
    refine own_seg (a0 := a0) hw a (1 : Int32) (0 : Int32) c0 Y2 (fun t => absurd t (own_at46 dt0)) (fun _ => ?_)
    refine own_iconst 87 Y2 (0 : Int32) d3_86 rfl rfl ?_
    exact own_retN Y2 (t := .boolean) rfl (by simp) d3_87 (by decide) (by decide) ⟨rfl, rfl, by rw [if_pos dt0] <;> rfl⟩
  · refine own_iloadN 19 Y2 d3_18 rfl rfl ?_
    refine own_bipush 21 Y2 (46 : Int32) d3_19 rfl rfl ?_
    refine own_icT 33 Y2 d3_21 (XT.ii_ne_t dt0) (by decide) ?_
    refine own_seg (a0 := a0) hw a (1 : Int32) (0 : Int32) c0 Y2 (fun at0 => ?_) (fun at0 => ?_)
    · refine own_iconst 82 Y2 (0 : Int32) d3_81 rfl rfl ?_
      refine own_istoreN 83 Y2 #[.val (.ref a), .val (.int (0 : Int32)), .val (.int (0 : Int32)), .val (.int c0)] d3_82 rfl rfl ?_
      refine own_goto 88 Y2 d3_83 (by decide) ?_
      refine own_iinc 91 Y2 #[.val (.ref a), .val (.int (0 : Int32)), .val (.int (1 : Int32)), .val (.int c0)] (1 : Int32) d3_88 rfl rfl rfl rfl ?_
      refine own_goto 4 Y2 d3_91 (by decide) ?_
      refine own_iloadN 5 Y2 d3_4 rfl rfl ?_
      refine own_aloadN 6 Y2 d3_5 rfl rfl rfl ?_
      refine own_callV 9 Y2 [] [(.int (1 : Int32))] S_a.1 (own_wd hw 28 rfl) (own_wd hw 29 rfl) (notFace_of_selects (args := #[]) (mvT Y2.warm (own_wd hw 31 rfl))) (own_wd hw 31 rfl) (own_wd hw 30 rfl) (own_wd hw 4 rfl) (own_wd hw 32 rfl) (c_len_4 l Z a0 hw a c0 c1 c2 c3 hn0 hn1 hn2 hn3 z fm _ n0 O WS S_a) d3_6 (by decide) (lenOf pdslen rfl) rfl rfl (by decide) (Nat.le_of_ble_eq_true rfl) (by decide) (by decide) rfl fun v3 T3 h3 L3 Y3 hQ3 => ?_
      obtain ⟨rfl, rfl, rfl⟩ := hQ3
      show own_G p e below _ (T3.setTop (mkF m 9 #[.val (.ref a), .val (.int (0 : Int32)), .val (.int (1 : Int32)), .val (.int c0)] [(.int (4 : Int32)), (.int (1 : Int32))]))
      refine own_icF 12 Y3 d3_9 (XT.ii_ge_f (by decide)) rfl ?_
      refine own_aloadN 13 Y3 d3_12 rfl rfl rfl ?_
      refine own_iloadN 14 Y3 d3_13 rfl rfl ?_
      refine own_callV 17 Y3 [(.int (1 : Int32))] [] S_a.1 (own_wd hw 49 rfl) (own_wd hw 50 rfl) (notFace_of_selects (args := #[]) (mvT Y3.warm (own_wd hw 52 rfl))) (own_wd hw 52 rfl) (own_wd hw 51 rfl) (own_wd hw 4 rfl) (own_wd hw 53 rfl) (c_cat_4_1 l Z a0 hw a c0 c1 c2 c3 hn0 hn1 hn2 hn3 z fm _ n0 O WS S_a) d3_14 (by decide) (lenOf pdscat rfl) rfl rfl (by decide) (Nat.le_of_ble_eq_true rfl) (by decide) (by decide) rfl fun v4 T4 h4 L4 Y4 hQ4 => ?_
      obtain ⟨rfl, rfl, rfl⟩ := hQ4
      show own_G p e below _ (T4.setTop (mkF m 17 #[.val (.ref a), .val (.int (0 : Int32)), .val (.int (1 : Int32)), .val (.int c0)] [(.int c1)]))
      refine own_istoreN 18 Y4 #[.val (.ref a), .val (.int (0 : Int32)), .val (.int (1 : Int32)), .val (.int c1)] d3_17 rfl rfl ?_
      by_cases dt1 : c1 = 46
      · refine own_iloadN 19 Y4 d3_18 rfl rfl ?_
        refine own_bipush 21 Y4 (46 : Int32) d3_19 rfl rfl ?_
        refine own_icF 24 Y4 d3_21 (XT.ii_ne_f dt1) rfl ?_
        refine own_iloadN 25 Y4 d3_24 rfl rfl ?_
        refine own_ifF 28 Y4 d3_25 (XT.i0_ne_f (by decide)) rfl ?_
        refine own_iconst 29 Y4 (1 : Int32) d3_28 rfl rfl ?_
        refine own_istoreN 30 Y4 #[.val (.ref a), .val (.int (1 : Int32)), .val (.int (1 : Int32)), .val (.int c1)] d3_29 rfl rfl ?_
        refine own_goto 88 Y4 d3_30 (by decide) ?_
        refine own_iinc 91 Y4 #[.val (.ref a), .val (.int (1 : Int32)), .val (.int (2 : Int32)), .val (.int c1)] (1 : Int32) d3_88 rfl rfl rfl rfl ?_
        refine own_goto 4 Y4 d3_91 (by decide) ?_
        refine own_iloadN 5 Y4 d3_4 rfl rfl ?_
        refine own_aloadN 6 Y4 d3_5 rfl rfl rfl ?_
        refine own_callV 9 Y4 [] [(.int (2 : Int32))] S_a.1 (own_wd hw 28 rfl) (own_wd hw 29 rfl) (notFace_of_selects (args := #[]) (mvT Y4.warm (own_wd hw 31 rfl))) (own_wd hw 31 rfl) (own_wd hw 30 rfl) (own_wd hw 4 rfl) (own_wd hw 32 rfl) (c_len_4 l Z a0 hw a c0 c1 c2 c3 hn0 hn1 hn2 hn3 z fm _ n0 O WS S_a) d3_6 (by decide) (lenOf pdslen rfl) rfl rfl (by decide) (Nat.le_of_ble_eq_true rfl) (by decide) (by decide) rfl fun v5 T5 h5 L5 Y5 hQ5 => ?_
        obtain ⟨rfl, rfl, rfl⟩ := hQ5
        show own_G p e below _ (T5.setTop (mkF m 9 #[.val (.ref a), .val (.int (1 : Int32)), .val (.int (2 : Int32)), .val (.int c1)] [(.int (4 : Int32)), (.int (2 : Int32))]))
        refine own_icF 12 Y5 d3_9 (XT.ii_ge_f (by decide)) rfl ?_
        refine own_aloadN 13 Y5 d3_12 rfl rfl rfl ?_
        refine own_iloadN 14 Y5 d3_13 rfl rfl ?_
        refine own_callV 17 Y5 [(.int (2 : Int32))] [] S_a.1 (own_wd hw 49 rfl) (own_wd hw 50 rfl) (notFace_of_selects (args := #[]) (mvT Y5.warm (own_wd hw 52 rfl))) (own_wd hw 52 rfl) (own_wd hw 51 rfl) (own_wd hw 4 rfl) (own_wd hw 53 rfl) (c_cat_4_2 l Z a0 hw a c0 c1 c2 c3 hn0 hn1 hn2 hn3 z fm _ n0 O WS S_a) d3_14 (by decide) (lenOf pdscat rfl) rfl rfl (by decide) (Nat.le_of_ble_eq_true rfl) (by decide) (by decide) rfl fun v6 T6 h6 L6 Y6 hQ6 => ?_
        obtain ⟨rfl, rfl, rfl⟩ := hQ6
        show own_G p e below _ (T6.setTop (mkF m 17 #[.val (.ref a), .val (.int (1 : Int32)), .val (.int (2 : Int32)), .val (.int c1)] [(.int c2)]))
        refine own_istoreN 18 Y6 #[.val (.ref a), .val (.int (1 : Int32)), .val (.int (2 : Int32)), .val (.int c2)] d3_17 rfl rfl ?_
        by_cases dt2 : c2 = 46
        · refine own_iloadN 19 Y6 d3_18 rfl rfl ?_
          refine own_bipush 21 Y6 (46 : Int32) d3_19 rfl rfl ?_
          refine own_icF 24 Y6 d3_21 (XT.ii_ne_f dt2) rfl ?_
          refine own_iloadN 25 Y6 d3_24 rfl rfl ?_
          refine own_ifT 33 Y6 d3_25 (XT.i0_ne_t (by decide)) (by decide) ?_
          refine own_seg (a0 := a0) hw a (1 : Int32) (2 : Int32) c2 Y6 (fun t => absurd t (own_at46 dt2)) (fun _ => ?_)
          refine own_iconst 87 Y6 (0 : Int32) d3_86 rfl rfl ?_
          exact own_retN Y6 (t := .boolean) rfl (by simp) d3_87 (by decide) (by decide) ⟨rfl, rfl, by rw [if_neg dt0, if_pos at0, if_pos dt1, if_pos dt2] <;> rfl⟩
        · refine own_iloadN 19 Y6 d3_18 rfl rfl ?_
          refine own_bipush 21 Y6 (46 : Int32) d3_19 rfl rfl ?_
          refine own_icT 33 Y6 d3_21 (XT.ii_ne_t dt2) (by decide) ?_
          refine own_seg (a0 := a0) hw a (1 : Int32) (2 : Int32) c2 Y6 (fun at2 => ?_) (fun at2 => ?_)
          · refine own_iconst 82 Y6 (0 : Int32) d3_81 rfl rfl ?_
            refine own_istoreN 83 Y6 #[.val (.ref a), .val (.int (0 : Int32)), .val (.int (2 : Int32)), .val (.int c2)] d3_82 rfl rfl ?_
            refine own_goto 88 Y6 d3_83 (by decide) ?_
            refine own_iinc 91 Y6 #[.val (.ref a), .val (.int (0 : Int32)), .val (.int (3 : Int32)), .val (.int c2)] (1 : Int32) d3_88 rfl rfl rfl rfl ?_
            refine own_goto 4 Y6 d3_91 (by decide) ?_
            refine own_iloadN 5 Y6 d3_4 rfl rfl ?_
            refine own_aloadN 6 Y6 d3_5 rfl rfl rfl ?_
            refine own_callV 9 Y6 [] [(.int (3 : Int32))] S_a.1 (own_wd hw 28 rfl) (own_wd hw 29 rfl) (notFace_of_selects (args := #[]) (mvT Y6.warm (own_wd hw 31 rfl))) (own_wd hw 31 rfl) (own_wd hw 30 rfl) (own_wd hw 4 rfl) (own_wd hw 32 rfl) (c_len_4 l Z a0 hw a c0 c1 c2 c3 hn0 hn1 hn2 hn3 z fm _ n0 O WS S_a) d3_6 (by decide) (lenOf pdslen rfl) rfl rfl (by decide) (Nat.le_of_ble_eq_true rfl) (by decide) (by decide) rfl fun v7 T7 h7 L7 Y7 hQ7 => ?_
            obtain ⟨rfl, rfl, rfl⟩ := hQ7
            show own_G p e below _ (T7.setTop (mkF m 9 #[.val (.ref a), .val (.int (0 : Int32)), .val (.int (3 : Int32)), .val (.int c2)] [(.int (4 : Int32)), (.int (3 : Int32))]))
            refine own_icF 12 Y7 d3_9 (XT.ii_ge_f (by decide)) rfl ?_
            refine own_aloadN 13 Y7 d3_12 rfl rfl rfl ?_
            refine own_iloadN 14 Y7 d3_13 rfl rfl ?_
            refine own_callV 17 Y7 [(.int (3 : Int32))] [] S_a.1 (own_wd hw 49 rfl) (own_wd hw 50 rfl) (notFace_of_selects (args := #[]) (mvT Y7.warm (own_wd hw 52 rfl))) (own_wd hw 52 rfl) (own_wd hw 51 rfl) (own_wd hw 4 rfl) (own_wd hw 53 rfl) (c_cat_4_3 l Z a0 hw a c0 c1 c2 c3 hn0 hn1 hn2 hn3 z fm _ n0 O WS S_a) d3_14 (by decide) (lenOf pdscat rfl) rfl rfl (by decide) (Nat.le_of_ble_eq_true rfl) (by decide) (by decide) rfl fun v8 T8 h8 L8 Y8 hQ8 => ?_
            obtain ⟨rfl, rfl, rfl⟩ := hQ8
            show own_G p e below _ (T8.setTop (mkF m 17 #[.val (.ref a), .val (.int (0 : Int32)), .val (.int (3 : Int32)), .val (.int c2)] [(.int c3)]))
            refine own_istoreN 18 Y8 #[.val (.ref a), .val (.int (0 : Int32)), .val (.int (3 : Int32)), .val (.int c3)] d3_17 rfl rfl ?_
            by_cases dt3 : c3 = 46
            · refine own_iloadN 19 Y8 d3_18 rfl rfl ?_
              refine own_bipush 21 Y8 (46 : Int32) d3_19 rfl rfl ?_
              refine own_icF 24 Y8 d3_21 (XT.ii_ne_f dt3) rfl ?_
              refine own_iloadN 25 Y8 d3_24 rfl rfl ?_
              refine own_ifF 28 Y8 d3_25 (XT.i0_ne_f (by decide)) rfl ?_
              refine own_iconst 29 Y8 (1 : Int32) d3_28 rfl rfl ?_
              refine own_istoreN 30 Y8 #[.val (.ref a), .val (.int (1 : Int32)), .val (.int (3 : Int32)), .val (.int c3)] d3_29 rfl rfl ?_
              refine own_goto 88 Y8 d3_30 (by decide) ?_
              refine own_iinc 91 Y8 #[.val (.ref a), .val (.int (1 : Int32)), .val (.int (4 : Int32)), .val (.int c3)] (1 : Int32) d3_88 rfl rfl rfl rfl ?_
              refine own_goto 4 Y8 d3_91 (by decide) ?_
              refine own_iloadN 5 Y8 d3_4 rfl rfl ?_
              refine own_aloadN 6 Y8 d3_5 rfl rfl rfl ?_
              refine own_callV 9 Y8 [] [(.int (4 : Int32))] S_a.1 (own_wd hw 28 rfl) (own_wd hw 29 rfl) (notFace_of_selects (args := #[]) (mvT Y8.warm (own_wd hw 31 rfl))) (own_wd hw 31 rfl) (own_wd hw 30 rfl) (own_wd hw 4 rfl) (own_wd hw 32 rfl) (c_len_4 l Z a0 hw a c0 c1 c2 c3 hn0 hn1 hn2 hn3 z fm _ n0 O WS S_a) d3_6 (by decide) (lenOf pdslen rfl) rfl rfl (by decide) (Nat.le_of_ble_eq_true rfl) (by decide) (by decide) rfl fun v9 T9 h9 L9 Y9 hQ9 => ?_
              obtain ⟨rfl, rfl, rfl⟩ := hQ9
              show own_G p e below _ (T9.setTop (mkF m 9 #[.val (.ref a), .val (.int (1 : Int32)), .val (.int (4 : Int32)), .val (.int c3)] [(.int (4 : Int32)), (.int (4 : Int32))]))
              refine own_icT 94 Y9 d3_9 (XT.ii_ge_t (by decide)) (by decide) ?_
              refine own_iloadN 95 Y9 d3_94 rfl rfl ?_
              refine own_ifT 102 Y9 d3_95 (XT.i0_ne_t (by decide)) (by decide) ?_
              refine own_iconst 103 Y9 (0 : Int32) d3_102 rfl rfl ?_
              exact own_retN Y9 (t := .boolean) rfl (by simp) d3_103 (by decide) (by decide) ⟨rfl, rfl, by rw [if_neg dt0, if_pos at0, if_pos dt1, if_neg dt2, if_pos at2, if_pos dt3] <;> rfl⟩
            · refine own_iloadN 19 Y8 d3_18 rfl rfl ?_
              refine own_bipush 21 Y8 (46 : Int32) d3_19 rfl rfl ?_
              refine own_icT 33 Y8 d3_21 (XT.ii_ne_t dt3) (by decide) ?_
              refine own_seg (a0 := a0) hw a (0 : Int32) (3 : Int32) c3 Y8 (fun at3 => ?_) (fun at3 => ?_)
              · refine own_iconst 82 Y8 (0 : Int32) d3_81 rfl rfl ?_
                refine own_istoreN 83 Y8 #[.val (.ref a), .val (.int (0 : Int32)), .val (.int (3 : Int32)), .val (.int c3)] d3_82 rfl rfl ?_
                refine own_goto 88 Y8 d3_83 (by decide) ?_
                refine own_iinc 91 Y8 #[.val (.ref a), .val (.int (0 : Int32)), .val (.int (4 : Int32)), .val (.int c3)] (1 : Int32) d3_88 rfl rfl rfl rfl ?_
                refine own_goto 4 Y8 d3_91 (by decide) ?_
                refine own_iloadN 5 Y8 d3_4 rfl rfl ?_
                refine own_aloadN 6 Y8 d3_5 rfl rfl rfl ?_
                refine own_callV 9 Y8 [] [(.int (4 : Int32))] S_a.1 (own_wd hw 28 rfl) (own_wd hw 29 rfl) (notFace_of_selects (args := #[]) (mvT Y8.warm (own_wd hw 31 rfl))) (own_wd hw 31 rfl) (own_wd hw 30 rfl) (own_wd hw 4 rfl) (own_wd hw 32 rfl) (c_len_4 l Z a0 hw a c0 c1 c2 c3 hn0 hn1 hn2 hn3 z fm _ n0 O WS S_a) d3_6 (by decide) (lenOf pdslen rfl) rfl rfl (by decide) (Nat.le_of_ble_eq_true rfl) (by decide) (by decide) rfl fun v10 T10 h10 L10 Y10 hQ10 => ?_
                obtain ⟨rfl, rfl, rfl⟩ := hQ10
                show own_G p e below _ (T10.setTop (mkF m 9 #[.val (.ref a), .val (.int (0 : Int32)), .val (.int (4 : Int32)), .val (.int c3)] [(.int (4 : Int32)), (.int (4 : Int32))]))
                refine own_icT 94 Y10 d3_9 (XT.ii_ge_t (by decide)) (by decide) ?_
                refine own_iloadN 95 Y10 d3_94 rfl rfl ?_
                refine own_ifF 98 Y10 d3_95 (XT.i0_ne_f (by decide)) rfl ?_
                refine own_iconst 99 Y10 (1 : Int32) d3_98 rfl rfl ?_
                refine own_goto 103 Y10 d3_99 (by decide) ?_
                exact own_retN Y10 (t := .boolean) rfl (by simp) d3_103 (by decide) (by decide) ⟨rfl, rfl, by rw [if_neg dt0, if_pos at0, if_pos dt1, if_neg dt2, if_pos at2, if_neg dt3, if_pos at3] <;> rfl⟩
              · refine own_iconst 87 Y8 (0 : Int32) d3_86 rfl rfl ?_
                exact own_retN Y8 (t := .boolean) rfl (by simp) d3_87 (by decide) (by decide) ⟨rfl, rfl, by rw [if_neg dt0, if_pos at0, if_pos dt1, if_neg dt2, if_pos at2, if_neg dt3, if_neg at3] <;> rfl⟩
          · refine own_iconst 87 Y6 (0 : Int32) d3_86 rfl rfl ?_
            exact own_retN Y6 (t := .boolean) rfl (by simp) d3_87 (by decide) (by decide) ⟨rfl, rfl, by rw [if_neg dt0, if_pos at0, if_pos dt1, if_neg dt2, if_neg at2] <;> rfl⟩
      · refine own_iloadN 19 Y4 d3_18 rfl rfl ?_
        refine own_bipush 21 Y4 (46 : Int32) d3_19 rfl rfl ?_
        refine own_icT 33 Y4 d3_21 (XT.ii_ne_t dt1) (by decide) ?_
        refine own_seg (a0 := a0) hw a (0 : Int32) (1 : Int32) c1 Y4 (fun at1 => ?_) (fun at1 => ?_)
        · refine own_iconst 82 Y4 (0 : Int32) d3_81 rfl rfl ?_
          refine own_istoreN 83 Y4 #[.val (.ref a), .val (.int (0 : Int32)), .val (.int (1 : Int32)), .val (.int c1)] d3_82 rfl rfl ?_
          refine own_goto 88 Y4 d3_83 (by decide) ?_
          refine own_iinc 91 Y4 #[.val (.ref a), .val (.int (0 : Int32)), .val (.int (2 : Int32)), .val (.int c1)] (1 : Int32) d3_88 rfl rfl rfl rfl ?_
          refine own_goto 4 Y4 d3_91 (by decide) ?_
          refine own_iloadN 5 Y4 d3_4 rfl rfl ?_
          refine own_aloadN 6 Y4 d3_5 rfl rfl rfl ?_
          refine own_callV 9 Y4 [] [(.int (2 : Int32))] S_a.1 (own_wd hw 28 rfl) (own_wd hw 29 rfl) (notFace_of_selects (args := #[]) (mvT Y4.warm (own_wd hw 31 rfl))) (own_wd hw 31 rfl) (own_wd hw 30 rfl) (own_wd hw 4 rfl) (own_wd hw 32 rfl) (c_len_4 l Z a0 hw a c0 c1 c2 c3 hn0 hn1 hn2 hn3 z fm _ n0 O WS S_a) d3_6 (by decide) (lenOf pdslen rfl) rfl rfl (by decide) (Nat.le_of_ble_eq_true rfl) (by decide) (by decide) rfl fun v11 T11 h11 L11 Y11 hQ11 => ?_
          obtain ⟨rfl, rfl, rfl⟩ := hQ11
          show own_G p e below _ (T11.setTop (mkF m 9 #[.val (.ref a), .val (.int (0 : Int32)), .val (.int (2 : Int32)), .val (.int c1)] [(.int (4 : Int32)), (.int (2 : Int32))]))
          refine own_icF 12 Y11 d3_9 (XT.ii_ge_f (by decide)) rfl ?_
          refine own_aloadN 13 Y11 d3_12 rfl rfl rfl ?_
          refine own_iloadN 14 Y11 d3_13 rfl rfl ?_
          refine own_callV 17 Y11 [(.int (2 : Int32))] [] S_a.1 (own_wd hw 49 rfl) (own_wd hw 50 rfl) (notFace_of_selects (args := #[]) (mvT Y11.warm (own_wd hw 52 rfl))) (own_wd hw 52 rfl) (own_wd hw 51 rfl) (own_wd hw 4 rfl) (own_wd hw 53 rfl) (c_cat_4_2 l Z a0 hw a c0 c1 c2 c3 hn0 hn1 hn2 hn3 z fm _ n0 O WS S_a) d3_14 (by decide) (lenOf pdscat rfl) rfl rfl (by decide) (Nat.le_of_ble_eq_true rfl) (by decide) (by decide) rfl fun v12 T12 h12 L12 Y12 hQ12 => ?_
          obtain ⟨rfl, rfl, rfl⟩ := hQ12
          show own_G p e below _ (T12.setTop (mkF m 17 #[.val (.ref a), .val (.int (0 : Int32)), .val (.int (2 : Int32)), .val (.int c1)] [(.int c2)]))
          refine own_istoreN 18 Y12 #[.val (.ref a), .val (.int (0 : Int32)), .val (.int (2 : Int32)), .val (.int c2)] d3_17 rfl rfl ?_
          by_cases dt2 : c2 = 46
          · refine own_iloadN 19 Y12 d3_18 rfl rfl ?_
            refine own_bipush 21 Y12 (46 : Int32) d3_19 rfl rfl ?_
            refine own_icF 24 Y12 d3_21 (XT.ii_ne_f dt2) rfl ?_
            refine own_iloadN 25 Y12 d3_24 rfl rfl ?_
            refine own_ifF 28 Y12 d3_25 (XT.i0_ne_f (by decide)) rfl ?_
            refine own_iconst 29 Y12 (1 : Int32) d3_28 rfl rfl ?_
            refine own_istoreN 30 Y12 #[.val (.ref a), .val (.int (1 : Int32)), .val (.int (2 : Int32)), .val (.int c2)] d3_29 rfl rfl ?_
            refine own_goto 88 Y12 d3_30 (by decide) ?_
            refine own_iinc 91 Y12 #[.val (.ref a), .val (.int (1 : Int32)), .val (.int (3 : Int32)), .val (.int c2)] (1 : Int32) d3_88 rfl rfl rfl rfl ?_
            refine own_goto 4 Y12 d3_91 (by decide) ?_
            refine own_iloadN 5 Y12 d3_4 rfl rfl ?_
            refine own_aloadN 6 Y12 d3_5 rfl rfl rfl ?_
            refine own_callV 9 Y12 [] [(.int (3 : Int32))] S_a.1 (own_wd hw 28 rfl) (own_wd hw 29 rfl) (notFace_of_selects (args := #[]) (mvT Y12.warm (own_wd hw 31 rfl))) (own_wd hw 31 rfl) (own_wd hw 30 rfl) (own_wd hw 4 rfl) (own_wd hw 32 rfl) (c_len_4 l Z a0 hw a c0 c1 c2 c3 hn0 hn1 hn2 hn3 z fm _ n0 O WS S_a) d3_6 (by decide) (lenOf pdslen rfl) rfl rfl (by decide) (Nat.le_of_ble_eq_true rfl) (by decide) (by decide) rfl fun v13 T13 h13 L13 Y13 hQ13 => ?_
            obtain ⟨rfl, rfl, rfl⟩ := hQ13
            show own_G p e below _ (T13.setTop (mkF m 9 #[.val (.ref a), .val (.int (1 : Int32)), .val (.int (3 : Int32)), .val (.int c2)] [(.int (4 : Int32)), (.int (3 : Int32))]))
            refine own_icF 12 Y13 d3_9 (XT.ii_ge_f (by decide)) rfl ?_
            refine own_aloadN 13 Y13 d3_12 rfl rfl rfl ?_
            refine own_iloadN 14 Y13 d3_13 rfl rfl ?_
            refine own_callV 17 Y13 [(.int (3 : Int32))] [] S_a.1 (own_wd hw 49 rfl) (own_wd hw 50 rfl) (notFace_of_selects (args := #[]) (mvT Y13.warm (own_wd hw 52 rfl))) (own_wd hw 52 rfl) (own_wd hw 51 rfl) (own_wd hw 4 rfl) (own_wd hw 53 rfl) (c_cat_4_3 l Z a0 hw a c0 c1 c2 c3 hn0 hn1 hn2 hn3 z fm _ n0 O WS S_a) d3_14 (by decide) (lenOf pdscat rfl) rfl rfl (by decide) (Nat.le_of_ble_eq_true rfl) (by decide) (by decide) rfl fun v14 T14 h14 L14 Y14 hQ14 => ?_
            obtain ⟨rfl, rfl, rfl⟩ := hQ14
            show own_G p e below _ (T14.setTop (mkF m 17 #[.val (.ref a), .val (.int (1 : Int32)), .val (.int (3 : Int32)), .val (.int c2)] [(.int c3)]))
            refine own_istoreN 18 Y14 #[.val (.ref a), .val (.int (1 : Int32)), .val (.int (3 : Int32)), .val (.int c3)] d3_17 rfl rfl ?_
            by_cases dt3 : c3 = 46
            · refine own_iloadN 19 Y14 d3_18 rfl rfl ?_
              refine own_bipush 21 Y14 (46 : Int32) d3_19 rfl rfl ?_
              refine own_icF 24 Y14 d3_21 (XT.ii_ne_f dt3) rfl ?_
              refine own_iloadN 25 Y14 d3_24 rfl rfl ?_
              refine own_ifT 33 Y14 d3_25 (XT.i0_ne_t (by decide)) (by decide) ?_
              refine own_seg (a0 := a0) hw a (1 : Int32) (3 : Int32) c3 Y14 (fun t => absurd t (own_at46 dt3)) (fun _ => ?_)
              refine own_iconst 87 Y14 (0 : Int32) d3_86 rfl rfl ?_
              exact own_retN Y14 (t := .boolean) rfl (by simp) d3_87 (by decide) (by decide) ⟨rfl, rfl, by rw [if_neg dt0, if_pos at0, if_neg dt1, if_pos at1, if_pos dt2, if_pos dt3] <;> rfl⟩
            · refine own_iloadN 19 Y14 d3_18 rfl rfl ?_
              refine own_bipush 21 Y14 (46 : Int32) d3_19 rfl rfl ?_
              refine own_icT 33 Y14 d3_21 (XT.ii_ne_t dt3) (by decide) ?_
              refine own_seg (a0 := a0) hw a (1 : Int32) (3 : Int32) c3 Y14 (fun at3 => ?_) (fun at3 => ?_)
              · refine own_iconst 82 Y14 (0 : Int32) d3_81 rfl rfl ?_
                refine own_istoreN 83 Y14 #[.val (.ref a), .val (.int (0 : Int32)), .val (.int (3 : Int32)), .val (.int c3)] d3_82 rfl rfl ?_
                refine own_goto 88 Y14 d3_83 (by decide) ?_
                refine own_iinc 91 Y14 #[.val (.ref a), .val (.int (0 : Int32)), .val (.int (4 : Int32)), .val (.int c3)] (1 : Int32) d3_88 rfl rfl rfl rfl ?_
                refine own_goto 4 Y14 d3_91 (by decide) ?_
                refine own_iloadN 5 Y14 d3_4 rfl rfl ?_
                refine own_aloadN 6 Y14 d3_5 rfl rfl rfl ?_
                refine own_callV 9 Y14 [] [(.int (4 : Int32))] S_a.1 (own_wd hw 28 rfl) (own_wd hw 29 rfl) (notFace_of_selects (args := #[]) (mvT Y14.warm (own_wd hw 31 rfl))) (own_wd hw 31 rfl) (own_wd hw 30 rfl) (own_wd hw 4 rfl) (own_wd hw 32 rfl) (c_len_4 l Z a0 hw a c0 c1 c2 c3 hn0 hn1 hn2 hn3 z fm _ n0 O WS S_a) d3_6 (by decide) (lenOf pdslen rfl) rfl rfl (by decide) (Nat.le_of_ble_eq_true rfl) (by decide) (by decide) rfl fun v15 T15 h15 L15 Y15 hQ15 => ?_
                obtain ⟨rfl, rfl, rfl⟩ := hQ15
                show own_G p e below _ (T15.setTop (mkF m 9 #[.val (.ref a), .val (.int (0 : Int32)), .val (.int (4 : Int32)), .val (.int c3)] [(.int (4 : Int32)), (.int (4 : Int32))]))
                refine own_icT 94 Y15 d3_9 (XT.ii_ge_t (by decide)) (by decide) ?_
                refine own_iloadN 95 Y15 d3_94 rfl rfl ?_
                refine own_ifF 98 Y15 d3_95 (XT.i0_ne_f (by decide)) rfl ?_
                refine own_iconst 99 Y15 (1 : Int32) d3_98 rfl rfl ?_
                refine own_goto 103 Y15 d3_99 (by decide) ?_
                exact own_retN Y15 (t := .boolean) rfl (by simp) d3_103 (by decide) (by decide) ⟨rfl, rfl, by rw [if_neg dt0, if_pos at0, if_neg dt1, if_pos at1, if_pos dt2, if_neg dt3, if_pos at3] <;> rfl⟩
              · refine own_iconst 87 Y14 (0 : Int32) d3_86 rfl rfl ?_
                exact own_retN Y14 (t := .boolean) rfl (by simp) d3_87 (by decide) (by decide) ⟨rfl, rfl, by rw [if_neg dt0, if_pos at0, if_neg dt1, if_pos at1, if_pos dt2, if_neg dt3, if_neg at3] <;> rfl⟩
          · refine own_iloadN 19 Y12 d3_18 rfl rfl ?_
            refine own_bipush 21 Y12 (46 : Int32) d3_19 rfl rfl ?_
            refine own_icT 33 Y12 d3_21 (XT.ii_ne_t dt2) (by decide) ?_
            refine own_seg (a0 := a0) hw a (0 : Int32) (2 : Int32) c2 Y12 (fun at2 => ?_) (fun at2 => ?_)
            · refine own_iconst 82 Y12 (0 : Int32) d3_81 rfl rfl ?_
              refine own_istoreN 83 Y12 #[.val (.ref a), .val (.int (0 : Int32)), .val (.int (2 : Int32)), .val (.int c2)] d3_82 rfl rfl ?_
              refine own_goto 88 Y12 d3_83 (by decide) ?_
              refine own_iinc 91 Y12 #[.val (.ref a), .val (.int (0 : Int32)), .val (.int (3 : Int32)), .val (.int c2)] (1 : Int32) d3_88 rfl rfl rfl rfl ?_
              refine own_goto 4 Y12 d3_91 (by decide) ?_
              refine own_iloadN 5 Y12 d3_4 rfl rfl ?_
              refine own_aloadN 6 Y12 d3_5 rfl rfl rfl ?_
              refine own_callV 9 Y12 [] [(.int (3 : Int32))] S_a.1 (own_wd hw 28 rfl) (own_wd hw 29 rfl) (notFace_of_selects (args := #[]) (mvT Y12.warm (own_wd hw 31 rfl))) (own_wd hw 31 rfl) (own_wd hw 30 rfl) (own_wd hw 4 rfl) (own_wd hw 32 rfl) (c_len_4 l Z a0 hw a c0 c1 c2 c3 hn0 hn1 hn2 hn3 z fm _ n0 O WS S_a) d3_6 (by decide) (lenOf pdslen rfl) rfl rfl (by decide) (Nat.le_of_ble_eq_true rfl) (by decide) (by decide) rfl fun v16 T16 h16 L16 Y16 hQ16 => ?_
              obtain ⟨rfl, rfl, rfl⟩ := hQ16
              show own_G p e below _ (T16.setTop (mkF m 9 #[.val (.ref a), .val (.int (0 : Int32)), .val (.int (3 : Int32)), .val (.int c2)] [(.int (4 : Int32)), (.int (3 : Int32))]))
              refine own_icF 12 Y16 d3_9 (XT.ii_ge_f (by decide)) rfl ?_
              refine own_aloadN 13 Y16 d3_12 rfl rfl rfl ?_
              refine own_iloadN 14 Y16 d3_13 rfl rfl ?_
              refine own_callV 17 Y16 [(.int (3 : Int32))] [] S_a.1 (own_wd hw 49 rfl) (own_wd hw 50 rfl) (notFace_of_selects (args := #[]) (mvT Y16.warm (own_wd hw 52 rfl))) (own_wd hw 52 rfl) (own_wd hw 51 rfl) (own_wd hw 4 rfl) (own_wd hw 53 rfl) (c_cat_4_3 l Z a0 hw a c0 c1 c2 c3 hn0 hn1 hn2 hn3 z fm _ n0 O WS S_a) d3_14 (by decide) (lenOf pdscat rfl) rfl rfl (by decide) (Nat.le_of_ble_eq_true rfl) (by decide) (by decide) rfl fun v17 T17 h17 L17 Y17 hQ17 => ?_
              obtain ⟨rfl, rfl, rfl⟩ := hQ17
              show own_G p e below _ (T17.setTop (mkF m 17 #[.val (.ref a), .val (.int (0 : Int32)), .val (.int (3 : Int32)), .val (.int c2)] [(.int c3)]))
              refine own_istoreN 18 Y17 #[.val (.ref a), .val (.int (0 : Int32)), .val (.int (3 : Int32)), .val (.int c3)] d3_17 rfl rfl ?_
              by_cases dt3 : c3 = 46
              · refine own_iloadN 19 Y17 d3_18 rfl rfl ?_
                refine own_bipush 21 Y17 (46 : Int32) d3_19 rfl rfl ?_
                refine own_icF 24 Y17 d3_21 (XT.ii_ne_f dt3) rfl ?_
                refine own_iloadN 25 Y17 d3_24 rfl rfl ?_
                refine own_ifF 28 Y17 d3_25 (XT.i0_ne_f (by decide)) rfl ?_
                refine own_iconst 29 Y17 (1 : Int32) d3_28 rfl rfl ?_
                refine own_istoreN 30 Y17 #[.val (.ref a), .val (.int (1 : Int32)), .val (.int (3 : Int32)), .val (.int c3)] d3_29 rfl rfl ?_
                refine own_goto 88 Y17 d3_30 (by decide) ?_
                refine own_iinc 91 Y17 #[.val (.ref a), .val (.int (1 : Int32)), .val (.int (4 : Int32)), .val (.int c3)] (1 : Int32) d3_88 rfl rfl rfl rfl ?_
                refine own_goto 4 Y17 d3_91 (by decide) ?_
                refine own_iloadN 5 Y17 d3_4 rfl rfl ?_
                refine own_aloadN 6 Y17 d3_5 rfl rfl rfl ?_
                refine own_callV 9 Y17 [] [(.int (4 : Int32))] S_a.1 (own_wd hw 28 rfl) (own_wd hw 29 rfl) (notFace_of_selects (args := #[]) (mvT Y17.warm (own_wd hw 31 rfl))) (own_wd hw 31 rfl) (own_wd hw 30 rfl) (own_wd hw 4 rfl) (own_wd hw 32 rfl) (c_len_4 l Z a0 hw a c0 c1 c2 c3 hn0 hn1 hn2 hn3 z fm _ n0 O WS S_a) d3_6 (by decide) (lenOf pdslen rfl) rfl rfl (by decide) (Nat.le_of_ble_eq_true rfl) (by decide) (by decide) rfl fun v18 T18 h18 L18 Y18 hQ18 => ?_
                obtain ⟨rfl, rfl, rfl⟩ := hQ18
                show own_G p e below _ (T18.setTop (mkF m 9 #[.val (.ref a), .val (.int (1 : Int32)), .val (.int (4 : Int32)), .val (.int c3)] [(.int (4 : Int32)), (.int (4 : Int32))]))
                refine own_icT 94 Y18 d3_9 (XT.ii_ge_t (by decide)) (by decide) ?_
                refine own_iloadN 95 Y18 d3_94 rfl rfl ?_
                refine own_ifT 102 Y18 d3_95 (XT.i0_ne_t (by decide)) (by decide) ?_
                refine own_iconst 103 Y18 (0 : Int32) d3_102 rfl rfl ?_
                exact own_retN Y18 (t := .boolean) rfl (by simp) d3_103 (by decide) (by decide) ⟨rfl, rfl, by rw [if_neg dt0, if_pos at0, if_neg dt1, if_pos at1, if_neg dt2, if_pos at2, if_pos dt3] <;> rfl⟩
              · refine own_iloadN 19 Y17 d3_18 rfl rfl ?_
                refine own_bipush 21 Y17 (46 : Int32) d3_19 rfl rfl ?_
                refine own_icT 33 Y17 d3_21 (XT.ii_ne_t dt3) (by decide) ?_
                refine own_seg (a0 := a0) hw a (0 : Int32) (3 : Int32) c3 Y17 (fun at3 => ?_) (fun at3 => ?_)
                · refine own_iconst 82 Y17 (0 : Int32) d3_81 rfl rfl ?_
                  refine own_istoreN 83 Y17 #[.val (.ref a), .val (.int (0 : Int32)), .val (.int (3 : Int32)), .val (.int c3)] d3_82 rfl rfl ?_
                  refine own_goto 88 Y17 d3_83 (by decide) ?_
                  refine own_iinc 91 Y17 #[.val (.ref a), .val (.int (0 : Int32)), .val (.int (4 : Int32)), .val (.int c3)] (1 : Int32) d3_88 rfl rfl rfl rfl ?_
                  refine own_goto 4 Y17 d3_91 (by decide) ?_
                  refine own_iloadN 5 Y17 d3_4 rfl rfl ?_
                  refine own_aloadN 6 Y17 d3_5 rfl rfl rfl ?_
                  refine own_callV 9 Y17 [] [(.int (4 : Int32))] S_a.1 (own_wd hw 28 rfl) (own_wd hw 29 rfl) (notFace_of_selects (args := #[]) (mvT Y17.warm (own_wd hw 31 rfl))) (own_wd hw 31 rfl) (own_wd hw 30 rfl) (own_wd hw 4 rfl) (own_wd hw 32 rfl) (c_len_4 l Z a0 hw a c0 c1 c2 c3 hn0 hn1 hn2 hn3 z fm _ n0 O WS S_a) d3_6 (by decide) (lenOf pdslen rfl) rfl rfl (by decide) (Nat.le_of_ble_eq_true rfl) (by decide) (by decide) rfl fun v19 T19 h19 L19 Y19 hQ19 => ?_
                  obtain ⟨rfl, rfl, rfl⟩ := hQ19
                  show own_G p e below _ (T19.setTop (mkF m 9 #[.val (.ref a), .val (.int (0 : Int32)), .val (.int (4 : Int32)), .val (.int c3)] [(.int (4 : Int32)), (.int (4 : Int32))]))
                  refine own_icT 94 Y19 d3_9 (XT.ii_ge_t (by decide)) (by decide) ?_
                  refine own_iloadN 95 Y19 d3_94 rfl rfl ?_
                  refine own_ifF 98 Y19 d3_95 (XT.i0_ne_f (by decide)) rfl ?_
                  refine own_iconst 99 Y19 (1 : Int32) d3_98 rfl rfl ?_
                  refine own_goto 103 Y19 d3_99 (by decide) ?_
                  exact own_retN Y19 (t := .boolean) rfl (by simp) d3_103 (by decide) (by decide) ⟨rfl, rfl, by rw [if_neg dt0, if_pos at0, if_neg dt1, if_pos at1, if_neg dt2, if_pos at2, if_neg dt3, if_pos at3] <;> rfl⟩
                · refine own_iconst 87 Y17 (0 : Int32) d3_86 rfl rfl ?_
                  exact own_retN Y17 (t := .boolean) rfl (by simp) d3_87 (by decide) (by decide) ⟨rfl, rfl, by rw [if_neg dt0, if_pos at0, if_neg dt1, if_pos at1, if_neg dt2, if_pos at2, if_neg dt3, if_neg at3] <;> rfl⟩
            · refine own_iconst 87 Y12 (0 : Int32) d3_86 rfl rfl ?_
              exact own_retN Y12 (t := .boolean) rfl (by simp) d3_87 (by decide) (by decide) ⟨rfl, rfl, by rw [if_neg dt0, if_pos at0, if_neg dt1, if_pos at1, if_neg dt2, if_neg at2] <;> rfl⟩
        · refine own_iconst 87 Y4 (0 : Int32) d3_86 rfl rfl ?_
          exact own_retN Y4 (t := .boolean) rfl (by simp) d3_87 (by decide) (by decide) ⟨rfl, rfl, by rw [if_neg dt0, if_pos at0, if_neg dt1, if_neg at1] <;> rfl⟩
    · refine own_iconst 87 Y2 (0 : Int32) d3_86 rfl rfl ?_
      exact own_retN Y2 (t := .boolean) rfl (by simp) d3_87 (by decide) (by decide) ⟨rfl, rfl, by rw [if_neg dt0, if_neg at0] <;> rfl⟩
def Q0 (n0 : Nat) (v : Option Value) (h : Heap) (L : List Loc) : Prop := v = some (.int 1) ∧ Fr n0 L
set_option maxRecDepth 65536 in
set_option maxHeartbeats 4000000 in
theorem c_law (l : Launch) (Z : State) (a0 : Array Value) (hw : ∀ d ∈ tables_1, d.before a0 Z = true) (x0 x1 x2 x3 x4 : Int32) (z : Int32) (fm : Value) (h0 : Heap) (n0 : Nat) (O : Old Z n0 h0) (WS : own_Ws Z z fm) (Zs : n0 ≤ h0.size) : own_MW l x code maxLocals ret tables_1 room_1 Z EL0 #[.int x0, .int x1, .int x2, .int x3, .int x4] h0 (Q0 n0) := by
  refine own_metW (own_el hw) pl0 (Lf := #[.val (.int x0), .val (.int x1), .val (.int x2), .val (.int x3), .val (.int x4), .unset, .unset, .unset, .unset, .unset, .unset, .unset, .unset, .unset, .unset, .unset]) (fun m => by first | (simp [entryFrame, mkF, argsToLocals, Value.category, maxLocals]; done) | rfl) ?_
  intro p e s m below meth c T Y H _
  refine own_iloadN 1 Y at_0 rfl rfl ?_
  refine own_ldcI 3 Y (own_wd hw 0 rfl) at_1 rfl ?_
  refine own_iand 4 Y at_3 rfl ?_
  refine own_iconst 5 Y (5 : Int32) at_4 rfl rfl ?_
  refine own_irem 6 Y at_5 (by decide) rfl ?_
  have N := Fr.nil n0
  rcases own_mod5 x0 with e5 | e5 | e5 | e5 | e5
  · rw [e5]
    refine own_istore 8 Y #[.val (.int x0), .val (.int x1), .val (.int x2), .val (.int x3), .val (.int x4), .val (.int (0 : Int32)), .unset, .unset, .unset, .unset, .unset, .unset, .unset, .unset, .unset, .unset] at_6 rfl rfl ?_
    refine own_iloadN 9 Y at_8 rfl rfl ?_
    refine own_ldcI 11 Y (own_wd hw 1 rfl) at_9 rfl ?_
    refine own_iand 12 Y at_11 rfl ?_
    refine own_i2c 13 Y at_12 rfl ?_
    have hn0 : nar .char (x1 &&& (65535 : Int32)).toUInt32.toUInt16.toUInt32.toInt32 = (x1 &&& (65535 : Int32)).toUInt32.toUInt16.toUInt32.toInt32 := own_nar2 _
    revert hn0
    generalize (x1 &&& (65535 : Int32)).toUInt32.toUInt16.toUInt32.toInt32 = c0
    intro hn0
    refine own_istore 15 Y #[.val (.int x0), .val (.int x1), .val (.int x2), .val (.int x3), .val (.int x4), .val (.int (0 : Int32)), .val (.int c0), .unset, .unset, .unset, .unset, .unset, .unset, .unset, .unset, .unset] at_13 rfl rfl ?_
    refine own_iloadN 16 Y at_15 rfl rfl ?_
    refine own_ldcI 18 Y (own_wd hw 1 rfl) at_16 rfl ?_
    refine own_iand 19 Y at_18 rfl ?_
    refine own_i2c 20 Y at_19 rfl ?_
    have hn1 : nar .char (x2 &&& (65535 : Int32)).toUInt32.toUInt16.toUInt32.toInt32 = (x2 &&& (65535 : Int32)).toUInt32.toUInt16.toUInt32.toInt32 := own_nar2 _
    revert hn1
    generalize (x2 &&& (65535 : Int32)).toUInt32.toUInt16.toUInt32.toInt32 = c1
    intro hn1
    refine own_istore 22 Y #[.val (.int x0), .val (.int x1), .val (.int x2), .val (.int x3), .val (.int x4), .val (.int (0 : Int32)), .val (.int c0), .val (.int c1), .unset, .unset, .unset, .unset, .unset, .unset, .unset, .unset] at_20 rfl rfl ?_
    refine own_iloadN 23 Y at_22 rfl rfl ?_
    refine own_ldcI 25 Y (own_wd hw 1 rfl) at_23 rfl ?_
    refine own_iand 26 Y at_25 rfl ?_
    refine own_i2c 27 Y at_26 rfl ?_
    have hn2 : nar .char (x3 &&& (65535 : Int32)).toUInt32.toUInt16.toUInt32.toInt32 = (x3 &&& (65535 : Int32)).toUInt32.toUInt16.toUInt32.toInt32 := own_nar2 _
    revert hn2
    generalize (x3 &&& (65535 : Int32)).toUInt32.toUInt16.toUInt32.toInt32 = c2
    intro hn2
    refine own_istore 29 Y #[.val (.int x0), .val (.int x1), .val (.int x2), .val (.int x3), .val (.int x4), .val (.int (0 : Int32)), .val (.int c0), .val (.int c1), .val (.int c2), .unset, .unset, .unset, .unset, .unset, .unset, .unset] at_27 rfl rfl ?_
    refine own_iload 31 Y at_29 rfl rfl ?_
    refine own_ldcI 33 Y (own_wd hw 1 rfl) at_31 rfl ?_
    refine own_iand 34 Y at_33 rfl ?_
    refine own_i2c 35 Y at_34 rfl ?_
    have hn3 : nar .char (x4 &&& (65535 : Int32)).toUInt32.toUInt16.toUInt32.toInt32 = (x4 &&& (65535 : Int32)).toUInt32.toUInt16.toUInt32.toInt32 := own_nar2 _
    revert hn3
    generalize (x4 &&& (65535 : Int32)).toUInt32.toUInt16.toUInt32.toInt32 = c3
    intro hn3
    refine own_istore 37 Y #[.val (.int x0), .val (.int x1), .val (.int x2), .val (.int x3), .val (.int x4), .val (.int (0 : Int32)), .val (.int c0), .val (.int c1), .val (.int c2), .val (.int c3), .unset, .unset, .unset, .unset, .unset, .unset] at_35 rfl rfl ?_
    refine own_iload 39 Y at_37 rfl rfl ?_
    refine own_ifF 42 Y at_39 (XT.i0_ne_f (by decide)) rfl ?_
    refine own_newO 45 Y (own_wd hw 2 rfl) (own_wd hw 3 rfl) (own_wd hw 4 rfl) at_42 (by decide) (by decide) rfl fun T1 h1 x Y1 g_x E1 X_x D1 => ?_
    have gn_x : n0 ≤ x := by rw [g_x]; exact Zs
    have sn_x := own_sNew H E1 g_x
    have Zs := Nat.le_trans Zs E1.1
    have O := O.ext E1
    have H := H.ext E1
    have sf_x := sn_x
    have F_x_value := D1 (Or.inr (own_wd hw 18 rfl)) (ty := (.array .byte)) (by decide)
    have F_x_coder := D1 (Or.inr (own_wd hw 19 rfl)) (ty := .byte) (by decide)
    refine own_dup 46 Y1 at_45 rfl rfl ?_
    refine own_iconst 47 Y1 (0 : Int32) at_46 rfl rfl ?_
    refine own_newP 49 Y1 (own_wd hw 5 rfl) 0 at_47 (by decide) (by decide) (by decide) (by decide) (by decide) rfl fun T2 h2 ca k_ca Y2 g_ca E2 V_ca => ?_
    have ne_x_ca : x ≠ ca := by rw [g_ca]; exact Nat.ne_of_lt X_x.lt
    have gn_ca : n0 ≤ ca := by rw [g_ca]; exact Zs
    have sn_ca := own_sNew H E2 g_ca
    have sf_x := H.sExt E2 sf_x
    have Zs := Nat.le_trans Zs E2.1
    have O := O.ext E2
    have H := H.ext E2
    have X_x := X_x.ext E2
    have F_x_value := F_x_value.ext E2
    have F_x_coder := F_x_coder.ext E2
    have sf_ca := sn_ca
    have V_ca : Arv Z h2 ca k_ca .char (0 : Int32) [] (.int (0 : Int32)) := V_ca.pad (pad_rep [] _ 0)
    refine own_callIW 52 Y2 H [(.ref ca)] [(.ref x)] rfl (own_wd hw 6 rfl) (own_wd hw 7 rfl) (own_wd hw 4 rfl) (own_wd hw 8 rfl) (c_new1_0 l Z a0 hw x ca _ n0 gn_x _ X_x F_x_value F_x_coder k_ca V_ca) at_49 (by decide) (lenOf pdsnew1 rfl) rfl rfl (by decide) (Nat.le_of_ble_eq_true rfl) (by decide) (by decide) rfl fun v3 T3 h3 L3 vm3 Y3 H3 C3 hQ3 => ?_
    have sf_x := C3.safe X_x.lt sf_x
    have sf_ca := C3.safe V_ca.lt sf_ca
    have H := H3
    obtain ⟨rfl, K3, N3, X_x, d, kd, F_x_value, F_x_coder, V_d⟩ := hQ3
    have S_x : Scont_0 Z _ x := ⟨X_x, d, kd, F_x_value, Or.inl ⟨F_x_coder, V_d⟩⟩
    have O := O.keep K3 (allS gn_x all0)
    have N := N.app N3
    show own_G p e below _ (T3.setTop (mkF m 52 #[.val (.int x0), .val (.int x1), .val (.int x2), .val (.int x3), .val (.int x4), .val (.int (0 : Int32)), .val (.int c0), .val (.int c1), .val (.int c2), .val (.int c3), .unset, .unset, .unset, .unset, .unset, .unset] [(.ref x)]))
    refine own_astore 54 Y3 #[.val (.int x0), .val (.int x1), .val (.int x2), .val (.int x3), .val (.int x4), .val (.int (0 : Int32)), .val (.int c0), .val (.int c1), .val (.int c2), .val (.int c3), .val (.ref x), .unset, .unset, .unset, .unset, .unset] at_52 rfl rfl rfl ?_
    refine own_goto 182 Y3 at_54 (by decide) ?_
    refine own_aload 184 Y3 at_182 rfl rfl rfl ?_
    refine own_callS 187 Y3 [(.ref x)] [] (own_wd hw 24 rfl) (own_wd hw 25 rfl) (own_wd hw 26 rfl) (own_wd hw 27 rfl) (c_ism_0 l Z a0 hw x  z fm _ n0 O WS S_x) at_184 (by decide) (lenOf pd3 rfl) rfl rfl (by decide) (Nat.le_of_ble_eq_true rfl) (by decide) (by decide) rfl fun v4 T4 h4 L4 Y4 hQ4 => ?_
    obtain ⟨rfl, rfl, rfl⟩ := hQ4
    have N := N.app (Fr.nil n0)
    show own_G p e below _ (T4.setTop (mkF m 187 #[.val (.int x0), .val (.int x1), .val (.int x2), .val (.int x3), .val (.int x4), .val (.int (0 : Int32)), .val (.int c0), .val (.int c1), .val (.int c2), .val (.int c3), .val (.ref x), .unset, .unset, .unset, .unset, .unset] [(.int (0 : Int32))]))
    refine own_istore 189 Y4 #[.val (.int x0), .val (.int x1), .val (.int x2), .val (.int x3), .val (.int x4), .val (.int (0 : Int32)), .val (.int c0), .val (.int c1), .val (.int c2), .val (.int c3), .val (.ref x), .val (.int (0 : Int32)), .unset, .unset, .unset, .unset] at_187 rfl rfl ?_
    refine own_iload 191 Y4 at_189 rfl rfl ?_
    refine own_ifF 194 Y4 at_191 (XT.i0_ne_f (by decide)) rfl ?_
    refine own_iconst 195 Y4 (0 : Int32) at_194 rfl rfl ?_
    refine own_istore 197 Y4 #[.val (.int x0), .val (.int x1), .val (.int x2), .val (.int x3), .val (.int x4), .val (.int (0 : Int32)), .val (.int c0), .val (.int c1), .val (.int c2), .val (.int c3), .val (.ref x), .val (.int (0 : Int32)), .val (.int (0 : Int32)), .unset, .unset, .unset] at_195 rfl rfl ?_
    refine own_goto 398 Y4 at_197 (by decide) ?_
    refine own_iload 400 Y4 at_398 rfl rfl ?_
    refine own_iload 402 Y4 at_400 rfl rfl ?_
    refine own_icF 405 Y4 at_402 (XT.ii_ne_f (by decide)) rfl ?_
    refine own_iconst 406 Y4 (1 : Int32) at_405 rfl rfl ?_
    refine own_goto 410 Y4 at_406 (by decide) ?_
    exact own_retNW Y4 H (t := .boolean) rfl (by simp) at_410 (by decide) (by decide) ⟨rfl, N⟩
  · rw [e5]
    refine own_istore 8 Y #[.val (.int x0), .val (.int x1), .val (.int x2), .val (.int x3), .val (.int x4), .val (.int (1 : Int32)), .unset, .unset, .unset, .unset, .unset, .unset, .unset, .unset, .unset, .unset] at_6 rfl rfl ?_
    refine own_iloadN 9 Y at_8 rfl rfl ?_
    refine own_ldcI 11 Y (own_wd hw 1 rfl) at_9 rfl ?_
    refine own_iand 12 Y at_11 rfl ?_
    refine own_i2c 13 Y at_12 rfl ?_
    have hn0 : nar .char (x1 &&& (65535 : Int32)).toUInt32.toUInt16.toUInt32.toInt32 = (x1 &&& (65535 : Int32)).toUInt32.toUInt16.toUInt32.toInt32 := own_nar2 _
    revert hn0
    generalize (x1 &&& (65535 : Int32)).toUInt32.toUInt16.toUInt32.toInt32 = c0
    intro hn0
    refine own_istore 15 Y #[.val (.int x0), .val (.int x1), .val (.int x2), .val (.int x3), .val (.int x4), .val (.int (1 : Int32)), .val (.int c0), .unset, .unset, .unset, .unset, .unset, .unset, .unset, .unset, .unset] at_13 rfl rfl ?_
    refine own_iloadN 16 Y at_15 rfl rfl ?_
    refine own_ldcI 18 Y (own_wd hw 1 rfl) at_16 rfl ?_
    refine own_iand 19 Y at_18 rfl ?_
    refine own_i2c 20 Y at_19 rfl ?_
    have hn1 : nar .char (x2 &&& (65535 : Int32)).toUInt32.toUInt16.toUInt32.toInt32 = (x2 &&& (65535 : Int32)).toUInt32.toUInt16.toUInt32.toInt32 := own_nar2 _
    revert hn1
    generalize (x2 &&& (65535 : Int32)).toUInt32.toUInt16.toUInt32.toInt32 = c1
    intro hn1
    refine own_istore 22 Y #[.val (.int x0), .val (.int x1), .val (.int x2), .val (.int x3), .val (.int x4), .val (.int (1 : Int32)), .val (.int c0), .val (.int c1), .unset, .unset, .unset, .unset, .unset, .unset, .unset, .unset] at_20 rfl rfl ?_
    refine own_iloadN 23 Y at_22 rfl rfl ?_
    refine own_ldcI 25 Y (own_wd hw 1 rfl) at_23 rfl ?_
    refine own_iand 26 Y at_25 rfl ?_
    refine own_i2c 27 Y at_26 rfl ?_
    have hn2 : nar .char (x3 &&& (65535 : Int32)).toUInt32.toUInt16.toUInt32.toInt32 = (x3 &&& (65535 : Int32)).toUInt32.toUInt16.toUInt32.toInt32 := own_nar2 _
    revert hn2
    generalize (x3 &&& (65535 : Int32)).toUInt32.toUInt16.toUInt32.toInt32 = c2
    intro hn2
    refine own_istore 29 Y #[.val (.int x0), .val (.int x1), .val (.int x2), .val (.int x3), .val (.int x4), .val (.int (1 : Int32)), .val (.int c0), .val (.int c1), .val (.int c2), .unset, .unset, .unset, .unset, .unset, .unset, .unset] at_27 rfl rfl ?_
    refine own_iload 31 Y at_29 rfl rfl ?_
    refine own_ldcI 33 Y (own_wd hw 1 rfl) at_31 rfl ?_
    refine own_iand 34 Y at_33 rfl ?_
    refine own_i2c 35 Y at_34 rfl ?_
    have hn3 : nar .char (x4 &&& (65535 : Int32)).toUInt32.toUInt16.toUInt32.toInt32 = (x4 &&& (65535 : Int32)).toUInt32.toUInt16.toUInt32.toInt32 := own_nar2 _
    revert hn3
    generalize (x4 &&& (65535 : Int32)).toUInt32.toUInt16.toUInt32.toInt32 = c3
    intro hn3
    refine own_istore 37 Y #[.val (.int x0), .val (.int x1), .val (.int x2), .val (.int x3), .val (.int x4), .val (.int (1 : Int32)), .val (.int c0), .val (.int c1), .val (.int c2), .val (.int c3), .unset, .unset, .unset, .unset, .unset, .unset] at_35 rfl rfl ?_
    refine own_iload 39 Y at_37 rfl rfl ?_
    refine own_ifT 57 Y at_39 (XT.i0_ne_t (by decide)) (by decide) ?_
    refine own_iload 59 Y at_57 rfl rfl ?_
    refine own_iconst 60 Y (1 : Int32) at_59 rfl rfl ?_
    refine own_icF 63 Y at_60 (XT.ii_ne_f (by decide)) rfl ?_
    refine own_newO 66 Y (own_wd hw 2 rfl) (own_wd hw 3 rfl) (own_wd hw 4 rfl) at_63 (by decide) (by decide) rfl fun T5 h5 x Y5 g_x E5 X_x D5 => ?_
    have gn_x : n0 ≤ x := by rw [g_x]; exact Zs
    have sn_x := own_sNew H E5 g_x
    have Zs := Nat.le_trans Zs E5.1
    have O := O.ext E5
    have H := H.ext E5
    have sf_x := sn_x
    have F_x_value := D5 (Or.inr (own_wd hw 18 rfl)) (ty := (.array .byte)) (by decide)
    have F_x_coder := D5 (Or.inr (own_wd hw 19 rfl)) (ty := .byte) (by decide)
    refine own_dup 67 Y5 at_66 rfl rfl ?_
    refine own_iconst 68 Y5 (1 : Int32) at_67 rfl rfl ?_
    refine own_newP 70 Y5 (own_wd hw 5 rfl) 1 at_68 (by decide) (by decide) (by decide) (by decide) (by decide) rfl fun T6 h6 ca k_ca Y6 g_ca E6 V_ca => ?_
    have ne_x_ca : x ≠ ca := by rw [g_ca]; exact Nat.ne_of_lt X_x.lt
    have gn_ca : n0 ≤ ca := by rw [g_ca]; exact Zs
    have sn_ca := own_sNew H E6 g_ca
    have sf_x := H.sExt E6 sf_x
    have Zs := Nat.le_trans Zs E6.1
    have O := O.ext E6
    have H := H.ext E6
    have X_x := X_x.ext E6
    have F_x_value := F_x_value.ext E6
    have F_x_coder := F_x_coder.ext E6
    have sf_ca := sn_ca
    have V_ca : Arv Z h6 ca k_ca .char (1 : Int32) [(.int (0 : Int32))] (.int (0 : Int32)) := V_ca.pad (pad_rep [] _ 1)
    refine own_dup 71 Y6 at_70 rfl rfl ?_
    refine own_iconst 72 Y6 (0 : Int32) at_71 rfl rfl ?_
    refine own_iload 74 Y6 at_72 rfl rfl ?_
    refine own_stC 75 Y6 V_ca at_74 ⟨by decide, by decide⟩ rfl fun T7 h7 Y7 W7 A7 => ?_
    have sf_x := H.sWr W7 sf_ca sf_x
    have H' := H.wr W7 sf_ca
    have sf_ca := H.sWr W7 sf_ca sf_ca
    have H := H'
    have N := own_frY Y7 N gn_ca
    have Zs := Nat.le_trans Zs (Nat.le_of_eq W7.size.symm)
    have O := O.wr W7 gn_ca
    have X_x := X_x.wr W7
    have F_x_value := F_x_value.other W7 (Or.inl ne_x_ca)
    have F_x_coder := F_x_coder.other W7 (Or.inl ne_x_ca)
    have V_ca : Arv Z h7 ca k_ca .char (1 : Int32) [(.int (nar .char c0))] (.int (0 : Int32)) := A7 0 rfl (Nat.le_of_ble_eq_true rfl) (fits_nar_char _)
    rw [hn0] at V_ca
    refine own_callI 78 Y7 [(.ref ca)] [(.ref x)] rfl (own_wd hw 6 rfl) (own_wd hw 7 rfl) (own_wd hw 4 rfl) (own_wd hw 8 rfl) (c_new1w_1 l Z a0 hw x ca k_ca c0 hn0 z fm _ n0 O WS Zs gn_x ne_x_ca _ _ X_x F_x_value F_x_coder V_ca) at_75 (by decide) (lenOf pdsnew1 rfl) rfl rfl (by decide) (Nat.le_of_ble_eq_true rfl) (by decide) (by decide) rfl fun v8 T8 h8 L8 Y8 hQ8 => ?_
    obtain ⟨rfl, K8, N8, S_x⟩ := hQ8
    have H := H.keep K8 (sfS sf_x sf0)
    have O := O.keep K8 (allS gn_x all0)
    have N := N.app N8
    show own_G p e below _ (T8.setTop (mkF m 78 #[.val (.int x0), .val (.int x1), .val (.int x2), .val (.int x3), .val (.int x4), .val (.int (1 : Int32)), .val (.int c0), .val (.int c1), .val (.int c2), .val (.int c3), .unset, .unset, .unset, .unset, .unset, .unset] [(.ref x)]))
    refine own_astore 80 Y8 #[.val (.int x0), .val (.int x1), .val (.int x2), .val (.int x3), .val (.int x4), .val (.int (1 : Int32)), .val (.int c0), .val (.int c1), .val (.int c2), .val (.int c3), .val (.ref x), .unset, .unset, .unset, .unset, .unset] at_78 rfl rfl rfl ?_
    refine own_goto 182 Y8 at_80 (by decide) ?_
    refine own_aload 184 Y8 at_182 rfl rfl rfl ?_
    refine own_callS 187 Y8 [(.ref x)] [] (own_wd hw 24 rfl) (own_wd hw 25 rfl) (own_wd hw 26 rfl) (own_wd hw 27 rfl) (c_ism_1 l Z a0 hw x c0 hn0 z fm _ n0 O WS S_x) at_184 (by decide) (lenOf pd3 rfl) rfl rfl (by decide) (Nat.le_of_ble_eq_true rfl) (by decide) (by decide) rfl fun v9 T9 h9 L9 Y9 hQ9 => ?_
    obtain ⟨rfl, rfl, rfl⟩ := hQ9
    have N := N.app (Fr.nil n0)
    generalize erv : (if c0 = 46 then (0 : Int32) else (if atm c0 then (1 : Int32) else (0 : Int32))) = rv
    show own_G p e below _ (T9.setTop (mkF m 187 #[.val (.int x0), .val (.int x1), .val (.int x2), .val (.int x3), .val (.int x4), .val (.int (1 : Int32)), .val (.int c0), .val (.int c1), .val (.int c2), .val (.int c3), .val (.ref x), .unset, .unset, .unset, .unset, .unset] [(.int rv)]))
    refine own_istore 189 Y9 #[.val (.int x0), .val (.int x1), .val (.int x2), .val (.int x3), .val (.int x4), .val (.int (1 : Int32)), .val (.int c0), .val (.int c1), .val (.int c2), .val (.int c3), .val (.ref x), .val (.int rv), .unset, .unset, .unset, .unset] at_187 rfl rfl ?_
    refine own_iload 191 Y9 at_189 rfl rfl ?_
    refine own_ifT 200 Y9 at_191 (XT.i0_ne_t (by decide)) (by decide) ?_
    refine own_iload 202 Y9 at_200 rfl rfl ?_
    refine own_callS 205 Y9 [(.int c0)] [] (own_wd hw 71 rfl) (own_wd hw 72 rfl) (own_wd hw 73 rfl) (own_wd hw 74 rfl) (c_leg l Z a0 hw c0 _) at_202 (by decide) (lenOf pd2 rfl) rfl rfl (by decide) (Nat.le_of_ble_eq_true rfl) (by decide) (by decide) rfl fun v10 T10 h10 L10 Y10 hQ10 => ?_
    obtain ⟨rfl, rfl, rfl⟩ := hQ10
    have N := N.app (Fr.nil n0)
    rcases own_cls c0 with dt0 | ⟨dt0, at0⟩ | ⟨dt0, at0⟩
    · rw [if_pos (Or.inl dt0)]
      show own_G p e below _ (T10.setTop (mkF m 205 #[.val (.int x0), .val (.int x1), .val (.int x2), .val (.int x3), .val (.int x4), .val (.int (1 : Int32)), .val (.int c0), .val (.int c1), .val (.int c2), .val (.int c3), .val (.ref x), .val (.int rv), .unset, .unset, .unset, .unset] [(.int (1 : Int32))]))
      refine own_ifF 208 Y10 at_205 (XT.i0_eq_f (by decide)) rfl ?_
      refine own_iload 210 Y10 at_208 rfl rfl ?_
      refine own_iconst 211 Y10 (2 : Int32) at_210 rfl rfl ?_
      refine own_icT 222 Y10 at_211 (XT.ii_lt_t (by decide)) (by decide) ?_
      refine own_iload 224 Y10 at_222 rfl rfl ?_
      refine own_iconst 225 Y10 (3 : Int32) at_224 rfl rfl ?_
      refine own_icT 236 Y10 at_225 (XT.ii_lt_t (by decide)) (by decide) ?_
      refine own_iload 238 Y10 at_236 rfl rfl ?_
      refine own_iconst 239 Y10 (4 : Int32) at_238 rfl rfl ?_
      refine own_icT 250 Y10 at_239 (XT.ii_lt_t (by decide)) (by decide) ?_
      refine own_iconst 251 Y10 (1 : Int32) at_250 rfl rfl ?_
      refine own_goto 255 Y10 at_251 (by decide) ?_
      refine own_istore 257 Y10 #[.val (.int x0), .val (.int x1), .val (.int x2), .val (.int x3), .val (.int x4), .val (.int (1 : Int32)), .val (.int c0), .val (.int c1), .val (.int c2), .val (.int c3), .val (.ref x), .val (.int rv), .unset, .val (.int (1 : Int32)), .unset, .unset] at_255 rfl rfl ?_
      refine own_iload 259 Y10 at_257 rfl rfl ?_
      refine own_iconst 260 Y10 (1 : Int32) at_259 rfl rfl ?_
      refine own_icF 263 Y10 at_260 (XT.ii_ne_f (by decide)) rfl ?_
      refine own_iload 265 Y10 at_263 rfl rfl ?_
      refine own_istore 267 Y10 #[.val (.int x0), .val (.int x1), .val (.int x2), .val (.int x3), .val (.int x4), .val (.int (1 : Int32)), .val (.int c0), .val (.int c1), .val (.int c2), .val (.int c3), .val (.ref x), .val (.int rv), .unset, .val (.int (1 : Int32)), .val (.int c0), .unset] at_265 rfl rfl ?_
      refine own_goto 300 Y10 at_267 (by decide) ?_
      refine own_iload 302 Y10 at_300 rfl rfl ?_
      refine own_iconst 303 Y10 (2 : Int32) at_302 rfl rfl ?_
      refine own_icT 320 Y10 at_303 (XT.ii_lt_t (by decide)) (by decide) ?_
      refine own_iload 322 Y10 at_320 rfl rfl ?_
      refine own_iconst 323 Y10 (3 : Int32) at_322 rfl rfl ?_
      refine own_icT 340 Y10 at_323 (XT.ii_lt_t (by decide)) (by decide) ?_
      refine own_iload 342 Y10 at_340 rfl rfl ?_
      refine own_iconst 343 Y10 (4 : Int32) at_342 rfl rfl ?_
      refine own_icT 360 Y10 at_343 (XT.ii_lt_t (by decide)) (by decide) ?_
      refine own_iconst 361 Y10 (1 : Int32) at_360 rfl rfl ?_
      refine own_goto 365 Y10 at_361 (by decide) ?_
      refine own_istore 367 Y10 #[.val (.int x0), .val (.int x1), .val (.int x2), .val (.int x3), .val (.int x4), .val (.int (1 : Int32)), .val (.int c0), .val (.int c1), .val (.int c2), .val (.int c3), .val (.ref x), .val (.int rv), .unset, .val (.int (1 : Int32)), .val (.int c0), .val (.int (1 : Int32))] at_365 rfl rfl ?_
      refine own_iload 369 Y10 at_367 rfl rfl ?_
      refine own_ifF 372 Y10 at_369 (XT.i0_eq_f (by decide)) rfl ?_
      refine own_iload 374 Y10 at_372 rfl rfl ?_
      refine own_bipush 376 Y10 (46 : Int32) at_374 rfl rfl ?_
      refine own_icT 395 Y10 at_376 (XT.ii_eq_t dt0) (by decide) ?_
      refine own_iconst 396 Y10 (0 : Int32) at_395 rfl rfl ?_
      refine own_istore 398 Y10 #[.val (.int x0), .val (.int x1), .val (.int x2), .val (.int x3), .val (.int x4), .val (.int (1 : Int32)), .val (.int c0), .val (.int c1), .val (.int c2), .val (.int c3), .val (.ref x), .val (.int rv), .val (.int (0 : Int32)), .val (.int (1 : Int32)), .val (.int c0), .val (.int (1 : Int32))] at_396 rfl rfl ?_
      refine own_iload 400 Y10 at_398 rfl rfl ?_
      refine own_iload 402 Y10 at_400 rfl rfl ?_
      rw [if_pos dt0] at erv
      subst erv
      refine own_icF 405 Y10 at_402 (XT.ii_ne_f (by decide)) rfl ?_
      refine own_iconst 406 Y10 (1 : Int32) at_405 rfl rfl ?_
      refine own_goto 410 Y10 at_406 (by decide) ?_
      exact own_retNW Y10 H (t := .boolean) rfl (by simp) at_410 (by decide) (by decide) ⟨rfl, N⟩
    · rw [if_pos (Or.inr at0)]
      show own_G p e below _ (T10.setTop (mkF m 205 #[.val (.int x0), .val (.int x1), .val (.int x2), .val (.int x3), .val (.int x4), .val (.int (1 : Int32)), .val (.int c0), .val (.int c1), .val (.int c2), .val (.int c3), .val (.ref x), .val (.int rv), .unset, .unset, .unset, .unset] [(.int (1 : Int32))]))
      refine own_ifF 208 Y10 at_205 (XT.i0_eq_f (by decide)) rfl ?_
      refine own_iload 210 Y10 at_208 rfl rfl ?_
      refine own_iconst 211 Y10 (2 : Int32) at_210 rfl rfl ?_
      refine own_icT 222 Y10 at_211 (XT.ii_lt_t (by decide)) (by decide) ?_
      refine own_iload 224 Y10 at_222 rfl rfl ?_
      refine own_iconst 225 Y10 (3 : Int32) at_224 rfl rfl ?_
      refine own_icT 236 Y10 at_225 (XT.ii_lt_t (by decide)) (by decide) ?_
      refine own_iload 238 Y10 at_236 rfl rfl ?_
      refine own_iconst 239 Y10 (4 : Int32) at_238 rfl rfl ?_
      refine own_icT 250 Y10 at_239 (XT.ii_lt_t (by decide)) (by decide) ?_
      refine own_iconst 251 Y10 (1 : Int32) at_250 rfl rfl ?_
      refine own_goto 255 Y10 at_251 (by decide) ?_
      refine own_istore 257 Y10 #[.val (.int x0), .val (.int x1), .val (.int x2), .val (.int x3), .val (.int x4), .val (.int (1 : Int32)), .val (.int c0), .val (.int c1), .val (.int c2), .val (.int c3), .val (.ref x), .val (.int rv), .unset, .val (.int (1 : Int32)), .unset, .unset] at_255 rfl rfl ?_
      refine own_iload 259 Y10 at_257 rfl rfl ?_
      refine own_iconst 260 Y10 (1 : Int32) at_259 rfl rfl ?_
      refine own_icF 263 Y10 at_260 (XT.ii_ne_f (by decide)) rfl ?_
      refine own_iload 265 Y10 at_263 rfl rfl ?_
      refine own_istore 267 Y10 #[.val (.int x0), .val (.int x1), .val (.int x2), .val (.int x3), .val (.int x4), .val (.int (1 : Int32)), .val (.int c0), .val (.int c1), .val (.int c2), .val (.int c3), .val (.ref x), .val (.int rv), .unset, .val (.int (1 : Int32)), .val (.int c0), .unset] at_265 rfl rfl ?_
      refine own_goto 300 Y10 at_267 (by decide) ?_
      refine own_iload 302 Y10 at_300 rfl rfl ?_
      refine own_iconst 303 Y10 (2 : Int32) at_302 rfl rfl ?_
      refine own_icT 320 Y10 at_303 (XT.ii_lt_t (by decide)) (by decide) ?_
      refine own_iload 322 Y10 at_320 rfl rfl ?_
      refine own_iconst 323 Y10 (3 : Int32) at_322 rfl rfl ?_
      refine own_icT 340 Y10 at_323 (XT.ii_lt_t (by decide)) (by decide) ?_
      refine own_iload 342 Y10 at_340 rfl rfl ?_
      refine own_iconst 343 Y10 (4 : Int32) at_342 rfl rfl ?_
      refine own_icT 360 Y10 at_343 (XT.ii_lt_t (by decide)) (by decide) ?_
      refine own_iconst 361 Y10 (1 : Int32) at_360 rfl rfl ?_
      refine own_goto 365 Y10 at_361 (by decide) ?_
      refine own_istore 367 Y10 #[.val (.int x0), .val (.int x1), .val (.int x2), .val (.int x3), .val (.int x4), .val (.int (1 : Int32)), .val (.int c0), .val (.int c1), .val (.int c2), .val (.int c3), .val (.ref x), .val (.int rv), .unset, .val (.int (1 : Int32)), .val (.int c0), .val (.int (1 : Int32))] at_365 rfl rfl ?_
      refine own_iload 369 Y10 at_367 rfl rfl ?_
      refine own_ifF 372 Y10 at_369 (XT.i0_eq_f (by decide)) rfl ?_
      refine own_iload 374 Y10 at_372 rfl rfl ?_
      refine own_bipush 376 Y10 (46 : Int32) at_374 rfl rfl ?_
      refine own_icF 379 Y10 at_376 (XT.ii_eq_f dt0) rfl ?_
      refine own_iload 381 Y10 at_379 rfl rfl ?_
      refine own_bipush 383 Y10 (46 : Int32) at_381 rfl rfl ?_
      refine own_icF 386 Y10 at_383 (XT.ii_eq_f dt0) rfl ?_
      refine own_iload 388 Y10 at_386 rfl rfl ?_
      refine own_ifF 391 Y10 at_388 (XT.i0_eq_f (by decide)) rfl ?_
      refine own_iconst 392 Y10 (1 : Int32) at_391 rfl rfl ?_
      refine own_goto 396 Y10 at_392 (by decide) ?_
      refine own_istore 398 Y10 #[.val (.int x0), .val (.int x1), .val (.int x2), .val (.int x3), .val (.int x4), .val (.int (1 : Int32)), .val (.int c0), .val (.int c1), .val (.int c2), .val (.int c3), .val (.ref x), .val (.int rv), .val (.int (1 : Int32)), .val (.int (1 : Int32)), .val (.int c0), .val (.int (1 : Int32))] at_396 rfl rfl ?_
      refine own_iload 400 Y10 at_398 rfl rfl ?_
      refine own_iload 402 Y10 at_400 rfl rfl ?_
      rw [if_neg dt0, if_pos at0] at erv
      subst erv
      refine own_icF 405 Y10 at_402 (XT.ii_ne_f (by decide)) rfl ?_
      refine own_iconst 406 Y10 (1 : Int32) at_405 rfl rfl ?_
      refine own_goto 410 Y10 at_406 (by decide) ?_
      exact own_retNW Y10 H (t := .boolean) rfl (by simp) at_410 (by decide) (by decide) ⟨rfl, N⟩
    · rw [if_neg (fun z => z.elim dt0 at0)]
      show own_G p e below _ (T10.setTop (mkF m 205 #[.val (.int x0), .val (.int x1), .val (.int x2), .val (.int x3), .val (.int x4), .val (.int (1 : Int32)), .val (.int c0), .val (.int c1), .val (.int c2), .val (.int c3), .val (.ref x), .val (.int rv), .unset, .unset, .unset, .unset] [(.int (0 : Int32))]))
      refine own_ifT 254 Y10 at_205 (XT.i0_eq_t (by decide)) (by decide) ?_
      refine own_iconst 255 Y10 (0 : Int32) at_254 rfl rfl ?_
      refine own_istore 257 Y10 #[.val (.int x0), .val (.int x1), .val (.int x2), .val (.int x3), .val (.int x4), .val (.int (1 : Int32)), .val (.int c0), .val (.int c1), .val (.int c2), .val (.int c3), .val (.ref x), .val (.int rv), .unset, .val (.int (0 : Int32)), .unset, .unset] at_255 rfl rfl ?_
      refine own_iload 259 Y10 at_257 rfl rfl ?_
      refine own_iconst 260 Y10 (1 : Int32) at_259 rfl rfl ?_
      refine own_icF 263 Y10 at_260 (XT.ii_ne_f (by decide)) rfl ?_
      refine own_iload 265 Y10 at_263 rfl rfl ?_
      refine own_istore 267 Y10 #[.val (.int x0), .val (.int x1), .val (.int x2), .val (.int x3), .val (.int x4), .val (.int (1 : Int32)), .val (.int c0), .val (.int c1), .val (.int c2), .val (.int c3), .val (.ref x), .val (.int rv), .unset, .val (.int (0 : Int32)), .val (.int c0), .unset] at_265 rfl rfl ?_
      refine own_goto 300 Y10 at_267 (by decide) ?_
      refine own_iload 302 Y10 at_300 rfl rfl ?_
      refine own_iconst 303 Y10 (2 : Int32) at_302 rfl rfl ?_
      refine own_icT 320 Y10 at_303 (XT.ii_lt_t (by decide)) (by decide) ?_
      refine own_iload 322 Y10 at_320 rfl rfl ?_
      refine own_iconst 323 Y10 (3 : Int32) at_322 rfl rfl ?_
      refine own_icT 340 Y10 at_323 (XT.ii_lt_t (by decide)) (by decide) ?_
      refine own_iload 342 Y10 at_340 rfl rfl ?_
      refine own_iconst 343 Y10 (4 : Int32) at_342 rfl rfl ?_
      refine own_icT 360 Y10 at_343 (XT.ii_lt_t (by decide)) (by decide) ?_
      refine own_iconst 361 Y10 (1 : Int32) at_360 rfl rfl ?_
      refine own_goto 365 Y10 at_361 (by decide) ?_
      refine own_istore 367 Y10 #[.val (.int x0), .val (.int x1), .val (.int x2), .val (.int x3), .val (.int x4), .val (.int (1 : Int32)), .val (.int c0), .val (.int c1), .val (.int c2), .val (.int c3), .val (.ref x), .val (.int rv), .unset, .val (.int (0 : Int32)), .val (.int c0), .val (.int (1 : Int32))] at_365 rfl rfl ?_
      refine own_iload 369 Y10 at_367 rfl rfl ?_
      refine own_ifT 395 Y10 at_369 (XT.i0_eq_t (by decide)) (by decide) ?_
      refine own_iconst 396 Y10 (0 : Int32) at_395 rfl rfl ?_
      refine own_istore 398 Y10 #[.val (.int x0), .val (.int x1), .val (.int x2), .val (.int x3), .val (.int x4), .val (.int (1 : Int32)), .val (.int c0), .val (.int c1), .val (.int c2), .val (.int c3), .val (.ref x), .val (.int rv), .val (.int (0 : Int32)), .val (.int (0 : Int32)), .val (.int c0), .val (.int (1 : Int32))] at_396 rfl rfl ?_
      refine own_iload 400 Y10 at_398 rfl rfl ?_
      refine own_iload 402 Y10 at_400 rfl rfl ?_
      rw [if_neg dt0, if_neg at0] at erv
      subst erv
      refine own_icF 405 Y10 at_402 (XT.ii_ne_f (by decide)) rfl ?_
      refine own_iconst 406 Y10 (1 : Int32) at_405 rfl rfl ?_
      refine own_goto 410 Y10 at_406 (by decide) ?_
      exact own_retNW Y10 H (t := .boolean) rfl (by simp) at_410 (by decide) (by decide) ⟨rfl, N⟩
  · rw [e5]
    refine own_istore 8 Y #[.val (.int x0), .val (.int x1), .val (.int x2), .val (.int x3), .val (.int x4), .val (.int (2 : Int32)), .unset, .unset, .unset, .unset, .unset, .unset, .unset, .unset, .unset, .unset] at_6 rfl rfl ?_
    refine own_iloadN 9 Y at_8 rfl rfl ?_
    refine own_ldcI 11 Y (own_wd hw 1 rfl) at_9 rfl ?_
    refine own_iand 12 Y at_11 rfl ?_
    refine own_i2c 13 Y at_12 rfl ?_
    have hn0 : nar .char (x1 &&& (65535 : Int32)).toUInt32.toUInt16.toUInt32.toInt32 = (x1 &&& (65535 : Int32)).toUInt32.toUInt16.toUInt32.toInt32 := own_nar2 _
    revert hn0
    generalize (x1 &&& (65535 : Int32)).toUInt32.toUInt16.toUInt32.toInt32 = c0
    intro hn0
    refine own_istore 15 Y #[.val (.int x0), .val (.int x1), .val (.int x2), .val (.int x3), .val (.int x4), .val (.int (2 : Int32)), .val (.int c0), .unset, .unset, .unset, .unset, .unset, .unset, .unset, .unset, .unset] at_13 rfl rfl ?_
    refine own_iloadN 16 Y at_15 rfl rfl ?_
    refine own_ldcI 18 Y (own_wd hw 1 rfl) at_16 rfl ?_
    refine own_iand 19 Y at_18 rfl ?_
    refine own_i2c 20 Y at_19 rfl ?_
    have hn1 : nar .char (x2 &&& (65535 : Int32)).toUInt32.toUInt16.toUInt32.toInt32 = (x2 &&& (65535 : Int32)).toUInt32.toUInt16.toUInt32.toInt32 := own_nar2 _
    revert hn1
    generalize (x2 &&& (65535 : Int32)).toUInt32.toUInt16.toUInt32.toInt32 = c1
    intro hn1
    refine own_istore 22 Y #[.val (.int x0), .val (.int x1), .val (.int x2), .val (.int x3), .val (.int x4), .val (.int (2 : Int32)), .val (.int c0), .val (.int c1), .unset, .unset, .unset, .unset, .unset, .unset, .unset, .unset] at_20 rfl rfl ?_
    refine own_iloadN 23 Y at_22 rfl rfl ?_
    refine own_ldcI 25 Y (own_wd hw 1 rfl) at_23 rfl ?_
    refine own_iand 26 Y at_25 rfl ?_
    refine own_i2c 27 Y at_26 rfl ?_
    have hn2 : nar .char (x3 &&& (65535 : Int32)).toUInt32.toUInt16.toUInt32.toInt32 = (x3 &&& (65535 : Int32)).toUInt32.toUInt16.toUInt32.toInt32 := own_nar2 _
    revert hn2
    generalize (x3 &&& (65535 : Int32)).toUInt32.toUInt16.toUInt32.toInt32 = c2
    intro hn2
    refine own_istore 29 Y #[.val (.int x0), .val (.int x1), .val (.int x2), .val (.int x3), .val (.int x4), .val (.int (2 : Int32)), .val (.int c0), .val (.int c1), .val (.int c2), .unset, .unset, .unset, .unset, .unset, .unset, .unset] at_27 rfl rfl ?_
    refine own_iload 31 Y at_29 rfl rfl ?_
    refine own_ldcI 33 Y (own_wd hw 1 rfl) at_31 rfl ?_
    refine own_iand 34 Y at_33 rfl ?_
    refine own_i2c 35 Y at_34 rfl ?_
    have hn3 : nar .char (x4 &&& (65535 : Int32)).toUInt32.toUInt16.toUInt32.toInt32 = (x4 &&& (65535 : Int32)).toUInt32.toUInt16.toUInt32.toInt32 := own_nar2 _
    revert hn3
    generalize (x4 &&& (65535 : Int32)).toUInt32.toUInt16.toUInt32.toInt32 = c3
    intro hn3
    refine own_istore 37 Y #[.val (.int x0), .val (.int x1), .val (.int x2), .val (.int x3), .val (.int x4), .val (.int (2 : Int32)), .val (.int c0), .val (.int c1), .val (.int c2), .val (.int c3), .unset, .unset, .unset, .unset, .unset, .unset] at_35 rfl rfl ?_
    refine own_iload 39 Y at_37 rfl rfl ?_
    refine own_ifT 57 Y at_39 (XT.i0_ne_t (by decide)) (by decide) ?_
    refine own_iload 59 Y at_57 rfl rfl ?_
    refine own_iconst 60 Y (1 : Int32) at_59 rfl rfl ?_
    refine own_icT 83 Y at_60 (XT.ii_ne_t (by decide)) (by decide) ?_
    refine own_iload 85 Y at_83 rfl rfl ?_
    refine own_iconst 86 Y (2 : Int32) at_85 rfl rfl ?_
    refine own_icF 89 Y at_86 (XT.ii_ne_f (by decide)) rfl ?_
    refine own_newO 92 Y (own_wd hw 2 rfl) (own_wd hw 3 rfl) (own_wd hw 4 rfl) at_89 (by decide) (by decide) rfl fun T11 h11 x Y11 g_x E11 X_x D11 => ?_
    have gn_x : n0 ≤ x := by rw [g_x]; exact Zs
    have sn_x := own_sNew H E11 g_x
    have Zs := Nat.le_trans Zs E11.1
    have O := O.ext E11
    have H := H.ext E11
    have sf_x := sn_x
    have F_x_value := D11 (Or.inr (own_wd hw 18 rfl)) (ty := (.array .byte)) (by decide)
    have F_x_coder := D11 (Or.inr (own_wd hw 19 rfl)) (ty := .byte) (by decide)
    refine own_dup 93 Y11 at_92 rfl rfl ?_
    refine own_iconst 94 Y11 (2 : Int32) at_93 rfl rfl ?_
    refine own_newP 96 Y11 (own_wd hw 5 rfl) 2 at_94 (by decide) (by decide) (by decide) (by decide) (by decide) rfl fun T12 h12 ca k_ca Y12 g_ca E12 V_ca => ?_
    have ne_x_ca : x ≠ ca := by rw [g_ca]; exact Nat.ne_of_lt X_x.lt
    have gn_ca : n0 ≤ ca := by rw [g_ca]; exact Zs
    have sn_ca := own_sNew H E12 g_ca
    have sf_x := H.sExt E12 sf_x
    have Zs := Nat.le_trans Zs E12.1
    have O := O.ext E12
    have H := H.ext E12
    have X_x := X_x.ext E12
    have F_x_value := F_x_value.ext E12
    have F_x_coder := F_x_coder.ext E12
    have sf_ca := sn_ca
    have V_ca : Arv Z h12 ca k_ca .char (2 : Int32) [(.int (0 : Int32)), (.int (0 : Int32))] (.int (0 : Int32)) := V_ca.pad (pad_rep [] _ 2)
    refine own_dup 97 Y12 at_96 rfl rfl ?_
    refine own_iconst 98 Y12 (0 : Int32) at_97 rfl rfl ?_
    refine own_iload 100 Y12 at_98 rfl rfl ?_
    refine own_stC 101 Y12 V_ca at_100 ⟨by decide, by decide⟩ rfl fun T13 h13 Y13 W13 A13 => ?_
    have sf_x := H.sWr W13 sf_ca sf_x
    have H' := H.wr W13 sf_ca
    have sf_ca := H.sWr W13 sf_ca sf_ca
    have H := H'
    have N := own_frY Y13 N gn_ca
    have Zs := Nat.le_trans Zs (Nat.le_of_eq W13.size.symm)
    have O := O.wr W13 gn_ca
    have X_x := X_x.wr W13
    have F_x_value := F_x_value.other W13 (Or.inl ne_x_ca)
    have F_x_coder := F_x_coder.other W13 (Or.inl ne_x_ca)
    have V_ca : Arv Z h13 ca k_ca .char (2 : Int32) [(.int (nar .char c0)), (.int (0 : Int32))] (.int (0 : Int32)) := A13 0 rfl (Nat.le_of_ble_eq_true rfl) (fits_nar_char _)
    rw [hn0] at V_ca
    refine own_dup 102 Y13 at_101 rfl rfl ?_
    refine own_iconst 103 Y13 (1 : Int32) at_102 rfl rfl ?_
    refine own_iload 105 Y13 at_103 rfl rfl ?_
    refine own_stC 106 Y13 V_ca at_105 ⟨by decide, by decide⟩ rfl fun T14 h14 Y14 W14 A14 => ?_
    have sf_x := H.sWr W14 sf_ca sf_x
    have H' := H.wr W14 sf_ca
    have sf_ca := H.sWr W14 sf_ca sf_ca
    have H := H'
    have N := own_frY Y14 N gn_ca
    have Zs := Nat.le_trans Zs (Nat.le_of_eq W14.size.symm)
    have O := O.wr W14 gn_ca
    have X_x := X_x.wr W14
    have F_x_value := F_x_value.other W14 (Or.inl ne_x_ca)
    have F_x_coder := F_x_coder.other W14 (Or.inl ne_x_ca)
    have V_ca : Arv Z h14 ca k_ca .char (2 : Int32) [(.int c0), (.int (nar .char c1))] (.int (0 : Int32)) := A14 1 rfl (Nat.le_of_ble_eq_true rfl) (fits_nar_char _)
    rw [hn1] at V_ca
    refine own_callI 109 Y14 [(.ref ca)] [(.ref x)] rfl (own_wd hw 6 rfl) (own_wd hw 7 rfl) (own_wd hw 4 rfl) (own_wd hw 8 rfl) (c_new1w_2 l Z a0 hw x ca k_ca c0 c1 hn0 hn1 z fm _ n0 O WS Zs gn_x ne_x_ca _ _ X_x F_x_value F_x_coder V_ca) at_106 (by decide) (lenOf pdsnew1 rfl) rfl rfl (by decide) (Nat.le_of_ble_eq_true rfl) (by decide) (by decide) rfl fun v15 T15 h15 L15 Y15 hQ15 => ?_
    obtain ⟨rfl, K15, N15, S_x⟩ := hQ15
    have H := H.keep K15 (sfS sf_x sf0)
    have O := O.keep K15 (allS gn_x all0)
    have N := N.app N15
    show own_G p e below _ (T15.setTop (mkF m 109 #[.val (.int x0), .val (.int x1), .val (.int x2), .val (.int x3), .val (.int x4), .val (.int (2 : Int32)), .val (.int c0), .val (.int c1), .val (.int c2), .val (.int c3), .unset, .unset, .unset, .unset, .unset, .unset] [(.ref x)]))
    refine own_astore 111 Y15 #[.val (.int x0), .val (.int x1), .val (.int x2), .val (.int x3), .val (.int x4), .val (.int (2 : Int32)), .val (.int c0), .val (.int c1), .val (.int c2), .val (.int c3), .val (.ref x), .unset, .unset, .unset, .unset, .unset] at_109 rfl rfl rfl ?_
    refine own_goto 182 Y15 at_111 (by decide) ?_
    refine own_aload 184 Y15 at_182 rfl rfl rfl ?_
    refine own_callS 187 Y15 [(.ref x)] [] (own_wd hw 24 rfl) (own_wd hw 25 rfl) (own_wd hw 26 rfl) (own_wd hw 27 rfl) (c_ism_2 l Z a0 hw x c0 c1 hn0 hn1 z fm _ n0 O WS S_x) at_184 (by decide) (lenOf pd3 rfl) rfl rfl (by decide) (Nat.le_of_ble_eq_true rfl) (by decide) (by decide) rfl fun v16 T16 h16 L16 Y16 hQ16 => ?_
    obtain ⟨rfl, rfl, rfl⟩ := hQ16
    have N := N.app (Fr.nil n0)
    generalize erv : (if c0 = 46 then (0 : Int32) else (if atm c0 then (if c1 = 46 then (0 : Int32) else (if atm c1 then (1 : Int32) else (0 : Int32))) else (0 : Int32))) = rv
    show own_G p e below _ (T16.setTop (mkF m 187 #[.val (.int x0), .val (.int x1), .val (.int x2), .val (.int x3), .val (.int x4), .val (.int (2 : Int32)), .val (.int c0), .val (.int c1), .val (.int c2), .val (.int c3), .val (.ref x), .unset, .unset, .unset, .unset, .unset] [(.int rv)]))
    refine own_istore 189 Y16 #[.val (.int x0), .val (.int x1), .val (.int x2), .val (.int x3), .val (.int x4), .val (.int (2 : Int32)), .val (.int c0), .val (.int c1), .val (.int c2), .val (.int c3), .val (.ref x), .val (.int rv), .unset, .unset, .unset, .unset] at_187 rfl rfl ?_
    refine own_iload 191 Y16 at_189 rfl rfl ?_
    refine own_ifT 200 Y16 at_191 (XT.i0_ne_t (by decide)) (by decide) ?_
    refine own_iload 202 Y16 at_200 rfl rfl ?_
    refine own_callS 205 Y16 [(.int c0)] [] (own_wd hw 71 rfl) (own_wd hw 72 rfl) (own_wd hw 73 rfl) (own_wd hw 74 rfl) (c_leg l Z a0 hw c0 _) at_202 (by decide) (lenOf pd2 rfl) rfl rfl (by decide) (Nat.le_of_ble_eq_true rfl) (by decide) (by decide) rfl fun v17 T17 h17 L17 Y17 hQ17 => ?_
    obtain ⟨rfl, rfl, rfl⟩ := hQ17
    have N := N.app (Fr.nil n0)
    rcases own_cls c0 with dt0 | ⟨dt0, at0⟩ | ⟨dt0, at0⟩
    · rw [if_pos (Or.inl dt0)]
      show own_G p e below _ (T17.setTop (mkF m 205 #[.val (.int x0), .val (.int x1), .val (.int x2), .val (.int x3), .val (.int x4), .val (.int (2 : Int32)), .val (.int c0), .val (.int c1), .val (.int c2), .val (.int c3), .val (.ref x), .val (.int rv), .unset, .unset, .unset, .unset] [(.int (1 : Int32))]))
      refine own_ifF 208 Y17 at_205 (XT.i0_eq_f (by decide)) rfl ?_
      refine own_iload 210 Y17 at_208 rfl rfl ?_
      refine own_iconst 211 Y17 (2 : Int32) at_210 rfl rfl ?_
      refine own_icF 214 Y17 at_211 (XT.ii_lt_f (by decide)) rfl ?_
      refine own_iload 216 Y17 at_214 rfl rfl ?_
      refine own_callS 219 Y17 [(.int c1)] [] (own_wd hw 71 rfl) (own_wd hw 72 rfl) (own_wd hw 73 rfl) (own_wd hw 74 rfl) (c_leg l Z a0 hw c1 _) at_216 (by decide) (lenOf pd2 rfl) rfl rfl (by decide) (Nat.le_of_ble_eq_true rfl) (by decide) (by decide) rfl fun v18 T18 h18 L18 Y18 hQ18 => ?_
      obtain ⟨rfl, rfl, rfl⟩ := hQ18
      have N := N.app (Fr.nil n0)
      rcases own_cls c1 with dt1 | ⟨dt1, at1⟩ | ⟨dt1, at1⟩
      · rw [if_pos (Or.inl dt1)]
        show own_G p e below _ (T18.setTop (mkF m 219 #[.val (.int x0), .val (.int x1), .val (.int x2), .val (.int x3), .val (.int x4), .val (.int (2 : Int32)), .val (.int c0), .val (.int c1), .val (.int c2), .val (.int c3), .val (.ref x), .val (.int rv), .unset, .unset, .unset, .unset] [(.int (1 : Int32))]))
        refine own_ifF 222 Y18 at_219 (XT.i0_eq_f (by decide)) rfl ?_
        refine own_iload 224 Y18 at_222 rfl rfl ?_
        refine own_iconst 225 Y18 (3 : Int32) at_224 rfl rfl ?_
        refine own_icT 236 Y18 at_225 (XT.ii_lt_t (by decide)) (by decide) ?_
        refine own_iload 238 Y18 at_236 rfl rfl ?_
        refine own_iconst 239 Y18 (4 : Int32) at_238 rfl rfl ?_
        refine own_icT 250 Y18 at_239 (XT.ii_lt_t (by decide)) (by decide) ?_
        refine own_iconst 251 Y18 (1 : Int32) at_250 rfl rfl ?_
        refine own_goto 255 Y18 at_251 (by decide) ?_
        refine own_istore 257 Y18 #[.val (.int x0), .val (.int x1), .val (.int x2), .val (.int x3), .val (.int x4), .val (.int (2 : Int32)), .val (.int c0), .val (.int c1), .val (.int c2), .val (.int c3), .val (.ref x), .val (.int rv), .unset, .val (.int (1 : Int32)), .unset, .unset] at_255 rfl rfl ?_
        refine own_iload 259 Y18 at_257 rfl rfl ?_
        refine own_iconst 260 Y18 (1 : Int32) at_259 rfl rfl ?_
        refine own_icT 270 Y18 at_260 (XT.ii_ne_t (by decide)) (by decide) ?_
        refine own_iload 272 Y18 at_270 rfl rfl ?_
        refine own_iconst 273 Y18 (2 : Int32) at_272 rfl rfl ?_
        refine own_icF 276 Y18 at_273 (XT.ii_ne_f (by decide)) rfl ?_
        refine own_iload 278 Y18 at_276 rfl rfl ?_
        refine own_istore 280 Y18 #[.val (.int x0), .val (.int x1), .val (.int x2), .val (.int x3), .val (.int x4), .val (.int (2 : Int32)), .val (.int c0), .val (.int c1), .val (.int c2), .val (.int c3), .val (.ref x), .val (.int rv), .unset, .val (.int (1 : Int32)), .val (.int c1), .unset] at_278 rfl rfl ?_
        refine own_goto 300 Y18 at_280 (by decide) ?_
        refine own_iload 302 Y18 at_300 rfl rfl ?_
        refine own_iconst 303 Y18 (2 : Int32) at_302 rfl rfl ?_
        refine own_icF 306 Y18 at_303 (XT.ii_lt_f (by decide)) rfl ?_
        refine own_iload 308 Y18 at_306 rfl rfl ?_
        refine own_bipush 310 Y18 (46 : Int32) at_308 rfl rfl ?_
        refine own_icF 313 Y18 at_310 (XT.ii_ne_f dt0) rfl ?_
        refine own_iload 315 Y18 at_313 rfl rfl ?_
        refine own_bipush 317 Y18 (46 : Int32) at_315 rfl rfl ?_
        refine own_icT 364 Y18 at_317 (XT.ii_eq_t dt1) (by decide) ?_
        refine own_iconst 365 Y18 (0 : Int32) at_364 rfl rfl ?_
        refine own_istore 367 Y18 #[.val (.int x0), .val (.int x1), .val (.int x2), .val (.int x3), .val (.int x4), .val (.int (2 : Int32)), .val (.int c0), .val (.int c1), .val (.int c2), .val (.int c3), .val (.ref x), .val (.int rv), .unset, .val (.int (1 : Int32)), .val (.int c1), .val (.int (0 : Int32))] at_365 rfl rfl ?_
        refine own_iload 369 Y18 at_367 rfl rfl ?_
        refine own_ifF 372 Y18 at_369 (XT.i0_eq_f (by decide)) rfl ?_
        refine own_iload 374 Y18 at_372 rfl rfl ?_
        refine own_bipush 376 Y18 (46 : Int32) at_374 rfl rfl ?_
        refine own_icT 395 Y18 at_376 (XT.ii_eq_t dt0) (by decide) ?_
        refine own_iconst 396 Y18 (0 : Int32) at_395 rfl rfl ?_
        refine own_istore 398 Y18 #[.val (.int x0), .val (.int x1), .val (.int x2), .val (.int x3), .val (.int x4), .val (.int (2 : Int32)), .val (.int c0), .val (.int c1), .val (.int c2), .val (.int c3), .val (.ref x), .val (.int rv), .val (.int (0 : Int32)), .val (.int (1 : Int32)), .val (.int c1), .val (.int (0 : Int32))] at_396 rfl rfl ?_
        refine own_iload 400 Y18 at_398 rfl rfl ?_
        refine own_iload 402 Y18 at_400 rfl rfl ?_
        rw [if_pos dt0] at erv
        subst erv
        refine own_icF 405 Y18 at_402 (XT.ii_ne_f (by decide)) rfl ?_
        refine own_iconst 406 Y18 (1 : Int32) at_405 rfl rfl ?_
        refine own_goto 410 Y18 at_406 (by decide) ?_
        exact own_retNW Y18 H (t := .boolean) rfl (by simp) at_410 (by decide) (by decide) ⟨rfl, N⟩
      · rw [if_pos (Or.inr at1)]
        show own_G p e below _ (T18.setTop (mkF m 219 #[.val (.int x0), .val (.int x1), .val (.int x2), .val (.int x3), .val (.int x4), .val (.int (2 : Int32)), .val (.int c0), .val (.int c1), .val (.int c2), .val (.int c3), .val (.ref x), .val (.int rv), .unset, .unset, .unset, .unset] [(.int (1 : Int32))]))
        refine own_ifF 222 Y18 at_219 (XT.i0_eq_f (by decide)) rfl ?_
        refine own_iload 224 Y18 at_222 rfl rfl ?_
        refine own_iconst 225 Y18 (3 : Int32) at_224 rfl rfl ?_
        refine own_icT 236 Y18 at_225 (XT.ii_lt_t (by decide)) (by decide) ?_
        refine own_iload 238 Y18 at_236 rfl rfl ?_
        refine own_iconst 239 Y18 (4 : Int32) at_238 rfl rfl ?_
        refine own_icT 250 Y18 at_239 (XT.ii_lt_t (by decide)) (by decide) ?_
        refine own_iconst 251 Y18 (1 : Int32) at_250 rfl rfl ?_
        refine own_goto 255 Y18 at_251 (by decide) ?_
        refine own_istore 257 Y18 #[.val (.int x0), .val (.int x1), .val (.int x2), .val (.int x3), .val (.int x4), .val (.int (2 : Int32)), .val (.int c0), .val (.int c1), .val (.int c2), .val (.int c3), .val (.ref x), .val (.int rv), .unset, .val (.int (1 : Int32)), .unset, .unset] at_255 rfl rfl ?_
        refine own_iload 259 Y18 at_257 rfl rfl ?_
        refine own_iconst 260 Y18 (1 : Int32) at_259 rfl rfl ?_
        refine own_icT 270 Y18 at_260 (XT.ii_ne_t (by decide)) (by decide) ?_
        refine own_iload 272 Y18 at_270 rfl rfl ?_
        refine own_iconst 273 Y18 (2 : Int32) at_272 rfl rfl ?_
        refine own_icF 276 Y18 at_273 (XT.ii_ne_f (by decide)) rfl ?_
        refine own_iload 278 Y18 at_276 rfl rfl ?_
        refine own_istore 280 Y18 #[.val (.int x0), .val (.int x1), .val (.int x2), .val (.int x3), .val (.int x4), .val (.int (2 : Int32)), .val (.int c0), .val (.int c1), .val (.int c2), .val (.int c3), .val (.ref x), .val (.int rv), .unset, .val (.int (1 : Int32)), .val (.int c1), .unset] at_278 rfl rfl ?_
        refine own_goto 300 Y18 at_280 (by decide) ?_
        refine own_iload 302 Y18 at_300 rfl rfl ?_
        refine own_iconst 303 Y18 (2 : Int32) at_302 rfl rfl ?_
        refine own_icF 306 Y18 at_303 (XT.ii_lt_f (by decide)) rfl ?_
        refine own_iload 308 Y18 at_306 rfl rfl ?_
        refine own_bipush 310 Y18 (46 : Int32) at_308 rfl rfl ?_
        refine own_icF 313 Y18 at_310 (XT.ii_ne_f dt0) rfl ?_
        refine own_iload 315 Y18 at_313 rfl rfl ?_
        refine own_bipush 317 Y18 (46 : Int32) at_315 rfl rfl ?_
        refine own_icF 320 Y18 at_317 (XT.ii_eq_f dt1) rfl ?_
        refine own_iload 322 Y18 at_320 rfl rfl ?_
        refine own_iconst 323 Y18 (3 : Int32) at_322 rfl rfl ?_
        refine own_icT 340 Y18 at_323 (XT.ii_lt_t (by decide)) (by decide) ?_
        refine own_iload 342 Y18 at_340 rfl rfl ?_
        refine own_iconst 343 Y18 (4 : Int32) at_342 rfl rfl ?_
        refine own_icT 360 Y18 at_343 (XT.ii_lt_t (by decide)) (by decide) ?_
        refine own_iconst 361 Y18 (1 : Int32) at_360 rfl rfl ?_
        refine own_goto 365 Y18 at_361 (by decide) ?_
        refine own_istore 367 Y18 #[.val (.int x0), .val (.int x1), .val (.int x2), .val (.int x3), .val (.int x4), .val (.int (2 : Int32)), .val (.int c0), .val (.int c1), .val (.int c2), .val (.int c3), .val (.ref x), .val (.int rv), .unset, .val (.int (1 : Int32)), .val (.int c1), .val (.int (1 : Int32))] at_365 rfl rfl ?_
        refine own_iload 369 Y18 at_367 rfl rfl ?_
        refine own_ifF 372 Y18 at_369 (XT.i0_eq_f (by decide)) rfl ?_
        refine own_iload 374 Y18 at_372 rfl rfl ?_
        refine own_bipush 376 Y18 (46 : Int32) at_374 rfl rfl ?_
        refine own_icT 395 Y18 at_376 (XT.ii_eq_t dt0) (by decide) ?_
        refine own_iconst 396 Y18 (0 : Int32) at_395 rfl rfl ?_
        refine own_istore 398 Y18 #[.val (.int x0), .val (.int x1), .val (.int x2), .val (.int x3), .val (.int x4), .val (.int (2 : Int32)), .val (.int c0), .val (.int c1), .val (.int c2), .val (.int c3), .val (.ref x), .val (.int rv), .val (.int (0 : Int32)), .val (.int (1 : Int32)), .val (.int c1), .val (.int (1 : Int32))] at_396 rfl rfl ?_
        refine own_iload 400 Y18 at_398 rfl rfl ?_
        refine own_iload 402 Y18 at_400 rfl rfl ?_
        rw [if_pos dt0] at erv
        subst erv
        refine own_icF 405 Y18 at_402 (XT.ii_ne_f (by decide)) rfl ?_
        refine own_iconst 406 Y18 (1 : Int32) at_405 rfl rfl ?_
        refine own_goto 410 Y18 at_406 (by decide) ?_
        exact own_retNW Y18 H (t := .boolean) rfl (by simp) at_410 (by decide) (by decide) ⟨rfl, N⟩
      · rw [if_neg (fun z => z.elim dt1 at1)]
        show own_G p e below _ (T18.setTop (mkF m 219 #[.val (.int x0), .val (.int x1), .val (.int x2), .val (.int x3), .val (.int x4), .val (.int (2 : Int32)), .val (.int c0), .val (.int c1), .val (.int c2), .val (.int c3), .val (.ref x), .val (.int rv), .unset, .unset, .unset, .unset] [(.int (0 : Int32))]))
        refine own_ifT 254 Y18 at_219 (XT.i0_eq_t (by decide)) (by decide) ?_
        refine own_iconst 255 Y18 (0 : Int32) at_254 rfl rfl ?_
        refine own_istore 257 Y18 #[.val (.int x0), .val (.int x1), .val (.int x2), .val (.int x3), .val (.int x4), .val (.int (2 : Int32)), .val (.int c0), .val (.int c1), .val (.int c2), .val (.int c3), .val (.ref x), .val (.int rv), .unset, .val (.int (0 : Int32)), .unset, .unset] at_255 rfl rfl ?_
        refine own_iload 259 Y18 at_257 rfl rfl ?_
        refine own_iconst 260 Y18 (1 : Int32) at_259 rfl rfl ?_
        refine own_icT 270 Y18 at_260 (XT.ii_ne_t (by decide)) (by decide) ?_
        refine own_iload 272 Y18 at_270 rfl rfl ?_
        refine own_iconst 273 Y18 (2 : Int32) at_272 rfl rfl ?_
        refine own_icF 276 Y18 at_273 (XT.ii_ne_f (by decide)) rfl ?_
        refine own_iload 278 Y18 at_276 rfl rfl ?_
        refine own_istore 280 Y18 #[.val (.int x0), .val (.int x1), .val (.int x2), .val (.int x3), .val (.int x4), .val (.int (2 : Int32)), .val (.int c0), .val (.int c1), .val (.int c2), .val (.int c3), .val (.ref x), .val (.int rv), .unset, .val (.int (0 : Int32)), .val (.int c1), .unset] at_278 rfl rfl ?_
        refine own_goto 300 Y18 at_280 (by decide) ?_
        refine own_iload 302 Y18 at_300 rfl rfl ?_
        refine own_iconst 303 Y18 (2 : Int32) at_302 rfl rfl ?_
        refine own_icF 306 Y18 at_303 (XT.ii_lt_f (by decide)) rfl ?_
        refine own_iload 308 Y18 at_306 rfl rfl ?_
        refine own_bipush 310 Y18 (46 : Int32) at_308 rfl rfl ?_
        refine own_icF 313 Y18 at_310 (XT.ii_ne_f dt0) rfl ?_
        refine own_iload 315 Y18 at_313 rfl rfl ?_
        refine own_bipush 317 Y18 (46 : Int32) at_315 rfl rfl ?_
        refine own_icF 320 Y18 at_317 (XT.ii_eq_f dt1) rfl ?_
        refine own_iload 322 Y18 at_320 rfl rfl ?_
        refine own_iconst 323 Y18 (3 : Int32) at_322 rfl rfl ?_
        refine own_icT 340 Y18 at_323 (XT.ii_lt_t (by decide)) (by decide) ?_
        refine own_iload 342 Y18 at_340 rfl rfl ?_
        refine own_iconst 343 Y18 (4 : Int32) at_342 rfl rfl ?_
        refine own_icT 360 Y18 at_343 (XT.ii_lt_t (by decide)) (by decide) ?_
        refine own_iconst 361 Y18 (1 : Int32) at_360 rfl rfl ?_
        refine own_goto 365 Y18 at_361 (by decide) ?_
        refine own_istore 367 Y18 #[.val (.int x0), .val (.int x1), .val (.int x2), .val (.int x3), .val (.int x4), .val (.int (2 : Int32)), .val (.int c0), .val (.int c1), .val (.int c2), .val (.int c3), .val (.ref x), .val (.int rv), .unset, .val (.int (0 : Int32)), .val (.int c1), .val (.int (1 : Int32))] at_365 rfl rfl ?_
        refine own_iload 369 Y18 at_367 rfl rfl ?_
        refine own_ifT 395 Y18 at_369 (XT.i0_eq_t (by decide)) (by decide) ?_
        refine own_iconst 396 Y18 (0 : Int32) at_395 rfl rfl ?_
        refine own_istore 398 Y18 #[.val (.int x0), .val (.int x1), .val (.int x2), .val (.int x3), .val (.int x4), .val (.int (2 : Int32)), .val (.int c0), .val (.int c1), .val (.int c2), .val (.int c3), .val (.ref x), .val (.int rv), .val (.int (0 : Int32)), .val (.int (0 : Int32)), .val (.int c1), .val (.int (1 : Int32))] at_396 rfl rfl ?_
        refine own_iload 400 Y18 at_398 rfl rfl ?_
        refine own_iload 402 Y18 at_400 rfl rfl ?_
        rw [if_pos dt0] at erv
        subst erv
        refine own_icF 405 Y18 at_402 (XT.ii_ne_f (by decide)) rfl ?_
        refine own_iconst 406 Y18 (1 : Int32) at_405 rfl rfl ?_
        refine own_goto 410 Y18 at_406 (by decide) ?_
        exact own_retNW Y18 H (t := .boolean) rfl (by simp) at_410 (by decide) (by decide) ⟨rfl, N⟩
    · rw [if_pos (Or.inr at0)]
      show own_G p e below _ (T17.setTop (mkF m 205 #[.val (.int x0), .val (.int x1), .val (.int x2), .val (.int x3), .val (.int x4), .val (.int (2 : Int32)), .val (.int c0), .val (.int c1), .val (.int c2), .val (.int c3), .val (.ref x), .val (.int rv), .unset, .unset, .unset, .unset] [(.int (1 : Int32))]))
      refine own_ifF 208 Y17 at_205 (XT.i0_eq_f (by decide)) rfl ?_
      refine own_iload 210 Y17 at_208 rfl rfl ?_
      refine own_iconst 211 Y17 (2 : Int32) at_210 rfl rfl ?_
      refine own_icF 214 Y17 at_211 (XT.ii_lt_f (by decide)) rfl ?_
      refine own_iload 216 Y17 at_214 rfl rfl ?_
      refine own_callS 219 Y17 [(.int c1)] [] (own_wd hw 71 rfl) (own_wd hw 72 rfl) (own_wd hw 73 rfl) (own_wd hw 74 rfl) (c_leg l Z a0 hw c1 _) at_216 (by decide) (lenOf pd2 rfl) rfl rfl (by decide) (Nat.le_of_ble_eq_true rfl) (by decide) (by decide) rfl fun v19 T19 h19 L19 Y19 hQ19 => ?_
      obtain ⟨rfl, rfl, rfl⟩ := hQ19
      have N := N.app (Fr.nil n0)
      rcases own_cls c1 with dt1 | ⟨dt1, at1⟩ | ⟨dt1, at1⟩
      · rw [if_pos (Or.inl dt1)]
        show own_G p e below _ (T19.setTop (mkF m 219 #[.val (.int x0), .val (.int x1), .val (.int x2), .val (.int x3), .val (.int x4), .val (.int (2 : Int32)), .val (.int c0), .val (.int c1), .val (.int c2), .val (.int c3), .val (.ref x), .val (.int rv), .unset, .unset, .unset, .unset] [(.int (1 : Int32))]))
        refine own_ifF 222 Y19 at_219 (XT.i0_eq_f (by decide)) rfl ?_
        refine own_iload 224 Y19 at_222 rfl rfl ?_
        refine own_iconst 225 Y19 (3 : Int32) at_224 rfl rfl ?_
        refine own_icT 236 Y19 at_225 (XT.ii_lt_t (by decide)) (by decide) ?_
        refine own_iload 238 Y19 at_236 rfl rfl ?_
        refine own_iconst 239 Y19 (4 : Int32) at_238 rfl rfl ?_
        refine own_icT 250 Y19 at_239 (XT.ii_lt_t (by decide)) (by decide) ?_
        refine own_iconst 251 Y19 (1 : Int32) at_250 rfl rfl ?_
        refine own_goto 255 Y19 at_251 (by decide) ?_
        refine own_istore 257 Y19 #[.val (.int x0), .val (.int x1), .val (.int x2), .val (.int x3), .val (.int x4), .val (.int (2 : Int32)), .val (.int c0), .val (.int c1), .val (.int c2), .val (.int c3), .val (.ref x), .val (.int rv), .unset, .val (.int (1 : Int32)), .unset, .unset] at_255 rfl rfl ?_
        refine own_iload 259 Y19 at_257 rfl rfl ?_
        refine own_iconst 260 Y19 (1 : Int32) at_259 rfl rfl ?_
        refine own_icT 270 Y19 at_260 (XT.ii_ne_t (by decide)) (by decide) ?_
        refine own_iload 272 Y19 at_270 rfl rfl ?_
        refine own_iconst 273 Y19 (2 : Int32) at_272 rfl rfl ?_
        refine own_icF 276 Y19 at_273 (XT.ii_ne_f (by decide)) rfl ?_
        refine own_iload 278 Y19 at_276 rfl rfl ?_
        refine own_istore 280 Y19 #[.val (.int x0), .val (.int x1), .val (.int x2), .val (.int x3), .val (.int x4), .val (.int (2 : Int32)), .val (.int c0), .val (.int c1), .val (.int c2), .val (.int c3), .val (.ref x), .val (.int rv), .unset, .val (.int (1 : Int32)), .val (.int c1), .unset] at_278 rfl rfl ?_
        refine own_goto 300 Y19 at_280 (by decide) ?_
        refine own_iload 302 Y19 at_300 rfl rfl ?_
        refine own_iconst 303 Y19 (2 : Int32) at_302 rfl rfl ?_
        refine own_icF 306 Y19 at_303 (XT.ii_lt_f (by decide)) rfl ?_
        refine own_iload 308 Y19 at_306 rfl rfl ?_
        refine own_bipush 310 Y19 (46 : Int32) at_308 rfl rfl ?_
        refine own_icT 320 Y19 at_310 (XT.ii_ne_t dt0) (by decide) ?_
        refine own_iload 322 Y19 at_320 rfl rfl ?_
        refine own_iconst 323 Y19 (3 : Int32) at_322 rfl rfl ?_
        refine own_icT 340 Y19 at_323 (XT.ii_lt_t (by decide)) (by decide) ?_
        refine own_iload 342 Y19 at_340 rfl rfl ?_
        refine own_iconst 343 Y19 (4 : Int32) at_342 rfl rfl ?_
        refine own_icT 360 Y19 at_343 (XT.ii_lt_t (by decide)) (by decide) ?_
        refine own_iconst 361 Y19 (1 : Int32) at_360 rfl rfl ?_
        refine own_goto 365 Y19 at_361 (by decide) ?_
        refine own_istore 367 Y19 #[.val (.int x0), .val (.int x1), .val (.int x2), .val (.int x3), .val (.int x4), .val (.int (2 : Int32)), .val (.int c0), .val (.int c1), .val (.int c2), .val (.int c3), .val (.ref x), .val (.int rv), .unset, .val (.int (1 : Int32)), .val (.int c1), .val (.int (1 : Int32))] at_365 rfl rfl ?_
        refine own_iload 369 Y19 at_367 rfl rfl ?_
        refine own_ifF 372 Y19 at_369 (XT.i0_eq_f (by decide)) rfl ?_
        refine own_iload 374 Y19 at_372 rfl rfl ?_
        refine own_bipush 376 Y19 (46 : Int32) at_374 rfl rfl ?_
        refine own_icF 379 Y19 at_376 (XT.ii_eq_f dt0) rfl ?_
        refine own_iload 381 Y19 at_379 rfl rfl ?_
        refine own_bipush 383 Y19 (46 : Int32) at_381 rfl rfl ?_
        refine own_icT 395 Y19 at_383 (XT.ii_eq_t dt1) (by decide) ?_
        refine own_iconst 396 Y19 (0 : Int32) at_395 rfl rfl ?_
        refine own_istore 398 Y19 #[.val (.int x0), .val (.int x1), .val (.int x2), .val (.int x3), .val (.int x4), .val (.int (2 : Int32)), .val (.int c0), .val (.int c1), .val (.int c2), .val (.int c3), .val (.ref x), .val (.int rv), .val (.int (0 : Int32)), .val (.int (1 : Int32)), .val (.int c1), .val (.int (1 : Int32))] at_396 rfl rfl ?_
        refine own_iload 400 Y19 at_398 rfl rfl ?_
        refine own_iload 402 Y19 at_400 rfl rfl ?_
        rw [if_neg dt0, if_pos at0, if_pos dt1] at erv
        subst erv
        refine own_icF 405 Y19 at_402 (XT.ii_ne_f (by decide)) rfl ?_
        refine own_iconst 406 Y19 (1 : Int32) at_405 rfl rfl ?_
        refine own_goto 410 Y19 at_406 (by decide) ?_
        exact own_retNW Y19 H (t := .boolean) rfl (by simp) at_410 (by decide) (by decide) ⟨rfl, N⟩
      · rw [if_pos (Or.inr at1)]
        show own_G p e below _ (T19.setTop (mkF m 219 #[.val (.int x0), .val (.int x1), .val (.int x2), .val (.int x3), .val (.int x4), .val (.int (2 : Int32)), .val (.int c0), .val (.int c1), .val (.int c2), .val (.int c3), .val (.ref x), .val (.int rv), .unset, .unset, .unset, .unset] [(.int (1 : Int32))]))
        refine own_ifF 222 Y19 at_219 (XT.i0_eq_f (by decide)) rfl ?_
        refine own_iload 224 Y19 at_222 rfl rfl ?_
        refine own_iconst 225 Y19 (3 : Int32) at_224 rfl rfl ?_
        refine own_icT 236 Y19 at_225 (XT.ii_lt_t (by decide)) (by decide) ?_
        refine own_iload 238 Y19 at_236 rfl rfl ?_
        refine own_iconst 239 Y19 (4 : Int32) at_238 rfl rfl ?_
        refine own_icT 250 Y19 at_239 (XT.ii_lt_t (by decide)) (by decide) ?_
        refine own_iconst 251 Y19 (1 : Int32) at_250 rfl rfl ?_
        refine own_goto 255 Y19 at_251 (by decide) ?_
        refine own_istore 257 Y19 #[.val (.int x0), .val (.int x1), .val (.int x2), .val (.int x3), .val (.int x4), .val (.int (2 : Int32)), .val (.int c0), .val (.int c1), .val (.int c2), .val (.int c3), .val (.ref x), .val (.int rv), .unset, .val (.int (1 : Int32)), .unset, .unset] at_255 rfl rfl ?_
        refine own_iload 259 Y19 at_257 rfl rfl ?_
        refine own_iconst 260 Y19 (1 : Int32) at_259 rfl rfl ?_
        refine own_icT 270 Y19 at_260 (XT.ii_ne_t (by decide)) (by decide) ?_
        refine own_iload 272 Y19 at_270 rfl rfl ?_
        refine own_iconst 273 Y19 (2 : Int32) at_272 rfl rfl ?_
        refine own_icF 276 Y19 at_273 (XT.ii_ne_f (by decide)) rfl ?_
        refine own_iload 278 Y19 at_276 rfl rfl ?_
        refine own_istore 280 Y19 #[.val (.int x0), .val (.int x1), .val (.int x2), .val (.int x3), .val (.int x4), .val (.int (2 : Int32)), .val (.int c0), .val (.int c1), .val (.int c2), .val (.int c3), .val (.ref x), .val (.int rv), .unset, .val (.int (1 : Int32)), .val (.int c1), .unset] at_278 rfl rfl ?_
        refine own_goto 300 Y19 at_280 (by decide) ?_
        refine own_iload 302 Y19 at_300 rfl rfl ?_
        refine own_iconst 303 Y19 (2 : Int32) at_302 rfl rfl ?_
        refine own_icF 306 Y19 at_303 (XT.ii_lt_f (by decide)) rfl ?_
        refine own_iload 308 Y19 at_306 rfl rfl ?_
        refine own_bipush 310 Y19 (46 : Int32) at_308 rfl rfl ?_
        refine own_icT 320 Y19 at_310 (XT.ii_ne_t dt0) (by decide) ?_
        refine own_iload 322 Y19 at_320 rfl rfl ?_
        refine own_iconst 323 Y19 (3 : Int32) at_322 rfl rfl ?_
        refine own_icT 340 Y19 at_323 (XT.ii_lt_t (by decide)) (by decide) ?_
        refine own_iload 342 Y19 at_340 rfl rfl ?_
        refine own_iconst 343 Y19 (4 : Int32) at_342 rfl rfl ?_
        refine own_icT 360 Y19 at_343 (XT.ii_lt_t (by decide)) (by decide) ?_
        refine own_iconst 361 Y19 (1 : Int32) at_360 rfl rfl ?_
        refine own_goto 365 Y19 at_361 (by decide) ?_
        refine own_istore 367 Y19 #[.val (.int x0), .val (.int x1), .val (.int x2), .val (.int x3), .val (.int x4), .val (.int (2 : Int32)), .val (.int c0), .val (.int c1), .val (.int c2), .val (.int c3), .val (.ref x), .val (.int rv), .unset, .val (.int (1 : Int32)), .val (.int c1), .val (.int (1 : Int32))] at_365 rfl rfl ?_
        refine own_iload 369 Y19 at_367 rfl rfl ?_
        refine own_ifF 372 Y19 at_369 (XT.i0_eq_f (by decide)) rfl ?_
        refine own_iload 374 Y19 at_372 rfl rfl ?_
        refine own_bipush 376 Y19 (46 : Int32) at_374 rfl rfl ?_
        refine own_icF 379 Y19 at_376 (XT.ii_eq_f dt0) rfl ?_
        refine own_iload 381 Y19 at_379 rfl rfl ?_
        refine own_bipush 383 Y19 (46 : Int32) at_381 rfl rfl ?_
        refine own_icF 386 Y19 at_383 (XT.ii_eq_f dt1) rfl ?_
        refine own_iload 388 Y19 at_386 rfl rfl ?_
        refine own_ifF 391 Y19 at_388 (XT.i0_eq_f (by decide)) rfl ?_
        refine own_iconst 392 Y19 (1 : Int32) at_391 rfl rfl ?_
        refine own_goto 396 Y19 at_392 (by decide) ?_
        refine own_istore 398 Y19 #[.val (.int x0), .val (.int x1), .val (.int x2), .val (.int x3), .val (.int x4), .val (.int (2 : Int32)), .val (.int c0), .val (.int c1), .val (.int c2), .val (.int c3), .val (.ref x), .val (.int rv), .val (.int (1 : Int32)), .val (.int (1 : Int32)), .val (.int c1), .val (.int (1 : Int32))] at_396 rfl rfl ?_
        refine own_iload 400 Y19 at_398 rfl rfl ?_
        refine own_iload 402 Y19 at_400 rfl rfl ?_
        rw [if_neg dt0, if_pos at0, if_neg dt1, if_pos at1] at erv
        subst erv
        refine own_icF 405 Y19 at_402 (XT.ii_ne_f (by decide)) rfl ?_
        refine own_iconst 406 Y19 (1 : Int32) at_405 rfl rfl ?_
        refine own_goto 410 Y19 at_406 (by decide) ?_
        exact own_retNW Y19 H (t := .boolean) rfl (by simp) at_410 (by decide) (by decide) ⟨rfl, N⟩
      · rw [if_neg (fun z => z.elim dt1 at1)]
        show own_G p e below _ (T19.setTop (mkF m 219 #[.val (.int x0), .val (.int x1), .val (.int x2), .val (.int x3), .val (.int x4), .val (.int (2 : Int32)), .val (.int c0), .val (.int c1), .val (.int c2), .val (.int c3), .val (.ref x), .val (.int rv), .unset, .unset, .unset, .unset] [(.int (0 : Int32))]))
        refine own_ifT 254 Y19 at_219 (XT.i0_eq_t (by decide)) (by decide) ?_
        refine own_iconst 255 Y19 (0 : Int32) at_254 rfl rfl ?_
        refine own_istore 257 Y19 #[.val (.int x0), .val (.int x1), .val (.int x2), .val (.int x3), .val (.int x4), .val (.int (2 : Int32)), .val (.int c0), .val (.int c1), .val (.int c2), .val (.int c3), .val (.ref x), .val (.int rv), .unset, .val (.int (0 : Int32)), .unset, .unset] at_255 rfl rfl ?_
        refine own_iload 259 Y19 at_257 rfl rfl ?_
        refine own_iconst 260 Y19 (1 : Int32) at_259 rfl rfl ?_
        refine own_icT 270 Y19 at_260 (XT.ii_ne_t (by decide)) (by decide) ?_
        refine own_iload 272 Y19 at_270 rfl rfl ?_
        refine own_iconst 273 Y19 (2 : Int32) at_272 rfl rfl ?_
        refine own_icF 276 Y19 at_273 (XT.ii_ne_f (by decide)) rfl ?_
        refine own_iload 278 Y19 at_276 rfl rfl ?_
        refine own_istore 280 Y19 #[.val (.int x0), .val (.int x1), .val (.int x2), .val (.int x3), .val (.int x4), .val (.int (2 : Int32)), .val (.int c0), .val (.int c1), .val (.int c2), .val (.int c3), .val (.ref x), .val (.int rv), .unset, .val (.int (0 : Int32)), .val (.int c1), .unset] at_278 rfl rfl ?_
        refine own_goto 300 Y19 at_280 (by decide) ?_
        refine own_iload 302 Y19 at_300 rfl rfl ?_
        refine own_iconst 303 Y19 (2 : Int32) at_302 rfl rfl ?_
        refine own_icF 306 Y19 at_303 (XT.ii_lt_f (by decide)) rfl ?_
        refine own_iload 308 Y19 at_306 rfl rfl ?_
        refine own_bipush 310 Y19 (46 : Int32) at_308 rfl rfl ?_
        refine own_icT 320 Y19 at_310 (XT.ii_ne_t dt0) (by decide) ?_
        refine own_iload 322 Y19 at_320 rfl rfl ?_
        refine own_iconst 323 Y19 (3 : Int32) at_322 rfl rfl ?_
        refine own_icT 340 Y19 at_323 (XT.ii_lt_t (by decide)) (by decide) ?_
        refine own_iload 342 Y19 at_340 rfl rfl ?_
        refine own_iconst 343 Y19 (4 : Int32) at_342 rfl rfl ?_
        refine own_icT 360 Y19 at_343 (XT.ii_lt_t (by decide)) (by decide) ?_
        refine own_iconst 361 Y19 (1 : Int32) at_360 rfl rfl ?_
        refine own_goto 365 Y19 at_361 (by decide) ?_
        refine own_istore 367 Y19 #[.val (.int x0), .val (.int x1), .val (.int x2), .val (.int x3), .val (.int x4), .val (.int (2 : Int32)), .val (.int c0), .val (.int c1), .val (.int c2), .val (.int c3), .val (.ref x), .val (.int rv), .unset, .val (.int (0 : Int32)), .val (.int c1), .val (.int (1 : Int32))] at_365 rfl rfl ?_
        refine own_iload 369 Y19 at_367 rfl rfl ?_
        refine own_ifT 395 Y19 at_369 (XT.i0_eq_t (by decide)) (by decide) ?_
        refine own_iconst 396 Y19 (0 : Int32) at_395 rfl rfl ?_
        refine own_istore 398 Y19 #[.val (.int x0), .val (.int x1), .val (.int x2), .val (.int x3), .val (.int x4), .val (.int (2 : Int32)), .val (.int c0), .val (.int c1), .val (.int c2), .val (.int c3), .val (.ref x), .val (.int rv), .val (.int (0 : Int32)), .val (.int (0 : Int32)), .val (.int c1), .val (.int (1 : Int32))] at_396 rfl rfl ?_
        refine own_iload 400 Y19 at_398 rfl rfl ?_
        refine own_iload 402 Y19 at_400 rfl rfl ?_
        rw [if_neg dt0, if_pos at0, if_neg dt1, if_neg at1] at erv
        subst erv
        refine own_icF 405 Y19 at_402 (XT.ii_ne_f (by decide)) rfl ?_
        refine own_iconst 406 Y19 (1 : Int32) at_405 rfl rfl ?_
        refine own_goto 410 Y19 at_406 (by decide) ?_
        exact own_retNW Y19 H (t := .boolean) rfl (by simp) at_410 (by decide) (by decide) ⟨rfl, N⟩
    · rw [if_neg (fun z => z.elim dt0 at0)]
      show own_G p e below _ (T17.setTop (mkF m 205 #[.val (.int x0), .val (.int x1), .val (.int x2), .val (.int x3), .val (.int x4), .val (.int (2 : Int32)), .val (.int c0), .val (.int c1), .val (.int c2), .val (.int c3), .val (.ref x), .val (.int rv), .unset, .unset, .unset, .unset] [(.int (0 : Int32))]))
      refine own_ifT 254 Y17 at_205 (XT.i0_eq_t (by decide)) (by decide) ?_
      refine own_iconst 255 Y17 (0 : Int32) at_254 rfl rfl ?_
      refine own_istore 257 Y17 #[.val (.int x0), .val (.int x1), .val (.int x2), .val (.int x3), .val (.int x4), .val (.int (2 : Int32)), .val (.int c0), .val (.int c1), .val (.int c2), .val (.int c3), .val (.ref x), .val (.int rv), .unset, .val (.int (0 : Int32)), .unset, .unset] at_255 rfl rfl ?_
      refine own_iload 259 Y17 at_257 rfl rfl ?_
      refine own_iconst 260 Y17 (1 : Int32) at_259 rfl rfl ?_
      refine own_icT 270 Y17 at_260 (XT.ii_ne_t (by decide)) (by decide) ?_
      refine own_iload 272 Y17 at_270 rfl rfl ?_
      refine own_iconst 273 Y17 (2 : Int32) at_272 rfl rfl ?_
      refine own_icF 276 Y17 at_273 (XT.ii_ne_f (by decide)) rfl ?_
      refine own_iload 278 Y17 at_276 rfl rfl ?_
      refine own_istore 280 Y17 #[.val (.int x0), .val (.int x1), .val (.int x2), .val (.int x3), .val (.int x4), .val (.int (2 : Int32)), .val (.int c0), .val (.int c1), .val (.int c2), .val (.int c3), .val (.ref x), .val (.int rv), .unset, .val (.int (0 : Int32)), .val (.int c1), .unset] at_278 rfl rfl ?_
      refine own_goto 300 Y17 at_280 (by decide) ?_
      refine own_iload 302 Y17 at_300 rfl rfl ?_
      refine own_iconst 303 Y17 (2 : Int32) at_302 rfl rfl ?_
      refine own_icF 306 Y17 at_303 (XT.ii_lt_f (by decide)) rfl ?_
      refine own_iload 308 Y17 at_306 rfl rfl ?_
      refine own_bipush 310 Y17 (46 : Int32) at_308 rfl rfl ?_
      refine own_icT 320 Y17 at_310 (XT.ii_ne_t dt0) (by decide) ?_
      refine own_iload 322 Y17 at_320 rfl rfl ?_
      refine own_iconst 323 Y17 (3 : Int32) at_322 rfl rfl ?_
      refine own_icT 340 Y17 at_323 (XT.ii_lt_t (by decide)) (by decide) ?_
      refine own_iload 342 Y17 at_340 rfl rfl ?_
      refine own_iconst 343 Y17 (4 : Int32) at_342 rfl rfl ?_
      refine own_icT 360 Y17 at_343 (XT.ii_lt_t (by decide)) (by decide) ?_
      refine own_iconst 361 Y17 (1 : Int32) at_360 rfl rfl ?_
      refine own_goto 365 Y17 at_361 (by decide) ?_
      refine own_istore 367 Y17 #[.val (.int x0), .val (.int x1), .val (.int x2), .val (.int x3), .val (.int x4), .val (.int (2 : Int32)), .val (.int c0), .val (.int c1), .val (.int c2), .val (.int c3), .val (.ref x), .val (.int rv), .unset, .val (.int (0 : Int32)), .val (.int c1), .val (.int (1 : Int32))] at_365 rfl rfl ?_
      refine own_iload 369 Y17 at_367 rfl rfl ?_
      refine own_ifT 395 Y17 at_369 (XT.i0_eq_t (by decide)) (by decide) ?_
      refine own_iconst 396 Y17 (0 : Int32) at_395 rfl rfl ?_
      refine own_istore 398 Y17 #[.val (.int x0), .val (.int x1), .val (.int x2), .val (.int x3), .val (.int x4), .val (.int (2 : Int32)), .val (.int c0), .val (.int c1), .val (.int c2), .val (.int c3), .val (.ref x), .val (.int rv), .val (.int (0 : Int32)), .val (.int (0 : Int32)), .val (.int c1), .val (.int (1 : Int32))] at_396 rfl rfl ?_
      refine own_iload 400 Y17 at_398 rfl rfl ?_
      refine own_iload 402 Y17 at_400 rfl rfl ?_
      rw [if_neg dt0, if_neg at0] at erv
      subst erv
      refine own_icF 405 Y17 at_402 (XT.ii_ne_f (by decide)) rfl ?_
      refine own_iconst 406 Y17 (1 : Int32) at_405 rfl rfl ?_
      refine own_goto 410 Y17 at_406 (by decide) ?_
      exact own_retNW Y17 H (t := .boolean) rfl (by simp) at_410 (by decide) (by decide) ⟨rfl, N⟩
  · rw [e5]
    refine own_istore 8 Y #[.val (.int x0), .val (.int x1), .val (.int x2), .val (.int x3), .val (.int x4), .val (.int (3 : Int32)), .unset, .unset, .unset, .unset, .unset, .unset, .unset, .unset, .unset, .unset] at_6 rfl rfl ?_
    refine own_iloadN 9 Y at_8 rfl rfl ?_
    refine own_ldcI 11 Y (own_wd hw 1 rfl) at_9 rfl ?_
    refine own_iand 12 Y at_11 rfl ?_
    refine own_i2c 13 Y at_12 rfl ?_
    have hn0 : nar .char (x1 &&& (65535 : Int32)).toUInt32.toUInt16.toUInt32.toInt32 = (x1 &&& (65535 : Int32)).toUInt32.toUInt16.toUInt32.toInt32 := own_nar2 _
    revert hn0
    generalize (x1 &&& (65535 : Int32)).toUInt32.toUInt16.toUInt32.toInt32 = c0
    intro hn0
    refine own_istore 15 Y #[.val (.int x0), .val (.int x1), .val (.int x2), .val (.int x3), .val (.int x4), .val (.int (3 : Int32)), .val (.int c0), .unset, .unset, .unset, .unset, .unset, .unset, .unset, .unset, .unset] at_13 rfl rfl ?_
    refine own_iloadN 16 Y at_15 rfl rfl ?_
    refine own_ldcI 18 Y (own_wd hw 1 rfl) at_16 rfl ?_
    refine own_iand 19 Y at_18 rfl ?_
    refine own_i2c 20 Y at_19 rfl ?_
    have hn1 : nar .char (x2 &&& (65535 : Int32)).toUInt32.toUInt16.toUInt32.toInt32 = (x2 &&& (65535 : Int32)).toUInt32.toUInt16.toUInt32.toInt32 := own_nar2 _
    revert hn1
    generalize (x2 &&& (65535 : Int32)).toUInt32.toUInt16.toUInt32.toInt32 = c1
    intro hn1
    refine own_istore 22 Y #[.val (.int x0), .val (.int x1), .val (.int x2), .val (.int x3), .val (.int x4), .val (.int (3 : Int32)), .val (.int c0), .val (.int c1), .unset, .unset, .unset, .unset, .unset, .unset, .unset, .unset] at_20 rfl rfl ?_
    refine own_iloadN 23 Y at_22 rfl rfl ?_
    refine own_ldcI 25 Y (own_wd hw 1 rfl) at_23 rfl ?_
    refine own_iand 26 Y at_25 rfl ?_
    refine own_i2c 27 Y at_26 rfl ?_
    have hn2 : nar .char (x3 &&& (65535 : Int32)).toUInt32.toUInt16.toUInt32.toInt32 = (x3 &&& (65535 : Int32)).toUInt32.toUInt16.toUInt32.toInt32 := own_nar2 _
    revert hn2
    generalize (x3 &&& (65535 : Int32)).toUInt32.toUInt16.toUInt32.toInt32 = c2
    intro hn2
    refine own_istore 29 Y #[.val (.int x0), .val (.int x1), .val (.int x2), .val (.int x3), .val (.int x4), .val (.int (3 : Int32)), .val (.int c0), .val (.int c1), .val (.int c2), .unset, .unset, .unset, .unset, .unset, .unset, .unset] at_27 rfl rfl ?_
    refine own_iload 31 Y at_29 rfl rfl ?_
    refine own_ldcI 33 Y (own_wd hw 1 rfl) at_31 rfl ?_
    refine own_iand 34 Y at_33 rfl ?_
    refine own_i2c 35 Y at_34 rfl ?_
    have hn3 : nar .char (x4 &&& (65535 : Int32)).toUInt32.toUInt16.toUInt32.toInt32 = (x4 &&& (65535 : Int32)).toUInt32.toUInt16.toUInt32.toInt32 := own_nar2 _
    revert hn3
    generalize (x4 &&& (65535 : Int32)).toUInt32.toUInt16.toUInt32.toInt32 = c3
    intro hn3
    refine own_istore 37 Y #[.val (.int x0), .val (.int x1), .val (.int x2), .val (.int x3), .val (.int x4), .val (.int (3 : Int32)), .val (.int c0), .val (.int c1), .val (.int c2), .val (.int c3), .unset, .unset, .unset, .unset, .unset, .unset] at_35 rfl rfl ?_
    refine own_iload 39 Y at_37 rfl rfl ?_
    refine own_ifT 57 Y at_39 (XT.i0_ne_t (by decide)) (by decide) ?_
    refine own_iload 59 Y at_57 rfl rfl ?_
    refine own_iconst 60 Y (1 : Int32) at_59 rfl rfl ?_
    refine own_icT 83 Y at_60 (XT.ii_ne_t (by decide)) (by decide) ?_
    refine own_iload 85 Y at_83 rfl rfl ?_
    refine own_iconst 86 Y (2 : Int32) at_85 rfl rfl ?_
    refine own_icT 114 Y at_86 (XT.ii_ne_t (by decide)) (by decide) ?_
    refine own_iload 116 Y at_114 rfl rfl ?_
    refine own_iconst 117 Y (3 : Int32) at_116 rfl rfl ?_
    refine own_icF 120 Y at_117 (XT.ii_ne_f (by decide)) rfl ?_
    refine own_newO 123 Y (own_wd hw 2 rfl) (own_wd hw 3 rfl) (own_wd hw 4 rfl) at_120 (by decide) (by decide) rfl fun T20 h20 x Y20 g_x E20 X_x D20 => ?_
    have gn_x : n0 ≤ x := by rw [g_x]; exact Zs
    have sn_x := own_sNew H E20 g_x
    have Zs := Nat.le_trans Zs E20.1
    have O := O.ext E20
    have H := H.ext E20
    have sf_x := sn_x
    have F_x_value := D20 (Or.inr (own_wd hw 18 rfl)) (ty := (.array .byte)) (by decide)
    have F_x_coder := D20 (Or.inr (own_wd hw 19 rfl)) (ty := .byte) (by decide)
    refine own_dup 124 Y20 at_123 rfl rfl ?_
    refine own_iconst 125 Y20 (3 : Int32) at_124 rfl rfl ?_
    refine own_newP 127 Y20 (own_wd hw 5 rfl) 3 at_125 (by decide) (by decide) (by decide) (by decide) (by decide) rfl fun T21 h21 ca k_ca Y21 g_ca E21 V_ca => ?_
    have ne_x_ca : x ≠ ca := by rw [g_ca]; exact Nat.ne_of_lt X_x.lt
    have gn_ca : n0 ≤ ca := by rw [g_ca]; exact Zs
    have sn_ca := own_sNew H E21 g_ca
    have sf_x := H.sExt E21 sf_x
    have Zs := Nat.le_trans Zs E21.1
    have O := O.ext E21
    have H := H.ext E21
    have X_x := X_x.ext E21
    have F_x_value := F_x_value.ext E21
    have F_x_coder := F_x_coder.ext E21
    have sf_ca := sn_ca
    have V_ca : Arv Z h21 ca k_ca .char (3 : Int32) [(.int (0 : Int32)), (.int (0 : Int32)), (.int (0 : Int32))] (.int (0 : Int32)) := V_ca.pad (pad_rep [] _ 3)
    refine own_dup 128 Y21 at_127 rfl rfl ?_
    refine own_iconst 129 Y21 (0 : Int32) at_128 rfl rfl ?_
    refine own_iload 131 Y21 at_129 rfl rfl ?_
    refine own_stC 132 Y21 V_ca at_131 ⟨by decide, by decide⟩ rfl fun T22 h22 Y22 W22 A22 => ?_
    have sf_x := H.sWr W22 sf_ca sf_x
    have H' := H.wr W22 sf_ca
    have sf_ca := H.sWr W22 sf_ca sf_ca
    have H := H'
    have N := own_frY Y22 N gn_ca
    have Zs := Nat.le_trans Zs (Nat.le_of_eq W22.size.symm)
    have O := O.wr W22 gn_ca
    have X_x := X_x.wr W22
    have F_x_value := F_x_value.other W22 (Or.inl ne_x_ca)
    have F_x_coder := F_x_coder.other W22 (Or.inl ne_x_ca)
    have V_ca : Arv Z h22 ca k_ca .char (3 : Int32) [(.int (nar .char c0)), (.int (0 : Int32)), (.int (0 : Int32))] (.int (0 : Int32)) := A22 0 rfl (Nat.le_of_ble_eq_true rfl) (fits_nar_char _)
    rw [hn0] at V_ca
    refine own_dup 133 Y22 at_132 rfl rfl ?_
    refine own_iconst 134 Y22 (1 : Int32) at_133 rfl rfl ?_
    refine own_iload 136 Y22 at_134 rfl rfl ?_
    refine own_stC 137 Y22 V_ca at_136 ⟨by decide, by decide⟩ rfl fun T23 h23 Y23 W23 A23 => ?_
    have sf_x := H.sWr W23 sf_ca sf_x
    have H' := H.wr W23 sf_ca
    have sf_ca := H.sWr W23 sf_ca sf_ca
    have H := H'
    have N := own_frY Y23 N gn_ca
    have Zs := Nat.le_trans Zs (Nat.le_of_eq W23.size.symm)
    have O := O.wr W23 gn_ca
    have X_x := X_x.wr W23
    have F_x_value := F_x_value.other W23 (Or.inl ne_x_ca)
    have F_x_coder := F_x_coder.other W23 (Or.inl ne_x_ca)
    have V_ca : Arv Z h23 ca k_ca .char (3 : Int32) [(.int c0), (.int (nar .char c1)), (.int (0 : Int32))] (.int (0 : Int32)) := A23 1 rfl (Nat.le_of_ble_eq_true rfl) (fits_nar_char _)
    rw [hn1] at V_ca
    refine own_dup 138 Y23 at_137 rfl rfl ?_
    refine own_iconst 139 Y23 (2 : Int32) at_138 rfl rfl ?_
    refine own_iload 141 Y23 at_139 rfl rfl ?_
    refine own_stC 142 Y23 V_ca at_141 ⟨by decide, by decide⟩ rfl fun T24 h24 Y24 W24 A24 => ?_
    have sf_x := H.sWr W24 sf_ca sf_x
    have H' := H.wr W24 sf_ca
    have sf_ca := H.sWr W24 sf_ca sf_ca
    have H := H'
    have N := own_frY Y24 N gn_ca
    have Zs := Nat.le_trans Zs (Nat.le_of_eq W24.size.symm)
    have O := O.wr W24 gn_ca
    have X_x := X_x.wr W24
    have F_x_value := F_x_value.other W24 (Or.inl ne_x_ca)
    have F_x_coder := F_x_coder.other W24 (Or.inl ne_x_ca)
    have V_ca : Arv Z h24 ca k_ca .char (3 : Int32) [(.int c0), (.int c1), (.int (nar .char c2))] (.int (0 : Int32)) := A24 2 rfl (Nat.le_of_ble_eq_true rfl) (fits_nar_char _)
    rw [hn2] at V_ca
    refine own_callI 145 Y24 [(.ref ca)] [(.ref x)] rfl (own_wd hw 6 rfl) (own_wd hw 7 rfl) (own_wd hw 4 rfl) (own_wd hw 8 rfl) (c_new1w_3 l Z a0 hw x ca k_ca c0 c1 c2 hn0 hn1 hn2 z fm _ n0 O WS Zs gn_x ne_x_ca _ _ X_x F_x_value F_x_coder V_ca) at_142 (by decide) (lenOf pdsnew1 rfl) rfl rfl (by decide) (Nat.le_of_ble_eq_true rfl) (by decide) (by decide) rfl fun v25 T25 h25 L25 Y25 hQ25 => ?_
    obtain ⟨rfl, K25, N25, S_x⟩ := hQ25
    have H := H.keep K25 (sfS sf_x sf0)
    have O := O.keep K25 (allS gn_x all0)
    have N := N.app N25
    show own_G p e below _ (T25.setTop (mkF m 145 #[.val (.int x0), .val (.int x1), .val (.int x2), .val (.int x3), .val (.int x4), .val (.int (3 : Int32)), .val (.int c0), .val (.int c1), .val (.int c2), .val (.int c3), .unset, .unset, .unset, .unset, .unset, .unset] [(.ref x)]))
    refine own_astore 147 Y25 #[.val (.int x0), .val (.int x1), .val (.int x2), .val (.int x3), .val (.int x4), .val (.int (3 : Int32)), .val (.int c0), .val (.int c1), .val (.int c2), .val (.int c3), .val (.ref x), .unset, .unset, .unset, .unset, .unset] at_145 rfl rfl rfl ?_
    refine own_goto 182 Y25 at_147 (by decide) ?_
    refine own_aload 184 Y25 at_182 rfl rfl rfl ?_
    refine own_callS 187 Y25 [(.ref x)] [] (own_wd hw 24 rfl) (own_wd hw 25 rfl) (own_wd hw 26 rfl) (own_wd hw 27 rfl) (c_ism_3 l Z a0 hw x c0 c1 c2 hn0 hn1 hn2 z fm _ n0 O WS S_x) at_184 (by decide) (lenOf pd3 rfl) rfl rfl (by decide) (Nat.le_of_ble_eq_true rfl) (by decide) (by decide) rfl fun v26 T26 h26 L26 Y26 hQ26 => ?_
    obtain ⟨rfl, rfl, rfl⟩ := hQ26
    have N := N.app (Fr.nil n0)
    generalize erv : (if c0 = 46 then (0 : Int32) else (if atm c0 then (if c1 = 46 then (if c2 = 46 then (0 : Int32) else (if atm c2 then (1 : Int32) else (0 : Int32))) else (if atm c1 then (if c2 = 46 then (0 : Int32) else (if atm c2 then (1 : Int32) else (0 : Int32))) else (0 : Int32))) else (0 : Int32))) = rv
    show own_G p e below _ (T26.setTop (mkF m 187 #[.val (.int x0), .val (.int x1), .val (.int x2), .val (.int x3), .val (.int x4), .val (.int (3 : Int32)), .val (.int c0), .val (.int c1), .val (.int c2), .val (.int c3), .val (.ref x), .unset, .unset, .unset, .unset, .unset] [(.int rv)]))
    refine own_istore 189 Y26 #[.val (.int x0), .val (.int x1), .val (.int x2), .val (.int x3), .val (.int x4), .val (.int (3 : Int32)), .val (.int c0), .val (.int c1), .val (.int c2), .val (.int c3), .val (.ref x), .val (.int rv), .unset, .unset, .unset, .unset] at_187 rfl rfl ?_
    refine own_iload 191 Y26 at_189 rfl rfl ?_
    refine own_ifT 200 Y26 at_191 (XT.i0_ne_t (by decide)) (by decide) ?_
    refine own_iload 202 Y26 at_200 rfl rfl ?_
    refine own_callS 205 Y26 [(.int c0)] [] (own_wd hw 71 rfl) (own_wd hw 72 rfl) (own_wd hw 73 rfl) (own_wd hw 74 rfl) (c_leg l Z a0 hw c0 _) at_202 (by decide) (lenOf pd2 rfl) rfl rfl (by decide) (Nat.le_of_ble_eq_true rfl) (by decide) (by decide) rfl fun v27 T27 h27 L27 Y27 hQ27 => ?_
    obtain ⟨rfl, rfl, rfl⟩ := hQ27
    have N := N.app (Fr.nil n0)
    rcases own_cls c0 with dt0 | ⟨dt0, at0⟩ | ⟨dt0, at0⟩
    · rw [if_pos (Or.inl dt0)]
      show own_G p e below _ (T27.setTop (mkF m 205 #[.val (.int x0), .val (.int x1), .val (.int x2), .val (.int x3), .val (.int x4), .val (.int (3 : Int32)), .val (.int c0), .val (.int c1), .val (.int c2), .val (.int c3), .val (.ref x), .val (.int rv), .unset, .unset, .unset, .unset] [(.int (1 : Int32))]))
      refine own_ifF 208 Y27 at_205 (XT.i0_eq_f (by decide)) rfl ?_
      refine own_iload 210 Y27 at_208 rfl rfl ?_
      refine own_iconst 211 Y27 (2 : Int32) at_210 rfl rfl ?_
      refine own_icF 214 Y27 at_211 (XT.ii_lt_f (by decide)) rfl ?_
      refine own_iload 216 Y27 at_214 rfl rfl ?_
      refine own_callS 219 Y27 [(.int c1)] [] (own_wd hw 71 rfl) (own_wd hw 72 rfl) (own_wd hw 73 rfl) (own_wd hw 74 rfl) (c_leg l Z a0 hw c1 _) at_216 (by decide) (lenOf pd2 rfl) rfl rfl (by decide) (Nat.le_of_ble_eq_true rfl) (by decide) (by decide) rfl fun v28 T28 h28 L28 Y28 hQ28 => ?_
      obtain ⟨rfl, rfl, rfl⟩ := hQ28
      have N := N.app (Fr.nil n0)
      rcases own_cls c1 with dt1 | ⟨dt1, at1⟩ | ⟨dt1, at1⟩
      · rw [if_pos (Or.inl dt1)]
        show own_G p e below _ (T28.setTop (mkF m 219 #[.val (.int x0), .val (.int x1), .val (.int x2), .val (.int x3), .val (.int x4), .val (.int (3 : Int32)), .val (.int c0), .val (.int c1), .val (.int c2), .val (.int c3), .val (.ref x), .val (.int rv), .unset, .unset, .unset, .unset] [(.int (1 : Int32))]))
        refine own_ifF 222 Y28 at_219 (XT.i0_eq_f (by decide)) rfl ?_
        refine own_iload 224 Y28 at_222 rfl rfl ?_
        refine own_iconst 225 Y28 (3 : Int32) at_224 rfl rfl ?_
        refine own_icF 228 Y28 at_225 (XT.ii_lt_f (by decide)) rfl ?_
        refine own_iload 230 Y28 at_228 rfl rfl ?_
        refine own_callS 233 Y28 [(.int c2)] [] (own_wd hw 71 rfl) (own_wd hw 72 rfl) (own_wd hw 73 rfl) (own_wd hw 74 rfl) (c_leg l Z a0 hw c2 _) at_230 (by decide) (lenOf pd2 rfl) rfl rfl (by decide) (Nat.le_of_ble_eq_true rfl) (by decide) (by decide) rfl fun v29 T29 h29 L29 Y29 hQ29 => ?_
        obtain ⟨rfl, rfl, rfl⟩ := hQ29
        have N := N.app (Fr.nil n0)
        rcases own_cls c2 with dt2 | ⟨dt2, at2⟩ | ⟨dt2, at2⟩
        · rw [if_pos (Or.inl dt2)]
          show own_G p e below _ (T29.setTop (mkF m 233 #[.val (.int x0), .val (.int x1), .val (.int x2), .val (.int x3), .val (.int x4), .val (.int (3 : Int32)), .val (.int c0), .val (.int c1), .val (.int c2), .val (.int c3), .val (.ref x), .val (.int rv), .unset, .unset, .unset, .unset] [(.int (1 : Int32))]))
          refine own_ifF 236 Y29 at_233 (XT.i0_eq_f (by decide)) rfl ?_
          refine own_iload 238 Y29 at_236 rfl rfl ?_
          refine own_iconst 239 Y29 (4 : Int32) at_238 rfl rfl ?_
          refine own_icT 250 Y29 at_239 (XT.ii_lt_t (by decide)) (by decide) ?_
          refine own_iconst 251 Y29 (1 : Int32) at_250 rfl rfl ?_
          refine own_goto 255 Y29 at_251 (by decide) ?_
          refine own_istore 257 Y29 #[.val (.int x0), .val (.int x1), .val (.int x2), .val (.int x3), .val (.int x4), .val (.int (3 : Int32)), .val (.int c0), .val (.int c1), .val (.int c2), .val (.int c3), .val (.ref x), .val (.int rv), .unset, .val (.int (1 : Int32)), .unset, .unset] at_255 rfl rfl ?_
          refine own_iload 259 Y29 at_257 rfl rfl ?_
          refine own_iconst 260 Y29 (1 : Int32) at_259 rfl rfl ?_
          refine own_icT 270 Y29 at_260 (XT.ii_ne_t (by decide)) (by decide) ?_
          refine own_iload 272 Y29 at_270 rfl rfl ?_
          refine own_iconst 273 Y29 (2 : Int32) at_272 rfl rfl ?_
          refine own_icT 283 Y29 at_273 (XT.ii_ne_t (by decide)) (by decide) ?_
          refine own_iload 285 Y29 at_283 rfl rfl ?_
          refine own_iconst 286 Y29 (3 : Int32) at_285 rfl rfl ?_
          refine own_icF 289 Y29 at_286 (XT.ii_ne_f (by decide)) rfl ?_
          refine own_iload 291 Y29 at_289 rfl rfl ?_
          refine own_istore 293 Y29 #[.val (.int x0), .val (.int x1), .val (.int x2), .val (.int x3), .val (.int x4), .val (.int (3 : Int32)), .val (.int c0), .val (.int c1), .val (.int c2), .val (.int c3), .val (.ref x), .val (.int rv), .unset, .val (.int (1 : Int32)), .val (.int c2), .unset] at_291 rfl rfl ?_
          refine own_goto 300 Y29 at_293 (by decide) ?_
          refine own_iload 302 Y29 at_300 rfl rfl ?_
          refine own_iconst 303 Y29 (2 : Int32) at_302 rfl rfl ?_
          refine own_icF 306 Y29 at_303 (XT.ii_lt_f (by decide)) rfl ?_
          refine own_iload 308 Y29 at_306 rfl rfl ?_
          refine own_bipush 310 Y29 (46 : Int32) at_308 rfl rfl ?_
          refine own_icF 313 Y29 at_310 (XT.ii_ne_f dt0) rfl ?_
          refine own_iload 315 Y29 at_313 rfl rfl ?_
          refine own_bipush 317 Y29 (46 : Int32) at_315 rfl rfl ?_
          refine own_icT 364 Y29 at_317 (XT.ii_eq_t dt1) (by decide) ?_
          refine own_iconst 365 Y29 (0 : Int32) at_364 rfl rfl ?_
          refine own_istore 367 Y29 #[.val (.int x0), .val (.int x1), .val (.int x2), .val (.int x3), .val (.int x4), .val (.int (3 : Int32)), .val (.int c0), .val (.int c1), .val (.int c2), .val (.int c3), .val (.ref x), .val (.int rv), .unset, .val (.int (1 : Int32)), .val (.int c2), .val (.int (0 : Int32))] at_365 rfl rfl ?_
          refine own_iload 369 Y29 at_367 rfl rfl ?_
          refine own_ifF 372 Y29 at_369 (XT.i0_eq_f (by decide)) rfl ?_
          refine own_iload 374 Y29 at_372 rfl rfl ?_
          refine own_bipush 376 Y29 (46 : Int32) at_374 rfl rfl ?_
          refine own_icT 395 Y29 at_376 (XT.ii_eq_t dt0) (by decide) ?_
          refine own_iconst 396 Y29 (0 : Int32) at_395 rfl rfl ?_
          refine own_istore 398 Y29 #[.val (.int x0), .val (.int x1), .val (.int x2), .val (.int x3), .val (.int x4), .val (.int (3 : Int32)), .val (.int c0), .val (.int c1), .val (.int c2), .val (.int c3), .val (.ref x), .val (.int rv), .val (.int (0 : Int32)), .val (.int (1 : Int32)), .val (.int c2), .val (.int (0 : Int32))] at_396 rfl rfl ?_
          refine own_iload 400 Y29 at_398 rfl rfl ?_
          refine own_iload 402 Y29 at_400 rfl rfl ?_
          rw [if_pos dt0] at erv
          subst erv
          refine own_icF 405 Y29 at_402 (XT.ii_ne_f (by decide)) rfl ?_
          refine own_iconst 406 Y29 (1 : Int32) at_405 rfl rfl ?_
          refine own_goto 410 Y29 at_406 (by decide) ?_
          exact own_retNW Y29 H (t := .boolean) rfl (by simp) at_410 (by decide) (by decide) ⟨rfl, N⟩
        · rw [if_pos (Or.inr at2)]
          show own_G p e below _ (T29.setTop (mkF m 233 #[.val (.int x0), .val (.int x1), .val (.int x2), .val (.int x3), .val (.int x4), .val (.int (3 : Int32)), .val (.int c0), .val (.int c1), .val (.int c2), .val (.int c3), .val (.ref x), .val (.int rv), .unset, .unset, .unset, .unset] [(.int (1 : Int32))]))
          refine own_ifF 236 Y29 at_233 (XT.i0_eq_f (by decide)) rfl ?_
          refine own_iload 238 Y29 at_236 rfl rfl ?_
          refine own_iconst 239 Y29 (4 : Int32) at_238 rfl rfl ?_
          refine own_icT 250 Y29 at_239 (XT.ii_lt_t (by decide)) (by decide) ?_
          refine own_iconst 251 Y29 (1 : Int32) at_250 rfl rfl ?_
          refine own_goto 255 Y29 at_251 (by decide) ?_
          refine own_istore 257 Y29 #[.val (.int x0), .val (.int x1), .val (.int x2), .val (.int x3), .val (.int x4), .val (.int (3 : Int32)), .val (.int c0), .val (.int c1), .val (.int c2), .val (.int c3), .val (.ref x), .val (.int rv), .unset, .val (.int (1 : Int32)), .unset, .unset] at_255 rfl rfl ?_
          refine own_iload 259 Y29 at_257 rfl rfl ?_
          refine own_iconst 260 Y29 (1 : Int32) at_259 rfl rfl ?_
          refine own_icT 270 Y29 at_260 (XT.ii_ne_t (by decide)) (by decide) ?_
          refine own_iload 272 Y29 at_270 rfl rfl ?_
          refine own_iconst 273 Y29 (2 : Int32) at_272 rfl rfl ?_
          refine own_icT 283 Y29 at_273 (XT.ii_ne_t (by decide)) (by decide) ?_
          refine own_iload 285 Y29 at_283 rfl rfl ?_
          refine own_iconst 286 Y29 (3 : Int32) at_285 rfl rfl ?_
          refine own_icF 289 Y29 at_286 (XT.ii_ne_f (by decide)) rfl ?_
          refine own_iload 291 Y29 at_289 rfl rfl ?_
          refine own_istore 293 Y29 #[.val (.int x0), .val (.int x1), .val (.int x2), .val (.int x3), .val (.int x4), .val (.int (3 : Int32)), .val (.int c0), .val (.int c1), .val (.int c2), .val (.int c3), .val (.ref x), .val (.int rv), .unset, .val (.int (1 : Int32)), .val (.int c2), .unset] at_291 rfl rfl ?_
          refine own_goto 300 Y29 at_293 (by decide) ?_
          refine own_iload 302 Y29 at_300 rfl rfl ?_
          refine own_iconst 303 Y29 (2 : Int32) at_302 rfl rfl ?_
          refine own_icF 306 Y29 at_303 (XT.ii_lt_f (by decide)) rfl ?_
          refine own_iload 308 Y29 at_306 rfl rfl ?_
          refine own_bipush 310 Y29 (46 : Int32) at_308 rfl rfl ?_
          refine own_icF 313 Y29 at_310 (XT.ii_ne_f dt0) rfl ?_
          refine own_iload 315 Y29 at_313 rfl rfl ?_
          refine own_bipush 317 Y29 (46 : Int32) at_315 rfl rfl ?_
          refine own_icT 364 Y29 at_317 (XT.ii_eq_t dt1) (by decide) ?_
          refine own_iconst 365 Y29 (0 : Int32) at_364 rfl rfl ?_
          refine own_istore 367 Y29 #[.val (.int x0), .val (.int x1), .val (.int x2), .val (.int x3), .val (.int x4), .val (.int (3 : Int32)), .val (.int c0), .val (.int c1), .val (.int c2), .val (.int c3), .val (.ref x), .val (.int rv), .unset, .val (.int (1 : Int32)), .val (.int c2), .val (.int (0 : Int32))] at_365 rfl rfl ?_
          refine own_iload 369 Y29 at_367 rfl rfl ?_
          refine own_ifF 372 Y29 at_369 (XT.i0_eq_f (by decide)) rfl ?_
          refine own_iload 374 Y29 at_372 rfl rfl ?_
          refine own_bipush 376 Y29 (46 : Int32) at_374 rfl rfl ?_
          refine own_icT 395 Y29 at_376 (XT.ii_eq_t dt0) (by decide) ?_
          refine own_iconst 396 Y29 (0 : Int32) at_395 rfl rfl ?_
          refine own_istore 398 Y29 #[.val (.int x0), .val (.int x1), .val (.int x2), .val (.int x3), .val (.int x4), .val (.int (3 : Int32)), .val (.int c0), .val (.int c1), .val (.int c2), .val (.int c3), .val (.ref x), .val (.int rv), .val (.int (0 : Int32)), .val (.int (1 : Int32)), .val (.int c2), .val (.int (0 : Int32))] at_396 rfl rfl ?_
          refine own_iload 400 Y29 at_398 rfl rfl ?_
          refine own_iload 402 Y29 at_400 rfl rfl ?_
          rw [if_pos dt0] at erv
          subst erv
          refine own_icF 405 Y29 at_402 (XT.ii_ne_f (by decide)) rfl ?_
          refine own_iconst 406 Y29 (1 : Int32) at_405 rfl rfl ?_
          refine own_goto 410 Y29 at_406 (by decide) ?_
          exact own_retNW Y29 H (t := .boolean) rfl (by simp) at_410 (by decide) (by decide) ⟨rfl, N⟩
        · rw [if_neg (fun z => z.elim dt2 at2)]
          show own_G p e below _ (T29.setTop (mkF m 233 #[.val (.int x0), .val (.int x1), .val (.int x2), .val (.int x3), .val (.int x4), .val (.int (3 : Int32)), .val (.int c0), .val (.int c1), .val (.int c2), .val (.int c3), .val (.ref x), .val (.int rv), .unset, .unset, .unset, .unset] [(.int (0 : Int32))]))
          refine own_ifT 254 Y29 at_233 (XT.i0_eq_t (by decide)) (by decide) ?_
          refine own_iconst 255 Y29 (0 : Int32) at_254 rfl rfl ?_
          refine own_istore 257 Y29 #[.val (.int x0), .val (.int x1), .val (.int x2), .val (.int x3), .val (.int x4), .val (.int (3 : Int32)), .val (.int c0), .val (.int c1), .val (.int c2), .val (.int c3), .val (.ref x), .val (.int rv), .unset, .val (.int (0 : Int32)), .unset, .unset] at_255 rfl rfl ?_
          refine own_iload 259 Y29 at_257 rfl rfl ?_
          refine own_iconst 260 Y29 (1 : Int32) at_259 rfl rfl ?_
          refine own_icT 270 Y29 at_260 (XT.ii_ne_t (by decide)) (by decide) ?_
          refine own_iload 272 Y29 at_270 rfl rfl ?_
          refine own_iconst 273 Y29 (2 : Int32) at_272 rfl rfl ?_
          refine own_icT 283 Y29 at_273 (XT.ii_ne_t (by decide)) (by decide) ?_
          refine own_iload 285 Y29 at_283 rfl rfl ?_
          refine own_iconst 286 Y29 (3 : Int32) at_285 rfl rfl ?_
          refine own_icF 289 Y29 at_286 (XT.ii_ne_f (by decide)) rfl ?_
          refine own_iload 291 Y29 at_289 rfl rfl ?_
          refine own_istore 293 Y29 #[.val (.int x0), .val (.int x1), .val (.int x2), .val (.int x3), .val (.int x4), .val (.int (3 : Int32)), .val (.int c0), .val (.int c1), .val (.int c2), .val (.int c3), .val (.ref x), .val (.int rv), .unset, .val (.int (0 : Int32)), .val (.int c2), .unset] at_291 rfl rfl ?_
          refine own_goto 300 Y29 at_293 (by decide) ?_
          refine own_iload 302 Y29 at_300 rfl rfl ?_
          refine own_iconst 303 Y29 (2 : Int32) at_302 rfl rfl ?_
          refine own_icF 306 Y29 at_303 (XT.ii_lt_f (by decide)) rfl ?_
          refine own_iload 308 Y29 at_306 rfl rfl ?_
          refine own_bipush 310 Y29 (46 : Int32) at_308 rfl rfl ?_
          refine own_icF 313 Y29 at_310 (XT.ii_ne_f dt0) rfl ?_
          refine own_iload 315 Y29 at_313 rfl rfl ?_
          refine own_bipush 317 Y29 (46 : Int32) at_315 rfl rfl ?_
          refine own_icT 364 Y29 at_317 (XT.ii_eq_t dt1) (by decide) ?_
          refine own_iconst 365 Y29 (0 : Int32) at_364 rfl rfl ?_
          refine own_istore 367 Y29 #[.val (.int x0), .val (.int x1), .val (.int x2), .val (.int x3), .val (.int x4), .val (.int (3 : Int32)), .val (.int c0), .val (.int c1), .val (.int c2), .val (.int c3), .val (.ref x), .val (.int rv), .unset, .val (.int (0 : Int32)), .val (.int c2), .val (.int (0 : Int32))] at_365 rfl rfl ?_
          refine own_iload 369 Y29 at_367 rfl rfl ?_
          refine own_ifT 395 Y29 at_369 (XT.i0_eq_t (by decide)) (by decide) ?_
          refine own_iconst 396 Y29 (0 : Int32) at_395 rfl rfl ?_
          refine own_istore 398 Y29 #[.val (.int x0), .val (.int x1), .val (.int x2), .val (.int x3), .val (.int x4), .val (.int (3 : Int32)), .val (.int c0), .val (.int c1), .val (.int c2), .val (.int c3), .val (.ref x), .val (.int rv), .val (.int (0 : Int32)), .val (.int (0 : Int32)), .val (.int c2), .val (.int (0 : Int32))] at_396 rfl rfl ?_
          refine own_iload 400 Y29 at_398 rfl rfl ?_
          refine own_iload 402 Y29 at_400 rfl rfl ?_
          rw [if_pos dt0] at erv
          subst erv
          refine own_icF 405 Y29 at_402 (XT.ii_ne_f (by decide)) rfl ?_
          refine own_iconst 406 Y29 (1 : Int32) at_405 rfl rfl ?_
          refine own_goto 410 Y29 at_406 (by decide) ?_
          exact own_retNW Y29 H (t := .boolean) rfl (by simp) at_410 (by decide) (by decide) ⟨rfl, N⟩
      · rw [if_pos (Or.inr at1)]
        show own_G p e below _ (T28.setTop (mkF m 219 #[.val (.int x0), .val (.int x1), .val (.int x2), .val (.int x3), .val (.int x4), .val (.int (3 : Int32)), .val (.int c0), .val (.int c1), .val (.int c2), .val (.int c3), .val (.ref x), .val (.int rv), .unset, .unset, .unset, .unset] [(.int (1 : Int32))]))
        refine own_ifF 222 Y28 at_219 (XT.i0_eq_f (by decide)) rfl ?_
        refine own_iload 224 Y28 at_222 rfl rfl ?_
        refine own_iconst 225 Y28 (3 : Int32) at_224 rfl rfl ?_
        refine own_icF 228 Y28 at_225 (XT.ii_lt_f (by decide)) rfl ?_
        refine own_iload 230 Y28 at_228 rfl rfl ?_
        refine own_callS 233 Y28 [(.int c2)] [] (own_wd hw 71 rfl) (own_wd hw 72 rfl) (own_wd hw 73 rfl) (own_wd hw 74 rfl) (c_leg l Z a0 hw c2 _) at_230 (by decide) (lenOf pd2 rfl) rfl rfl (by decide) (Nat.le_of_ble_eq_true rfl) (by decide) (by decide) rfl fun v30 T30 h30 L30 Y30 hQ30 => ?_
        obtain ⟨rfl, rfl, rfl⟩ := hQ30
        have N := N.app (Fr.nil n0)
        rcases own_cls c2 with dt2 | ⟨dt2, at2⟩ | ⟨dt2, at2⟩
        · rw [if_pos (Or.inl dt2)]
          show own_G p e below _ (T30.setTop (mkF m 233 #[.val (.int x0), .val (.int x1), .val (.int x2), .val (.int x3), .val (.int x4), .val (.int (3 : Int32)), .val (.int c0), .val (.int c1), .val (.int c2), .val (.int c3), .val (.ref x), .val (.int rv), .unset, .unset, .unset, .unset] [(.int (1 : Int32))]))
          refine own_ifF 236 Y30 at_233 (XT.i0_eq_f (by decide)) rfl ?_
          refine own_iload 238 Y30 at_236 rfl rfl ?_
          refine own_iconst 239 Y30 (4 : Int32) at_238 rfl rfl ?_
          refine own_icT 250 Y30 at_239 (XT.ii_lt_t (by decide)) (by decide) ?_
          refine own_iconst 251 Y30 (1 : Int32) at_250 rfl rfl ?_
          refine own_goto 255 Y30 at_251 (by decide) ?_
          refine own_istore 257 Y30 #[.val (.int x0), .val (.int x1), .val (.int x2), .val (.int x3), .val (.int x4), .val (.int (3 : Int32)), .val (.int c0), .val (.int c1), .val (.int c2), .val (.int c3), .val (.ref x), .val (.int rv), .unset, .val (.int (1 : Int32)), .unset, .unset] at_255 rfl rfl ?_
          refine own_iload 259 Y30 at_257 rfl rfl ?_
          refine own_iconst 260 Y30 (1 : Int32) at_259 rfl rfl ?_
          refine own_icT 270 Y30 at_260 (XT.ii_ne_t (by decide)) (by decide) ?_
          refine own_iload 272 Y30 at_270 rfl rfl ?_
          refine own_iconst 273 Y30 (2 : Int32) at_272 rfl rfl ?_
          refine own_icT 283 Y30 at_273 (XT.ii_ne_t (by decide)) (by decide) ?_
          refine own_iload 285 Y30 at_283 rfl rfl ?_
          refine own_iconst 286 Y30 (3 : Int32) at_285 rfl rfl ?_
          refine own_icF 289 Y30 at_286 (XT.ii_ne_f (by decide)) rfl ?_
          refine own_iload 291 Y30 at_289 rfl rfl ?_
          refine own_istore 293 Y30 #[.val (.int x0), .val (.int x1), .val (.int x2), .val (.int x3), .val (.int x4), .val (.int (3 : Int32)), .val (.int c0), .val (.int c1), .val (.int c2), .val (.int c3), .val (.ref x), .val (.int rv), .unset, .val (.int (1 : Int32)), .val (.int c2), .unset] at_291 rfl rfl ?_
          refine own_goto 300 Y30 at_293 (by decide) ?_
          refine own_iload 302 Y30 at_300 rfl rfl ?_
          refine own_iconst 303 Y30 (2 : Int32) at_302 rfl rfl ?_
          refine own_icF 306 Y30 at_303 (XT.ii_lt_f (by decide)) rfl ?_
          refine own_iload 308 Y30 at_306 rfl rfl ?_
          refine own_bipush 310 Y30 (46 : Int32) at_308 rfl rfl ?_
          refine own_icF 313 Y30 at_310 (XT.ii_ne_f dt0) rfl ?_
          refine own_iload 315 Y30 at_313 rfl rfl ?_
          refine own_bipush 317 Y30 (46 : Int32) at_315 rfl rfl ?_
          refine own_icF 320 Y30 at_317 (XT.ii_eq_f dt1) rfl ?_
          refine own_iload 322 Y30 at_320 rfl rfl ?_
          refine own_iconst 323 Y30 (3 : Int32) at_322 rfl rfl ?_
          refine own_icF 326 Y30 at_323 (XT.ii_lt_f (by decide)) rfl ?_
          refine own_iload 328 Y30 at_326 rfl rfl ?_
          refine own_bipush 330 Y30 (46 : Int32) at_328 rfl rfl ?_
          refine own_icT 340 Y30 at_330 (XT.ii_ne_t dt1) (by decide) ?_
          refine own_iload 342 Y30 at_340 rfl rfl ?_
          refine own_iconst 343 Y30 (4 : Int32) at_342 rfl rfl ?_
          refine own_icT 360 Y30 at_343 (XT.ii_lt_t (by decide)) (by decide) ?_
          refine own_iconst 361 Y30 (1 : Int32) at_360 rfl rfl ?_
          refine own_goto 365 Y30 at_361 (by decide) ?_
          refine own_istore 367 Y30 #[.val (.int x0), .val (.int x1), .val (.int x2), .val (.int x3), .val (.int x4), .val (.int (3 : Int32)), .val (.int c0), .val (.int c1), .val (.int c2), .val (.int c3), .val (.ref x), .val (.int rv), .unset, .val (.int (1 : Int32)), .val (.int c2), .val (.int (1 : Int32))] at_365 rfl rfl ?_
          refine own_iload 369 Y30 at_367 rfl rfl ?_
          refine own_ifF 372 Y30 at_369 (XT.i0_eq_f (by decide)) rfl ?_
          refine own_iload 374 Y30 at_372 rfl rfl ?_
          refine own_bipush 376 Y30 (46 : Int32) at_374 rfl rfl ?_
          refine own_icT 395 Y30 at_376 (XT.ii_eq_t dt0) (by decide) ?_
          refine own_iconst 396 Y30 (0 : Int32) at_395 rfl rfl ?_
          refine own_istore 398 Y30 #[.val (.int x0), .val (.int x1), .val (.int x2), .val (.int x3), .val (.int x4), .val (.int (3 : Int32)), .val (.int c0), .val (.int c1), .val (.int c2), .val (.int c3), .val (.ref x), .val (.int rv), .val (.int (0 : Int32)), .val (.int (1 : Int32)), .val (.int c2), .val (.int (1 : Int32))] at_396 rfl rfl ?_
          refine own_iload 400 Y30 at_398 rfl rfl ?_
          refine own_iload 402 Y30 at_400 rfl rfl ?_
          rw [if_pos dt0] at erv
          subst erv
          refine own_icF 405 Y30 at_402 (XT.ii_ne_f (by decide)) rfl ?_
          refine own_iconst 406 Y30 (1 : Int32) at_405 rfl rfl ?_
          refine own_goto 410 Y30 at_406 (by decide) ?_
          exact own_retNW Y30 H (t := .boolean) rfl (by simp) at_410 (by decide) (by decide) ⟨rfl, N⟩
        · rw [if_pos (Or.inr at2)]
          show own_G p e below _ (T30.setTop (mkF m 233 #[.val (.int x0), .val (.int x1), .val (.int x2), .val (.int x3), .val (.int x4), .val (.int (3 : Int32)), .val (.int c0), .val (.int c1), .val (.int c2), .val (.int c3), .val (.ref x), .val (.int rv), .unset, .unset, .unset, .unset] [(.int (1 : Int32))]))
          refine own_ifF 236 Y30 at_233 (XT.i0_eq_f (by decide)) rfl ?_
          refine own_iload 238 Y30 at_236 rfl rfl ?_
          refine own_iconst 239 Y30 (4 : Int32) at_238 rfl rfl ?_
          refine own_icT 250 Y30 at_239 (XT.ii_lt_t (by decide)) (by decide) ?_
          refine own_iconst 251 Y30 (1 : Int32) at_250 rfl rfl ?_
          refine own_goto 255 Y30 at_251 (by decide) ?_
          refine own_istore 257 Y30 #[.val (.int x0), .val (.int x1), .val (.int x2), .val (.int x3), .val (.int x4), .val (.int (3 : Int32)), .val (.int c0), .val (.int c1), .val (.int c2), .val (.int c3), .val (.ref x), .val (.int rv), .unset, .val (.int (1 : Int32)), .unset, .unset] at_255 rfl rfl ?_
          refine own_iload 259 Y30 at_257 rfl rfl ?_
          refine own_iconst 260 Y30 (1 : Int32) at_259 rfl rfl ?_
          refine own_icT 270 Y30 at_260 (XT.ii_ne_t (by decide)) (by decide) ?_
          refine own_iload 272 Y30 at_270 rfl rfl ?_
          refine own_iconst 273 Y30 (2 : Int32) at_272 rfl rfl ?_
          refine own_icT 283 Y30 at_273 (XT.ii_ne_t (by decide)) (by decide) ?_
          refine own_iload 285 Y30 at_283 rfl rfl ?_
          refine own_iconst 286 Y30 (3 : Int32) at_285 rfl rfl ?_
          refine own_icF 289 Y30 at_286 (XT.ii_ne_f (by decide)) rfl ?_
          refine own_iload 291 Y30 at_289 rfl rfl ?_
          refine own_istore 293 Y30 #[.val (.int x0), .val (.int x1), .val (.int x2), .val (.int x3), .val (.int x4), .val (.int (3 : Int32)), .val (.int c0), .val (.int c1), .val (.int c2), .val (.int c3), .val (.ref x), .val (.int rv), .unset, .val (.int (1 : Int32)), .val (.int c2), .unset] at_291 rfl rfl ?_
          refine own_goto 300 Y30 at_293 (by decide) ?_
          refine own_iload 302 Y30 at_300 rfl rfl ?_
          refine own_iconst 303 Y30 (2 : Int32) at_302 rfl rfl ?_
          refine own_icF 306 Y30 at_303 (XT.ii_lt_f (by decide)) rfl ?_
          refine own_iload 308 Y30 at_306 rfl rfl ?_
          refine own_bipush 310 Y30 (46 : Int32) at_308 rfl rfl ?_
          refine own_icF 313 Y30 at_310 (XT.ii_ne_f dt0) rfl ?_
          refine own_iload 315 Y30 at_313 rfl rfl ?_
          refine own_bipush 317 Y30 (46 : Int32) at_315 rfl rfl ?_
          refine own_icF 320 Y30 at_317 (XT.ii_eq_f dt1) rfl ?_
          refine own_iload 322 Y30 at_320 rfl rfl ?_
          refine own_iconst 323 Y30 (3 : Int32) at_322 rfl rfl ?_
          refine own_icF 326 Y30 at_323 (XT.ii_lt_f (by decide)) rfl ?_
          refine own_iload 328 Y30 at_326 rfl rfl ?_
          refine own_bipush 330 Y30 (46 : Int32) at_328 rfl rfl ?_
          refine own_icT 340 Y30 at_330 (XT.ii_ne_t dt1) (by decide) ?_
          refine own_iload 342 Y30 at_340 rfl rfl ?_
          refine own_iconst 343 Y30 (4 : Int32) at_342 rfl rfl ?_
          refine own_icT 360 Y30 at_343 (XT.ii_lt_t (by decide)) (by decide) ?_
          refine own_iconst 361 Y30 (1 : Int32) at_360 rfl rfl ?_
          refine own_goto 365 Y30 at_361 (by decide) ?_
          refine own_istore 367 Y30 #[.val (.int x0), .val (.int x1), .val (.int x2), .val (.int x3), .val (.int x4), .val (.int (3 : Int32)), .val (.int c0), .val (.int c1), .val (.int c2), .val (.int c3), .val (.ref x), .val (.int rv), .unset, .val (.int (1 : Int32)), .val (.int c2), .val (.int (1 : Int32))] at_365 rfl rfl ?_
          refine own_iload 369 Y30 at_367 rfl rfl ?_
          refine own_ifF 372 Y30 at_369 (XT.i0_eq_f (by decide)) rfl ?_
          refine own_iload 374 Y30 at_372 rfl rfl ?_
          refine own_bipush 376 Y30 (46 : Int32) at_374 rfl rfl ?_
          refine own_icT 395 Y30 at_376 (XT.ii_eq_t dt0) (by decide) ?_
          refine own_iconst 396 Y30 (0 : Int32) at_395 rfl rfl ?_
          refine own_istore 398 Y30 #[.val (.int x0), .val (.int x1), .val (.int x2), .val (.int x3), .val (.int x4), .val (.int (3 : Int32)), .val (.int c0), .val (.int c1), .val (.int c2), .val (.int c3), .val (.ref x), .val (.int rv), .val (.int (0 : Int32)), .val (.int (1 : Int32)), .val (.int c2), .val (.int (1 : Int32))] at_396 rfl rfl ?_
          refine own_iload 400 Y30 at_398 rfl rfl ?_
          refine own_iload 402 Y30 at_400 rfl rfl ?_
          rw [if_pos dt0] at erv
          subst erv
          refine own_icF 405 Y30 at_402 (XT.ii_ne_f (by decide)) rfl ?_
          refine own_iconst 406 Y30 (1 : Int32) at_405 rfl rfl ?_
          refine own_goto 410 Y30 at_406 (by decide) ?_
          exact own_retNW Y30 H (t := .boolean) rfl (by simp) at_410 (by decide) (by decide) ⟨rfl, N⟩
        · rw [if_neg (fun z => z.elim dt2 at2)]
          show own_G p e below _ (T30.setTop (mkF m 233 #[.val (.int x0), .val (.int x1), .val (.int x2), .val (.int x3), .val (.int x4), .val (.int (3 : Int32)), .val (.int c0), .val (.int c1), .val (.int c2), .val (.int c3), .val (.ref x), .val (.int rv), .unset, .unset, .unset, .unset] [(.int (0 : Int32))]))
          refine own_ifT 254 Y30 at_233 (XT.i0_eq_t (by decide)) (by decide) ?_
          refine own_iconst 255 Y30 (0 : Int32) at_254 rfl rfl ?_
          refine own_istore 257 Y30 #[.val (.int x0), .val (.int x1), .val (.int x2), .val (.int x3), .val (.int x4), .val (.int (3 : Int32)), .val (.int c0), .val (.int c1), .val (.int c2), .val (.int c3), .val (.ref x), .val (.int rv), .unset, .val (.int (0 : Int32)), .unset, .unset] at_255 rfl rfl ?_
          refine own_iload 259 Y30 at_257 rfl rfl ?_
          refine own_iconst 260 Y30 (1 : Int32) at_259 rfl rfl ?_
          refine own_icT 270 Y30 at_260 (XT.ii_ne_t (by decide)) (by decide) ?_
          refine own_iload 272 Y30 at_270 rfl rfl ?_
          refine own_iconst 273 Y30 (2 : Int32) at_272 rfl rfl ?_
          refine own_icT 283 Y30 at_273 (XT.ii_ne_t (by decide)) (by decide) ?_
          refine own_iload 285 Y30 at_283 rfl rfl ?_
          refine own_iconst 286 Y30 (3 : Int32) at_285 rfl rfl ?_
          refine own_icF 289 Y30 at_286 (XT.ii_ne_f (by decide)) rfl ?_
          refine own_iload 291 Y30 at_289 rfl rfl ?_
          refine own_istore 293 Y30 #[.val (.int x0), .val (.int x1), .val (.int x2), .val (.int x3), .val (.int x4), .val (.int (3 : Int32)), .val (.int c0), .val (.int c1), .val (.int c2), .val (.int c3), .val (.ref x), .val (.int rv), .unset, .val (.int (0 : Int32)), .val (.int c2), .unset] at_291 rfl rfl ?_
          refine own_goto 300 Y30 at_293 (by decide) ?_
          refine own_iload 302 Y30 at_300 rfl rfl ?_
          refine own_iconst 303 Y30 (2 : Int32) at_302 rfl rfl ?_
          refine own_icF 306 Y30 at_303 (XT.ii_lt_f (by decide)) rfl ?_
          refine own_iload 308 Y30 at_306 rfl rfl ?_
          refine own_bipush 310 Y30 (46 : Int32) at_308 rfl rfl ?_
          refine own_icF 313 Y30 at_310 (XT.ii_ne_f dt0) rfl ?_
          refine own_iload 315 Y30 at_313 rfl rfl ?_
          refine own_bipush 317 Y30 (46 : Int32) at_315 rfl rfl ?_
          refine own_icF 320 Y30 at_317 (XT.ii_eq_f dt1) rfl ?_
          refine own_iload 322 Y30 at_320 rfl rfl ?_
          refine own_iconst 323 Y30 (3 : Int32) at_322 rfl rfl ?_
          refine own_icF 326 Y30 at_323 (XT.ii_lt_f (by decide)) rfl ?_
          refine own_iload 328 Y30 at_326 rfl rfl ?_
          refine own_bipush 330 Y30 (46 : Int32) at_328 rfl rfl ?_
          refine own_icT 340 Y30 at_330 (XT.ii_ne_t dt1) (by decide) ?_
          refine own_iload 342 Y30 at_340 rfl rfl ?_
          refine own_iconst 343 Y30 (4 : Int32) at_342 rfl rfl ?_
          refine own_icT 360 Y30 at_343 (XT.ii_lt_t (by decide)) (by decide) ?_
          refine own_iconst 361 Y30 (1 : Int32) at_360 rfl rfl ?_
          refine own_goto 365 Y30 at_361 (by decide) ?_
          refine own_istore 367 Y30 #[.val (.int x0), .val (.int x1), .val (.int x2), .val (.int x3), .val (.int x4), .val (.int (3 : Int32)), .val (.int c0), .val (.int c1), .val (.int c2), .val (.int c3), .val (.ref x), .val (.int rv), .unset, .val (.int (0 : Int32)), .val (.int c2), .val (.int (1 : Int32))] at_365 rfl rfl ?_
          refine own_iload 369 Y30 at_367 rfl rfl ?_
          refine own_ifT 395 Y30 at_369 (XT.i0_eq_t (by decide)) (by decide) ?_
          refine own_iconst 396 Y30 (0 : Int32) at_395 rfl rfl ?_
          refine own_istore 398 Y30 #[.val (.int x0), .val (.int x1), .val (.int x2), .val (.int x3), .val (.int x4), .val (.int (3 : Int32)), .val (.int c0), .val (.int c1), .val (.int c2), .val (.int c3), .val (.ref x), .val (.int rv), .val (.int (0 : Int32)), .val (.int (0 : Int32)), .val (.int c2), .val (.int (1 : Int32))] at_396 rfl rfl ?_
          refine own_iload 400 Y30 at_398 rfl rfl ?_
          refine own_iload 402 Y30 at_400 rfl rfl ?_
          rw [if_pos dt0] at erv
          subst erv
          refine own_icF 405 Y30 at_402 (XT.ii_ne_f (by decide)) rfl ?_
          refine own_iconst 406 Y30 (1 : Int32) at_405 rfl rfl ?_
          refine own_goto 410 Y30 at_406 (by decide) ?_
          exact own_retNW Y30 H (t := .boolean) rfl (by simp) at_410 (by decide) (by decide) ⟨rfl, N⟩
      · rw [if_neg (fun z => z.elim dt1 at1)]
        show own_G p e below _ (T28.setTop (mkF m 219 #[.val (.int x0), .val (.int x1), .val (.int x2), .val (.int x3), .val (.int x4), .val (.int (3 : Int32)), .val (.int c0), .val (.int c1), .val (.int c2), .val (.int c3), .val (.ref x), .val (.int rv), .unset, .unset, .unset, .unset] [(.int (0 : Int32))]))
        refine own_ifT 254 Y28 at_219 (XT.i0_eq_t (by decide)) (by decide) ?_
        refine own_iconst 255 Y28 (0 : Int32) at_254 rfl rfl ?_
        refine own_istore 257 Y28 #[.val (.int x0), .val (.int x1), .val (.int x2), .val (.int x3), .val (.int x4), .val (.int (3 : Int32)), .val (.int c0), .val (.int c1), .val (.int c2), .val (.int c3), .val (.ref x), .val (.int rv), .unset, .val (.int (0 : Int32)), .unset, .unset] at_255 rfl rfl ?_
        refine own_iload 259 Y28 at_257 rfl rfl ?_
        refine own_iconst 260 Y28 (1 : Int32) at_259 rfl rfl ?_
        refine own_icT 270 Y28 at_260 (XT.ii_ne_t (by decide)) (by decide) ?_
        refine own_iload 272 Y28 at_270 rfl rfl ?_
        refine own_iconst 273 Y28 (2 : Int32) at_272 rfl rfl ?_
        refine own_icT 283 Y28 at_273 (XT.ii_ne_t (by decide)) (by decide) ?_
        refine own_iload 285 Y28 at_283 rfl rfl ?_
        refine own_iconst 286 Y28 (3 : Int32) at_285 rfl rfl ?_
        refine own_icF 289 Y28 at_286 (XT.ii_ne_f (by decide)) rfl ?_
        refine own_iload 291 Y28 at_289 rfl rfl ?_
        refine own_istore 293 Y28 #[.val (.int x0), .val (.int x1), .val (.int x2), .val (.int x3), .val (.int x4), .val (.int (3 : Int32)), .val (.int c0), .val (.int c1), .val (.int c2), .val (.int c3), .val (.ref x), .val (.int rv), .unset, .val (.int (0 : Int32)), .val (.int c2), .unset] at_291 rfl rfl ?_
        refine own_goto 300 Y28 at_293 (by decide) ?_
        refine own_iload 302 Y28 at_300 rfl rfl ?_
        refine own_iconst 303 Y28 (2 : Int32) at_302 rfl rfl ?_
        refine own_icF 306 Y28 at_303 (XT.ii_lt_f (by decide)) rfl ?_
        refine own_iload 308 Y28 at_306 rfl rfl ?_
        refine own_bipush 310 Y28 (46 : Int32) at_308 rfl rfl ?_
        refine own_icF 313 Y28 at_310 (XT.ii_ne_f dt0) rfl ?_
        refine own_iload 315 Y28 at_313 rfl rfl ?_
        refine own_bipush 317 Y28 (46 : Int32) at_315 rfl rfl ?_
        refine own_icF 320 Y28 at_317 (XT.ii_eq_f dt1) rfl ?_
        refine own_iload 322 Y28 at_320 rfl rfl ?_
        refine own_iconst 323 Y28 (3 : Int32) at_322 rfl rfl ?_
        refine own_icF 326 Y28 at_323 (XT.ii_lt_f (by decide)) rfl ?_
        refine own_iload 328 Y28 at_326 rfl rfl ?_
        refine own_bipush 330 Y28 (46 : Int32) at_328 rfl rfl ?_
        refine own_icT 340 Y28 at_330 (XT.ii_ne_t dt1) (by decide) ?_
        refine own_iload 342 Y28 at_340 rfl rfl ?_
        refine own_iconst 343 Y28 (4 : Int32) at_342 rfl rfl ?_
        refine own_icT 360 Y28 at_343 (XT.ii_lt_t (by decide)) (by decide) ?_
        refine own_iconst 361 Y28 (1 : Int32) at_360 rfl rfl ?_
        refine own_goto 365 Y28 at_361 (by decide) ?_
        refine own_istore 367 Y28 #[.val (.int x0), .val (.int x1), .val (.int x2), .val (.int x3), .val (.int x4), .val (.int (3 : Int32)), .val (.int c0), .val (.int c1), .val (.int c2), .val (.int c3), .val (.ref x), .val (.int rv), .unset, .val (.int (0 : Int32)), .val (.int c2), .val (.int (1 : Int32))] at_365 rfl rfl ?_
        refine own_iload 369 Y28 at_367 rfl rfl ?_
        refine own_ifT 395 Y28 at_369 (XT.i0_eq_t (by decide)) (by decide) ?_
        refine own_iconst 396 Y28 (0 : Int32) at_395 rfl rfl ?_
        refine own_istore 398 Y28 #[.val (.int x0), .val (.int x1), .val (.int x2), .val (.int x3), .val (.int x4), .val (.int (3 : Int32)), .val (.int c0), .val (.int c1), .val (.int c2), .val (.int c3), .val (.ref x), .val (.int rv), .val (.int (0 : Int32)), .val (.int (0 : Int32)), .val (.int c2), .val (.int (1 : Int32))] at_396 rfl rfl ?_
        refine own_iload 400 Y28 at_398 rfl rfl ?_
        refine own_iload 402 Y28 at_400 rfl rfl ?_
        rw [if_pos dt0] at erv
        subst erv
        refine own_icF 405 Y28 at_402 (XT.ii_ne_f (by decide)) rfl ?_
        refine own_iconst 406 Y28 (1 : Int32) at_405 rfl rfl ?_
        refine own_goto 410 Y28 at_406 (by decide) ?_
        exact own_retNW Y28 H (t := .boolean) rfl (by simp) at_410 (by decide) (by decide) ⟨rfl, N⟩
    · rw [if_pos (Or.inr at0)]
      show own_G p e below _ (T27.setTop (mkF m 205 #[.val (.int x0), .val (.int x1), .val (.int x2), .val (.int x3), .val (.int x4), .val (.int (3 : Int32)), .val (.int c0), .val (.int c1), .val (.int c2), .val (.int c3), .val (.ref x), .val (.int rv), .unset, .unset, .unset, .unset] [(.int (1 : Int32))]))
      refine own_ifF 208 Y27 at_205 (XT.i0_eq_f (by decide)) rfl ?_
      refine own_iload 210 Y27 at_208 rfl rfl ?_
      refine own_iconst 211 Y27 (2 : Int32) at_210 rfl rfl ?_
      refine own_icF 214 Y27 at_211 (XT.ii_lt_f (by decide)) rfl ?_
      refine own_iload 216 Y27 at_214 rfl rfl ?_
      refine own_callS 219 Y27 [(.int c1)] [] (own_wd hw 71 rfl) (own_wd hw 72 rfl) (own_wd hw 73 rfl) (own_wd hw 74 rfl) (c_leg l Z a0 hw c1 _) at_216 (by decide) (lenOf pd2 rfl) rfl rfl (by decide) (Nat.le_of_ble_eq_true rfl) (by decide) (by decide) rfl fun v31 T31 h31 L31 Y31 hQ31 => ?_
      obtain ⟨rfl, rfl, rfl⟩ := hQ31
      have N := N.app (Fr.nil n0)
      rcases own_cls c1 with dt1 | ⟨dt1, at1⟩ | ⟨dt1, at1⟩
      · rw [if_pos (Or.inl dt1)]
        show own_G p e below _ (T31.setTop (mkF m 219 #[.val (.int x0), .val (.int x1), .val (.int x2), .val (.int x3), .val (.int x4), .val (.int (3 : Int32)), .val (.int c0), .val (.int c1), .val (.int c2), .val (.int c3), .val (.ref x), .val (.int rv), .unset, .unset, .unset, .unset] [(.int (1 : Int32))]))
        refine own_ifF 222 Y31 at_219 (XT.i0_eq_f (by decide)) rfl ?_
        refine own_iload 224 Y31 at_222 rfl rfl ?_
        refine own_iconst 225 Y31 (3 : Int32) at_224 rfl rfl ?_
        refine own_icF 228 Y31 at_225 (XT.ii_lt_f (by decide)) rfl ?_
        refine own_iload 230 Y31 at_228 rfl rfl ?_
        refine own_callS 233 Y31 [(.int c2)] [] (own_wd hw 71 rfl) (own_wd hw 72 rfl) (own_wd hw 73 rfl) (own_wd hw 74 rfl) (c_leg l Z a0 hw c2 _) at_230 (by decide) (lenOf pd2 rfl) rfl rfl (by decide) (Nat.le_of_ble_eq_true rfl) (by decide) (by decide) rfl fun v32 T32 h32 L32 Y32 hQ32 => ?_
        obtain ⟨rfl, rfl, rfl⟩ := hQ32
        have N := N.app (Fr.nil n0)
        rcases own_cls c2 with dt2 | ⟨dt2, at2⟩ | ⟨dt2, at2⟩
        · rw [if_pos (Or.inl dt2)]
          show own_G p e below _ (T32.setTop (mkF m 233 #[.val (.int x0), .val (.int x1), .val (.int x2), .val (.int x3), .val (.int x4), .val (.int (3 : Int32)), .val (.int c0), .val (.int c1), .val (.int c2), .val (.int c3), .val (.ref x), .val (.int rv), .unset, .unset, .unset, .unset] [(.int (1 : Int32))]))
          refine own_ifF 236 Y32 at_233 (XT.i0_eq_f (by decide)) rfl ?_
          refine own_iload 238 Y32 at_236 rfl rfl ?_
          refine own_iconst 239 Y32 (4 : Int32) at_238 rfl rfl ?_
          refine own_icT 250 Y32 at_239 (XT.ii_lt_t (by decide)) (by decide) ?_
          refine own_iconst 251 Y32 (1 : Int32) at_250 rfl rfl ?_
          refine own_goto 255 Y32 at_251 (by decide) ?_
          refine own_istore 257 Y32 #[.val (.int x0), .val (.int x1), .val (.int x2), .val (.int x3), .val (.int x4), .val (.int (3 : Int32)), .val (.int c0), .val (.int c1), .val (.int c2), .val (.int c3), .val (.ref x), .val (.int rv), .unset, .val (.int (1 : Int32)), .unset, .unset] at_255 rfl rfl ?_
          refine own_iload 259 Y32 at_257 rfl rfl ?_
          refine own_iconst 260 Y32 (1 : Int32) at_259 rfl rfl ?_
          refine own_icT 270 Y32 at_260 (XT.ii_ne_t (by decide)) (by decide) ?_
          refine own_iload 272 Y32 at_270 rfl rfl ?_
          refine own_iconst 273 Y32 (2 : Int32) at_272 rfl rfl ?_
          refine own_icT 283 Y32 at_273 (XT.ii_ne_t (by decide)) (by decide) ?_
          refine own_iload 285 Y32 at_283 rfl rfl ?_
          refine own_iconst 286 Y32 (3 : Int32) at_285 rfl rfl ?_
          refine own_icF 289 Y32 at_286 (XT.ii_ne_f (by decide)) rfl ?_
          refine own_iload 291 Y32 at_289 rfl rfl ?_
          refine own_istore 293 Y32 #[.val (.int x0), .val (.int x1), .val (.int x2), .val (.int x3), .val (.int x4), .val (.int (3 : Int32)), .val (.int c0), .val (.int c1), .val (.int c2), .val (.int c3), .val (.ref x), .val (.int rv), .unset, .val (.int (1 : Int32)), .val (.int c2), .unset] at_291 rfl rfl ?_
          refine own_goto 300 Y32 at_293 (by decide) ?_
          refine own_iload 302 Y32 at_300 rfl rfl ?_
          refine own_iconst 303 Y32 (2 : Int32) at_302 rfl rfl ?_
          refine own_icF 306 Y32 at_303 (XT.ii_lt_f (by decide)) rfl ?_
          refine own_iload 308 Y32 at_306 rfl rfl ?_
          refine own_bipush 310 Y32 (46 : Int32) at_308 rfl rfl ?_
          refine own_icT 320 Y32 at_310 (XT.ii_ne_t dt0) (by decide) ?_
          refine own_iload 322 Y32 at_320 rfl rfl ?_
          refine own_iconst 323 Y32 (3 : Int32) at_322 rfl rfl ?_
          refine own_icF 326 Y32 at_323 (XT.ii_lt_f (by decide)) rfl ?_
          refine own_iload 328 Y32 at_326 rfl rfl ?_
          refine own_bipush 330 Y32 (46 : Int32) at_328 rfl rfl ?_
          refine own_icF 333 Y32 at_330 (XT.ii_ne_f dt1) rfl ?_
          refine own_iload 335 Y32 at_333 rfl rfl ?_
          refine own_bipush 337 Y32 (46 : Int32) at_335 rfl rfl ?_
          refine own_icT 364 Y32 at_337 (XT.ii_eq_t dt2) (by decide) ?_
          refine own_iconst 365 Y32 (0 : Int32) at_364 rfl rfl ?_
          refine own_istore 367 Y32 #[.val (.int x0), .val (.int x1), .val (.int x2), .val (.int x3), .val (.int x4), .val (.int (3 : Int32)), .val (.int c0), .val (.int c1), .val (.int c2), .val (.int c3), .val (.ref x), .val (.int rv), .unset, .val (.int (1 : Int32)), .val (.int c2), .val (.int (0 : Int32))] at_365 rfl rfl ?_
          refine own_iload 369 Y32 at_367 rfl rfl ?_
          refine own_ifF 372 Y32 at_369 (XT.i0_eq_f (by decide)) rfl ?_
          refine own_iload 374 Y32 at_372 rfl rfl ?_
          refine own_bipush 376 Y32 (46 : Int32) at_374 rfl rfl ?_
          refine own_icF 379 Y32 at_376 (XT.ii_eq_f dt0) rfl ?_
          refine own_iload 381 Y32 at_379 rfl rfl ?_
          refine own_bipush 383 Y32 (46 : Int32) at_381 rfl rfl ?_
          refine own_icT 395 Y32 at_383 (XT.ii_eq_t dt2) (by decide) ?_
          refine own_iconst 396 Y32 (0 : Int32) at_395 rfl rfl ?_
          refine own_istore 398 Y32 #[.val (.int x0), .val (.int x1), .val (.int x2), .val (.int x3), .val (.int x4), .val (.int (3 : Int32)), .val (.int c0), .val (.int c1), .val (.int c2), .val (.int c3), .val (.ref x), .val (.int rv), .val (.int (0 : Int32)), .val (.int (1 : Int32)), .val (.int c2), .val (.int (0 : Int32))] at_396 rfl rfl ?_
          refine own_iload 400 Y32 at_398 rfl rfl ?_
          refine own_iload 402 Y32 at_400 rfl rfl ?_
          rw [if_neg dt0, if_pos at0, if_pos dt1, if_pos dt2] at erv
          subst erv
          refine own_icF 405 Y32 at_402 (XT.ii_ne_f (by decide)) rfl ?_
          refine own_iconst 406 Y32 (1 : Int32) at_405 rfl rfl ?_
          refine own_goto 410 Y32 at_406 (by decide) ?_
          exact own_retNW Y32 H (t := .boolean) rfl (by simp) at_410 (by decide) (by decide) ⟨rfl, N⟩
        · rw [if_pos (Or.inr at2)]
          show own_G p e below _ (T32.setTop (mkF m 233 #[.val (.int x0), .val (.int x1), .val (.int x2), .val (.int x3), .val (.int x4), .val (.int (3 : Int32)), .val (.int c0), .val (.int c1), .val (.int c2), .val (.int c3), .val (.ref x), .val (.int rv), .unset, .unset, .unset, .unset] [(.int (1 : Int32))]))
          refine own_ifF 236 Y32 at_233 (XT.i0_eq_f (by decide)) rfl ?_
          refine own_iload 238 Y32 at_236 rfl rfl ?_
          refine own_iconst 239 Y32 (4 : Int32) at_238 rfl rfl ?_
          refine own_icT 250 Y32 at_239 (XT.ii_lt_t (by decide)) (by decide) ?_
          refine own_iconst 251 Y32 (1 : Int32) at_250 rfl rfl ?_
          refine own_goto 255 Y32 at_251 (by decide) ?_
          refine own_istore 257 Y32 #[.val (.int x0), .val (.int x1), .val (.int x2), .val (.int x3), .val (.int x4), .val (.int (3 : Int32)), .val (.int c0), .val (.int c1), .val (.int c2), .val (.int c3), .val (.ref x), .val (.int rv), .unset, .val (.int (1 : Int32)), .unset, .unset] at_255 rfl rfl ?_
          refine own_iload 259 Y32 at_257 rfl rfl ?_
          refine own_iconst 260 Y32 (1 : Int32) at_259 rfl rfl ?_
          refine own_icT 270 Y32 at_260 (XT.ii_ne_t (by decide)) (by decide) ?_
          refine own_iload 272 Y32 at_270 rfl rfl ?_
          refine own_iconst 273 Y32 (2 : Int32) at_272 rfl rfl ?_
          refine own_icT 283 Y32 at_273 (XT.ii_ne_t (by decide)) (by decide) ?_
          refine own_iload 285 Y32 at_283 rfl rfl ?_
          refine own_iconst 286 Y32 (3 : Int32) at_285 rfl rfl ?_
          refine own_icF 289 Y32 at_286 (XT.ii_ne_f (by decide)) rfl ?_
          refine own_iload 291 Y32 at_289 rfl rfl ?_
          refine own_istore 293 Y32 #[.val (.int x0), .val (.int x1), .val (.int x2), .val (.int x3), .val (.int x4), .val (.int (3 : Int32)), .val (.int c0), .val (.int c1), .val (.int c2), .val (.int c3), .val (.ref x), .val (.int rv), .unset, .val (.int (1 : Int32)), .val (.int c2), .unset] at_291 rfl rfl ?_
          refine own_goto 300 Y32 at_293 (by decide) ?_
          refine own_iload 302 Y32 at_300 rfl rfl ?_
          refine own_iconst 303 Y32 (2 : Int32) at_302 rfl rfl ?_
          refine own_icF 306 Y32 at_303 (XT.ii_lt_f (by decide)) rfl ?_
          refine own_iload 308 Y32 at_306 rfl rfl ?_
          refine own_bipush 310 Y32 (46 : Int32) at_308 rfl rfl ?_
          refine own_icT 320 Y32 at_310 (XT.ii_ne_t dt0) (by decide) ?_
          refine own_iload 322 Y32 at_320 rfl rfl ?_
          refine own_iconst 323 Y32 (3 : Int32) at_322 rfl rfl ?_
          refine own_icF 326 Y32 at_323 (XT.ii_lt_f (by decide)) rfl ?_
          refine own_iload 328 Y32 at_326 rfl rfl ?_
          refine own_bipush 330 Y32 (46 : Int32) at_328 rfl rfl ?_
          refine own_icF 333 Y32 at_330 (XT.ii_ne_f dt1) rfl ?_
          refine own_iload 335 Y32 at_333 rfl rfl ?_
          refine own_bipush 337 Y32 (46 : Int32) at_335 rfl rfl ?_
          refine own_icF 340 Y32 at_337 (XT.ii_eq_f dt2) rfl ?_
          refine own_iload 342 Y32 at_340 rfl rfl ?_
          refine own_iconst 343 Y32 (4 : Int32) at_342 rfl rfl ?_
          refine own_icT 360 Y32 at_343 (XT.ii_lt_t (by decide)) (by decide) ?_
          refine own_iconst 361 Y32 (1 : Int32) at_360 rfl rfl ?_
          refine own_goto 365 Y32 at_361 (by decide) ?_
          refine own_istore 367 Y32 #[.val (.int x0), .val (.int x1), .val (.int x2), .val (.int x3), .val (.int x4), .val (.int (3 : Int32)), .val (.int c0), .val (.int c1), .val (.int c2), .val (.int c3), .val (.ref x), .val (.int rv), .unset, .val (.int (1 : Int32)), .val (.int c2), .val (.int (1 : Int32))] at_365 rfl rfl ?_
          refine own_iload 369 Y32 at_367 rfl rfl ?_
          refine own_ifF 372 Y32 at_369 (XT.i0_eq_f (by decide)) rfl ?_
          refine own_iload 374 Y32 at_372 rfl rfl ?_
          refine own_bipush 376 Y32 (46 : Int32) at_374 rfl rfl ?_
          refine own_icF 379 Y32 at_376 (XT.ii_eq_f dt0) rfl ?_
          refine own_iload 381 Y32 at_379 rfl rfl ?_
          refine own_bipush 383 Y32 (46 : Int32) at_381 rfl rfl ?_
          refine own_icF 386 Y32 at_383 (XT.ii_eq_f dt2) rfl ?_
          refine own_iload 388 Y32 at_386 rfl rfl ?_
          refine own_ifF 391 Y32 at_388 (XT.i0_eq_f (by decide)) rfl ?_
          refine own_iconst 392 Y32 (1 : Int32) at_391 rfl rfl ?_
          refine own_goto 396 Y32 at_392 (by decide) ?_
          refine own_istore 398 Y32 #[.val (.int x0), .val (.int x1), .val (.int x2), .val (.int x3), .val (.int x4), .val (.int (3 : Int32)), .val (.int c0), .val (.int c1), .val (.int c2), .val (.int c3), .val (.ref x), .val (.int rv), .val (.int (1 : Int32)), .val (.int (1 : Int32)), .val (.int c2), .val (.int (1 : Int32))] at_396 rfl rfl ?_
          refine own_iload 400 Y32 at_398 rfl rfl ?_
          refine own_iload 402 Y32 at_400 rfl rfl ?_
          rw [if_neg dt0, if_pos at0, if_pos dt1, if_neg dt2, if_pos at2] at erv
          subst erv
          refine own_icF 405 Y32 at_402 (XT.ii_ne_f (by decide)) rfl ?_
          refine own_iconst 406 Y32 (1 : Int32) at_405 rfl rfl ?_
          refine own_goto 410 Y32 at_406 (by decide) ?_
          exact own_retNW Y32 H (t := .boolean) rfl (by simp) at_410 (by decide) (by decide) ⟨rfl, N⟩
        · rw [if_neg (fun z => z.elim dt2 at2)]
          show own_G p e below _ (T32.setTop (mkF m 233 #[.val (.int x0), .val (.int x1), .val (.int x2), .val (.int x3), .val (.int x4), .val (.int (3 : Int32)), .val (.int c0), .val (.int c1), .val (.int c2), .val (.int c3), .val (.ref x), .val (.int rv), .unset, .unset, .unset, .unset] [(.int (0 : Int32))]))
          refine own_ifT 254 Y32 at_233 (XT.i0_eq_t (by decide)) (by decide) ?_
          refine own_iconst 255 Y32 (0 : Int32) at_254 rfl rfl ?_
          refine own_istore 257 Y32 #[.val (.int x0), .val (.int x1), .val (.int x2), .val (.int x3), .val (.int x4), .val (.int (3 : Int32)), .val (.int c0), .val (.int c1), .val (.int c2), .val (.int c3), .val (.ref x), .val (.int rv), .unset, .val (.int (0 : Int32)), .unset, .unset] at_255 rfl rfl ?_
          refine own_iload 259 Y32 at_257 rfl rfl ?_
          refine own_iconst 260 Y32 (1 : Int32) at_259 rfl rfl ?_
          refine own_icT 270 Y32 at_260 (XT.ii_ne_t (by decide)) (by decide) ?_
          refine own_iload 272 Y32 at_270 rfl rfl ?_
          refine own_iconst 273 Y32 (2 : Int32) at_272 rfl rfl ?_
          refine own_icT 283 Y32 at_273 (XT.ii_ne_t (by decide)) (by decide) ?_
          refine own_iload 285 Y32 at_283 rfl rfl ?_
          refine own_iconst 286 Y32 (3 : Int32) at_285 rfl rfl ?_
          refine own_icF 289 Y32 at_286 (XT.ii_ne_f (by decide)) rfl ?_
          refine own_iload 291 Y32 at_289 rfl rfl ?_
          refine own_istore 293 Y32 #[.val (.int x0), .val (.int x1), .val (.int x2), .val (.int x3), .val (.int x4), .val (.int (3 : Int32)), .val (.int c0), .val (.int c1), .val (.int c2), .val (.int c3), .val (.ref x), .val (.int rv), .unset, .val (.int (0 : Int32)), .val (.int c2), .unset] at_291 rfl rfl ?_
          refine own_goto 300 Y32 at_293 (by decide) ?_
          refine own_iload 302 Y32 at_300 rfl rfl ?_
          refine own_iconst 303 Y32 (2 : Int32) at_302 rfl rfl ?_
          refine own_icF 306 Y32 at_303 (XT.ii_lt_f (by decide)) rfl ?_
          refine own_iload 308 Y32 at_306 rfl rfl ?_
          refine own_bipush 310 Y32 (46 : Int32) at_308 rfl rfl ?_
          refine own_icT 320 Y32 at_310 (XT.ii_ne_t dt0) (by decide) ?_
          refine own_iload 322 Y32 at_320 rfl rfl ?_
          refine own_iconst 323 Y32 (3 : Int32) at_322 rfl rfl ?_
          refine own_icF 326 Y32 at_323 (XT.ii_lt_f (by decide)) rfl ?_
          refine own_iload 328 Y32 at_326 rfl rfl ?_
          refine own_bipush 330 Y32 (46 : Int32) at_328 rfl rfl ?_
          refine own_icF 333 Y32 at_330 (XT.ii_ne_f dt1) rfl ?_
          refine own_iload 335 Y32 at_333 rfl rfl ?_
          refine own_bipush 337 Y32 (46 : Int32) at_335 rfl rfl ?_
          refine own_icF 340 Y32 at_337 (XT.ii_eq_f dt2) rfl ?_
          refine own_iload 342 Y32 at_340 rfl rfl ?_
          refine own_iconst 343 Y32 (4 : Int32) at_342 rfl rfl ?_
          refine own_icT 360 Y32 at_343 (XT.ii_lt_t (by decide)) (by decide) ?_
          refine own_iconst 361 Y32 (1 : Int32) at_360 rfl rfl ?_
          refine own_goto 365 Y32 at_361 (by decide) ?_
          refine own_istore 367 Y32 #[.val (.int x0), .val (.int x1), .val (.int x2), .val (.int x3), .val (.int x4), .val (.int (3 : Int32)), .val (.int c0), .val (.int c1), .val (.int c2), .val (.int c3), .val (.ref x), .val (.int rv), .unset, .val (.int (0 : Int32)), .val (.int c2), .val (.int (1 : Int32))] at_365 rfl rfl ?_
          refine own_iload 369 Y32 at_367 rfl rfl ?_
          refine own_ifT 395 Y32 at_369 (XT.i0_eq_t (by decide)) (by decide) ?_
          refine own_iconst 396 Y32 (0 : Int32) at_395 rfl rfl ?_
          refine own_istore 398 Y32 #[.val (.int x0), .val (.int x1), .val (.int x2), .val (.int x3), .val (.int x4), .val (.int (3 : Int32)), .val (.int c0), .val (.int c1), .val (.int c2), .val (.int c3), .val (.ref x), .val (.int rv), .val (.int (0 : Int32)), .val (.int (0 : Int32)), .val (.int c2), .val (.int (1 : Int32))] at_396 rfl rfl ?_
          refine own_iload 400 Y32 at_398 rfl rfl ?_
          refine own_iload 402 Y32 at_400 rfl rfl ?_
          rw [if_neg dt0, if_pos at0, if_pos dt1, if_neg dt2, if_neg at2] at erv
          subst erv
          refine own_icF 405 Y32 at_402 (XT.ii_ne_f (by decide)) rfl ?_
          refine own_iconst 406 Y32 (1 : Int32) at_405 rfl rfl ?_
          refine own_goto 410 Y32 at_406 (by decide) ?_
          exact own_retNW Y32 H (t := .boolean) rfl (by simp) at_410 (by decide) (by decide) ⟨rfl, N⟩
      · rw [if_pos (Or.inr at1)]
        show own_G p e below _ (T31.setTop (mkF m 219 #[.val (.int x0), .val (.int x1), .val (.int x2), .val (.int x3), .val (.int x4), .val (.int (3 : Int32)), .val (.int c0), .val (.int c1), .val (.int c2), .val (.int c3), .val (.ref x), .val (.int rv), .unset, .unset, .unset, .unset] [(.int (1 : Int32))]))
        refine own_ifF 222 Y31 at_219 (XT.i0_eq_f (by decide)) rfl ?_
        refine own_iload 224 Y31 at_222 rfl rfl ?_
        refine own_iconst 225 Y31 (3 : Int32) at_224 rfl rfl ?_
        refine own_icF 228 Y31 at_225 (XT.ii_lt_f (by decide)) rfl ?_
        refine own_iload 230 Y31 at_228 rfl rfl ?_
        refine own_callS 233 Y31 [(.int c2)] [] (own_wd hw 71 rfl) (own_wd hw 72 rfl) (own_wd hw 73 rfl) (own_wd hw 74 rfl) (c_leg l Z a0 hw c2 _) at_230 (by decide) (lenOf pd2 rfl) rfl rfl (by decide) (Nat.le_of_ble_eq_true rfl) (by decide) (by decide) rfl fun v33 T33 h33 L33 Y33 hQ33 => ?_
        obtain ⟨rfl, rfl, rfl⟩ := hQ33
        have N := N.app (Fr.nil n0)
        rcases own_cls c2 with dt2 | ⟨dt2, at2⟩ | ⟨dt2, at2⟩
        · rw [if_pos (Or.inl dt2)]
          show own_G p e below _ (T33.setTop (mkF m 233 #[.val (.int x0), .val (.int x1), .val (.int x2), .val (.int x3), .val (.int x4), .val (.int (3 : Int32)), .val (.int c0), .val (.int c1), .val (.int c2), .val (.int c3), .val (.ref x), .val (.int rv), .unset, .unset, .unset, .unset] [(.int (1 : Int32))]))
          refine own_ifF 236 Y33 at_233 (XT.i0_eq_f (by decide)) rfl ?_
          refine own_iload 238 Y33 at_236 rfl rfl ?_
          refine own_iconst 239 Y33 (4 : Int32) at_238 rfl rfl ?_
          refine own_icT 250 Y33 at_239 (XT.ii_lt_t (by decide)) (by decide) ?_
          refine own_iconst 251 Y33 (1 : Int32) at_250 rfl rfl ?_
          refine own_goto 255 Y33 at_251 (by decide) ?_
          refine own_istore 257 Y33 #[.val (.int x0), .val (.int x1), .val (.int x2), .val (.int x3), .val (.int x4), .val (.int (3 : Int32)), .val (.int c0), .val (.int c1), .val (.int c2), .val (.int c3), .val (.ref x), .val (.int rv), .unset, .val (.int (1 : Int32)), .unset, .unset] at_255 rfl rfl ?_
          refine own_iload 259 Y33 at_257 rfl rfl ?_
          refine own_iconst 260 Y33 (1 : Int32) at_259 rfl rfl ?_
          refine own_icT 270 Y33 at_260 (XT.ii_ne_t (by decide)) (by decide) ?_
          refine own_iload 272 Y33 at_270 rfl rfl ?_
          refine own_iconst 273 Y33 (2 : Int32) at_272 rfl rfl ?_
          refine own_icT 283 Y33 at_273 (XT.ii_ne_t (by decide)) (by decide) ?_
          refine own_iload 285 Y33 at_283 rfl rfl ?_
          refine own_iconst 286 Y33 (3 : Int32) at_285 rfl rfl ?_
          refine own_icF 289 Y33 at_286 (XT.ii_ne_f (by decide)) rfl ?_
          refine own_iload 291 Y33 at_289 rfl rfl ?_
          refine own_istore 293 Y33 #[.val (.int x0), .val (.int x1), .val (.int x2), .val (.int x3), .val (.int x4), .val (.int (3 : Int32)), .val (.int c0), .val (.int c1), .val (.int c2), .val (.int c3), .val (.ref x), .val (.int rv), .unset, .val (.int (1 : Int32)), .val (.int c2), .unset] at_291 rfl rfl ?_
          refine own_goto 300 Y33 at_293 (by decide) ?_
          refine own_iload 302 Y33 at_300 rfl rfl ?_
          refine own_iconst 303 Y33 (2 : Int32) at_302 rfl rfl ?_
          refine own_icF 306 Y33 at_303 (XT.ii_lt_f (by decide)) rfl ?_
          refine own_iload 308 Y33 at_306 rfl rfl ?_
          refine own_bipush 310 Y33 (46 : Int32) at_308 rfl rfl ?_
          refine own_icT 320 Y33 at_310 (XT.ii_ne_t dt0) (by decide) ?_
          refine own_iload 322 Y33 at_320 rfl rfl ?_
          refine own_iconst 323 Y33 (3 : Int32) at_322 rfl rfl ?_
          refine own_icF 326 Y33 at_323 (XT.ii_lt_f (by decide)) rfl ?_
          refine own_iload 328 Y33 at_326 rfl rfl ?_
          refine own_bipush 330 Y33 (46 : Int32) at_328 rfl rfl ?_
          refine own_icT 340 Y33 at_330 (XT.ii_ne_t dt1) (by decide) ?_
          refine own_iload 342 Y33 at_340 rfl rfl ?_
          refine own_iconst 343 Y33 (4 : Int32) at_342 rfl rfl ?_
          refine own_icT 360 Y33 at_343 (XT.ii_lt_t (by decide)) (by decide) ?_
          refine own_iconst 361 Y33 (1 : Int32) at_360 rfl rfl ?_
          refine own_goto 365 Y33 at_361 (by decide) ?_
          refine own_istore 367 Y33 #[.val (.int x0), .val (.int x1), .val (.int x2), .val (.int x3), .val (.int x4), .val (.int (3 : Int32)), .val (.int c0), .val (.int c1), .val (.int c2), .val (.int c3), .val (.ref x), .val (.int rv), .unset, .val (.int (1 : Int32)), .val (.int c2), .val (.int (1 : Int32))] at_365 rfl rfl ?_
          refine own_iload 369 Y33 at_367 rfl rfl ?_
          refine own_ifF 372 Y33 at_369 (XT.i0_eq_f (by decide)) rfl ?_
          refine own_iload 374 Y33 at_372 rfl rfl ?_
          refine own_bipush 376 Y33 (46 : Int32) at_374 rfl rfl ?_
          refine own_icF 379 Y33 at_376 (XT.ii_eq_f dt0) rfl ?_
          refine own_iload 381 Y33 at_379 rfl rfl ?_
          refine own_bipush 383 Y33 (46 : Int32) at_381 rfl rfl ?_
          refine own_icT 395 Y33 at_383 (XT.ii_eq_t dt2) (by decide) ?_
          refine own_iconst 396 Y33 (0 : Int32) at_395 rfl rfl ?_
          refine own_istore 398 Y33 #[.val (.int x0), .val (.int x1), .val (.int x2), .val (.int x3), .val (.int x4), .val (.int (3 : Int32)), .val (.int c0), .val (.int c1), .val (.int c2), .val (.int c3), .val (.ref x), .val (.int rv), .val (.int (0 : Int32)), .val (.int (1 : Int32)), .val (.int c2), .val (.int (1 : Int32))] at_396 rfl rfl ?_
          refine own_iload 400 Y33 at_398 rfl rfl ?_
          refine own_iload 402 Y33 at_400 rfl rfl ?_
          rw [if_neg dt0, if_pos at0, if_neg dt1, if_pos at1, if_pos dt2] at erv
          subst erv
          refine own_icF 405 Y33 at_402 (XT.ii_ne_f (by decide)) rfl ?_
          refine own_iconst 406 Y33 (1 : Int32) at_405 rfl rfl ?_
          refine own_goto 410 Y33 at_406 (by decide) ?_
          exact own_retNW Y33 H (t := .boolean) rfl (by simp) at_410 (by decide) (by decide) ⟨rfl, N⟩
        · rw [if_pos (Or.inr at2)]
          show own_G p e below _ (T33.setTop (mkF m 233 #[.val (.int x0), .val (.int x1), .val (.int x2), .val (.int x3), .val (.int x4), .val (.int (3 : Int32)), .val (.int c0), .val (.int c1), .val (.int c2), .val (.int c3), .val (.ref x), .val (.int rv), .unset, .unset, .unset, .unset] [(.int (1 : Int32))]))
          refine own_ifF 236 Y33 at_233 (XT.i0_eq_f (by decide)) rfl ?_
          refine own_iload 238 Y33 at_236 rfl rfl ?_
          refine own_iconst 239 Y33 (4 : Int32) at_238 rfl rfl ?_
          refine own_icT 250 Y33 at_239 (XT.ii_lt_t (by decide)) (by decide) ?_
          refine own_iconst 251 Y33 (1 : Int32) at_250 rfl rfl ?_
          refine own_goto 255 Y33 at_251 (by decide) ?_
          refine own_istore 257 Y33 #[.val (.int x0), .val (.int x1), .val (.int x2), .val (.int x3), .val (.int x4), .val (.int (3 : Int32)), .val (.int c0), .val (.int c1), .val (.int c2), .val (.int c3), .val (.ref x), .val (.int rv), .unset, .val (.int (1 : Int32)), .unset, .unset] at_255 rfl rfl ?_
          refine own_iload 259 Y33 at_257 rfl rfl ?_
          refine own_iconst 260 Y33 (1 : Int32) at_259 rfl rfl ?_
          refine own_icT 270 Y33 at_260 (XT.ii_ne_t (by decide)) (by decide) ?_
          refine own_iload 272 Y33 at_270 rfl rfl ?_
          refine own_iconst 273 Y33 (2 : Int32) at_272 rfl rfl ?_
          refine own_icT 283 Y33 at_273 (XT.ii_ne_t (by decide)) (by decide) ?_
          refine own_iload 285 Y33 at_283 rfl rfl ?_
          refine own_iconst 286 Y33 (3 : Int32) at_285 rfl rfl ?_
          refine own_icF 289 Y33 at_286 (XT.ii_ne_f (by decide)) rfl ?_
          refine own_iload 291 Y33 at_289 rfl rfl ?_
          refine own_istore 293 Y33 #[.val (.int x0), .val (.int x1), .val (.int x2), .val (.int x3), .val (.int x4), .val (.int (3 : Int32)), .val (.int c0), .val (.int c1), .val (.int c2), .val (.int c3), .val (.ref x), .val (.int rv), .unset, .val (.int (1 : Int32)), .val (.int c2), .unset] at_291 rfl rfl ?_
          refine own_goto 300 Y33 at_293 (by decide) ?_
          refine own_iload 302 Y33 at_300 rfl rfl ?_
          refine own_iconst 303 Y33 (2 : Int32) at_302 rfl rfl ?_
          refine own_icF 306 Y33 at_303 (XT.ii_lt_f (by decide)) rfl ?_
          refine own_iload 308 Y33 at_306 rfl rfl ?_
          refine own_bipush 310 Y33 (46 : Int32) at_308 rfl rfl ?_
          refine own_icT 320 Y33 at_310 (XT.ii_ne_t dt0) (by decide) ?_
          refine own_iload 322 Y33 at_320 rfl rfl ?_
          refine own_iconst 323 Y33 (3 : Int32) at_322 rfl rfl ?_
          refine own_icF 326 Y33 at_323 (XT.ii_lt_f (by decide)) rfl ?_
          refine own_iload 328 Y33 at_326 rfl rfl ?_
          refine own_bipush 330 Y33 (46 : Int32) at_328 rfl rfl ?_
          refine own_icT 340 Y33 at_330 (XT.ii_ne_t dt1) (by decide) ?_
          refine own_iload 342 Y33 at_340 rfl rfl ?_
          refine own_iconst 343 Y33 (4 : Int32) at_342 rfl rfl ?_
          refine own_icT 360 Y33 at_343 (XT.ii_lt_t (by decide)) (by decide) ?_
          refine own_iconst 361 Y33 (1 : Int32) at_360 rfl rfl ?_
          refine own_goto 365 Y33 at_361 (by decide) ?_
          refine own_istore 367 Y33 #[.val (.int x0), .val (.int x1), .val (.int x2), .val (.int x3), .val (.int x4), .val (.int (3 : Int32)), .val (.int c0), .val (.int c1), .val (.int c2), .val (.int c3), .val (.ref x), .val (.int rv), .unset, .val (.int (1 : Int32)), .val (.int c2), .val (.int (1 : Int32))] at_365 rfl rfl ?_
          refine own_iload 369 Y33 at_367 rfl rfl ?_
          refine own_ifF 372 Y33 at_369 (XT.i0_eq_f (by decide)) rfl ?_
          refine own_iload 374 Y33 at_372 rfl rfl ?_
          refine own_bipush 376 Y33 (46 : Int32) at_374 rfl rfl ?_
          refine own_icF 379 Y33 at_376 (XT.ii_eq_f dt0) rfl ?_
          refine own_iload 381 Y33 at_379 rfl rfl ?_
          refine own_bipush 383 Y33 (46 : Int32) at_381 rfl rfl ?_
          refine own_icF 386 Y33 at_383 (XT.ii_eq_f dt2) rfl ?_
          refine own_iload 388 Y33 at_386 rfl rfl ?_
          refine own_ifF 391 Y33 at_388 (XT.i0_eq_f (by decide)) rfl ?_
          refine own_iconst 392 Y33 (1 : Int32) at_391 rfl rfl ?_
          refine own_goto 396 Y33 at_392 (by decide) ?_
          refine own_istore 398 Y33 #[.val (.int x0), .val (.int x1), .val (.int x2), .val (.int x3), .val (.int x4), .val (.int (3 : Int32)), .val (.int c0), .val (.int c1), .val (.int c2), .val (.int c3), .val (.ref x), .val (.int rv), .val (.int (1 : Int32)), .val (.int (1 : Int32)), .val (.int c2), .val (.int (1 : Int32))] at_396 rfl rfl ?_
          refine own_iload 400 Y33 at_398 rfl rfl ?_
          refine own_iload 402 Y33 at_400 rfl rfl ?_
          rw [if_neg dt0, if_pos at0, if_neg dt1, if_pos at1, if_neg dt2, if_pos at2] at erv
          subst erv
          refine own_icF 405 Y33 at_402 (XT.ii_ne_f (by decide)) rfl ?_
          refine own_iconst 406 Y33 (1 : Int32) at_405 rfl rfl ?_
          refine own_goto 410 Y33 at_406 (by decide) ?_
          exact own_retNW Y33 H (t := .boolean) rfl (by simp) at_410 (by decide) (by decide) ⟨rfl, N⟩
        · rw [if_neg (fun z => z.elim dt2 at2)]
          show own_G p e below _ (T33.setTop (mkF m 233 #[.val (.int x0), .val (.int x1), .val (.int x2), .val (.int x3), .val (.int x4), .val (.int (3 : Int32)), .val (.int c0), .val (.int c1), .val (.int c2), .val (.int c3), .val (.ref x), .val (.int rv), .unset, .unset, .unset, .unset] [(.int (0 : Int32))]))
          refine own_ifT 254 Y33 at_233 (XT.i0_eq_t (by decide)) (by decide) ?_
          refine own_iconst 255 Y33 (0 : Int32) at_254 rfl rfl ?_
          refine own_istore 257 Y33 #[.val (.int x0), .val (.int x1), .val (.int x2), .val (.int x3), .val (.int x4), .val (.int (3 : Int32)), .val (.int c0), .val (.int c1), .val (.int c2), .val (.int c3), .val (.ref x), .val (.int rv), .unset, .val (.int (0 : Int32)), .unset, .unset] at_255 rfl rfl ?_
          refine own_iload 259 Y33 at_257 rfl rfl ?_
          refine own_iconst 260 Y33 (1 : Int32) at_259 rfl rfl ?_
          refine own_icT 270 Y33 at_260 (XT.ii_ne_t (by decide)) (by decide) ?_
          refine own_iload 272 Y33 at_270 rfl rfl ?_
          refine own_iconst 273 Y33 (2 : Int32) at_272 rfl rfl ?_
          refine own_icT 283 Y33 at_273 (XT.ii_ne_t (by decide)) (by decide) ?_
          refine own_iload 285 Y33 at_283 rfl rfl ?_
          refine own_iconst 286 Y33 (3 : Int32) at_285 rfl rfl ?_
          refine own_icF 289 Y33 at_286 (XT.ii_ne_f (by decide)) rfl ?_
          refine own_iload 291 Y33 at_289 rfl rfl ?_
          refine own_istore 293 Y33 #[.val (.int x0), .val (.int x1), .val (.int x2), .val (.int x3), .val (.int x4), .val (.int (3 : Int32)), .val (.int c0), .val (.int c1), .val (.int c2), .val (.int c3), .val (.ref x), .val (.int rv), .unset, .val (.int (0 : Int32)), .val (.int c2), .unset] at_291 rfl rfl ?_
          refine own_goto 300 Y33 at_293 (by decide) ?_
          refine own_iload 302 Y33 at_300 rfl rfl ?_
          refine own_iconst 303 Y33 (2 : Int32) at_302 rfl rfl ?_
          refine own_icF 306 Y33 at_303 (XT.ii_lt_f (by decide)) rfl ?_
          refine own_iload 308 Y33 at_306 rfl rfl ?_
          refine own_bipush 310 Y33 (46 : Int32) at_308 rfl rfl ?_
          refine own_icT 320 Y33 at_310 (XT.ii_ne_t dt0) (by decide) ?_
          refine own_iload 322 Y33 at_320 rfl rfl ?_
          refine own_iconst 323 Y33 (3 : Int32) at_322 rfl rfl ?_
          refine own_icF 326 Y33 at_323 (XT.ii_lt_f (by decide)) rfl ?_
          refine own_iload 328 Y33 at_326 rfl rfl ?_
          refine own_bipush 330 Y33 (46 : Int32) at_328 rfl rfl ?_
          refine own_icT 340 Y33 at_330 (XT.ii_ne_t dt1) (by decide) ?_
          refine own_iload 342 Y33 at_340 rfl rfl ?_
          refine own_iconst 343 Y33 (4 : Int32) at_342 rfl rfl ?_
          refine own_icT 360 Y33 at_343 (XT.ii_lt_t (by decide)) (by decide) ?_
          refine own_iconst 361 Y33 (1 : Int32) at_360 rfl rfl ?_
          refine own_goto 365 Y33 at_361 (by decide) ?_
          refine own_istore 367 Y33 #[.val (.int x0), .val (.int x1), .val (.int x2), .val (.int x3), .val (.int x4), .val (.int (3 : Int32)), .val (.int c0), .val (.int c1), .val (.int c2), .val (.int c3), .val (.ref x), .val (.int rv), .unset, .val (.int (0 : Int32)), .val (.int c2), .val (.int (1 : Int32))] at_365 rfl rfl ?_
          refine own_iload 369 Y33 at_367 rfl rfl ?_
          refine own_ifT 395 Y33 at_369 (XT.i0_eq_t (by decide)) (by decide) ?_
          refine own_iconst 396 Y33 (0 : Int32) at_395 rfl rfl ?_
          refine own_istore 398 Y33 #[.val (.int x0), .val (.int x1), .val (.int x2), .val (.int x3), .val (.int x4), .val (.int (3 : Int32)), .val (.int c0), .val (.int c1), .val (.int c2), .val (.int c3), .val (.ref x), .val (.int rv), .val (.int (0 : Int32)), .val (.int (0 : Int32)), .val (.int c2), .val (.int (1 : Int32))] at_396 rfl rfl ?_
          refine own_iload 400 Y33 at_398 rfl rfl ?_
          refine own_iload 402 Y33 at_400 rfl rfl ?_
          rw [if_neg dt0, if_pos at0, if_neg dt1, if_pos at1, if_neg dt2, if_neg at2] at erv
          subst erv
          refine own_icF 405 Y33 at_402 (XT.ii_ne_f (by decide)) rfl ?_
          refine own_iconst 406 Y33 (1 : Int32) at_405 rfl rfl ?_
          refine own_goto 410 Y33 at_406 (by decide) ?_
          exact own_retNW Y33 H (t := .boolean) rfl (by simp) at_410 (by decide) (by decide) ⟨rfl, N⟩
      · rw [if_neg (fun z => z.elim dt1 at1)]
        show own_G p e below _ (T31.setTop (mkF m 219 #[.val (.int x0), .val (.int x1), .val (.int x2), .val (.int x3), .val (.int x4), .val (.int (3 : Int32)), .val (.int c0), .val (.int c1), .val (.int c2), .val (.int c3), .val (.ref x), .val (.int rv), .unset, .unset, .unset, .unset] [(.int (0 : Int32))]))
        refine own_ifT 254 Y31 at_219 (XT.i0_eq_t (by decide)) (by decide) ?_
        refine own_iconst 255 Y31 (0 : Int32) at_254 rfl rfl ?_
        refine own_istore 257 Y31 #[.val (.int x0), .val (.int x1), .val (.int x2), .val (.int x3), .val (.int x4), .val (.int (3 : Int32)), .val (.int c0), .val (.int c1), .val (.int c2), .val (.int c3), .val (.ref x), .val (.int rv), .unset, .val (.int (0 : Int32)), .unset, .unset] at_255 rfl rfl ?_
        refine own_iload 259 Y31 at_257 rfl rfl ?_
        refine own_iconst 260 Y31 (1 : Int32) at_259 rfl rfl ?_
        refine own_icT 270 Y31 at_260 (XT.ii_ne_t (by decide)) (by decide) ?_
        refine own_iload 272 Y31 at_270 rfl rfl ?_
        refine own_iconst 273 Y31 (2 : Int32) at_272 rfl rfl ?_
        refine own_icT 283 Y31 at_273 (XT.ii_ne_t (by decide)) (by decide) ?_
        refine own_iload 285 Y31 at_283 rfl rfl ?_
        refine own_iconst 286 Y31 (3 : Int32) at_285 rfl rfl ?_
        refine own_icF 289 Y31 at_286 (XT.ii_ne_f (by decide)) rfl ?_
        refine own_iload 291 Y31 at_289 rfl rfl ?_
        refine own_istore 293 Y31 #[.val (.int x0), .val (.int x1), .val (.int x2), .val (.int x3), .val (.int x4), .val (.int (3 : Int32)), .val (.int c0), .val (.int c1), .val (.int c2), .val (.int c3), .val (.ref x), .val (.int rv), .unset, .val (.int (0 : Int32)), .val (.int c2), .unset] at_291 rfl rfl ?_
        refine own_goto 300 Y31 at_293 (by decide) ?_
        refine own_iload 302 Y31 at_300 rfl rfl ?_
        refine own_iconst 303 Y31 (2 : Int32) at_302 rfl rfl ?_
        refine own_icF 306 Y31 at_303 (XT.ii_lt_f (by decide)) rfl ?_
        refine own_iload 308 Y31 at_306 rfl rfl ?_
        refine own_bipush 310 Y31 (46 : Int32) at_308 rfl rfl ?_
        refine own_icT 320 Y31 at_310 (XT.ii_ne_t dt0) (by decide) ?_
        refine own_iload 322 Y31 at_320 rfl rfl ?_
        refine own_iconst 323 Y31 (3 : Int32) at_322 rfl rfl ?_
        refine own_icF 326 Y31 at_323 (XT.ii_lt_f (by decide)) rfl ?_
        refine own_iload 328 Y31 at_326 rfl rfl ?_
        refine own_bipush 330 Y31 (46 : Int32) at_328 rfl rfl ?_
        refine own_icT 340 Y31 at_330 (XT.ii_ne_t dt1) (by decide) ?_
        refine own_iload 342 Y31 at_340 rfl rfl ?_
        refine own_iconst 343 Y31 (4 : Int32) at_342 rfl rfl ?_
        refine own_icT 360 Y31 at_343 (XT.ii_lt_t (by decide)) (by decide) ?_
        refine own_iconst 361 Y31 (1 : Int32) at_360 rfl rfl ?_
        refine own_goto 365 Y31 at_361 (by decide) ?_
        refine own_istore 367 Y31 #[.val (.int x0), .val (.int x1), .val (.int x2), .val (.int x3), .val (.int x4), .val (.int (3 : Int32)), .val (.int c0), .val (.int c1), .val (.int c2), .val (.int c3), .val (.ref x), .val (.int rv), .unset, .val (.int (0 : Int32)), .val (.int c2), .val (.int (1 : Int32))] at_365 rfl rfl ?_
        refine own_iload 369 Y31 at_367 rfl rfl ?_
        refine own_ifT 395 Y31 at_369 (XT.i0_eq_t (by decide)) (by decide) ?_
        refine own_iconst 396 Y31 (0 : Int32) at_395 rfl rfl ?_
        refine own_istore 398 Y31 #[.val (.int x0), .val (.int x1), .val (.int x2), .val (.int x3), .val (.int x4), .val (.int (3 : Int32)), .val (.int c0), .val (.int c1), .val (.int c2), .val (.int c3), .val (.ref x), .val (.int rv), .val (.int (0 : Int32)), .val (.int (0 : Int32)), .val (.int c2), .val (.int (1 : Int32))] at_396 rfl rfl ?_
        refine own_iload 400 Y31 at_398 rfl rfl ?_
        refine own_iload 402 Y31 at_400 rfl rfl ?_
        rw [if_neg dt0, if_pos at0, if_neg dt1, if_neg at1] at erv
        subst erv
        refine own_icF 405 Y31 at_402 (XT.ii_ne_f (by decide)) rfl ?_
        refine own_iconst 406 Y31 (1 : Int32) at_405 rfl rfl ?_
        refine own_goto 410 Y31 at_406 (by decide) ?_
        exact own_retNW Y31 H (t := .boolean) rfl (by simp) at_410 (by decide) (by decide) ⟨rfl, N⟩
    · rw [if_neg (fun z => z.elim dt0 at0)]
      show own_G p e below _ (T27.setTop (mkF m 205 #[.val (.int x0), .val (.int x1), .val (.int x2), .val (.int x3), .val (.int x4), .val (.int (3 : Int32)), .val (.int c0), .val (.int c1), .val (.int c2), .val (.int c3), .val (.ref x), .val (.int rv), .unset, .unset, .unset, .unset] [(.int (0 : Int32))]))
      refine own_ifT 254 Y27 at_205 (XT.i0_eq_t (by decide)) (by decide) ?_
      refine own_iconst 255 Y27 (0 : Int32) at_254 rfl rfl ?_
      refine own_istore 257 Y27 #[.val (.int x0), .val (.int x1), .val (.int x2), .val (.int x3), .val (.int x4), .val (.int (3 : Int32)), .val (.int c0), .val (.int c1), .val (.int c2), .val (.int c3), .val (.ref x), .val (.int rv), .unset, .val (.int (0 : Int32)), .unset, .unset] at_255 rfl rfl ?_
      refine own_iload 259 Y27 at_257 rfl rfl ?_
      refine own_iconst 260 Y27 (1 : Int32) at_259 rfl rfl ?_
      refine own_icT 270 Y27 at_260 (XT.ii_ne_t (by decide)) (by decide) ?_
      refine own_iload 272 Y27 at_270 rfl rfl ?_
      refine own_iconst 273 Y27 (2 : Int32) at_272 rfl rfl ?_
      refine own_icT 283 Y27 at_273 (XT.ii_ne_t (by decide)) (by decide) ?_
      refine own_iload 285 Y27 at_283 rfl rfl ?_
      refine own_iconst 286 Y27 (3 : Int32) at_285 rfl rfl ?_
      refine own_icF 289 Y27 at_286 (XT.ii_ne_f (by decide)) rfl ?_
      refine own_iload 291 Y27 at_289 rfl rfl ?_
      refine own_istore 293 Y27 #[.val (.int x0), .val (.int x1), .val (.int x2), .val (.int x3), .val (.int x4), .val (.int (3 : Int32)), .val (.int c0), .val (.int c1), .val (.int c2), .val (.int c3), .val (.ref x), .val (.int rv), .unset, .val (.int (0 : Int32)), .val (.int c2), .unset] at_291 rfl rfl ?_
      refine own_goto 300 Y27 at_293 (by decide) ?_
      refine own_iload 302 Y27 at_300 rfl rfl ?_
      refine own_iconst 303 Y27 (2 : Int32) at_302 rfl rfl ?_
      refine own_icF 306 Y27 at_303 (XT.ii_lt_f (by decide)) rfl ?_
      refine own_iload 308 Y27 at_306 rfl rfl ?_
      refine own_bipush 310 Y27 (46 : Int32) at_308 rfl rfl ?_
      refine own_icT 320 Y27 at_310 (XT.ii_ne_t dt0) (by decide) ?_
      refine own_iload 322 Y27 at_320 rfl rfl ?_
      refine own_iconst 323 Y27 (3 : Int32) at_322 rfl rfl ?_
      refine own_icF 326 Y27 at_323 (XT.ii_lt_f (by decide)) rfl ?_
      refine own_iload 328 Y27 at_326 rfl rfl ?_
      refine own_bipush 330 Y27 (46 : Int32) at_328 rfl rfl ?_
      by_cases dt1 : c1 = 46
      · refine own_icF 333 Y27 at_330 (XT.ii_ne_f dt1) rfl ?_
        refine own_iload 335 Y27 at_333 rfl rfl ?_
        refine own_bipush 337 Y27 (46 : Int32) at_335 rfl rfl ?_
        by_cases dt2 : c2 = 46
        · refine own_icT 364 Y27 at_337 (XT.ii_eq_t dt2) (by decide) ?_
          refine own_iconst 365 Y27 (0 : Int32) at_364 rfl rfl ?_
          refine own_istore 367 Y27 #[.val (.int x0), .val (.int x1), .val (.int x2), .val (.int x3), .val (.int x4), .val (.int (3 : Int32)), .val (.int c0), .val (.int c1), .val (.int c2), .val (.int c3), .val (.ref x), .val (.int rv), .unset, .val (.int (0 : Int32)), .val (.int c2), .val (.int (0 : Int32))] at_365 rfl rfl ?_
          refine own_iload 369 Y27 at_367 rfl rfl ?_
          refine own_ifT 395 Y27 at_369 (XT.i0_eq_t (by decide)) (by decide) ?_
          refine own_iconst 396 Y27 (0 : Int32) at_395 rfl rfl ?_
          refine own_istore 398 Y27 #[.val (.int x0), .val (.int x1), .val (.int x2), .val (.int x3), .val (.int x4), .val (.int (3 : Int32)), .val (.int c0), .val (.int c1), .val (.int c2), .val (.int c3), .val (.ref x), .val (.int rv), .val (.int (0 : Int32)), .val (.int (0 : Int32)), .val (.int c2), .val (.int (0 : Int32))] at_396 rfl rfl ?_
          refine own_iload 400 Y27 at_398 rfl rfl ?_
          refine own_iload 402 Y27 at_400 rfl rfl ?_
          rw [if_neg dt0, if_neg at0] at erv
          subst erv
          refine own_icF 405 Y27 at_402 (XT.ii_ne_f (by decide)) rfl ?_
          refine own_iconst 406 Y27 (1 : Int32) at_405 rfl rfl ?_
          refine own_goto 410 Y27 at_406 (by decide) ?_
          exact own_retNW Y27 H (t := .boolean) rfl (by simp) at_410 (by decide) (by decide) ⟨rfl, N⟩
        · refine own_icF 340 Y27 at_337 (XT.ii_eq_f dt2) rfl ?_
          refine own_iload 342 Y27 at_340 rfl rfl ?_
          refine own_iconst 343 Y27 (4 : Int32) at_342 rfl rfl ?_
          refine own_icT 360 Y27 at_343 (XT.ii_lt_t (by decide)) (by decide) ?_
          refine own_iconst 361 Y27 (1 : Int32) at_360 rfl rfl ?_
          refine own_goto 365 Y27 at_361 (by decide) ?_
          refine own_istore 367 Y27 #[.val (.int x0), .val (.int x1), .val (.int x2), .val (.int x3), .val (.int x4), .val (.int (3 : Int32)), .val (.int c0), .val (.int c1), .val (.int c2), .val (.int c3), .val (.ref x), .val (.int rv), .unset, .val (.int (0 : Int32)), .val (.int c2), .val (.int (1 : Int32))] at_365 rfl rfl ?_
          refine own_iload 369 Y27 at_367 rfl rfl ?_
          refine own_ifT 395 Y27 at_369 (XT.i0_eq_t (by decide)) (by decide) ?_
          refine own_iconst 396 Y27 (0 : Int32) at_395 rfl rfl ?_
          refine own_istore 398 Y27 #[.val (.int x0), .val (.int x1), .val (.int x2), .val (.int x3), .val (.int x4), .val (.int (3 : Int32)), .val (.int c0), .val (.int c1), .val (.int c2), .val (.int c3), .val (.ref x), .val (.int rv), .val (.int (0 : Int32)), .val (.int (0 : Int32)), .val (.int c2), .val (.int (1 : Int32))] at_396 rfl rfl ?_
          refine own_iload 400 Y27 at_398 rfl rfl ?_
          refine own_iload 402 Y27 at_400 rfl rfl ?_
          rw [if_neg dt0, if_neg at0] at erv
          subst erv
          refine own_icF 405 Y27 at_402 (XT.ii_ne_f (by decide)) rfl ?_
          refine own_iconst 406 Y27 (1 : Int32) at_405 rfl rfl ?_
          refine own_goto 410 Y27 at_406 (by decide) ?_
          exact own_retNW Y27 H (t := .boolean) rfl (by simp) at_410 (by decide) (by decide) ⟨rfl, N⟩
      · refine own_icT 340 Y27 at_330 (XT.ii_ne_t dt1) (by decide) ?_
        refine own_iload 342 Y27 at_340 rfl rfl ?_
        refine own_iconst 343 Y27 (4 : Int32) at_342 rfl rfl ?_
        refine own_icT 360 Y27 at_343 (XT.ii_lt_t (by decide)) (by decide) ?_
        refine own_iconst 361 Y27 (1 : Int32) at_360 rfl rfl ?_
        refine own_goto 365 Y27 at_361 (by decide) ?_
        refine own_istore 367 Y27 #[.val (.int x0), .val (.int x1), .val (.int x2), .val (.int x3), .val (.int x4), .val (.int (3 : Int32)), .val (.int c0), .val (.int c1), .val (.int c2), .val (.int c3), .val (.ref x), .val (.int rv), .unset, .val (.int (0 : Int32)), .val (.int c2), .val (.int (1 : Int32))] at_365 rfl rfl ?_
        refine own_iload 369 Y27 at_367 rfl rfl ?_
        refine own_ifT 395 Y27 at_369 (XT.i0_eq_t (by decide)) (by decide) ?_
        refine own_iconst 396 Y27 (0 : Int32) at_395 rfl rfl ?_
        refine own_istore 398 Y27 #[.val (.int x0), .val (.int x1), .val (.int x2), .val (.int x3), .val (.int x4), .val (.int (3 : Int32)), .val (.int c0), .val (.int c1), .val (.int c2), .val (.int c3), .val (.ref x), .val (.int rv), .val (.int (0 : Int32)), .val (.int (0 : Int32)), .val (.int c2), .val (.int (1 : Int32))] at_396 rfl rfl ?_
        refine own_iload 400 Y27 at_398 rfl rfl ?_
        refine own_iload 402 Y27 at_400 rfl rfl ?_
        rw [if_neg dt0, if_neg at0] at erv
        subst erv
        refine own_icF 405 Y27 at_402 (XT.ii_ne_f (by decide)) rfl ?_
        refine own_iconst 406 Y27 (1 : Int32) at_405 rfl rfl ?_
        refine own_goto 410 Y27 at_406 (by decide) ?_
        exact own_retNW Y27 H (t := .boolean) rfl (by simp) at_410 (by decide) (by decide) ⟨rfl, N⟩
  · rw [e5]
    refine own_istore 8 Y #[.val (.int x0), .val (.int x1), .val (.int x2), .val (.int x3), .val (.int x4), .val (.int (4 : Int32)), .unset, .unset, .unset, .unset, .unset, .unset, .unset, .unset, .unset, .unset] at_6 rfl rfl ?_
    refine own_iloadN 9 Y at_8 rfl rfl ?_
    refine own_ldcI 11 Y (own_wd hw 1 rfl) at_9 rfl ?_
    refine own_iand 12 Y at_11 rfl ?_
    refine own_i2c 13 Y at_12 rfl ?_
    have hn0 : nar .char (x1 &&& (65535 : Int32)).toUInt32.toUInt16.toUInt32.toInt32 = (x1 &&& (65535 : Int32)).toUInt32.toUInt16.toUInt32.toInt32 := own_nar2 _
    revert hn0
    generalize (x1 &&& (65535 : Int32)).toUInt32.toUInt16.toUInt32.toInt32 = c0
    intro hn0
    refine own_istore 15 Y #[.val (.int x0), .val (.int x1), .val (.int x2), .val (.int x3), .val (.int x4), .val (.int (4 : Int32)), .val (.int c0), .unset, .unset, .unset, .unset, .unset, .unset, .unset, .unset, .unset] at_13 rfl rfl ?_
    refine own_iloadN 16 Y at_15 rfl rfl ?_
    refine own_ldcI 18 Y (own_wd hw 1 rfl) at_16 rfl ?_
    refine own_iand 19 Y at_18 rfl ?_
    refine own_i2c 20 Y at_19 rfl ?_
    have hn1 : nar .char (x2 &&& (65535 : Int32)).toUInt32.toUInt16.toUInt32.toInt32 = (x2 &&& (65535 : Int32)).toUInt32.toUInt16.toUInt32.toInt32 := own_nar2 _
    revert hn1
    generalize (x2 &&& (65535 : Int32)).toUInt32.toUInt16.toUInt32.toInt32 = c1
    intro hn1
    refine own_istore 22 Y #[.val (.int x0), .val (.int x1), .val (.int x2), .val (.int x3), .val (.int x4), .val (.int (4 : Int32)), .val (.int c0), .val (.int c1), .unset, .unset, .unset, .unset, .unset, .unset, .unset, .unset] at_20 rfl rfl ?_
    refine own_iloadN 23 Y at_22 rfl rfl ?_
    refine own_ldcI 25 Y (own_wd hw 1 rfl) at_23 rfl ?_
    refine own_iand 26 Y at_25 rfl ?_
    refine own_i2c 27 Y at_26 rfl ?_
    have hn2 : nar .char (x3 &&& (65535 : Int32)).toUInt32.toUInt16.toUInt32.toInt32 = (x3 &&& (65535 : Int32)).toUInt32.toUInt16.toUInt32.toInt32 := own_nar2 _
    revert hn2
    generalize (x3 &&& (65535 : Int32)).toUInt32.toUInt16.toUInt32.toInt32 = c2
    intro hn2
    refine own_istore 29 Y #[.val (.int x0), .val (.int x1), .val (.int x2), .val (.int x3), .val (.int x4), .val (.int (4 : Int32)), .val (.int c0), .val (.int c1), .val (.int c2), .unset, .unset, .unset, .unset, .unset, .unset, .unset] at_27 rfl rfl ?_
    refine own_iload 31 Y at_29 rfl rfl ?_
    refine own_ldcI 33 Y (own_wd hw 1 rfl) at_31 rfl ?_
    refine own_iand 34 Y at_33 rfl ?_
    refine own_i2c 35 Y at_34 rfl ?_
    have hn3 : nar .char (x4 &&& (65535 : Int32)).toUInt32.toUInt16.toUInt32.toInt32 = (x4 &&& (65535 : Int32)).toUInt32.toUInt16.toUInt32.toInt32 := own_nar2 _
    revert hn3
    generalize (x4 &&& (65535 : Int32)).toUInt32.toUInt16.toUInt32.toInt32 = c3
    intro hn3
    refine own_istore 37 Y #[.val (.int x0), .val (.int x1), .val (.int x2), .val (.int x3), .val (.int x4), .val (.int (4 : Int32)), .val (.int c0), .val (.int c1), .val (.int c2), .val (.int c3), .unset, .unset, .unset, .unset, .unset, .unset] at_35 rfl rfl ?_
    refine own_iload 39 Y at_37 rfl rfl ?_
    refine own_ifT 57 Y at_39 (XT.i0_ne_t (by decide)) (by decide) ?_
    refine own_iload 59 Y at_57 rfl rfl ?_
    refine own_iconst 60 Y (1 : Int32) at_59 rfl rfl ?_
    refine own_icT 83 Y at_60 (XT.ii_ne_t (by decide)) (by decide) ?_
    refine own_iload 85 Y at_83 rfl rfl ?_
    refine own_iconst 86 Y (2 : Int32) at_85 rfl rfl ?_
    refine own_icT 114 Y at_86 (XT.ii_ne_t (by decide)) (by decide) ?_
    refine own_iload 116 Y at_114 rfl rfl ?_
    refine own_iconst 117 Y (3 : Int32) at_116 rfl rfl ?_
    refine own_icT 150 Y at_117 (XT.ii_ne_t (by decide)) (by decide) ?_
    refine own_newO 153 Y (own_wd hw 2 rfl) (own_wd hw 3 rfl) (own_wd hw 4 rfl) at_150 (by decide) (by decide) rfl fun T34 h34 x Y34 g_x E34 X_x D34 => ?_
    have gn_x : n0 ≤ x := by rw [g_x]; exact Zs
    have sn_x := own_sNew H E34 g_x
    have Zs := Nat.le_trans Zs E34.1
    have O := O.ext E34
    have H := H.ext E34
    have sf_x := sn_x
    have F_x_value := D34 (Or.inr (own_wd hw 18 rfl)) (ty := (.array .byte)) (by decide)
    have F_x_coder := D34 (Or.inr (own_wd hw 19 rfl)) (ty := .byte) (by decide)
    refine own_dup 154 Y34 at_153 rfl rfl ?_
    refine own_iconst 155 Y34 (4 : Int32) at_154 rfl rfl ?_
    refine own_newP 157 Y34 (own_wd hw 5 rfl) 4 at_155 (by decide) (by decide) (by decide) (by decide) (by decide) rfl fun T35 h35 ca k_ca Y35 g_ca E35 V_ca => ?_
    have ne_x_ca : x ≠ ca := by rw [g_ca]; exact Nat.ne_of_lt X_x.lt
    have gn_ca : n0 ≤ ca := by rw [g_ca]; exact Zs
    have sn_ca := own_sNew H E35 g_ca
    have sf_x := H.sExt E35 sf_x
    have Zs := Nat.le_trans Zs E35.1
    have O := O.ext E35
    have H := H.ext E35
    have X_x := X_x.ext E35
    have F_x_value := F_x_value.ext E35
    have F_x_coder := F_x_coder.ext E35
    have sf_ca := sn_ca
    have V_ca : Arv Z h35 ca k_ca .char (4 : Int32) [(.int (0 : Int32)), (.int (0 : Int32)), (.int (0 : Int32)), (.int (0 : Int32))] (.int (0 : Int32)) := V_ca.pad (pad_rep [] _ 4)
    refine own_dup 158 Y35 at_157 rfl rfl ?_
    refine own_iconst 159 Y35 (0 : Int32) at_158 rfl rfl ?_
    refine own_iload 161 Y35 at_159 rfl rfl ?_
    refine own_stC 162 Y35 V_ca at_161 ⟨by decide, by decide⟩ rfl fun T36 h36 Y36 W36 A36 => ?_
    have sf_x := H.sWr W36 sf_ca sf_x
    have H' := H.wr W36 sf_ca
    have sf_ca := H.sWr W36 sf_ca sf_ca
    have H := H'
    have N := own_frY Y36 N gn_ca
    have Zs := Nat.le_trans Zs (Nat.le_of_eq W36.size.symm)
    have O := O.wr W36 gn_ca
    have X_x := X_x.wr W36
    have F_x_value := F_x_value.other W36 (Or.inl ne_x_ca)
    have F_x_coder := F_x_coder.other W36 (Or.inl ne_x_ca)
    have V_ca : Arv Z h36 ca k_ca .char (4 : Int32) [(.int (nar .char c0)), (.int (0 : Int32)), (.int (0 : Int32)), (.int (0 : Int32))] (.int (0 : Int32)) := A36 0 rfl (Nat.le_of_ble_eq_true rfl) (fits_nar_char _)
    rw [hn0] at V_ca
    refine own_dup 163 Y36 at_162 rfl rfl ?_
    refine own_iconst 164 Y36 (1 : Int32) at_163 rfl rfl ?_
    refine own_iload 166 Y36 at_164 rfl rfl ?_
    refine own_stC 167 Y36 V_ca at_166 ⟨by decide, by decide⟩ rfl fun T37 h37 Y37 W37 A37 => ?_
    have sf_x := H.sWr W37 sf_ca sf_x
    have H' := H.wr W37 sf_ca
    have sf_ca := H.sWr W37 sf_ca sf_ca
    have H := H'
    have N := own_frY Y37 N gn_ca
    have Zs := Nat.le_trans Zs (Nat.le_of_eq W37.size.symm)
    have O := O.wr W37 gn_ca
    have X_x := X_x.wr W37
    have F_x_value := F_x_value.other W37 (Or.inl ne_x_ca)
    have F_x_coder := F_x_coder.other W37 (Or.inl ne_x_ca)
    have V_ca : Arv Z h37 ca k_ca .char (4 : Int32) [(.int c0), (.int (nar .char c1)), (.int (0 : Int32)), (.int (0 : Int32))] (.int (0 : Int32)) := A37 1 rfl (Nat.le_of_ble_eq_true rfl) (fits_nar_char _)
    rw [hn1] at V_ca
    refine own_dup 168 Y37 at_167 rfl rfl ?_
    refine own_iconst 169 Y37 (2 : Int32) at_168 rfl rfl ?_
    refine own_iload 171 Y37 at_169 rfl rfl ?_
    refine own_stC 172 Y37 V_ca at_171 ⟨by decide, by decide⟩ rfl fun T38 h38 Y38 W38 A38 => ?_
    have sf_x := H.sWr W38 sf_ca sf_x
    have H' := H.wr W38 sf_ca
    have sf_ca := H.sWr W38 sf_ca sf_ca
    have H := H'
    have N := own_frY Y38 N gn_ca
    have Zs := Nat.le_trans Zs (Nat.le_of_eq W38.size.symm)
    have O := O.wr W38 gn_ca
    have X_x := X_x.wr W38
    have F_x_value := F_x_value.other W38 (Or.inl ne_x_ca)
    have F_x_coder := F_x_coder.other W38 (Or.inl ne_x_ca)
    have V_ca : Arv Z h38 ca k_ca .char (4 : Int32) [(.int c0), (.int c1), (.int (nar .char c2)), (.int (0 : Int32))] (.int (0 : Int32)) := A38 2 rfl (Nat.le_of_ble_eq_true rfl) (fits_nar_char _)
    rw [hn2] at V_ca
    refine own_dup 173 Y38 at_172 rfl rfl ?_
    refine own_iconst 174 Y38 (3 : Int32) at_173 rfl rfl ?_
    refine own_iload 176 Y38 at_174 rfl rfl ?_
    refine own_stC 177 Y38 V_ca at_176 ⟨by decide, by decide⟩ rfl fun T39 h39 Y39 W39 A39 => ?_
    have sf_x := H.sWr W39 sf_ca sf_x
    have H' := H.wr W39 sf_ca
    have sf_ca := H.sWr W39 sf_ca sf_ca
    have H := H'
    have N := own_frY Y39 N gn_ca
    have Zs := Nat.le_trans Zs (Nat.le_of_eq W39.size.symm)
    have O := O.wr W39 gn_ca
    have X_x := X_x.wr W39
    have F_x_value := F_x_value.other W39 (Or.inl ne_x_ca)
    have F_x_coder := F_x_coder.other W39 (Or.inl ne_x_ca)
    have V_ca : Arv Z h39 ca k_ca .char (4 : Int32) [(.int c0), (.int c1), (.int c2), (.int (nar .char c3))] (.int (0 : Int32)) := A39 3 rfl (Nat.le_of_ble_eq_true rfl) (fits_nar_char _)
    rw [hn3] at V_ca
    refine own_callI 180 Y39 [(.ref ca)] [(.ref x)] rfl (own_wd hw 6 rfl) (own_wd hw 7 rfl) (own_wd hw 4 rfl) (own_wd hw 8 rfl) (c_new1w_4 l Z a0 hw x ca k_ca c0 c1 c2 c3 hn0 hn1 hn2 hn3 z fm _ n0 O WS Zs gn_x ne_x_ca _ _ X_x F_x_value F_x_coder V_ca) at_177 (by decide) (lenOf pdsnew1 rfl) rfl rfl (by decide) (Nat.le_of_ble_eq_true rfl) (by decide) (by decide) rfl fun v40 T40 h40 L40 Y40 hQ40 => ?_
    obtain ⟨rfl, K40, N40, S_x⟩ := hQ40
    have H := H.keep K40 (sfS sf_x sf0)
    have O := O.keep K40 (allS gn_x all0)
    have N := N.app N40
    show own_G p e below _ (T40.setTop (mkF m 180 #[.val (.int x0), .val (.int x1), .val (.int x2), .val (.int x3), .val (.int x4), .val (.int (4 : Int32)), .val (.int c0), .val (.int c1), .val (.int c2), .val (.int c3), .unset, .unset, .unset, .unset, .unset, .unset] [(.ref x)]))
    refine own_astore 182 Y40 #[.val (.int x0), .val (.int x1), .val (.int x2), .val (.int x3), .val (.int x4), .val (.int (4 : Int32)), .val (.int c0), .val (.int c1), .val (.int c2), .val (.int c3), .val (.ref x), .unset, .unset, .unset, .unset, .unset] at_180 rfl rfl rfl ?_
    refine own_aload 184 Y40 at_182 rfl rfl rfl ?_
    refine own_callS 187 Y40 [(.ref x)] [] (own_wd hw 24 rfl) (own_wd hw 25 rfl) (own_wd hw 26 rfl) (own_wd hw 27 rfl) (c_ism_4 l Z a0 hw x c0 c1 c2 c3 hn0 hn1 hn2 hn3 z fm _ n0 O WS S_x) at_184 (by decide) (lenOf pd3 rfl) rfl rfl (by decide) (Nat.le_of_ble_eq_true rfl) (by decide) (by decide) rfl fun v41 T41 h41 L41 Y41 hQ41 => ?_
    obtain ⟨rfl, rfl, rfl⟩ := hQ41
    have N := N.app (Fr.nil n0)
    generalize erv : (if c0 = 46 then (0 : Int32) else (if atm c0 then (if c1 = 46 then (if c2 = 46 then (0 : Int32) else (if atm c2 then (if c3 = 46 then (0 : Int32) else (if atm c3 then (1 : Int32) else (0 : Int32))) else (0 : Int32))) else (if atm c1 then (if c2 = 46 then (if c3 = 46 then (0 : Int32) else (if atm c3 then (1 : Int32) else (0 : Int32))) else (if atm c2 then (if c3 = 46 then (0 : Int32) else (if atm c3 then (1 : Int32) else (0 : Int32))) else (0 : Int32))) else (0 : Int32))) else (0 : Int32))) = rv
    show own_G p e below _ (T41.setTop (mkF m 187 #[.val (.int x0), .val (.int x1), .val (.int x2), .val (.int x3), .val (.int x4), .val (.int (4 : Int32)), .val (.int c0), .val (.int c1), .val (.int c2), .val (.int c3), .val (.ref x), .unset, .unset, .unset, .unset, .unset] [(.int rv)]))
    refine own_istore 189 Y41 #[.val (.int x0), .val (.int x1), .val (.int x2), .val (.int x3), .val (.int x4), .val (.int (4 : Int32)), .val (.int c0), .val (.int c1), .val (.int c2), .val (.int c3), .val (.ref x), .val (.int rv), .unset, .unset, .unset, .unset] at_187 rfl rfl ?_
    refine own_iload 191 Y41 at_189 rfl rfl ?_
    refine own_ifT 200 Y41 at_191 (XT.i0_ne_t (by decide)) (by decide) ?_
    refine own_iload 202 Y41 at_200 rfl rfl ?_
    refine own_callS 205 Y41 [(.int c0)] [] (own_wd hw 71 rfl) (own_wd hw 72 rfl) (own_wd hw 73 rfl) (own_wd hw 74 rfl) (c_leg l Z a0 hw c0 _) at_202 (by decide) (lenOf pd2 rfl) rfl rfl (by decide) (Nat.le_of_ble_eq_true rfl) (by decide) (by decide) rfl fun v42 T42 h42 L42 Y42 hQ42 => ?_
    obtain ⟨rfl, rfl, rfl⟩ := hQ42
    have N := N.app (Fr.nil n0)
    rcases own_cls c0 with dt0 | ⟨dt0, at0⟩ | ⟨dt0, at0⟩
    · rw [if_pos (Or.inl dt0)]
      show own_G p e below _ (T42.setTop (mkF m 205 #[.val (.int x0), .val (.int x1), .val (.int x2), .val (.int x3), .val (.int x4), .val (.int (4 : Int32)), .val (.int c0), .val (.int c1), .val (.int c2), .val (.int c3), .val (.ref x), .val (.int rv), .unset, .unset, .unset, .unset] [(.int (1 : Int32))]))
      refine own_ifF 208 Y42 at_205 (XT.i0_eq_f (by decide)) rfl ?_
      refine own_iload 210 Y42 at_208 rfl rfl ?_
      refine own_iconst 211 Y42 (2 : Int32) at_210 rfl rfl ?_
      refine own_icF 214 Y42 at_211 (XT.ii_lt_f (by decide)) rfl ?_
      refine own_iload 216 Y42 at_214 rfl rfl ?_
      refine own_callS 219 Y42 [(.int c1)] [] (own_wd hw 71 rfl) (own_wd hw 72 rfl) (own_wd hw 73 rfl) (own_wd hw 74 rfl) (c_leg l Z a0 hw c1 _) at_216 (by decide) (lenOf pd2 rfl) rfl rfl (by decide) (Nat.le_of_ble_eq_true rfl) (by decide) (by decide) rfl fun v43 T43 h43 L43 Y43 hQ43 => ?_
      obtain ⟨rfl, rfl, rfl⟩ := hQ43
      have N := N.app (Fr.nil n0)
      rcases own_cls c1 with dt1 | ⟨dt1, at1⟩ | ⟨dt1, at1⟩
      · rw [if_pos (Or.inl dt1)]
        show own_G p e below _ (T43.setTop (mkF m 219 #[.val (.int x0), .val (.int x1), .val (.int x2), .val (.int x3), .val (.int x4), .val (.int (4 : Int32)), .val (.int c0), .val (.int c1), .val (.int c2), .val (.int c3), .val (.ref x), .val (.int rv), .unset, .unset, .unset, .unset] [(.int (1 : Int32))]))
        refine own_ifF 222 Y43 at_219 (XT.i0_eq_f (by decide)) rfl ?_
        refine own_iload 224 Y43 at_222 rfl rfl ?_
        refine own_iconst 225 Y43 (3 : Int32) at_224 rfl rfl ?_
        refine own_icF 228 Y43 at_225 (XT.ii_lt_f (by decide)) rfl ?_
        refine own_iload 230 Y43 at_228 rfl rfl ?_
        refine own_callS 233 Y43 [(.int c2)] [] (own_wd hw 71 rfl) (own_wd hw 72 rfl) (own_wd hw 73 rfl) (own_wd hw 74 rfl) (c_leg l Z a0 hw c2 _) at_230 (by decide) (lenOf pd2 rfl) rfl rfl (by decide) (Nat.le_of_ble_eq_true rfl) (by decide) (by decide) rfl fun v44 T44 h44 L44 Y44 hQ44 => ?_
        obtain ⟨rfl, rfl, rfl⟩ := hQ44
        have N := N.app (Fr.nil n0)
        rcases own_cls c2 with dt2 | ⟨dt2, at2⟩ | ⟨dt2, at2⟩
        · rw [if_pos (Or.inl dt2)]
          show own_G p e below _ (T44.setTop (mkF m 233 #[.val (.int x0), .val (.int x1), .val (.int x2), .val (.int x3), .val (.int x4), .val (.int (4 : Int32)), .val (.int c0), .val (.int c1), .val (.int c2), .val (.int c3), .val (.ref x), .val (.int rv), .unset, .unset, .unset, .unset] [(.int (1 : Int32))]))
          refine own_ifF 236 Y44 at_233 (XT.i0_eq_f (by decide)) rfl ?_
          refine own_iload 238 Y44 at_236 rfl rfl ?_
          refine own_iconst 239 Y44 (4 : Int32) at_238 rfl rfl ?_
          refine own_icF 242 Y44 at_239 (XT.ii_lt_f (by decide)) rfl ?_
          refine own_iload 244 Y44 at_242 rfl rfl ?_
          refine own_callS 247 Y44 [(.int c3)] [] (own_wd hw 71 rfl) (own_wd hw 72 rfl) (own_wd hw 73 rfl) (own_wd hw 74 rfl) (c_leg l Z a0 hw c3 _) at_244 (by decide) (lenOf pd2 rfl) rfl rfl (by decide) (Nat.le_of_ble_eq_true rfl) (by decide) (by decide) rfl fun v45 T45 h45 L45 Y45 hQ45 => ?_
          obtain ⟨rfl, rfl, rfl⟩ := hQ45
          have N := N.app (Fr.nil n0)
          rcases own_cls c3 with dt3 | ⟨dt3, at3⟩ | ⟨dt3, at3⟩
          · rw [if_pos (Or.inl dt3)]
            show own_G p e below _ (T45.setTop (mkF m 247 #[.val (.int x0), .val (.int x1), .val (.int x2), .val (.int x3), .val (.int x4), .val (.int (4 : Int32)), .val (.int c0), .val (.int c1), .val (.int c2), .val (.int c3), .val (.ref x), .val (.int rv), .unset, .unset, .unset, .unset] [(.int (1 : Int32))]))
            refine own_ifF 250 Y45 at_247 (XT.i0_eq_f (by decide)) rfl ?_
            refine own_iconst 251 Y45 (1 : Int32) at_250 rfl rfl ?_
            refine own_goto 255 Y45 at_251 (by decide) ?_
            refine own_istore 257 Y45 #[.val (.int x0), .val (.int x1), .val (.int x2), .val (.int x3), .val (.int x4), .val (.int (4 : Int32)), .val (.int c0), .val (.int c1), .val (.int c2), .val (.int c3), .val (.ref x), .val (.int rv), .unset, .val (.int (1 : Int32)), .unset, .unset] at_255 rfl rfl ?_
            refine own_iload 259 Y45 at_257 rfl rfl ?_
            refine own_iconst 260 Y45 (1 : Int32) at_259 rfl rfl ?_
            refine own_icT 270 Y45 at_260 (XT.ii_ne_t (by decide)) (by decide) ?_
            refine own_iload 272 Y45 at_270 rfl rfl ?_
            refine own_iconst 273 Y45 (2 : Int32) at_272 rfl rfl ?_
            refine own_icT 283 Y45 at_273 (XT.ii_ne_t (by decide)) (by decide) ?_
            refine own_iload 285 Y45 at_283 rfl rfl ?_
            refine own_iconst 286 Y45 (3 : Int32) at_285 rfl rfl ?_
            refine own_icT 296 Y45 at_286 (XT.ii_ne_t (by decide)) (by decide) ?_
            refine own_iload 298 Y45 at_296 rfl rfl ?_
            refine own_istore 300 Y45 #[.val (.int x0), .val (.int x1), .val (.int x2), .val (.int x3), .val (.int x4), .val (.int (4 : Int32)), .val (.int c0), .val (.int c1), .val (.int c2), .val (.int c3), .val (.ref x), .val (.int rv), .unset, .val (.int (1 : Int32)), .val (.int c3), .unset] at_298 rfl rfl ?_
            refine own_iload 302 Y45 at_300 rfl rfl ?_
            refine own_iconst 303 Y45 (2 : Int32) at_302 rfl rfl ?_
            refine own_icF 306 Y45 at_303 (XT.ii_lt_f (by decide)) rfl ?_
            refine own_iload 308 Y45 at_306 rfl rfl ?_
            refine own_bipush 310 Y45 (46 : Int32) at_308 rfl rfl ?_
            refine own_icF 313 Y45 at_310 (XT.ii_ne_f dt0) rfl ?_
            refine own_iload 315 Y45 at_313 rfl rfl ?_
            refine own_bipush 317 Y45 (46 : Int32) at_315 rfl rfl ?_
            refine own_icT 364 Y45 at_317 (XT.ii_eq_t dt1) (by decide) ?_
            refine own_iconst 365 Y45 (0 : Int32) at_364 rfl rfl ?_
            refine own_istore 367 Y45 #[.val (.int x0), .val (.int x1), .val (.int x2), .val (.int x3), .val (.int x4), .val (.int (4 : Int32)), .val (.int c0), .val (.int c1), .val (.int c2), .val (.int c3), .val (.ref x), .val (.int rv), .unset, .val (.int (1 : Int32)), .val (.int c3), .val (.int (0 : Int32))] at_365 rfl rfl ?_
            refine own_iload 369 Y45 at_367 rfl rfl ?_
            refine own_ifF 372 Y45 at_369 (XT.i0_eq_f (by decide)) rfl ?_
            refine own_iload 374 Y45 at_372 rfl rfl ?_
            refine own_bipush 376 Y45 (46 : Int32) at_374 rfl rfl ?_
            refine own_icT 395 Y45 at_376 (XT.ii_eq_t dt0) (by decide) ?_
            refine own_iconst 396 Y45 (0 : Int32) at_395 rfl rfl ?_
            refine own_istore 398 Y45 #[.val (.int x0), .val (.int x1), .val (.int x2), .val (.int x3), .val (.int x4), .val (.int (4 : Int32)), .val (.int c0), .val (.int c1), .val (.int c2), .val (.int c3), .val (.ref x), .val (.int rv), .val (.int (0 : Int32)), .val (.int (1 : Int32)), .val (.int c3), .val (.int (0 : Int32))] at_396 rfl rfl ?_
            refine own_iload 400 Y45 at_398 rfl rfl ?_
            refine own_iload 402 Y45 at_400 rfl rfl ?_
            rw [if_pos dt0] at erv
            subst erv
            refine own_icF 405 Y45 at_402 (XT.ii_ne_f (by decide)) rfl ?_
            refine own_iconst 406 Y45 (1 : Int32) at_405 rfl rfl ?_
            refine own_goto 410 Y45 at_406 (by decide) ?_
            exact own_retNW Y45 H (t := .boolean) rfl (by simp) at_410 (by decide) (by decide) ⟨rfl, N⟩
          · rw [if_pos (Or.inr at3)]
            show own_G p e below _ (T45.setTop (mkF m 247 #[.val (.int x0), .val (.int x1), .val (.int x2), .val (.int x3), .val (.int x4), .val (.int (4 : Int32)), .val (.int c0), .val (.int c1), .val (.int c2), .val (.int c3), .val (.ref x), .val (.int rv), .unset, .unset, .unset, .unset] [(.int (1 : Int32))]))
            refine own_ifF 250 Y45 at_247 (XT.i0_eq_f (by decide)) rfl ?_
            refine own_iconst 251 Y45 (1 : Int32) at_250 rfl rfl ?_
            refine own_goto 255 Y45 at_251 (by decide) ?_
            refine own_istore 257 Y45 #[.val (.int x0), .val (.int x1), .val (.int x2), .val (.int x3), .val (.int x4), .val (.int (4 : Int32)), .val (.int c0), .val (.int c1), .val (.int c2), .val (.int c3), .val (.ref x), .val (.int rv), .unset, .val (.int (1 : Int32)), .unset, .unset] at_255 rfl rfl ?_
            refine own_iload 259 Y45 at_257 rfl rfl ?_
            refine own_iconst 260 Y45 (1 : Int32) at_259 rfl rfl ?_
            refine own_icT 270 Y45 at_260 (XT.ii_ne_t (by decide)) (by decide) ?_
            refine own_iload 272 Y45 at_270 rfl rfl ?_
            refine own_iconst 273 Y45 (2 : Int32) at_272 rfl rfl ?_
            refine own_icT 283 Y45 at_273 (XT.ii_ne_t (by decide)) (by decide) ?_
            refine own_iload 285 Y45 at_283 rfl rfl ?_
            refine own_iconst 286 Y45 (3 : Int32) at_285 rfl rfl ?_
            refine own_icT 296 Y45 at_286 (XT.ii_ne_t (by decide)) (by decide) ?_
            refine own_iload 298 Y45 at_296 rfl rfl ?_
            refine own_istore 300 Y45 #[.val (.int x0), .val (.int x1), .val (.int x2), .val (.int x3), .val (.int x4), .val (.int (4 : Int32)), .val (.int c0), .val (.int c1), .val (.int c2), .val (.int c3), .val (.ref x), .val (.int rv), .unset, .val (.int (1 : Int32)), .val (.int c3), .unset] at_298 rfl rfl ?_
            refine own_iload 302 Y45 at_300 rfl rfl ?_
            refine own_iconst 303 Y45 (2 : Int32) at_302 rfl rfl ?_
            refine own_icF 306 Y45 at_303 (XT.ii_lt_f (by decide)) rfl ?_
            refine own_iload 308 Y45 at_306 rfl rfl ?_
            refine own_bipush 310 Y45 (46 : Int32) at_308 rfl rfl ?_
            refine own_icF 313 Y45 at_310 (XT.ii_ne_f dt0) rfl ?_
            refine own_iload 315 Y45 at_313 rfl rfl ?_
            refine own_bipush 317 Y45 (46 : Int32) at_315 rfl rfl ?_
            refine own_icT 364 Y45 at_317 (XT.ii_eq_t dt1) (by decide) ?_
            refine own_iconst 365 Y45 (0 : Int32) at_364 rfl rfl ?_
            refine own_istore 367 Y45 #[.val (.int x0), .val (.int x1), .val (.int x2), .val (.int x3), .val (.int x4), .val (.int (4 : Int32)), .val (.int c0), .val (.int c1), .val (.int c2), .val (.int c3), .val (.ref x), .val (.int rv), .unset, .val (.int (1 : Int32)), .val (.int c3), .val (.int (0 : Int32))] at_365 rfl rfl ?_
            refine own_iload 369 Y45 at_367 rfl rfl ?_
            refine own_ifF 372 Y45 at_369 (XT.i0_eq_f (by decide)) rfl ?_
            refine own_iload 374 Y45 at_372 rfl rfl ?_
            refine own_bipush 376 Y45 (46 : Int32) at_374 rfl rfl ?_
            refine own_icT 395 Y45 at_376 (XT.ii_eq_t dt0) (by decide) ?_
            refine own_iconst 396 Y45 (0 : Int32) at_395 rfl rfl ?_
            refine own_istore 398 Y45 #[.val (.int x0), .val (.int x1), .val (.int x2), .val (.int x3), .val (.int x4), .val (.int (4 : Int32)), .val (.int c0), .val (.int c1), .val (.int c2), .val (.int c3), .val (.ref x), .val (.int rv), .val (.int (0 : Int32)), .val (.int (1 : Int32)), .val (.int c3), .val (.int (0 : Int32))] at_396 rfl rfl ?_
            refine own_iload 400 Y45 at_398 rfl rfl ?_
            refine own_iload 402 Y45 at_400 rfl rfl ?_
            rw [if_pos dt0] at erv
            subst erv
            refine own_icF 405 Y45 at_402 (XT.ii_ne_f (by decide)) rfl ?_
            refine own_iconst 406 Y45 (1 : Int32) at_405 rfl rfl ?_
            refine own_goto 410 Y45 at_406 (by decide) ?_
            exact own_retNW Y45 H (t := .boolean) rfl (by simp) at_410 (by decide) (by decide) ⟨rfl, N⟩
          · rw [if_neg (fun z => z.elim dt3 at3)]
            show own_G p e below _ (T45.setTop (mkF m 247 #[.val (.int x0), .val (.int x1), .val (.int x2), .val (.int x3), .val (.int x4), .val (.int (4 : Int32)), .val (.int c0), .val (.int c1), .val (.int c2), .val (.int c3), .val (.ref x), .val (.int rv), .unset, .unset, .unset, .unset] [(.int (0 : Int32))]))
            refine own_ifT 254 Y45 at_247 (XT.i0_eq_t (by decide)) (by decide) ?_
            refine own_iconst 255 Y45 (0 : Int32) at_254 rfl rfl ?_
            refine own_istore 257 Y45 #[.val (.int x0), .val (.int x1), .val (.int x2), .val (.int x3), .val (.int x4), .val (.int (4 : Int32)), .val (.int c0), .val (.int c1), .val (.int c2), .val (.int c3), .val (.ref x), .val (.int rv), .unset, .val (.int (0 : Int32)), .unset, .unset] at_255 rfl rfl ?_
            refine own_iload 259 Y45 at_257 rfl rfl ?_
            refine own_iconst 260 Y45 (1 : Int32) at_259 rfl rfl ?_
            refine own_icT 270 Y45 at_260 (XT.ii_ne_t (by decide)) (by decide) ?_
            refine own_iload 272 Y45 at_270 rfl rfl ?_
            refine own_iconst 273 Y45 (2 : Int32) at_272 rfl rfl ?_
            refine own_icT 283 Y45 at_273 (XT.ii_ne_t (by decide)) (by decide) ?_
            refine own_iload 285 Y45 at_283 rfl rfl ?_
            refine own_iconst 286 Y45 (3 : Int32) at_285 rfl rfl ?_
            refine own_icT 296 Y45 at_286 (XT.ii_ne_t (by decide)) (by decide) ?_
            refine own_iload 298 Y45 at_296 rfl rfl ?_
            refine own_istore 300 Y45 #[.val (.int x0), .val (.int x1), .val (.int x2), .val (.int x3), .val (.int x4), .val (.int (4 : Int32)), .val (.int c0), .val (.int c1), .val (.int c2), .val (.int c3), .val (.ref x), .val (.int rv), .unset, .val (.int (0 : Int32)), .val (.int c3), .unset] at_298 rfl rfl ?_
            refine own_iload 302 Y45 at_300 rfl rfl ?_
            refine own_iconst 303 Y45 (2 : Int32) at_302 rfl rfl ?_
            refine own_icF 306 Y45 at_303 (XT.ii_lt_f (by decide)) rfl ?_
            refine own_iload 308 Y45 at_306 rfl rfl ?_
            refine own_bipush 310 Y45 (46 : Int32) at_308 rfl rfl ?_
            refine own_icF 313 Y45 at_310 (XT.ii_ne_f dt0) rfl ?_
            refine own_iload 315 Y45 at_313 rfl rfl ?_
            refine own_bipush 317 Y45 (46 : Int32) at_315 rfl rfl ?_
            refine own_icT 364 Y45 at_317 (XT.ii_eq_t dt1) (by decide) ?_
            refine own_iconst 365 Y45 (0 : Int32) at_364 rfl rfl ?_
            refine own_istore 367 Y45 #[.val (.int x0), .val (.int x1), .val (.int x2), .val (.int x3), .val (.int x4), .val (.int (4 : Int32)), .val (.int c0), .val (.int c1), .val (.int c2), .val (.int c3), .val (.ref x), .val (.int rv), .unset, .val (.int (0 : Int32)), .val (.int c3), .val (.int (0 : Int32))] at_365 rfl rfl ?_
            refine own_iload 369 Y45 at_367 rfl rfl ?_
            refine own_ifT 395 Y45 at_369 (XT.i0_eq_t (by decide)) (by decide) ?_
            refine own_iconst 396 Y45 (0 : Int32) at_395 rfl rfl ?_
            refine own_istore 398 Y45 #[.val (.int x0), .val (.int x1), .val (.int x2), .val (.int x3), .val (.int x4), .val (.int (4 : Int32)), .val (.int c0), .val (.int c1), .val (.int c2), .val (.int c3), .val (.ref x), .val (.int rv), .val (.int (0 : Int32)), .val (.int (0 : Int32)), .val (.int c3), .val (.int (0 : Int32))] at_396 rfl rfl ?_
            refine own_iload 400 Y45 at_398 rfl rfl ?_
            refine own_iload 402 Y45 at_400 rfl rfl ?_
            rw [if_pos dt0] at erv
            subst erv
            refine own_icF 405 Y45 at_402 (XT.ii_ne_f (by decide)) rfl ?_
            refine own_iconst 406 Y45 (1 : Int32) at_405 rfl rfl ?_
            refine own_goto 410 Y45 at_406 (by decide) ?_
            exact own_retNW Y45 H (t := .boolean) rfl (by simp) at_410 (by decide) (by decide) ⟨rfl, N⟩
        · rw [if_pos (Or.inr at2)]
          show own_G p e below _ (T44.setTop (mkF m 233 #[.val (.int x0), .val (.int x1), .val (.int x2), .val (.int x3), .val (.int x4), .val (.int (4 : Int32)), .val (.int c0), .val (.int c1), .val (.int c2), .val (.int c3), .val (.ref x), .val (.int rv), .unset, .unset, .unset, .unset] [(.int (1 : Int32))]))
          refine own_ifF 236 Y44 at_233 (XT.i0_eq_f (by decide)) rfl ?_
          refine own_iload 238 Y44 at_236 rfl rfl ?_
          refine own_iconst 239 Y44 (4 : Int32) at_238 rfl rfl ?_
          refine own_icF 242 Y44 at_239 (XT.ii_lt_f (by decide)) rfl ?_
          refine own_iload 244 Y44 at_242 rfl rfl ?_
          refine own_callS 247 Y44 [(.int c3)] [] (own_wd hw 71 rfl) (own_wd hw 72 rfl) (own_wd hw 73 rfl) (own_wd hw 74 rfl) (c_leg l Z a0 hw c3 _) at_244 (by decide) (lenOf pd2 rfl) rfl rfl (by decide) (Nat.le_of_ble_eq_true rfl) (by decide) (by decide) rfl fun v46 T46 h46 L46 Y46 hQ46 => ?_
          obtain ⟨rfl, rfl, rfl⟩ := hQ46
          have N := N.app (Fr.nil n0)
          rcases own_cls c3 with dt3 | ⟨dt3, at3⟩ | ⟨dt3, at3⟩
          · rw [if_pos (Or.inl dt3)]
            show own_G p e below _ (T46.setTop (mkF m 247 #[.val (.int x0), .val (.int x1), .val (.int x2), .val (.int x3), .val (.int x4), .val (.int (4 : Int32)), .val (.int c0), .val (.int c1), .val (.int c2), .val (.int c3), .val (.ref x), .val (.int rv), .unset, .unset, .unset, .unset] [(.int (1 : Int32))]))
            refine own_ifF 250 Y46 at_247 (XT.i0_eq_f (by decide)) rfl ?_
            refine own_iconst 251 Y46 (1 : Int32) at_250 rfl rfl ?_
            refine own_goto 255 Y46 at_251 (by decide) ?_
            refine own_istore 257 Y46 #[.val (.int x0), .val (.int x1), .val (.int x2), .val (.int x3), .val (.int x4), .val (.int (4 : Int32)), .val (.int c0), .val (.int c1), .val (.int c2), .val (.int c3), .val (.ref x), .val (.int rv), .unset, .val (.int (1 : Int32)), .unset, .unset] at_255 rfl rfl ?_
            refine own_iload 259 Y46 at_257 rfl rfl ?_
            refine own_iconst 260 Y46 (1 : Int32) at_259 rfl rfl ?_
            refine own_icT 270 Y46 at_260 (XT.ii_ne_t (by decide)) (by decide) ?_
            refine own_iload 272 Y46 at_270 rfl rfl ?_
            refine own_iconst 273 Y46 (2 : Int32) at_272 rfl rfl ?_
            refine own_icT 283 Y46 at_273 (XT.ii_ne_t (by decide)) (by decide) ?_
            refine own_iload 285 Y46 at_283 rfl rfl ?_
            refine own_iconst 286 Y46 (3 : Int32) at_285 rfl rfl ?_
            refine own_icT 296 Y46 at_286 (XT.ii_ne_t (by decide)) (by decide) ?_
            refine own_iload 298 Y46 at_296 rfl rfl ?_
            refine own_istore 300 Y46 #[.val (.int x0), .val (.int x1), .val (.int x2), .val (.int x3), .val (.int x4), .val (.int (4 : Int32)), .val (.int c0), .val (.int c1), .val (.int c2), .val (.int c3), .val (.ref x), .val (.int rv), .unset, .val (.int (1 : Int32)), .val (.int c3), .unset] at_298 rfl rfl ?_
            refine own_iload 302 Y46 at_300 rfl rfl ?_
            refine own_iconst 303 Y46 (2 : Int32) at_302 rfl rfl ?_
            refine own_icF 306 Y46 at_303 (XT.ii_lt_f (by decide)) rfl ?_
            refine own_iload 308 Y46 at_306 rfl rfl ?_
            refine own_bipush 310 Y46 (46 : Int32) at_308 rfl rfl ?_
            refine own_icF 313 Y46 at_310 (XT.ii_ne_f dt0) rfl ?_
            refine own_iload 315 Y46 at_313 rfl rfl ?_
            refine own_bipush 317 Y46 (46 : Int32) at_315 rfl rfl ?_
            refine own_icT 364 Y46 at_317 (XT.ii_eq_t dt1) (by decide) ?_
            refine own_iconst 365 Y46 (0 : Int32) at_364 rfl rfl ?_
            refine own_istore 367 Y46 #[.val (.int x0), .val (.int x1), .val (.int x2), .val (.int x3), .val (.int x4), .val (.int (4 : Int32)), .val (.int c0), .val (.int c1), .val (.int c2), .val (.int c3), .val (.ref x), .val (.int rv), .unset, .val (.int (1 : Int32)), .val (.int c3), .val (.int (0 : Int32))] at_365 rfl rfl ?_
            refine own_iload 369 Y46 at_367 rfl rfl ?_
            refine own_ifF 372 Y46 at_369 (XT.i0_eq_f (by decide)) rfl ?_
            refine own_iload 374 Y46 at_372 rfl rfl ?_
            refine own_bipush 376 Y46 (46 : Int32) at_374 rfl rfl ?_
            refine own_icT 395 Y46 at_376 (XT.ii_eq_t dt0) (by decide) ?_
            refine own_iconst 396 Y46 (0 : Int32) at_395 rfl rfl ?_
            refine own_istore 398 Y46 #[.val (.int x0), .val (.int x1), .val (.int x2), .val (.int x3), .val (.int x4), .val (.int (4 : Int32)), .val (.int c0), .val (.int c1), .val (.int c2), .val (.int c3), .val (.ref x), .val (.int rv), .val (.int (0 : Int32)), .val (.int (1 : Int32)), .val (.int c3), .val (.int (0 : Int32))] at_396 rfl rfl ?_
            refine own_iload 400 Y46 at_398 rfl rfl ?_
            refine own_iload 402 Y46 at_400 rfl rfl ?_
            rw [if_pos dt0] at erv
            subst erv
            refine own_icF 405 Y46 at_402 (XT.ii_ne_f (by decide)) rfl ?_
            refine own_iconst 406 Y46 (1 : Int32) at_405 rfl rfl ?_
            refine own_goto 410 Y46 at_406 (by decide) ?_
            exact own_retNW Y46 H (t := .boolean) rfl (by simp) at_410 (by decide) (by decide) ⟨rfl, N⟩
          · rw [if_pos (Or.inr at3)]
            show own_G p e below _ (T46.setTop (mkF m 247 #[.val (.int x0), .val (.int x1), .val (.int x2), .val (.int x3), .val (.int x4), .val (.int (4 : Int32)), .val (.int c0), .val (.int c1), .val (.int c2), .val (.int c3), .val (.ref x), .val (.int rv), .unset, .unset, .unset, .unset] [(.int (1 : Int32))]))
            refine own_ifF 250 Y46 at_247 (XT.i0_eq_f (by decide)) rfl ?_
            refine own_iconst 251 Y46 (1 : Int32) at_250 rfl rfl ?_
            refine own_goto 255 Y46 at_251 (by decide) ?_
            refine own_istore 257 Y46 #[.val (.int x0), .val (.int x1), .val (.int x2), .val (.int x3), .val (.int x4), .val (.int (4 : Int32)), .val (.int c0), .val (.int c1), .val (.int c2), .val (.int c3), .val (.ref x), .val (.int rv), .unset, .val (.int (1 : Int32)), .unset, .unset] at_255 rfl rfl ?_
            refine own_iload 259 Y46 at_257 rfl rfl ?_
            refine own_iconst 260 Y46 (1 : Int32) at_259 rfl rfl ?_
            refine own_icT 270 Y46 at_260 (XT.ii_ne_t (by decide)) (by decide) ?_
            refine own_iload 272 Y46 at_270 rfl rfl ?_
            refine own_iconst 273 Y46 (2 : Int32) at_272 rfl rfl ?_
            refine own_icT 283 Y46 at_273 (XT.ii_ne_t (by decide)) (by decide) ?_
            refine own_iload 285 Y46 at_283 rfl rfl ?_
            refine own_iconst 286 Y46 (3 : Int32) at_285 rfl rfl ?_
            refine own_icT 296 Y46 at_286 (XT.ii_ne_t (by decide)) (by decide) ?_
            refine own_iload 298 Y46 at_296 rfl rfl ?_
            refine own_istore 300 Y46 #[.val (.int x0), .val (.int x1), .val (.int x2), .val (.int x3), .val (.int x4), .val (.int (4 : Int32)), .val (.int c0), .val (.int c1), .val (.int c2), .val (.int c3), .val (.ref x), .val (.int rv), .unset, .val (.int (1 : Int32)), .val (.int c3), .unset] at_298 rfl rfl ?_
            refine own_iload 302 Y46 at_300 rfl rfl ?_
            refine own_iconst 303 Y46 (2 : Int32) at_302 rfl rfl ?_
            refine own_icF 306 Y46 at_303 (XT.ii_lt_f (by decide)) rfl ?_
            refine own_iload 308 Y46 at_306 rfl rfl ?_
            refine own_bipush 310 Y46 (46 : Int32) at_308 rfl rfl ?_
            refine own_icF 313 Y46 at_310 (XT.ii_ne_f dt0) rfl ?_
            refine own_iload 315 Y46 at_313 rfl rfl ?_
            refine own_bipush 317 Y46 (46 : Int32) at_315 rfl rfl ?_
            refine own_icT 364 Y46 at_317 (XT.ii_eq_t dt1) (by decide) ?_
            refine own_iconst 365 Y46 (0 : Int32) at_364 rfl rfl ?_
            refine own_istore 367 Y46 #[.val (.int x0), .val (.int x1), .val (.int x2), .val (.int x3), .val (.int x4), .val (.int (4 : Int32)), .val (.int c0), .val (.int c1), .val (.int c2), .val (.int c3), .val (.ref x), .val (.int rv), .unset, .val (.int (1 : Int32)), .val (.int c3), .val (.int (0 : Int32))] at_365 rfl rfl ?_
            refine own_iload 369 Y46 at_367 rfl rfl ?_
            refine own_ifF 372 Y46 at_369 (XT.i0_eq_f (by decide)) rfl ?_
            refine own_iload 374 Y46 at_372 rfl rfl ?_
            refine own_bipush 376 Y46 (46 : Int32) at_374 rfl rfl ?_
            refine own_icT 395 Y46 at_376 (XT.ii_eq_t dt0) (by decide) ?_
            refine own_iconst 396 Y46 (0 : Int32) at_395 rfl rfl ?_
            refine own_istore 398 Y46 #[.val (.int x0), .val (.int x1), .val (.int x2), .val (.int x3), .val (.int x4), .val (.int (4 : Int32)), .val (.int c0), .val (.int c1), .val (.int c2), .val (.int c3), .val (.ref x), .val (.int rv), .val (.int (0 : Int32)), .val (.int (1 : Int32)), .val (.int c3), .val (.int (0 : Int32))] at_396 rfl rfl ?_
            refine own_iload 400 Y46 at_398 rfl rfl ?_
            refine own_iload 402 Y46 at_400 rfl rfl ?_
            rw [if_pos dt0] at erv
            subst erv
            refine own_icF 405 Y46 at_402 (XT.ii_ne_f (by decide)) rfl ?_
            refine own_iconst 406 Y46 (1 : Int32) at_405 rfl rfl ?_
            refine own_goto 410 Y46 at_406 (by decide) ?_
            exact own_retNW Y46 H (t := .boolean) rfl (by simp) at_410 (by decide) (by decide) ⟨rfl, N⟩
          · rw [if_neg (fun z => z.elim dt3 at3)]
            show own_G p e below _ (T46.setTop (mkF m 247 #[.val (.int x0), .val (.int x1), .val (.int x2), .val (.int x3), .val (.int x4), .val (.int (4 : Int32)), .val (.int c0), .val (.int c1), .val (.int c2), .val (.int c3), .val (.ref x), .val (.int rv), .unset, .unset, .unset, .unset] [(.int (0 : Int32))]))
            refine own_ifT 254 Y46 at_247 (XT.i0_eq_t (by decide)) (by decide) ?_
            refine own_iconst 255 Y46 (0 : Int32) at_254 rfl rfl ?_
            refine own_istore 257 Y46 #[.val (.int x0), .val (.int x1), .val (.int x2), .val (.int x3), .val (.int x4), .val (.int (4 : Int32)), .val (.int c0), .val (.int c1), .val (.int c2), .val (.int c3), .val (.ref x), .val (.int rv), .unset, .val (.int (0 : Int32)), .unset, .unset] at_255 rfl rfl ?_
            refine own_iload 259 Y46 at_257 rfl rfl ?_
            refine own_iconst 260 Y46 (1 : Int32) at_259 rfl rfl ?_
            refine own_icT 270 Y46 at_260 (XT.ii_ne_t (by decide)) (by decide) ?_
            refine own_iload 272 Y46 at_270 rfl rfl ?_
            refine own_iconst 273 Y46 (2 : Int32) at_272 rfl rfl ?_
            refine own_icT 283 Y46 at_273 (XT.ii_ne_t (by decide)) (by decide) ?_
            refine own_iload 285 Y46 at_283 rfl rfl ?_
            refine own_iconst 286 Y46 (3 : Int32) at_285 rfl rfl ?_
            refine own_icT 296 Y46 at_286 (XT.ii_ne_t (by decide)) (by decide) ?_
            refine own_iload 298 Y46 at_296 rfl rfl ?_
            refine own_istore 300 Y46 #[.val (.int x0), .val (.int x1), .val (.int x2), .val (.int x3), .val (.int x4), .val (.int (4 : Int32)), .val (.int c0), .val (.int c1), .val (.int c2), .val (.int c3), .val (.ref x), .val (.int rv), .unset, .val (.int (0 : Int32)), .val (.int c3), .unset] at_298 rfl rfl ?_
            refine own_iload 302 Y46 at_300 rfl rfl ?_
            refine own_iconst 303 Y46 (2 : Int32) at_302 rfl rfl ?_
            refine own_icF 306 Y46 at_303 (XT.ii_lt_f (by decide)) rfl ?_
            refine own_iload 308 Y46 at_306 rfl rfl ?_
            refine own_bipush 310 Y46 (46 : Int32) at_308 rfl rfl ?_
            refine own_icF 313 Y46 at_310 (XT.ii_ne_f dt0) rfl ?_
            refine own_iload 315 Y46 at_313 rfl rfl ?_
            refine own_bipush 317 Y46 (46 : Int32) at_315 rfl rfl ?_
            refine own_icT 364 Y46 at_317 (XT.ii_eq_t dt1) (by decide) ?_
            refine own_iconst 365 Y46 (0 : Int32) at_364 rfl rfl ?_
            refine own_istore 367 Y46 #[.val (.int x0), .val (.int x1), .val (.int x2), .val (.int x3), .val (.int x4), .val (.int (4 : Int32)), .val (.int c0), .val (.int c1), .val (.int c2), .val (.int c3), .val (.ref x), .val (.int rv), .unset, .val (.int (0 : Int32)), .val (.int c3), .val (.int (0 : Int32))] at_365 rfl rfl ?_
            refine own_iload 369 Y46 at_367 rfl rfl ?_
            refine own_ifT 395 Y46 at_369 (XT.i0_eq_t (by decide)) (by decide) ?_
            refine own_iconst 396 Y46 (0 : Int32) at_395 rfl rfl ?_
            refine own_istore 398 Y46 #[.val (.int x0), .val (.int x1), .val (.int x2), .val (.int x3), .val (.int x4), .val (.int (4 : Int32)), .val (.int c0), .val (.int c1), .val (.int c2), .val (.int c3), .val (.ref x), .val (.int rv), .val (.int (0 : Int32)), .val (.int (0 : Int32)), .val (.int c3), .val (.int (0 : Int32))] at_396 rfl rfl ?_
            refine own_iload 400 Y46 at_398 rfl rfl ?_
            refine own_iload 402 Y46 at_400 rfl rfl ?_
            rw [if_pos dt0] at erv
            subst erv
            refine own_icF 405 Y46 at_402 (XT.ii_ne_f (by decide)) rfl ?_
            refine own_iconst 406 Y46 (1 : Int32) at_405 rfl rfl ?_
            refine own_goto 410 Y46 at_406 (by decide) ?_
            exact own_retNW Y46 H (t := .boolean) rfl (by simp) at_410 (by decide) (by decide) ⟨rfl, N⟩
        · rw [if_neg (fun z => z.elim dt2 at2)]
          show own_G p e below _ (T44.setTop (mkF m 233 #[.val (.int x0), .val (.int x1), .val (.int x2), .val (.int x3), .val (.int x4), .val (.int (4 : Int32)), .val (.int c0), .val (.int c1), .val (.int c2), .val (.int c3), .val (.ref x), .val (.int rv), .unset, .unset, .unset, .unset] [(.int (0 : Int32))]))
          refine own_ifT 254 Y44 at_233 (XT.i0_eq_t (by decide)) (by decide) ?_
          refine own_iconst 255 Y44 (0 : Int32) at_254 rfl rfl ?_
          refine own_istore 257 Y44 #[.val (.int x0), .val (.int x1), .val (.int x2), .val (.int x3), .val (.int x4), .val (.int (4 : Int32)), .val (.int c0), .val (.int c1), .val (.int c2), .val (.int c3), .val (.ref x), .val (.int rv), .unset, .val (.int (0 : Int32)), .unset, .unset] at_255 rfl rfl ?_
          refine own_iload 259 Y44 at_257 rfl rfl ?_
          refine own_iconst 260 Y44 (1 : Int32) at_259 rfl rfl ?_
          refine own_icT 270 Y44 at_260 (XT.ii_ne_t (by decide)) (by decide) ?_
          refine own_iload 272 Y44 at_270 rfl rfl ?_
          refine own_iconst 273 Y44 (2 : Int32) at_272 rfl rfl ?_
          refine own_icT 283 Y44 at_273 (XT.ii_ne_t (by decide)) (by decide) ?_
          refine own_iload 285 Y44 at_283 rfl rfl ?_
          refine own_iconst 286 Y44 (3 : Int32) at_285 rfl rfl ?_
          refine own_icT 296 Y44 at_286 (XT.ii_ne_t (by decide)) (by decide) ?_
          refine own_iload 298 Y44 at_296 rfl rfl ?_
          refine own_istore 300 Y44 #[.val (.int x0), .val (.int x1), .val (.int x2), .val (.int x3), .val (.int x4), .val (.int (4 : Int32)), .val (.int c0), .val (.int c1), .val (.int c2), .val (.int c3), .val (.ref x), .val (.int rv), .unset, .val (.int (0 : Int32)), .val (.int c3), .unset] at_298 rfl rfl ?_
          refine own_iload 302 Y44 at_300 rfl rfl ?_
          refine own_iconst 303 Y44 (2 : Int32) at_302 rfl rfl ?_
          refine own_icF 306 Y44 at_303 (XT.ii_lt_f (by decide)) rfl ?_
          refine own_iload 308 Y44 at_306 rfl rfl ?_
          refine own_bipush 310 Y44 (46 : Int32) at_308 rfl rfl ?_
          refine own_icF 313 Y44 at_310 (XT.ii_ne_f dt0) rfl ?_
          refine own_iload 315 Y44 at_313 rfl rfl ?_
          refine own_bipush 317 Y44 (46 : Int32) at_315 rfl rfl ?_
          refine own_icT 364 Y44 at_317 (XT.ii_eq_t dt1) (by decide) ?_
          refine own_iconst 365 Y44 (0 : Int32) at_364 rfl rfl ?_
          refine own_istore 367 Y44 #[.val (.int x0), .val (.int x1), .val (.int x2), .val (.int x3), .val (.int x4), .val (.int (4 : Int32)), .val (.int c0), .val (.int c1), .val (.int c2), .val (.int c3), .val (.ref x), .val (.int rv), .unset, .val (.int (0 : Int32)), .val (.int c3), .val (.int (0 : Int32))] at_365 rfl rfl ?_
          refine own_iload 369 Y44 at_367 rfl rfl ?_
          refine own_ifT 395 Y44 at_369 (XT.i0_eq_t (by decide)) (by decide) ?_
          refine own_iconst 396 Y44 (0 : Int32) at_395 rfl rfl ?_
          refine own_istore 398 Y44 #[.val (.int x0), .val (.int x1), .val (.int x2), .val (.int x3), .val (.int x4), .val (.int (4 : Int32)), .val (.int c0), .val (.int c1), .val (.int c2), .val (.int c3), .val (.ref x), .val (.int rv), .val (.int (0 : Int32)), .val (.int (0 : Int32)), .val (.int c3), .val (.int (0 : Int32))] at_396 rfl rfl ?_
          refine own_iload 400 Y44 at_398 rfl rfl ?_
          refine own_iload 402 Y44 at_400 rfl rfl ?_
          rw [if_pos dt0] at erv
          subst erv
          refine own_icF 405 Y44 at_402 (XT.ii_ne_f (by decide)) rfl ?_
          refine own_iconst 406 Y44 (1 : Int32) at_405 rfl rfl ?_
          refine own_goto 410 Y44 at_406 (by decide) ?_
          exact own_retNW Y44 H (t := .boolean) rfl (by simp) at_410 (by decide) (by decide) ⟨rfl, N⟩
      · rw [if_pos (Or.inr at1)]
        show own_G p e below _ (T43.setTop (mkF m 219 #[.val (.int x0), .val (.int x1), .val (.int x2), .val (.int x3), .val (.int x4), .val (.int (4 : Int32)), .val (.int c0), .val (.int c1), .val (.int c2), .val (.int c3), .val (.ref x), .val (.int rv), .unset, .unset, .unset, .unset] [(.int (1 : Int32))]))
        refine own_ifF 222 Y43 at_219 (XT.i0_eq_f (by decide)) rfl ?_
        refine own_iload 224 Y43 at_222 rfl rfl ?_
        refine own_iconst 225 Y43 (3 : Int32) at_224 rfl rfl ?_
        refine own_icF 228 Y43 at_225 (XT.ii_lt_f (by decide)) rfl ?_
        refine own_iload 230 Y43 at_228 rfl rfl ?_
        refine own_callS 233 Y43 [(.int c2)] [] (own_wd hw 71 rfl) (own_wd hw 72 rfl) (own_wd hw 73 rfl) (own_wd hw 74 rfl) (c_leg l Z a0 hw c2 _) at_230 (by decide) (lenOf pd2 rfl) rfl rfl (by decide) (Nat.le_of_ble_eq_true rfl) (by decide) (by decide) rfl fun v47 T47 h47 L47 Y47 hQ47 => ?_
        obtain ⟨rfl, rfl, rfl⟩ := hQ47
        have N := N.app (Fr.nil n0)
        rcases own_cls c2 with dt2 | ⟨dt2, at2⟩ | ⟨dt2, at2⟩
        · rw [if_pos (Or.inl dt2)]
          show own_G p e below _ (T47.setTop (mkF m 233 #[.val (.int x0), .val (.int x1), .val (.int x2), .val (.int x3), .val (.int x4), .val (.int (4 : Int32)), .val (.int c0), .val (.int c1), .val (.int c2), .val (.int c3), .val (.ref x), .val (.int rv), .unset, .unset, .unset, .unset] [(.int (1 : Int32))]))
          refine own_ifF 236 Y47 at_233 (XT.i0_eq_f (by decide)) rfl ?_
          refine own_iload 238 Y47 at_236 rfl rfl ?_
          refine own_iconst 239 Y47 (4 : Int32) at_238 rfl rfl ?_
          refine own_icF 242 Y47 at_239 (XT.ii_lt_f (by decide)) rfl ?_
          refine own_iload 244 Y47 at_242 rfl rfl ?_
          refine own_callS 247 Y47 [(.int c3)] [] (own_wd hw 71 rfl) (own_wd hw 72 rfl) (own_wd hw 73 rfl) (own_wd hw 74 rfl) (c_leg l Z a0 hw c3 _) at_244 (by decide) (lenOf pd2 rfl) rfl rfl (by decide) (Nat.le_of_ble_eq_true rfl) (by decide) (by decide) rfl fun v48 T48 h48 L48 Y48 hQ48 => ?_
          obtain ⟨rfl, rfl, rfl⟩ := hQ48
          have N := N.app (Fr.nil n0)
          rcases own_cls c3 with dt3 | ⟨dt3, at3⟩ | ⟨dt3, at3⟩
          · rw [if_pos (Or.inl dt3)]
            show own_G p e below _ (T48.setTop (mkF m 247 #[.val (.int x0), .val (.int x1), .val (.int x2), .val (.int x3), .val (.int x4), .val (.int (4 : Int32)), .val (.int c0), .val (.int c1), .val (.int c2), .val (.int c3), .val (.ref x), .val (.int rv), .unset, .unset, .unset, .unset] [(.int (1 : Int32))]))
            refine own_ifF 250 Y48 at_247 (XT.i0_eq_f (by decide)) rfl ?_
            refine own_iconst 251 Y48 (1 : Int32) at_250 rfl rfl ?_
            refine own_goto 255 Y48 at_251 (by decide) ?_
            refine own_istore 257 Y48 #[.val (.int x0), .val (.int x1), .val (.int x2), .val (.int x3), .val (.int x4), .val (.int (4 : Int32)), .val (.int c0), .val (.int c1), .val (.int c2), .val (.int c3), .val (.ref x), .val (.int rv), .unset, .val (.int (1 : Int32)), .unset, .unset] at_255 rfl rfl ?_
            refine own_iload 259 Y48 at_257 rfl rfl ?_
            refine own_iconst 260 Y48 (1 : Int32) at_259 rfl rfl ?_
            refine own_icT 270 Y48 at_260 (XT.ii_ne_t (by decide)) (by decide) ?_
            refine own_iload 272 Y48 at_270 rfl rfl ?_
            refine own_iconst 273 Y48 (2 : Int32) at_272 rfl rfl ?_
            refine own_icT 283 Y48 at_273 (XT.ii_ne_t (by decide)) (by decide) ?_
            refine own_iload 285 Y48 at_283 rfl rfl ?_
            refine own_iconst 286 Y48 (3 : Int32) at_285 rfl rfl ?_
            refine own_icT 296 Y48 at_286 (XT.ii_ne_t (by decide)) (by decide) ?_
            refine own_iload 298 Y48 at_296 rfl rfl ?_
            refine own_istore 300 Y48 #[.val (.int x0), .val (.int x1), .val (.int x2), .val (.int x3), .val (.int x4), .val (.int (4 : Int32)), .val (.int c0), .val (.int c1), .val (.int c2), .val (.int c3), .val (.ref x), .val (.int rv), .unset, .val (.int (1 : Int32)), .val (.int c3), .unset] at_298 rfl rfl ?_
            refine own_iload 302 Y48 at_300 rfl rfl ?_
            refine own_iconst 303 Y48 (2 : Int32) at_302 rfl rfl ?_
            refine own_icF 306 Y48 at_303 (XT.ii_lt_f (by decide)) rfl ?_
            refine own_iload 308 Y48 at_306 rfl rfl ?_
            refine own_bipush 310 Y48 (46 : Int32) at_308 rfl rfl ?_
            refine own_icF 313 Y48 at_310 (XT.ii_ne_f dt0) rfl ?_
            refine own_iload 315 Y48 at_313 rfl rfl ?_
            refine own_bipush 317 Y48 (46 : Int32) at_315 rfl rfl ?_
            refine own_icF 320 Y48 at_317 (XT.ii_eq_f dt1) rfl ?_
            refine own_iload 322 Y48 at_320 rfl rfl ?_
            refine own_iconst 323 Y48 (3 : Int32) at_322 rfl rfl ?_
            refine own_icF 326 Y48 at_323 (XT.ii_lt_f (by decide)) rfl ?_
            refine own_iload 328 Y48 at_326 rfl rfl ?_
            refine own_bipush 330 Y48 (46 : Int32) at_328 rfl rfl ?_
            refine own_icT 340 Y48 at_330 (XT.ii_ne_t dt1) (by decide) ?_
            refine own_iload 342 Y48 at_340 rfl rfl ?_
            refine own_iconst 343 Y48 (4 : Int32) at_342 rfl rfl ?_
            refine own_icF 346 Y48 at_343 (XT.ii_lt_f (by decide)) rfl ?_
            refine own_iload 348 Y48 at_346 rfl rfl ?_
            refine own_bipush 350 Y48 (46 : Int32) at_348 rfl rfl ?_
            refine own_icF 353 Y48 at_350 (XT.ii_ne_f dt2) rfl ?_
            refine own_iload 355 Y48 at_353 rfl rfl ?_
            refine own_bipush 357 Y48 (46 : Int32) at_355 rfl rfl ?_
            refine own_icT 364 Y48 at_357 (XT.ii_eq_t dt3) (by decide) ?_
            refine own_iconst 365 Y48 (0 : Int32) at_364 rfl rfl ?_
            refine own_istore 367 Y48 #[.val (.int x0), .val (.int x1), .val (.int x2), .val (.int x3), .val (.int x4), .val (.int (4 : Int32)), .val (.int c0), .val (.int c1), .val (.int c2), .val (.int c3), .val (.ref x), .val (.int rv), .unset, .val (.int (1 : Int32)), .val (.int c3), .val (.int (0 : Int32))] at_365 rfl rfl ?_
            refine own_iload 369 Y48 at_367 rfl rfl ?_
            refine own_ifF 372 Y48 at_369 (XT.i0_eq_f (by decide)) rfl ?_
            refine own_iload 374 Y48 at_372 rfl rfl ?_
            refine own_bipush 376 Y48 (46 : Int32) at_374 rfl rfl ?_
            refine own_icT 395 Y48 at_376 (XT.ii_eq_t dt0) (by decide) ?_
            refine own_iconst 396 Y48 (0 : Int32) at_395 rfl rfl ?_
            refine own_istore 398 Y48 #[.val (.int x0), .val (.int x1), .val (.int x2), .val (.int x3), .val (.int x4), .val (.int (4 : Int32)), .val (.int c0), .val (.int c1), .val (.int c2), .val (.int c3), .val (.ref x), .val (.int rv), .val (.int (0 : Int32)), .val (.int (1 : Int32)), .val (.int c3), .val (.int (0 : Int32))] at_396 rfl rfl ?_
            refine own_iload 400 Y48 at_398 rfl rfl ?_
            refine own_iload 402 Y48 at_400 rfl rfl ?_
            rw [if_pos dt0] at erv
            subst erv
            refine own_icF 405 Y48 at_402 (XT.ii_ne_f (by decide)) rfl ?_
            refine own_iconst 406 Y48 (1 : Int32) at_405 rfl rfl ?_
            refine own_goto 410 Y48 at_406 (by decide) ?_
            exact own_retNW Y48 H (t := .boolean) rfl (by simp) at_410 (by decide) (by decide) ⟨rfl, N⟩
          · rw [if_pos (Or.inr at3)]
            show own_G p e below _ (T48.setTop (mkF m 247 #[.val (.int x0), .val (.int x1), .val (.int x2), .val (.int x3), .val (.int x4), .val (.int (4 : Int32)), .val (.int c0), .val (.int c1), .val (.int c2), .val (.int c3), .val (.ref x), .val (.int rv), .unset, .unset, .unset, .unset] [(.int (1 : Int32))]))
            refine own_ifF 250 Y48 at_247 (XT.i0_eq_f (by decide)) rfl ?_
            refine own_iconst 251 Y48 (1 : Int32) at_250 rfl rfl ?_
            refine own_goto 255 Y48 at_251 (by decide) ?_
            refine own_istore 257 Y48 #[.val (.int x0), .val (.int x1), .val (.int x2), .val (.int x3), .val (.int x4), .val (.int (4 : Int32)), .val (.int c0), .val (.int c1), .val (.int c2), .val (.int c3), .val (.ref x), .val (.int rv), .unset, .val (.int (1 : Int32)), .unset, .unset] at_255 rfl rfl ?_
            refine own_iload 259 Y48 at_257 rfl rfl ?_
            refine own_iconst 260 Y48 (1 : Int32) at_259 rfl rfl ?_
            refine own_icT 270 Y48 at_260 (XT.ii_ne_t (by decide)) (by decide) ?_
            refine own_iload 272 Y48 at_270 rfl rfl ?_
            refine own_iconst 273 Y48 (2 : Int32) at_272 rfl rfl ?_
            refine own_icT 283 Y48 at_273 (XT.ii_ne_t (by decide)) (by decide) ?_
            refine own_iload 285 Y48 at_283 rfl rfl ?_
            refine own_iconst 286 Y48 (3 : Int32) at_285 rfl rfl ?_
            refine own_icT 296 Y48 at_286 (XT.ii_ne_t (by decide)) (by decide) ?_
            refine own_iload 298 Y48 at_296 rfl rfl ?_
            refine own_istore 300 Y48 #[.val (.int x0), .val (.int x1), .val (.int x2), .val (.int x3), .val (.int x4), .val (.int (4 : Int32)), .val (.int c0), .val (.int c1), .val (.int c2), .val (.int c3), .val (.ref x), .val (.int rv), .unset, .val (.int (1 : Int32)), .val (.int c3), .unset] at_298 rfl rfl ?_
            refine own_iload 302 Y48 at_300 rfl rfl ?_
            refine own_iconst 303 Y48 (2 : Int32) at_302 rfl rfl ?_
            refine own_icF 306 Y48 at_303 (XT.ii_lt_f (by decide)) rfl ?_
            refine own_iload 308 Y48 at_306 rfl rfl ?_
            refine own_bipush 310 Y48 (46 : Int32) at_308 rfl rfl ?_
            refine own_icF 313 Y48 at_310 (XT.ii_ne_f dt0) rfl ?_
            refine own_iload 315 Y48 at_313 rfl rfl ?_
            refine own_bipush 317 Y48 (46 : Int32) at_315 rfl rfl ?_
            refine own_icF 320 Y48 at_317 (XT.ii_eq_f dt1) rfl ?_
            refine own_iload 322 Y48 at_320 rfl rfl ?_
            refine own_iconst 323 Y48 (3 : Int32) at_322 rfl rfl ?_
            refine own_icF 326 Y48 at_323 (XT.ii_lt_f (by decide)) rfl ?_
            refine own_iload 328 Y48 at_326 rfl rfl ?_
            refine own_bipush 330 Y48 (46 : Int32) at_328 rfl rfl ?_
            refine own_icT 340 Y48 at_330 (XT.ii_ne_t dt1) (by decide) ?_
            refine own_iload 342 Y48 at_340 rfl rfl ?_
            refine own_iconst 343 Y48 (4 : Int32) at_342 rfl rfl ?_
            refine own_icF 346 Y48 at_343 (XT.ii_lt_f (by decide)) rfl ?_
            refine own_iload 348 Y48 at_346 rfl rfl ?_
            refine own_bipush 350 Y48 (46 : Int32) at_348 rfl rfl ?_
            refine own_icF 353 Y48 at_350 (XT.ii_ne_f dt2) rfl ?_
            refine own_iload 355 Y48 at_353 rfl rfl ?_
            refine own_bipush 357 Y48 (46 : Int32) at_355 rfl rfl ?_
            refine own_icF 360 Y48 at_357 (XT.ii_eq_f dt3) rfl ?_
            refine own_iconst 361 Y48 (1 : Int32) at_360 rfl rfl ?_
            refine own_goto 365 Y48 at_361 (by decide) ?_
            refine own_istore 367 Y48 #[.val (.int x0), .val (.int x1), .val (.int x2), .val (.int x3), .val (.int x4), .val (.int (4 : Int32)), .val (.int c0), .val (.int c1), .val (.int c2), .val (.int c3), .val (.ref x), .val (.int rv), .unset, .val (.int (1 : Int32)), .val (.int c3), .val (.int (1 : Int32))] at_365 rfl rfl ?_
            refine own_iload 369 Y48 at_367 rfl rfl ?_
            refine own_ifF 372 Y48 at_369 (XT.i0_eq_f (by decide)) rfl ?_
            refine own_iload 374 Y48 at_372 rfl rfl ?_
            refine own_bipush 376 Y48 (46 : Int32) at_374 rfl rfl ?_
            refine own_icT 395 Y48 at_376 (XT.ii_eq_t dt0) (by decide) ?_
            refine own_iconst 396 Y48 (0 : Int32) at_395 rfl rfl ?_
            refine own_istore 398 Y48 #[.val (.int x0), .val (.int x1), .val (.int x2), .val (.int x3), .val (.int x4), .val (.int (4 : Int32)), .val (.int c0), .val (.int c1), .val (.int c2), .val (.int c3), .val (.ref x), .val (.int rv), .val (.int (0 : Int32)), .val (.int (1 : Int32)), .val (.int c3), .val (.int (1 : Int32))] at_396 rfl rfl ?_
            refine own_iload 400 Y48 at_398 rfl rfl ?_
            refine own_iload 402 Y48 at_400 rfl rfl ?_
            rw [if_pos dt0] at erv
            subst erv
            refine own_icF 405 Y48 at_402 (XT.ii_ne_f (by decide)) rfl ?_
            refine own_iconst 406 Y48 (1 : Int32) at_405 rfl rfl ?_
            refine own_goto 410 Y48 at_406 (by decide) ?_
            exact own_retNW Y48 H (t := .boolean) rfl (by simp) at_410 (by decide) (by decide) ⟨rfl, N⟩
          · rw [if_neg (fun z => z.elim dt3 at3)]
            show own_G p e below _ (T48.setTop (mkF m 247 #[.val (.int x0), .val (.int x1), .val (.int x2), .val (.int x3), .val (.int x4), .val (.int (4 : Int32)), .val (.int c0), .val (.int c1), .val (.int c2), .val (.int c3), .val (.ref x), .val (.int rv), .unset, .unset, .unset, .unset] [(.int (0 : Int32))]))
            refine own_ifT 254 Y48 at_247 (XT.i0_eq_t (by decide)) (by decide) ?_
            refine own_iconst 255 Y48 (0 : Int32) at_254 rfl rfl ?_
            refine own_istore 257 Y48 #[.val (.int x0), .val (.int x1), .val (.int x2), .val (.int x3), .val (.int x4), .val (.int (4 : Int32)), .val (.int c0), .val (.int c1), .val (.int c2), .val (.int c3), .val (.ref x), .val (.int rv), .unset, .val (.int (0 : Int32)), .unset, .unset] at_255 rfl rfl ?_
            refine own_iload 259 Y48 at_257 rfl rfl ?_
            refine own_iconst 260 Y48 (1 : Int32) at_259 rfl rfl ?_
            refine own_icT 270 Y48 at_260 (XT.ii_ne_t (by decide)) (by decide) ?_
            refine own_iload 272 Y48 at_270 rfl rfl ?_
            refine own_iconst 273 Y48 (2 : Int32) at_272 rfl rfl ?_
            refine own_icT 283 Y48 at_273 (XT.ii_ne_t (by decide)) (by decide) ?_
            refine own_iload 285 Y48 at_283 rfl rfl ?_
            refine own_iconst 286 Y48 (3 : Int32) at_285 rfl rfl ?_
            refine own_icT 296 Y48 at_286 (XT.ii_ne_t (by decide)) (by decide) ?_
            refine own_iload 298 Y48 at_296 rfl rfl ?_
            refine own_istore 300 Y48 #[.val (.int x0), .val (.int x1), .val (.int x2), .val (.int x3), .val (.int x4), .val (.int (4 : Int32)), .val (.int c0), .val (.int c1), .val (.int c2), .val (.int c3), .val (.ref x), .val (.int rv), .unset, .val (.int (0 : Int32)), .val (.int c3), .unset] at_298 rfl rfl ?_
            refine own_iload 302 Y48 at_300 rfl rfl ?_
            refine own_iconst 303 Y48 (2 : Int32) at_302 rfl rfl ?_
            refine own_icF 306 Y48 at_303 (XT.ii_lt_f (by decide)) rfl ?_
            refine own_iload 308 Y48 at_306 rfl rfl ?_
            refine own_bipush 310 Y48 (46 : Int32) at_308 rfl rfl ?_
            refine own_icF 313 Y48 at_310 (XT.ii_ne_f dt0) rfl ?_
            refine own_iload 315 Y48 at_313 rfl rfl ?_
            refine own_bipush 317 Y48 (46 : Int32) at_315 rfl rfl ?_
            refine own_icF 320 Y48 at_317 (XT.ii_eq_f dt1) rfl ?_
            refine own_iload 322 Y48 at_320 rfl rfl ?_
            refine own_iconst 323 Y48 (3 : Int32) at_322 rfl rfl ?_
            refine own_icF 326 Y48 at_323 (XT.ii_lt_f (by decide)) rfl ?_
            refine own_iload 328 Y48 at_326 rfl rfl ?_
            refine own_bipush 330 Y48 (46 : Int32) at_328 rfl rfl ?_
            refine own_icT 340 Y48 at_330 (XT.ii_ne_t dt1) (by decide) ?_
            refine own_iload 342 Y48 at_340 rfl rfl ?_
            refine own_iconst 343 Y48 (4 : Int32) at_342 rfl rfl ?_
            refine own_icF 346 Y48 at_343 (XT.ii_lt_f (by decide)) rfl ?_
            refine own_iload 348 Y48 at_346 rfl rfl ?_
            refine own_bipush 350 Y48 (46 : Int32) at_348 rfl rfl ?_
            refine own_icF 353 Y48 at_350 (XT.ii_ne_f dt2) rfl ?_
            refine own_iload 355 Y48 at_353 rfl rfl ?_
            refine own_bipush 357 Y48 (46 : Int32) at_355 rfl rfl ?_
            refine own_icF 360 Y48 at_357 (XT.ii_eq_f dt3) rfl ?_
            refine own_iconst 361 Y48 (1 : Int32) at_360 rfl rfl ?_
            refine own_goto 365 Y48 at_361 (by decide) ?_
            refine own_istore 367 Y48 #[.val (.int x0), .val (.int x1), .val (.int x2), .val (.int x3), .val (.int x4), .val (.int (4 : Int32)), .val (.int c0), .val (.int c1), .val (.int c2), .val (.int c3), .val (.ref x), .val (.int rv), .unset, .val (.int (0 : Int32)), .val (.int c3), .val (.int (1 : Int32))] at_365 rfl rfl ?_
            refine own_iload 369 Y48 at_367 rfl rfl ?_
            refine own_ifT 395 Y48 at_369 (XT.i0_eq_t (by decide)) (by decide) ?_
            refine own_iconst 396 Y48 (0 : Int32) at_395 rfl rfl ?_
            refine own_istore 398 Y48 #[.val (.int x0), .val (.int x1), .val (.int x2), .val (.int x3), .val (.int x4), .val (.int (4 : Int32)), .val (.int c0), .val (.int c1), .val (.int c2), .val (.int c3), .val (.ref x), .val (.int rv), .val (.int (0 : Int32)), .val (.int (0 : Int32)), .val (.int c3), .val (.int (1 : Int32))] at_396 rfl rfl ?_
            refine own_iload 400 Y48 at_398 rfl rfl ?_
            refine own_iload 402 Y48 at_400 rfl rfl ?_
            rw [if_pos dt0] at erv
            subst erv
            refine own_icF 405 Y48 at_402 (XT.ii_ne_f (by decide)) rfl ?_
            refine own_iconst 406 Y48 (1 : Int32) at_405 rfl rfl ?_
            refine own_goto 410 Y48 at_406 (by decide) ?_
            exact own_retNW Y48 H (t := .boolean) rfl (by simp) at_410 (by decide) (by decide) ⟨rfl, N⟩
        · rw [if_pos (Or.inr at2)]
          show own_G p e below _ (T47.setTop (mkF m 233 #[.val (.int x0), .val (.int x1), .val (.int x2), .val (.int x3), .val (.int x4), .val (.int (4 : Int32)), .val (.int c0), .val (.int c1), .val (.int c2), .val (.int c3), .val (.ref x), .val (.int rv), .unset, .unset, .unset, .unset] [(.int (1 : Int32))]))
          refine own_ifF 236 Y47 at_233 (XT.i0_eq_f (by decide)) rfl ?_
          refine own_iload 238 Y47 at_236 rfl rfl ?_
          refine own_iconst 239 Y47 (4 : Int32) at_238 rfl rfl ?_
          refine own_icF 242 Y47 at_239 (XT.ii_lt_f (by decide)) rfl ?_
          refine own_iload 244 Y47 at_242 rfl rfl ?_
          refine own_callS 247 Y47 [(.int c3)] [] (own_wd hw 71 rfl) (own_wd hw 72 rfl) (own_wd hw 73 rfl) (own_wd hw 74 rfl) (c_leg l Z a0 hw c3 _) at_244 (by decide) (lenOf pd2 rfl) rfl rfl (by decide) (Nat.le_of_ble_eq_true rfl) (by decide) (by decide) rfl fun v49 T49 h49 L49 Y49 hQ49 => ?_
          obtain ⟨rfl, rfl, rfl⟩ := hQ49
          have N := N.app (Fr.nil n0)
          rcases own_cls c3 with dt3 | ⟨dt3, at3⟩ | ⟨dt3, at3⟩
          · rw [if_pos (Or.inl dt3)]
            show own_G p e below _ (T49.setTop (mkF m 247 #[.val (.int x0), .val (.int x1), .val (.int x2), .val (.int x3), .val (.int x4), .val (.int (4 : Int32)), .val (.int c0), .val (.int c1), .val (.int c2), .val (.int c3), .val (.ref x), .val (.int rv), .unset, .unset, .unset, .unset] [(.int (1 : Int32))]))
            refine own_ifF 250 Y49 at_247 (XT.i0_eq_f (by decide)) rfl ?_
            refine own_iconst 251 Y49 (1 : Int32) at_250 rfl rfl ?_
            refine own_goto 255 Y49 at_251 (by decide) ?_
            refine own_istore 257 Y49 #[.val (.int x0), .val (.int x1), .val (.int x2), .val (.int x3), .val (.int x4), .val (.int (4 : Int32)), .val (.int c0), .val (.int c1), .val (.int c2), .val (.int c3), .val (.ref x), .val (.int rv), .unset, .val (.int (1 : Int32)), .unset, .unset] at_255 rfl rfl ?_
            refine own_iload 259 Y49 at_257 rfl rfl ?_
            refine own_iconst 260 Y49 (1 : Int32) at_259 rfl rfl ?_
            refine own_icT 270 Y49 at_260 (XT.ii_ne_t (by decide)) (by decide) ?_
            refine own_iload 272 Y49 at_270 rfl rfl ?_
            refine own_iconst 273 Y49 (2 : Int32) at_272 rfl rfl ?_
            refine own_icT 283 Y49 at_273 (XT.ii_ne_t (by decide)) (by decide) ?_
            refine own_iload 285 Y49 at_283 rfl rfl ?_
            refine own_iconst 286 Y49 (3 : Int32) at_285 rfl rfl ?_
            refine own_icT 296 Y49 at_286 (XT.ii_ne_t (by decide)) (by decide) ?_
            refine own_iload 298 Y49 at_296 rfl rfl ?_
            refine own_istore 300 Y49 #[.val (.int x0), .val (.int x1), .val (.int x2), .val (.int x3), .val (.int x4), .val (.int (4 : Int32)), .val (.int c0), .val (.int c1), .val (.int c2), .val (.int c3), .val (.ref x), .val (.int rv), .unset, .val (.int (1 : Int32)), .val (.int c3), .unset] at_298 rfl rfl ?_
            refine own_iload 302 Y49 at_300 rfl rfl ?_
            refine own_iconst 303 Y49 (2 : Int32) at_302 rfl rfl ?_
            refine own_icF 306 Y49 at_303 (XT.ii_lt_f (by decide)) rfl ?_
            refine own_iload 308 Y49 at_306 rfl rfl ?_
            refine own_bipush 310 Y49 (46 : Int32) at_308 rfl rfl ?_
            refine own_icF 313 Y49 at_310 (XT.ii_ne_f dt0) rfl ?_
            refine own_iload 315 Y49 at_313 rfl rfl ?_
            refine own_bipush 317 Y49 (46 : Int32) at_315 rfl rfl ?_
            refine own_icF 320 Y49 at_317 (XT.ii_eq_f dt1) rfl ?_
            refine own_iload 322 Y49 at_320 rfl rfl ?_
            refine own_iconst 323 Y49 (3 : Int32) at_322 rfl rfl ?_
            refine own_icF 326 Y49 at_323 (XT.ii_lt_f (by decide)) rfl ?_
            refine own_iload 328 Y49 at_326 rfl rfl ?_
            refine own_bipush 330 Y49 (46 : Int32) at_328 rfl rfl ?_
            refine own_icT 340 Y49 at_330 (XT.ii_ne_t dt1) (by decide) ?_
            refine own_iload 342 Y49 at_340 rfl rfl ?_
            refine own_iconst 343 Y49 (4 : Int32) at_342 rfl rfl ?_
            refine own_icF 346 Y49 at_343 (XT.ii_lt_f (by decide)) rfl ?_
            refine own_iload 348 Y49 at_346 rfl rfl ?_
            refine own_bipush 350 Y49 (46 : Int32) at_348 rfl rfl ?_
            refine own_icT 360 Y49 at_350 (XT.ii_ne_t dt2) (by decide) ?_
            refine own_iconst 361 Y49 (1 : Int32) at_360 rfl rfl ?_
            refine own_goto 365 Y49 at_361 (by decide) ?_
            refine own_istore 367 Y49 #[.val (.int x0), .val (.int x1), .val (.int x2), .val (.int x3), .val (.int x4), .val (.int (4 : Int32)), .val (.int c0), .val (.int c1), .val (.int c2), .val (.int c3), .val (.ref x), .val (.int rv), .unset, .val (.int (1 : Int32)), .val (.int c3), .val (.int (1 : Int32))] at_365 rfl rfl ?_
            refine own_iload 369 Y49 at_367 rfl rfl ?_
            refine own_ifF 372 Y49 at_369 (XT.i0_eq_f (by decide)) rfl ?_
            refine own_iload 374 Y49 at_372 rfl rfl ?_
            refine own_bipush 376 Y49 (46 : Int32) at_374 rfl rfl ?_
            refine own_icT 395 Y49 at_376 (XT.ii_eq_t dt0) (by decide) ?_
            refine own_iconst 396 Y49 (0 : Int32) at_395 rfl rfl ?_
            refine own_istore 398 Y49 #[.val (.int x0), .val (.int x1), .val (.int x2), .val (.int x3), .val (.int x4), .val (.int (4 : Int32)), .val (.int c0), .val (.int c1), .val (.int c2), .val (.int c3), .val (.ref x), .val (.int rv), .val (.int (0 : Int32)), .val (.int (1 : Int32)), .val (.int c3), .val (.int (1 : Int32))] at_396 rfl rfl ?_
            refine own_iload 400 Y49 at_398 rfl rfl ?_
            refine own_iload 402 Y49 at_400 rfl rfl ?_
            rw [if_pos dt0] at erv
            subst erv
            refine own_icF 405 Y49 at_402 (XT.ii_ne_f (by decide)) rfl ?_
            refine own_iconst 406 Y49 (1 : Int32) at_405 rfl rfl ?_
            refine own_goto 410 Y49 at_406 (by decide) ?_
            exact own_retNW Y49 H (t := .boolean) rfl (by simp) at_410 (by decide) (by decide) ⟨rfl, N⟩
          · rw [if_pos (Or.inr at3)]
            show own_G p e below _ (T49.setTop (mkF m 247 #[.val (.int x0), .val (.int x1), .val (.int x2), .val (.int x3), .val (.int x4), .val (.int (4 : Int32)), .val (.int c0), .val (.int c1), .val (.int c2), .val (.int c3), .val (.ref x), .val (.int rv), .unset, .unset, .unset, .unset] [(.int (1 : Int32))]))
            refine own_ifF 250 Y49 at_247 (XT.i0_eq_f (by decide)) rfl ?_
            refine own_iconst 251 Y49 (1 : Int32) at_250 rfl rfl ?_
            refine own_goto 255 Y49 at_251 (by decide) ?_
            refine own_istore 257 Y49 #[.val (.int x0), .val (.int x1), .val (.int x2), .val (.int x3), .val (.int x4), .val (.int (4 : Int32)), .val (.int c0), .val (.int c1), .val (.int c2), .val (.int c3), .val (.ref x), .val (.int rv), .unset, .val (.int (1 : Int32)), .unset, .unset] at_255 rfl rfl ?_
            refine own_iload 259 Y49 at_257 rfl rfl ?_
            refine own_iconst 260 Y49 (1 : Int32) at_259 rfl rfl ?_
            refine own_icT 270 Y49 at_260 (XT.ii_ne_t (by decide)) (by decide) ?_
            refine own_iload 272 Y49 at_270 rfl rfl ?_
            refine own_iconst 273 Y49 (2 : Int32) at_272 rfl rfl ?_
            refine own_icT 283 Y49 at_273 (XT.ii_ne_t (by decide)) (by decide) ?_
            refine own_iload 285 Y49 at_283 rfl rfl ?_
            refine own_iconst 286 Y49 (3 : Int32) at_285 rfl rfl ?_
            refine own_icT 296 Y49 at_286 (XT.ii_ne_t (by decide)) (by decide) ?_
            refine own_iload 298 Y49 at_296 rfl rfl ?_
            refine own_istore 300 Y49 #[.val (.int x0), .val (.int x1), .val (.int x2), .val (.int x3), .val (.int x4), .val (.int (4 : Int32)), .val (.int c0), .val (.int c1), .val (.int c2), .val (.int c3), .val (.ref x), .val (.int rv), .unset, .val (.int (1 : Int32)), .val (.int c3), .unset] at_298 rfl rfl ?_
            refine own_iload 302 Y49 at_300 rfl rfl ?_
            refine own_iconst 303 Y49 (2 : Int32) at_302 rfl rfl ?_
            refine own_icF 306 Y49 at_303 (XT.ii_lt_f (by decide)) rfl ?_
            refine own_iload 308 Y49 at_306 rfl rfl ?_
            refine own_bipush 310 Y49 (46 : Int32) at_308 rfl rfl ?_
            refine own_icF 313 Y49 at_310 (XT.ii_ne_f dt0) rfl ?_
            refine own_iload 315 Y49 at_313 rfl rfl ?_
            refine own_bipush 317 Y49 (46 : Int32) at_315 rfl rfl ?_
            refine own_icF 320 Y49 at_317 (XT.ii_eq_f dt1) rfl ?_
            refine own_iload 322 Y49 at_320 rfl rfl ?_
            refine own_iconst 323 Y49 (3 : Int32) at_322 rfl rfl ?_
            refine own_icF 326 Y49 at_323 (XT.ii_lt_f (by decide)) rfl ?_
            refine own_iload 328 Y49 at_326 rfl rfl ?_
            refine own_bipush 330 Y49 (46 : Int32) at_328 rfl rfl ?_
            refine own_icT 340 Y49 at_330 (XT.ii_ne_t dt1) (by decide) ?_
            refine own_iload 342 Y49 at_340 rfl rfl ?_
            refine own_iconst 343 Y49 (4 : Int32) at_342 rfl rfl ?_
            refine own_icF 346 Y49 at_343 (XT.ii_lt_f (by decide)) rfl ?_
            refine own_iload 348 Y49 at_346 rfl rfl ?_
            refine own_bipush 350 Y49 (46 : Int32) at_348 rfl rfl ?_
            refine own_icT 360 Y49 at_350 (XT.ii_ne_t dt2) (by decide) ?_
            refine own_iconst 361 Y49 (1 : Int32) at_360 rfl rfl ?_
            refine own_goto 365 Y49 at_361 (by decide) ?_
            refine own_istore 367 Y49 #[.val (.int x0), .val (.int x1), .val (.int x2), .val (.int x3), .val (.int x4), .val (.int (4 : Int32)), .val (.int c0), .val (.int c1), .val (.int c2), .val (.int c3), .val (.ref x), .val (.int rv), .unset, .val (.int (1 : Int32)), .val (.int c3), .val (.int (1 : Int32))] at_365 rfl rfl ?_
            refine own_iload 369 Y49 at_367 rfl rfl ?_
            refine own_ifF 372 Y49 at_369 (XT.i0_eq_f (by decide)) rfl ?_
            refine own_iload 374 Y49 at_372 rfl rfl ?_
            refine own_bipush 376 Y49 (46 : Int32) at_374 rfl rfl ?_
            refine own_icT 395 Y49 at_376 (XT.ii_eq_t dt0) (by decide) ?_
            refine own_iconst 396 Y49 (0 : Int32) at_395 rfl rfl ?_
            refine own_istore 398 Y49 #[.val (.int x0), .val (.int x1), .val (.int x2), .val (.int x3), .val (.int x4), .val (.int (4 : Int32)), .val (.int c0), .val (.int c1), .val (.int c2), .val (.int c3), .val (.ref x), .val (.int rv), .val (.int (0 : Int32)), .val (.int (1 : Int32)), .val (.int c3), .val (.int (1 : Int32))] at_396 rfl rfl ?_
            refine own_iload 400 Y49 at_398 rfl rfl ?_
            refine own_iload 402 Y49 at_400 rfl rfl ?_
            rw [if_pos dt0] at erv
            subst erv
            refine own_icF 405 Y49 at_402 (XT.ii_ne_f (by decide)) rfl ?_
            refine own_iconst 406 Y49 (1 : Int32) at_405 rfl rfl ?_
            refine own_goto 410 Y49 at_406 (by decide) ?_
            exact own_retNW Y49 H (t := .boolean) rfl (by simp) at_410 (by decide) (by decide) ⟨rfl, N⟩
          · rw [if_neg (fun z => z.elim dt3 at3)]
            show own_G p e below _ (T49.setTop (mkF m 247 #[.val (.int x0), .val (.int x1), .val (.int x2), .val (.int x3), .val (.int x4), .val (.int (4 : Int32)), .val (.int c0), .val (.int c1), .val (.int c2), .val (.int c3), .val (.ref x), .val (.int rv), .unset, .unset, .unset, .unset] [(.int (0 : Int32))]))
            refine own_ifT 254 Y49 at_247 (XT.i0_eq_t (by decide)) (by decide) ?_
            refine own_iconst 255 Y49 (0 : Int32) at_254 rfl rfl ?_
            refine own_istore 257 Y49 #[.val (.int x0), .val (.int x1), .val (.int x2), .val (.int x3), .val (.int x4), .val (.int (4 : Int32)), .val (.int c0), .val (.int c1), .val (.int c2), .val (.int c3), .val (.ref x), .val (.int rv), .unset, .val (.int (0 : Int32)), .unset, .unset] at_255 rfl rfl ?_
            refine own_iload 259 Y49 at_257 rfl rfl ?_
            refine own_iconst 260 Y49 (1 : Int32) at_259 rfl rfl ?_
            refine own_icT 270 Y49 at_260 (XT.ii_ne_t (by decide)) (by decide) ?_
            refine own_iload 272 Y49 at_270 rfl rfl ?_
            refine own_iconst 273 Y49 (2 : Int32) at_272 rfl rfl ?_
            refine own_icT 283 Y49 at_273 (XT.ii_ne_t (by decide)) (by decide) ?_
            refine own_iload 285 Y49 at_283 rfl rfl ?_
            refine own_iconst 286 Y49 (3 : Int32) at_285 rfl rfl ?_
            refine own_icT 296 Y49 at_286 (XT.ii_ne_t (by decide)) (by decide) ?_
            refine own_iload 298 Y49 at_296 rfl rfl ?_
            refine own_istore 300 Y49 #[.val (.int x0), .val (.int x1), .val (.int x2), .val (.int x3), .val (.int x4), .val (.int (4 : Int32)), .val (.int c0), .val (.int c1), .val (.int c2), .val (.int c3), .val (.ref x), .val (.int rv), .unset, .val (.int (0 : Int32)), .val (.int c3), .unset] at_298 rfl rfl ?_
            refine own_iload 302 Y49 at_300 rfl rfl ?_
            refine own_iconst 303 Y49 (2 : Int32) at_302 rfl rfl ?_
            refine own_icF 306 Y49 at_303 (XT.ii_lt_f (by decide)) rfl ?_
            refine own_iload 308 Y49 at_306 rfl rfl ?_
            refine own_bipush 310 Y49 (46 : Int32) at_308 rfl rfl ?_
            refine own_icF 313 Y49 at_310 (XT.ii_ne_f dt0) rfl ?_
            refine own_iload 315 Y49 at_313 rfl rfl ?_
            refine own_bipush 317 Y49 (46 : Int32) at_315 rfl rfl ?_
            refine own_icF 320 Y49 at_317 (XT.ii_eq_f dt1) rfl ?_
            refine own_iload 322 Y49 at_320 rfl rfl ?_
            refine own_iconst 323 Y49 (3 : Int32) at_322 rfl rfl ?_
            refine own_icF 326 Y49 at_323 (XT.ii_lt_f (by decide)) rfl ?_
            refine own_iload 328 Y49 at_326 rfl rfl ?_
            refine own_bipush 330 Y49 (46 : Int32) at_328 rfl rfl ?_
            refine own_icT 340 Y49 at_330 (XT.ii_ne_t dt1) (by decide) ?_
            refine own_iload 342 Y49 at_340 rfl rfl ?_
            refine own_iconst 343 Y49 (4 : Int32) at_342 rfl rfl ?_
            refine own_icF 346 Y49 at_343 (XT.ii_lt_f (by decide)) rfl ?_
            refine own_iload 348 Y49 at_346 rfl rfl ?_
            refine own_bipush 350 Y49 (46 : Int32) at_348 rfl rfl ?_
            refine own_icT 360 Y49 at_350 (XT.ii_ne_t dt2) (by decide) ?_
            refine own_iconst 361 Y49 (1 : Int32) at_360 rfl rfl ?_
            refine own_goto 365 Y49 at_361 (by decide) ?_
            refine own_istore 367 Y49 #[.val (.int x0), .val (.int x1), .val (.int x2), .val (.int x3), .val (.int x4), .val (.int (4 : Int32)), .val (.int c0), .val (.int c1), .val (.int c2), .val (.int c3), .val (.ref x), .val (.int rv), .unset, .val (.int (0 : Int32)), .val (.int c3), .val (.int (1 : Int32))] at_365 rfl rfl ?_
            refine own_iload 369 Y49 at_367 rfl rfl ?_
            refine own_ifT 395 Y49 at_369 (XT.i0_eq_t (by decide)) (by decide) ?_
            refine own_iconst 396 Y49 (0 : Int32) at_395 rfl rfl ?_
            refine own_istore 398 Y49 #[.val (.int x0), .val (.int x1), .val (.int x2), .val (.int x3), .val (.int x4), .val (.int (4 : Int32)), .val (.int c0), .val (.int c1), .val (.int c2), .val (.int c3), .val (.ref x), .val (.int rv), .val (.int (0 : Int32)), .val (.int (0 : Int32)), .val (.int c3), .val (.int (1 : Int32))] at_396 rfl rfl ?_
            refine own_iload 400 Y49 at_398 rfl rfl ?_
            refine own_iload 402 Y49 at_400 rfl rfl ?_
            rw [if_pos dt0] at erv
            subst erv
            refine own_icF 405 Y49 at_402 (XT.ii_ne_f (by decide)) rfl ?_
            refine own_iconst 406 Y49 (1 : Int32) at_405 rfl rfl ?_
            refine own_goto 410 Y49 at_406 (by decide) ?_
            exact own_retNW Y49 H (t := .boolean) rfl (by simp) at_410 (by decide) (by decide) ⟨rfl, N⟩
        · rw [if_neg (fun z => z.elim dt2 at2)]
          show own_G p e below _ (T47.setTop (mkF m 233 #[.val (.int x0), .val (.int x1), .val (.int x2), .val (.int x3), .val (.int x4), .val (.int (4 : Int32)), .val (.int c0), .val (.int c1), .val (.int c2), .val (.int c3), .val (.ref x), .val (.int rv), .unset, .unset, .unset, .unset] [(.int (0 : Int32))]))
          refine own_ifT 254 Y47 at_233 (XT.i0_eq_t (by decide)) (by decide) ?_
          refine own_iconst 255 Y47 (0 : Int32) at_254 rfl rfl ?_
          refine own_istore 257 Y47 #[.val (.int x0), .val (.int x1), .val (.int x2), .val (.int x3), .val (.int x4), .val (.int (4 : Int32)), .val (.int c0), .val (.int c1), .val (.int c2), .val (.int c3), .val (.ref x), .val (.int rv), .unset, .val (.int (0 : Int32)), .unset, .unset] at_255 rfl rfl ?_
          refine own_iload 259 Y47 at_257 rfl rfl ?_
          refine own_iconst 260 Y47 (1 : Int32) at_259 rfl rfl ?_
          refine own_icT 270 Y47 at_260 (XT.ii_ne_t (by decide)) (by decide) ?_
          refine own_iload 272 Y47 at_270 rfl rfl ?_
          refine own_iconst 273 Y47 (2 : Int32) at_272 rfl rfl ?_
          refine own_icT 283 Y47 at_273 (XT.ii_ne_t (by decide)) (by decide) ?_
          refine own_iload 285 Y47 at_283 rfl rfl ?_
          refine own_iconst 286 Y47 (3 : Int32) at_285 rfl rfl ?_
          refine own_icT 296 Y47 at_286 (XT.ii_ne_t (by decide)) (by decide) ?_
          refine own_iload 298 Y47 at_296 rfl rfl ?_
          refine own_istore 300 Y47 #[.val (.int x0), .val (.int x1), .val (.int x2), .val (.int x3), .val (.int x4), .val (.int (4 : Int32)), .val (.int c0), .val (.int c1), .val (.int c2), .val (.int c3), .val (.ref x), .val (.int rv), .unset, .val (.int (0 : Int32)), .val (.int c3), .unset] at_298 rfl rfl ?_
          refine own_iload 302 Y47 at_300 rfl rfl ?_
          refine own_iconst 303 Y47 (2 : Int32) at_302 rfl rfl ?_
          refine own_icF 306 Y47 at_303 (XT.ii_lt_f (by decide)) rfl ?_
          refine own_iload 308 Y47 at_306 rfl rfl ?_
          refine own_bipush 310 Y47 (46 : Int32) at_308 rfl rfl ?_
          refine own_icF 313 Y47 at_310 (XT.ii_ne_f dt0) rfl ?_
          refine own_iload 315 Y47 at_313 rfl rfl ?_
          refine own_bipush 317 Y47 (46 : Int32) at_315 rfl rfl ?_
          refine own_icF 320 Y47 at_317 (XT.ii_eq_f dt1) rfl ?_
          refine own_iload 322 Y47 at_320 rfl rfl ?_
          refine own_iconst 323 Y47 (3 : Int32) at_322 rfl rfl ?_
          refine own_icF 326 Y47 at_323 (XT.ii_lt_f (by decide)) rfl ?_
          refine own_iload 328 Y47 at_326 rfl rfl ?_
          refine own_bipush 330 Y47 (46 : Int32) at_328 rfl rfl ?_
          refine own_icT 340 Y47 at_330 (XT.ii_ne_t dt1) (by decide) ?_
          refine own_iload 342 Y47 at_340 rfl rfl ?_
          refine own_iconst 343 Y47 (4 : Int32) at_342 rfl rfl ?_
          refine own_icF 346 Y47 at_343 (XT.ii_lt_f (by decide)) rfl ?_
          refine own_iload 348 Y47 at_346 rfl rfl ?_
          refine own_bipush 350 Y47 (46 : Int32) at_348 rfl rfl ?_
          refine own_icT 360 Y47 at_350 (XT.ii_ne_t dt2) (by decide) ?_
          refine own_iconst 361 Y47 (1 : Int32) at_360 rfl rfl ?_
          refine own_goto 365 Y47 at_361 (by decide) ?_
          refine own_istore 367 Y47 #[.val (.int x0), .val (.int x1), .val (.int x2), .val (.int x3), .val (.int x4), .val (.int (4 : Int32)), .val (.int c0), .val (.int c1), .val (.int c2), .val (.int c3), .val (.ref x), .val (.int rv), .unset, .val (.int (0 : Int32)), .val (.int c3), .val (.int (1 : Int32))] at_365 rfl rfl ?_
          refine own_iload 369 Y47 at_367 rfl rfl ?_
          refine own_ifT 395 Y47 at_369 (XT.i0_eq_t (by decide)) (by decide) ?_
          refine own_iconst 396 Y47 (0 : Int32) at_395 rfl rfl ?_
          refine own_istore 398 Y47 #[.val (.int x0), .val (.int x1), .val (.int x2), .val (.int x3), .val (.int x4), .val (.int (4 : Int32)), .val (.int c0), .val (.int c1), .val (.int c2), .val (.int c3), .val (.ref x), .val (.int rv), .val (.int (0 : Int32)), .val (.int (0 : Int32)), .val (.int c3), .val (.int (1 : Int32))] at_396 rfl rfl ?_
          refine own_iload 400 Y47 at_398 rfl rfl ?_
          refine own_iload 402 Y47 at_400 rfl rfl ?_
          rw [if_pos dt0] at erv
          subst erv
          refine own_icF 405 Y47 at_402 (XT.ii_ne_f (by decide)) rfl ?_
          refine own_iconst 406 Y47 (1 : Int32) at_405 rfl rfl ?_
          refine own_goto 410 Y47 at_406 (by decide) ?_
          exact own_retNW Y47 H (t := .boolean) rfl (by simp) at_410 (by decide) (by decide) ⟨rfl, N⟩
      · rw [if_neg (fun z => z.elim dt1 at1)]
        show own_G p e below _ (T43.setTop (mkF m 219 #[.val (.int x0), .val (.int x1), .val (.int x2), .val (.int x3), .val (.int x4), .val (.int (4 : Int32)), .val (.int c0), .val (.int c1), .val (.int c2), .val (.int c3), .val (.ref x), .val (.int rv), .unset, .unset, .unset, .unset] [(.int (0 : Int32))]))
        refine own_ifT 254 Y43 at_219 (XT.i0_eq_t (by decide)) (by decide) ?_
        refine own_iconst 255 Y43 (0 : Int32) at_254 rfl rfl ?_
        refine own_istore 257 Y43 #[.val (.int x0), .val (.int x1), .val (.int x2), .val (.int x3), .val (.int x4), .val (.int (4 : Int32)), .val (.int c0), .val (.int c1), .val (.int c2), .val (.int c3), .val (.ref x), .val (.int rv), .unset, .val (.int (0 : Int32)), .unset, .unset] at_255 rfl rfl ?_
        refine own_iload 259 Y43 at_257 rfl rfl ?_
        refine own_iconst 260 Y43 (1 : Int32) at_259 rfl rfl ?_
        refine own_icT 270 Y43 at_260 (XT.ii_ne_t (by decide)) (by decide) ?_
        refine own_iload 272 Y43 at_270 rfl rfl ?_
        refine own_iconst 273 Y43 (2 : Int32) at_272 rfl rfl ?_
        refine own_icT 283 Y43 at_273 (XT.ii_ne_t (by decide)) (by decide) ?_
        refine own_iload 285 Y43 at_283 rfl rfl ?_
        refine own_iconst 286 Y43 (3 : Int32) at_285 rfl rfl ?_
        refine own_icT 296 Y43 at_286 (XT.ii_ne_t (by decide)) (by decide) ?_
        refine own_iload 298 Y43 at_296 rfl rfl ?_
        refine own_istore 300 Y43 #[.val (.int x0), .val (.int x1), .val (.int x2), .val (.int x3), .val (.int x4), .val (.int (4 : Int32)), .val (.int c0), .val (.int c1), .val (.int c2), .val (.int c3), .val (.ref x), .val (.int rv), .unset, .val (.int (0 : Int32)), .val (.int c3), .unset] at_298 rfl rfl ?_
        refine own_iload 302 Y43 at_300 rfl rfl ?_
        refine own_iconst 303 Y43 (2 : Int32) at_302 rfl rfl ?_
        refine own_icF 306 Y43 at_303 (XT.ii_lt_f (by decide)) rfl ?_
        refine own_iload 308 Y43 at_306 rfl rfl ?_
        refine own_bipush 310 Y43 (46 : Int32) at_308 rfl rfl ?_
        refine own_icF 313 Y43 at_310 (XT.ii_ne_f dt0) rfl ?_
        refine own_iload 315 Y43 at_313 rfl rfl ?_
        refine own_bipush 317 Y43 (46 : Int32) at_315 rfl rfl ?_
        refine own_icF 320 Y43 at_317 (XT.ii_eq_f dt1) rfl ?_
        refine own_iload 322 Y43 at_320 rfl rfl ?_
        refine own_iconst 323 Y43 (3 : Int32) at_322 rfl rfl ?_
        refine own_icF 326 Y43 at_323 (XT.ii_lt_f (by decide)) rfl ?_
        refine own_iload 328 Y43 at_326 rfl rfl ?_
        refine own_bipush 330 Y43 (46 : Int32) at_328 rfl rfl ?_
        refine own_icT 340 Y43 at_330 (XT.ii_ne_t dt1) (by decide) ?_
        refine own_iload 342 Y43 at_340 rfl rfl ?_
        refine own_iconst 343 Y43 (4 : Int32) at_342 rfl rfl ?_
        refine own_icF 346 Y43 at_343 (XT.ii_lt_f (by decide)) rfl ?_
        refine own_iload 348 Y43 at_346 rfl rfl ?_
        refine own_bipush 350 Y43 (46 : Int32) at_348 rfl rfl ?_
        by_cases dt2 : c2 = 46
        · refine own_icF 353 Y43 at_350 (XT.ii_ne_f dt2) rfl ?_
          refine own_iload 355 Y43 at_353 rfl rfl ?_
          refine own_bipush 357 Y43 (46 : Int32) at_355 rfl rfl ?_
          by_cases dt3 : c3 = 46
          · refine own_icT 364 Y43 at_357 (XT.ii_eq_t dt3) (by decide) ?_
            refine own_iconst 365 Y43 (0 : Int32) at_364 rfl rfl ?_
            refine own_istore 367 Y43 #[.val (.int x0), .val (.int x1), .val (.int x2), .val (.int x3), .val (.int x4), .val (.int (4 : Int32)), .val (.int c0), .val (.int c1), .val (.int c2), .val (.int c3), .val (.ref x), .val (.int rv), .unset, .val (.int (0 : Int32)), .val (.int c3), .val (.int (0 : Int32))] at_365 rfl rfl ?_
            refine own_iload 369 Y43 at_367 rfl rfl ?_
            refine own_ifT 395 Y43 at_369 (XT.i0_eq_t (by decide)) (by decide) ?_
            refine own_iconst 396 Y43 (0 : Int32) at_395 rfl rfl ?_
            refine own_istore 398 Y43 #[.val (.int x0), .val (.int x1), .val (.int x2), .val (.int x3), .val (.int x4), .val (.int (4 : Int32)), .val (.int c0), .val (.int c1), .val (.int c2), .val (.int c3), .val (.ref x), .val (.int rv), .val (.int (0 : Int32)), .val (.int (0 : Int32)), .val (.int c3), .val (.int (0 : Int32))] at_396 rfl rfl ?_
            refine own_iload 400 Y43 at_398 rfl rfl ?_
            refine own_iload 402 Y43 at_400 rfl rfl ?_
            rw [if_pos dt0] at erv
            subst erv
            refine own_icF 405 Y43 at_402 (XT.ii_ne_f (by decide)) rfl ?_
            refine own_iconst 406 Y43 (1 : Int32) at_405 rfl rfl ?_
            refine own_goto 410 Y43 at_406 (by decide) ?_
            exact own_retNW Y43 H (t := .boolean) rfl (by simp) at_410 (by decide) (by decide) ⟨rfl, N⟩
          · refine own_icF 360 Y43 at_357 (XT.ii_eq_f dt3) rfl ?_
            refine own_iconst 361 Y43 (1 : Int32) at_360 rfl rfl ?_
            refine own_goto 365 Y43 at_361 (by decide) ?_
            refine own_istore 367 Y43 #[.val (.int x0), .val (.int x1), .val (.int x2), .val (.int x3), .val (.int x4), .val (.int (4 : Int32)), .val (.int c0), .val (.int c1), .val (.int c2), .val (.int c3), .val (.ref x), .val (.int rv), .unset, .val (.int (0 : Int32)), .val (.int c3), .val (.int (1 : Int32))] at_365 rfl rfl ?_
            refine own_iload 369 Y43 at_367 rfl rfl ?_
            refine own_ifT 395 Y43 at_369 (XT.i0_eq_t (by decide)) (by decide) ?_
            refine own_iconst 396 Y43 (0 : Int32) at_395 rfl rfl ?_
            refine own_istore 398 Y43 #[.val (.int x0), .val (.int x1), .val (.int x2), .val (.int x3), .val (.int x4), .val (.int (4 : Int32)), .val (.int c0), .val (.int c1), .val (.int c2), .val (.int c3), .val (.ref x), .val (.int rv), .val (.int (0 : Int32)), .val (.int (0 : Int32)), .val (.int c3), .val (.int (1 : Int32))] at_396 rfl rfl ?_
            refine own_iload 400 Y43 at_398 rfl rfl ?_
            refine own_iload 402 Y43 at_400 rfl rfl ?_
            rw [if_pos dt0] at erv
            subst erv
            refine own_icF 405 Y43 at_402 (XT.ii_ne_f (by decide)) rfl ?_
            refine own_iconst 406 Y43 (1 : Int32) at_405 rfl rfl ?_
            refine own_goto 410 Y43 at_406 (by decide) ?_
            exact own_retNW Y43 H (t := .boolean) rfl (by simp) at_410 (by decide) (by decide) ⟨rfl, N⟩
        · refine own_icT 360 Y43 at_350 (XT.ii_ne_t dt2) (by decide) ?_
          refine own_iconst 361 Y43 (1 : Int32) at_360 rfl rfl ?_
          refine own_goto 365 Y43 at_361 (by decide) ?_
          refine own_istore 367 Y43 #[.val (.int x0), .val (.int x1), .val (.int x2), .val (.int x3), .val (.int x4), .val (.int (4 : Int32)), .val (.int c0), .val (.int c1), .val (.int c2), .val (.int c3), .val (.ref x), .val (.int rv), .unset, .val (.int (0 : Int32)), .val (.int c3), .val (.int (1 : Int32))] at_365 rfl rfl ?_
          refine own_iload 369 Y43 at_367 rfl rfl ?_
          refine own_ifT 395 Y43 at_369 (XT.i0_eq_t (by decide)) (by decide) ?_
          refine own_iconst 396 Y43 (0 : Int32) at_395 rfl rfl ?_
          refine own_istore 398 Y43 #[.val (.int x0), .val (.int x1), .val (.int x2), .val (.int x3), .val (.int x4), .val (.int (4 : Int32)), .val (.int c0), .val (.int c1), .val (.int c2), .val (.int c3), .val (.ref x), .val (.int rv), .val (.int (0 : Int32)), .val (.int (0 : Int32)), .val (.int c3), .val (.int (1 : Int32))] at_396 rfl rfl ?_
          refine own_iload 400 Y43 at_398 rfl rfl ?_
          refine own_iload 402 Y43 at_400 rfl rfl ?_
          rw [if_pos dt0] at erv
          subst erv
          refine own_icF 405 Y43 at_402 (XT.ii_ne_f (by decide)) rfl ?_
          refine own_iconst 406 Y43 (1 : Int32) at_405 rfl rfl ?_
          refine own_goto 410 Y43 at_406 (by decide) ?_
          exact own_retNW Y43 H (t := .boolean) rfl (by simp) at_410 (by decide) (by decide) ⟨rfl, N⟩
    · rw [if_pos (Or.inr at0)]
      show own_G p e below _ (T42.setTop (mkF m 205 #[.val (.int x0), .val (.int x1), .val (.int x2), .val (.int x3), .val (.int x4), .val (.int (4 : Int32)), .val (.int c0), .val (.int c1), .val (.int c2), .val (.int c3), .val (.ref x), .val (.int rv), .unset, .unset, .unset, .unset] [(.int (1 : Int32))]))
      refine own_ifF 208 Y42 at_205 (XT.i0_eq_f (by decide)) rfl ?_
      refine own_iload 210 Y42 at_208 rfl rfl ?_
      refine own_iconst 211 Y42 (2 : Int32) at_210 rfl rfl ?_
      refine own_icF 214 Y42 at_211 (XT.ii_lt_f (by decide)) rfl ?_
      refine own_iload 216 Y42 at_214 rfl rfl ?_
      refine own_callS 219 Y42 [(.int c1)] [] (own_wd hw 71 rfl) (own_wd hw 72 rfl) (own_wd hw 73 rfl) (own_wd hw 74 rfl) (c_leg l Z a0 hw c1 _) at_216 (by decide) (lenOf pd2 rfl) rfl rfl (by decide) (Nat.le_of_ble_eq_true rfl) (by decide) (by decide) rfl fun v50 T50 h50 L50 Y50 hQ50 => ?_
      obtain ⟨rfl, rfl, rfl⟩ := hQ50
      have N := N.app (Fr.nil n0)
      rcases own_cls c1 with dt1 | ⟨dt1, at1⟩ | ⟨dt1, at1⟩
      · rw [if_pos (Or.inl dt1)]
        show own_G p e below _ (T50.setTop (mkF m 219 #[.val (.int x0), .val (.int x1), .val (.int x2), .val (.int x3), .val (.int x4), .val (.int (4 : Int32)), .val (.int c0), .val (.int c1), .val (.int c2), .val (.int c3), .val (.ref x), .val (.int rv), .unset, .unset, .unset, .unset] [(.int (1 : Int32))]))
        refine own_ifF 222 Y50 at_219 (XT.i0_eq_f (by decide)) rfl ?_
        refine own_iload 224 Y50 at_222 rfl rfl ?_
        refine own_iconst 225 Y50 (3 : Int32) at_224 rfl rfl ?_
        refine own_icF 228 Y50 at_225 (XT.ii_lt_f (by decide)) rfl ?_
        refine own_iload 230 Y50 at_228 rfl rfl ?_
        refine own_callS 233 Y50 [(.int c2)] [] (own_wd hw 71 rfl) (own_wd hw 72 rfl) (own_wd hw 73 rfl) (own_wd hw 74 rfl) (c_leg l Z a0 hw c2 _) at_230 (by decide) (lenOf pd2 rfl) rfl rfl (by decide) (Nat.le_of_ble_eq_true rfl) (by decide) (by decide) rfl fun v51 T51 h51 L51 Y51 hQ51 => ?_
        obtain ⟨rfl, rfl, rfl⟩ := hQ51
        have N := N.app (Fr.nil n0)
        rcases own_cls c2 with dt2 | ⟨dt2, at2⟩ | ⟨dt2, at2⟩
        · rw [if_pos (Or.inl dt2)]
          show own_G p e below _ (T51.setTop (mkF m 233 #[.val (.int x0), .val (.int x1), .val (.int x2), .val (.int x3), .val (.int x4), .val (.int (4 : Int32)), .val (.int c0), .val (.int c1), .val (.int c2), .val (.int c3), .val (.ref x), .val (.int rv), .unset, .unset, .unset, .unset] [(.int (1 : Int32))]))
          refine own_ifF 236 Y51 at_233 (XT.i0_eq_f (by decide)) rfl ?_
          refine own_iload 238 Y51 at_236 rfl rfl ?_
          refine own_iconst 239 Y51 (4 : Int32) at_238 rfl rfl ?_
          refine own_icF 242 Y51 at_239 (XT.ii_lt_f (by decide)) rfl ?_
          refine own_iload 244 Y51 at_242 rfl rfl ?_
          refine own_callS 247 Y51 [(.int c3)] [] (own_wd hw 71 rfl) (own_wd hw 72 rfl) (own_wd hw 73 rfl) (own_wd hw 74 rfl) (c_leg l Z a0 hw c3 _) at_244 (by decide) (lenOf pd2 rfl) rfl rfl (by decide) (Nat.le_of_ble_eq_true rfl) (by decide) (by decide) rfl fun v52 T52 h52 L52 Y52 hQ52 => ?_
          obtain ⟨rfl, rfl, rfl⟩ := hQ52
          have N := N.app (Fr.nil n0)
          rcases own_cls c3 with dt3 | ⟨dt3, at3⟩ | ⟨dt3, at3⟩
          · rw [if_pos (Or.inl dt3)]
            show own_G p e below _ (T52.setTop (mkF m 247 #[.val (.int x0), .val (.int x1), .val (.int x2), .val (.int x3), .val (.int x4), .val (.int (4 : Int32)), .val (.int c0), .val (.int c1), .val (.int c2), .val (.int c3), .val (.ref x), .val (.int rv), .unset, .unset, .unset, .unset] [(.int (1 : Int32))]))
            refine own_ifF 250 Y52 at_247 (XT.i0_eq_f (by decide)) rfl ?_
            refine own_iconst 251 Y52 (1 : Int32) at_250 rfl rfl ?_
            refine own_goto 255 Y52 at_251 (by decide) ?_
            refine own_istore 257 Y52 #[.val (.int x0), .val (.int x1), .val (.int x2), .val (.int x3), .val (.int x4), .val (.int (4 : Int32)), .val (.int c0), .val (.int c1), .val (.int c2), .val (.int c3), .val (.ref x), .val (.int rv), .unset, .val (.int (1 : Int32)), .unset, .unset] at_255 rfl rfl ?_
            refine own_iload 259 Y52 at_257 rfl rfl ?_
            refine own_iconst 260 Y52 (1 : Int32) at_259 rfl rfl ?_
            refine own_icT 270 Y52 at_260 (XT.ii_ne_t (by decide)) (by decide) ?_
            refine own_iload 272 Y52 at_270 rfl rfl ?_
            refine own_iconst 273 Y52 (2 : Int32) at_272 rfl rfl ?_
            refine own_icT 283 Y52 at_273 (XT.ii_ne_t (by decide)) (by decide) ?_
            refine own_iload 285 Y52 at_283 rfl rfl ?_
            refine own_iconst 286 Y52 (3 : Int32) at_285 rfl rfl ?_
            refine own_icT 296 Y52 at_286 (XT.ii_ne_t (by decide)) (by decide) ?_
            refine own_iload 298 Y52 at_296 rfl rfl ?_
            refine own_istore 300 Y52 #[.val (.int x0), .val (.int x1), .val (.int x2), .val (.int x3), .val (.int x4), .val (.int (4 : Int32)), .val (.int c0), .val (.int c1), .val (.int c2), .val (.int c3), .val (.ref x), .val (.int rv), .unset, .val (.int (1 : Int32)), .val (.int c3), .unset] at_298 rfl rfl ?_
            refine own_iload 302 Y52 at_300 rfl rfl ?_
            refine own_iconst 303 Y52 (2 : Int32) at_302 rfl rfl ?_
            refine own_icF 306 Y52 at_303 (XT.ii_lt_f (by decide)) rfl ?_
            refine own_iload 308 Y52 at_306 rfl rfl ?_
            refine own_bipush 310 Y52 (46 : Int32) at_308 rfl rfl ?_
            refine own_icT 320 Y52 at_310 (XT.ii_ne_t dt0) (by decide) ?_
            refine own_iload 322 Y52 at_320 rfl rfl ?_
            refine own_iconst 323 Y52 (3 : Int32) at_322 rfl rfl ?_
            refine own_icF 326 Y52 at_323 (XT.ii_lt_f (by decide)) rfl ?_
            refine own_iload 328 Y52 at_326 rfl rfl ?_
            refine own_bipush 330 Y52 (46 : Int32) at_328 rfl rfl ?_
            refine own_icF 333 Y52 at_330 (XT.ii_ne_f dt1) rfl ?_
            refine own_iload 335 Y52 at_333 rfl rfl ?_
            refine own_bipush 337 Y52 (46 : Int32) at_335 rfl rfl ?_
            refine own_icT 364 Y52 at_337 (XT.ii_eq_t dt2) (by decide) ?_
            refine own_iconst 365 Y52 (0 : Int32) at_364 rfl rfl ?_
            refine own_istore 367 Y52 #[.val (.int x0), .val (.int x1), .val (.int x2), .val (.int x3), .val (.int x4), .val (.int (4 : Int32)), .val (.int c0), .val (.int c1), .val (.int c2), .val (.int c3), .val (.ref x), .val (.int rv), .unset, .val (.int (1 : Int32)), .val (.int c3), .val (.int (0 : Int32))] at_365 rfl rfl ?_
            refine own_iload 369 Y52 at_367 rfl rfl ?_
            refine own_ifF 372 Y52 at_369 (XT.i0_eq_f (by decide)) rfl ?_
            refine own_iload 374 Y52 at_372 rfl rfl ?_
            refine own_bipush 376 Y52 (46 : Int32) at_374 rfl rfl ?_
            refine own_icF 379 Y52 at_376 (XT.ii_eq_f dt0) rfl ?_
            refine own_iload 381 Y52 at_379 rfl rfl ?_
            refine own_bipush 383 Y52 (46 : Int32) at_381 rfl rfl ?_
            refine own_icT 395 Y52 at_383 (XT.ii_eq_t dt3) (by decide) ?_
            refine own_iconst 396 Y52 (0 : Int32) at_395 rfl rfl ?_
            refine own_istore 398 Y52 #[.val (.int x0), .val (.int x1), .val (.int x2), .val (.int x3), .val (.int x4), .val (.int (4 : Int32)), .val (.int c0), .val (.int c1), .val (.int c2), .val (.int c3), .val (.ref x), .val (.int rv), .val (.int (0 : Int32)), .val (.int (1 : Int32)), .val (.int c3), .val (.int (0 : Int32))] at_396 rfl rfl ?_
            refine own_iload 400 Y52 at_398 rfl rfl ?_
            refine own_iload 402 Y52 at_400 rfl rfl ?_
            rw [if_neg dt0, if_pos at0, if_pos dt1, if_pos dt2] at erv
            subst erv
            refine own_icF 405 Y52 at_402 (XT.ii_ne_f (by decide)) rfl ?_
            refine own_iconst 406 Y52 (1 : Int32) at_405 rfl rfl ?_
            refine own_goto 410 Y52 at_406 (by decide) ?_
            exact own_retNW Y52 H (t := .boolean) rfl (by simp) at_410 (by decide) (by decide) ⟨rfl, N⟩
          · rw [if_pos (Or.inr at3)]
            show own_G p e below _ (T52.setTop (mkF m 247 #[.val (.int x0), .val (.int x1), .val (.int x2), .val (.int x3), .val (.int x4), .val (.int (4 : Int32)), .val (.int c0), .val (.int c1), .val (.int c2), .val (.int c3), .val (.ref x), .val (.int rv), .unset, .unset, .unset, .unset] [(.int (1 : Int32))]))
            refine own_ifF 250 Y52 at_247 (XT.i0_eq_f (by decide)) rfl ?_
            refine own_iconst 251 Y52 (1 : Int32) at_250 rfl rfl ?_
            refine own_goto 255 Y52 at_251 (by decide) ?_
            refine own_istore 257 Y52 #[.val (.int x0), .val (.int x1), .val (.int x2), .val (.int x3), .val (.int x4), .val (.int (4 : Int32)), .val (.int c0), .val (.int c1), .val (.int c2), .val (.int c3), .val (.ref x), .val (.int rv), .unset, .val (.int (1 : Int32)), .unset, .unset] at_255 rfl rfl ?_
            refine own_iload 259 Y52 at_257 rfl rfl ?_
            refine own_iconst 260 Y52 (1 : Int32) at_259 rfl rfl ?_
            refine own_icT 270 Y52 at_260 (XT.ii_ne_t (by decide)) (by decide) ?_
            refine own_iload 272 Y52 at_270 rfl rfl ?_
            refine own_iconst 273 Y52 (2 : Int32) at_272 rfl rfl ?_
            refine own_icT 283 Y52 at_273 (XT.ii_ne_t (by decide)) (by decide) ?_
            refine own_iload 285 Y52 at_283 rfl rfl ?_
            refine own_iconst 286 Y52 (3 : Int32) at_285 rfl rfl ?_
            refine own_icT 296 Y52 at_286 (XT.ii_ne_t (by decide)) (by decide) ?_
            refine own_iload 298 Y52 at_296 rfl rfl ?_
            refine own_istore 300 Y52 #[.val (.int x0), .val (.int x1), .val (.int x2), .val (.int x3), .val (.int x4), .val (.int (4 : Int32)), .val (.int c0), .val (.int c1), .val (.int c2), .val (.int c3), .val (.ref x), .val (.int rv), .unset, .val (.int (1 : Int32)), .val (.int c3), .unset] at_298 rfl rfl ?_
            refine own_iload 302 Y52 at_300 rfl rfl ?_
            refine own_iconst 303 Y52 (2 : Int32) at_302 rfl rfl ?_
            refine own_icF 306 Y52 at_303 (XT.ii_lt_f (by decide)) rfl ?_
            refine own_iload 308 Y52 at_306 rfl rfl ?_
            refine own_bipush 310 Y52 (46 : Int32) at_308 rfl rfl ?_
            refine own_icT 320 Y52 at_310 (XT.ii_ne_t dt0) (by decide) ?_
            refine own_iload 322 Y52 at_320 rfl rfl ?_
            refine own_iconst 323 Y52 (3 : Int32) at_322 rfl rfl ?_
            refine own_icF 326 Y52 at_323 (XT.ii_lt_f (by decide)) rfl ?_
            refine own_iload 328 Y52 at_326 rfl rfl ?_
            refine own_bipush 330 Y52 (46 : Int32) at_328 rfl rfl ?_
            refine own_icF 333 Y52 at_330 (XT.ii_ne_f dt1) rfl ?_
            refine own_iload 335 Y52 at_333 rfl rfl ?_
            refine own_bipush 337 Y52 (46 : Int32) at_335 rfl rfl ?_
            refine own_icT 364 Y52 at_337 (XT.ii_eq_t dt2) (by decide) ?_
            refine own_iconst 365 Y52 (0 : Int32) at_364 rfl rfl ?_
            refine own_istore 367 Y52 #[.val (.int x0), .val (.int x1), .val (.int x2), .val (.int x3), .val (.int x4), .val (.int (4 : Int32)), .val (.int c0), .val (.int c1), .val (.int c2), .val (.int c3), .val (.ref x), .val (.int rv), .unset, .val (.int (1 : Int32)), .val (.int c3), .val (.int (0 : Int32))] at_365 rfl rfl ?_
            refine own_iload 369 Y52 at_367 rfl rfl ?_
            refine own_ifF 372 Y52 at_369 (XT.i0_eq_f (by decide)) rfl ?_
            refine own_iload 374 Y52 at_372 rfl rfl ?_
            refine own_bipush 376 Y52 (46 : Int32) at_374 rfl rfl ?_
            refine own_icF 379 Y52 at_376 (XT.ii_eq_f dt0) rfl ?_
            refine own_iload 381 Y52 at_379 rfl rfl ?_
            refine own_bipush 383 Y52 (46 : Int32) at_381 rfl rfl ?_
            refine own_icF 386 Y52 at_383 (XT.ii_eq_f dt3) rfl ?_
            refine own_iload 388 Y52 at_386 rfl rfl ?_
            refine own_ifT 395 Y52 at_388 (XT.i0_eq_t (by decide)) (by decide) ?_
            refine own_iconst 396 Y52 (0 : Int32) at_395 rfl rfl ?_
            refine own_istore 398 Y52 #[.val (.int x0), .val (.int x1), .val (.int x2), .val (.int x3), .val (.int x4), .val (.int (4 : Int32)), .val (.int c0), .val (.int c1), .val (.int c2), .val (.int c3), .val (.ref x), .val (.int rv), .val (.int (0 : Int32)), .val (.int (1 : Int32)), .val (.int c3), .val (.int (0 : Int32))] at_396 rfl rfl ?_
            refine own_iload 400 Y52 at_398 rfl rfl ?_
            refine own_iload 402 Y52 at_400 rfl rfl ?_
            rw [if_neg dt0, if_pos at0, if_pos dt1, if_pos dt2] at erv
            subst erv
            refine own_icF 405 Y52 at_402 (XT.ii_ne_f (by decide)) rfl ?_
            refine own_iconst 406 Y52 (1 : Int32) at_405 rfl rfl ?_
            refine own_goto 410 Y52 at_406 (by decide) ?_
            exact own_retNW Y52 H (t := .boolean) rfl (by simp) at_410 (by decide) (by decide) ⟨rfl, N⟩
          · rw [if_neg (fun z => z.elim dt3 at3)]
            show own_G p e below _ (T52.setTop (mkF m 247 #[.val (.int x0), .val (.int x1), .val (.int x2), .val (.int x3), .val (.int x4), .val (.int (4 : Int32)), .val (.int c0), .val (.int c1), .val (.int c2), .val (.int c3), .val (.ref x), .val (.int rv), .unset, .unset, .unset, .unset] [(.int (0 : Int32))]))
            refine own_ifT 254 Y52 at_247 (XT.i0_eq_t (by decide)) (by decide) ?_
            refine own_iconst 255 Y52 (0 : Int32) at_254 rfl rfl ?_
            refine own_istore 257 Y52 #[.val (.int x0), .val (.int x1), .val (.int x2), .val (.int x3), .val (.int x4), .val (.int (4 : Int32)), .val (.int c0), .val (.int c1), .val (.int c2), .val (.int c3), .val (.ref x), .val (.int rv), .unset, .val (.int (0 : Int32)), .unset, .unset] at_255 rfl rfl ?_
            refine own_iload 259 Y52 at_257 rfl rfl ?_
            refine own_iconst 260 Y52 (1 : Int32) at_259 rfl rfl ?_
            refine own_icT 270 Y52 at_260 (XT.ii_ne_t (by decide)) (by decide) ?_
            refine own_iload 272 Y52 at_270 rfl rfl ?_
            refine own_iconst 273 Y52 (2 : Int32) at_272 rfl rfl ?_
            refine own_icT 283 Y52 at_273 (XT.ii_ne_t (by decide)) (by decide) ?_
            refine own_iload 285 Y52 at_283 rfl rfl ?_
            refine own_iconst 286 Y52 (3 : Int32) at_285 rfl rfl ?_
            refine own_icT 296 Y52 at_286 (XT.ii_ne_t (by decide)) (by decide) ?_
            refine own_iload 298 Y52 at_296 rfl rfl ?_
            refine own_istore 300 Y52 #[.val (.int x0), .val (.int x1), .val (.int x2), .val (.int x3), .val (.int x4), .val (.int (4 : Int32)), .val (.int c0), .val (.int c1), .val (.int c2), .val (.int c3), .val (.ref x), .val (.int rv), .unset, .val (.int (0 : Int32)), .val (.int c3), .unset] at_298 rfl rfl ?_
            refine own_iload 302 Y52 at_300 rfl rfl ?_
            refine own_iconst 303 Y52 (2 : Int32) at_302 rfl rfl ?_
            refine own_icF 306 Y52 at_303 (XT.ii_lt_f (by decide)) rfl ?_
            refine own_iload 308 Y52 at_306 rfl rfl ?_
            refine own_bipush 310 Y52 (46 : Int32) at_308 rfl rfl ?_
            refine own_icT 320 Y52 at_310 (XT.ii_ne_t dt0) (by decide) ?_
            refine own_iload 322 Y52 at_320 rfl rfl ?_
            refine own_iconst 323 Y52 (3 : Int32) at_322 rfl rfl ?_
            refine own_icF 326 Y52 at_323 (XT.ii_lt_f (by decide)) rfl ?_
            refine own_iload 328 Y52 at_326 rfl rfl ?_
            refine own_bipush 330 Y52 (46 : Int32) at_328 rfl rfl ?_
            refine own_icF 333 Y52 at_330 (XT.ii_ne_f dt1) rfl ?_
            refine own_iload 335 Y52 at_333 rfl rfl ?_
            refine own_bipush 337 Y52 (46 : Int32) at_335 rfl rfl ?_
            refine own_icT 364 Y52 at_337 (XT.ii_eq_t dt2) (by decide) ?_
            refine own_iconst 365 Y52 (0 : Int32) at_364 rfl rfl ?_
            refine own_istore 367 Y52 #[.val (.int x0), .val (.int x1), .val (.int x2), .val (.int x3), .val (.int x4), .val (.int (4 : Int32)), .val (.int c0), .val (.int c1), .val (.int c2), .val (.int c3), .val (.ref x), .val (.int rv), .unset, .val (.int (0 : Int32)), .val (.int c3), .val (.int (0 : Int32))] at_365 rfl rfl ?_
            refine own_iload 369 Y52 at_367 rfl rfl ?_
            refine own_ifT 395 Y52 at_369 (XT.i0_eq_t (by decide)) (by decide) ?_
            refine own_iconst 396 Y52 (0 : Int32) at_395 rfl rfl ?_
            refine own_istore 398 Y52 #[.val (.int x0), .val (.int x1), .val (.int x2), .val (.int x3), .val (.int x4), .val (.int (4 : Int32)), .val (.int c0), .val (.int c1), .val (.int c2), .val (.int c3), .val (.ref x), .val (.int rv), .val (.int (0 : Int32)), .val (.int (0 : Int32)), .val (.int c3), .val (.int (0 : Int32))] at_396 rfl rfl ?_
            refine own_iload 400 Y52 at_398 rfl rfl ?_
            refine own_iload 402 Y52 at_400 rfl rfl ?_
            rw [if_neg dt0, if_pos at0, if_pos dt1, if_pos dt2] at erv
            subst erv
            refine own_icF 405 Y52 at_402 (XT.ii_ne_f (by decide)) rfl ?_
            refine own_iconst 406 Y52 (1 : Int32) at_405 rfl rfl ?_
            refine own_goto 410 Y52 at_406 (by decide) ?_
            exact own_retNW Y52 H (t := .boolean) rfl (by simp) at_410 (by decide) (by decide) ⟨rfl, N⟩
        · rw [if_pos (Or.inr at2)]
          show own_G p e below _ (T51.setTop (mkF m 233 #[.val (.int x0), .val (.int x1), .val (.int x2), .val (.int x3), .val (.int x4), .val (.int (4 : Int32)), .val (.int c0), .val (.int c1), .val (.int c2), .val (.int c3), .val (.ref x), .val (.int rv), .unset, .unset, .unset, .unset] [(.int (1 : Int32))]))
          refine own_ifF 236 Y51 at_233 (XT.i0_eq_f (by decide)) rfl ?_
          refine own_iload 238 Y51 at_236 rfl rfl ?_
          refine own_iconst 239 Y51 (4 : Int32) at_238 rfl rfl ?_
          refine own_icF 242 Y51 at_239 (XT.ii_lt_f (by decide)) rfl ?_
          refine own_iload 244 Y51 at_242 rfl rfl ?_
          refine own_callS 247 Y51 [(.int c3)] [] (own_wd hw 71 rfl) (own_wd hw 72 rfl) (own_wd hw 73 rfl) (own_wd hw 74 rfl) (c_leg l Z a0 hw c3 _) at_244 (by decide) (lenOf pd2 rfl) rfl rfl (by decide) (Nat.le_of_ble_eq_true rfl) (by decide) (by decide) rfl fun v53 T53 h53 L53 Y53 hQ53 => ?_
          obtain ⟨rfl, rfl, rfl⟩ := hQ53
          have N := N.app (Fr.nil n0)
          rcases own_cls c3 with dt3 | ⟨dt3, at3⟩ | ⟨dt3, at3⟩
          · rw [if_pos (Or.inl dt3)]
            show own_G p e below _ (T53.setTop (mkF m 247 #[.val (.int x0), .val (.int x1), .val (.int x2), .val (.int x3), .val (.int x4), .val (.int (4 : Int32)), .val (.int c0), .val (.int c1), .val (.int c2), .val (.int c3), .val (.ref x), .val (.int rv), .unset, .unset, .unset, .unset] [(.int (1 : Int32))]))
            refine own_ifF 250 Y53 at_247 (XT.i0_eq_f (by decide)) rfl ?_
            refine own_iconst 251 Y53 (1 : Int32) at_250 rfl rfl ?_
            refine own_goto 255 Y53 at_251 (by decide) ?_
            refine own_istore 257 Y53 #[.val (.int x0), .val (.int x1), .val (.int x2), .val (.int x3), .val (.int x4), .val (.int (4 : Int32)), .val (.int c0), .val (.int c1), .val (.int c2), .val (.int c3), .val (.ref x), .val (.int rv), .unset, .val (.int (1 : Int32)), .unset, .unset] at_255 rfl rfl ?_
            refine own_iload 259 Y53 at_257 rfl rfl ?_
            refine own_iconst 260 Y53 (1 : Int32) at_259 rfl rfl ?_
            refine own_icT 270 Y53 at_260 (XT.ii_ne_t (by decide)) (by decide) ?_
            refine own_iload 272 Y53 at_270 rfl rfl ?_
            refine own_iconst 273 Y53 (2 : Int32) at_272 rfl rfl ?_
            refine own_icT 283 Y53 at_273 (XT.ii_ne_t (by decide)) (by decide) ?_
            refine own_iload 285 Y53 at_283 rfl rfl ?_
            refine own_iconst 286 Y53 (3 : Int32) at_285 rfl rfl ?_
            refine own_icT 296 Y53 at_286 (XT.ii_ne_t (by decide)) (by decide) ?_
            refine own_iload 298 Y53 at_296 rfl rfl ?_
            refine own_istore 300 Y53 #[.val (.int x0), .val (.int x1), .val (.int x2), .val (.int x3), .val (.int x4), .val (.int (4 : Int32)), .val (.int c0), .val (.int c1), .val (.int c2), .val (.int c3), .val (.ref x), .val (.int rv), .unset, .val (.int (1 : Int32)), .val (.int c3), .unset] at_298 rfl rfl ?_
            refine own_iload 302 Y53 at_300 rfl rfl ?_
            refine own_iconst 303 Y53 (2 : Int32) at_302 rfl rfl ?_
            refine own_icF 306 Y53 at_303 (XT.ii_lt_f (by decide)) rfl ?_
            refine own_iload 308 Y53 at_306 rfl rfl ?_
            refine own_bipush 310 Y53 (46 : Int32) at_308 rfl rfl ?_
            refine own_icT 320 Y53 at_310 (XT.ii_ne_t dt0) (by decide) ?_
            refine own_iload 322 Y53 at_320 rfl rfl ?_
            refine own_iconst 323 Y53 (3 : Int32) at_322 rfl rfl ?_
            refine own_icF 326 Y53 at_323 (XT.ii_lt_f (by decide)) rfl ?_
            refine own_iload 328 Y53 at_326 rfl rfl ?_
            refine own_bipush 330 Y53 (46 : Int32) at_328 rfl rfl ?_
            refine own_icF 333 Y53 at_330 (XT.ii_ne_f dt1) rfl ?_
            refine own_iload 335 Y53 at_333 rfl rfl ?_
            refine own_bipush 337 Y53 (46 : Int32) at_335 rfl rfl ?_
            refine own_icF 340 Y53 at_337 (XT.ii_eq_f dt2) rfl ?_
            refine own_iload 342 Y53 at_340 rfl rfl ?_
            refine own_iconst 343 Y53 (4 : Int32) at_342 rfl rfl ?_
            refine own_icF 346 Y53 at_343 (XT.ii_lt_f (by decide)) rfl ?_
            refine own_iload 348 Y53 at_346 rfl rfl ?_
            refine own_bipush 350 Y53 (46 : Int32) at_348 rfl rfl ?_
            refine own_icT 360 Y53 at_350 (XT.ii_ne_t dt2) (by decide) ?_
            refine own_iconst 361 Y53 (1 : Int32) at_360 rfl rfl ?_
            refine own_goto 365 Y53 at_361 (by decide) ?_
            refine own_istore 367 Y53 #[.val (.int x0), .val (.int x1), .val (.int x2), .val (.int x3), .val (.int x4), .val (.int (4 : Int32)), .val (.int c0), .val (.int c1), .val (.int c2), .val (.int c3), .val (.ref x), .val (.int rv), .unset, .val (.int (1 : Int32)), .val (.int c3), .val (.int (1 : Int32))] at_365 rfl rfl ?_
            refine own_iload 369 Y53 at_367 rfl rfl ?_
            refine own_ifF 372 Y53 at_369 (XT.i0_eq_f (by decide)) rfl ?_
            refine own_iload 374 Y53 at_372 rfl rfl ?_
            refine own_bipush 376 Y53 (46 : Int32) at_374 rfl rfl ?_
            refine own_icF 379 Y53 at_376 (XT.ii_eq_f dt0) rfl ?_
            refine own_iload 381 Y53 at_379 rfl rfl ?_
            refine own_bipush 383 Y53 (46 : Int32) at_381 rfl rfl ?_
            refine own_icT 395 Y53 at_383 (XT.ii_eq_t dt3) (by decide) ?_
            refine own_iconst 396 Y53 (0 : Int32) at_395 rfl rfl ?_
            refine own_istore 398 Y53 #[.val (.int x0), .val (.int x1), .val (.int x2), .val (.int x3), .val (.int x4), .val (.int (4 : Int32)), .val (.int c0), .val (.int c1), .val (.int c2), .val (.int c3), .val (.ref x), .val (.int rv), .val (.int (0 : Int32)), .val (.int (1 : Int32)), .val (.int c3), .val (.int (1 : Int32))] at_396 rfl rfl ?_
            refine own_iload 400 Y53 at_398 rfl rfl ?_
            refine own_iload 402 Y53 at_400 rfl rfl ?_
            rw [if_neg dt0, if_pos at0, if_pos dt1, if_neg dt2, if_pos at2, if_pos dt3] at erv
            subst erv
            refine own_icF 405 Y53 at_402 (XT.ii_ne_f (by decide)) rfl ?_
            refine own_iconst 406 Y53 (1 : Int32) at_405 rfl rfl ?_
            refine own_goto 410 Y53 at_406 (by decide) ?_
            exact own_retNW Y53 H (t := .boolean) rfl (by simp) at_410 (by decide) (by decide) ⟨rfl, N⟩
          · rw [if_pos (Or.inr at3)]
            show own_G p e below _ (T53.setTop (mkF m 247 #[.val (.int x0), .val (.int x1), .val (.int x2), .val (.int x3), .val (.int x4), .val (.int (4 : Int32)), .val (.int c0), .val (.int c1), .val (.int c2), .val (.int c3), .val (.ref x), .val (.int rv), .unset, .unset, .unset, .unset] [(.int (1 : Int32))]))
            refine own_ifF 250 Y53 at_247 (XT.i0_eq_f (by decide)) rfl ?_
            refine own_iconst 251 Y53 (1 : Int32) at_250 rfl rfl ?_
            refine own_goto 255 Y53 at_251 (by decide) ?_
            refine own_istore 257 Y53 #[.val (.int x0), .val (.int x1), .val (.int x2), .val (.int x3), .val (.int x4), .val (.int (4 : Int32)), .val (.int c0), .val (.int c1), .val (.int c2), .val (.int c3), .val (.ref x), .val (.int rv), .unset, .val (.int (1 : Int32)), .unset, .unset] at_255 rfl rfl ?_
            refine own_iload 259 Y53 at_257 rfl rfl ?_
            refine own_iconst 260 Y53 (1 : Int32) at_259 rfl rfl ?_
            refine own_icT 270 Y53 at_260 (XT.ii_ne_t (by decide)) (by decide) ?_
            refine own_iload 272 Y53 at_270 rfl rfl ?_
            refine own_iconst 273 Y53 (2 : Int32) at_272 rfl rfl ?_
            refine own_icT 283 Y53 at_273 (XT.ii_ne_t (by decide)) (by decide) ?_
            refine own_iload 285 Y53 at_283 rfl rfl ?_
            refine own_iconst 286 Y53 (3 : Int32) at_285 rfl rfl ?_
            refine own_icT 296 Y53 at_286 (XT.ii_ne_t (by decide)) (by decide) ?_
            refine own_iload 298 Y53 at_296 rfl rfl ?_
            refine own_istore 300 Y53 #[.val (.int x0), .val (.int x1), .val (.int x2), .val (.int x3), .val (.int x4), .val (.int (4 : Int32)), .val (.int c0), .val (.int c1), .val (.int c2), .val (.int c3), .val (.ref x), .val (.int rv), .unset, .val (.int (1 : Int32)), .val (.int c3), .unset] at_298 rfl rfl ?_
            refine own_iload 302 Y53 at_300 rfl rfl ?_
            refine own_iconst 303 Y53 (2 : Int32) at_302 rfl rfl ?_
            refine own_icF 306 Y53 at_303 (XT.ii_lt_f (by decide)) rfl ?_
            refine own_iload 308 Y53 at_306 rfl rfl ?_
            refine own_bipush 310 Y53 (46 : Int32) at_308 rfl rfl ?_
            refine own_icT 320 Y53 at_310 (XT.ii_ne_t dt0) (by decide) ?_
            refine own_iload 322 Y53 at_320 rfl rfl ?_
            refine own_iconst 323 Y53 (3 : Int32) at_322 rfl rfl ?_
            refine own_icF 326 Y53 at_323 (XT.ii_lt_f (by decide)) rfl ?_
            refine own_iload 328 Y53 at_326 rfl rfl ?_
            refine own_bipush 330 Y53 (46 : Int32) at_328 rfl rfl ?_
            refine own_icF 333 Y53 at_330 (XT.ii_ne_f dt1) rfl ?_
            refine own_iload 335 Y53 at_333 rfl rfl ?_
            refine own_bipush 337 Y53 (46 : Int32) at_335 rfl rfl ?_
            refine own_icF 340 Y53 at_337 (XT.ii_eq_f dt2) rfl ?_
            refine own_iload 342 Y53 at_340 rfl rfl ?_
            refine own_iconst 343 Y53 (4 : Int32) at_342 rfl rfl ?_
            refine own_icF 346 Y53 at_343 (XT.ii_lt_f (by decide)) rfl ?_
            refine own_iload 348 Y53 at_346 rfl rfl ?_
            refine own_bipush 350 Y53 (46 : Int32) at_348 rfl rfl ?_
            refine own_icT 360 Y53 at_350 (XT.ii_ne_t dt2) (by decide) ?_
            refine own_iconst 361 Y53 (1 : Int32) at_360 rfl rfl ?_
            refine own_goto 365 Y53 at_361 (by decide) ?_
            refine own_istore 367 Y53 #[.val (.int x0), .val (.int x1), .val (.int x2), .val (.int x3), .val (.int x4), .val (.int (4 : Int32)), .val (.int c0), .val (.int c1), .val (.int c2), .val (.int c3), .val (.ref x), .val (.int rv), .unset, .val (.int (1 : Int32)), .val (.int c3), .val (.int (1 : Int32))] at_365 rfl rfl ?_
            refine own_iload 369 Y53 at_367 rfl rfl ?_
            refine own_ifF 372 Y53 at_369 (XT.i0_eq_f (by decide)) rfl ?_
            refine own_iload 374 Y53 at_372 rfl rfl ?_
            refine own_bipush 376 Y53 (46 : Int32) at_374 rfl rfl ?_
            refine own_icF 379 Y53 at_376 (XT.ii_eq_f dt0) rfl ?_
            refine own_iload 381 Y53 at_379 rfl rfl ?_
            refine own_bipush 383 Y53 (46 : Int32) at_381 rfl rfl ?_
            refine own_icF 386 Y53 at_383 (XT.ii_eq_f dt3) rfl ?_
            refine own_iload 388 Y53 at_386 rfl rfl ?_
            refine own_ifF 391 Y53 at_388 (XT.i0_eq_f (by decide)) rfl ?_
            refine own_iconst 392 Y53 (1 : Int32) at_391 rfl rfl ?_
            refine own_goto 396 Y53 at_392 (by decide) ?_
            refine own_istore 398 Y53 #[.val (.int x0), .val (.int x1), .val (.int x2), .val (.int x3), .val (.int x4), .val (.int (4 : Int32)), .val (.int c0), .val (.int c1), .val (.int c2), .val (.int c3), .val (.ref x), .val (.int rv), .val (.int (1 : Int32)), .val (.int (1 : Int32)), .val (.int c3), .val (.int (1 : Int32))] at_396 rfl rfl ?_
            refine own_iload 400 Y53 at_398 rfl rfl ?_
            refine own_iload 402 Y53 at_400 rfl rfl ?_
            rw [if_neg dt0, if_pos at0, if_pos dt1, if_neg dt2, if_pos at2, if_neg dt3, if_pos at3] at erv
            subst erv
            refine own_icF 405 Y53 at_402 (XT.ii_ne_f (by decide)) rfl ?_
            refine own_iconst 406 Y53 (1 : Int32) at_405 rfl rfl ?_
            refine own_goto 410 Y53 at_406 (by decide) ?_
            exact own_retNW Y53 H (t := .boolean) rfl (by simp) at_410 (by decide) (by decide) ⟨rfl, N⟩
          · rw [if_neg (fun z => z.elim dt3 at3)]
            show own_G p e below _ (T53.setTop (mkF m 247 #[.val (.int x0), .val (.int x1), .val (.int x2), .val (.int x3), .val (.int x4), .val (.int (4 : Int32)), .val (.int c0), .val (.int c1), .val (.int c2), .val (.int c3), .val (.ref x), .val (.int rv), .unset, .unset, .unset, .unset] [(.int (0 : Int32))]))
            refine own_ifT 254 Y53 at_247 (XT.i0_eq_t (by decide)) (by decide) ?_
            refine own_iconst 255 Y53 (0 : Int32) at_254 rfl rfl ?_
            refine own_istore 257 Y53 #[.val (.int x0), .val (.int x1), .val (.int x2), .val (.int x3), .val (.int x4), .val (.int (4 : Int32)), .val (.int c0), .val (.int c1), .val (.int c2), .val (.int c3), .val (.ref x), .val (.int rv), .unset, .val (.int (0 : Int32)), .unset, .unset] at_255 rfl rfl ?_
            refine own_iload 259 Y53 at_257 rfl rfl ?_
            refine own_iconst 260 Y53 (1 : Int32) at_259 rfl rfl ?_
            refine own_icT 270 Y53 at_260 (XT.ii_ne_t (by decide)) (by decide) ?_
            refine own_iload 272 Y53 at_270 rfl rfl ?_
            refine own_iconst 273 Y53 (2 : Int32) at_272 rfl rfl ?_
            refine own_icT 283 Y53 at_273 (XT.ii_ne_t (by decide)) (by decide) ?_
            refine own_iload 285 Y53 at_283 rfl rfl ?_
            refine own_iconst 286 Y53 (3 : Int32) at_285 rfl rfl ?_
            refine own_icT 296 Y53 at_286 (XT.ii_ne_t (by decide)) (by decide) ?_
            refine own_iload 298 Y53 at_296 rfl rfl ?_
            refine own_istore 300 Y53 #[.val (.int x0), .val (.int x1), .val (.int x2), .val (.int x3), .val (.int x4), .val (.int (4 : Int32)), .val (.int c0), .val (.int c1), .val (.int c2), .val (.int c3), .val (.ref x), .val (.int rv), .unset, .val (.int (0 : Int32)), .val (.int c3), .unset] at_298 rfl rfl ?_
            refine own_iload 302 Y53 at_300 rfl rfl ?_
            refine own_iconst 303 Y53 (2 : Int32) at_302 rfl rfl ?_
            refine own_icF 306 Y53 at_303 (XT.ii_lt_f (by decide)) rfl ?_
            refine own_iload 308 Y53 at_306 rfl rfl ?_
            refine own_bipush 310 Y53 (46 : Int32) at_308 rfl rfl ?_
            refine own_icT 320 Y53 at_310 (XT.ii_ne_t dt0) (by decide) ?_
            refine own_iload 322 Y53 at_320 rfl rfl ?_
            refine own_iconst 323 Y53 (3 : Int32) at_322 rfl rfl ?_
            refine own_icF 326 Y53 at_323 (XT.ii_lt_f (by decide)) rfl ?_
            refine own_iload 328 Y53 at_326 rfl rfl ?_
            refine own_bipush 330 Y53 (46 : Int32) at_328 rfl rfl ?_
            refine own_icF 333 Y53 at_330 (XT.ii_ne_f dt1) rfl ?_
            refine own_iload 335 Y53 at_333 rfl rfl ?_
            refine own_bipush 337 Y53 (46 : Int32) at_335 rfl rfl ?_
            refine own_icF 340 Y53 at_337 (XT.ii_eq_f dt2) rfl ?_
            refine own_iload 342 Y53 at_340 rfl rfl ?_
            refine own_iconst 343 Y53 (4 : Int32) at_342 rfl rfl ?_
            refine own_icF 346 Y53 at_343 (XT.ii_lt_f (by decide)) rfl ?_
            refine own_iload 348 Y53 at_346 rfl rfl ?_
            refine own_bipush 350 Y53 (46 : Int32) at_348 rfl rfl ?_
            refine own_icT 360 Y53 at_350 (XT.ii_ne_t dt2) (by decide) ?_
            refine own_iconst 361 Y53 (1 : Int32) at_360 rfl rfl ?_
            refine own_goto 365 Y53 at_361 (by decide) ?_
            refine own_istore 367 Y53 #[.val (.int x0), .val (.int x1), .val (.int x2), .val (.int x3), .val (.int x4), .val (.int (4 : Int32)), .val (.int c0), .val (.int c1), .val (.int c2), .val (.int c3), .val (.ref x), .val (.int rv), .unset, .val (.int (0 : Int32)), .val (.int c3), .val (.int (1 : Int32))] at_365 rfl rfl ?_
            refine own_iload 369 Y53 at_367 rfl rfl ?_
            refine own_ifT 395 Y53 at_369 (XT.i0_eq_t (by decide)) (by decide) ?_
            refine own_iconst 396 Y53 (0 : Int32) at_395 rfl rfl ?_
            refine own_istore 398 Y53 #[.val (.int x0), .val (.int x1), .val (.int x2), .val (.int x3), .val (.int x4), .val (.int (4 : Int32)), .val (.int c0), .val (.int c1), .val (.int c2), .val (.int c3), .val (.ref x), .val (.int rv), .val (.int (0 : Int32)), .val (.int (0 : Int32)), .val (.int c3), .val (.int (1 : Int32))] at_396 rfl rfl ?_
            refine own_iload 400 Y53 at_398 rfl rfl ?_
            refine own_iload 402 Y53 at_400 rfl rfl ?_
            rw [if_neg dt0, if_pos at0, if_pos dt1, if_neg dt2, if_pos at2, if_neg dt3, if_neg at3] at erv
            subst erv
            refine own_icF 405 Y53 at_402 (XT.ii_ne_f (by decide)) rfl ?_
            refine own_iconst 406 Y53 (1 : Int32) at_405 rfl rfl ?_
            refine own_goto 410 Y53 at_406 (by decide) ?_
            exact own_retNW Y53 H (t := .boolean) rfl (by simp) at_410 (by decide) (by decide) ⟨rfl, N⟩
        · rw [if_neg (fun z => z.elim dt2 at2)]
          show own_G p e below _ (T51.setTop (mkF m 233 #[.val (.int x0), .val (.int x1), .val (.int x2), .val (.int x3), .val (.int x4), .val (.int (4 : Int32)), .val (.int c0), .val (.int c1), .val (.int c2), .val (.int c3), .val (.ref x), .val (.int rv), .unset, .unset, .unset, .unset] [(.int (0 : Int32))]))
          refine own_ifT 254 Y51 at_233 (XT.i0_eq_t (by decide)) (by decide) ?_
          refine own_iconst 255 Y51 (0 : Int32) at_254 rfl rfl ?_
          refine own_istore 257 Y51 #[.val (.int x0), .val (.int x1), .val (.int x2), .val (.int x3), .val (.int x4), .val (.int (4 : Int32)), .val (.int c0), .val (.int c1), .val (.int c2), .val (.int c3), .val (.ref x), .val (.int rv), .unset, .val (.int (0 : Int32)), .unset, .unset] at_255 rfl rfl ?_
          refine own_iload 259 Y51 at_257 rfl rfl ?_
          refine own_iconst 260 Y51 (1 : Int32) at_259 rfl rfl ?_
          refine own_icT 270 Y51 at_260 (XT.ii_ne_t (by decide)) (by decide) ?_
          refine own_iload 272 Y51 at_270 rfl rfl ?_
          refine own_iconst 273 Y51 (2 : Int32) at_272 rfl rfl ?_
          refine own_icT 283 Y51 at_273 (XT.ii_ne_t (by decide)) (by decide) ?_
          refine own_iload 285 Y51 at_283 rfl rfl ?_
          refine own_iconst 286 Y51 (3 : Int32) at_285 rfl rfl ?_
          refine own_icT 296 Y51 at_286 (XT.ii_ne_t (by decide)) (by decide) ?_
          refine own_iload 298 Y51 at_296 rfl rfl ?_
          refine own_istore 300 Y51 #[.val (.int x0), .val (.int x1), .val (.int x2), .val (.int x3), .val (.int x4), .val (.int (4 : Int32)), .val (.int c0), .val (.int c1), .val (.int c2), .val (.int c3), .val (.ref x), .val (.int rv), .unset, .val (.int (0 : Int32)), .val (.int c3), .unset] at_298 rfl rfl ?_
          refine own_iload 302 Y51 at_300 rfl rfl ?_
          refine own_iconst 303 Y51 (2 : Int32) at_302 rfl rfl ?_
          refine own_icF 306 Y51 at_303 (XT.ii_lt_f (by decide)) rfl ?_
          refine own_iload 308 Y51 at_306 rfl rfl ?_
          refine own_bipush 310 Y51 (46 : Int32) at_308 rfl rfl ?_
          refine own_icT 320 Y51 at_310 (XT.ii_ne_t dt0) (by decide) ?_
          refine own_iload 322 Y51 at_320 rfl rfl ?_
          refine own_iconst 323 Y51 (3 : Int32) at_322 rfl rfl ?_
          refine own_icF 326 Y51 at_323 (XT.ii_lt_f (by decide)) rfl ?_
          refine own_iload 328 Y51 at_326 rfl rfl ?_
          refine own_bipush 330 Y51 (46 : Int32) at_328 rfl rfl ?_
          refine own_icF 333 Y51 at_330 (XT.ii_ne_f dt1) rfl ?_
          refine own_iload 335 Y51 at_333 rfl rfl ?_
          refine own_bipush 337 Y51 (46 : Int32) at_335 rfl rfl ?_
          refine own_icF 340 Y51 at_337 (XT.ii_eq_f dt2) rfl ?_
          refine own_iload 342 Y51 at_340 rfl rfl ?_
          refine own_iconst 343 Y51 (4 : Int32) at_342 rfl rfl ?_
          refine own_icF 346 Y51 at_343 (XT.ii_lt_f (by decide)) rfl ?_
          refine own_iload 348 Y51 at_346 rfl rfl ?_
          refine own_bipush 350 Y51 (46 : Int32) at_348 rfl rfl ?_
          refine own_icT 360 Y51 at_350 (XT.ii_ne_t dt2) (by decide) ?_
          refine own_iconst 361 Y51 (1 : Int32) at_360 rfl rfl ?_
          refine own_goto 365 Y51 at_361 (by decide) ?_
          refine own_istore 367 Y51 #[.val (.int x0), .val (.int x1), .val (.int x2), .val (.int x3), .val (.int x4), .val (.int (4 : Int32)), .val (.int c0), .val (.int c1), .val (.int c2), .val (.int c3), .val (.ref x), .val (.int rv), .unset, .val (.int (0 : Int32)), .val (.int c3), .val (.int (1 : Int32))] at_365 rfl rfl ?_
          refine own_iload 369 Y51 at_367 rfl rfl ?_
          refine own_ifT 395 Y51 at_369 (XT.i0_eq_t (by decide)) (by decide) ?_
          refine own_iconst 396 Y51 (0 : Int32) at_395 rfl rfl ?_
          refine own_istore 398 Y51 #[.val (.int x0), .val (.int x1), .val (.int x2), .val (.int x3), .val (.int x4), .val (.int (4 : Int32)), .val (.int c0), .val (.int c1), .val (.int c2), .val (.int c3), .val (.ref x), .val (.int rv), .val (.int (0 : Int32)), .val (.int (0 : Int32)), .val (.int c3), .val (.int (1 : Int32))] at_396 rfl rfl ?_
          refine own_iload 400 Y51 at_398 rfl rfl ?_
          refine own_iload 402 Y51 at_400 rfl rfl ?_
          rw [if_neg dt0, if_pos at0, if_pos dt1, if_neg dt2, if_neg at2] at erv
          subst erv
          refine own_icF 405 Y51 at_402 (XT.ii_ne_f (by decide)) rfl ?_
          refine own_iconst 406 Y51 (1 : Int32) at_405 rfl rfl ?_
          refine own_goto 410 Y51 at_406 (by decide) ?_
          exact own_retNW Y51 H (t := .boolean) rfl (by simp) at_410 (by decide) (by decide) ⟨rfl, N⟩
      · rw [if_pos (Or.inr at1)]
        show own_G p e below _ (T50.setTop (mkF m 219 #[.val (.int x0), .val (.int x1), .val (.int x2), .val (.int x3), .val (.int x4), .val (.int (4 : Int32)), .val (.int c0), .val (.int c1), .val (.int c2), .val (.int c3), .val (.ref x), .val (.int rv), .unset, .unset, .unset, .unset] [(.int (1 : Int32))]))
        refine own_ifF 222 Y50 at_219 (XT.i0_eq_f (by decide)) rfl ?_
        refine own_iload 224 Y50 at_222 rfl rfl ?_
        refine own_iconst 225 Y50 (3 : Int32) at_224 rfl rfl ?_
        refine own_icF 228 Y50 at_225 (XT.ii_lt_f (by decide)) rfl ?_
        refine own_iload 230 Y50 at_228 rfl rfl ?_
        refine own_callS 233 Y50 [(.int c2)] [] (own_wd hw 71 rfl) (own_wd hw 72 rfl) (own_wd hw 73 rfl) (own_wd hw 74 rfl) (c_leg l Z a0 hw c2 _) at_230 (by decide) (lenOf pd2 rfl) rfl rfl (by decide) (Nat.le_of_ble_eq_true rfl) (by decide) (by decide) rfl fun v54 T54 h54 L54 Y54 hQ54 => ?_
        obtain ⟨rfl, rfl, rfl⟩ := hQ54
        have N := N.app (Fr.nil n0)
        rcases own_cls c2 with dt2 | ⟨dt2, at2⟩ | ⟨dt2, at2⟩
        · rw [if_pos (Or.inl dt2)]
          show own_G p e below _ (T54.setTop (mkF m 233 #[.val (.int x0), .val (.int x1), .val (.int x2), .val (.int x3), .val (.int x4), .val (.int (4 : Int32)), .val (.int c0), .val (.int c1), .val (.int c2), .val (.int c3), .val (.ref x), .val (.int rv), .unset, .unset, .unset, .unset] [(.int (1 : Int32))]))
          refine own_ifF 236 Y54 at_233 (XT.i0_eq_f (by decide)) rfl ?_
          refine own_iload 238 Y54 at_236 rfl rfl ?_
          refine own_iconst 239 Y54 (4 : Int32) at_238 rfl rfl ?_
          refine own_icF 242 Y54 at_239 (XT.ii_lt_f (by decide)) rfl ?_
          refine own_iload 244 Y54 at_242 rfl rfl ?_
          refine own_callS 247 Y54 [(.int c3)] [] (own_wd hw 71 rfl) (own_wd hw 72 rfl) (own_wd hw 73 rfl) (own_wd hw 74 rfl) (c_leg l Z a0 hw c3 _) at_244 (by decide) (lenOf pd2 rfl) rfl rfl (by decide) (Nat.le_of_ble_eq_true rfl) (by decide) (by decide) rfl fun v55 T55 h55 L55 Y55 hQ55 => ?_
          obtain ⟨rfl, rfl, rfl⟩ := hQ55
          have N := N.app (Fr.nil n0)
          rcases own_cls c3 with dt3 | ⟨dt3, at3⟩ | ⟨dt3, at3⟩
          · rw [if_pos (Or.inl dt3)]
            show own_G p e below _ (T55.setTop (mkF m 247 #[.val (.int x0), .val (.int x1), .val (.int x2), .val (.int x3), .val (.int x4), .val (.int (4 : Int32)), .val (.int c0), .val (.int c1), .val (.int c2), .val (.int c3), .val (.ref x), .val (.int rv), .unset, .unset, .unset, .unset] [(.int (1 : Int32))]))
            refine own_ifF 250 Y55 at_247 (XT.i0_eq_f (by decide)) rfl ?_
            refine own_iconst 251 Y55 (1 : Int32) at_250 rfl rfl ?_
            refine own_goto 255 Y55 at_251 (by decide) ?_
            refine own_istore 257 Y55 #[.val (.int x0), .val (.int x1), .val (.int x2), .val (.int x3), .val (.int x4), .val (.int (4 : Int32)), .val (.int c0), .val (.int c1), .val (.int c2), .val (.int c3), .val (.ref x), .val (.int rv), .unset, .val (.int (1 : Int32)), .unset, .unset] at_255 rfl rfl ?_
            refine own_iload 259 Y55 at_257 rfl rfl ?_
            refine own_iconst 260 Y55 (1 : Int32) at_259 rfl rfl ?_
            refine own_icT 270 Y55 at_260 (XT.ii_ne_t (by decide)) (by decide) ?_
            refine own_iload 272 Y55 at_270 rfl rfl ?_
            refine own_iconst 273 Y55 (2 : Int32) at_272 rfl rfl ?_
            refine own_icT 283 Y55 at_273 (XT.ii_ne_t (by decide)) (by decide) ?_
            refine own_iload 285 Y55 at_283 rfl rfl ?_
            refine own_iconst 286 Y55 (3 : Int32) at_285 rfl rfl ?_
            refine own_icT 296 Y55 at_286 (XT.ii_ne_t (by decide)) (by decide) ?_
            refine own_iload 298 Y55 at_296 rfl rfl ?_
            refine own_istore 300 Y55 #[.val (.int x0), .val (.int x1), .val (.int x2), .val (.int x3), .val (.int x4), .val (.int (4 : Int32)), .val (.int c0), .val (.int c1), .val (.int c2), .val (.int c3), .val (.ref x), .val (.int rv), .unset, .val (.int (1 : Int32)), .val (.int c3), .unset] at_298 rfl rfl ?_
            refine own_iload 302 Y55 at_300 rfl rfl ?_
            refine own_iconst 303 Y55 (2 : Int32) at_302 rfl rfl ?_
            refine own_icF 306 Y55 at_303 (XT.ii_lt_f (by decide)) rfl ?_
            refine own_iload 308 Y55 at_306 rfl rfl ?_
            refine own_bipush 310 Y55 (46 : Int32) at_308 rfl rfl ?_
            refine own_icT 320 Y55 at_310 (XT.ii_ne_t dt0) (by decide) ?_
            refine own_iload 322 Y55 at_320 rfl rfl ?_
            refine own_iconst 323 Y55 (3 : Int32) at_322 rfl rfl ?_
            refine own_icF 326 Y55 at_323 (XT.ii_lt_f (by decide)) rfl ?_
            refine own_iload 328 Y55 at_326 rfl rfl ?_
            refine own_bipush 330 Y55 (46 : Int32) at_328 rfl rfl ?_
            refine own_icT 340 Y55 at_330 (XT.ii_ne_t dt1) (by decide) ?_
            refine own_iload 342 Y55 at_340 rfl rfl ?_
            refine own_iconst 343 Y55 (4 : Int32) at_342 rfl rfl ?_
            refine own_icF 346 Y55 at_343 (XT.ii_lt_f (by decide)) rfl ?_
            refine own_iload 348 Y55 at_346 rfl rfl ?_
            refine own_bipush 350 Y55 (46 : Int32) at_348 rfl rfl ?_
            refine own_icF 353 Y55 at_350 (XT.ii_ne_f dt2) rfl ?_
            refine own_iload 355 Y55 at_353 rfl rfl ?_
            refine own_bipush 357 Y55 (46 : Int32) at_355 rfl rfl ?_
            refine own_icT 364 Y55 at_357 (XT.ii_eq_t dt3) (by decide) ?_
            refine own_iconst 365 Y55 (0 : Int32) at_364 rfl rfl ?_
            refine own_istore 367 Y55 #[.val (.int x0), .val (.int x1), .val (.int x2), .val (.int x3), .val (.int x4), .val (.int (4 : Int32)), .val (.int c0), .val (.int c1), .val (.int c2), .val (.int c3), .val (.ref x), .val (.int rv), .unset, .val (.int (1 : Int32)), .val (.int c3), .val (.int (0 : Int32))] at_365 rfl rfl ?_
            refine own_iload 369 Y55 at_367 rfl rfl ?_
            refine own_ifF 372 Y55 at_369 (XT.i0_eq_f (by decide)) rfl ?_
            refine own_iload 374 Y55 at_372 rfl rfl ?_
            refine own_bipush 376 Y55 (46 : Int32) at_374 rfl rfl ?_
            refine own_icF 379 Y55 at_376 (XT.ii_eq_f dt0) rfl ?_
            refine own_iload 381 Y55 at_379 rfl rfl ?_
            refine own_bipush 383 Y55 (46 : Int32) at_381 rfl rfl ?_
            refine own_icT 395 Y55 at_383 (XT.ii_eq_t dt3) (by decide) ?_
            refine own_iconst 396 Y55 (0 : Int32) at_395 rfl rfl ?_
            refine own_istore 398 Y55 #[.val (.int x0), .val (.int x1), .val (.int x2), .val (.int x3), .val (.int x4), .val (.int (4 : Int32)), .val (.int c0), .val (.int c1), .val (.int c2), .val (.int c3), .val (.ref x), .val (.int rv), .val (.int (0 : Int32)), .val (.int (1 : Int32)), .val (.int c3), .val (.int (0 : Int32))] at_396 rfl rfl ?_
            refine own_iload 400 Y55 at_398 rfl rfl ?_
            refine own_iload 402 Y55 at_400 rfl rfl ?_
            rw [if_neg dt0, if_pos at0, if_neg dt1, if_pos at1, if_pos dt2, if_pos dt3] at erv
            subst erv
            refine own_icF 405 Y55 at_402 (XT.ii_ne_f (by decide)) rfl ?_
            refine own_iconst 406 Y55 (1 : Int32) at_405 rfl rfl ?_
            refine own_goto 410 Y55 at_406 (by decide) ?_
            exact own_retNW Y55 H (t := .boolean) rfl (by simp) at_410 (by decide) (by decide) ⟨rfl, N⟩
          · rw [if_pos (Or.inr at3)]
            show own_G p e below _ (T55.setTop (mkF m 247 #[.val (.int x0), .val (.int x1), .val (.int x2), .val (.int x3), .val (.int x4), .val (.int (4 : Int32)), .val (.int c0), .val (.int c1), .val (.int c2), .val (.int c3), .val (.ref x), .val (.int rv), .unset, .unset, .unset, .unset] [(.int (1 : Int32))]))
            refine own_ifF 250 Y55 at_247 (XT.i0_eq_f (by decide)) rfl ?_
            refine own_iconst 251 Y55 (1 : Int32) at_250 rfl rfl ?_
            refine own_goto 255 Y55 at_251 (by decide) ?_
            refine own_istore 257 Y55 #[.val (.int x0), .val (.int x1), .val (.int x2), .val (.int x3), .val (.int x4), .val (.int (4 : Int32)), .val (.int c0), .val (.int c1), .val (.int c2), .val (.int c3), .val (.ref x), .val (.int rv), .unset, .val (.int (1 : Int32)), .unset, .unset] at_255 rfl rfl ?_
            refine own_iload 259 Y55 at_257 rfl rfl ?_
            refine own_iconst 260 Y55 (1 : Int32) at_259 rfl rfl ?_
            refine own_icT 270 Y55 at_260 (XT.ii_ne_t (by decide)) (by decide) ?_
            refine own_iload 272 Y55 at_270 rfl rfl ?_
            refine own_iconst 273 Y55 (2 : Int32) at_272 rfl rfl ?_
            refine own_icT 283 Y55 at_273 (XT.ii_ne_t (by decide)) (by decide) ?_
            refine own_iload 285 Y55 at_283 rfl rfl ?_
            refine own_iconst 286 Y55 (3 : Int32) at_285 rfl rfl ?_
            refine own_icT 296 Y55 at_286 (XT.ii_ne_t (by decide)) (by decide) ?_
            refine own_iload 298 Y55 at_296 rfl rfl ?_
            refine own_istore 300 Y55 #[.val (.int x0), .val (.int x1), .val (.int x2), .val (.int x3), .val (.int x4), .val (.int (4 : Int32)), .val (.int c0), .val (.int c1), .val (.int c2), .val (.int c3), .val (.ref x), .val (.int rv), .unset, .val (.int (1 : Int32)), .val (.int c3), .unset] at_298 rfl rfl ?_
            refine own_iload 302 Y55 at_300 rfl rfl ?_
            refine own_iconst 303 Y55 (2 : Int32) at_302 rfl rfl ?_
            refine own_icF 306 Y55 at_303 (XT.ii_lt_f (by decide)) rfl ?_
            refine own_iload 308 Y55 at_306 rfl rfl ?_
            refine own_bipush 310 Y55 (46 : Int32) at_308 rfl rfl ?_
            refine own_icT 320 Y55 at_310 (XT.ii_ne_t dt0) (by decide) ?_
            refine own_iload 322 Y55 at_320 rfl rfl ?_
            refine own_iconst 323 Y55 (3 : Int32) at_322 rfl rfl ?_
            refine own_icF 326 Y55 at_323 (XT.ii_lt_f (by decide)) rfl ?_
            refine own_iload 328 Y55 at_326 rfl rfl ?_
            refine own_bipush 330 Y55 (46 : Int32) at_328 rfl rfl ?_
            refine own_icT 340 Y55 at_330 (XT.ii_ne_t dt1) (by decide) ?_
            refine own_iload 342 Y55 at_340 rfl rfl ?_
            refine own_iconst 343 Y55 (4 : Int32) at_342 rfl rfl ?_
            refine own_icF 346 Y55 at_343 (XT.ii_lt_f (by decide)) rfl ?_
            refine own_iload 348 Y55 at_346 rfl rfl ?_
            refine own_bipush 350 Y55 (46 : Int32) at_348 rfl rfl ?_
            refine own_icF 353 Y55 at_350 (XT.ii_ne_f dt2) rfl ?_
            refine own_iload 355 Y55 at_353 rfl rfl ?_
            refine own_bipush 357 Y55 (46 : Int32) at_355 rfl rfl ?_
            refine own_icF 360 Y55 at_357 (XT.ii_eq_f dt3) rfl ?_
            refine own_iconst 361 Y55 (1 : Int32) at_360 rfl rfl ?_
            refine own_goto 365 Y55 at_361 (by decide) ?_
            refine own_istore 367 Y55 #[.val (.int x0), .val (.int x1), .val (.int x2), .val (.int x3), .val (.int x4), .val (.int (4 : Int32)), .val (.int c0), .val (.int c1), .val (.int c2), .val (.int c3), .val (.ref x), .val (.int rv), .unset, .val (.int (1 : Int32)), .val (.int c3), .val (.int (1 : Int32))] at_365 rfl rfl ?_
            refine own_iload 369 Y55 at_367 rfl rfl ?_
            refine own_ifF 372 Y55 at_369 (XT.i0_eq_f (by decide)) rfl ?_
            refine own_iload 374 Y55 at_372 rfl rfl ?_
            refine own_bipush 376 Y55 (46 : Int32) at_374 rfl rfl ?_
            refine own_icF 379 Y55 at_376 (XT.ii_eq_f dt0) rfl ?_
            refine own_iload 381 Y55 at_379 rfl rfl ?_
            refine own_bipush 383 Y55 (46 : Int32) at_381 rfl rfl ?_
            refine own_icF 386 Y55 at_383 (XT.ii_eq_f dt3) rfl ?_
            refine own_iload 388 Y55 at_386 rfl rfl ?_
            refine own_ifF 391 Y55 at_388 (XT.i0_eq_f (by decide)) rfl ?_
            refine own_iconst 392 Y55 (1 : Int32) at_391 rfl rfl ?_
            refine own_goto 396 Y55 at_392 (by decide) ?_
            refine own_istore 398 Y55 #[.val (.int x0), .val (.int x1), .val (.int x2), .val (.int x3), .val (.int x4), .val (.int (4 : Int32)), .val (.int c0), .val (.int c1), .val (.int c2), .val (.int c3), .val (.ref x), .val (.int rv), .val (.int (1 : Int32)), .val (.int (1 : Int32)), .val (.int c3), .val (.int (1 : Int32))] at_396 rfl rfl ?_
            refine own_iload 400 Y55 at_398 rfl rfl ?_
            refine own_iload 402 Y55 at_400 rfl rfl ?_
            rw [if_neg dt0, if_pos at0, if_neg dt1, if_pos at1, if_pos dt2, if_neg dt3, if_pos at3] at erv
            subst erv
            refine own_icF 405 Y55 at_402 (XT.ii_ne_f (by decide)) rfl ?_
            refine own_iconst 406 Y55 (1 : Int32) at_405 rfl rfl ?_
            refine own_goto 410 Y55 at_406 (by decide) ?_
            exact own_retNW Y55 H (t := .boolean) rfl (by simp) at_410 (by decide) (by decide) ⟨rfl, N⟩
          · rw [if_neg (fun z => z.elim dt3 at3)]
            show own_G p e below _ (T55.setTop (mkF m 247 #[.val (.int x0), .val (.int x1), .val (.int x2), .val (.int x3), .val (.int x4), .val (.int (4 : Int32)), .val (.int c0), .val (.int c1), .val (.int c2), .val (.int c3), .val (.ref x), .val (.int rv), .unset, .unset, .unset, .unset] [(.int (0 : Int32))]))
            refine own_ifT 254 Y55 at_247 (XT.i0_eq_t (by decide)) (by decide) ?_
            refine own_iconst 255 Y55 (0 : Int32) at_254 rfl rfl ?_
            refine own_istore 257 Y55 #[.val (.int x0), .val (.int x1), .val (.int x2), .val (.int x3), .val (.int x4), .val (.int (4 : Int32)), .val (.int c0), .val (.int c1), .val (.int c2), .val (.int c3), .val (.ref x), .val (.int rv), .unset, .val (.int (0 : Int32)), .unset, .unset] at_255 rfl rfl ?_
            refine own_iload 259 Y55 at_257 rfl rfl ?_
            refine own_iconst 260 Y55 (1 : Int32) at_259 rfl rfl ?_
            refine own_icT 270 Y55 at_260 (XT.ii_ne_t (by decide)) (by decide) ?_
            refine own_iload 272 Y55 at_270 rfl rfl ?_
            refine own_iconst 273 Y55 (2 : Int32) at_272 rfl rfl ?_
            refine own_icT 283 Y55 at_273 (XT.ii_ne_t (by decide)) (by decide) ?_
            refine own_iload 285 Y55 at_283 rfl rfl ?_
            refine own_iconst 286 Y55 (3 : Int32) at_285 rfl rfl ?_
            refine own_icT 296 Y55 at_286 (XT.ii_ne_t (by decide)) (by decide) ?_
            refine own_iload 298 Y55 at_296 rfl rfl ?_
            refine own_istore 300 Y55 #[.val (.int x0), .val (.int x1), .val (.int x2), .val (.int x3), .val (.int x4), .val (.int (4 : Int32)), .val (.int c0), .val (.int c1), .val (.int c2), .val (.int c3), .val (.ref x), .val (.int rv), .unset, .val (.int (0 : Int32)), .val (.int c3), .unset] at_298 rfl rfl ?_
            refine own_iload 302 Y55 at_300 rfl rfl ?_
            refine own_iconst 303 Y55 (2 : Int32) at_302 rfl rfl ?_
            refine own_icF 306 Y55 at_303 (XT.ii_lt_f (by decide)) rfl ?_
            refine own_iload 308 Y55 at_306 rfl rfl ?_
            refine own_bipush 310 Y55 (46 : Int32) at_308 rfl rfl ?_
            refine own_icT 320 Y55 at_310 (XT.ii_ne_t dt0) (by decide) ?_
            refine own_iload 322 Y55 at_320 rfl rfl ?_
            refine own_iconst 323 Y55 (3 : Int32) at_322 rfl rfl ?_
            refine own_icF 326 Y55 at_323 (XT.ii_lt_f (by decide)) rfl ?_
            refine own_iload 328 Y55 at_326 rfl rfl ?_
            refine own_bipush 330 Y55 (46 : Int32) at_328 rfl rfl ?_
            refine own_icT 340 Y55 at_330 (XT.ii_ne_t dt1) (by decide) ?_
            refine own_iload 342 Y55 at_340 rfl rfl ?_
            refine own_iconst 343 Y55 (4 : Int32) at_342 rfl rfl ?_
            refine own_icF 346 Y55 at_343 (XT.ii_lt_f (by decide)) rfl ?_
            refine own_iload 348 Y55 at_346 rfl rfl ?_
            refine own_bipush 350 Y55 (46 : Int32) at_348 rfl rfl ?_
            refine own_icF 353 Y55 at_350 (XT.ii_ne_f dt2) rfl ?_
            refine own_iload 355 Y55 at_353 rfl rfl ?_
            refine own_bipush 357 Y55 (46 : Int32) at_355 rfl rfl ?_
            refine own_icF 360 Y55 at_357 (XT.ii_eq_f dt3) rfl ?_
            refine own_iconst 361 Y55 (1 : Int32) at_360 rfl rfl ?_
            refine own_goto 365 Y55 at_361 (by decide) ?_
            refine own_istore 367 Y55 #[.val (.int x0), .val (.int x1), .val (.int x2), .val (.int x3), .val (.int x4), .val (.int (4 : Int32)), .val (.int c0), .val (.int c1), .val (.int c2), .val (.int c3), .val (.ref x), .val (.int rv), .unset, .val (.int (0 : Int32)), .val (.int c3), .val (.int (1 : Int32))] at_365 rfl rfl ?_
            refine own_iload 369 Y55 at_367 rfl rfl ?_
            refine own_ifT 395 Y55 at_369 (XT.i0_eq_t (by decide)) (by decide) ?_
            refine own_iconst 396 Y55 (0 : Int32) at_395 rfl rfl ?_
            refine own_istore 398 Y55 #[.val (.int x0), .val (.int x1), .val (.int x2), .val (.int x3), .val (.int x4), .val (.int (4 : Int32)), .val (.int c0), .val (.int c1), .val (.int c2), .val (.int c3), .val (.ref x), .val (.int rv), .val (.int (0 : Int32)), .val (.int (0 : Int32)), .val (.int c3), .val (.int (1 : Int32))] at_396 rfl rfl ?_
            refine own_iload 400 Y55 at_398 rfl rfl ?_
            refine own_iload 402 Y55 at_400 rfl rfl ?_
            rw [if_neg dt0, if_pos at0, if_neg dt1, if_pos at1, if_pos dt2, if_neg dt3, if_neg at3] at erv
            subst erv
            refine own_icF 405 Y55 at_402 (XT.ii_ne_f (by decide)) rfl ?_
            refine own_iconst 406 Y55 (1 : Int32) at_405 rfl rfl ?_
            refine own_goto 410 Y55 at_406 (by decide) ?_
            exact own_retNW Y55 H (t := .boolean) rfl (by simp) at_410 (by decide) (by decide) ⟨rfl, N⟩
        · rw [if_pos (Or.inr at2)]
          show own_G p e below _ (T54.setTop (mkF m 233 #[.val (.int x0), .val (.int x1), .val (.int x2), .val (.int x3), .val (.int x4), .val (.int (4 : Int32)), .val (.int c0), .val (.int c1), .val (.int c2), .val (.int c3), .val (.ref x), .val (.int rv), .unset, .unset, .unset, .unset] [(.int (1 : Int32))]))
          refine own_ifF 236 Y54 at_233 (XT.i0_eq_f (by decide)) rfl ?_
          refine own_iload 238 Y54 at_236 rfl rfl ?_
          refine own_iconst 239 Y54 (4 : Int32) at_238 rfl rfl ?_
          refine own_icF 242 Y54 at_239 (XT.ii_lt_f (by decide)) rfl ?_
          refine own_iload 244 Y54 at_242 rfl rfl ?_
          refine own_callS 247 Y54 [(.int c3)] [] (own_wd hw 71 rfl) (own_wd hw 72 rfl) (own_wd hw 73 rfl) (own_wd hw 74 rfl) (c_leg l Z a0 hw c3 _) at_244 (by decide) (lenOf pd2 rfl) rfl rfl (by decide) (Nat.le_of_ble_eq_true rfl) (by decide) (by decide) rfl fun v56 T56 h56 L56 Y56 hQ56 => ?_
          obtain ⟨rfl, rfl, rfl⟩ := hQ56
          have N := N.app (Fr.nil n0)
          rcases own_cls c3 with dt3 | ⟨dt3, at3⟩ | ⟨dt3, at3⟩
          · rw [if_pos (Or.inl dt3)]
            show own_G p e below _ (T56.setTop (mkF m 247 #[.val (.int x0), .val (.int x1), .val (.int x2), .val (.int x3), .val (.int x4), .val (.int (4 : Int32)), .val (.int c0), .val (.int c1), .val (.int c2), .val (.int c3), .val (.ref x), .val (.int rv), .unset, .unset, .unset, .unset] [(.int (1 : Int32))]))
            refine own_ifF 250 Y56 at_247 (XT.i0_eq_f (by decide)) rfl ?_
            refine own_iconst 251 Y56 (1 : Int32) at_250 rfl rfl ?_
            refine own_goto 255 Y56 at_251 (by decide) ?_
            refine own_istore 257 Y56 #[.val (.int x0), .val (.int x1), .val (.int x2), .val (.int x3), .val (.int x4), .val (.int (4 : Int32)), .val (.int c0), .val (.int c1), .val (.int c2), .val (.int c3), .val (.ref x), .val (.int rv), .unset, .val (.int (1 : Int32)), .unset, .unset] at_255 rfl rfl ?_
            refine own_iload 259 Y56 at_257 rfl rfl ?_
            refine own_iconst 260 Y56 (1 : Int32) at_259 rfl rfl ?_
            refine own_icT 270 Y56 at_260 (XT.ii_ne_t (by decide)) (by decide) ?_
            refine own_iload 272 Y56 at_270 rfl rfl ?_
            refine own_iconst 273 Y56 (2 : Int32) at_272 rfl rfl ?_
            refine own_icT 283 Y56 at_273 (XT.ii_ne_t (by decide)) (by decide) ?_
            refine own_iload 285 Y56 at_283 rfl rfl ?_
            refine own_iconst 286 Y56 (3 : Int32) at_285 rfl rfl ?_
            refine own_icT 296 Y56 at_286 (XT.ii_ne_t (by decide)) (by decide) ?_
            refine own_iload 298 Y56 at_296 rfl rfl ?_
            refine own_istore 300 Y56 #[.val (.int x0), .val (.int x1), .val (.int x2), .val (.int x3), .val (.int x4), .val (.int (4 : Int32)), .val (.int c0), .val (.int c1), .val (.int c2), .val (.int c3), .val (.ref x), .val (.int rv), .unset, .val (.int (1 : Int32)), .val (.int c3), .unset] at_298 rfl rfl ?_
            refine own_iload 302 Y56 at_300 rfl rfl ?_
            refine own_iconst 303 Y56 (2 : Int32) at_302 rfl rfl ?_
            refine own_icF 306 Y56 at_303 (XT.ii_lt_f (by decide)) rfl ?_
            refine own_iload 308 Y56 at_306 rfl rfl ?_
            refine own_bipush 310 Y56 (46 : Int32) at_308 rfl rfl ?_
            refine own_icT 320 Y56 at_310 (XT.ii_ne_t dt0) (by decide) ?_
            refine own_iload 322 Y56 at_320 rfl rfl ?_
            refine own_iconst 323 Y56 (3 : Int32) at_322 rfl rfl ?_
            refine own_icF 326 Y56 at_323 (XT.ii_lt_f (by decide)) rfl ?_
            refine own_iload 328 Y56 at_326 rfl rfl ?_
            refine own_bipush 330 Y56 (46 : Int32) at_328 rfl rfl ?_
            refine own_icT 340 Y56 at_330 (XT.ii_ne_t dt1) (by decide) ?_
            refine own_iload 342 Y56 at_340 rfl rfl ?_
            refine own_iconst 343 Y56 (4 : Int32) at_342 rfl rfl ?_
            refine own_icF 346 Y56 at_343 (XT.ii_lt_f (by decide)) rfl ?_
            refine own_iload 348 Y56 at_346 rfl rfl ?_
            refine own_bipush 350 Y56 (46 : Int32) at_348 rfl rfl ?_
            refine own_icT 360 Y56 at_350 (XT.ii_ne_t dt2) (by decide) ?_
            refine own_iconst 361 Y56 (1 : Int32) at_360 rfl rfl ?_
            refine own_goto 365 Y56 at_361 (by decide) ?_
            refine own_istore 367 Y56 #[.val (.int x0), .val (.int x1), .val (.int x2), .val (.int x3), .val (.int x4), .val (.int (4 : Int32)), .val (.int c0), .val (.int c1), .val (.int c2), .val (.int c3), .val (.ref x), .val (.int rv), .unset, .val (.int (1 : Int32)), .val (.int c3), .val (.int (1 : Int32))] at_365 rfl rfl ?_
            refine own_iload 369 Y56 at_367 rfl rfl ?_
            refine own_ifF 372 Y56 at_369 (XT.i0_eq_f (by decide)) rfl ?_
            refine own_iload 374 Y56 at_372 rfl rfl ?_
            refine own_bipush 376 Y56 (46 : Int32) at_374 rfl rfl ?_
            refine own_icF 379 Y56 at_376 (XT.ii_eq_f dt0) rfl ?_
            refine own_iload 381 Y56 at_379 rfl rfl ?_
            refine own_bipush 383 Y56 (46 : Int32) at_381 rfl rfl ?_
            refine own_icT 395 Y56 at_383 (XT.ii_eq_t dt3) (by decide) ?_
            refine own_iconst 396 Y56 (0 : Int32) at_395 rfl rfl ?_
            refine own_istore 398 Y56 #[.val (.int x0), .val (.int x1), .val (.int x2), .val (.int x3), .val (.int x4), .val (.int (4 : Int32)), .val (.int c0), .val (.int c1), .val (.int c2), .val (.int c3), .val (.ref x), .val (.int rv), .val (.int (0 : Int32)), .val (.int (1 : Int32)), .val (.int c3), .val (.int (1 : Int32))] at_396 rfl rfl ?_
            refine own_iload 400 Y56 at_398 rfl rfl ?_
            refine own_iload 402 Y56 at_400 rfl rfl ?_
            rw [if_neg dt0, if_pos at0, if_neg dt1, if_pos at1, if_neg dt2, if_pos at2, if_pos dt3] at erv
            subst erv
            refine own_icF 405 Y56 at_402 (XT.ii_ne_f (by decide)) rfl ?_
            refine own_iconst 406 Y56 (1 : Int32) at_405 rfl rfl ?_
            refine own_goto 410 Y56 at_406 (by decide) ?_
            exact own_retNW Y56 H (t := .boolean) rfl (by simp) at_410 (by decide) (by decide) ⟨rfl, N⟩
          · rw [if_pos (Or.inr at3)]
            show own_G p e below _ (T56.setTop (mkF m 247 #[.val (.int x0), .val (.int x1), .val (.int x2), .val (.int x3), .val (.int x4), .val (.int (4 : Int32)), .val (.int c0), .val (.int c1), .val (.int c2), .val (.int c3), .val (.ref x), .val (.int rv), .unset, .unset, .unset, .unset] [(.int (1 : Int32))]))
            refine own_ifF 250 Y56 at_247 (XT.i0_eq_f (by decide)) rfl ?_
            refine own_iconst 251 Y56 (1 : Int32) at_250 rfl rfl ?_
            refine own_goto 255 Y56 at_251 (by decide) ?_
            refine own_istore 257 Y56 #[.val (.int x0), .val (.int x1), .val (.int x2), .val (.int x3), .val (.int x4), .val (.int (4 : Int32)), .val (.int c0), .val (.int c1), .val (.int c2), .val (.int c3), .val (.ref x), .val (.int rv), .unset, .val (.int (1 : Int32)), .unset, .unset] at_255 rfl rfl ?_
            refine own_iload 259 Y56 at_257 rfl rfl ?_
            refine own_iconst 260 Y56 (1 : Int32) at_259 rfl rfl ?_
            refine own_icT 270 Y56 at_260 (XT.ii_ne_t (by decide)) (by decide) ?_
            refine own_iload 272 Y56 at_270 rfl rfl ?_
            refine own_iconst 273 Y56 (2 : Int32) at_272 rfl rfl ?_
            refine own_icT 283 Y56 at_273 (XT.ii_ne_t (by decide)) (by decide) ?_
            refine own_iload 285 Y56 at_283 rfl rfl ?_
            refine own_iconst 286 Y56 (3 : Int32) at_285 rfl rfl ?_
            refine own_icT 296 Y56 at_286 (XT.ii_ne_t (by decide)) (by decide) ?_
            refine own_iload 298 Y56 at_296 rfl rfl ?_
            refine own_istore 300 Y56 #[.val (.int x0), .val (.int x1), .val (.int x2), .val (.int x3), .val (.int x4), .val (.int (4 : Int32)), .val (.int c0), .val (.int c1), .val (.int c2), .val (.int c3), .val (.ref x), .val (.int rv), .unset, .val (.int (1 : Int32)), .val (.int c3), .unset] at_298 rfl rfl ?_
            refine own_iload 302 Y56 at_300 rfl rfl ?_
            refine own_iconst 303 Y56 (2 : Int32) at_302 rfl rfl ?_
            refine own_icF 306 Y56 at_303 (XT.ii_lt_f (by decide)) rfl ?_
            refine own_iload 308 Y56 at_306 rfl rfl ?_
            refine own_bipush 310 Y56 (46 : Int32) at_308 rfl rfl ?_
            refine own_icT 320 Y56 at_310 (XT.ii_ne_t dt0) (by decide) ?_
            refine own_iload 322 Y56 at_320 rfl rfl ?_
            refine own_iconst 323 Y56 (3 : Int32) at_322 rfl rfl ?_
            refine own_icF 326 Y56 at_323 (XT.ii_lt_f (by decide)) rfl ?_
            refine own_iload 328 Y56 at_326 rfl rfl ?_
            refine own_bipush 330 Y56 (46 : Int32) at_328 rfl rfl ?_
            refine own_icT 340 Y56 at_330 (XT.ii_ne_t dt1) (by decide) ?_
            refine own_iload 342 Y56 at_340 rfl rfl ?_
            refine own_iconst 343 Y56 (4 : Int32) at_342 rfl rfl ?_
            refine own_icF 346 Y56 at_343 (XT.ii_lt_f (by decide)) rfl ?_
            refine own_iload 348 Y56 at_346 rfl rfl ?_
            refine own_bipush 350 Y56 (46 : Int32) at_348 rfl rfl ?_
            refine own_icT 360 Y56 at_350 (XT.ii_ne_t dt2) (by decide) ?_
            refine own_iconst 361 Y56 (1 : Int32) at_360 rfl rfl ?_
            refine own_goto 365 Y56 at_361 (by decide) ?_
            refine own_istore 367 Y56 #[.val (.int x0), .val (.int x1), .val (.int x2), .val (.int x3), .val (.int x4), .val (.int (4 : Int32)), .val (.int c0), .val (.int c1), .val (.int c2), .val (.int c3), .val (.ref x), .val (.int rv), .unset, .val (.int (1 : Int32)), .val (.int c3), .val (.int (1 : Int32))] at_365 rfl rfl ?_
            refine own_iload 369 Y56 at_367 rfl rfl ?_
            refine own_ifF 372 Y56 at_369 (XT.i0_eq_f (by decide)) rfl ?_
            refine own_iload 374 Y56 at_372 rfl rfl ?_
            refine own_bipush 376 Y56 (46 : Int32) at_374 rfl rfl ?_
            refine own_icF 379 Y56 at_376 (XT.ii_eq_f dt0) rfl ?_
            refine own_iload 381 Y56 at_379 rfl rfl ?_
            refine own_bipush 383 Y56 (46 : Int32) at_381 rfl rfl ?_
            refine own_icF 386 Y56 at_383 (XT.ii_eq_f dt3) rfl ?_
            refine own_iload 388 Y56 at_386 rfl rfl ?_
            refine own_ifF 391 Y56 at_388 (XT.i0_eq_f (by decide)) rfl ?_
            refine own_iconst 392 Y56 (1 : Int32) at_391 rfl rfl ?_
            refine own_goto 396 Y56 at_392 (by decide) ?_
            refine own_istore 398 Y56 #[.val (.int x0), .val (.int x1), .val (.int x2), .val (.int x3), .val (.int x4), .val (.int (4 : Int32)), .val (.int c0), .val (.int c1), .val (.int c2), .val (.int c3), .val (.ref x), .val (.int rv), .val (.int (1 : Int32)), .val (.int (1 : Int32)), .val (.int c3), .val (.int (1 : Int32))] at_396 rfl rfl ?_
            refine own_iload 400 Y56 at_398 rfl rfl ?_
            refine own_iload 402 Y56 at_400 rfl rfl ?_
            rw [if_neg dt0, if_pos at0, if_neg dt1, if_pos at1, if_neg dt2, if_pos at2, if_neg dt3, if_pos at3] at erv
            subst erv
            refine own_icF 405 Y56 at_402 (XT.ii_ne_f (by decide)) rfl ?_
            refine own_iconst 406 Y56 (1 : Int32) at_405 rfl rfl ?_
            refine own_goto 410 Y56 at_406 (by decide) ?_
            exact own_retNW Y56 H (t := .boolean) rfl (by simp) at_410 (by decide) (by decide) ⟨rfl, N⟩
          · rw [if_neg (fun z => z.elim dt3 at3)]
            show own_G p e below _ (T56.setTop (mkF m 247 #[.val (.int x0), .val (.int x1), .val (.int x2), .val (.int x3), .val (.int x4), .val (.int (4 : Int32)), .val (.int c0), .val (.int c1), .val (.int c2), .val (.int c3), .val (.ref x), .val (.int rv), .unset, .unset, .unset, .unset] [(.int (0 : Int32))]))
            refine own_ifT 254 Y56 at_247 (XT.i0_eq_t (by decide)) (by decide) ?_
            refine own_iconst 255 Y56 (0 : Int32) at_254 rfl rfl ?_
            refine own_istore 257 Y56 #[.val (.int x0), .val (.int x1), .val (.int x2), .val (.int x3), .val (.int x4), .val (.int (4 : Int32)), .val (.int c0), .val (.int c1), .val (.int c2), .val (.int c3), .val (.ref x), .val (.int rv), .unset, .val (.int (0 : Int32)), .unset, .unset] at_255 rfl rfl ?_
            refine own_iload 259 Y56 at_257 rfl rfl ?_
            refine own_iconst 260 Y56 (1 : Int32) at_259 rfl rfl ?_
            refine own_icT 270 Y56 at_260 (XT.ii_ne_t (by decide)) (by decide) ?_
            refine own_iload 272 Y56 at_270 rfl rfl ?_
            refine own_iconst 273 Y56 (2 : Int32) at_272 rfl rfl ?_
            refine own_icT 283 Y56 at_273 (XT.ii_ne_t (by decide)) (by decide) ?_
            refine own_iload 285 Y56 at_283 rfl rfl ?_
            refine own_iconst 286 Y56 (3 : Int32) at_285 rfl rfl ?_
            refine own_icT 296 Y56 at_286 (XT.ii_ne_t (by decide)) (by decide) ?_
            refine own_iload 298 Y56 at_296 rfl rfl ?_
            refine own_istore 300 Y56 #[.val (.int x0), .val (.int x1), .val (.int x2), .val (.int x3), .val (.int x4), .val (.int (4 : Int32)), .val (.int c0), .val (.int c1), .val (.int c2), .val (.int c3), .val (.ref x), .val (.int rv), .unset, .val (.int (0 : Int32)), .val (.int c3), .unset] at_298 rfl rfl ?_
            refine own_iload 302 Y56 at_300 rfl rfl ?_
            refine own_iconst 303 Y56 (2 : Int32) at_302 rfl rfl ?_
            refine own_icF 306 Y56 at_303 (XT.ii_lt_f (by decide)) rfl ?_
            refine own_iload 308 Y56 at_306 rfl rfl ?_
            refine own_bipush 310 Y56 (46 : Int32) at_308 rfl rfl ?_
            refine own_icT 320 Y56 at_310 (XT.ii_ne_t dt0) (by decide) ?_
            refine own_iload 322 Y56 at_320 rfl rfl ?_
            refine own_iconst 323 Y56 (3 : Int32) at_322 rfl rfl ?_
            refine own_icF 326 Y56 at_323 (XT.ii_lt_f (by decide)) rfl ?_
            refine own_iload 328 Y56 at_326 rfl rfl ?_
            refine own_bipush 330 Y56 (46 : Int32) at_328 rfl rfl ?_
            refine own_icT 340 Y56 at_330 (XT.ii_ne_t dt1) (by decide) ?_
            refine own_iload 342 Y56 at_340 rfl rfl ?_
            refine own_iconst 343 Y56 (4 : Int32) at_342 rfl rfl ?_
            refine own_icF 346 Y56 at_343 (XT.ii_lt_f (by decide)) rfl ?_
            refine own_iload 348 Y56 at_346 rfl rfl ?_
            refine own_bipush 350 Y56 (46 : Int32) at_348 rfl rfl ?_
            refine own_icT 360 Y56 at_350 (XT.ii_ne_t dt2) (by decide) ?_
            refine own_iconst 361 Y56 (1 : Int32) at_360 rfl rfl ?_
            refine own_goto 365 Y56 at_361 (by decide) ?_
            refine own_istore 367 Y56 #[.val (.int x0), .val (.int x1), .val (.int x2), .val (.int x3), .val (.int x4), .val (.int (4 : Int32)), .val (.int c0), .val (.int c1), .val (.int c2), .val (.int c3), .val (.ref x), .val (.int rv), .unset, .val (.int (0 : Int32)), .val (.int c3), .val (.int (1 : Int32))] at_365 rfl rfl ?_
            refine own_iload 369 Y56 at_367 rfl rfl ?_
            refine own_ifT 395 Y56 at_369 (XT.i0_eq_t (by decide)) (by decide) ?_
            refine own_iconst 396 Y56 (0 : Int32) at_395 rfl rfl ?_
            refine own_istore 398 Y56 #[.val (.int x0), .val (.int x1), .val (.int x2), .val (.int x3), .val (.int x4), .val (.int (4 : Int32)), .val (.int c0), .val (.int c1), .val (.int c2), .val (.int c3), .val (.ref x), .val (.int rv), .val (.int (0 : Int32)), .val (.int (0 : Int32)), .val (.int c3), .val (.int (1 : Int32))] at_396 rfl rfl ?_
            refine own_iload 400 Y56 at_398 rfl rfl ?_
            refine own_iload 402 Y56 at_400 rfl rfl ?_
            rw [if_neg dt0, if_pos at0, if_neg dt1, if_pos at1, if_neg dt2, if_pos at2, if_neg dt3, if_neg at3] at erv
            subst erv
            refine own_icF 405 Y56 at_402 (XT.ii_ne_f (by decide)) rfl ?_
            refine own_iconst 406 Y56 (1 : Int32) at_405 rfl rfl ?_
            refine own_goto 410 Y56 at_406 (by decide) ?_
            exact own_retNW Y56 H (t := .boolean) rfl (by simp) at_410 (by decide) (by decide) ⟨rfl, N⟩
        · rw [if_neg (fun z => z.elim dt2 at2)]
          show own_G p e below _ (T54.setTop (mkF m 233 #[.val (.int x0), .val (.int x1), .val (.int x2), .val (.int x3), .val (.int x4), .val (.int (4 : Int32)), .val (.int c0), .val (.int c1), .val (.int c2), .val (.int c3), .val (.ref x), .val (.int rv), .unset, .unset, .unset, .unset] [(.int (0 : Int32))]))
          refine own_ifT 254 Y54 at_233 (XT.i0_eq_t (by decide)) (by decide) ?_
          refine own_iconst 255 Y54 (0 : Int32) at_254 rfl rfl ?_
          refine own_istore 257 Y54 #[.val (.int x0), .val (.int x1), .val (.int x2), .val (.int x3), .val (.int x4), .val (.int (4 : Int32)), .val (.int c0), .val (.int c1), .val (.int c2), .val (.int c3), .val (.ref x), .val (.int rv), .unset, .val (.int (0 : Int32)), .unset, .unset] at_255 rfl rfl ?_
          refine own_iload 259 Y54 at_257 rfl rfl ?_
          refine own_iconst 260 Y54 (1 : Int32) at_259 rfl rfl ?_
          refine own_icT 270 Y54 at_260 (XT.ii_ne_t (by decide)) (by decide) ?_
          refine own_iload 272 Y54 at_270 rfl rfl ?_
          refine own_iconst 273 Y54 (2 : Int32) at_272 rfl rfl ?_
          refine own_icT 283 Y54 at_273 (XT.ii_ne_t (by decide)) (by decide) ?_
          refine own_iload 285 Y54 at_283 rfl rfl ?_
          refine own_iconst 286 Y54 (3 : Int32) at_285 rfl rfl ?_
          refine own_icT 296 Y54 at_286 (XT.ii_ne_t (by decide)) (by decide) ?_
          refine own_iload 298 Y54 at_296 rfl rfl ?_
          refine own_istore 300 Y54 #[.val (.int x0), .val (.int x1), .val (.int x2), .val (.int x3), .val (.int x4), .val (.int (4 : Int32)), .val (.int c0), .val (.int c1), .val (.int c2), .val (.int c3), .val (.ref x), .val (.int rv), .unset, .val (.int (0 : Int32)), .val (.int c3), .unset] at_298 rfl rfl ?_
          refine own_iload 302 Y54 at_300 rfl rfl ?_
          refine own_iconst 303 Y54 (2 : Int32) at_302 rfl rfl ?_
          refine own_icF 306 Y54 at_303 (XT.ii_lt_f (by decide)) rfl ?_
          refine own_iload 308 Y54 at_306 rfl rfl ?_
          refine own_bipush 310 Y54 (46 : Int32) at_308 rfl rfl ?_
          refine own_icT 320 Y54 at_310 (XT.ii_ne_t dt0) (by decide) ?_
          refine own_iload 322 Y54 at_320 rfl rfl ?_
          refine own_iconst 323 Y54 (3 : Int32) at_322 rfl rfl ?_
          refine own_icF 326 Y54 at_323 (XT.ii_lt_f (by decide)) rfl ?_
          refine own_iload 328 Y54 at_326 rfl rfl ?_
          refine own_bipush 330 Y54 (46 : Int32) at_328 rfl rfl ?_
          refine own_icT 340 Y54 at_330 (XT.ii_ne_t dt1) (by decide) ?_
          refine own_iload 342 Y54 at_340 rfl rfl ?_
          refine own_iconst 343 Y54 (4 : Int32) at_342 rfl rfl ?_
          refine own_icF 346 Y54 at_343 (XT.ii_lt_f (by decide)) rfl ?_
          refine own_iload 348 Y54 at_346 rfl rfl ?_
          refine own_bipush 350 Y54 (46 : Int32) at_348 rfl rfl ?_
          refine own_icT 360 Y54 at_350 (XT.ii_ne_t dt2) (by decide) ?_
          refine own_iconst 361 Y54 (1 : Int32) at_360 rfl rfl ?_
          refine own_goto 365 Y54 at_361 (by decide) ?_
          refine own_istore 367 Y54 #[.val (.int x0), .val (.int x1), .val (.int x2), .val (.int x3), .val (.int x4), .val (.int (4 : Int32)), .val (.int c0), .val (.int c1), .val (.int c2), .val (.int c3), .val (.ref x), .val (.int rv), .unset, .val (.int (0 : Int32)), .val (.int c3), .val (.int (1 : Int32))] at_365 rfl rfl ?_
          refine own_iload 369 Y54 at_367 rfl rfl ?_
          refine own_ifT 395 Y54 at_369 (XT.i0_eq_t (by decide)) (by decide) ?_
          refine own_iconst 396 Y54 (0 : Int32) at_395 rfl rfl ?_
          refine own_istore 398 Y54 #[.val (.int x0), .val (.int x1), .val (.int x2), .val (.int x3), .val (.int x4), .val (.int (4 : Int32)), .val (.int c0), .val (.int c1), .val (.int c2), .val (.int c3), .val (.ref x), .val (.int rv), .val (.int (0 : Int32)), .val (.int (0 : Int32)), .val (.int c3), .val (.int (1 : Int32))] at_396 rfl rfl ?_
          refine own_iload 400 Y54 at_398 rfl rfl ?_
          refine own_iload 402 Y54 at_400 rfl rfl ?_
          rw [if_neg dt0, if_pos at0, if_neg dt1, if_pos at1, if_neg dt2, if_neg at2] at erv
          subst erv
          refine own_icF 405 Y54 at_402 (XT.ii_ne_f (by decide)) rfl ?_
          refine own_iconst 406 Y54 (1 : Int32) at_405 rfl rfl ?_
          refine own_goto 410 Y54 at_406 (by decide) ?_
          exact own_retNW Y54 H (t := .boolean) rfl (by simp) at_410 (by decide) (by decide) ⟨rfl, N⟩
      · rw [if_neg (fun z => z.elim dt1 at1)]
        show own_G p e below _ (T50.setTop (mkF m 219 #[.val (.int x0), .val (.int x1), .val (.int x2), .val (.int x3), .val (.int x4), .val (.int (4 : Int32)), .val (.int c0), .val (.int c1), .val (.int c2), .val (.int c3), .val (.ref x), .val (.int rv), .unset, .unset, .unset, .unset] [(.int (0 : Int32))]))
        refine own_ifT 254 Y50 at_219 (XT.i0_eq_t (by decide)) (by decide) ?_
        refine own_iconst 255 Y50 (0 : Int32) at_254 rfl rfl ?_
        refine own_istore 257 Y50 #[.val (.int x0), .val (.int x1), .val (.int x2), .val (.int x3), .val (.int x4), .val (.int (4 : Int32)), .val (.int c0), .val (.int c1), .val (.int c2), .val (.int c3), .val (.ref x), .val (.int rv), .unset, .val (.int (0 : Int32)), .unset, .unset] at_255 rfl rfl ?_
        refine own_iload 259 Y50 at_257 rfl rfl ?_
        refine own_iconst 260 Y50 (1 : Int32) at_259 rfl rfl ?_
        refine own_icT 270 Y50 at_260 (XT.ii_ne_t (by decide)) (by decide) ?_
        refine own_iload 272 Y50 at_270 rfl rfl ?_
        refine own_iconst 273 Y50 (2 : Int32) at_272 rfl rfl ?_
        refine own_icT 283 Y50 at_273 (XT.ii_ne_t (by decide)) (by decide) ?_
        refine own_iload 285 Y50 at_283 rfl rfl ?_
        refine own_iconst 286 Y50 (3 : Int32) at_285 rfl rfl ?_
        refine own_icT 296 Y50 at_286 (XT.ii_ne_t (by decide)) (by decide) ?_
        refine own_iload 298 Y50 at_296 rfl rfl ?_
        refine own_istore 300 Y50 #[.val (.int x0), .val (.int x1), .val (.int x2), .val (.int x3), .val (.int x4), .val (.int (4 : Int32)), .val (.int c0), .val (.int c1), .val (.int c2), .val (.int c3), .val (.ref x), .val (.int rv), .unset, .val (.int (0 : Int32)), .val (.int c3), .unset] at_298 rfl rfl ?_
        refine own_iload 302 Y50 at_300 rfl rfl ?_
        refine own_iconst 303 Y50 (2 : Int32) at_302 rfl rfl ?_
        refine own_icF 306 Y50 at_303 (XT.ii_lt_f (by decide)) rfl ?_
        refine own_iload 308 Y50 at_306 rfl rfl ?_
        refine own_bipush 310 Y50 (46 : Int32) at_308 rfl rfl ?_
        refine own_icT 320 Y50 at_310 (XT.ii_ne_t dt0) (by decide) ?_
        refine own_iload 322 Y50 at_320 rfl rfl ?_
        refine own_iconst 323 Y50 (3 : Int32) at_322 rfl rfl ?_
        refine own_icF 326 Y50 at_323 (XT.ii_lt_f (by decide)) rfl ?_
        refine own_iload 328 Y50 at_326 rfl rfl ?_
        refine own_bipush 330 Y50 (46 : Int32) at_328 rfl rfl ?_
        refine own_icT 340 Y50 at_330 (XT.ii_ne_t dt1) (by decide) ?_
        refine own_iload 342 Y50 at_340 rfl rfl ?_
        refine own_iconst 343 Y50 (4 : Int32) at_342 rfl rfl ?_
        refine own_icF 346 Y50 at_343 (XT.ii_lt_f (by decide)) rfl ?_
        refine own_iload 348 Y50 at_346 rfl rfl ?_
        refine own_bipush 350 Y50 (46 : Int32) at_348 rfl rfl ?_
        by_cases dt2 : c2 = 46
        · refine own_icF 353 Y50 at_350 (XT.ii_ne_f dt2) rfl ?_
          refine own_iload 355 Y50 at_353 rfl rfl ?_
          refine own_bipush 357 Y50 (46 : Int32) at_355 rfl rfl ?_
          by_cases dt3 : c3 = 46
          · refine own_icT 364 Y50 at_357 (XT.ii_eq_t dt3) (by decide) ?_
            refine own_iconst 365 Y50 (0 : Int32) at_364 rfl rfl ?_
            refine own_istore 367 Y50 #[.val (.int x0), .val (.int x1), .val (.int x2), .val (.int x3), .val (.int x4), .val (.int (4 : Int32)), .val (.int c0), .val (.int c1), .val (.int c2), .val (.int c3), .val (.ref x), .val (.int rv), .unset, .val (.int (0 : Int32)), .val (.int c3), .val (.int (0 : Int32))] at_365 rfl rfl ?_
            refine own_iload 369 Y50 at_367 rfl rfl ?_
            refine own_ifT 395 Y50 at_369 (XT.i0_eq_t (by decide)) (by decide) ?_
            refine own_iconst 396 Y50 (0 : Int32) at_395 rfl rfl ?_
            refine own_istore 398 Y50 #[.val (.int x0), .val (.int x1), .val (.int x2), .val (.int x3), .val (.int x4), .val (.int (4 : Int32)), .val (.int c0), .val (.int c1), .val (.int c2), .val (.int c3), .val (.ref x), .val (.int rv), .val (.int (0 : Int32)), .val (.int (0 : Int32)), .val (.int c3), .val (.int (0 : Int32))] at_396 rfl rfl ?_
            refine own_iload 400 Y50 at_398 rfl rfl ?_
            refine own_iload 402 Y50 at_400 rfl rfl ?_
            rw [if_neg dt0, if_pos at0, if_neg dt1, if_neg at1] at erv
            subst erv
            refine own_icF 405 Y50 at_402 (XT.ii_ne_f (by decide)) rfl ?_
            refine own_iconst 406 Y50 (1 : Int32) at_405 rfl rfl ?_
            refine own_goto 410 Y50 at_406 (by decide) ?_
            exact own_retNW Y50 H (t := .boolean) rfl (by simp) at_410 (by decide) (by decide) ⟨rfl, N⟩
          · refine own_icF 360 Y50 at_357 (XT.ii_eq_f dt3) rfl ?_
            refine own_iconst 361 Y50 (1 : Int32) at_360 rfl rfl ?_
            refine own_goto 365 Y50 at_361 (by decide) ?_
            refine own_istore 367 Y50 #[.val (.int x0), .val (.int x1), .val (.int x2), .val (.int x3), .val (.int x4), .val (.int (4 : Int32)), .val (.int c0), .val (.int c1), .val (.int c2), .val (.int c3), .val (.ref x), .val (.int rv), .unset, .val (.int (0 : Int32)), .val (.int c3), .val (.int (1 : Int32))] at_365 rfl rfl ?_
            refine own_iload 369 Y50 at_367 rfl rfl ?_
            refine own_ifT 395 Y50 at_369 (XT.i0_eq_t (by decide)) (by decide) ?_
            refine own_iconst 396 Y50 (0 : Int32) at_395 rfl rfl ?_
            refine own_istore 398 Y50 #[.val (.int x0), .val (.int x1), .val (.int x2), .val (.int x3), .val (.int x4), .val (.int (4 : Int32)), .val (.int c0), .val (.int c1), .val (.int c2), .val (.int c3), .val (.ref x), .val (.int rv), .val (.int (0 : Int32)), .val (.int (0 : Int32)), .val (.int c3), .val (.int (1 : Int32))] at_396 rfl rfl ?_
            refine own_iload 400 Y50 at_398 rfl rfl ?_
            refine own_iload 402 Y50 at_400 rfl rfl ?_
            rw [if_neg dt0, if_pos at0, if_neg dt1, if_neg at1] at erv
            subst erv
            refine own_icF 405 Y50 at_402 (XT.ii_ne_f (by decide)) rfl ?_
            refine own_iconst 406 Y50 (1 : Int32) at_405 rfl rfl ?_
            refine own_goto 410 Y50 at_406 (by decide) ?_
            exact own_retNW Y50 H (t := .boolean) rfl (by simp) at_410 (by decide) (by decide) ⟨rfl, N⟩
        · refine own_icT 360 Y50 at_350 (XT.ii_ne_t dt2) (by decide) ?_
          refine own_iconst 361 Y50 (1 : Int32) at_360 rfl rfl ?_
          refine own_goto 365 Y50 at_361 (by decide) ?_
          refine own_istore 367 Y50 #[.val (.int x0), .val (.int x1), .val (.int x2), .val (.int x3), .val (.int x4), .val (.int (4 : Int32)), .val (.int c0), .val (.int c1), .val (.int c2), .val (.int c3), .val (.ref x), .val (.int rv), .unset, .val (.int (0 : Int32)), .val (.int c3), .val (.int (1 : Int32))] at_365 rfl rfl ?_
          refine own_iload 369 Y50 at_367 rfl rfl ?_
          refine own_ifT 395 Y50 at_369 (XT.i0_eq_t (by decide)) (by decide) ?_
          refine own_iconst 396 Y50 (0 : Int32) at_395 rfl rfl ?_
          refine own_istore 398 Y50 #[.val (.int x0), .val (.int x1), .val (.int x2), .val (.int x3), .val (.int x4), .val (.int (4 : Int32)), .val (.int c0), .val (.int c1), .val (.int c2), .val (.int c3), .val (.ref x), .val (.int rv), .val (.int (0 : Int32)), .val (.int (0 : Int32)), .val (.int c3), .val (.int (1 : Int32))] at_396 rfl rfl ?_
          refine own_iload 400 Y50 at_398 rfl rfl ?_
          refine own_iload 402 Y50 at_400 rfl rfl ?_
          rw [if_neg dt0, if_pos at0, if_neg dt1, if_neg at1] at erv
          subst erv
          refine own_icF 405 Y50 at_402 (XT.ii_ne_f (by decide)) rfl ?_
          refine own_iconst 406 Y50 (1 : Int32) at_405 rfl rfl ?_
          refine own_goto 410 Y50 at_406 (by decide) ?_
          exact own_retNW Y50 H (t := .boolean) rfl (by simp) at_410 (by decide) (by decide) ⟨rfl, N⟩
    · rw [if_neg (fun z => z.elim dt0 at0)]
      show own_G p e below _ (T42.setTop (mkF m 205 #[.val (.int x0), .val (.int x1), .val (.int x2), .val (.int x3), .val (.int x4), .val (.int (4 : Int32)), .val (.int c0), .val (.int c1), .val (.int c2), .val (.int c3), .val (.ref x), .val (.int rv), .unset, .unset, .unset, .unset] [(.int (0 : Int32))]))
      refine own_ifT 254 Y42 at_205 (XT.i0_eq_t (by decide)) (by decide) ?_
      refine own_iconst 255 Y42 (0 : Int32) at_254 rfl rfl ?_
      refine own_istore 257 Y42 #[.val (.int x0), .val (.int x1), .val (.int x2), .val (.int x3), .val (.int x4), .val (.int (4 : Int32)), .val (.int c0), .val (.int c1), .val (.int c2), .val (.int c3), .val (.ref x), .val (.int rv), .unset, .val (.int (0 : Int32)), .unset, .unset] at_255 rfl rfl ?_
      refine own_iload 259 Y42 at_257 rfl rfl ?_
      refine own_iconst 260 Y42 (1 : Int32) at_259 rfl rfl ?_
      refine own_icT 270 Y42 at_260 (XT.ii_ne_t (by decide)) (by decide) ?_
      refine own_iload 272 Y42 at_270 rfl rfl ?_
      refine own_iconst 273 Y42 (2 : Int32) at_272 rfl rfl ?_
      refine own_icT 283 Y42 at_273 (XT.ii_ne_t (by decide)) (by decide) ?_
      refine own_iload 285 Y42 at_283 rfl rfl ?_
      refine own_iconst 286 Y42 (3 : Int32) at_285 rfl rfl ?_
      refine own_icT 296 Y42 at_286 (XT.ii_ne_t (by decide)) (by decide) ?_
      refine own_iload 298 Y42 at_296 rfl rfl ?_
      refine own_istore 300 Y42 #[.val (.int x0), .val (.int x1), .val (.int x2), .val (.int x3), .val (.int x4), .val (.int (4 : Int32)), .val (.int c0), .val (.int c1), .val (.int c2), .val (.int c3), .val (.ref x), .val (.int rv), .unset, .val (.int (0 : Int32)), .val (.int c3), .unset] at_298 rfl rfl ?_
      refine own_iload 302 Y42 at_300 rfl rfl ?_
      refine own_iconst 303 Y42 (2 : Int32) at_302 rfl rfl ?_
      refine own_icF 306 Y42 at_303 (XT.ii_lt_f (by decide)) rfl ?_
      refine own_iload 308 Y42 at_306 rfl rfl ?_
      refine own_bipush 310 Y42 (46 : Int32) at_308 rfl rfl ?_
      refine own_icT 320 Y42 at_310 (XT.ii_ne_t dt0) (by decide) ?_
      refine own_iload 322 Y42 at_320 rfl rfl ?_
      refine own_iconst 323 Y42 (3 : Int32) at_322 rfl rfl ?_
      refine own_icF 326 Y42 at_323 (XT.ii_lt_f (by decide)) rfl ?_
      refine own_iload 328 Y42 at_326 rfl rfl ?_
      refine own_bipush 330 Y42 (46 : Int32) at_328 rfl rfl ?_
      by_cases dt1 : c1 = 46
      · refine own_icF 333 Y42 at_330 (XT.ii_ne_f dt1) rfl ?_
        refine own_iload 335 Y42 at_333 rfl rfl ?_
        refine own_bipush 337 Y42 (46 : Int32) at_335 rfl rfl ?_
        by_cases dt2 : c2 = 46
        · refine own_icT 364 Y42 at_337 (XT.ii_eq_t dt2) (by decide) ?_
          refine own_iconst 365 Y42 (0 : Int32) at_364 rfl rfl ?_
          refine own_istore 367 Y42 #[.val (.int x0), .val (.int x1), .val (.int x2), .val (.int x3), .val (.int x4), .val (.int (4 : Int32)), .val (.int c0), .val (.int c1), .val (.int c2), .val (.int c3), .val (.ref x), .val (.int rv), .unset, .val (.int (0 : Int32)), .val (.int c3), .val (.int (0 : Int32))] at_365 rfl rfl ?_
          refine own_iload 369 Y42 at_367 rfl rfl ?_
          refine own_ifT 395 Y42 at_369 (XT.i0_eq_t (by decide)) (by decide) ?_
          refine own_iconst 396 Y42 (0 : Int32) at_395 rfl rfl ?_
          refine own_istore 398 Y42 #[.val (.int x0), .val (.int x1), .val (.int x2), .val (.int x3), .val (.int x4), .val (.int (4 : Int32)), .val (.int c0), .val (.int c1), .val (.int c2), .val (.int c3), .val (.ref x), .val (.int rv), .val (.int (0 : Int32)), .val (.int (0 : Int32)), .val (.int c3), .val (.int (0 : Int32))] at_396 rfl rfl ?_
          refine own_iload 400 Y42 at_398 rfl rfl ?_
          refine own_iload 402 Y42 at_400 rfl rfl ?_
          rw [if_neg dt0, if_neg at0] at erv
          subst erv
          refine own_icF 405 Y42 at_402 (XT.ii_ne_f (by decide)) rfl ?_
          refine own_iconst 406 Y42 (1 : Int32) at_405 rfl rfl ?_
          refine own_goto 410 Y42 at_406 (by decide) ?_
          exact own_retNW Y42 H (t := .boolean) rfl (by simp) at_410 (by decide) (by decide) ⟨rfl, N⟩
        · refine own_icF 340 Y42 at_337 (XT.ii_eq_f dt2) rfl ?_
          refine own_iload 342 Y42 at_340 rfl rfl ?_
          refine own_iconst 343 Y42 (4 : Int32) at_342 rfl rfl ?_
          refine own_icF 346 Y42 at_343 (XT.ii_lt_f (by decide)) rfl ?_
          refine own_iload 348 Y42 at_346 rfl rfl ?_
          refine own_bipush 350 Y42 (46 : Int32) at_348 rfl rfl ?_
          refine own_icT 360 Y42 at_350 (XT.ii_ne_t dt2) (by decide) ?_
          refine own_iconst 361 Y42 (1 : Int32) at_360 rfl rfl ?_
          refine own_goto 365 Y42 at_361 (by decide) ?_
          refine own_istore 367 Y42 #[.val (.int x0), .val (.int x1), .val (.int x2), .val (.int x3), .val (.int x4), .val (.int (4 : Int32)), .val (.int c0), .val (.int c1), .val (.int c2), .val (.int c3), .val (.ref x), .val (.int rv), .unset, .val (.int (0 : Int32)), .val (.int c3), .val (.int (1 : Int32))] at_365 rfl rfl ?_
          refine own_iload 369 Y42 at_367 rfl rfl ?_
          refine own_ifT 395 Y42 at_369 (XT.i0_eq_t (by decide)) (by decide) ?_
          refine own_iconst 396 Y42 (0 : Int32) at_395 rfl rfl ?_
          refine own_istore 398 Y42 #[.val (.int x0), .val (.int x1), .val (.int x2), .val (.int x3), .val (.int x4), .val (.int (4 : Int32)), .val (.int c0), .val (.int c1), .val (.int c2), .val (.int c3), .val (.ref x), .val (.int rv), .val (.int (0 : Int32)), .val (.int (0 : Int32)), .val (.int c3), .val (.int (1 : Int32))] at_396 rfl rfl ?_
          refine own_iload 400 Y42 at_398 rfl rfl ?_
          refine own_iload 402 Y42 at_400 rfl rfl ?_
          rw [if_neg dt0, if_neg at0] at erv
          subst erv
          refine own_icF 405 Y42 at_402 (XT.ii_ne_f (by decide)) rfl ?_
          refine own_iconst 406 Y42 (1 : Int32) at_405 rfl rfl ?_
          refine own_goto 410 Y42 at_406 (by decide) ?_
          exact own_retNW Y42 H (t := .boolean) rfl (by simp) at_410 (by decide) (by decide) ⟨rfl, N⟩
      · refine own_icT 340 Y42 at_330 (XT.ii_ne_t dt1) (by decide) ?_
        refine own_iload 342 Y42 at_340 rfl rfl ?_
        refine own_iconst 343 Y42 (4 : Int32) at_342 rfl rfl ?_
        refine own_icF 346 Y42 at_343 (XT.ii_lt_f (by decide)) rfl ?_
        refine own_iload 348 Y42 at_346 rfl rfl ?_
        refine own_bipush 350 Y42 (46 : Int32) at_348 rfl rfl ?_
        by_cases dt2 : c2 = 46
        · refine own_icF 353 Y42 at_350 (XT.ii_ne_f dt2) rfl ?_
          refine own_iload 355 Y42 at_353 rfl rfl ?_
          refine own_bipush 357 Y42 (46 : Int32) at_355 rfl rfl ?_
          by_cases dt3 : c3 = 46
          · refine own_icT 364 Y42 at_357 (XT.ii_eq_t dt3) (by decide) ?_
            refine own_iconst 365 Y42 (0 : Int32) at_364 rfl rfl ?_
            refine own_istore 367 Y42 #[.val (.int x0), .val (.int x1), .val (.int x2), .val (.int x3), .val (.int x4), .val (.int (4 : Int32)), .val (.int c0), .val (.int c1), .val (.int c2), .val (.int c3), .val (.ref x), .val (.int rv), .unset, .val (.int (0 : Int32)), .val (.int c3), .val (.int (0 : Int32))] at_365 rfl rfl ?_
            refine own_iload 369 Y42 at_367 rfl rfl ?_
            refine own_ifT 395 Y42 at_369 (XT.i0_eq_t (by decide)) (by decide) ?_
            refine own_iconst 396 Y42 (0 : Int32) at_395 rfl rfl ?_
            refine own_istore 398 Y42 #[.val (.int x0), .val (.int x1), .val (.int x2), .val (.int x3), .val (.int x4), .val (.int (4 : Int32)), .val (.int c0), .val (.int c1), .val (.int c2), .val (.int c3), .val (.ref x), .val (.int rv), .val (.int (0 : Int32)), .val (.int (0 : Int32)), .val (.int c3), .val (.int (0 : Int32))] at_396 rfl rfl ?_
            refine own_iload 400 Y42 at_398 rfl rfl ?_
            refine own_iload 402 Y42 at_400 rfl rfl ?_
            rw [if_neg dt0, if_neg at0] at erv
            subst erv
            refine own_icF 405 Y42 at_402 (XT.ii_ne_f (by decide)) rfl ?_
            refine own_iconst 406 Y42 (1 : Int32) at_405 rfl rfl ?_
            refine own_goto 410 Y42 at_406 (by decide) ?_
            exact own_retNW Y42 H (t := .boolean) rfl (by simp) at_410 (by decide) (by decide) ⟨rfl, N⟩
          · refine own_icF 360 Y42 at_357 (XT.ii_eq_f dt3) rfl ?_
            refine own_iconst 361 Y42 (1 : Int32) at_360 rfl rfl ?_
            refine own_goto 365 Y42 at_361 (by decide) ?_
            refine own_istore 367 Y42 #[.val (.int x0), .val (.int x1), .val (.int x2), .val (.int x3), .val (.int x4), .val (.int (4 : Int32)), .val (.int c0), .val (.int c1), .val (.int c2), .val (.int c3), .val (.ref x), .val (.int rv), .unset, .val (.int (0 : Int32)), .val (.int c3), .val (.int (1 : Int32))] at_365 rfl rfl ?_
            refine own_iload 369 Y42 at_367 rfl rfl ?_
            refine own_ifT 395 Y42 at_369 (XT.i0_eq_t (by decide)) (by decide) ?_
            refine own_iconst 396 Y42 (0 : Int32) at_395 rfl rfl ?_
            refine own_istore 398 Y42 #[.val (.int x0), .val (.int x1), .val (.int x2), .val (.int x3), .val (.int x4), .val (.int (4 : Int32)), .val (.int c0), .val (.int c1), .val (.int c2), .val (.int c3), .val (.ref x), .val (.int rv), .val (.int (0 : Int32)), .val (.int (0 : Int32)), .val (.int c3), .val (.int (1 : Int32))] at_396 rfl rfl ?_
            refine own_iload 400 Y42 at_398 rfl rfl ?_
            refine own_iload 402 Y42 at_400 rfl rfl ?_
            rw [if_neg dt0, if_neg at0] at erv
            subst erv
            refine own_icF 405 Y42 at_402 (XT.ii_ne_f (by decide)) rfl ?_
            refine own_iconst 406 Y42 (1 : Int32) at_405 rfl rfl ?_
            refine own_goto 410 Y42 at_406 (by decide) ?_
            exact own_retNW Y42 H (t := .boolean) rfl (by simp) at_410 (by decide) (by decide) ⟨rfl, N⟩
        · refine own_icT 360 Y42 at_350 (XT.ii_ne_t dt2) (by decide) ?_
          refine own_iconst 361 Y42 (1 : Int32) at_360 rfl rfl ?_
          refine own_goto 365 Y42 at_361 (by decide) ?_
          refine own_istore 367 Y42 #[.val (.int x0), .val (.int x1), .val (.int x2), .val (.int x3), .val (.int x4), .val (.int (4 : Int32)), .val (.int c0), .val (.int c1), .val (.int c2), .val (.int c3), .val (.ref x), .val (.int rv), .unset, .val (.int (0 : Int32)), .val (.int c3), .val (.int (1 : Int32))] at_365 rfl rfl ?_
          refine own_iload 369 Y42 at_367 rfl rfl ?_
          refine own_ifT 395 Y42 at_369 (XT.i0_eq_t (by decide)) (by decide) ?_
          refine own_iconst 396 Y42 (0 : Int32) at_395 rfl rfl ?_
          refine own_istore 398 Y42 #[.val (.int x0), .val (.int x1), .val (.int x2), .val (.int x3), .val (.int x4), .val (.int (4 : Int32)), .val (.int c0), .val (.int c1), .val (.int c2), .val (.int c3), .val (.ref x), .val (.int rv), .val (.int (0 : Int32)), .val (.int (0 : Int32)), .val (.int c3), .val (.int (1 : Int32))] at_396 rfl rfl ?_
          refine own_iload 400 Y42 at_398 rfl rfl ?_
          refine own_iload 402 Y42 at_400 rfl rfl ?_
          rw [if_neg dt0, if_neg at0] at erv
          subst erv
          refine own_icF 405 Y42 at_402 (XT.ii_ne_f (by decide)) rfl ?_
          refine own_iconst 406 Y42 (1 : Int32) at_405 rfl rfl ?_
          refine own_goto 410 Y42 at_406 (by decide) ?_
          exact own_retNW Y42 H (t := .boolean) rfl (by simp) at_410 (by decide) (by decide) ⟨rfl, N⟩
set_option maxRecDepth 65536 in
set_option maxHeartbeats 40000000 in
theorem comes_1 {Post : Tables → Env → Array Value → State → Outcome → State → Prop} (hpost : ∀ tb e args s v u, (limb_1_1.after args s (.returned v) u = true ∧ limb_1_2.after args s (.returned v) u = true ∧ True) → FramedW s (.returned v) u (Jvm.fieldLocs frame_1_writes args s ++ Jvm.arrayLocs frame_1_arrays args s ++ Jvm.staticLocs frame_1_statics s) 24 1152 → Post tb e args s (.returned v) u) :
    ArmFor flags0 classFile x code maxLocals ret World_1 tables_1 room_1 Calls_1 rest_1 Pre_1 Post := by
  intro l hfl _ _ p e ha hc hk s m args below hf hA hF happ hP
  obtain ⟨hcalls, hrest, hpre⟩ := hP
  obtain ⟨-, -, -, hnamed, -, -, -, hat⟩ := (Spec.applies_iff hf).mp happ
  obtain ⟨hg, hn⟩ := and_e (Cond.before_iff.mp (show (Jvm.Cond.and given_1 narrow_1).before args s = true from hpre))
  obtain ⟨g0, hg⟩ := and_e hg
  obtain ⟨g1, hg⟩ := and_e hg
  obtain ⟨g2, hg⟩ := and_e hg
  obtain ⟨g3, hg⟩ := and_e hg
  obtain ⟨g4, hg⟩ := and_e hg
  have g5 := hg
  obtain ⟨w0, w1, w2, w3, w4, rfl⟩ : ∃ w0 w1 w2 w3 w4 : Value, args = #[w0, w1, w2, w3, w4] := by
    have hs : args.size = 5 := by simpa [Cond.value, given_1] using g0
    obtain ⟨L⟩ := args
    match L, hs with
    | [w0, w1, w2, w3, w4], _ => exact ⟨w0, w1, w2, w3, w4, rfl⟩
  have hw := fun d (hd : d ∈ tables_1) => atoms_spec (ws := Jvm.Cond.code x code maxLocals ret :: tables_1) hat d (List.mem_cons_of_mem _ hd)
  have hfit : Fit s := fun {y c} hc i hi => by
    obtain ⟨ha, rfl⟩ := Array.getElem?_eq_some_iff.mp hc
    have q := List.all_eq_true.mp ((Array.all_eq_true_iff_forall_mem.mp hF) _ (Array.getElem_mem ha)) i (List.mem_range.mpr hi)
    simpa [Array.getElem?_eq_getElem hi] using q
  obtain ⟨hsets, hown0⟩ := atoms_of _ (rest_1_c_eq ▸ (show rest_1_c.before _ s = true from hrest))
  have hr0 := Cond.before_iff.mp hown0
  obtain ⟨i0, ei0⟩ := is_v g1
  obtain rfl : w0 = (.int i0) := Option.some.inj ei0
  obtain ⟨i1, ei1⟩ := is_v g2
  obtain rfl : w1 = (.int i1) := Option.some.inj ei1
  obtain ⟨i2, ei2⟩ := is_v g3
  obtain rfl : w2 = (.int i2) := Option.some.inj ei2
  obtain ⟨i3, ei3⟩ := is_v g4
  obtain rfl : w3 = (.int i3) := Option.some.inj ei3
  obtain ⟨i4, ei4⟩ := is_v g5
  obtain rfl : w4 = (.int i4) := Option.some.inj ei4
  obtain ⟨z, ez⟩ := is_v (Cond.before_iff.mp (hsets _ (List.mem_of_getElem? (i := 1) rfl)))
  have Sc : Sta s s.heap "java/lang/String" "COMPACT_STRINGS" "Z" (.int z) := Sta.start ez (Or.inl (hsets _ (List.mem_of_getElem? (i := 0) rfl)))
  have hz : ¬ z = 0 := gotF (Cond.eq_ints ez (Term.int_eval 0)) (not_v (Cond.before_iff.mp (hsets _ (List.mem_of_getElem? (i := 2) rfl))))
  have hCH : CHv s EL0 s.vm s.heap := CHv.start (own_el hw) (fun p hp => hcalls.1 p hp) (hsets _ (List.mem_of_getElem? (i := 2) rfl)) (own_wd hw 17 rfl) (own_wd hw 3 rfl)
  have SA : Sta s s.heap "java/lang/StringUTF16" "$assertionsDisabled" "Z" (.int (1 : Int32)) := Sta.start (own_eqi (Cond.before_iff.mp (hsets _ (List.mem_of_getElem? (i := 12) rfl)))) (Or.inl (hsets _ (List.mem_of_getElem? (i := 11) rfl)))
  have SH : Sta s s.heap "java/lang/StringUTF16" "HI_BYTE_SHIFT" "I" (.int (0 : Int32)) := Sta.start (own_eqi (Cond.before_iff.mp (hsets _ (List.mem_of_getElem? (i := 15) rfl)))) (Or.inl (hsets _ (List.mem_of_getElem? (i := 14) rfl)))
  have SO : Sta s s.heap "java/lang/StringUTF16" "LO_BYTE_SHIFT" "I" (.int (8 : Int32)) := Sta.start (own_eqi (Cond.before_iff.mp (hsets _ (List.mem_of_getElem? (i := 18) rfl)))) (Or.inl (hsets _ (List.mem_of_getElem? (i := 17) rfl)))
  obtain ⟨fm, efm, hfm⟩ := isR_v (Cond.before_iff.mp (hsets _ (List.mem_of_getElem? (i := 8) rfl)))
  have SFm : Sta s s.heap "jdk/internal/util/Preconditions" "SIOOBE_FORMATTER" "Ljava/util/function/BiFunction;" fm := Sta.start efm (Or.inl (hsets _ (List.mem_of_getElem? (i := 7) rfl)))
  have WS : own_Ws s z fm := ⟨Sc, hz, SA, SH, SO, SFm, hfm⟩
  obtain ⟨n, o, h1, h2, h3, _, L, rfl, ⟨rfl, N⟩, -, hq⟩ := (c_law l s _ hw i0 i1 i2 i3 i4 z fm s.heap s.heap.size (Old.start s) WS (Nat.le_refl _)) p e ha hc hk s m _ below hf ((Spec.applies_iff_loose hf).mp happ).1 ⟨rfl, State.Warmed39.refl s, rfl, hCH⟩ trivial
  refine ⟨n, _, h1, h2, h3, hpost _ _ _ _ _ _ ⟨Cond.after_iff.mpr rfl, Cond.after_iff.mpr (eq_i res_at (Term.int_eval (1)) rfl), trivial⟩ ⟨hq.1, hq.2.1, hq.2.2.1, (hq.2.2.2.sift fun y hy => Or.inr (N y hy)).mono (by decide) (by decide)⟩⟩
theorem main_1_1 : Claimed_1_1 := comes_1 fun _ _ _ _ _ _ h hF => ⟨h.1, hF⟩
theorem main_1_2 : Claimed_1_2 := comes_1 fun _ _ _ _ _ _ h hF => ⟨h.2.1, hF⟩
end Jvm.Pilot.@@N@@
namespace Jvm.Pilot.@@N@@
open Jvm Jvm.ClassFile Sem Op Lib Jvm.Free Jvm.Stand Jvm.Pilot.@@N@@.Jvm.D
/-! MADE BY PROGRAM (witnessworld.py) out of the Statement's table words and the real class files: 20 classes; the members and pool entries that the words name. The judged class is class 1, her method 3. -/
namespace start1
open Jvm.ClassFile
def u (s : String) : CpInfo := .utf8 (stringToUtf16 s)
/-- a pool by its gaps: so many unusable entries, then the entry; so many at the end -/
def gap : Nat → List CpInfo → List CpInfo
  | 0, r => r
  | n + 1, r => .unusable :: gap n r
def poolList (es : List (Nat × CpInfo)) (last : Nat) : List CpInfo := es.foldr (fun e r => gap e.1 (e.2 :: r)) (gap last [])
def pool (es : List (Nat × CpInfo)) (last : Nat) : Array CpInfo := ⟨poolList es last⟩
def fileOf (pool : Array CpInfo) (this : Nat) (attrs : Array Attribute := #[]) (ms : Array MethodInfo := #[]) (fl : Nat := 33) (sup : Nat := 0) (ifs : Array Nat := #[]) (fds : Array FieldInfo := #[]) : ClassFile where
  minorVersion := 0
  majorVersion := 65
  constantPool := pool
  accessFlags := fl
  thisClass := this
  superClass := sup
  interfaces := ifs
  fields := fds
  methods := ms
  attributes := attrs
def plain (name : String) (sup : Option ClassId) : Class where
  name := name
  kind := .ordinary
  loader := none
  accessFlags := 33
  super := sup
  interfaces := #[]
  cf := none
  fields := #[]
  methods := #[]
  instanceTypes := #[]
  staticTypes := #[]
  resolved := #[]
  callSites := []
  init := .initialized
  statics := none
  mirror := none

def pool0 : Array CpInfo := pool [(5, u "<init>"), (0, u "()V"), (1, .class_ 10), (1, u "java/lang/Object")] 113

def k0c0 : Code := { maxStack := 0, maxLocals := 1, code := object_method_1_code, exceptionTable := #[], attributes := #[] }
def k0m0 : Method := { name := "<init>", desc := "()V", sig := { parameters := [], returnType := none }, accessFlags := 1, code := some k0c0 }
/-- java/lang/Object -/
def k0 : Class := { plain "java/lang/Object" none with
  accessFlags := 33
  interfaces := #[]
  cf := some (fileOf pool0 8 #[] #[{ accessFlags := 1, nameIndex := 5, descriptorIndex := 6, attributes := #[] }] 33 0 #[] #[])
  fields := #[]
  methods := #[k0m0]
  instanceTypes := #[]
  staticTypes := #[]
  resolved := Array.replicate 124 none
  statics := none }

def pool1 : Array CpInfo := pool [(2, .class_ 4), (1, u "java/lang/Object"), (0, u "<init>"), (0, u "()V"), (0, .methodref 8 9), (0, .class_ 10), (0, .nameAndType 11 12), (0, u "com/example/vetted_hub/vettedhub/MTypeIsMTypePinLaw"), (0, u "atomChar"), (0, u "(C)Z"), (0, .integer 2147483647), (0, .integer 65535), (0, .class_ 16), (0, u "java/lang/String"), (0, .methodref 15 18), (0, .nameAndType 5 19), (0, u "([C)V"), (0, .methodref 21 22), (0, .class_ 23), (0, .nameAndType 24 25), (0, u "com/example/vetted_hub/vettedhub/MType"), (0, u "isMType"), (0, u "(Ljava/lang/String;)Z"), (0, .methodref 8 27), (0, .nameAndType 28 12), (0, u "legal"), (3, u "law"), (0, u "(IIIII)Z")] 2

def k1m0 : Method := { name := "<init>", desc := "()V", sig := { parameters := [], returnType := none }, accessFlags := 2, code := none }
def k1c1 : Code := { maxStack := 2, maxLocals := 1, code := method_2_code, exceptionTable := #[], attributes := #[] }
def k1m1 : Method := { name := "atomChar", desc := "(C)Z", sig := { parameters := [.char], returnType := some .boolean }, accessFlags := 10, code := some k1c1 }
def k1c2 : Code := { maxStack := 2, maxLocals := 1, code := method_3_code, exceptionTable := #[], attributes := #[] }
def k1m2 : Method := { name := "legal", desc := "(C)Z", sig := { parameters := [.char], returnType := some .boolean }, accessFlags := 10, code := some k1c2 }
def k1c3 : Code := { maxStack := 6, maxLocals := 16, code := code, exceptionTable := #[], attributes := #[] }
def k1m3 : Method := { name := "law", desc := "(IIIII)Z", sig := { parameters := [.int, .int, .int, .int, .int], returnType := some .boolean }, accessFlags := 9, code := some k1c3 }
/-- com/example/vetted_hub/vettedhub/MTypeIsMTypePinLaw -/
def k1 : Class := { plain "com/example/vetted_hub/vettedhub/MTypeIsMTypePinLaw" (some 0) with
  accessFlags := 49
  interfaces := #[]
  cf := some (fileOf pool1 8 #[] #[{ accessFlags := 2, nameIndex := 5, descriptorIndex := 6, attributes := #[] }, { accessFlags := 10, nameIndex := 11, descriptorIndex := 12, attributes := #[] }, { accessFlags := 10, nameIndex := 28, descriptorIndex := 12, attributes := #[] }, { accessFlags := 9, nameIndex := 32, descriptorIndex := 33, attributes := #[] }] 49 2 #[] #[])
  fields := #[]
  methods := #[k1m0, k1m1, k1m2, k1m3]
  instanceTypes := #[]
  staticTypes := #[]
  resolved := Array.replicate 36 none
  statics := none }

def pool2 : Array CpInfo := pool [(1, .class_ 2), (0, u "java/io/Serializable"), (0, .class_ 4), (0, u "java/lang/Object")] 2

/-- java/io/Serializable -/
def k2 : Class := { plain "java/io/Serializable" (some 0) with
  accessFlags := 1537
  interfaces := #[]
  cf := some (fileOf pool2 1 #[] #[] 1537 3 #[] #[])
  fields := #[]
  methods := #[]
  instanceTypes := #[]
  staticTypes := #[]
  resolved := Array.replicate 7 none
  statics := none }

def pool3 : Array CpInfo := pool [(1, .class_ 2), (0, u "java/lang/Comparable"), (0, .class_ 4), (0, u "java/lang/Object")] 7

/-- java/lang/Comparable -/
def k3 : Class := { plain "java/lang/Comparable" (some 0) with
  accessFlags := 1537
  interfaces := #[]
  cf := some (fileOf pool3 1 #[] #[] 1537 3 #[] #[])
  fields := #[]
  methods := #[]
  instanceTypes := #[]
  staticTypes := #[]
  resolved := Array.replicate 12 none
  statics := none }

def pool4 : Array CpInfo := pool [(2, .class_ 4), (1, u "java/lang/CharSequence"), (42, .class_ 48), (0, u "java/lang/CharSequence$1CodePointIterator"), (10, .class_ 60), (0, u "java/lang/CharSequence$1CharIterator"), (5, .class_ 67), (0, u "java/lang/Object")] 63

/-- java/lang/CharSequence -/
def k4 : Class := { plain "java/lang/CharSequence" (some 0) with
  accessFlags := 1537
  interfaces := #[]
  cf := some (fileOf pool4 2 #[.nestMembers #[47, 59]] #[] 1537 66 #[] #[])
  fields := #[]
  methods := #[]
  instanceTypes := #[]
  staticTypes := #[]
  resolved := Array.replicate 131 none
  statics := none }

def pool5 : Array CpInfo := pool [(1, .class_ 2), (0, u "java/lang/constant/Constable"), (0, .class_ 4), (0, u "java/lang/Object")] 6

/-- java/lang/constant/Constable -/
def k5 : Class := { plain "java/lang/constant/Constable" (some 0) with
  accessFlags := 1537
  interfaces := #[]
  cf := some (fileOf pool5 1 #[] #[] 1537 3 #[] #[])
  fields := #[]
  methods := #[]
  instanceTypes := #[]
  staticTypes := #[]
  resolved := Array.replicate 11 none
  statics := none }

def pool6 : Array CpInfo := pool [(1, .class_ 2), (0, u "java/lang/constant/ConstantDesc"), (0, .class_ 4), (0, u "java/lang/Object")] 32

/-- java/lang/constant/ConstantDesc -/
def k6 : Class := { plain "java/lang/constant/ConstantDesc" (some 0) with
  accessFlags := 1537
  interfaces := #[]
  cf := some (fileOf pool6 1 #[] #[] 1537 3 #[] #[])
  fields := #[]
  methods := #[]
  instanceTypes := #[]
  staticTypes := #[]
  resolved := Array.replicate 37 none
  statics := none }

def pool7 : Array CpInfo := pool [(1, .methodref 2 3), (0, .class_ 4), (0, .nameAndType 5 6), (0, u "java/lang/Object"), (0, u "<init>"), (0, u "()V"), (0, .string 8), (0, u ""), (0, .fieldref 10 11), (0, .class_ 12), (0, .nameAndType 13 14), (0, u "java/lang/String"), (0, u "value"), (0, u "[B"), (0, .fieldref 10 16), (0, .nameAndType 17 18), (0, u "coder"), (0, u "B"), (2, u "hash"), (0, u "I"), (2, u "hashIsZero"), (0, u "Z"), (0, .methodref 10 28), (0, .nameAndType 5 29), (0, u "([CIILjava/lang/Void;)V"), (8, .fieldref 10 39), (0, .nameAndType 40 26), (0, u "COMPACT_STRINGS"), (1, .class_ 44), (1, u "java/lang/StringUTF16"), (0, u "compress"), (1, .methodref 42 48), (0, .nameAndType 49 50), (0, u "coderFromArrayLen"), (0, u "([BI)B"), (56, .class_ 109), (1, u "java/lang/StringLatin1"), (32, u "()Z"), (34, .methodref 42 178), (0, .nameAndType 45 179), (0, u "([CII)[B"), (154, u "()I"), (0, .methodref 10 336), (0, .nameAndType 17 337), (0, u "()B"), (25, u "([BI)C"), (27, u "(II)V"), (35, u "(I)C"), (64, .methodref 10 493), (0, .nameAndType 494 142), (0, u "isLatin1"), (0, .methodref 107 496), (0, .nameAndType 497 363), (0, u "charAt"), (0, .methodref 42 496), (2, u "checkIndex"), (5, u "length"), (67, .class_ 576), (0, u "java/lang/CharSequence"), (22, u "CASE_INSENSITIVE_ORDER"), (0, u "Ljava/util/Comparator;"), (409, u "([C)V"), (42, .fieldref 1054 1055), (0, .class_ 1056), (0, .nameAndType 1057 1058), (0, u "jdk/internal/util/Preconditions"), (0, u "SIOOBE_FORMATTER"), (0, u "Ljava/util/function/BiFunction;"), (0, .methodref 1054 1060), (0, .nameAndType 501 1061), (0, u "(IILjava/util/function/BiFunction;)I"), (39, u "serialPersistentFields"), (0, u "[Ljava/io/ObjectStreamField;"), (0, .class_ 1104), (0, u "java/lang/String$CaseInsensitiveComparator"), (1, .class_ 1107), (0, u "java/io/Serializable"), (0, .class_ 1109), (0, u "java/lang/Comparable"), (0, .class_ 1111), (0, u "java/lang/constant/Constable"), (0, .class_ 1113), (0, u "java/lang/constant/ConstantDesc"), (2, u "serialVersionUID"), (0, u "J"), (3, u "REPL"), (0, u "C"), (2, u "LATIN1"), (1, u "UTF16")] 323

def k7m0 : Method := { name := "<init>", desc := "()V", sig := { parameters := [], returnType := none }, accessFlags := 1, code := none }
def k7c1 : Code := { maxStack := 5, maxLocals := 2, code := jdk_42_method_3_code, exceptionTable := #[], attributes := #[] }
def k7m1 : Method := { name := "<init>", desc := "([C)V", sig := { parameters := [(.array .char)], returnType := none }, accessFlags := 1, code := some k7c1 }
def k7c2 : Code := { maxStack := 2, maxLocals := 1, code := jdk_42_method_54_code, exceptionTable := #[], attributes := #[] }
def k7m2 : Method := { name := "length", desc := "()I", sig := { parameters := [], returnType := some .int }, accessFlags := 1, code := some k7c2 }
def k7c3 : Code := { maxStack := 2, maxLocals := 2, code := jdk_42_method_56_code, exceptionTable := #[], attributes := #[] }
def k7m3 : Method := { name := "charAt", desc := "(I)C", sig := { parameters := [.int], returnType := some .char }, accessFlags := 1, code := some k7c3 }
def k7c4 : Code := { maxStack := 4, maxLocals := 6, code := jdk_42_method_149_code, exceptionTable := #[], attributes := #[] }
def k7m4 : Method := { name := "<init>", desc := "([CIILjava/lang/Void;)V", sig := { parameters := [(.array .char), .int, .int, (.object "java/lang/Void")], returnType := none }, accessFlags := 2, code := some k7c4 }
def k7c5 : Code := { maxStack := 1, maxLocals := 1, code := jdk_42_method_152_code, exceptionTable := #[], attributes := #[] }
def k7m5 : Method := { name := "coder", desc := "()B", sig := { parameters := [], returnType := some .byte }, accessFlags := 0, code := some k7c5 }
def k7c6 : Code := { maxStack := 1, maxLocals := 1, code := jdk_42_method_154_code, exceptionTable := #[], attributes := #[] }
def k7m6 : Method := { name := "isLatin1", desc := "()Z", sig := { parameters := [], returnType := some .boolean }, accessFlags := 0, code := some k7c6 }
def k7c7 : Code := { maxStack := 3, maxLocals := 2, code := jdk_42_method_155_code, exceptionTable := #[], attributes := #[] }
def k7m7 : Method := { name := "checkIndex", desc := "(II)V", sig := { parameters := [.int, .int], returnType := none }, accessFlags := 8, code := some k7c7 }
/-- java/lang/String -/
def k7 : Class := { plain "java/lang/String" (some 0) with
  accessFlags := 49
  interfaces := #[2, 3, 4, 5, 6]
  cf := some (fileOf pool7 10 #[.nestMembers #[1103]] #[{ accessFlags := 1, nameIndex := 5, descriptorIndex := 6, attributes := #[] }, { accessFlags := 1, nameIndex := 5, descriptorIndex := 1010, attributes := #[] }, { accessFlags := 1, nameIndex := 507, descriptorIndex := 334, attributes := #[] }, { accessFlags := 1, nameIndex := 497, descriptorIndex := 427, attributes := #[] }, { accessFlags := 2, nameIndex := 5, descriptorIndex := 29, attributes := #[] }, { accessFlags := 0, nameIndex := 17, descriptorIndex := 337, attributes := #[] }, { accessFlags := 0, nameIndex := 494, descriptorIndex := 142, attributes := #[] }, { accessFlags := 8, nameIndex := 501, descriptorIndex := 391, attributes := #[] }] 49 2 #[1106, 1108, 575, 1110, 1112] #[{ accessFlags := 18, nameIndex := 13, descriptorIndex := 14, attributes := #[] }, { accessFlags := 18, nameIndex := 17, descriptorIndex := 18, attributes := #[] }, { accessFlags := 2, nameIndex := 21, descriptorIndex := 22, attributes := #[] }, { accessFlags := 2, nameIndex := 25, descriptorIndex := 26, attributes := #[] }, { accessFlags := 26, nameIndex := 1116, descriptorIndex := 1117, attributes := #[] }, { accessFlags := 24, nameIndex := 40, descriptorIndex := 26, attributes := #[] }, { accessFlags := 26, nameIndex := 1101, descriptorIndex := 1102, attributes := #[] }, { accessFlags := 26, nameIndex := 1121, descriptorIndex := 1122, attributes := #[] }, { accessFlags := 25, nameIndex := 599, descriptorIndex := 600, attributes := #[] }, { accessFlags := 24, nameIndex := 1125, descriptorIndex := 18, attributes := #[] }, { accessFlags := 24, nameIndex := 1127, descriptorIndex := 18, attributes := #[] }])
  fields := #[{ name := "value", type := (.array .byte), accessFlags := 18, slot := 0, constantValue := 0 }, { name := "coder", type := .byte, accessFlags := 18, slot := 1, constantValue := 0 }, { name := "hash", type := .int, accessFlags := 2, slot := 2, constantValue := 0 }, { name := "hashIsZero", type := .boolean, accessFlags := 2, slot := 3, constantValue := 0 }, { name := "serialVersionUID", type := .long, accessFlags := 26, slot := 0, constantValue := 0 }, { name := "COMPACT_STRINGS", type := .boolean, accessFlags := 24, slot := 1, constantValue := 0 }, { name := "serialPersistentFields", type := (.array (.object "java/io/ObjectStreamField")), accessFlags := 26, slot := 2, constantValue := 0 }, { name := "REPL", type := .char, accessFlags := 26, slot := 3, constantValue := 0 }, { name := "CASE_INSENSITIVE_ORDER", type := (.object "java/util/Comparator"), accessFlags := 25, slot := 4, constantValue := 0 }, { name := "LATIN1", type := .byte, accessFlags := 24, slot := 5, constantValue := 0 }, { name := "UTF16", type := .byte, accessFlags := 24, slot := 6, constantValue := 0 }]
  methods := #[k7m0, k7m1, k7m2, k7m3, k7m4, k7m5, k7m6, k7m7]
  instanceTypes := #[(.array .byte), .byte, .int, .boolean]
  staticTypes := #[.long, .boolean, (.array (.object "java/io/ObjectStreamField")), .char, (.object "java/util/Comparator"), .byte, .byte]
  resolved := Array.replicate 1451 none
  statics := some 0 }

def pool8 : Array CpInfo := pool [(2, .class_ 4), (1, u "java/lang/Object"), (0, u "<init>"), (0, u "()V"), (0, .methodref 8 9), (0, .class_ 10), (0, .nameAndType 11 12), (0, u "java/lang/String"), (0, u "length"), (0, u "()I"), (0, .methodref 8 14), (0, .nameAndType 15 16), (0, u "charAt"), (0, u "(I)C"), (0, .class_ 18), (0, u "com/example/vetted_hub/vettedhub/MType"), (11, u "(Ljava/lang/String;)Z"), (6, u "isMType"), (3, u "WILDCARD"), (0, u "Ljava/lang/String;"), (1, u "WILDCARD_SUFFIX")] 8

def k8m0 : Method := { name := "<init>", desc := "()V", sig := { parameters := [], returnType := none }, accessFlags := 2, code := none }
def k8c1 : Code := { maxStack := 2, maxLocals := 4, code := prog_18_method_2_code, exceptionTable := #[], attributes := #[] }
def k8m1 : Method := { name := "isMType", desc := "(Ljava/lang/String;)Z", sig := { parameters := [(.object "java/lang/String")], returnType := some .boolean }, accessFlags := 8, code := some k8c1 }
/-- com/example/vetted_hub/vettedhub/MType -/
def k8 : Class := { plain "com/example/vetted_hub/vettedhub/MType" (some 0) with
  accessFlags := 48
  interfaces := #[]
  cf := some (fileOf pool8 17 #[] #[{ accessFlags := 2, nameIndex := 5, descriptorIndex := 6, attributes := #[] }, { accessFlags := 8, nameIndex := 37, descriptorIndex := 30, attributes := #[] }] 48 2 #[] #[{ accessFlags := 26, nameIndex := 41, descriptorIndex := 42, attributes := #[] }, { accessFlags := 26, nameIndex := 44, descriptorIndex := 42, attributes := #[] }])
  fields := #[{ name := "WILDCARD", type := (.object "java/lang/String"), accessFlags := 26, slot := 0, constantValue := 0 }, { name := "WILDCARD_SUFFIX", type := (.object "java/lang/String"), accessFlags := 26, slot := 1, constantValue := 0 }]
  methods := #[k8m0, k8m1]
  instanceTypes := #[]
  staticTypes := #[(.object "java/lang/String"), (.object "java/lang/String")]
  resolved := Array.replicate 53 none
  statics := none }

def pool9 : Array CpInfo := pool [(3, .class_ 4), (0, u "java/lang/String"), (1, .class_ 8), (1, u "java/lang/Object"), (0, u "<init>"), (0, u "()V"), (0, .methodref 12 13), (0, .class_ 14), (0, .nameAndType 15 16), (0, u "java/lang/StringUTF16"), (0, u "newBytesLength"), (0, u "(I)I"), (3, .integer 1073741823), (23, .fieldref 12 45), (0, .nameAndType 46 47), (0, u "$assertionsDisabled"), (0, u "Z"), (0, .methodref 12 49), (0, .nameAndType 50 51), (0, u "length"), (0, u "([B)I"), (7, .fieldref 12 60), (0, .nameAndType 61 62), (0, u "HI_BYTE_SHIFT"), (0, u "I"), (0, .fieldref 12 64), (0, .nameAndType 65 62), (0, u "LO_BYTE_SHIFT"), (1, .methodref 12 68), (0, .nameAndType 69 70), (0, u "checkIndex"), (0, u "(I[B)V"), (0, .methodref 12 72), (0, .nameAndType 73 74), (0, u "getChar"), (0, u "([BI)C"), (32, .methodref 12 108), (0, .nameAndType 109 110), (0, u "newBytesFor"), (0, u "(I)[B"), (0, .methodref 12 112), (0, .nameAndType 113 114), (0, u "putChar"), (0, u "([BII)V"), (0, .methodref 12 116), (0, .nameAndType 117 118), (0, u "compress"), (0, u "([CI[BII)I"), (0, .methodref 12 120), (0, .nameAndType 121 122), (0, u "toBytes"), (0, u "([CII)[B"), (138, u "coderFromArrayLen"), (0, u "([BI)B"), (106, .class_ 371), (1, u "java/lang/StringUTF16$LinesSpliterator"), (20, u "charAt"), (21, .methodref 3 415), (0, .nameAndType 69 416), (0, u "(II)V"), (13, u "MAX_LENGTH"), (196, .class_ 628), (0, u "java/lang/StringUTF16$CodePointsSpliterator"), (0, .class_ 630), (0, u "java/lang/StringUTF16$CharsSpliterator")] 4

def k9m0 : Method := { name := "<init>", desc := "()V", sig := { parameters := [], returnType := none }, accessFlags := 0, code := none }
def k9c1 : Code := { maxStack := 1, maxLocals := 1, code := jdk_52_method_2_code, exceptionTable := #[], attributes := #[] }
def k9m1 : Method := { name := "newBytesFor", desc := "(I)[B", sig := { parameters := [.int], returnType := some (.array .byte) }, accessFlags := 9, code := some k9c1 }
def k9c2 : Code := { maxStack := 4, maxLocals := 1, code := jdk_52_method_3_code, exceptionTable := #[], attributes := #[] }
def k9m2 : Method := { name := "newBytesLength", desc := "(I)I", sig := { parameters := [.int], returnType := some .int }, accessFlags := 9, code := some k9c2 }
def k9c3 : Code := { maxStack := 4, maxLocals := 3, code := jdk_52_method_4_code, exceptionTable := #[], attributes := #[] }
def k9m3 : Method := { name := "putChar", desc := "([BII)V", sig := { parameters := [(.array .byte), .int, .int], returnType := none }, accessFlags := 8, code := some k9c3 }
def k9c4 : Code := { maxStack := 3, maxLocals := 2, code := jdk_52_method_5_code, exceptionTable := #[], attributes := #[] }
def k9m4 : Method := { name := "getChar", desc := "([BI)C", sig := { parameters := [(.array .byte), .int], returnType := some .char }, accessFlags := 8, code := some k9c4 }
def k9c5 : Code := { maxStack := 2, maxLocals := 1, code := jdk_52_method_6_code, exceptionTable := #[], attributes := #[] }
def k9m5 : Method := { name := "length", desc := "([B)I", sig := { parameters := [(.array .byte)], returnType := some .int }, accessFlags := 9, code := some k9c5 }
def k9c6 : Code := { maxStack := 4, maxLocals := 5, code := jdk_52_method_14_code, exceptionTable := #[], attributes := #[] }
def k9m6 : Method := { name := "toBytes", desc := "([CII)[B", sig := { parameters := [(.array .char), .int, .int], returnType := some (.array .byte) }, accessFlags := 9, code := some k9c6 }
def k9c7 : Code := { maxStack := 2, maxLocals := 2, code := jdk_52_method_15_code, exceptionTable := #[], attributes := #[] }
def k9m7 : Method := { name := "coderFromArrayLen", desc := "([BI)B", sig := { parameters := [(.array .byte), .int], returnType := some .byte }, accessFlags := 8, code := some k9c7 }
def k9c8 : Code := { maxStack := 5, maxLocals := 6, code := jdk_52_method_16_code, exceptionTable := #[], attributes := #[] }
def k9m8 : Method := { name := "compress", desc := "([CII)[B", sig := { parameters := [(.array .char), .int, .int], returnType := some (.array .byte) }, accessFlags := 9, code := some k9c8 }
def k9c9 : Code := { maxStack := 3, maxLocals := 7, code := jdk_52_method_21_code, exceptionTable := #[], attributes := #[] }
def k9m9 : Method := { name := "compress", desc := "([CI[BII)I", sig := { parameters := [(.array .char), .int, (.array .byte), .int, .int], returnType := some .int }, accessFlags := 9, code := some k9c9 }
def k9c10 : Code := { maxStack := 2, maxLocals := 2, code := jdk_52_method_83_code, exceptionTable := #[], attributes := #[] }
def k9m10 : Method := { name := "charAt", desc := "([BI)C", sig := { parameters := [(.array .byte), .int], returnType := some .char }, accessFlags := 9, code := some k9c10 }
def k9c11 : Code := { maxStack := 2, maxLocals := 2, code := jdk_52_method_91_code, exceptionTable := #[], attributes := #[] }
def k9m11 : Method := { name := "checkIndex", desc := "(I[B)V", sig := { parameters := [.int, (.array .byte)], returnType := none }, accessFlags := 9, code := some k9c11 }
/-- java/lang/StringUTF16 -/
def k9 : Class := { plain "java/lang/StringUTF16" (some 0) with
  accessFlags := 48
  interfaces := #[]
  cf := some (fileOf pool9 12 #[.nestMembers #[627, 629, 369]] #[{ accessFlags := 0, nameIndex := 9, descriptorIndex := 10, attributes := #[] }, { accessFlags := 9, nameIndex := 109, descriptorIndex := 110, attributes := #[] }, { accessFlags := 9, nameIndex := 15, descriptorIndex := 16, attributes := #[] }, { accessFlags := 8, nameIndex := 113, descriptorIndex := 114, attributes := #[] }, { accessFlags := 8, nameIndex := 73, descriptorIndex := 74, attributes := #[] }, { accessFlags := 9, nameIndex := 50, descriptorIndex := 51, attributes := #[] }, { accessFlags := 9, nameIndex := 121, descriptorIndex := 122, attributes := #[] }, { accessFlags := 8, nameIndex := 261, descriptorIndex := 262, attributes := #[] }, { accessFlags := 9, nameIndex := 117, descriptorIndex := 122, attributes := #[] }, { accessFlags := 9, nameIndex := 117, descriptorIndex := 118, attributes := #[] }, { accessFlags := 9, nameIndex := 392, descriptorIndex := 74, attributes := #[] }, { accessFlags := 9, nameIndex := 69, descriptorIndex := 70, attributes := #[] }] 48 6 #[] #[{ accessFlags := 26, nameIndex := 61, descriptorIndex := 62, attributes := #[] }, { accessFlags := 26, nameIndex := 65, descriptorIndex := 62, attributes := #[] }, { accessFlags := 24, nameIndex := 430, descriptorIndex := 62, attributes := #[] }, { accessFlags := 4120, nameIndex := 46, descriptorIndex := 47, attributes := #[] }])
  fields := #[{ name := "HI_BYTE_SHIFT", type := .int, accessFlags := 26, slot := 0, constantValue := 0 }, { name := "LO_BYTE_SHIFT", type := .int, accessFlags := 26, slot := 1, constantValue := 0 }, { name := "MAX_LENGTH", type := .int, accessFlags := 24, slot := 2, constantValue := 0 }, { name := "$assertionsDisabled", type := .boolean, accessFlags := 4120, slot := 3, constantValue := 0 }]
  methods := #[k9m0, k9m1, k9m2, k9m3, k9m4, k9m5, k9m6, k9m7, k9m8, k9m9, k9m10, k9m11]
  instanceTypes := #[]
  staticTypes := #[.int, .int, .int, .boolean]
  resolved := Array.replicate 635 none
  statics := some 1 }

def pool10 : Array CpInfo := pool [(1, .class_ 2), (0, u "java/lang/String"), (1, .class_ 6), (1, u "java/lang/Object"), (0, u "<init>"), (0, u "()V"), (0, .methodref 1 10), (0, .nameAndType 11 12), (0, u "checkIndex"), (0, u "(II)V"), (1, .class_ 16), (1, u "java/lang/StringLatin1"), (36, u "([BI)C"), (67, u "$assertionsDisabled"), (0, u "Z"), (98, .class_ 223), (1, u "java/lang/StringLatin1$LinesSpliterator"), (28, u "charAt"), (137, .class_ 391), (0, u "java/lang/StringLatin1$CharsSpliterator")] 3

def k10m0 : Method := { name := "<init>", desc := "()V", sig := { parameters := [], returnType := none }, accessFlags := 0, code := none }
def k10c1 : Code := { maxStack := 2, maxLocals := 2, code := jdk_43_method_2_code, exceptionTable := #[], attributes := #[] }
def k10m1 : Method := { name := "charAt", desc := "([BI)C", sig := { parameters := [(.array .byte), .int], returnType := some .char }, accessFlags := 9, code := some k10c1 }
/-- java/lang/StringLatin1 -/
def k10 : Class := { plain "java/lang/StringLatin1" (some 0) with
  accessFlags := 48
  interfaces := #[]
  cf := some (fileOf pool10 14 #[.nestMembers #[390, 221]] #[{ accessFlags := 0, nameIndex := 7, descriptorIndex := 8, attributes := #[] }, { accessFlags := 9, nameIndex := 252, descriptorIndex := 53, attributes := #[] }] 48 4 #[] #[{ accessFlags := 4120, nameIndex := 121, descriptorIndex := 122, attributes := #[] }])
  fields := #[{ name := "$assertionsDisabled", type := .boolean, accessFlags := 4120, slot := 0, constantValue := 0 }]
  methods := #[k10m0, k10m1]
  instanceTypes := #[]
  staticTypes := #[.boolean]
  resolved := Array.replicate 395 none
  statics := none }

def pool11 : Array CpInfo := pool [(2, .class_ 4), (1, u "java/lang/Object"), (0, u "<init>"), (0, u "()V"), (17, .class_ 26), (1, u "jdk/internal/util/Preconditions"), (6, u "checkIndex"), (21, .class_ 56), (0, u "jdk/internal/util/Preconditions$4"), (57, .class_ 115), (0, u "jdk/internal/util/Preconditions$1"), (7, u "SIOOBE_FORMATTER"), (0, u "Ljava/util/function/BiFunction;"), (0, .class_ 126), (0, u "jdk/internal/util/Preconditions$2"), (3, u "AIOOBE_FORMATTER"), (0, .class_ 132), (0, u "jdk/internal/util/Preconditions$3"), (3, u "IOOBE_FORMATTER"), (41, u "(IILjava/util/function/BiFunction;)I")] 15

def k11m0 : Method := { name := "<init>", desc := "()V", sig := { parameters := [], returnType := none }, accessFlags := 1, code := none }
def k11c1 : Code := { maxStack := 3, maxLocals := 3, code := jdk_41_method_11_code, exceptionTable := #[], attributes := #[] }
def k11m1 : Method := { name := "checkIndex", desc := "(IILjava/util/function/BiFunction;)I", sig := { parameters := [.int, .int, (.object "java/util/function/BiFunction")], returnType := some .int }, accessFlags := 9, code := some k11c1 }
/-- jdk/internal/util/Preconditions -/
def k11 : Class := { plain "jdk/internal/util/Preconditions" (some 0) with
  accessFlags := 33
  interfaces := #[]
  cf := some (fileOf pool11 24 #[.nestMembers #[55, 131, 125, 114]] #[{ accessFlags := 1, nameIndex := 5, descriptorIndex := 6, attributes := #[] }, { accessFlags := 9, nameIndex := 33, descriptorIndex := 178, attributes := #[] }] 33 2 #[] #[{ accessFlags := 25, nameIndex := 123, descriptorIndex := 124, attributes := #[] }, { accessFlags := 25, nameIndex := 130, descriptorIndex := 124, attributes := #[] }, { accessFlags := 25, nameIndex := 136, descriptorIndex := 124, attributes := #[] }])
  fields := #[{ name := "SIOOBE_FORMATTER", type := (.object "java/util/function/BiFunction"), accessFlags := 25, slot := 0, constantValue := 0 }, { name := "AIOOBE_FORMATTER", type := (.object "java/util/function/BiFunction"), accessFlags := 25, slot := 1, constantValue := 0 }, { name := "IOOBE_FORMATTER", type := (.object "java/util/function/BiFunction"), accessFlags := 25, slot := 2, constantValue := 0 }]
  methods := #[k11m0, k11m1]
  instanceTypes := #[]
  staticTypes := #[(.object "java/util/function/BiFunction"), (.object "java/util/function/BiFunction"), (.object "java/util/function/BiFunction")]
  resolved := Array.replicate 194 none
  statics := some 2 }

def pool12 : Array CpInfo := pool [(9, u "<init>"), (6, .class_ 18), (1, u "java/lang/Object"), (0, u "()V"), (1, .class_ 23), (1, u "jdk/internal/util/ArraysSupport"), (0, u "LOG2_ARRAY_LONG_INDEX_SCALE"), (0, u "I"), (2, u "U"), (0, u "Ljdk/internal/misc/Unsafe;"), (8, u "BIG_ENDIAN"), (0, u "Z"), (8, u "LOG2_BYTE_BIT_SIZE"), (4, u "LOG2_ARRAY_INT_INDEX_SCALE"), (54, u "JLA"), (0, u "Ljdk/internal/access/JavaLangAccess;"), (11, u "LOG2_ARRAY_BOOLEAN_INDEX_SCALE"), (9, u "LOG2_ARRAY_BYTE_INDEX_SCALE"), (5, u "LOG2_ARRAY_CHAR_INDEX_SCALE"), (5, u "LOG2_ARRAY_SHORT_INDEX_SCALE"), (18, u "LOG2_ARRAY_FLOAT_INDEX_SCALE"), (24, u "LOG2_ARRAY_DOUBLE_INDEX_SCALE"), (89, u "T_BOOLEAN"), (2, u "T_CHAR"), (1, u "T_FLOAT"), (1, u "T_DOUBLE"), (1, u "T_BYTE"), (1, u "T_SHORT"), (1, u "T_INT"), (1, u "T_LONG"), (1, u "SOFT_MAX_ARRAY_LENGTH")] 83

def k12m0 : Method := { name := "<init>", desc := "()V", sig := { parameters := [], returnType := none }, accessFlags := 2, code := none }
/-- jdk/internal/util/ArraysSupport -/
def k12 : Class := { plain "jdk/internal/util/ArraysSupport" (some 0) with
  accessFlags := 33
  interfaces := #[]
  cf := some (fileOf pool12 21 #[] #[{ accessFlags := 2, nameIndex := 9, descriptorIndex := 19, attributes := #[] }] 33 16 #[] #[{ accessFlags := 24, nameIndex := 28, descriptorIndex := 29, attributes := #[] }, { accessFlags := 26, nameIndex := 38, descriptorIndex := 39, attributes := #[] }, { accessFlags := 25, nameIndex := 121, descriptorIndex := 25, attributes := #[] }, { accessFlags := 25, nameIndex := 131, descriptorIndex := 25, attributes := #[] }, { accessFlags := 25, nameIndex := 137, descriptorIndex := 25, attributes := #[] }, { accessFlags := 25, nameIndex := 143, descriptorIndex := 25, attributes := #[] }, { accessFlags := 25, nameIndex := 53, descriptorIndex := 25, attributes := #[] }, { accessFlags := 25, nameIndex := 24, descriptorIndex := 25, attributes := #[] }, { accessFlags := 25, nameIndex := 162, descriptorIndex := 25, attributes := #[] }, { accessFlags := 25, nameIndex := 187, descriptorIndex := 25, attributes := #[] }, { accessFlags := 26, nameIndex := 48, descriptorIndex := 25, attributes := #[] }, { accessFlags := 25, nameIndex := 277, descriptorIndex := 25, attributes := #[] }, { accessFlags := 25, nameIndex := 280, descriptorIndex := 25, attributes := #[] }, { accessFlags := 25, nameIndex := 282, descriptorIndex := 25, attributes := #[] }, { accessFlags := 25, nameIndex := 284, descriptorIndex := 25, attributes := #[] }, { accessFlags := 25, nameIndex := 286, descriptorIndex := 25, attributes := #[] }, { accessFlags := 25, nameIndex := 288, descriptorIndex := 25, attributes := #[] }, { accessFlags := 25, nameIndex := 290, descriptorIndex := 25, attributes := #[] }, { accessFlags := 25, nameIndex := 292, descriptorIndex := 25, attributes := #[] }, { accessFlags := 26, nameIndex := 108, descriptorIndex := 109, attributes := #[] }, { accessFlags := 25, nameIndex := 294, descriptorIndex := 25, attributes := #[] }])
  fields := #[{ name := "U", type := (.object "jdk/internal/misc/Unsafe"), accessFlags := 24, slot := 0, constantValue := 0 }, { name := "BIG_ENDIAN", type := .boolean, accessFlags := 26, slot := 1, constantValue := 0 }, { name := "LOG2_ARRAY_BOOLEAN_INDEX_SCALE", type := .int, accessFlags := 25, slot := 2, constantValue := 0 }, { name := "LOG2_ARRAY_BYTE_INDEX_SCALE", type := .int, accessFlags := 25, slot := 3, constantValue := 0 }, { name := "LOG2_ARRAY_CHAR_INDEX_SCALE", type := .int, accessFlags := 25, slot := 4, constantValue := 0 }, { name := "LOG2_ARRAY_SHORT_INDEX_SCALE", type := .int, accessFlags := 25, slot := 5, constantValue := 0 }, { name := "LOG2_ARRAY_INT_INDEX_SCALE", type := .int, accessFlags := 25, slot := 6, constantValue := 0 }, { name := "LOG2_ARRAY_LONG_INDEX_SCALE", type := .int, accessFlags := 25, slot := 7, constantValue := 0 }, { name := "LOG2_ARRAY_FLOAT_INDEX_SCALE", type := .int, accessFlags := 25, slot := 8, constantValue := 0 }, { name := "LOG2_ARRAY_DOUBLE_INDEX_SCALE", type := .int, accessFlags := 25, slot := 9, constantValue := 0 }, { name := "LOG2_BYTE_BIT_SIZE", type := .int, accessFlags := 26, slot := 10, constantValue := 0 }, { name := "T_BOOLEAN", type := .int, accessFlags := 25, slot := 11, constantValue := 0 }, { name := "T_CHAR", type := .int, accessFlags := 25, slot := 12, constantValue := 0 }, { name := "T_FLOAT", type := .int, accessFlags := 25, slot := 13, constantValue := 0 }, { name := "T_DOUBLE", type := .int, accessFlags := 25, slot := 14, constantValue := 0 }, { name := "T_BYTE", type := .int, accessFlags := 25, slot := 15, constantValue := 0 }, { name := "T_SHORT", type := .int, accessFlags := 25, slot := 16, constantValue := 0 }, { name := "T_INT", type := .int, accessFlags := 25, slot := 17, constantValue := 0 }, { name := "T_LONG", type := .int, accessFlags := 25, slot := 18, constantValue := 0 }, { name := "JLA", type := (.object "jdk/internal/access/JavaLangAccess"), accessFlags := 26, slot := 19, constantValue := 0 }, { name := "SOFT_MAX_ARRAY_LENGTH", type := .int, accessFlags := 25, slot := 20, constantValue := 0 }]
  methods := #[k12m0]
  instanceTypes := #[]
  staticTypes := #[(.object "jdk/internal/misc/Unsafe"), .boolean, .int, .int, .int, .int, .int, .int, .int, .int, .int, .int, .int, .int, .int, .int, .int, .int, .int, (.object "jdk/internal/access/JavaLangAccess"), .int]
  resolved := Array.replicate 378 none
  statics := none }

def pool13 : Array CpInfo := pool [(1, u "java/lang/Cloneable"), (0, .class_ 1), (0, u "java/lang/Object"), (0, .class_ 3)] 3

/-- java/lang/Cloneable -/
def k13 : Class := { plain "java/lang/Cloneable" (some 0) with
  accessFlags := 1537
  interfaces := #[]
  cf := some (fileOf pool13 2 #[] #[] 1537 4 #[] #[])
  fields := #[]
  methods := #[]
  instanceTypes := #[]
  staticTypes := #[]
  resolved := Array.replicate 8 none
  statics := none }

/-- the primitive byte -/
def k14 : Class := { plain "byte" none with kind := .primitive 'B', accessFlags := 0x411 }
/-- [B -/
def k15 : Class := { plain "[B" (some 0) with kind := .array 14 .byte, interfaces := #[13, 2], accessFlags := 1041 }

/-- the primitive char -/
def k16 : Class := { plain "char" none with kind := .primitive 'C', accessFlags := 0x411 }
/-- [C -/
def k17 : Class := { plain "[C" (some 0) with kind := .array 16 .char, interfaces := #[13, 2], accessFlags := 1041 }

/-- the primitive int -/
def k18 : Class := { plain "int" none with kind := .primitive 'I', accessFlags := 0x411 }
/-- [I -/
def k19 : Class := { plain "[I" (some 0) with kind := .array 18 .int, interfaces := #[13, 2], accessFlags := 1041 }

def heap : Heap := #[{ cls := 7, slots := #[.long 0, .int 1, .null, .int 0, .null, .int 0, .int 0], vm := .statics 7 },
  { cls := 9, slots := #[.int 0, .int 8, .int 0, .int 1], vm := .statics 9 },
  { cls := 11, slots := #[.null, .null, .null], vm := .statics 11 }]
def classes : Array Class := #[k0, k1, k2, k3, k4, k5, k6, k7, k8, k9, k10, k11, k12, k13, k14, k15, k16, k17, k18, k19]
def interned : List (Array UInt16 × Addr) := []
def slotsUsed : Nat := 14
def theMethod : MethodId := ⟨1, 3⟩
def args0 : Array Value := #[.int 5, .int 6, .int 7, .int 8, .int 9]
def aboutOver (below : List Frame) : State where
  vm := { classes := classes, interned := interned.toArray }
  heap := heap
  slotsUsed := slotsUsed
  threads := #[{ frames := .invoking theMethod args0 :: below }]
def below0 : List Frame := [.native { method := ⟨0, 0⟩, args := #[] }]
def about1 : State := aboutOver below0
def p0 : Program := .bare "" "" ""
def e0 : Env := launch0.env 0 0 0
theorem w_frames : about1.frames = Frame.invoking theMethod args0 :: below0 := rfl
set_option maxRecDepth 65536 in
theorem w_args : argsFit about1.vm theMethod args0 = true := by decide +kernel
set_option maxRecDepth 65536 in
theorem w_heap : heapFits about1 = true := by decide +kernel
set_option maxRecDepth 65536 in
theorem w_runnable : about1.curStatus? = some .runnable := by decide +kernel
set_option maxRecDepth 65536 in
theorem w_alone : about1.alone = true := by decide +kernel
set_option maxRecDepth 65536 in
theorem w_named : about1.methodNamed? x = some theMethod := by decide +kernel
set_option maxRecDepth 65536 in
theorem w_hears : about1.hears theMethod below0 = true := by decide +kernel
set_option maxRecDepth 65536 in
theorem w_ripe : about1.ripe theMethod args0 below0 = true := by decide +kernel
theorem w_running : about1.status = .running := rfl
set_option maxRecDepth 65536 in
theorem w_room : about1.hasRoom e0.platform room_1 = true :=
  launch0.hasRoom_least _ room_1 (by decide +kernel) (by decide +kernel) (by decide +kernel) (by decide +kernel) (by decide +kernel) (by decide +kernel)
theorem allAtoms_all (ts : List Jvm.Cond) (a : Array Jvm.Value) (st : Jvm.State) : (allAtoms ts).before a st = ts.all (fun c => c.before a st) := by
  induction ts with
  | nil => rfl
  | cons c t ih =>
    show (Jvm.Cond.and c (allAtoms t)).before a st = _
    rw [Jvm.Cond.before_and, ih, List.all_cons]
def words1 : List Jvm.Cond := Jvm.Cond.code x code maxLocals ret :: tables_1
/-- a 'code' word, met by the world's own term for the bytes: nothing is compared byte by byte -/
theorem code_word {y : MethodName} {bytes : ByteArray} {mx : Nat} {rt : Option FieldType} {a : Array Value} {s : State} {m : MethodId} {meth : Method} {c : Code} (h1 : s.methodNamed? y = some m) (h2 : s.vm.method? m = some meth) (h3 : meth.code = some c) (h4 : c.code = bytes)
    (h5 : (c.maxLocals == mx && c.exceptionTable.isEmpty && decide (c.maxStack ≤ mostOperands) && decide (meth.sig.returnType = rt) && !meth.locks && decide (parseMethodDescriptor y.desc = some meth.sig)) = true) : (Jvm.Cond.code y bytes mx rt).before a s = true := by
  simp only [Bool.and_eq_true, beq_iff_eq, Bool.not_eq_true', decide_eq_true_eq] at h5
  obtain ⟨⟨⟨⟨⟨g1, g2⟩, g3⟩, g4⟩, g5⟩, g6⟩ := h5
  simp [Cond.before, Cond.holds, Cond.value, h1, h2, h3, h4, g1, g2, g3, g4, g5, g6]
def isCode : Jvm.Cond → Bool
  | .code _ _ _ _ => true
  | _ => false
theorem all_split {L : List Jvm.Cond} {P : Jvm.Cond → Bool} (h1 : L.all (fun c => isCode c || P c) = true) (h2 : ∀ c ∈ L.filter isCode, P c = true) : L.all P = true := by
  refine List.all_eq_true.mpr fun c hc => ?_
  have h := List.all_eq_true.mp h1 c hc
  rcases Bool.eq_false_or_eq_true (isCode c) with hi | hi
  · exact h2 c (List.mem_filter.mpr ⟨hc, hi⟩)
  · simpa [hi] using h
set_option maxRecDepth 65536 in
theorem w_c0 : (Jvm.Cond.code x code maxLocals ret).before args0 about1 = true := code_word (m := ⟨1, 3⟩) (meth := k1m3) (c := k1c3) (by decide +kernel) rfl rfl rfl (by decide +kernel)
set_option maxRecDepth 65536 in
theorem w_c1 : (Jvm.Cond.code ({ cls := "java/lang/String", name := "<init>", desc := "([C)V" } : Jvm.MethodName) jdk_42_method_3_code (2 : Nat) (Option.none : Option Jvm.ClassFile.FieldType)).before args0 about1 = true := code_word (m := ⟨7, 1⟩) (meth := k7m1) (c := k7c1) (by decide +kernel) rfl rfl rfl (by decide +kernel)
set_option maxRecDepth 65536 in
theorem w_c2 : (Jvm.Cond.code ({ cls := "java/lang/String", name := "<init>", desc := "([CIILjava/lang/Void;)V" } : Jvm.MethodName) jdk_42_method_149_code (6 : Nat) (Option.none : Option Jvm.ClassFile.FieldType)).before args0 about1 = true := code_word (m := ⟨7, 4⟩) (meth := k7m4) (c := k7c4) (by decide +kernel) rfl rfl rfl (by decide +kernel)
set_option maxRecDepth 65536 in
theorem w_c3 : (Jvm.Cond.code ({ cls := "java/lang/Object", name := "<init>", desc := "()V" } : Jvm.MethodName) object_method_1_code (1 : Nat) (Option.none : Option Jvm.ClassFile.FieldType)).before args0 about1 = true := code_word (m := ⟨0, 0⟩) (meth := k0m0) (c := k0c0) (by decide +kernel) rfl rfl rfl (by decide +kernel)
set_option maxRecDepth 65536 in
theorem w_c4 : (Jvm.Cond.code ({ cls := "com/example/vetted_hub/vettedhub/MType", name := "isMType", desc := "(Ljava/lang/String;)Z" } : Jvm.MethodName) prog_18_method_2_code (4 : Nat) (Option.some Jvm.ClassFile.FieldType.boolean)).before args0 about1 = true := code_word (m := ⟨8, 1⟩) (meth := k8m1) (c := k8c1) (by decide +kernel) rfl rfl rfl (by decide +kernel)
set_option maxRecDepth 65536 in
theorem w_c5 : (Jvm.Cond.code ({ cls := "java/lang/String", name := "length", desc := "()I" } : Jvm.MethodName) jdk_42_method_54_code (1 : Nat) (Option.some Jvm.ClassFile.FieldType.int)).before args0 about1 = true := code_word (m := ⟨7, 2⟩) (meth := k7m2) (c := k7c2) (by decide +kernel) rfl rfl rfl (by decide +kernel)
set_option maxRecDepth 65536 in
theorem w_c6 : (Jvm.Cond.code ({ cls := "java/lang/String", name := "coder", desc := "()B" } : Jvm.MethodName) jdk_42_method_152_code (1 : Nat) (Option.some Jvm.ClassFile.FieldType.byte)).before args0 about1 = true := code_word (m := ⟨7, 5⟩) (meth := k7m5) (c := k7c5) (by decide +kernel) rfl rfl rfl (by decide +kernel)
set_option maxRecDepth 65536 in
theorem w_c7 : (Jvm.Cond.code ({ cls := "java/lang/StringUTF16", name := "compress", desc := "([CII)[B" } : Jvm.MethodName) jdk_52_method_16_code (6 : Nat) (Option.some (Jvm.ClassFile.FieldType.array Jvm.ClassFile.FieldType.byte))).before args0 about1 = true := code_word (m := ⟨9, 8⟩) (meth := k9m8) (c := k9c8) (by decide +kernel) rfl rfl rfl (by decide +kernel)
set_option maxRecDepth 65536 in
theorem w_c8 : (Jvm.Cond.code ({ cls := "java/lang/StringUTF16", name := "compress", desc := "([CI[BII)I" } : Jvm.MethodName) jdk_52_method_21_code (7 : Nat) (Option.some Jvm.ClassFile.FieldType.int)).before args0 about1 = true := code_word (m := ⟨9, 9⟩) (meth := k9m9) (c := k9c9) (by decide +kernel) rfl rfl rfl (by decide +kernel)
set_option maxRecDepth 65536 in
theorem w_c9 : (Jvm.Cond.code ({ cls := "java/lang/StringUTF16", name := "coderFromArrayLen", desc := "([BI)B" } : Jvm.MethodName) jdk_52_method_15_code (2 : Nat) (Option.some Jvm.ClassFile.FieldType.byte)).before args0 about1 = true := code_word (m := ⟨9, 7⟩) (meth := k9m7) (c := k9c7) (by decide +kernel) rfl rfl rfl (by decide +kernel)
set_option maxRecDepth 65536 in
theorem w_c10 : (Jvm.Cond.code ({ cls := "java/lang/String", name := "charAt", desc := "(I)C" } : Jvm.MethodName) jdk_42_method_56_code (2 : Nat) (Option.some Jvm.ClassFile.FieldType.char)).before args0 about1 = true := code_word (m := ⟨7, 3⟩) (meth := k7m3) (c := k7c3) (by decide +kernel) rfl rfl rfl (by decide +kernel)
set_option maxRecDepth 65536 in
theorem w_c11 : (Jvm.Cond.code ({ cls := "java/lang/String", name := "isLatin1", desc := "()Z" } : Jvm.MethodName) jdk_42_method_154_code (1 : Nat) (Option.some Jvm.ClassFile.FieldType.boolean)).before args0 about1 = true := code_word (m := ⟨7, 6⟩) (meth := k7m6) (c := k7c6) (by decide +kernel) rfl rfl rfl (by decide +kernel)
set_option maxRecDepth 65536 in
theorem w_c12 : (Jvm.Cond.code ({ cls := "java/lang/StringLatin1", name := "charAt", desc := "([BI)C" } : Jvm.MethodName) jdk_43_method_2_code (2 : Nat) (Option.some Jvm.ClassFile.FieldType.char)).before args0 about1 = true := code_word (m := ⟨10, 1⟩) (meth := k10m1) (c := k10c1) (by decide +kernel) rfl rfl rfl (by decide +kernel)
set_option maxRecDepth 65536 in
theorem w_c13 : (Jvm.Cond.code ({ cls := "java/lang/String", name := "checkIndex", desc := "(II)V" } : Jvm.MethodName) jdk_42_method_155_code (2 : Nat) (Option.none : Option Jvm.ClassFile.FieldType)).before args0 about1 = true := code_word (m := ⟨7, 7⟩) (meth := k7m7) (c := k7c7) (by decide +kernel) rfl rfl rfl (by decide +kernel)
set_option maxRecDepth 65536 in
theorem w_c14 : (Jvm.Cond.code ({ cls := "jdk/internal/util/Preconditions", name := "checkIndex", desc := "(IILjava/util/function/BiFunction;)I" } : Jvm.MethodName) jdk_41_method_11_code (3 : Nat) (Option.some Jvm.ClassFile.FieldType.int)).before args0 about1 = true := code_word (m := ⟨11, 1⟩) (meth := k11m1) (c := k11c1) (by decide +kernel) rfl rfl rfl (by decide +kernel)
set_option maxRecDepth 65536 in
theorem w_c15 : (Jvm.Cond.code ({ cls := "com/example/vetted_hub/vettedhub/MTypeIsMTypePinLaw", name := "legal", desc := "(C)Z" } : Jvm.MethodName) method_3_code (1 : Nat) (Option.some Jvm.ClassFile.FieldType.boolean)).before args0 about1 = true := code_word (m := ⟨1, 2⟩) (meth := k1m2) (c := k1c2) (by decide +kernel) rfl rfl rfl (by decide +kernel)
set_option maxRecDepth 65536 in
theorem w_c16 : (Jvm.Cond.code ({ cls := "com/example/vetted_hub/vettedhub/MTypeIsMTypePinLaw", name := "atomChar", desc := "(C)Z" } : Jvm.MethodName) method_2_code (1 : Nat) (Option.some Jvm.ClassFile.FieldType.boolean)).before args0 about1 = true := code_word (m := ⟨1, 1⟩) (meth := k1m1) (c := k1c1) (by decide +kernel) rfl rfl rfl (by decide +kernel)
set_option maxRecDepth 65536 in
theorem w_c17 : (Jvm.Cond.code ({ cls := "java/lang/StringUTF16", name := "toBytes", desc := "([CII)[B" } : Jvm.MethodName) jdk_52_method_14_code (5 : Nat) (Option.some (Jvm.ClassFile.FieldType.array Jvm.ClassFile.FieldType.byte))).before args0 about1 = true := code_word (m := ⟨9, 6⟩) (meth := k9m6) (c := k9c6) (by decide +kernel) rfl rfl rfl (by decide +kernel)
set_option maxRecDepth 65536 in
theorem w_c18 : (Jvm.Cond.code ({ cls := "java/lang/StringUTF16", name := "newBytesFor", desc := "(I)[B" } : Jvm.MethodName) jdk_52_method_2_code (1 : Nat) (Option.some (Jvm.ClassFile.FieldType.array Jvm.ClassFile.FieldType.byte))).before args0 about1 = true := code_word (m := ⟨9, 1⟩) (meth := k9m1) (c := k9c1) (by decide +kernel) rfl rfl rfl (by decide +kernel)
set_option maxRecDepth 65536 in
theorem w_c19 : (Jvm.Cond.code ({ cls := "java/lang/StringUTF16", name := "newBytesLength", desc := "(I)I" } : Jvm.MethodName) jdk_52_method_3_code (1 : Nat) (Option.some Jvm.ClassFile.FieldType.int)).before args0 about1 = true := code_word (m := ⟨9, 2⟩) (meth := k9m2) (c := k9c2) (by decide +kernel) rfl rfl rfl (by decide +kernel)
set_option maxRecDepth 65536 in
theorem w_c20 : (Jvm.Cond.code ({ cls := "java/lang/StringUTF16", name := "putChar", desc := "([BII)V" } : Jvm.MethodName) jdk_52_method_4_code (3 : Nat) (Option.none : Option Jvm.ClassFile.FieldType)).before args0 about1 = true := code_word (m := ⟨9, 3⟩) (meth := k9m3) (c := k9c3) (by decide +kernel) rfl rfl rfl (by decide +kernel)
set_option maxRecDepth 65536 in
theorem w_c21 : (Jvm.Cond.code ({ cls := "java/lang/StringUTF16", name := "getChar", desc := "([BI)C" } : Jvm.MethodName) jdk_52_method_5_code (2 : Nat) (Option.some Jvm.ClassFile.FieldType.char)).before args0 about1 = true := code_word (m := ⟨9, 4⟩) (meth := k9m4) (c := k9c4) (by decide +kernel) rfl rfl rfl (by decide +kernel)
set_option maxRecDepth 65536 in
theorem w_c22 : (Jvm.Cond.code ({ cls := "java/lang/StringUTF16", name := "charAt", desc := "([BI)C" } : Jvm.MethodName) jdk_52_method_83_code (2 : Nat) (Option.some Jvm.ClassFile.FieldType.char)).before args0 about1 = true := code_word (m := ⟨9, 10⟩) (meth := k9m10) (c := k9c10) (by decide +kernel) rfl rfl rfl (by decide +kernel)
set_option maxRecDepth 65536 in
theorem w_c23 : (Jvm.Cond.code ({ cls := "java/lang/StringUTF16", name := "checkIndex", desc := "(I[B)V" } : Jvm.MethodName) jdk_52_method_91_code (2 : Nat) (Option.none : Option Jvm.ClassFile.FieldType)).before args0 about1 = true := code_word (m := ⟨9, 11⟩) (meth := k9m11) (c := k9c11) (by decide +kernel) rfl rfl rfl (by decide +kernel)
set_option maxRecDepth 65536 in
theorem w_c24 : (Jvm.Cond.code ({ cls := "java/lang/StringUTF16", name := "length", desc := "([B)I" } : Jvm.MethodName) jdk_52_method_6_code (1 : Nat) (Option.some Jvm.ClassFile.FieldType.int)).before args0 about1 = true := code_word (m := ⟨9, 5⟩) (meth := k9m5) (c := k9c5) (by decide +kernel) rfl rfl rfl (by decide +kernel)
def codes1 : List Jvm.Cond := [Jvm.Cond.code x code maxLocals ret, Jvm.Cond.code ({ cls := "java/lang/String", name := "<init>", desc := "([C)V" } : Jvm.MethodName) jdk_42_method_3_code (2 : Nat) (Option.none : Option Jvm.ClassFile.FieldType), Jvm.Cond.code ({ cls := "java/lang/String", name := "<init>", desc := "([CIILjava/lang/Void;)V" } : Jvm.MethodName) jdk_42_method_149_code (6 : Nat) (Option.none : Option Jvm.ClassFile.FieldType), Jvm.Cond.code ({ cls := "java/lang/Object", name := "<init>", desc := "()V" } : Jvm.MethodName) object_method_1_code (1 : Nat) (Option.none : Option Jvm.ClassFile.FieldType), Jvm.Cond.code ({ cls := "com/example/vetted_hub/vettedhub/MType", name := "isMType", desc := "(Ljava/lang/String;)Z" } : Jvm.MethodName) prog_18_method_2_code (4 : Nat) (Option.some Jvm.ClassFile.FieldType.boolean), Jvm.Cond.code ({ cls := "java/lang/String", name := "length", desc := "()I" } : Jvm.MethodName) jdk_42_method_54_code (1 : Nat) (Option.some Jvm.ClassFile.FieldType.int), Jvm.Cond.code ({ cls := "java/lang/String", name := "coder", desc := "()B" } : Jvm.MethodName) jdk_42_method_152_code (1 : Nat) (Option.some Jvm.ClassFile.FieldType.byte), Jvm.Cond.code ({ cls := "java/lang/StringUTF16", name := "compress", desc := "([CII)[B" } : Jvm.MethodName) jdk_52_method_16_code (6 : Nat) (Option.some (Jvm.ClassFile.FieldType.array Jvm.ClassFile.FieldType.byte)), Jvm.Cond.code ({ cls := "java/lang/StringUTF16", name := "compress", desc := "([CI[BII)I" } : Jvm.MethodName) jdk_52_method_21_code (7 : Nat) (Option.some Jvm.ClassFile.FieldType.int), Jvm.Cond.code ({ cls := "java/lang/StringUTF16", name := "coderFromArrayLen", desc := "([BI)B" } : Jvm.MethodName) jdk_52_method_15_code (2 : Nat) (Option.some Jvm.ClassFile.FieldType.byte), Jvm.Cond.code ({ cls := "java/lang/String", name := "charAt", desc := "(I)C" } : Jvm.MethodName) jdk_42_method_56_code (2 : Nat) (Option.some Jvm.ClassFile.FieldType.char), Jvm.Cond.code ({ cls := "java/lang/String", name := "isLatin1", desc := "()Z" } : Jvm.MethodName) jdk_42_method_154_code (1 : Nat) (Option.some Jvm.ClassFile.FieldType.boolean), Jvm.Cond.code ({ cls := "java/lang/StringLatin1", name := "charAt", desc := "([BI)C" } : Jvm.MethodName) jdk_43_method_2_code (2 : Nat) (Option.some Jvm.ClassFile.FieldType.char), Jvm.Cond.code ({ cls := "java/lang/String", name := "checkIndex", desc := "(II)V" } : Jvm.MethodName) jdk_42_method_155_code (2 : Nat) (Option.none : Option Jvm.ClassFile.FieldType), Jvm.Cond.code ({ cls := "jdk/internal/util/Preconditions", name := "checkIndex", desc := "(IILjava/util/function/BiFunction;)I" } : Jvm.MethodName) jdk_41_method_11_code (3 : Nat) (Option.some Jvm.ClassFile.FieldType.int), Jvm.Cond.code ({ cls := "com/example/vetted_hub/vettedhub/MTypeIsMTypePinLaw", name := "legal", desc := "(C)Z" } : Jvm.MethodName) method_3_code (1 : Nat) (Option.some Jvm.ClassFile.FieldType.boolean), Jvm.Cond.code ({ cls := "com/example/vetted_hub/vettedhub/MTypeIsMTypePinLaw", name := "atomChar", desc := "(C)Z" } : Jvm.MethodName) method_2_code (1 : Nat) (Option.some Jvm.ClassFile.FieldType.boolean), Jvm.Cond.code ({ cls := "java/lang/StringUTF16", name := "toBytes", desc := "([CII)[B" } : Jvm.MethodName) jdk_52_method_14_code (5 : Nat) (Option.some (Jvm.ClassFile.FieldType.array Jvm.ClassFile.FieldType.byte)), Jvm.Cond.code ({ cls := "java/lang/StringUTF16", name := "newBytesFor", desc := "(I)[B" } : Jvm.MethodName) jdk_52_method_2_code (1 : Nat) (Option.some (Jvm.ClassFile.FieldType.array Jvm.ClassFile.FieldType.byte)), Jvm.Cond.code ({ cls := "java/lang/StringUTF16", name := "newBytesLength", desc := "(I)I" } : Jvm.MethodName) jdk_52_method_3_code (1 : Nat) (Option.some Jvm.ClassFile.FieldType.int), Jvm.Cond.code ({ cls := "java/lang/StringUTF16", name := "putChar", desc := "([BII)V" } : Jvm.MethodName) jdk_52_method_4_code (3 : Nat) (Option.none : Option Jvm.ClassFile.FieldType), Jvm.Cond.code ({ cls := "java/lang/StringUTF16", name := "getChar", desc := "([BI)C" } : Jvm.MethodName) jdk_52_method_5_code (2 : Nat) (Option.some Jvm.ClassFile.FieldType.char), Jvm.Cond.code ({ cls := "java/lang/StringUTF16", name := "charAt", desc := "([BI)C" } : Jvm.MethodName) jdk_52_method_83_code (2 : Nat) (Option.some Jvm.ClassFile.FieldType.char), Jvm.Cond.code ({ cls := "java/lang/StringUTF16", name := "checkIndex", desc := "(I[B)V" } : Jvm.MethodName) jdk_52_method_91_code (2 : Nat) (Option.none : Option Jvm.ClassFile.FieldType), Jvm.Cond.code ({ cls := "java/lang/StringUTF16", name := "length", desc := "([B)I" } : Jvm.MethodName) jdk_52_method_6_code (1 : Nat) (Option.some Jvm.ClassFile.FieldType.int)]
set_option maxRecDepth 65536 in
theorem codes_eq : words1.filter isCode = codes1 := rfl
theorem w_codes : ∀ c ∈ words1.filter isCode, c.before args0 about1 = true := by
  rw [codes_eq]
  intro c hc
  simp only [codes1, List.mem_cons, List.not_mem_nil, or_false] at hc
  rcases hc with rfl | rfl | rfl | rfl | rfl | rfl | rfl | rfl | rfl | rfl | rfl | rfl | rfl | rfl | rfl | rfl | rfl | rfl | rfl | rfl | rfl | rfl | rfl | rfl | rfl
  · exact w_c0
  · exact w_c1
  · exact w_c2
  · exact w_c3
  · exact w_c4
  · exact w_c5
  · exact w_c6
  · exact w_c7
  · exact w_c8
  · exact w_c9
  · exact w_c10
  · exact w_c11
  · exact w_c12
  · exact w_c13
  · exact w_c14
  · exact w_c15
  · exact w_c16
  · exact w_c17
  · exact w_c18
  · exact w_c19
  · exact w_c20
  · exact w_c21
  · exact w_c22
  · exact w_c23
  · exact w_c24
set_option maxRecDepth 65536 in
theorem w_t1 : (words1.take 24).all (fun c => isCode c || c.before args0 about1) = true := by decide +kernel
set_option maxRecDepth 65536 in
theorem w_t2 : ((words1.drop 24).take 24).all (fun c => isCode c || c.before args0 about1) = true := by decide +kernel
set_option maxRecDepth 65536 in
theorem w_t3 : (((words1.drop 24).drop 24).take 24).all (fun c => isCode c || c.before args0 about1) = true := by decide +kernel
set_option maxRecDepth 65536 in
theorem w_t4 : ((((words1.drop 24).drop 24).drop 24).take 24).all (fun c => isCode c || c.before args0 about1) = true := by decide +kernel
set_option maxRecDepth 65536 in
theorem w_t5 : ((((words1.drop 24).drop 24).drop 24).drop 24).all (fun c => isCode c || c.before args0 about1) = true := by decide +kernel
theorem w_tables : (allAtoms (Jvm.Cond.code x code maxLocals ret :: tables_1)).before args0 about1 = true := by
  rw [allAtoms_all]
  show words1.all (fun c => c.before args0 about1) = true
  refine all_split ?_ w_codes
  rw [← List.take_append_drop 24 words1, List.all_append, w_t1, ← List.take_append_drop 24 (words1.drop 24), List.all_append, w_t2, ← List.take_append_drop 24 ((words1.drop 24).drop 24), List.all_append, w_t3, ← List.take_append_drop 24 (((words1.drop 24).drop 24).drop 24), List.all_append, w_t4, w_t5]
  rfl
set_option maxRecDepth 65536 in
theorem w_rest : rest_1_c.before args0 about1 = true := by decide +kernel
set_option maxRecDepth 65536 in
theorem w_case : (Jvm.Cond.and given_1 narrow_1).before args0 about1 = true := by decide +kernel
set_option maxRecDepth 65536 in
theorem w_consts : constsHeld consts_1 about1 := Jvm.Lit.constsHeldB_iff.mp (by decide +kernel)
theorem w_applies : (headSpec (Jvm.Cond.code x code maxLocals ret :: tables_1) room_1).applies x e0.platform about1 = true :=
  (Spec.applies_iff w_frames).mpr ⟨w_running, w_runnable, w_alone, w_named, w_hears, w_ripe, w_room, w_tables⟩
theorem atStart : AtStart classFile x code maxLocals ret World_1 tables_1 room_1 Calls_1 rest_1 Pre_1 launch0 p0 e0 about1 theMethod args0 below0 :=
  ⟨lists_1, trivial, launch0.admits_env _ _ _, launch0.least_env, fairChoices_fair.cas, fairChoices_fair.clock, w_frames, w_args, w_heap, w_applies, ⟨w_consts, trivial⟩, w_rest, w_case⟩
end start1
theorem witness_1 : WitnessClaimed_1 := ⟨start1.p0, start1.e0, start1.about1, start1.theMethod, start1.args0, start1.below0, start1.atStart⟩
end Jvm.Pilot.@@N@@
