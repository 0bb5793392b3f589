import JvmDerived
import JvmDerived.Pilot.@@N@@Statement
import JvmDerived.Pilot.@@N@@Code
set_option linter.unusedVariables false
set_option linter.unusedSimpArgs false
namespace Jvm.Pilot.@@N@@
open Jvm Jvm.ClassFile Sem Op Lib Jvm.Free Jvm.Stand Jvm.LawKit Jvm.RoadKit Bundle Jvm.Pilot.@@N@@.Jvm.D

section Own
variable {p : Program} {l : Launch} {e : Env} {R : Room} {s : State} {m : MethodId} {args : Array Value} {below : List Frame} {meth : Method} {c : Code} {T : State} {locs : List Loc} {cells slots : Nat} {Z : State} {h : Heap} {y : MethodName} {bytes : ByteArray} {maxL : Nat} {ret : Option FieldType} {E : Outcome → State → Prop} {Q : Option Value → Heap → List Loc → Prop} {kc ks : Nat} {Ls : Array Slot} {st : List Value} {pc : Nat} {a0 : Array Value}
/-- what stays as it is through the walk of one body -/
def own_C (Z : State) (y : MethodName) (bytes : ByteArray) (maxL : Nat) (ret : Option FieldType) (p : Program) (s : State) (m : MethodId) (meth : Method) (c : Code) : Prop :=
  p.tables.exec = Jvm.exec ∧ c.code = bytes ∧ c.maxLocals = maxL ∧ s.vm.findClass y.cls = some m.cls ∧ Z.Warmed39 s.vm ∧ meth.sig.returnType = ret ∧ meth.locks = false ∧ meth.name = y.name
/-- the walk stands at T, whose heap is h -/
def own_S (Z : State) (y : MethodName) (bytes : ByteArray) (maxL : Nat) (ret : Option FieldType) (p : Program) (l : Launch) (e : Env) (R : Room) (s : State) (m : MethodId) (args : Array Value) (below : List Frame) (meth : Method) (c : Code) (T : State) (h : Heap) (locs : List Loc) (cells slots : Nat) : Prop :=
  own_C Z y bytes maxL ret p s m meth c ∧ Stand p l e R s m args below meth c T locs cells slots ∧ T.heap = h
/-- from S the run ends, and its end is as Q says -/
def own_G (p : Program) (e : Env) (below : List Frame) (E : Outcome → State → Prop) (S : State) : Prop :=
  ∃ t o, Steps p.tables e below S t ∧ t.status = .running ∧ Ended t below o ∧ E o t
def own_E (s : State) (Q : Option Value → Heap → List Loc → Prop) (kc ks : Nat) (o : Outcome) (t : State) : Prop := ∃ v L, o = .returned v ∧ Q v t.heap L ∧ FrameEnd s o t L kc ks
theorem own_st {S S' : State} (hs : ∀ t, Steps p.tables e below S' t → Steps p.tables e below S t) (K : own_G p e below E S') : own_G p e below E S := by
  obtain ⟨t, o, h1, r⟩ := K
  exact ⟨t, o, hs t h1, r⟩
theorem own_S.x (Y : own_S Z y bytes maxL ret p l e R s m args below meth c T h locs cells slots) : p.tables.exec = Jvm.exec := Y.1.1
theorem own_S.d (Y : own_S Z y bytes maxL ret p l e R s m args below meth c T h locs cells slots) {pc : Nat} {r : Except ClassFile.DecodeError (ClassFile.Instr × Nat)} (hd : decode bytes pc = r) : decode c.code pc = r := hb Y.1.2.1 hd
theorem own_S.own (Y : own_S Z y bytes maxL ret p l e R s m args below meth c T h locs cells slots) : s.vm.findClass y.cls = some m.cls := Y.1.2.2.2.1
theorem own_S.warm (Y : own_S Z y bytes maxL ret p l e R s m args below meth c T h locs cells slots) : Z.Warmed39 s.vm := Y.1.2.2.2.2.1
theorem own_S.X (Y : own_S Z y bytes maxL ret p l e R s m args below meth c T h locs cells slots) : Stand p l e R s m args below meth c T locs cells slots := Y.2.1
theorem own_S.eT (Y : own_S Z y bytes maxL ret p l e R s m args below meth c T h locs cells slots) : T.heap = h := Y.2.2
/-- the contract of a body -/
def own_M (l : Launch) (y : MethodName) (bytes : ByteArray) (maxL : Nat) (ret : Option FieldType) (ws : List Jvm.Cond) (rm : Room) (Z : State) (as' : Array Value) (h : Heap) (Q : Option Value → Heap → List Loc → Prop) : Prop :=
  MetFree l y (head1 (Jvm.Cond.code y bytes maxL ret :: ws) rm) (fun a U => a = as' ∧ Z.Warmed39 U.vm ∧ U.heap = h) (fun _ _ _ _ _ => True) (fun _ U o U' => ∃ v L, o = .returned v ∧ Q v U'.heap L ∧ FrameEnd U o U' L rm.cells rm.slots)
theorem own_met {ws : List Jvm.Cond} {rm : Room} {as' : Array Value} (hp : plainFor y = true) {Lf : Array Slot} (hE : ∀ m, entryFrame m as' maxL = mkF m 0 Lf [])
    (body : ∀ p e s m below meth c T, own_S Z y bytes maxL ret p l e rm s m as' below meth c T h [] 0 0 → own_G p e below (own_E s Q rm.cells rm.slots) (T.setTop (mkF m 0 Lf []))) : own_M l y bytes maxL ret ws rm Z as' h Q := by
  refine MetFree.of_bodySF (maxLocals := maxL) hp hisR ?_
  intro p e s m args below meth c s₁ Bd hml0 hP hK
  obtain ⟨rfl, hZ, hh⟩ := hP
  obtain ⟨t, o, h1, h2, h3, h4⟩ := body p e s m below meth c s₁ ⟨⟨Bd.exec, Bd.bytes, hml0, findClass_of_methodNamed Bd.named, hZ, Bd.returns, Bd.notSynchronized, (name_of_methodNamed Bd.named Bd.method).1⟩, Stand.of_body Bd, by rw [← hh, Bd.state]; rfl⟩
  exact ⟨t, o, castTop (hE m) h1, h2, h3, h4⟩
theorem own_wd {ts : List Jvm.Cond} (hw : ∀ d ∈ ts, d.before a0 Z = true) (i : Nat) {d : Jvm.Cond} (hi : ts[i]? = some d) : d.before a0 Z = true := hw d (List.mem_of_getElem? hi)
theorem own_M.weak {ws : List Jvm.Cond} {rm : Room} {as' : Array Value} {Q' : Option Value → Heap → List Loc → Prop} (M : own_M l y bytes maxL ret ws rm Z as' h Q) (hQ : ∀ v h' L, Q v h' L → Q' v h' L) : own_M l y bytes maxL ret ws rm Z as' h Q' := by
  intro p e ha hc hk s m args below hf happ hP hK
  obtain ⟨n, o, h1, h2, h3, v, L, h4, h5, h6⟩ := M p e ha hc hk s m args below hf happ hP hK
  exact ⟨n, o, h1, h2, h3, v, L, h4, hQ _ _ _ h5, h6⟩
theorem own_aloadN (pc' : Nat) (Y : own_S Z y bytes maxL ret p l e R s m args below meth c T h locs cells slots) {k : Fin 4} {v : Value} (hd : decode bytes pc = .ok (.aload_n k, 1)) (hl : Ls[k.val]? = some (.val v)) (hv : v.isRef = true) (hp : pc + 1 = pc') (K : own_G p e below E (T.setTop (mkF m pc' Ls (v :: st)))) : own_G p e below E (T.setTop (mkF m pc Ls (st))) := by
  subst hp
  exact own_st (fun t k => XS.aloadN Y.X.here Y.x rfl (Y.d hd) hl hv k) K
theorem own_aload (pc' : Nat) (Y : own_S Z y bytes maxL ret p l e R s m args below meth c T h locs cells slots) {k : Nat} {v : Value} (hd : decode bytes pc = .ok (.aload k, 2)) (hl : Ls[k]? = some (.val v)) (hv : v.isRef = true) (hp : pc + 2 = pc') (K : own_G p e below E (T.setTop (mkF m pc' Ls (v :: st)))) : own_G p e below E (T.setTop (mkF m pc Ls (st))) := by
  subst hp
  exact own_st (fun t k => XS.aload Y.X.here Y.x rfl (Y.d hd) hl hv k) K
theorem own_iloadN (pc' : Nat) (Y : own_S Z y bytes maxL ret p l e R s m args below meth c T h locs cells slots) {k : Fin 4} {v : Int32} (hd : decode bytes pc = .ok (.iload_n k, 1)) (hl : Ls[k.val]? = some (.val (.int v))) (hp : pc + 1 = pc') (K : own_G p e below E (T.setTop (mkF m pc' Ls (.int v :: st)))) : own_G p e below E (T.setTop (mkF m pc Ls (st))) := by
  subst hp
  exact own_st (fun t k => XS.iloadN Y.X.here Y.x rfl (Y.d hd) hl k) K
theorem own_iload (pc' : Nat) (Y : own_S Z y bytes maxL ret p l e R s m args below meth c T h locs cells slots) {k : Nat} {v : Int32} (hd : decode bytes pc = .ok (.iload k, 2)) (hl : Ls[k]? = some (.val (.int v))) (hp : pc + 2 = pc') (K : own_G p e below E (T.setTop (mkF m pc' Ls (.int v :: st)))) : own_G p e below E (T.setTop (mkF m pc Ls (st))) := by
  subst hp
  exact own_st (fun t k => XS.iload Y.X.here Y.x rfl (Y.d hd) hl k) K
theorem own_lloadN (pc' : Nat) (Y : own_S Z y bytes maxL ret p l e R s m args below meth c T h locs cells slots) {k : Fin 4} {v : Int64} (hd : decode bytes pc = .ok (.lload_n k, 1)) (hl : Ls[k.val]? = some (.val (.long v))) (hp : pc + 1 = pc') (K : own_G p e below E (T.setTop (mkF m pc' Ls (.long v :: st)))) : own_G p e below E (T.setTop (mkF m pc Ls (st))) := by
  subst hp
  exact own_st (fun t k => XS.lloadN Y.X.here Y.x rfl (Y.d hd) hl k) K
theorem own_lload (pc' : Nat) (Y : own_S Z y bytes maxL ret p l e R s m args below meth c T h locs cells slots) {k : Nat} {v : Int64} (hd : decode bytes pc = .ok (.lload k, 2)) (hl : Ls[k]? = some (.val (.long v))) (hp : pc + 2 = pc') (K : own_G p e below E (T.setTop (mkF m pc' Ls (.long v :: st)))) : own_G p e below E (T.setTop (mkF m pc Ls (st))) := by
  subst hp
  exact own_st (fun t k => XS.lload Y.X.here Y.x rfl (Y.d hd) hl k) K
theorem own_iconst (pc' : Nat) (Y : own_S Z y bytes maxL ret p l e R s m args below meth c T h locs cells slots) {i : Int} (v : Int32) (hd : decode bytes pc = .ok (.iconst i, 1)) (hv : Int32.ofInt i = v) (hp : pc + 1 = pc') (K : own_G p e below E (T.setTop (mkF m pc' Ls (.int v :: st)))) : own_G p e below E (T.setTop (mkF m pc Ls (st))) := by
  subst hp
  exact own_st (fun t k => XT.iconstV Y.X.here Y.x rfl v (Y.d hd) hv k) K
theorem own_bipush (pc' : Nat) (Y : own_S Z y bytes maxL ret p l e R s m args below meth c T h locs cells slots) {i : Int} (v : Int32) (hd : decode bytes pc = .ok (.bipush i, 2)) (hv : (Int8.ofInt i).toInt32 = v) (hp : pc + 2 = pc') (K : own_G p e below E (T.setTop (mkF m pc' Ls (.int v :: st)))) : own_G p e below E (T.setTop (mkF m pc Ls (st))) := by
  subst hp
  exact own_st (fun t k => XT.bipushV Y.X.here Y.x rfl v (Y.d hd) hv k) K
theorem own_sipush (pc' : Nat) (Y : own_S Z y bytes maxL ret p l e R s m args below meth c T h locs cells slots) {i : Int} (v : Int32) (hd : decode bytes pc = .ok (.sipush i, 3)) (hv : (Int16.ofInt i).toInt32 = v) (hp : pc + 3 = pc') (K : own_G p e below E (T.setTop (mkF m pc' Ls (.int v :: st)))) : own_G p e below E (T.setTop (mkF m pc Ls (st))) := by
  subst hp
  exact own_st (fun t k => XT.sipushV Y.X.here Y.x rfl v (Y.d hd) hv k) K
theorem own_lconst (pc' : Nat) (Y : own_S Z y bytes maxL ret p l e R s m args below meth c T h locs cells slots) {i : Fin 2} (v : Int64) (hd : decode bytes pc = .ok (.lconst i, 1)) (hv : Int64.ofNat i = v) (hp : pc + 1 = pc') (K : own_G p e below E (T.setTop (mkF m pc' Ls (.long v :: st)))) : own_G p e below E (T.setTop (mkF m pc Ls (st))) := by
  subst hp
  exact own_st (fun t k => XT.lconstV Y.X.here Y.x rfl v (Y.d hd) hv k) K
theorem own_aconst_null (pc' : Nat) (Y : own_S Z y bytes maxL ret p l e R s m args below meth c T h locs cells slots)  (hd : decode bytes pc = .ok (.aconst_null, 1))  (hp : pc + 1 = pc') (K : own_G p e below E (T.setTop (mkF m pc' Ls (.null :: st)))) : own_G p e below E (T.setTop (mkF m pc Ls (st))) := by
  subst hp
  exact own_st (fun t k => XS.aconstNull Y.X.here Y.x rfl (Y.d hd) k) K
theorem own_iadd (pc' : Nat) (Y : own_S Z y bytes maxL ret p l e R s m args below meth c T h locs cells slots) {x z : Int32} (hd : decode bytes pc = .ok (.iadd, 1))  (hp : pc + 1 = pc') (K : own_G p e below E (T.setTop (mkF m pc' Ls (.int (x + z) :: st)))) : own_G p e below E (T.setTop (mkF m pc Ls (.int z :: .int x :: st))) := by
  subst hp
  exact own_st (fun t k => XS.iadd Y.X.here Y.x rfl (Y.d hd) rfl k) K
theorem own_isub (pc' : Nat) (Y : own_S Z y bytes maxL ret p l e R s m args below meth c T h locs cells slots) {x z : Int32} (hd : decode bytes pc = .ok (.isub, 1))  (hp : pc + 1 = pc') (K : own_G p e below E (T.setTop (mkF m pc' Ls (.int (x - z) :: st)))) : own_G p e below E (T.setTop (mkF m pc Ls (.int z :: .int x :: st))) := by
  subst hp
  exact own_st (fun t k => XS.isub Y.X.here Y.x rfl (Y.d hd) rfl k) K
theorem own_imul (pc' : Nat) (Y : own_S Z y bytes maxL ret p l e R s m args below meth c T h locs cells slots) {x z : Int32} (hd : decode bytes pc = .ok (.imul, 1))  (hp : pc + 1 = pc') (K : own_G p e below E (T.setTop (mkF m pc' Ls (.int (x * z) :: st)))) : own_G p e below E (T.setTop (mkF m pc Ls (.int z :: .int x :: st))) := by
  subst hp
  exact own_st (fun t k => XS.imul Y.X.here Y.x rfl (Y.d hd) rfl k) K
theorem own_iand (pc' : Nat) (Y : own_S Z y bytes maxL ret p l e R s m args below meth c T h locs cells slots) {x z : Int32} (hd : decode bytes pc = .ok (.iand, 1))  (hp : pc + 1 = pc') (K : own_G p e below E (T.setTop (mkF m pc' Ls (.int (x &&& z) :: st)))) : own_G p e below E (T.setTop (mkF m pc Ls (.int z :: .int x :: st))) := by
  subst hp
  exact own_st (fun t k => XS.iand Y.X.here Y.x rfl (Y.d hd) rfl k) K
theorem own_ior (pc' : Nat) (Y : own_S Z y bytes maxL ret p l e R s m args below meth c T h locs cells slots) {x z : Int32} (hd : decode bytes pc = .ok (.ior, 1))  (hp : pc + 1 = pc') (K : own_G p e below E (T.setTop (mkF m pc' Ls (.int (x ||| z) :: st)))) : own_G p e below E (T.setTop (mkF m pc Ls (.int z :: .int x :: st))) := by
  subst hp
  exact own_st (fun t k => XS.ior Y.X.here Y.x rfl (Y.d hd) rfl k) K
theorem own_ixor (pc' : Nat) (Y : own_S Z y bytes maxL ret p l e R s m args below meth c T h locs cells slots) {x z : Int32} (hd : decode bytes pc = .ok (.ixor, 1))  (hp : pc + 1 = pc') (K : own_G p e below E (T.setTop (mkF m pc' Ls (.int (x ^^^ z) :: st)))) : own_G p e below E (T.setTop (mkF m pc Ls (.int z :: .int x :: st))) := by
  subst hp
  exact own_st (fun t k => XS.ixor Y.X.here Y.x rfl (Y.d hd) rfl k) K
theorem own_ishl (pc' : Nat) (Y : own_S Z y bytes maxL ret p l e R s m args below meth c T h locs cells slots) {x z : Int32} (hd : decode bytes pc = .ok (.ishl, 1))  (hp : pc + 1 = pc') (K : own_G p e below E (T.setTop (mkF m pc' Ls (.int (x <<< (z &&& 31)) :: st)))) : own_G p e below E (T.setTop (mkF m pc Ls (.int z :: .int x :: st))) := by
  subst hp
  exact own_st (fun t k => XS.ishl Y.X.here Y.x rfl (Y.d hd) rfl k) K
theorem own_ishr (pc' : Nat) (Y : own_S Z y bytes maxL ret p l e R s m args below meth c T h locs cells slots) {x z : Int32} (hd : decode bytes pc = .ok (.ishr, 1))  (hp : pc + 1 = pc') (K : own_G p e below E (T.setTop (mkF m pc' Ls (.int (x >>> (z &&& 31)) :: st)))) : own_G p e below E (T.setTop (mkF m pc Ls (.int z :: .int x :: st))) := by
  subst hp
  exact own_st (fun t k => XS.ishr Y.X.here Y.x rfl (Y.d hd) rfl k) K
theorem own_iushr (pc' : Nat) (Y : own_S Z y bytes maxL ret p l e R s m args below meth c T h locs cells slots) {x z : Int32} (hd : decode bytes pc = .ok (.iushr, 1))  (hp : pc + 1 = pc') (K : own_G p e below E (T.setTop (mkF m pc' Ls (.int ((x.toUInt32 >>> (z &&& 31).toUInt32).toInt32) :: st)))) : own_G p e below E (T.setTop (mkF m pc Ls (.int z :: .int x :: st))) := by
  subst hp
  exact own_st (fun t k => XS.iushr Y.X.here Y.x rfl (Y.d hd) rfl k) K
theorem own_ladd (pc' : Nat) (Y : own_S Z y bytes maxL ret p l e R s m args below meth c T h locs cells slots) {x z : Int64} (hd : decode bytes pc = .ok (.ladd, 1))  (hp : pc + 1 = pc') (K : own_G p e below E (T.setTop (mkF m pc' Ls (.long (x + z) :: st)))) : own_G p e below E (T.setTop (mkF m pc Ls (.long z :: .long x :: st))) := by
  subst hp
  exact own_st (fun t k => XS.ladd Y.X.here Y.x rfl (Y.d hd) rfl k) K
theorem own_lsub (pc' : Nat) (Y : own_S Z y bytes maxL ret p l e R s m args below meth c T h locs cells slots) {x z : Int64} (hd : decode bytes pc = .ok (.lsub, 1))  (hp : pc + 1 = pc') (K : own_G p e below E (T.setTop (mkF m pc' Ls (.long (x - z) :: st)))) : own_G p e below E (T.setTop (mkF m pc Ls (.long z :: .long x :: st))) := by
  subst hp
  exact own_st (fun t k => XS.lsub Y.X.here Y.x rfl (Y.d hd) rfl k) K
theorem own_lmul (pc' : Nat) (Y : own_S Z y bytes maxL ret p l e R s m args below meth c T h locs cells slots) {x z : Int64} (hd : decode bytes pc = .ok (.lmul, 1))  (hp : pc + 1 = pc') (K : own_G p e below E (T.setTop (mkF m pc' Ls (.long (x * z) :: st)))) : own_G p e below E (T.setTop (mkF m pc Ls (.long z :: .long x :: st))) := by
  subst hp
  exact own_st (fun t k => XS.lmul Y.X.here Y.x rfl (Y.d hd) rfl k) K
theorem own_land (pc' : Nat) (Y : own_S Z y bytes maxL ret p l e R s m args below meth c T h locs cells slots) {x z : Int64} (hd : decode bytes pc = .ok (.land, 1))  (hp : pc + 1 = pc') (K : own_G p e below E (T.setTop (mkF m pc' Ls (.long (x &&& z) :: st)))) : own_G p e below E (T.setTop (mkF m pc Ls (.long z :: .long x :: st))) := by
  subst hp
  exact own_st (fun t k => XS.land Y.X.here Y.x rfl (Y.d hd) rfl k) K
theorem own_lor (pc' : Nat) (Y : own_S Z y bytes maxL ret p l e R s m args below meth c T h locs cells slots) {x z : Int64} (hd : decode bytes pc = .ok (.lor, 1))  (hp : pc + 1 = pc') (K : own_G p e below E (T.setTop (mkF m pc' Ls (.long (x ||| z) :: st)))) : own_G p e below E (T.setTop (mkF m pc Ls (.long z :: .long x :: st))) := by
  subst hp
  exact own_st (fun t k => XS.lor Y.X.here Y.x rfl (Y.d hd) rfl k) K
theorem own_lxor (pc' : Nat) (Y : own_S Z y bytes maxL ret p l e R s m args below meth c T h locs cells slots) {x z : Int64} (hd : decode bytes pc = .ok (.lxor, 1))  (hp : pc + 1 = pc') (K : own_G p e below E (T.setTop (mkF m pc' Ls (.long (x ^^^ z) :: st)))) : own_G p e below E (T.setTop (mkF m pc Ls (.long z :: .long x :: st))) := by
  subst hp
  exact own_st (fun t k => XS.lxor Y.X.here Y.x rfl (Y.d hd) rfl k) K
theorem own_lshl (pc' : Nat) (Y : own_S Z y bytes maxL ret p l e R s m args below meth c T h locs cells slots) {x : Int64} {z : Int32} (hd : decode bytes pc = .ok (.lshl, 1))  (hp : pc + 1 = pc') (K : own_G p e below E (T.setTop (mkF m pc' Ls (.long (x <<< (z &&& 0x3f).toInt64) :: st)))) : own_G p e below E (T.setTop (mkF m pc Ls (.int z :: .long x :: st))) := by
  subst hp
  exact own_st (fun t k => XS.lshl Y.X.here Y.x rfl (Y.d hd) rfl k) K
theorem own_lshr (pc' : Nat) (Y : own_S Z y bytes maxL ret p l e R s m args below meth c T h locs cells slots) {x : Int64} {z : Int32} (hd : decode bytes pc = .ok (.lshr, 1))  (hp : pc + 1 = pc') (K : own_G p e below E (T.setTop (mkF m pc' Ls (.long (x >>> (z &&& 0x3f).toInt64) :: st)))) : own_G p e below E (T.setTop (mkF m pc Ls (.int z :: .long x :: st))) := by
  subst hp
  exact own_st (fun t k => XS.lshr Y.X.here Y.x rfl (Y.d hd) rfl k) K
theorem own_lushr (pc' : Nat) (Y : own_S Z y bytes maxL ret p l e R s m args below meth c T h locs cells slots) {x : Int64} {z : Int32} (hd : decode bytes pc = .ok (.lushr, 1))  (hp : pc + 1 = pc') (K : own_G p e below E (T.setTop (mkF m pc' Ls (.long ((x.toUInt64 >>> (z &&& 0x3f).toInt64.toUInt64).toInt64) :: st)))) : own_G p e below E (T.setTop (mkF m pc Ls (.int z :: .long x :: st))) := by
  subst hp
  exact own_st (fun t k => XS.lushr Y.X.here Y.x rfl (Y.d hd) rfl k) K
theorem own_idiv (pc' : Nat) (Y : own_S Z y bytes maxL ret p l e R s m args below meth c T h locs cells slots) {x z : Int32} (hd : decode bytes pc = .ok (.idiv, 1)) (hz : z ≠ 0) (hp : pc + 1 = pc') (K : own_G p e below E (T.setTop (mkF m pc' Ls (.int (x / z) :: st)))) : own_G p e below E (T.setTop (mkF m pc Ls (.int z :: .int x :: st))) := by
  subst hp
  exact own_st (fun t k => XS.idiv Y.X.here Y.x rfl (Y.d hd) rfl hz k) K
theorem own_irem (pc' : Nat) (Y : own_S Z y bytes maxL ret p l e R s m args below meth c T h locs cells slots) {x z : Int32} (hd : decode bytes pc = .ok (.irem, 1)) (hz : z ≠ 0) (hp : pc + 1 = pc') (K : own_G p e below E (T.setTop (mkF m pc' Ls (.int (x % z) :: st)))) : own_G p e below E (T.setTop (mkF m pc Ls (.int z :: .int x :: st))) := by
  subst hp
  exact own_st (fun t k => iremM Y.X Y.x rfl (Y.d hd) rfl hz k) K
theorem own_ldiv (pc' : Nat) (Y : own_S Z y bytes maxL ret p l e R s m args below meth c T h locs cells slots) {x z : Int64} (hd : decode bytes pc = .ok (.ldiv, 1)) (hz : z ≠ 0) (hp : pc + 1 = pc') (K : own_G p e below E (T.setTop (mkF m pc' Ls (.long (x / z) :: st)))) : own_G p e below E (T.setTop (mkF m pc Ls (.long z :: .long x :: st))) := by
  subst hp
  exact own_st (fun t k => XS.ldiv Y.X.here Y.x rfl (Y.d hd) rfl hz k) K
theorem own_lrem (pc' : Nat) (Y : own_S Z y bytes maxL ret p l e R s m args below meth c T h locs cells slots) {x z : Int64} (hd : decode bytes pc = .ok (.lrem, 1)) (hz : z ≠ 0) (hp : pc + 1 = pc') (K : own_G p e below E (T.setTop (mkF m pc' Ls (.long (x - (x / z) * z) :: st)))) : own_G p e below E (T.setTop (mkF m pc Ls (.long z :: .long x :: st))) := by
  subst hp
  exact own_st (fun t k => XS.lrem Y.X.here Y.x rfl (Y.d hd) rfl hz k) K
theorem own_ineg (pc' : Nat) (Y : own_S Z y bytes maxL ret p l e R s m args below meth c T h locs cells slots) {x : Int32} (hd : decode bytes pc = .ok (.ineg, 1))  (hp : pc + 1 = pc') (K : own_G p e below E (T.setTop (mkF m pc' Ls (.int (-x) :: st)))) : own_G p e below E (T.setTop (mkF m pc Ls (.int x :: st))) := by
  subst hp
  exact own_st (fun t k => XS.ineg Y.X.here Y.x rfl (Y.d hd) rfl k) K
theorem own_i2b (pc' : Nat) (Y : own_S Z y bytes maxL ret p l e R s m args below meth c T h locs cells slots) {x : Int32} (hd : decode bytes pc = .ok (.i2b, 1))  (hp : pc + 1 = pc') (K : own_G p e below E (T.setTop (mkF m pc' Ls (.int (x.toInt8.toInt32) :: st)))) : own_G p e below E (T.setTop (mkF m pc Ls (.int x :: st))) := by
  subst hp
  exact own_st (fun t k => XS.i2b Y.X.here Y.x rfl (Y.d hd) rfl k) K
theorem own_i2c (pc' : Nat) (Y : own_S Z y bytes maxL ret p l e R s m args below meth c T h locs cells slots) {x : Int32} (hd : decode bytes pc = .ok (.i2c, 1))  (hp : pc + 1 = pc') (K : own_G p e below E (T.setTop (mkF m pc' Ls (.int (x.toUInt32.toUInt16.toUInt32.toInt32) :: st)))) : own_G p e below E (T.setTop (mkF m pc Ls (.int x :: st))) := by
  subst hp
  exact own_st (fun t k => XS.i2c Y.X.here Y.x rfl (Y.d hd) rfl k) K
theorem own_i2s (pc' : Nat) (Y : own_S Z y bytes maxL ret p l e R s m args below meth c T h locs cells slots) {x : Int32} (hd : decode bytes pc = .ok (.i2s, 1))  (hp : pc + 1 = pc') (K : own_G p e below E (T.setTop (mkF m pc' Ls (.int (x.toInt16.toInt32) :: st)))) : own_G p e below E (T.setTop (mkF m pc Ls (.int x :: st))) := by
  subst hp
  exact own_st (fun t k => XS.i2s Y.X.here Y.x rfl (Y.d hd) rfl k) K
theorem own_i2l (pc' : Nat) (Y : own_S Z y bytes maxL ret p l e R s m args below meth c T h locs cells slots) {x : Int32} (hd : decode bytes pc = .ok (.i2l, 1))  (hp : pc + 1 = pc') (K : own_G p e below E (T.setTop (mkF m pc' Ls (.long x.toInt64 :: st)))) : own_G p e below E (T.setTop (mkF m pc Ls (.int x :: st))) := by
  subst hp
  exact own_st (fun t k => XS.i2l Y.X.here Y.x rfl (Y.d hd) rfl k) K
theorem own_l2i (pc' : Nat) (Y : own_S Z y bytes maxL ret p l e R s m args below meth c T h locs cells slots) {x : Int64} (hd : decode bytes pc = .ok (.l2i, 1))  (hp : pc + 1 = pc') (K : own_G p e below E (T.setTop (mkF m pc' Ls (.int x.toInt32 :: st)))) : own_G p e below E (T.setTop (mkF m pc Ls (.long x :: st))) := by
  subst hp
  exact own_st (fun t k => XS.l2i Y.X.here Y.x rfl (Y.d hd) rfl k) K
theorem own_lneg (pc' : Nat) (Y : own_S Z y bytes maxL ret p l e R s m args below meth c T h locs cells slots) {x : Int64} (hd : decode bytes pc = .ok (.lneg, 1))  (hp : pc + 1 = pc') (K : own_G p e below E (T.setTop (mkF m pc' Ls (.long (-x) :: st)))) : own_G p e below E (T.setTop (mkF m pc Ls (.long x :: st))) := by
  subst hp
  exact own_st (fun t k => XS.lneg Y.X.here Y.x rfl (Y.d hd) rfl k) K
theorem own_lcmp (pc' : Nat) (Y : own_S Z y bytes maxL ret p l e R s m args below meth c T h locs cells slots) {x z : Int64} (hd : decode bytes pc = .ok (.lcmp, 1))  (hp : pc + 1 = pc') (K : own_G p e below E (T.setTop (mkF m pc' Ls (.int (lcmpW x z) :: st)))) : own_G p e below E (T.setTop (mkF m pc Ls (.long z :: .long x :: st))) := by
  subst hp
  exact own_st (fun t k => XS.lcmp Y.X.here Y.x rfl (Y.d hd) rfl k) K
theorem own_dup (pc' : Nat) (Y : own_S Z y bytes maxL ret p l e R s m args below meth c T h locs cells slots) {x : Value} (hd : decode bytes pc = .ok (.dup, 1)) (hc : x.category = 1) (hp : pc + 1 = pc') (K : own_G p e below E (T.setTop (mkF m pc' Ls (x :: x :: st)))) : own_G p e below E (T.setTop (mkF m pc Ls (x :: st))) := by
  subst hp
  exact own_st (fun t k => XS.dup Y.X.here Y.x rfl (Y.d hd) rfl hc k) K
theorem own_dupX1 (pc' : Nat) (Y : own_S Z y bytes maxL ret p l e R s m args below meth c T h locs cells slots) {x z : Value} (hd : decode bytes pc = .ok (.dup_x1, 1)) (hc : x.category = 1) (hc' : z.category = 1) (hp : pc + 1 = pc') (K : own_G p e below E (T.setTop (mkF m pc' Ls (x :: z :: x :: st)))) : own_G p e below E (T.setTop (mkF m pc Ls (x :: z :: st))) := by
  subst hp
  exact own_st (fun t k => XS.dupX1 Y.X.here Y.x rfl (Y.d hd) rfl hc hc' k) K
theorem own_pop (pc' : Nat) (Y : own_S Z y bytes maxL ret p l e R s m args below meth c T h locs cells slots) {x : Value} (hd : decode bytes pc = .ok (.pop, 1)) (hc : x.category = 1) (hp : pc + 1 = pc') (K : own_G p e below E (T.setTop (mkF m pc' Ls (st)))) : own_G p e below E (T.setTop (mkF m pc Ls (x :: st))) := by
  subst hp
  exact own_st (fun t k => XS.pop Y.X.here Y.x rfl (Y.d hd) rfl hc k) K
theorem own_istoreN (pc' : Nat) (Y : own_S Z y bytes maxL ret p l e R s m args below meth c T h locs cells slots) (Ls' : Array Slot) {k : Fin 4} {x : Int32} (hd : decode bytes pc = .ok (.istore_n k, 1)) (hl : storeLocals Ls k.val (.int x) = some Ls') (hp : pc + 1 = pc') (K : own_G p e below E (T.setTop (mkF m pc' Ls' (st)))) : own_G p e below E (T.setTop (mkF m pc Ls (.int x :: st))) := by
  subst hp
  exact own_st (fun t k => XS.istoreN Y.X.here Y.x rfl (Y.d hd) rfl hl k) K
theorem own_istore (pc' : Nat) (Y : own_S Z y bytes maxL ret p l e R s m args below meth c T h locs cells slots) (Ls' : Array Slot) {k : Nat} {x : Int32} (hd : decode bytes pc = .ok (.istore k, 2)) (hl : storeLocals Ls k (.int x) = some Ls') (hp : pc + 2 = pc') (K : own_G p e below E (T.setTop (mkF m pc' Ls' (st)))) : own_G p e below E (T.setTop (mkF m pc Ls (.int x :: st))) := by
  subst hp
  exact own_st (fun t k => XS.istore Y.X.here Y.x rfl (Y.d hd) rfl hl k) K
theorem own_lstoreN (pc' : Nat) (Y : own_S Z y bytes maxL ret p l e R s m args below meth c T h locs cells slots) (Ls' : Array Slot) {k : Fin 4} {x : Int64} (hd : decode bytes pc = .ok (.lstore_n k, 1)) (hl : storeLocals Ls k.val (.long x) = some Ls') (hp : pc + 1 = pc') (K : own_G p e below E (T.setTop (mkF m pc' Ls' (st)))) : own_G p e below E (T.setTop (mkF m pc Ls (.long x :: st))) := by
  subst hp
  exact own_st (fun t k => XS.lstoreN Y.X.here Y.x rfl (Y.d hd) rfl hl k) K
theorem own_lstore (pc' : Nat) (Y : own_S Z y bytes maxL ret p l e R s m args below meth c T h locs cells slots) (Ls' : Array Slot) {k : Nat} {x : Int64} (hd : decode bytes pc = .ok (.lstore k, 2)) (hl : storeLocals Ls k (.long x) = some Ls') (hp : pc + 2 = pc') (K : own_G p e below E (T.setTop (mkF m pc' Ls' (st)))) : own_G p e below E (T.setTop (mkF m pc Ls (.long x :: st))) := by
  subst hp
  exact own_st (fun t k => XS.lstore Y.X.here Y.x rfl (Y.d hd) rfl hl k) K
theorem own_astoreN (pc' : Nat) (Y : own_S Z y bytes maxL ret p l e R s m args below meth c T h locs cells slots) (Ls' : Array Slot) {k : Fin 4} {x : Value} (hd : decode bytes pc = .ok (.astore_n k, 1)) (hv : x.isRef = true) (hl : storeLocals Ls k.val (x) = some Ls') (hp : pc + 1 = pc') (K : own_G p e below E (T.setTop (mkF m pc' Ls' (st)))) : own_G p e below E (T.setTop (mkF m pc Ls (x :: st))) := by
  subst hp
  exact own_st (fun t k => XS.astoreN Y.X.here Y.x rfl (Y.d hd) rfl hv hl k) K
theorem own_astore (pc' : Nat) (Y : own_S Z y bytes maxL ret p l e R s m args below meth c T h locs cells slots) (Ls' : Array Slot) {k : Nat} {x : Value} (hd : decode bytes pc = .ok (.astore k, 2)) (hv : x.isRef = true) (hl : storeLocals Ls k (x) = some Ls') (hp : pc + 2 = pc') (K : own_G p e below E (T.setTop (mkF m pc' Ls' (st)))) : own_G p e below E (T.setTop (mkF m pc Ls (x :: st))) := by
  subst hp
  exact own_st (fun t k => XS.astore Y.X.here Y.x rfl (Y.d hd) rfl hv hl k) K
theorem own_iinc (pc' : Nat) (Y : own_S Z y bytes maxL ret p l e R s m args below meth c T h locs cells slots) (Ls' : Array Slot) (v : Int32) {k : Nat} {cst : Int} {x : Int32} (hd : decode bytes pc = .ok (.iinc k cst, 3)) (hv : Int32.ofInt cst = v) (hl : Ls[k]? = some (.val (.int x))) (hl' : storeLocals Ls k (.int (x + v)) = some Ls') (hp : pc + 3 = pc') (K : own_G p e below E (T.setTop (mkF m pc' Ls' (st)))) : own_G p e below E (T.setTop (mkF m pc Ls (st))) := by
  subst hp
  exact own_st (fun t k => XT.iincV Y.X.here Y.x rfl v (Y.d hd) hv hl hl' k) K
theorem own_dloadN (pc' : Nat) (Y : own_S Z y bytes maxL ret p l e R s m args below meth c T h locs cells slots) {k : Fin 4} {v : UInt64} (hd : decode bytes pc = .ok (.dload_n k, 1)) (hl : Ls[k.val]? = some (.val (.double v))) (hp : pc + 1 = pc') (K : own_G p e below E (T.setTop (mkF m pc' Ls (.double v :: st)))) : own_G p e below E (T.setTop (mkF m pc Ls (st))) := by
  subst hp
  exact own_st (fun t k => XS.dloadN Y.X.here Y.x rfl (Y.d hd) hl k) K
theorem own_dload (pc' : Nat) (Y : own_S Z y bytes maxL ret p l e R s m args below meth c T h locs cells slots) {k : Nat} {v : UInt64} (hd : decode bytes pc = .ok (.dload k, 2)) (hl : Ls[k]? = some (.val (.double v))) (hp : pc + 2 = pc') (K : own_G p e below E (T.setTop (mkF m pc' Ls (.double v :: st)))) : own_G p e below E (T.setTop (mkF m pc Ls (st))) := by
  subst hp
  exact own_st (fun t k => XS.dload Y.X.here Y.x rfl (Y.d hd) hl k) K
theorem own_dstoreN (pc' : Nat) (Y : own_S Z y bytes maxL ret p l e R s m args below meth c T h locs cells slots) (Ls' : Array Slot) {k : Fin 4} {x : UInt64} (hd : decode bytes pc = .ok (.dstore_n k, 1)) (hl : storeLocals Ls k.val (.double x) = some Ls') (hp : pc + 1 = pc') (K : own_G p e below E (T.setTop (mkF m pc' Ls' (st)))) : own_G p e below E (T.setTop (mkF m pc Ls (.double x :: st))) := by
  subst hp
  exact own_st (fun t k => XS.dstoreN Y.X.here Y.x rfl (Y.d hd) rfl hl k) K
theorem own_dstore (pc' : Nat) (Y : own_S Z y bytes maxL ret p l e R s m args below meth c T h locs cells slots) (Ls' : Array Slot) {k : Nat} {x : UInt64} (hd : decode bytes pc = .ok (.dstore k, 2)) (hl : storeLocals Ls k (.double x) = some Ls') (hp : pc + 2 = pc') (K : own_G p e below E (T.setTop (mkF m pc' Ls' (st)))) : own_G p e below E (T.setTop (mkF m pc Ls (.double x :: st))) := by
  subst hp
  exact own_st (fun t k => XS.dstore Y.X.here Y.x rfl (Y.d hd) rfl hl k) K
theorem own_i2d (pc' : Nat) (Y : own_S Z y bytes maxL ret p l e R s m args below meth c T h locs cells slots) {x : Int32} (hd : decode bytes pc = .ok (.i2d, 1))  (hp : pc + 1 = pc') (K : own_G p e below E (T.setTop (mkF m pc' Ls (.double (FP.l2d x.toInt64) :: st)))) : own_G p e below E (T.setTop (mkF m pc Ls (.int x :: st))) := by
  subst hp
  exact own_st (fun t k => XS.i2dS Y.X.here Y.x rfl (Y.d hd) rfl (i2d_w x) k) K
theorem own_l2d (pc' : Nat) (Y : own_S Z y bytes maxL ret p l e R s m args below meth c T h locs cells slots) {x : Int64} (hd : decode bytes pc = .ok (.l2d, 1))  (hp : pc + 1 = pc') (K : own_G p e below E (T.setTop (mkF m pc' Ls (.double (FP.l2d x) :: st)))) : own_G p e below E (T.setTop (mkF m pc Ls (.long x :: st))) := by
  subst hp
  exact own_st (fun t k => XS.l2dS Y.X.here Y.x rfl (Y.d hd) rfl rfl k) K
theorem own_dsub (pc' : Nat) (Y : own_S Z y bytes maxL ret p l e R s m args below meth c T h locs cells slots) {x z : Int64} (hbx : B53 x) (hbz : B53 z) (hd : decode bytes pc = .ok (.dsub, 1))  (hp : pc + 1 = pc') (K : own_G p e below E (T.setTop (mkF m pc' Ls (.double (FP.l2d (x - z)) :: st)))) : own_G p e below E (T.setTop (mkF m pc Ls (.double (FP.l2d z) :: .double (FP.l2d x) :: st))) := by
  subst hp
  exact own_st (fun t k => XS.dsubS Y.X.here Y.x rfl (Y.d hd) rfl (nn_w (dsub_w hbx hbz)) (dsub_w hbx hbz) k) K
theorem own_dcmp (pc' : Nat) (Y : own_S Z y bytes maxL ret p l e R s m args below meth c T h locs cells slots) {o : CmpOp} {x z : Int64} (hbx : B53 x) (hbz : B53 z) (hd : decode bytes pc = .ok (.dcmp o, 1))  (hp : pc + 1 = pc') (K : own_G p e below E (T.setTop (mkF m pc' Ls (.int (lcmpW x z) :: st)))) : own_G p e below E (T.setTop (mkF m pc Ls (.double (FP.l2d z) :: .double (FP.l2d x) :: st))) := by
  subst hp
  exact own_st (fun t k => XS.dcmpS Y.X.here Y.x rfl (Y.d hd) rfl (dcmpV_w hbx hbz o) k) K
theorem own_pc {pc pc' : Nat} {o : Int} (hp : (pc : Int) + o = (pc' : Int)) : 0 ≤ (pc : Int) + o ∧ ((pc : Int) + o).toNat = pc' := by rw [hp]; exact ⟨Int.natCast_nonneg _, Int.toNat_natCast _⟩
theorem own_goto (pc' : Nat) (Y : own_S Z y bytes maxL ret p l e R s m args below meth c T h locs cells slots) {o : Int} (hd : decode bytes pc = .ok (.goto o, 3)) (hp : (pc : Int) + o = (pc' : Int)) (K : own_G p e below E (T.setTop (mkF m pc' Ls st))) : own_G p e below E (T.setTop (mkF m pc Ls st)) :=
  own_st (fun t k => XS.goto Y.X.here Y.x rfl rfl (Y.d hd) (own_pc hp).1 (own_pc hp).2 k) K
theorem own_ifT (pc' : Nat) (Y : own_S Z y bytes maxL ret p l e R s m args below meth c T h locs cells slots) {cd : ClassFile.Cond} {o : Int} {x : Int32} (hd : decode bytes pc = .ok (.ifCond cd o, 3)) (hc : ifCond.holds cd x = true) (hp : (pc : Int) + o = (pc' : Int)) (K : own_G p e below E (T.setTop (mkF m pc' Ls st))) : own_G p e below E (T.setTop (mkF m pc Ls (.int x :: st))) :=
  own_st (fun t k => XS.ifYes Y.X.here Y.x rfl rfl (Y.d hd) rfl hc (own_pc hp).1 (own_pc hp).2 k) K
theorem own_ifF (pc' : Nat) (Y : own_S Z y bytes maxL ret p l e R s m args below meth c T h locs cells slots) {cd : ClassFile.Cond} {o : Int} {x : Int32} (hd : decode bytes pc = .ok (.ifCond cd o, 3)) (hc : ifCond.holds cd x = false) (hp : pc + 3 = pc') (K : own_G p e below E (T.setTop (mkF m pc' Ls st))) : own_G p e below E (T.setTop (mkF m pc Ls (.int x :: st))) := by
  subst hp
  exact own_st (fun t k => XS.ifNo Y.X.here Y.x rfl (Y.d hd) rfl hc k) K
theorem own_icT (pc' : Nat) (Y : own_S Z y bytes maxL ret p l e R s m args below meth c T h locs cells slots) {cd : ClassFile.Cond} {o : Int} {x z : Int32} (hd : decode bytes pc = .ok (.if_icmp cd o, 3)) (hc : if_icmp.holds cd x z = true) (hp : (pc : Int) + o = (pc' : Int)) (K : own_G p e below E (T.setTop (mkF m pc' Ls st))) : own_G p e below E (T.setTop (mkF m pc Ls (.int z :: .int x :: st))) :=
  own_st (fun t k => XS.icmpYes Y.X.here Y.x rfl rfl (Y.d hd) rfl hc (own_pc hp).1 (own_pc hp).2 k) K
theorem own_icF (pc' : Nat) (Y : own_S Z y bytes maxL ret p l e R s m args below meth c T h locs cells slots) {cd : ClassFile.Cond} {o : Int} {x z : Int32} (hd : decode bytes pc = .ok (.if_icmp cd o, 3)) (hc : if_icmp.holds cd x z = false) (hp : pc + 3 = pc') (K : own_G p e below E (T.setTop (mkF m pc' Ls st))) : own_G p e below E (T.setTop (mkF m pc Ls (.int z :: .int x :: st))) := by
  subst hp
  exact own_st (fun t k => XS.icmpNo Y.X.here Y.x rfl (Y.d hd) rfl hc k) K
theorem own_if_eq (pc' pc'' : Nat) (Y : own_S Z y bytes maxL ret p l e R s m args below meth c T h locs cells slots) {x : Int32} {o : Int} (hd : decode bytes pc = .ok (.ifCond .eq o, 3)) (hp : (pc : Int) + o = (pc' : Int)) (hp' : pc + 3 = pc'') (KT : x = 0 → own_G p e below E (T.setTop (mkF m pc' Ls st))) (KF : ¬ x = 0 → own_G p e below E (T.setTop (mkF m pc'' Ls st))) : own_G p e below E (T.setTop (mkF m pc Ls (.int x :: st))) :=
  (Decidable.em (x = 0)).elim (fun q => own_ifT pc' Y hd (XT.i0_eq_t q) hp (KT q)) (fun q => own_ifF pc'' Y hd (XT.i0_eq_f q) hp' (KF q))
theorem own_ic_eq (pc' pc'' : Nat) (Y : own_S Z y bytes maxL ret p l e R s m args below meth c T h locs cells slots) {x z : Int32} {o : Int} (hd : decode bytes pc = .ok (.if_icmp .eq o, 3)) (hp : (pc : Int) + o = (pc' : Int)) (hp' : pc + 3 = pc'') (KT : x = z → own_G p e below E (T.setTop (mkF m pc' Ls st))) (KF : ¬ x = z → own_G p e below E (T.setTop (mkF m pc'' Ls st))) : own_G p e below E (T.setTop (mkF m pc Ls (.int z :: .int x :: st))) :=
  (Decidable.em (x = z)).elim (fun q => own_icT pc' Y hd (XT.ii_eq_t q) hp (KT q)) (fun q => own_icF pc'' Y hd (XT.ii_eq_f q) hp' (KF q))
theorem own_if_ne (pc' pc'' : Nat) (Y : own_S Z y bytes maxL ret p l e R s m args below meth c T h locs cells slots) {x : Int32} {o : Int} (hd : decode bytes pc = .ok (.ifCond .ne o, 3)) (hp : (pc : Int) + o = (pc' : Int)) (hp' : pc + 3 = pc'') (KT : ¬ x = 0 → own_G p e below E (T.setTop (mkF m pc' Ls st))) (KF : x = 0 → own_G p e below E (T.setTop (mkF m pc'' Ls st))) : own_G p e below E (T.setTop (mkF m pc Ls (.int x :: st))) :=
  (Decidable.em (x = 0)).elim (fun q => own_ifF pc'' Y hd (XT.i0_ne_f q) hp' (KF q)) (fun q => own_ifT pc' Y hd (XT.i0_ne_t q) hp (KT q))
theorem own_ic_ne (pc' pc'' : Nat) (Y : own_S Z y bytes maxL ret p l e R s m args below meth c T h locs cells slots) {x z : Int32} {o : Int} (hd : decode bytes pc = .ok (.if_icmp .ne o, 3)) (hp : (pc : Int) + o = (pc' : Int)) (hp' : pc + 3 = pc'') (KT : ¬ x = z → own_G p e below E (T.setTop (mkF m pc' Ls st))) (KF : x = z → own_G p e below E (T.setTop (mkF m pc'' Ls st))) : own_G p e below E (T.setTop (mkF m pc Ls (.int z :: .int x :: st))) :=
  (Decidable.em (x = z)).elim (fun q => own_icF pc'' Y hd (XT.ii_ne_f q) hp' (KF q)) (fun q => own_icT pc' Y hd (XT.ii_ne_t q) hp (KT q))
theorem own_if_lt (pc' pc'' : Nat) (Y : own_S Z y bytes maxL ret p l e R s m args below meth c T h locs cells slots) {x : Int32} {o : Int} (hd : decode bytes pc = .ok (.ifCond .lt o, 3)) (hp : (pc : Int) + o = (pc' : Int)) (hp' : pc + 3 = pc'') (KT : x < 0 → own_G p e below E (T.setTop (mkF m pc' Ls st))) (KF : ¬ x < 0 → own_G p e below E (T.setTop (mkF m pc'' Ls st))) : own_G p e below E (T.setTop (mkF m pc Ls (.int x :: st))) :=
  (Decidable.em (x < 0)).elim (fun q => own_ifT pc' Y hd (XT.i0_lt_t q) hp (KT q)) (fun q => own_ifF pc'' Y hd (XT.i0_lt_f q) hp' (KF q))
theorem own_ic_lt (pc' pc'' : Nat) (Y : own_S Z y bytes maxL ret p l e R s m args below meth c T h locs cells slots) {x z : Int32} {o : Int} (hd : decode bytes pc = .ok (.if_icmp .lt o, 3)) (hp : (pc : Int) + o = (pc' : Int)) (hp' : pc + 3 = pc'') (KT : x < z → own_G p e below E (T.setTop (mkF m pc' Ls st))) (KF : ¬ x < z → own_G p e below E (T.setTop (mkF m pc'' Ls st))) : own_G p e below E (T.setTop (mkF m pc Ls (.int z :: .int x :: st))) :=
  (Decidable.em (x < z)).elim (fun q => own_icT pc' Y hd (XT.ii_lt_t q) hp (KT q)) (fun q => own_icF pc'' Y hd (XT.ii_lt_f q) hp' (KF q))
theorem own_if_ge (pc' pc'' : Nat) (Y : own_S Z y bytes maxL ret p l e R s m args below meth c T h locs cells slots) {x : Int32} {o : Int} (hd : decode bytes pc = .ok (.ifCond .ge o, 3)) (hp : (pc : Int) + o = (pc' : Int)) (hp' : pc + 3 = pc'') (KT : ¬ x < 0 → own_G p e below E (T.setTop (mkF m pc' Ls st))) (KF : x < 0 → own_G p e below E (T.setTop (mkF m pc'' Ls st))) : own_G p e below E (T.setTop (mkF m pc Ls (.int x :: st))) :=
  (Decidable.em (x < 0)).elim (fun q => own_ifF pc'' Y hd (XT.i0_ge_f q) hp' (KF q)) (fun q => own_ifT pc' Y hd (XT.i0_ge_t q) hp (KT q))
theorem own_ic_ge (pc' pc'' : Nat) (Y : own_S Z y bytes maxL ret p l e R s m args below meth c T h locs cells slots) {x z : Int32} {o : Int} (hd : decode bytes pc = .ok (.if_icmp .ge o, 3)) (hp : (pc : Int) + o = (pc' : Int)) (hp' : pc + 3 = pc'') (KT : ¬ x < z → own_G p e below E (T.setTop (mkF m pc' Ls st))) (KF : x < z → own_G p e below E (T.setTop (mkF m pc'' Ls st))) : own_G p e below E (T.setTop (mkF m pc Ls (.int z :: .int x :: st))) :=
  (Decidable.em (x < z)).elim (fun q => own_icF pc'' Y hd (XT.ii_ge_f q) hp' (KF q)) (fun q => own_icT pc' Y hd (XT.ii_ge_t q) hp (KT q))
theorem own_if_gt (pc' pc'' : Nat) (Y : own_S Z y bytes maxL ret p l e R s m args below meth c T h locs cells slots) {x : Int32} {o : Int} (hd : decode bytes pc = .ok (.ifCond .gt o, 3)) (hp : (pc : Int) + o = (pc' : Int)) (hp' : pc + 3 = pc'') (KT : 0 < x → own_G p e below E (T.setTop (mkF m pc' Ls st))) (KF : ¬ 0 < x → own_G p e below E (T.setTop (mkF m pc'' Ls st))) : own_G p e below E (T.setTop (mkF m pc Ls (.int x :: st))) :=
  (Decidable.em (0 < x)).elim (fun q => own_ifT pc' Y hd (XT.i0_gt_t q) hp (KT q)) (fun q => own_ifF pc'' Y hd (XT.i0_gt_f q) hp' (KF q))
theorem own_ic_gt (pc' pc'' : Nat) (Y : own_S Z y bytes maxL ret p l e R s m args below meth c T h locs cells slots) {x z : Int32} {o : Int} (hd : decode bytes pc = .ok (.if_icmp .gt o, 3)) (hp : (pc : Int) + o = (pc' : Int)) (hp' : pc + 3 = pc'') (KT : z < x → own_G p e below E (T.setTop (mkF m pc' Ls st))) (KF : ¬ z < x → own_G p e below E (T.setTop (mkF m pc'' Ls st))) : own_G p e below E (T.setTop (mkF m pc Ls (.int z :: .int x :: st))) :=
  (Decidable.em (z < x)).elim (fun q => own_icT pc' Y hd (XT.ii_gt_t q) hp (KT q)) (fun q => own_icF pc'' Y hd (XT.ii_gt_f q) hp' (KF q))
theorem own_if_le (pc' pc'' : Nat) (Y : own_S Z y bytes maxL ret p l e R s m args below meth c T h locs cells slots) {x : Int32} {o : Int} (hd : decode bytes pc = .ok (.ifCond .le o, 3)) (hp : (pc : Int) + o = (pc' : Int)) (hp' : pc + 3 = pc'') (KT : ¬ 0 < x → own_G p e below E (T.setTop (mkF m pc' Ls st))) (KF : 0 < x → own_G p e below E (T.setTop (mkF m pc'' Ls st))) : own_G p e below E (T.setTop (mkF m pc Ls (.int x :: st))) :=
  (Decidable.em (0 < x)).elim (fun q => own_ifF pc'' Y hd (XT.i0_le_f q) hp' (KF q)) (fun q => own_ifT pc' Y hd (XT.i0_le_t q) hp (KT q))
theorem own_ic_le (pc' pc'' : Nat) (Y : own_S Z y bytes maxL ret p l e R s m args below meth c T h locs cells slots) {x z : Int32} {o : Int} (hd : decode bytes pc = .ok (.if_icmp .le o, 3)) (hp : (pc : Int) + o = (pc' : Int)) (hp' : pc + 3 = pc'') (KT : ¬ z < x → own_G p e below E (T.setTop (mkF m pc' Ls st))) (KF : z < x → own_G p e below E (T.setTop (mkF m pc'' Ls st))) : own_G p e below E (T.setTop (mkF m pc Ls (.int z :: .int x :: st))) :=
  (Decidable.em (z < x)).elim (fun q => own_icF pc'' Y hd (XT.ii_le_f q) hp' (KF q)) (fun q => own_icT pc' Y hd (XT.ii_le_t q) hp (KT q))
theorem own_acmp (pc' : Nat) (same : Bool) (Y : own_S Z y bytes maxL ret p l e R s m args below meth c T h locs cells slots) {cd : ACond} {o : Int} {x z : Value} (hd : decode bytes pc = .ok (.if_acmp cd o, 3)) (h1 : x.isRef = true) (h2 : z.isRef = true) (hq : decide (x = z) = same) (ho : 0 ≤ (pc : Int) + o) (hp : pc' = if acV cd same = true then ((pc : Int) + o).toNat else pc + 3) (K : own_G p e below E (T.setTop (mkF m pc' Ls st))) : own_G p e below E (T.setTop (mkF m pc Ls (z :: x :: st))) :=
  own_st (fun t k => Jvm.RoadKit.acmp Y.X Y.x rfl h1 h2 rfl (Y.d hd) rfl hq ho hp k) K
theorem own_ifnullT (pc' : Nat) (Y : own_S Z y bytes maxL ret p l e R s m args below meth c T h locs cells slots) {o : Int} (hd : decode bytes pc = .ok (.ifnull o, 3)) (hp : (pc : Int) + o = (pc' : Int)) (K : own_G p e below E (T.setTop (mkF m pc' Ls st))) : own_G p e below E (T.setTop (mkF m pc Ls (.null :: st))) :=
  own_st (fun t k => XS.ifnullYes Y.X.here Y.x rfl rfl (Y.d hd) rfl (own_pc hp).1 (own_pc hp).2 k) K
theorem own_ifnonnullT (pc' : Nat) (Y : own_S Z y bytes maxL ret p l e R s m args below meth c T h locs cells slots) {b : Addr} {o : Int} (hd : decode bytes pc = .ok (.ifnonnull o, 3)) (hp : (pc : Int) + o = (pc' : Int)) (K : own_G p e below E (T.setTop (mkF m pc' Ls st))) : own_G p e below E (T.setTop (mkF m pc Ls (.ref b :: st))) :=
  own_st (fun t k => XS.ifnonnullYes Y.X.here Y.x rfl rfl (Y.d hd) rfl (own_pc hp).1 (own_pc hp).2 k) K
theorem own_ifnullF (pc' : Nat) (Y : own_S Z y bytes maxL ret p l e R s m args below meth c T h locs cells slots) {b : Addr} {o : Int} (hd : decode bytes pc = .ok (.ifnull o, 3)) (hp : pc + 3 = pc') (K : own_G p e below E (T.setTop (mkF m pc' Ls st))) : own_G p e below E (T.setTop (mkF m pc Ls (.ref b :: st))) := by
  subst hp
  exact own_st (fun t k => XS.ifnullNo Y.X.here Y.x rfl (Y.d hd) rfl k) K
theorem own_ifnonnullF (pc' : Nat) (Y : own_S Z y bytes maxL ret p l e R s m args below meth c T h locs cells slots) {o : Int} (hd : decode bytes pc = .ok (.ifnonnull o, 3)) (hp : pc + 3 = pc') (K : own_G p e below E (T.setTop (mkF m pc' Ls st))) : own_G p e below E (T.setTop (mkF m pc Ls (.null :: st))) := by
  subst hp
  exact own_st (fun t k => XS.ifnonnullNo Y.X.here Y.x rfl (Y.d hd) rfl k) K
theorem own_tswIn (pc' : Nat) (Y : own_S Z y bytes maxL ret p l e R s m args below meth c T h locs cells slots) {dflt low high : Int} {offs : Array Int} {len : Nat} {o : Int} {i : Int32} (hd : decode bytes pc = .ok (.tableswitch dflt low high offs, len)) (hin : ¬ (i.toInt < low ∨ i.toInt > high)) (hoff : offs[(i.toInt - low).toNat]? = some o) (hp : (pc : Int) + o = (pc' : Int)) (K : own_G p e below E (T.setTop (mkF m pc' Ls st))) : own_G p e below E (T.setTop (mkF m pc Ls (.int i :: st))) :=
  own_st (fun t k => XS.tswIn Y.X.here Y.x rfl rfl (Y.d hd) rfl hin hoff (own_pc hp).1 (own_pc hp).2 k) K
theorem own_tswOut (pc' : Nat) (Y : own_S Z y bytes maxL ret p l e R s m args below meth c T h locs cells slots) {o low high : Int} {offs : Array Int} {len : Nat} {i : Int32} (hd : decode bytes pc = .ok (.tableswitch o low high offs, len)) (hout : i.toInt < low ∨ i.toInt > high) (hp : (pc : Int) + o = (pc' : Int)) (K : own_G p e below E (T.setTop (mkF m pc' Ls st))) : own_G p e below E (T.setTop (mkF m pc Ls (.int i :: st))) :=
  own_st (fun t k => XS.tswOut Y.X.here Y.x rfl rfl (Y.d hd) rfl hout (own_pc hp).1 (own_pc hp).2 k) K
theorem own_ldcI (pc' : Nat) (Y : own_S Z y bytes maxL ret p l e R s m args below meth c T h locs cells slots) {index : Nat} {v : Int32} (w : (Jvm.Cond.constant y.cls index v).before a0 Z = true) (hd : decode bytes pc = .ok (.ldc index, 2)) (hp : pc + 2 = pc') (K : own_G p e below E (T.setTop (mkF m pc' Ls (.int v :: st)))) : own_G p e below E (T.setTop (mkF m pc Ls st)) := by
  subst hp
  exact own_st (fun t k => Y.X.ldcInt Y.x Y.own (mvT Y.warm w) (g := mkF m pc Ls st) rfl (Y.d hd) t k) K
theorem own_ldc2J (pc' : Nat) (Y : own_S Z y bytes maxL ret p l e R s m args below meth c T h locs cells slots) {index : Nat} {v : Int64} (w : (Jvm.Cond.constantLong y.cls index v).before a0 Z = true) (hd : decode bytes pc = .ok (.ldc2_w index, 3)) (hp : pc + 3 = pc') (K : own_G p e below E (T.setTop (mkF m pc' Ls (.long v :: st)))) : own_G p e below E (T.setTop (mkF m pc Ls st)) := by
  subst hp
  exact own_st (fun t k => Y.X.ldc2Long Y.x Y.own (mvT Y.warm w) (g := mkF m pc Ls st) rfl (Y.d hd) t k) K
theorem own_getS (pc' : Nat) (Y : own_S Z y bytes maxL ret p l e R s m args below meth c T h locs cells slots) {R0 O n d host : String} {index : Nat} (w : (Jvm.Cond.fieldLink y.cls index R0 n d).before a0 Z = true ∨ (Jvm.Cond.fieldLinkNest y.cls index R0 n d host).before a0 Z = true) (via : Via Z R0 O n d) {v : Value} (F : Sta Z h O n d v) (hd : decode bytes pc = .ok (.getstatic index, 3)) (hp : pc + 3 = pc') (K : ∀ T', own_S Z y bytes maxL ret p l e R s m args below meth c T' h locs cells slots → own_G p e below E (T'.setTop (mkF m pc' Ls (v :: st)))) : own_G p e below E (T.setTop (mkF m pc Ls st)) := by
  subst hp
  obtain ⟨T', X', e', st'⟩ := getS2 Y.X Y.x Y.warm Y.own w via Y.eT F (g := mkF m pc Ls st) rfl (Y.d hd)
  exact own_st st' (K T' ⟨Y.1, X', e'⟩)
theorem own_getF (pc' : Nat) (Y : own_S Z y bytes maxL ret p l e R s m args below meth c T h locs cells slots) {R0 O n d host : String} {index : Nat} (w : (Jvm.Cond.fieldLink y.cls index R0 n d).before a0 Z = true ∨ (Jvm.Cond.fieldLinkNest y.cls index R0 n d host).before a0 Z = true) (via : Via Z R0 O n d) {a : Addr} {v : Value} (F : Fld Z h a O n d v) (hd : decode bytes pc = .ok (.getfield index, 3)) (hp : pc + 3 = pc') (K : ∀ T', own_S Z y bytes maxL ret p l e R s m args below meth c T' h locs cells slots → own_G p e below E (T'.setTop (mkF m pc' Ls (v :: st)))) : own_G p e below E (T.setTop (mkF m pc Ls (.ref a :: st))) := by
  subst hp
  obtain ⟨T', X', e', st'⟩ := getF Y.X Y.x Y.warm Y.own w via Y.eT F (g := mkF m pc Ls (.ref a :: st)) rfl rfl (Y.d hd)
  exact own_st st' (K T' ⟨Y.1, X', e'⟩)
theorem own_putF (pc' : Nat) (Y : own_S Z y bytes maxL ret p l e R s m args below meth c T h locs cells slots) {R0 O n d host : String} {index : Nat} {C : String} {kk : Nat} {ty : FieldType} (w : (Jvm.Cond.fieldLink y.cls index R0 n d).before a0 Z = true ∨ (Jvm.Cond.fieldLinkNest y.cls index R0 n d host).before a0 Z = true) (via : Via Z R0 O n d) {a : Addr} {v old : Value} (F : Fld Z h a O n d old) (EX : Exa Z h a C) (Lw : (Jvm.Cond.lays C O n d).before a0 Z = true ∨ ((Jvm.Cond.laysFinal C O n d).before a0 Z = true ∧ y.cls = O ∧ y.name = "<init>")) (wi : (Jvm.Cond.instantiable C kk).before a0 Z = true) (hty : parseFieldDescriptor d = some ty) (hn : narrow ty v = v) (hf : fits ty v = true) (hd : decode bytes pc = .ok (.putfield index, 3)) (hp : pc + 3 = pc')
    (K : ∀ T' h', own_S Z y bytes maxL ret p l e R s m args below meth c T' h' (locs ++ [⟨a, Jvm.RoadKit.slotOf Z O n d⟩]) cells slots → Wr h h' a (Jvm.RoadKit.slotOf Z O n d) v → own_G p e below E (T'.setTop (mkF m pc' Ls st))) : own_G p e below E (T.setTop (mkF m pc Ls (v :: .ref a :: st))) := by
  subst hp
  obtain ⟨T', h', X', e', W', st'⟩ := putF Y.X Y.x Y.warm Y.own w via Y.eT F EX (Lw.imp id fun q => ⟨q.1, q.2.1, Y.1.2.2.2.2.2.2.2.trans q.2.2⟩) wi hty hn hf (g := mkF m pc Ls (v :: .ref a :: st)) rfl rfl (Y.d hd)
  exact own_st st' (K T' h' ⟨Y.1, X', e'⟩ W')
theorem own_putFN (pc' : Nat) (Y : own_S Z y bytes maxL ret p l e R s m args below meth c T h locs cells slots) {R0 O n d : String} {index : Nat} {C : String} {kk : Nat} {ty : FieldType} (w : (Jvm.Cond.fieldLink y.cls index R0 n d).before a0 Z = true) (via : Via Z R0 O n d) {a : Addr} {v v' old : Value} (F : Fld Z h a O n d old) (EX : Exa Z h a C) (Lw : (Jvm.Cond.lays C O n d).before a0 Z = true ∨ ((Jvm.Cond.laysFinal C O n d).before a0 Z = true ∧ y.cls = O ∧ y.name = "<init>")) (wi : (Jvm.Cond.instantiable C kk).before a0 Z = true) (hty : parseFieldDescriptor d = some ty) (hn : narrow ty v = v') (hf : fits ty v' = true) (hd : decode bytes pc = .ok (.putfield index, 3)) (hp : pc + 3 = pc')
    (K : ∀ T' h', own_S Z y bytes maxL ret p l e R s m args below meth c T' h' (locs ++ [⟨a, Jvm.RoadKit.slotOf Z O n d⟩]) cells slots → Wr h h' a (Jvm.RoadKit.slotOf Z O n d) v' → own_G p e below E (T'.setTop (mkF m pc' Ls st))) : own_G p e below E (T.setTop (mkF m pc Ls (v :: .ref a :: st))) := by
  subst hp
  obtain ⟨T', h', X', e', W', st'⟩ := putFN Y.X Y.x Y.warm Y.own w via Y.eT F EX (Lw.imp id fun q => ⟨q.1, q.2.1, Y.1.2.2.2.2.2.2.2.trans q.2.2⟩) wi hty hn hf (g := mkF m pc Ls (v :: .ref a :: st)) rfl rfl (Y.d hd)
  exact own_st st' (K T' h' ⟨Y.1, X', e'⟩ W')
theorem own_newO (pc' : Nat) (Y : own_S Z y bytes maxL ret p l e R s m args below meth c T h locs cells slots) {C : String} {index n : Nat} (w : (Jvm.Cond.classLink y.cls index C).before a0 Z = true) (wi : (Jvm.Cond.instantiable C n).before a0 Z = true) (wz : (Jvm.Cond.initialized C).before a0 Z = true) (hd : decode bytes pc = .ok (.new index, 3)) (hc : cells + 1 ≤ R.cells) (hl : slots + n ≤ R.slots) (hp : pc + 3 = pc')
    (K : ∀ T' h' a, own_S Z y bytes maxL ret p l e R s m args below meth c T' h' locs (cells + 1) (slots + n) → a = h.size → Ext h h' → Exa Z h' a C → (∀ {O nm d : String} {ty : FieldType}, Laid Z a0 C O nm d → parseFieldDescriptor d = some ty → Fld Z h' a O nm d (defaultValue ty)) → own_G p e below E (T'.setTop (mkF m pc' Ls (.ref a :: st)))) : own_G p e below E (T.setTop (mkF m pc Ls st)) := by
  subst hp
  obtain ⟨T', h', X', e', E', A', D', -, st'⟩ := newO Y.X Y.x Y.warm Y.own w wi wz Y.eT (g := mkF m pc Ls st) rfl (Y.d hd) hc hl
  exact own_st st' (K T' h' _ ⟨Y.1, X', e'⟩ rfl E' A' D')
theorem own_initO (pc' : Nat) (Y : own_S Z y bytes maxL ret p l e R s m args below meth c T h locs cells slots) {idx : Nat} {a : Addr} (w1 : (Jvm.Cond.methodLink y.cls idx Lib.objectInit).before a0 Z = true) (w2 : (Jvm.Cond.instanceMethod Lib.objectInit).before a0 Z = true) (w3 : (Jvm.Cond.code Lib.objectInit ⟨#[0xb1]⟩ 1 none).before a0 Z = true) (hd : decode bytes pc = .ok (.invokespecial idx, 3)) (hLs : Ls.size = maxL) (hf : 1 ≤ R.frames) (hl : (st.map fun v => v.category).sum + 12 ≤ R.locals) (hp : pc + 3 = pc') (K : ∀ T', own_S Z y bytes maxL ret p l e R s m args below meth c T' h locs cells slots → own_G p e below E (T'.setTop (mkF m pc' Ls st))) : own_G p e below E (T.setTop (mkF m pc Ls (.ref a :: st))) := by
  subst hp
  obtain ⟨T', X', e', st'⟩ := initO Y.X Y.x Y.warm Y.own w1 w2 w3 Y.eT (g := mkF m pc Ls (.ref a :: st)) rfl (hLs.trans Y.1.2.2.1.symm) rfl (Y.d hd) hf (W := (st.map fun v => v.category).sum) (by show 2 * 0 + _ ≤ _; omega) hl
  exact own_st st' (K T' ⟨Y.1, X', e'⟩)
theorem own_cast (pc' : Nat) (Y : own_S Z y bytes maxL ret p l e R s m args below meth c T h locs cells slots) {K0 : String} {index : Nat} {a : Addr} (w : (Jvm.Cond.classLink y.cls index K0).before a0 Z = true) (F : Ins Z h a K0 true) (hd : decode bytes pc = .ok (.checkcast index, 3)) (hp : pc + 3 = pc') (K : ∀ T', own_S Z y bytes maxL ret p l e R s m args below meth c T' h locs cells slots → own_G p e below E (T'.setTop (mkF m pc' Ls (.ref a :: st)))) : own_G p e below E (T.setTop (mkF m pc Ls (.ref a :: st))) := by
  subst hp
  obtain ⟨T', X', e', st'⟩ := castY Y.X Y.x Y.warm Y.own w Y.eT F (g := mkF m pc Ls (.ref a :: st)) rfl rfl (Y.d hd)
  exact own_st st' (K T' ⟨Y.1, X', e'⟩)
theorem own_newP (pc' : Nat) (Y : own_S Z y bytes maxL ret p l e R s m args below meth c T h locs cells slots) {aty : ArrayType} (w : (Jvm.Cond.arrayClass (newarray.typeOf aty)).before a0 Z = true) {n : Int32} (cap : Nat) (hd : decode bytes pc = .ok (.newarray aty, 2)) (hn : ¬ n < 0) (hcap : n.toNatClampNeg ≤ cap) (hb : cap * 8 ≤ 536870912) (hc : cells + 1 ≤ R.cells) (hl : slots + cap ≤ R.slots) (hp : pc + 2 = pc')
    (K : ∀ T' h' a kA, own_S Z y bytes maxL ret p l e R s m args below meth c T' h' locs (cells + 1) (slots + cap) → a = h.size → Ext h h' → Arv Z h' a kA (newarray.typeOf aty) n [] (defaultValue (newarray.typeOf aty)) → own_G p e below E (T'.setTop (mkF m pc' Ls (.ref a :: st)))) : own_G p e below E (T.setTop (mkF m pc Ls (.int n :: st))) := by
  subst hp
  obtain ⟨T', h', kA, X', e', E', A', st'⟩ := newP Y.X Y.x Y.warm w Y.eT (g := mkF m pc Ls (.int n :: st)) rfl (Y.d hd) rfl hn (cap := cap) hcap hb hc hl
  exact own_st st' (K T' h' _ kA ⟨Y.1, X', e'⟩ rfl E' (Arv.new A' hn))
theorem own_newR (pc' : Nat) (Y : own_S Z y bytes maxL ret p l e R s m args below meth c T h locs cells slots) {C : String} {index : Nat} (w1 : (Jvm.Cond.classLink y.cls index C).before a0 Z = true) (w2 : (Jvm.Cond.arrayOver (.object C)).before a0 Z = true) {n : Int32} (cap : Nat) (hd : decode bytes pc = .ok (.anewarray index, 3)) (hn : ¬ n < 0) (hcap : n.toNatClampNeg ≤ cap) (hb : cap * 8 ≤ 536870912) (hc : cells + 1 ≤ R.cells) (hl : slots + cap ≤ R.slots) (hp : pc + 3 = pc')
    (K : ∀ T' h' a kA, own_S Z y bytes maxL ret p l e R s m args below meth c T' h' locs (cells + 1) (slots + cap) → a = h.size → Ext h h' → Arv Z h' a kA (.object C) n [] .null → Ovr Z kA C → own_G p e below E (T'.setTop (mkF m pc' Ls (.ref a :: st)))) : own_G p e below E (T.setTop (mkF m pc Ls (.int n :: st))) := by
  subst hp
  obtain ⟨T', h', kA, X', e', E', A', O', st'⟩ := newR Y.X Y.x Y.warm Y.own w1 w2 Y.eT (g := mkF m pc Ls (.int n :: st)) rfl (Y.d hd) rfl hn (cap := cap) hcap hb hc hl
  exact own_st st' (K T' h' _ kA ⟨Y.1, X', e'⟩ rfl E' (Arv.new A' hn) O')
theorem own_stC (pc' : Nat) (Y : own_S Z y bytes maxL ret p l e R s m args below meth c T h locs cells slots) {a : Addr} {kA : ClassId} {n j : Int32} {vs : List Value} {dv : Value} {x : Int32} (A : Arv Z h a kA .char n vs dv) (hd : decode bytes pc = .ok (.castore, 1)) (hj : ¬ j < 0 ∧ j < n) (hp : pc + 1 = pc')
    (K : ∀ T' h', own_S Z y bytes maxL ret p l e R s m args below meth c T' h' (locs ++ [⟨a, j.toNatClampNeg⟩]) cells slots → Wr h h' a j.toNatClampNeg (.int (nar .char x)) → (∀ (i : Nat), j.toNatClampNeg = i → i < vs.length → fits .char (.int (nar .char x)) = true → Arv Z h' a kA .char n (vs.set i (.int (nar .char x))) dv) → own_G p e below E (T'.setTop (mkF m pc' Ls st))) : own_G p e below E (T.setTop (mkF m pc Ls (.int x :: .int j :: .ref a :: st))) := by
  subst hp
  obtain ⟨cl, A1, q1, q2, q3, q4, q5⟩ := A
  obtain ⟨T', h', X', e', W', st'⟩ := stC Y.X Y.x Y.warm Y.eT A1 (j := j) (inb_of q2 hj) (g := mkF m pc Ls (.int x :: .int j :: .ref a :: st)) rfl rfl (Y.d hd)
  exact own_st st' (K T' h' ⟨Y.1, X', e'⟩ W' fun i hi hl hf => Arv.set A1 q1 q2 q3 q4 q5 hf W' i hi hl)
theorem own_stI (pc' : Nat) (Y : own_S Z y bytes maxL ret p l e R s m args below meth c T h locs cells slots) {a : Addr} {kA : ClassId} {n j : Int32} {vs : List Value} {dv : Value} {x : Int32} (A : Arv Z h a kA .int n vs dv) (hd : decode bytes pc = .ok (.iastore, 1)) (hj : ¬ j < 0 ∧ j < n) (hp : pc + 1 = pc')
    (K : ∀ T' h', own_S Z y bytes maxL ret p l e R s m args below meth c T' h' (locs ++ [⟨a, j.toNatClampNeg⟩]) cells slots → Wr h h' a j.toNatClampNeg (.int x) → (∀ (i : Nat), j.toNatClampNeg = i → i < vs.length → fits .int (.int x) = true → Arv Z h' a kA .int n (vs.set i (.int x)) dv) → own_G p e below E (T'.setTop (mkF m pc' Ls st))) : own_G p e below E (T.setTop (mkF m pc Ls (.int x :: .int j :: .ref a :: st))) := by
  subst hp
  obtain ⟨cl, A1, q1, q2, q3, q4, q5⟩ := A
  obtain ⟨T', h', X', e', W', st'⟩ := stI Y.X Y.x Y.warm Y.eT A1 (j := j) (inb_of q2 hj) (g := mkF m pc Ls (.int x :: .int j :: .ref a :: st)) rfl rfl (Y.d hd)
  exact own_st st' (K T' h' ⟨Y.1, X', e'⟩ W' fun i hi hl hf => Arv.set A1 q1 q2 q3 q4 q5 hf W' i hi hl)
theorem own_stB (pc' : Nat) (Y : own_S Z y bytes maxL ret p l e R s m args below meth c T h locs cells slots) {a : Addr} {kA : ClassId} {n j : Int32} {vs : List Value} {dv : Value} {x : Int32} (A : Arv Z h a kA .byte n vs dv) (hd : decode bytes pc = .ok (.bastore, 1)) (hj : ¬ j < 0 ∧ j < n) (hp : pc + 1 = pc')
    (K : ∀ T' h', own_S Z y bytes maxL ret p l e R s m args below meth c T' h' (locs ++ [⟨a, j.toNatClampNeg⟩]) cells slots → Wr h h' a j.toNatClampNeg (.int (nar .byte x)) → (∀ (i : Nat), j.toNatClampNeg = i → i < vs.length → fits .byte (.int (nar .byte x)) = true → Arv Z h' a kA .byte n (vs.set i (.int (nar .byte x))) dv) → own_G p e below E (T'.setTop (mkF m pc' Ls st))) : own_G p e below E (T.setTop (mkF m pc Ls (.int x :: .int j :: .ref a :: st))) := by
  subst hp
  obtain ⟨cl, A1, q1, q2, q3, q4, q5⟩ := A
  obtain ⟨T', h', X', e', W', st'⟩ := stB Y.X Y.x Y.warm Y.eT A1 (j := j) (inb_of q2 hj) (g := mkF m pc Ls (.int x :: .int j :: .ref a :: st)) rfl rfl (Y.d hd)
  exact own_st st' (K T' h' ⟨Y.1, X', e'⟩ W' fun i hi hl hf => Arv.set A1 q1 q2 q3 q4 q5 hf W' i hi hl)
theorem own_stJ (pc' : Nat) (Y : own_S Z y bytes maxL ret p l e R s m args below meth c T h locs cells slots) {a : Addr} {kA : ClassId} {n j : Int32} {vs : List Value} {dv : Value} {x : Int64} (A : Arv Z h a kA .long n vs dv) (hd : decode bytes pc = .ok (.lastore, 1)) (hj : ¬ j < 0 ∧ j < n) (hp : pc + 1 = pc')
    (K : ∀ T' h', own_S Z y bytes maxL ret p l e R s m args below meth c T' h' (locs ++ [⟨a, j.toNatClampNeg⟩]) cells slots → Wr h h' a j.toNatClampNeg (.long x) → (∀ (i : Nat), j.toNatClampNeg = i → i < vs.length → fits .long (.long x) = true → Arv Z h' a kA .long n (vs.set i (.long x)) dv) → own_G p e below E (T'.setTop (mkF m pc' Ls st))) : own_G p e below E (T.setTop (mkF m pc Ls (.long x :: .int j :: .ref a :: st))) := by
  subst hp
  obtain ⟨cl, A1, q1, q2, q3, q4, q5⟩ := A
  obtain ⟨T', h', X', e', W', st'⟩ := stJ Y.X Y.x Y.warm Y.eT A1 (j := j) (inb_of q2 hj) (g := mkF m pc Ls (.long x :: .int j :: .ref a :: st)) rfl rfl (Y.d hd)
  exact own_st st' (K T' h' ⟨Y.1, X', e'⟩ W' fun i hi hl hf => Arv.set A1 q1 q2 q3 q4 q5 hf W' i hi hl)
theorem own_stR (pc' : Nat) (Y : own_S Z y bytes maxL ret p l e R s m args below meth c T h locs cells slots) {a : Addr} {kA : ClassId} {n j : Int32} {vs : List Value} {dv : Value} {v : Value} {ty : FieldType} (A : Arv Z h a kA ty n vs dv) (hty : ty.isReference = true) (F : Sto Z h a v) (hfit : fits ty v = true) (hd : decode bytes pc = .ok (.aastore, 1)) (hj : ¬ j < 0 ∧ j < n) (hp : pc + 1 = pc')
    (K : ∀ T' h', own_S Z y bytes maxL ret p l e R s m args below meth c T' h' (locs ++ [⟨a, j.toNatClampNeg⟩]) cells slots → Wr h h' a j.toNatClampNeg v → (∀ (i : Nat), j.toNatClampNeg = i → i < vs.length → Arv Z h' a kA ty n (vs.set i v) dv) → own_G p e below E (T'.setTop (mkF m pc' Ls st))) : own_G p e below E (T.setTop (mkF m pc Ls (v :: .int j :: .ref a :: st))) := by
  subst hp
  obtain ⟨cl, A1, q1, q2, q3, q4, q5⟩ := A
  obtain ⟨T', h', X', e', W', st'⟩ := stR Y.X Y.x Y.warm Y.eT A1 (j := j) (inb_of q2 hj) hty F (g := mkF m pc Ls (v :: .int j :: .ref a :: st)) rfl rfl (Y.d hd)
  exact own_st st' (K T' h' ⟨Y.1, X', e'⟩ W' fun i hi hl => Arv.set A1 q1 q2 q3 q4 q5 hfit W' i hi hl)
theorem own_caload (pc' : Nat) (Y : own_S Z y bytes maxL ret p l e R s m args below meth c T h locs cells slots) {a : Addr} {kA : ClassId} {n j : Int32} {vs : List Value} {dv : Value} (A : Arv Z h a kA .char n vs dv) {v : Value} (hd : decode bytes pc = .ok (.caload, 1)) (hj : ¬ j < 0 ∧ j < n) (hv : vs.getD j.toNatClampNeg dv = v) (hp : pc + 1 = pc') (K : own_G p e below E (T.setTop (mkF m pc' Ls (v :: st)))) : own_G p e below E (T.setTop (mkF m pc Ls (.int j :: .ref a :: st))) := by
  subst hp
  obtain ⟨cl, A1, q1, q2, q3, q4, q5⟩ := A
  exact own_st (fun t k => Y.X.caload Y.x (j := j) (v := v) (by rw [Y.eT]; exact A1.1) (State.isArrayOf_alike Y.warm.alike A1.2.1) A1.2.2 (inb_of q2 hj) (q4.at (inb_of q2 hj) hv) (g := mkF m pc Ls (.int j :: .ref a :: st)) rfl rfl (Y.d hd) t k) K
theorem own_iaload (pc' : Nat) (Y : own_S Z y bytes maxL ret p l e R s m args below meth c T h locs cells slots) {a : Addr} {kA : ClassId} {n j : Int32} {vs : List Value} {dv : Value} (A : Arv Z h a kA .int n vs dv) {v : Value} (hd : decode bytes pc = .ok (.iaload, 1)) (hj : ¬ j < 0 ∧ j < n) (hv : vs.getD j.toNatClampNeg dv = v) (hp : pc + 1 = pc') (K : own_G p e below E (T.setTop (mkF m pc' Ls (v :: st)))) : own_G p e below E (T.setTop (mkF m pc Ls (.int j :: .ref a :: st))) := by
  subst hp
  obtain ⟨cl, A1, q1, q2, q3, q4, q5⟩ := A
  exact own_st (fun t k => Y.X.iaload Y.x (j := j) (v := v) (by rw [Y.eT]; exact A1.1) (State.isArrayOf_alike Y.warm.alike A1.2.1) A1.2.2 (inb_of q2 hj) (q4.at (inb_of q2 hj) hv) (g := mkF m pc Ls (.int j :: .ref a :: st)) rfl rfl (Y.d hd) t k) K
theorem own_baload (pc' : Nat) (Y : own_S Z y bytes maxL ret p l e R s m args below meth c T h locs cells slots) {a : Addr} {kA : ClassId} {n j : Int32} {vs : List Value} {dv : Value} (A : Arv Z h a kA .byte n vs dv) {v : Value} (hd : decode bytes pc = .ok (.baload, 1)) (hj : ¬ j < 0 ∧ j < n) (hv : vs.getD j.toNatClampNeg dv = v) (hp : pc + 1 = pc') (K : own_G p e below E (T.setTop (mkF m pc' Ls (v :: st)))) : own_G p e below E (T.setTop (mkF m pc Ls (.int j :: .ref a :: st))) := by
  subst hp
  obtain ⟨cl, A1, q1, q2, q3, q4, q5⟩ := A
  exact own_st (fun t k => Y.X.baloadBytes Y.x (j := j) (v := v) (by rw [Y.eT]; exact A1.1) (State.isArrayOf_alike Y.warm.alike A1.2.1) A1.2.2 (inb_of q2 hj) (q4.at (inb_of q2 hj) hv) (g := mkF m pc Ls (.int j :: .ref a :: st)) rfl rfl (Y.d hd) t k) K
theorem own_laload (pc' : Nat) (Y : own_S Z y bytes maxL ret p l e R s m args below meth c T h locs cells slots) {a : Addr} {kA : ClassId} {n j : Int32} {vs : List Value} {dv : Value} (A : Arv Z h a kA .long n vs dv) {v : Value} (hd : decode bytes pc = .ok (.laload, 1)) (hj : ¬ j < 0 ∧ j < n) (hv : vs.getD j.toNatClampNeg dv = v) (hp : pc + 1 = pc') (K : own_G p e below E (T.setTop (mkF m pc' Ls (v :: st)))) : own_G p e below E (T.setTop (mkF m pc Ls (.int j :: .ref a :: st))) := by
  subst hp
  obtain ⟨cl, A1, q1, q2, q3, q4, q5⟩ := A
  exact own_st (fun t k => Y.X.laload Y.x (j := j) (v := v) (by rw [Y.eT]; exact A1.1) (State.isArrayOf_alike Y.warm.alike A1.2.1) A1.2.2 (inb_of q2 hj) (q4.at (inb_of q2 hj) hv) (g := mkF m pc Ls (.int j :: .ref a :: st)) rfl rfl (Y.d hd) t k) K
theorem own_aaload (pc' : Nat) (Y : own_S Z y bytes maxL ret p l e R s m args below meth c T h locs cells slots) {a : Addr} {kA : ClassId} {n j : Int32} {vs : List Value} {dv : Value} {ty : FieldType} (A : Arv Z h a kA ty n vs dv) (hty : ty.isReference = true) {v : Value} (hd : decode bytes pc = .ok (.aaload, 1)) (hj : ¬ j < 0 ∧ j < n) (hv : vs.getD j.toNatClampNeg dv = v) (hp : pc + 1 = pc') (K : own_G p e below E (T.setTop (mkF m pc' Ls (v :: st)))) : own_G p e below E (T.setTop (mkF m pc Ls (.int j :: .ref a :: st))) := by
  subst hp
  obtain ⟨cl, A1, q1, q2, q3, q4, q5⟩ := A
  exact own_st (fun t k => Y.X.aaload Y.x (j := j) (v := v) (by rw [Y.eT]; exact A1.1) (State.isArrayOf_alike Y.warm.alike A1.2.1) hty A1.2.2 (inb_of q2 hj) (q4.at (inb_of q2 hj) hv) (g := mkF m pc Ls (.int j :: .ref a :: st)) rfl rfl (Y.d hd) t k) K
theorem own_alen (pc' : Nat) (Y : own_S Z y bytes maxL ret p l e R s m args below meth c T h locs cells slots) {a : Addr} {kA : ClassId} {n : Int32} {vs : List Value} {dv : Value} {ty : FieldType} (A : Arv Z h a kA ty n vs dv) (hd : decode bytes pc = .ok (.arraylength, 1)) (hp : pc + 1 = pc') (K : own_G p e below E (T.setTop (mkF m pc' Ls (.int n :: st)))) : own_G p e below E (T.setTop (mkF m pc Ls (.ref a :: st))) := by
  subst hp
  obtain ⟨cl, A1, q1, q2, q3, q4, q5⟩ := A
  refine own_st (fun t k => Y.X.arraylength Y.x (by rw [Y.eT]; exact A1.1) (State.isArrayOf_alike Y.warm.alike A1.2.1) (g := mkF m pc Ls (.ref a :: st)) rfl rfl (Y.d hd) t k) ?_
  rw [len_of q2 q3]
  exact K
theorem own_callS (pc' : Nat) (Y : own_S Z y bytes maxL ret p l e R s m args below meth c T h locs cells slots) {yc : MethodName} {bc : ByteArray} {mc : Nat} {rc : Option FieldType} {rm : Room} {index : Nat} {Qc : Option Value → Heap → List Loc → Prop} (argsL rest : List Value) (w1 : (Jvm.Cond.methodLink y.cls index yc).before a0 Z = true) (w2 : (Jvm.Cond.static yc).before a0 Z = true) (w3 : (Jvm.Cond.initialized yc.cls).before a0 Z = true) (w4 : (Jvm.Cond.code yc bc mc rc).before a0 Z = true) (hM : own_M l yc bc mc rc [] rm Z argsL.toArray h Qc) (hd : decode bytes pc = .ok (.invokestatic index, 3)) (hy : (yc.cls ≠ "java/lang/invoke/MethodHandle" ∧ yc.cls ≠ "java/lang/invoke/VarHandle")) (hlen : ∀ sig, parseMethodDescriptor yc.desc = some sig → argsL.length = sig.parameters.length) (hst : st = argsL.reverse ++ rest) (hLs : Ls.size = maxL) (hf : rm.frames + 1 ≤ R.frames) (hl : (rest.map fun v => v.category).sum + (mc + 11) + rm.locals ≤ R.locals) (hc : cells + rm.cells ≤ R.cells) (hs : slots + rm.slots ≤ R.slots) (hp : pc + 3 = pc')
    (K : ∀ v T' h' L, own_S Z y bytes maxL ret p l e R s m args below meth c T' h' (locs ++ L) (cells + rm.cells) (slots + rm.slots) → Qc v h' L → own_G p e below E (T'.setTop (mkF m pc' Ls (v.toList ++ rest)))) : own_G p e below E (T.setTop (mkF m pc Ls st)) := by
  subst hp
  obtain ⟨v, _, ⟨T', L', k', n'⟩, -, X', P', st'⟩ := Jvm.LawKit.callS Y.X Y.x (y := yc) Y.own (mvT Y.warm w1) (mvT Y.warm w2) (mvT Y.warm w3) (mvT Y.warm w4) hy (backOf (W := (rest.map fun v => v.category).sum) hM Y.warm w4 w3 hf hl) (g := mkF m pc Ls st) rfl (hLs.trans Y.1.2.2.1.symm) (argsL := argsL) (rest := rest) hlen hst (by show 2 * 0 + _ ≤ _; omega) (Y.d hd) (fun _ _ => ⟨rfl, Y.eT, hc, hs⟩)
  obtain ⟨Lc, hQ, l1, y1, z1⟩ := P'
  dsimp only [Pt.U, Pt.locs, Pt.cells, Pt.slots] at l1 y1 z1 hQ
  dsimp only [Pt.U, Pt.locs, Pt.cells, Pt.slots] at X' st'
  subst l1 y1 z1
  exact own_st st' (K v T' T'.heap Lc ⟨Y.1, X', rfl⟩ hQ)
theorem own_callI (pc' : Nat) (Y : own_S Z y bytes maxL ret p l e R s m args below meth c T h locs cells slots) {yc : MethodName} {bc : ByteArray} {mc : Nat} {rm : Room} {index : Nat} {Qc : Option Value → Heap → List Loc → Prop} (argsL rest : List Value) {a : Addr} (hini : yc.name = "<init>") (w1 : (Jvm.Cond.methodLink y.cls index yc).before a0 Z = true) (w2 : (Jvm.Cond.instanceMethod yc).before a0 Z = true) (w3 : (Jvm.Cond.initialized yc.cls).before a0 Z = true) (w4 : (Jvm.Cond.code yc bc mc none).before a0 Z = true) (hM : own_M l yc bc mc none [] rm Z (.ref a :: argsL).toArray h Qc) (hd : decode bytes pc = .ok (.invokespecial index, 3)) (hy : (yc.cls ≠ "java/lang/invoke/MethodHandle" ∧ yc.cls ≠ "java/lang/invoke/VarHandle")) (hlen : ∀ sig, parseMethodDescriptor yc.desc = some sig → argsL.length = sig.parameters.length) (hst : st = argsL.reverse ++ .ref a :: rest) (hLs : Ls.size = maxL) (hf : rm.frames + 1 ≤ R.frames) (hl : (rest.map fun v => v.category).sum + (mc + 11) + rm.locals ≤ R.locals) (hc : cells + rm.cells ≤ R.cells) (hs : slots + rm.slots ≤ R.slots) (hp : pc + 3 = pc')
    (K : ∀ v T' h' L, own_S Z y bytes maxL ret p l e R s m args below meth c T' h' (locs ++ L) (cells + rm.cells) (slots + rm.slots) → Qc v h' L → own_G p e below E (T'.setTop (mkF m pc' Ls (v.toList ++ rest)))) : own_G p e below E (T.setTop (mkF m pc Ls st)) := by
  subst hp
  obtain ⟨v, _, ⟨T', L', k', n'⟩, -, X', P', st'⟩ := Y.X.specialBack Y.x (y := yc) hini Y.own (mvT Y.warm w1) (mvT Y.warm w2) (mvT Y.warm w4) hy (backOf (W := (rest.map fun v => v.category).sum) hM Y.warm w4 w3 hf hl) (g := mkF m pc Ls st) rfl (hLs.trans Y.1.2.2.1.symm) (Steps.refl _) (a := a) (argsL := argsL) (rest := rest) hlen hst (by show 2 * 0 + _ ≤ _; omega) (Y.d hd) (fun _ _ => ⟨rfl, Y.eT, hc, hs⟩)
  obtain ⟨Lc, hQ, l1, y1, z1⟩ := P'
  dsimp only [Pt.U, Pt.locs, Pt.cells, Pt.slots] at l1 y1 z1 hQ
  dsimp only [Pt.U, Pt.locs, Pt.cells, Pt.slots] at X' st'
  subst l1 y1 z1
  exact own_st (fun t k => st'.trans k) (K v T' T'.heap Lc ⟨Y.1, X', rfl⟩ hQ)
theorem own_callV (pc' : Nat) (Y : own_S Z y bytes maxL ret p l e R s m args below meth c T h locs cells slots) {yc : MethodName} {bc : ByteArray} {mc : Nat} {rc : Option FieldType} {rm : Room} {index : Nat} {Qc : Option Value → Heap → List Loc → Prop} {yr : MethodName} {C : String} (argsL rest : List Value) {a : Addr} (EX : Exa Z h a C) (w1 : (Jvm.Cond.methodLink y.cls index yr).before a0 Z = true) (wd : (Jvm.Cond.declares yr).before a0 Z = true) (nf : NotFace s yr) (ws : (Jvm.Cond.selects C yr yc).before a0 Z = true) (w2 : (Jvm.Cond.instanceMethod yc).before a0 Z = true) (w3 : (Jvm.Cond.initialized yc.cls).before a0 Z = true) (w4 : (Jvm.Cond.code yc bc mc rc).before a0 Z = true) (hM : own_M l yc bc mc rc [] rm Z (.ref a :: argsL).toArray h Qc) (hd : decode bytes pc = .ok (.invokevirtual index, 3)) (hy : (yr.cls ≠ "java/lang/invoke/MethodHandle" ∧ yr.cls ≠ "java/lang/invoke/VarHandle")) (hlen : ∀ sig, parseMethodDescriptor yr.desc = some sig → argsL.length = sig.parameters.length) (hst : st = argsL.reverse ++ .ref a :: rest) (hLs : Ls.size = maxL) (hf : rm.frames + 1 ≤ R.frames) (hl : (rest.map fun v => v.category).sum + (mc + 11) + rm.locals ≤ R.locals) (hc : cells + rm.cells ≤ R.cells) (hs : slots + rm.slots ≤ R.slots) (hp : pc + 3 = pc')
    (K : ∀ v T' h' L, own_S Z y bytes maxL ret p l e R s m args below meth c T' h' (locs ++ L) (cells + rm.cells) (slots + rm.slots) → Qc v h' L → own_G p e below E (T'.setTop (mkF m pc' Ls (v.toList ++ rest)))) : own_G p e below E (T.setTop (mkF m pc Ls st)) := by
  subst hp
  obtain ⟨cq, kq, qa, qb, qc⟩ := isOf Y.warm Y.eT EX
  obtain ⟨v, _, ⟨T', L', k', n'⟩, -, X', P', st'⟩ := Y.X.virtualBack Y.x (y := yr) (z := yc) Y.own (mvT Y.warm w1) (mvT Y.warm wd) nf (mvT Y.warm ws) (mvT Y.warm w2) hy (backOf (W := (rest.map fun v => v.category).sum) hM Y.warm w4 w3 hf hl) qa qc (g := mkF m pc Ls st) rfl (hLs.trans Y.1.2.2.1.symm) (Steps.refl _) (argsL := argsL) (rest := rest) hlen hst (by show 2 * 0 + _ ≤ _; omega) (Y.d hd) (fun _ _ => ⟨rfl, Y.eT, hc, hs⟩)
  obtain ⟨Lc, hQ, l1, y1, z1⟩ := P'
  dsimp only [Pt.U, Pt.locs, Pt.cells, Pt.slots] at l1 y1 z1 hQ
  dsimp only [Pt.U, Pt.locs, Pt.cells, Pt.slots] at X' st'
  subst l1 y1 z1
  exact own_st (fun t k => st'.trans k) (K v T' T'.heap Lc ⟨Y.1, X', rfl⟩ hQ)
theorem own_callUp (pc' : Nat) (Y : own_S Z y bytes maxL ret p l e R s m args below meth c T h locs cells slots) {yc : MethodName} {bc : ByteArray} {mc : Nat} {rc : Option FieldType} {rm : Room} {index : Nat} {Qc : Option Value → Heap → List Loc → Prop} {yr : MethodName} {C owner : String} (argsL rest : List Value) {a : Addr} (EX : Exa Z h a C) (w1 : (Jvm.Cond.methodLink y.cls index yr).before a0 Z = true) (wm : (Jvm.Cond.sameMethod yr.cls owner yr.name yr.desc).before a0 Z = true) (wd : (Jvm.Cond.declares ⟨owner, yr.name, yr.desc⟩).before a0 Z = true) (ws : (Jvm.Cond.selects C yr yc).before a0 Z = true) (w2 : (Jvm.Cond.instanceMethod yc).before a0 Z = true) (w3 : (Jvm.Cond.initialized yc.cls).before a0 Z = true) (w4 : (Jvm.Cond.code yc bc mc rc).before a0 Z = true) (hM : own_M l yc bc mc rc [] rm Z (.ref a :: argsL).toArray h Qc) (hd : decode bytes pc = .ok (.invokevirtual index, 3)) (hy : owner ≠ "java/lang/invoke/MethodHandle" ∧ owner ≠ "java/lang/invoke/VarHandle") (hlen : ∀ sig, parseMethodDescriptor yr.desc = some sig → argsL.length = sig.parameters.length) (hst : st = argsL.reverse ++ .ref a :: rest) (hLs : Ls.size = maxL) (hf : rm.frames + 1 ≤ R.frames) (hl : (rest.map fun v => v.category).sum + (mc + 11) + rm.locals ≤ R.locals) (hc : cells + rm.cells ≤ R.cells) (hs : slots + rm.slots ≤ R.slots) (hp : pc + 3 = pc')
    (K : ∀ v T' h' L, own_S Z y bytes maxL ret p l e R s m args below meth c T' h' (locs ++ L) (cells + rm.cells) (slots + rm.slots) → Qc v h' L → own_G p e below E (T'.setTop (mkF m pc' Ls (v.toList ++ rest)))) : own_G p e below E (T.setTop (mkF m pc Ls st)) := by
  subst hp
  obtain ⟨cq, kq, qa, qb, qc⟩ := isOf Y.warm Y.eT EX
  obtain ⟨v, _, ⟨T', L', k', n'⟩, -, X', P', st'⟩ := Y.X.virtualBackUp Y.x (x := yr) (y := yc) Y.own (mvT Y.warm w1) (mvT Y.warm wm) (mvT Y.warm wd) hy (mvT Y.warm ws) (mvT Y.warm w2) (backOf (W := (rest.map fun v => v.category).sum) hM Y.warm w4 w3 hf hl) qa qc (g := mkF m pc Ls st) rfl (hLs.trans Y.1.2.2.1.symm) (Steps.refl _) (argsL := argsL) (rest := rest) hlen hst (by show 2 * 0 + _ ≤ _; omega) (Y.d hd) (fun _ _ => ⟨rfl, Y.eT, hc, hs⟩)
  obtain ⟨Lc, hQ, l1, y1, z1⟩ := P'
  dsimp only [Pt.U, Pt.locs, Pt.cells, Pt.slots] at l1 y1 z1 hQ
  dsimp only [Pt.U, Pt.locs, Pt.cells, Pt.slots] at X' st'
  subst l1 y1 z1
  exact own_st (fun t k => st'.trans k) (K v T' T'.heap Lc ⟨Y.1, X', rfl⟩ hQ)
theorem own_natS (pc' : Nat) (Y : own_S Z y bytes maxL ret p l e R s m args below meth c T h locs cells slots) {yc : MethodName} {bc : ByteArray} {mc : Nat} {rc : Option FieldType} {index : Nat} {val : Value} {F : Array Value → Prop} (argsL rest : List Value) (w1 : (Jvm.Cond.methodLink y.cls index yc).before a0 Z = true) (w2 : (Jvm.Cond.static yc).before a0 Z = true) (w3 : (Jvm.Cond.initialized yc.cls).before a0 Z = true) (w4 : (Jvm.Cond.code yc bc mc rc).before a0 Z = true) (hK : (Jvm.Cond.code yc bc mc rc).before args s = true → Back l R p e below s args yc 3 (rest.map fun v => v.category).sum (fun A a' => A.cells ≤ R.cells ∧ A.slots ≤ R.slots ∧ F a') (fun A _ v B => v = some val ∧ B = A)) (hF : F argsL.toArray) (hd : decode bytes pc = .ok (.invokestatic index, 3)) (hy : (yc.cls ≠ "java/lang/invoke/MethodHandle" ∧ yc.cls ≠ "java/lang/invoke/VarHandle")) (hlen : ∀ sig, parseMethodDescriptor yc.desc = some sig → argsL.length = sig.parameters.length) (hst : st = argsL.reverse ++ rest) (hLs : Ls.size = maxL) (hc : cells ≤ R.cells) (hs : slots ≤ R.slots) (hp : pc + 3 = pc') (K : ∀ T', own_S Z y bytes maxL ret p l e R s m args below meth c T' h locs cells slots → own_G p e below E (T'.setTop (mkF m pc' Ls (val :: rest)))) : own_G p e below E (T.setTop (mkF m pc Ls st)) := by
  subst hp
  obtain ⟨T', X', e', st'⟩ := natS Y.X Y.x Y.warm Y.own w1 w2 w3 w4 hy Y.eT hK (g := mkF m pc Ls st) rfl (hLs.trans Y.1.2.2.1.symm) (argsL := argsL) (rest := rest) hlen hst (by show 2 * 0 + _ ≤ _; omega) (Y.d hd) hc hs hF rfl
  exact own_st st' (K T' ⟨Y.1, X', e'⟩)
theorem own_ret (Y : own_S Z y bytes maxL ret p l e R s m args below meth c T h locs cells slots) {w : Value} {t : FieldType} {i : Instr} (hn : narrow t w = w)
    (hi : (i = .ireturn ∧ (t = .int ∨ t = .boolean ∨ t = .byte ∨ t = .char ∨ t = .short) ∧ ∃ z, w = .int z) ∨ (i = .lreturn ∧ t = .long ∧ ∃ z, w = .long z) ∨ (i = .dreturn ∧ t = .double ∧ ∃ z, w = .double z) ∨ (i = .freturn ∧ t = .float ∧ ∃ z, w = .float z) ∨ (i = .areturn ∧ t.isReference = true ∧ w.isRef = true))
    (hret : ret = some t) (hd : decode bytes pc = .ok (i, 1)) (hc : cells ≤ kc) (hs : slots ≤ ks) (hq : Q (some w) h locs) : own_G p e below (own_E s Q kc ks) (T.setTop (mkF m pc Ls (w :: st))) := by
  obtain ⟨⟨hx, hby, hml, hown, hZ, hr0, hlk, hnm⟩, X, eT⟩ := Y
  subst eT
  obtain ⟨fs, hr, hrun, hended, hW, hsame⟩ := X.leave (v := some w) (fun q => by rw [hr0, hret] at q; cases q) hlk
  exact ⟨_, _, retOut X hx (hr0.trans hret) hn hi (hb hby hd) hr, hrun, hended, _, _, rfl, hq, ⟨_, rfl⟩, hW, hsame.mono hc hs⟩
theorem own_retI (Y : own_S Z y bytes maxL ret p l e R s m args below meth c T h locs cells slots) {z : Int32} (hret : ret = some .int) (hd : decode bytes pc = .ok (.ireturn, 1)) (hc : cells ≤ kc) (hs : slots ≤ ks) (hq : Q (some (.int z)) h locs) : own_G p e below (own_E s Q kc ks) (T.setTop (mkF m pc Ls (.int z :: st))) := own_ret Y rfl (Or.inl ⟨rfl, Or.inl rfl, _, rfl⟩) hret hd hc hs hq
theorem own_retL (Y : own_S Z y bytes maxL ret p l e R s m args below meth c T h locs cells slots) {z : Int64} (hret : ret = some .long) (hd : decode bytes pc = .ok (.lreturn, 1)) (hc : cells ≤ kc) (hs : slots ≤ ks) (hq : Q (some (.long z)) h locs) : own_G p e below (own_E s Q kc ks) (T.setTop (mkF m pc Ls (.long z :: st))) := own_ret Y rfl (Or.inr (Or.inl ⟨rfl, rfl, _, rfl⟩)) hret hd hc hs hq
theorem own_retD (Y : own_S Z y bytes maxL ret p l e R s m args below meth c T h locs cells slots) {z : UInt64} (hret : ret = some .double) (hd : decode bytes pc = .ok (.dreturn, 1)) (hc : cells ≤ kc) (hs : slots ≤ ks) (hq : Q (some (.double z)) h locs) : own_G p e below (own_E s Q kc ks) (T.setTop (mkF m pc Ls (.double z :: st))) := own_ret Y rfl (Or.inr (Or.inr (Or.inl ⟨rfl, rfl, _, rfl⟩))) hret hd hc hs hq
theorem own_retA (Y : own_S Z y bytes maxL ret p l e R s m args below meth c T h locs cells slots) {w : Value} {t : FieldType} (hret : ret = some t) (ht : t.isReference = true) (hw : w.isRef = true) (hd : decode bytes pc = .ok (.areturn, 1)) (hc : cells ≤ kc) (hs : slots ≤ ks) (hq : Q (some w) h locs) : own_G p e below (own_E s Q kc ks) (T.setTop (mkF m pc Ls (w :: st))) := own_ret Y (by cases t <;> first | rfl | (cases ht; done)) (Or.inr (Or.inr (Or.inr (Or.inr ⟨rfl, ht, hw⟩)))) hret hd hc hs hq
theorem own_retN (Y : own_S Z y bytes maxL ret p l e R s m args below meth c T h locs cells slots) {z : Int32} {t : FieldType} (hret : ret = some t) (ht : t = .boolean ∨ t = .byte ∨ t = .char ∨ t = .short) (hd : decode bytes pc = .ok (.ireturn, 1)) (hc : cells ≤ kc) (hs : slots ≤ ks) (hq : Q (some (.int (nar t z))) h locs) : own_G p e below (own_E s Q kc ks) (T.setTop (mkF m pc Ls (.int z :: st))) := by
  obtain ⟨⟨hx, hby, hml, hown, hZ, hr0, hlk, hnm⟩, X, eT⟩ := Y
  subst eT
  obtain ⟨fs, hr, hrun, hended, hW, hsame⟩ := X.leave (v := some (.int (nar t z))) (fun q => by rw [hr0, hret] at q; cases q) hlk
  exact ⟨_, _, retN X hx (hr0.trans hret) ht (hb hby hd) hr, hrun, hended, _, _, rfl, hq, ⟨_, rfl⟩, hW, hsame.mono hc hs⟩
theorem own_retV (Y : own_S Z y bytes maxL ret p l e R s m args below meth c T h locs cells slots) (hret : ret = none) (hd : decode bytes pc = .ok (.return_, 1)) (hc : cells ≤ kc) (hs : slots ≤ ks) (hq : Q none h locs) : own_G p e below (own_E s Q kc ks) (T.setTop (mkF m pc Ls [])) := by
  obtain ⟨⟨hx, hby, hml, hown, hZ, hr0, hlk, hnm⟩, X, eT⟩ := Y
  subst eT
  obtain ⟨fs, hr, hrun, hended, hW, hsame⟩ := X.leave (v := none) (fun _ => rfl) hlk
  exact ⟨_, _, X.returnOut hx (hr0.trans hret) (hb hby hd) hr, hrun, hended, _, _, rfl, hq, ⟨_, rfl⟩, hW, hsame.mono hc hs⟩
end Own

theorem own_frs {k : Nat} {locs : List Loc} {a : Addr} {sl : Nat} (N : Fr k locs) (q : k ≤ a) : Fr k (locs ++ [⟨a, sl⟩]) := N.app fun y hy => by cases List.mem_singleton.mp hy; exact q
theorem own_frY {p : Program} {l : Launch} {e : Env} {R : Room} {s : State} {m : MethodId} {args : Array Value} {below : List Frame} {meth : Method} {c : Code} {T : State} {locs : List Loc} {cells slots : Nat} {Z : State} {h : Heap} {y : MethodName} {bytes : ByteArray} {maxL : Nat} {ret : Option FieldType} {k : Nat} {a : Addr} {sl : Nat} (Y : own_S Z y bytes maxL ret p l e R s m args below meth c T h (locs ++ [⟨a, sl⟩]) cells slots) (N : Fr k locs) (q : k ≤ a) : Fr k (locs ++ [⟨a, sl⟩]) := own_frs N q
theorem own_fitR {n : String} {v : Value} (q : v.isRef = true) : narrow (.object n) v = v ∧ fits (.object n) v = true := by cases v <;> first | exact ⟨rfl, rfl⟩ | cases q
theorem own_fitA {t : FieldType} {v : Value} (q : v.isRef = true) : narrow (.array t) v = v ∧ fits (.array t) v = true := by cases v <;> first | exact ⟨rfl, rfl⟩ | cases q
theorem own_keepE {h0 h : Heap} (K : Keep h0 h []) : Ext h0 h := ⟨K.1, fun a c q => K.2.1 a c q nin0⟩
theorem own_keepF {h0 h1 h2 : Heap} {b : Addr} (E : Ext h0 h1) (g : b = h0.size) (K : Keep h1 h2 [b]) : Keep h0 h2 [] := ((Keep.refl h0 []).ext E).trans K (allS (Or.inr (Nat.le_of_eq g.symm)) all0)
theorem own_refCat {v : Value} (q : v.isRef = true) : v.category = 1 := by cases v <;> first | rfl | cases q

theorem own_c255 (x : Int32) : ¬ (255 : Int32) < nar .char ((x &&& 255).toUInt32.toUInt16.toUInt32.toInt32) := by
  have e : nar .char ((x &&& 255).toUInt32.toUInt16.toUInt32.toInt32) = x &&& 255 := by
    show ((x &&& 255).toUInt32.toUInt16.toUInt32.toInt32).toUInt32.toUInt16.toUInt32.toInt32 = _
    rw [i2c_mask, i2c_mask]
  rw [e, Int32.lt_iff_toInt_lt]
  have h1 := (c_andS x 255).2.2 (by decide)
  have h2 : (x &&& 255).toBitVec.toNat ≤ 255 := by
    show (x.toBitVec &&& (255 : Int32).toBitVec).toNat ≤ 255
    rw [BitVec.toNat_and]; exact Nat.and_le_right
  show ¬ (255 : Int) < (x &&& 255).toBitVec.toInt
  rw [BitVec.toInt_eq_toNat_cond]; split <;> omega

def Qv (u : Option Value) (h0 : Heap) (v : Option Value) (h : Heap) (L : List Loc) : Prop := h0 = h ∧ L = [] ∧ v = u
theorem ds1_0 : decode jdk_52_method_21_code 0 = .ok (.iconst 0, 1) := by decide +kernel
theorem ds1_1 : decode jdk_52_method_21_code 1 = .ok (.istore 5, 2) := by decide +kernel
theorem ds1_3 : decode jdk_52_method_21_code 3 = .ok (.iload 5, 2) := by decide +kernel
theorem ds1_5 : decode jdk_52_method_21_code 5 = .ok (.iload 4, 2) := by decide +kernel
theorem ds1_7 : decode jdk_52_method_21_code 7 = .ok (.if_icmp .ge 37, 3) := by decide +kernel
theorem ds1_10 : decode jdk_52_method_21_code 10 = .ok (.aload_n 0, 1) := by decide +kernel
theorem ds1_11 : decode jdk_52_method_21_code 11 = .ok (.iload_n 1, 1) := by decide +kernel
theorem ds1_12 : decode jdk_52_method_21_code 12 = .ok (.caload, 1) := by decide +kernel
theorem ds1_13 : decode jdk_52_method_21_code 13 = .ok (.istore 6, 2) := by decide +kernel
theorem ds1_15 : decode jdk_52_method_21_code 15 = .ok (.iload 6, 2) := by decide +kernel
theorem ds1_17 : decode jdk_52_method_21_code 17 = .ok (.sipush 255, 3) := by decide +kernel
theorem ds1_20 : decode jdk_52_method_21_code 20 = .ok (.if_icmp .le 6, 3) := by decide +kernel
theorem ds1_23 : decode jdk_52_method_21_code 23 = .ok (.iload 5, 2) := by decide +kernel
theorem ds1_25 : decode jdk_52_method_21_code 25 = .ok (.ireturn, 1) := by decide +kernel
theorem ds1_26 : decode jdk_52_method_21_code 26 = .ok (.aload_n 2, 1) := by decide +kernel
theorem ds1_27 : decode jdk_52_method_21_code 27 = .ok (.iload_n 3, 1) := by decide +kernel
theorem ds1_28 : decode jdk_52_method_21_code 28 = .ok (.iload 6, 2) := by decide +kernel
theorem ds1_30 : decode jdk_52_method_21_code 30 = .ok (.i2b, 1) := by decide +kernel
theorem ds1_31 : decode jdk_52_method_21_code 31 = .ok (.bastore, 1) := by decide +kernel
theorem ds1_32 : decode jdk_52_method_21_code 32 = .ok (.iinc 1 1, 3) := by decide +kernel
theorem ds1_35 : decode jdk_52_method_21_code 35 = .ok (.iinc 3 1, 3) := by decide +kernel
theorem ds1_38 : decode jdk_52_method_21_code 38 = .ok (.iinc 5 1, 3) := by decide +kernel
theorem ds1_41 : decode jdk_52_method_21_code 41 = .ok (.goto (-38), 3) := by decide +kernel
theorem ds1_44 : decode jdk_52_method_21_code 44 = .ok (.iload 4, 2) := by decide +kernel
theorem ds1_46 : decode jdk_52_method_21_code 46 = .ok (.ireturn, 1) := by decide +kernel
theorem pls1 : plainFor (⟨"java/lang/StringUTF16", "compress", "([CI[BII)I"⟩ : MethodName) = true := by first | exact plainFor_of_name (by first | (simp [plainName, overriddenIn]; done) | decide +kernel) | decide +kernel
theorem ds2_0 : decode jdk_52_method_16_code 0 = .ok (.iload_n 2, 1) := by decide +kernel
theorem ds2_1 : decode jdk_52_method_16_code 1 = .ok (.newarray .byte, 2) := by decide +kernel
theorem ds2_3 : decode jdk_52_method_16_code 3 = .ok (.astore_n 3, 1) := by decide +kernel
theorem ds2_4 : decode jdk_52_method_16_code 4 = .ok (.aload_n 0, 1) := by decide +kernel
theorem ds2_5 : decode jdk_52_method_16_code 5 = .ok (.iload_n 1, 1) := by decide +kernel
theorem ds2_6 : decode jdk_52_method_16_code 6 = .ok (.aload_n 3, 1) := by decide +kernel
theorem ds2_7 : decode jdk_52_method_16_code 7 = .ok (.iconst 0, 1) := by decide +kernel
theorem ds2_8 : decode jdk_52_method_16_code 8 = .ok (.iload_n 2, 1) := by decide +kernel
theorem ds2_9 : decode jdk_52_method_16_code 9 = .ok (.invokestatic 115, 3) := by decide +kernel
theorem ds2_12 : decode jdk_52_method_16_code 12 = .ok (.istore 4, 2) := by decide +kernel
theorem ds2_14 : decode jdk_52_method_16_code 14 = .ok (.iload 4, 2) := by decide +kernel
theorem ds2_16 : decode jdk_52_method_16_code 16 = .ok (.iload_n 2, 1) := by decide +kernel
theorem ds2_17 : decode jdk_52_method_16_code 17 = .ok (.if_icmp .eq 40, 3) := by decide +kernel
theorem ds2_20 : decode jdk_52_method_16_code 20 = .ok (.aload_n 0, 1) := by decide +kernel
theorem ds2_21 : decode jdk_52_method_16_code 21 = .ok (.iload_n 1, 1) := by decide +kernel
theorem ds2_22 : decode jdk_52_method_16_code 22 = .ok (.iload_n 2, 1) := by decide +kernel
theorem ds2_23 : decode jdk_52_method_16_code 23 = .ok (.invokestatic 119, 3) := by decide +kernel
theorem ds2_26 : decode jdk_52_method_16_code 26 = .ok (.astore 5, 2) := by decide +kernel
theorem ds2_28 : decode jdk_52_method_16_code 28 = .ok (.aload 5, 2) := by decide +kernel
theorem ds2_30 : decode jdk_52_method_16_code 30 = .ok (.iload 4, 2) := by decide +kernel
theorem ds2_32 : decode jdk_52_method_16_code 32 = .ok (.invokestatic 71, 3) := by decide +kernel
theorem ds2_35 : decode jdk_52_method_16_code 35 = .ok (.sipush 255, 3) := by decide +kernel
theorem ds2_38 : decode jdk_52_method_16_code 38 = .ok (.if_icmp .gt 16, 3) := by decide +kernel
theorem ds2_41 : decode jdk_52_method_16_code 41 = .ok (.aload 5, 2) := by decide +kernel
theorem ds2_43 : decode jdk_52_method_16_code 43 = .ok (.iconst 0, 1) := by decide +kernel
theorem ds2_44 : decode jdk_52_method_16_code 44 = .ok (.aload_n 3, 1) := by decide +kernel
theorem ds2_45 : decode jdk_52_method_16_code 45 = .ok (.iconst 0, 1) := by decide +kernel
theorem ds2_46 : decode jdk_52_method_16_code 46 = .ok (.iload_n 2, 1) := by decide +kernel
theorem ds2_47 : decode jdk_52_method_16_code 47 = .ok (.invokestatic 123, 3) := by decide +kernel
theorem ds2_50 : decode jdk_52_method_16_code 50 = .ok (.iload_n 2, 1) := by decide +kernel
theorem ds2_51 : decode jdk_52_method_16_code 51 = .ok (.if_icmp .eq 6, 3) := by decide +kernel
theorem ds2_54 : decode jdk_52_method_16_code 54 = .ok (.aload 5, 2) := by decide +kernel
theorem ds2_56 : decode jdk_52_method_16_code 56 = .ok (.areturn, 1) := by decide +kernel
theorem ds2_57 : decode jdk_52_method_16_code 57 = .ok (.aload_n 3, 1) := by decide +kernel
theorem ds2_58 : decode jdk_52_method_16_code 58 = .ok (.areturn, 1) := by decide +kernel
theorem pls2 : plainFor (⟨"java/lang/StringUTF16", "compress", "([CII)[B"⟩ : MethodName) = true := by first | exact plainFor_of_name (by first | (simp [plainName, overriddenIn]; done) | decide +kernel) | decide +kernel
theorem ds3_0 : decode jdk_52_method_15_code 0 = .ok (.iload_n 1, 1) := by decide +kernel
theorem ds3_1 : decode jdk_52_method_15_code 1 = .ok (.aload_n 0, 1) := by decide +kernel
theorem ds3_2 : decode jdk_52_method_15_code 2 = .ok (.arraylength, 1) := by decide +kernel
theorem ds3_3 : decode jdk_52_method_15_code 3 = .ok (.isub, 1) := by decide +kernel
theorem ds3_4 : decode jdk_52_method_15_code 4 = .ok (.bipush 31, 2) := by decide +kernel
theorem ds3_6 : decode jdk_52_method_15_code 6 = .ok (.iushr, 1) := by decide +kernel
theorem ds3_7 : decode jdk_52_method_15_code 7 = .ok (.i2b, 1) := by decide +kernel
theorem ds3_8 : decode jdk_52_method_15_code 8 = .ok (.ireturn, 1) := by decide +kernel
theorem pls3 : plainFor (⟨"java/lang/StringUTF16", "coderFromArrayLen", "([BI)B"⟩ : MethodName) = true := by first | exact plainFor_of_name (by first | (simp [plainName, overriddenIn]; done) | decide +kernel) | decide +kernel
theorem ds4_0 : decode jdk_42_method_149_code 0 = .ok (.aload_n 0, 1) := by decide +kernel
theorem ds4_1 : decode jdk_42_method_149_code 1 = .ok (.invokespecial 1, 3) := by decide +kernel
theorem ds4_4 : decode jdk_42_method_149_code 4 = .ok (.iload_n 3, 1) := by decide +kernel
theorem ds4_5 : decode jdk_42_method_149_code 5 = .ok (.ifCond .ne 22, 3) := by decide +kernel
theorem ds4_8 : decode jdk_42_method_149_code 8 = .ok (.aload_n 0, 1) := by decide +kernel
theorem ds4_9 : decode jdk_42_method_149_code 9 = .ok (.ldc 7, 2) := by decide +kernel
theorem ds4_11 : decode jdk_42_method_149_code 11 = .ok (.getfield 9, 3) := by decide +kernel
theorem ds4_14 : decode jdk_42_method_149_code 14 = .ok (.putfield 9, 3) := by decide +kernel
theorem ds4_17 : decode jdk_42_method_149_code 17 = .ok (.aload_n 0, 1) := by decide +kernel
theorem ds4_18 : decode jdk_42_method_149_code 18 = .ok (.ldc 7, 2) := by decide +kernel
theorem ds4_20 : decode jdk_42_method_149_code 20 = .ok (.getfield 15, 3) := by decide +kernel
theorem ds4_23 : decode jdk_42_method_149_code 23 = .ok (.putfield 15, 3) := by decide +kernel
theorem ds4_26 : decode jdk_42_method_149_code 26 = .ok (.return_, 1) := by decide +kernel
theorem ds4_27 : decode jdk_42_method_149_code 27 = .ok (.getstatic 38, 3) := by decide +kernel
theorem ds4_30 : decode jdk_42_method_149_code 30 = .ok (.ifCond .eq 28, 3) := by decide +kernel
theorem ds4_33 : decode jdk_42_method_149_code 33 = .ok (.aload_n 1, 1) := by decide +kernel
theorem ds4_34 : decode jdk_42_method_149_code 34 = .ok (.iload_n 2, 1) := by decide +kernel
theorem ds4_35 : decode jdk_42_method_149_code 35 = .ok (.iload_n 3, 1) := by decide +kernel
theorem ds4_36 : decode jdk_42_method_149_code 36 = .ok (.invokestatic 177, 3) := by decide +kernel
theorem ds4_39 : decode jdk_42_method_149_code 39 = .ok (.astore 5, 2) := by decide +kernel
theorem ds4_41 : decode jdk_42_method_149_code 41 = .ok (.aload_n 0, 1) := by decide +kernel
theorem ds4_42 : decode jdk_42_method_149_code 42 = .ok (.aload 5, 2) := by decide +kernel
theorem ds4_44 : decode jdk_42_method_149_code 44 = .ok (.iload_n 3, 1) := by decide +kernel
theorem ds4_45 : decode jdk_42_method_149_code 45 = .ok (.invokestatic 47, 3) := by decide +kernel
theorem ds4_48 : decode jdk_42_method_149_code 48 = .ok (.putfield 15, 3) := by decide +kernel
theorem ds4_51 : decode jdk_42_method_149_code 51 = .ok (.aload_n 0, 1) := by decide +kernel
theorem ds4_52 : decode jdk_42_method_149_code 52 = .ok (.aload 5, 2) := by decide +kernel
theorem ds4_54 : decode jdk_42_method_149_code 54 = .ok (.putfield 9, 3) := by decide +kernel
theorem ds4_57 : decode jdk_42_method_149_code 57 = .ok (.return_, 1) := by decide +kernel
theorem ds4_58 : decode jdk_42_method_149_code 58 = .ok (.aload_n 0, 1) := by decide +kernel
theorem ds4_59 : decode jdk_42_method_149_code 59 = .ok (.iconst 1, 1) := by decide +kernel
theorem ds4_60 : decode jdk_42_method_149_code 60 = .ok (.putfield 15, 3) := by decide +kernel
theorem ds4_63 : decode jdk_42_method_149_code 63 = .ok (.aload_n 0, 1) := by decide +kernel
theorem ds4_64 : decode jdk_42_method_149_code 64 = .ok (.aload_n 1, 1) := by decide +kernel
theorem ds4_65 : decode jdk_42_method_149_code 65 = .ok (.iload_n 2, 1) := by decide +kernel
theorem ds4_66 : decode jdk_42_method_149_code 66 = .ok (.iload_n 3, 1) := by decide +kernel
theorem ds4_67 : decode jdk_42_method_149_code 67 = .ok (.invokestatic 180, 3) := by decide +kernel
theorem ds4_70 : decode jdk_42_method_149_code 70 = .ok (.putfield 9, 3) := by decide +kernel
theorem ds4_73 : decode jdk_42_method_149_code 73 = .ok (.return_, 1) := by decide +kernel
theorem pls4 : plainFor (⟨"java/lang/String", "<init>", "([CIILjava/lang/Void;)V"⟩ : MethodName) = true := by first | exact plainFor_of_name (by first | (simp [plainName, overriddenIn]; done) | decide +kernel) | decide +kernel
theorem ds5_0 : decode jdk_42_method_3_code 0 = .ok (.aload_n 0, 1) := by decide +kernel
theorem ds5_1 : decode jdk_42_method_3_code 1 = .ok (.aload_n 1, 1) := by decide +kernel
theorem ds5_2 : decode jdk_42_method_3_code 2 = .ok (.iconst 0, 1) := by decide +kernel
theorem ds5_3 : decode jdk_42_method_3_code 3 = .ok (.aload_n 1, 1) := by decide +kernel
theorem ds5_4 : decode jdk_42_method_3_code 4 = .ok (.arraylength, 1) := by decide +kernel
theorem ds5_5 : decode jdk_42_method_3_code 5 = .ok (.aconst_null, 1) := by decide +kernel
theorem ds5_6 : decode jdk_42_method_3_code 6 = .ok (.invokespecial 27, 3) := by decide +kernel
theorem ds5_9 : decode jdk_42_method_3_code 9 = .ok (.return_, 1) := by decide +kernel
theorem pls5 : plainFor (⟨"java/lang/String", "<init>", "([C)V"⟩ : MethodName) = true := by first | exact plainFor_of_name (by first | (simp [plainName, overriddenIn]; done) | decide +kernel) | decide +kernel
theorem d1_0 : decode prog_11_method_4_code 0 = .ok (.new 8, 3) := by decide +kernel
theorem d1_3 : decode prog_11_method_4_code 3 = .ok (.dup, 1) := by decide +kernel
theorem d1_4 : decode prog_11_method_4_code 4 = .ok (.lload_n 0, 1) := by decide +kernel
theorem d1_5 : decode prog_11_method_4_code 5 = .ok (.aload_n 2, 1) := by decide +kernel
theorem d1_6 : decode prog_11_method_4_code 6 = .ok (.iconst 0, 1) := by decide +kernel
theorem d1_7 : decode prog_11_method_4_code 7 = .ok (.lload_n 3, 1) := by decide +kernel
theorem d1_8 : decode prog_11_method_4_code 8 = .ok (.aload 5, 2) := by decide +kernel
theorem d1_10 : decode prog_11_method_4_code 10 = .ok (.invokespecial 27, 3) := by decide +kernel
theorem d1_13 : decode prog_11_method_4_code 13 = .ok (.areturn, 1) := by decide +kernel
theorem pl1 : plainFor (⟨"com/example/nachweis/nachweis/TrailState", "torn", "(JLjava/lang/String;JLjava/lang/String;)Lcom/example/nachweis/nachweis/TrailState;"⟩ : MethodName) = true := by first | exact plainFor_of_name (by first | (simp [plainName, overriddenIn]; done) | decide +kernel) | decide +kernel
theorem d2_0 : decode prog_11_method_1_code 0 = .ok (.aload_n 0, 1) := by decide +kernel
theorem d2_1 : decode prog_11_method_1_code 1 = .ok (.invokespecial 1, 3) := by decide +kernel
theorem d2_4 : decode prog_11_method_1_code 4 = .ok (.aload_n 0, 1) := by decide +kernel
theorem d2_5 : decode prog_11_method_1_code 5 = .ok (.lload_n 1, 1) := by decide +kernel
theorem d2_6 : decode prog_11_method_1_code 6 = .ok (.putfield 7, 3) := by decide +kernel
theorem d2_9 : decode prog_11_method_1_code 9 = .ok (.aload_n 0, 1) := by decide +kernel
theorem d2_10 : decode prog_11_method_1_code 10 = .ok (.aload_n 3, 1) := by decide +kernel
theorem d2_11 : decode prog_11_method_1_code 11 = .ok (.putfield 13, 3) := by decide +kernel
theorem d2_14 : decode prog_11_method_1_code 14 = .ok (.aload_n 0, 1) := by decide +kernel
theorem d2_15 : decode prog_11_method_1_code 15 = .ok (.iload 4, 2) := by decide +kernel
theorem d2_17 : decode prog_11_method_1_code 17 = .ok (.putfield 17, 3) := by decide +kernel
theorem d2_20 : decode prog_11_method_1_code 20 = .ok (.aload_n 0, 1) := by decide +kernel
theorem d2_21 : decode prog_11_method_1_code 21 = .ok (.lload 5, 2) := by decide +kernel
theorem d2_23 : decode prog_11_method_1_code 23 = .ok (.putfield 21, 3) := by decide +kernel
theorem d2_26 : decode prog_11_method_1_code 26 = .ok (.aload_n 0, 1) := by decide +kernel
theorem d2_27 : decode prog_11_method_1_code 27 = .ok (.aload 7, 2) := by decide +kernel
theorem d2_29 : decode prog_11_method_1_code 29 = .ok (.putfield 24, 3) := by decide +kernel
theorem d2_32 : decode prog_11_method_1_code 32 = .ok (.return_, 1) := by decide +kernel
theorem pl2 : plainFor (⟨"com/example/nachweis/nachweis/TrailState", "<init>", "(JLjava/lang/String;ZJLjava/lang/String;)V"⟩ : MethodName) = true := by first | exact plainFor_of_name (by first | (simp [plainName, overriddenIn]; done) | decide +kernel) | decide +kernel
theorem d3_0 : decode prog_11_method_8_code 0 = .ok (.aload_n 0, 1) := by decide +kernel
theorem d3_1 : decode prog_11_method_8_code 1 = .ok (.getfield 17, 3) := by decide +kernel
theorem d3_4 : decode prog_11_method_8_code 4 = .ok (.ifCond .eq 7, 3) := by decide +kernel
theorem d3_7 : decode prog_11_method_8_code 7 = .ok (.lconst 0, 1) := by decide +kernel
theorem d3_8 : decode prog_11_method_8_code 8 = .ok (.goto 9, 3) := by decide +kernel
theorem d3_11 : decode prog_11_method_8_code 11 = .ok (.aload_n 0, 1) := by decide +kernel
theorem d3_12 : decode prog_11_method_8_code 12 = .ok (.getfield 7, 3) := by decide +kernel
theorem d3_15 : decode prog_11_method_8_code 15 = .ok (.lconst 1, 1) := by decide +kernel
theorem d3_16 : decode prog_11_method_8_code 16 = .ok (.ladd, 1) := by decide +kernel
theorem d3_17 : decode prog_11_method_8_code 17 = .ok (.lreturn, 1) := by decide +kernel
theorem pl3 : plainFor (⟨"com/example/nachweis/nachweis/TrailState", "brokenLine", "()J"⟩ : MethodName) = true := by first | exact plainFor_of_name (by first | (simp [plainName, overriddenIn]; done) | decide +kernel) | decide +kernel
theorem d4_0 : decode jdk_42_method_66_code 0 = .ok (.aload_n 0, 1) := by decide +kernel
theorem d4_1 : decode jdk_42_method_66_code 1 = .ok (.aload_n 1, 1) := by decide +kernel
theorem d4_2 : decode jdk_42_method_66_code 2 = .ok (.if_acmp .ne 5, 3) := by decide +kernel
theorem d4_5 : decode jdk_42_method_66_code 5 = .ok (.iconst 1, 1) := by decide +kernel
theorem d4_6 : decode jdk_42_method_66_code 6 = .ok (.ireturn, 1) := by decide +kernel
theorem d4_7 : decode jdk_42_method_66_code 7 = .ok (.aload_n 1, 1) := by decide +kernel
theorem d4_8 : decode jdk_42_method_66_code 8 = .ok (.instanceof 10, 3) := by decide +kernel
theorem d4_11 : decode jdk_42_method_66_code 11 = .ok (.ifCond .eq 43, 3) := by decide +kernel
theorem d4_14 : decode jdk_42_method_66_code 14 = .ok (.aload_n 1, 1) := by decide +kernel
theorem d4_15 : decode jdk_42_method_66_code 15 = .ok (.checkcast 10, 3) := by decide +kernel
theorem d4_18 : decode jdk_42_method_66_code 18 = .ok (.astore_n 2, 1) := by decide +kernel
theorem d4_19 : decode jdk_42_method_66_code 19 = .ok (.getstatic 38, 3) := by decide +kernel
theorem d4_22 : decode jdk_42_method_66_code 22 = .ok (.ifCond .eq 14, 3) := by decide +kernel
theorem d4_25 : decode jdk_42_method_66_code 25 = .ok (.aload_n 0, 1) := by decide +kernel
theorem d4_26 : decode jdk_42_method_66_code 26 = .ok (.getfield 15, 3) := by decide +kernel
theorem d4_29 : decode jdk_42_method_66_code 29 = .ok (.aload_n 2, 1) := by decide +kernel
theorem d4_30 : decode jdk_42_method_66_code 30 = .ok (.getfield 15, 3) := by decide +kernel
theorem d4_33 : decode jdk_42_method_66_code 33 = .ok (.if_icmp .ne 21, 3) := by decide +kernel
theorem d4_36 : decode jdk_42_method_66_code 36 = .ok (.aload_n 0, 1) := by decide +kernel
theorem d4_37 : decode jdk_42_method_66_code 37 = .ok (.getfield 9, 3) := by decide +kernel
theorem d4_40 : decode jdk_42_method_66_code 40 = .ok (.aload_n 2, 1) := by decide +kernel
theorem d4_41 : decode jdk_42_method_66_code 41 = .ok (.getfield 9, 3) := by decide +kernel
theorem d4_44 : decode jdk_42_method_66_code 44 = .ok (.invokestatic 541, 3) := by decide +kernel
theorem d4_47 : decode jdk_42_method_66_code 47 = .ok (.ifCond .eq 7, 3) := by decide +kernel
theorem d4_50 : decode jdk_42_method_66_code 50 = .ok (.iconst 1, 1) := by decide +kernel
theorem d4_51 : decode jdk_42_method_66_code 51 = .ok (.goto 4, 3) := by decide +kernel
theorem d4_54 : decode jdk_42_method_66_code 54 = .ok (.iconst 0, 1) := by decide +kernel
theorem d4_55 : decode jdk_42_method_66_code 55 = .ok (.ireturn, 1) := by decide +kernel
theorem pl4 : plainFor (⟨"java/lang/String", "equals", "(Ljava/lang/Object;)Z"⟩ : MethodName) = true := by first | exact plainFor_of_name (by first | (simp [plainName, overriddenIn]; done) | decide +kernel) | decide +kernel
theorem pl0 : plainFor x = true := by first | exact plainFor_of_name (by first | (simp [plainName, overriddenIn]; done) | decide +kernel) | decide +kernel
theorem dg1_0 : decode prog_11_method_5_code 0 = .ok (.aload_n 0, 1) := by decide +kernel
theorem dg1_1 : decode prog_11_method_5_code 1 = .ok (.getfield 17, 3) := by decide +kernel
theorem dg1_4 : decode prog_11_method_5_code 4 = .ok (.ireturn, 1) := by decide +kernel
theorem plg1 : plainFor (⟨"com/example/nachweis/nachweis/TrailState", "isWhole", "()Z"⟩ : MethodName) = true := by first | exact plainFor_of_name (by first | (simp [plainName, overriddenIn]; done) | decide +kernel) | decide +kernel
theorem dg2_0 : decode prog_11_method_6_code 0 = .ok (.aload_n 0, 1) := by decide +kernel
theorem dg2_1 : decode prog_11_method_6_code 1 = .ok (.getfield 7, 3) := by decide +kernel
theorem dg2_4 : decode prog_11_method_6_code 4 = .ok (.lreturn, 1) := by decide +kernel
theorem plg2 : plainFor (⟨"com/example/nachweis/nachweis/TrailState", "records", "()J"⟩ : MethodName) = true := by first | exact plainFor_of_name (by first | (simp [plainName, overriddenIn]; done) | decide +kernel) | decide +kernel
theorem dg3_0 : decode prog_11_method_7_code 0 = .ok (.aload_n 0, 1) := by decide +kernel
theorem dg3_1 : decode prog_11_method_7_code 1 = .ok (.getfield 13, 3) := by decide +kernel
theorem dg3_4 : decode prog_11_method_7_code 4 = .ok (.areturn, 1) := by decide +kernel
theorem plg3 : plainFor (⟨"com/example/nachweis/nachweis/TrailState", "head", "()Ljava/lang/String;"⟩ : MethodName) = true := by first | exact plainFor_of_name (by first | (simp [plainName, overriddenIn]; done) | decide +kernel) | decide +kernel
theorem dg4_0 : decode prog_11_method_9_code 0 = .ok (.aload_n 0, 1) := by decide +kernel
theorem dg4_1 : decode prog_11_method_9_code 1 = .ok (.getfield 21, 3) := by decide +kernel
theorem dg4_4 : decode prog_11_method_9_code 4 = .ok (.lreturn, 1) := by decide +kernel
theorem plg4 : plainFor (⟨"com/example/nachweis/nachweis/TrailState", "tornBytes", "()J"⟩ : MethodName) = true := by first | exact plainFor_of_name (by first | (simp [plainName, overriddenIn]; done) | decide +kernel) | decide +kernel
theorem dg5_0 : decode prog_11_method_10_code 0 = .ok (.aload_n 0, 1) := by decide +kernel
theorem dg5_1 : decode prog_11_method_10_code 1 = .ok (.getfield 24, 3) := by decide +kernel
theorem dg5_4 : decode prog_11_method_10_code 4 = .ok (.areturn, 1) := by decide +kernel
theorem plg5 : plainFor (⟨"com/example/nachweis/nachweis/TrailState", "tornHash", "()Ljava/lang/String;"⟩ : MethodName) = true := by first | exact plainFor_of_name (by first | (simp [plainName, overriddenIn]; done) | decide +kernel) | decide +kernel
theorem pds1 : parseMethodDescriptor "([CI[BII)I" = some ⟨[(.array .char), .int, (.array .byte), .int, .int], some .int⟩ := by decide +kernel
theorem pds2 : parseMethodDescriptor "([CII)[B" = some ⟨[(.array .char), .int, .int], some (.array .byte)⟩ := by decide +kernel
theorem pds3 : parseMethodDescriptor "([BI)B" = some ⟨[(.array .byte), .int], some .byte⟩ := by decide +kernel
theorem pds4 : parseMethodDescriptor "([CIILjava/lang/Void;)V" = some ⟨[(.array .char), .int, .int, (.object "java/lang/Void")], none⟩ := by decide +kernel
theorem pds5 : parseMethodDescriptor "([C)V" = some ⟨[(.array .char)], none⟩ := by decide +kernel
theorem pd1 : parseMethodDescriptor "(JLjava/lang/String;JLjava/lang/String;)Lcom/example/nachweis/nachweis/TrailState;" = some ⟨[.long, (.object "java/lang/String"), .long, (.object "java/lang/String")], some (.object "com/example/nachweis/nachweis/TrailState")⟩ := by decide +kernel
theorem pd2 : parseMethodDescriptor "(JLjava/lang/String;ZJLjava/lang/String;)V" = some ⟨[.long, (.object "java/lang/String"), .boolean, .long, (.object "java/lang/String")], none⟩ := by decide +kernel
theorem pd3 : parseMethodDescriptor "()J" = some ⟨[], some .long⟩ := by decide +kernel
theorem pd4 : parseMethodDescriptor "(Ljava/lang/Object;)Z" = some ⟨[(.object "java/lang/Object")], some .boolean⟩ := by decide +kernel
theorem pdg1 : parseMethodDescriptor "()Z" = some ⟨[], some .boolean⟩ := by decide +kernel
theorem pdg2 : parseMethodDescriptor "()J" = some ⟨[], some .long⟩ := by decide +kernel
theorem pdg3 : parseMethodDescriptor "()Ljava/lang/String;" = some ⟨[], some (.object "java/lang/String")⟩ := by decide +kernel
theorem pdg4 : parseMethodDescriptor "()J" = some ⟨[], some .long⟩ := by decide +kernel
theorem pdg5 : parseMethodDescriptor "()Ljava/lang/String;" = some ⟨[], some (.object "java/lang/String")⟩ := by decide +kernel
def Qcmp5_2 (Z : State) (d : Addr) (kd : ClassId) (c0 c1 : Int32) (h0 : Heap) (n0 : Nat) (v : Option Value) (h : Heap) (L : List Loc) : Prop := v = some (.int (2 : Int32)) ∧ Keep h0 h [d] ∧ Fr n0 L ∧ Arv Z h d kd .byte (2 : Int32) [(.int (nar .byte c0.toInt8.toInt32)), (.int (nar .byte c1.toInt8.toInt32))] (.int (0 : Int32))
set_option maxRecDepth 65536 in
set_option maxHeartbeats 4000000 in
theorem c_cmp5_2 (l : Launch) (Z : State) (a0 : Array Value) (hw : ∀ d ∈ tables_1, d.before a0 Z = true) (b d : Addr) (kb kd : ClassId) (c0 c1 : Int32) (hc0 : ¬ (255 : Int32) < c0) (hc1 : ¬ (255 : Int32) < c1) (h0 : Heap) (n0 : Nat) (gd : n0 ≤ d) (nbd : b ≠ d) (V_b : Arv Z h0 b kb .char (2 : Int32) [(.int c0), (.int c1)] (.int (0 : Int32))) (V_d : Arv Z h0 d kd .byte (2 : Int32) [(.int (0 : Int32)), (.int (0 : Int32))] (.int (0 : Int32))) : own_M l (⟨"java/lang/StringUTF16", "compress", "([CI[BII)I"⟩ : MethodName) jdk_52_method_21_code 7 (some .int) [] ({ frames := 0, cells := 0, slots := 0, locals := 0 } : Room) Z #[.ref b, .int (0 : Int32), .ref d, .int (0 : Int32), .int (2 : Int32)] h0 (Qcmp5_2 Z d kd c0 c1 h0 n0) := by
  refine own_met pls1 (Lf := #[.val (.ref b), .val (.int (0 : Int32)), .val (.ref d), .val (.int (0 : Int32)), .val (.int (2 : Int32)), .unset, .unset]) (fun m => by first | (simp [entryFrame, mkF, argsToLocals, Value.category]; done) | rfl) ?_
  intro p e s m below meth c T Y
  have Kp := Keep.refl h0 [d]
  have N := Fr.nil n0
  refine own_iconst 1 Y (0 : Int32) ds1_0 rfl rfl ?_
  refine own_istore 3 Y #[.val (.ref b), .val (.int (0 : Int32)), .val (.ref d), .val (.int (0 : Int32)), .val (.int (2 : Int32)), .val (.int (0 : Int32)), .unset] ds1_1 rfl rfl ?_
  refine own_iload 5 Y ds1_3 rfl rfl ?_
  refine own_iload 7 Y ds1_5 rfl rfl ?_
  refine own_icF 10 Y ds1_7 (XT.ii_ge_f (by decide)) rfl ?_
  refine own_aloadN 11 Y ds1_10 rfl rfl rfl ?_
  refine own_iloadN 12 Y ds1_11 rfl rfl ?_
  refine own_caload 13 Y V_b ds1_12 ⟨by decide, by decide⟩ rfl rfl ?_
  refine own_istore 15 Y #[.val (.ref b), .val (.int (0 : Int32)), .val (.ref d), .val (.int (0 : Int32)), .val (.int (2 : Int32)), .val (.int (0 : Int32)), .val (.int c0)] ds1_13 rfl rfl ?_
  refine own_iload 17 Y ds1_15 rfl rfl ?_
  refine own_sipush 20 Y (255 : Int32) ds1_17 rfl rfl ?_
  refine own_icT 26 Y ds1_20 (XT.ii_le_t hc0) (by decide) ?_
  refine own_aloadN 27 Y ds1_26 rfl rfl rfl ?_
  refine own_iloadN 28 Y ds1_27 rfl rfl ?_
  refine own_iload 30 Y ds1_28 rfl rfl ?_
  refine own_i2b 31 Y ds1_30 rfl ?_
  refine own_stB 32 Y V_d ds1_31 ⟨by decide, by decide⟩ rfl fun T1 h1 Y1 W1 A1 => ?_
  have V_b := V_b.other W1 nbd
  have Kp := Kp.wr W1 (Or.inl (List.mem_of_getElem? (i := 0) rfl))
  have N := own_frY Y1 N gd
  have V_d : Arv Z h1 d kd .byte (2 : Int32) [(.int (nar .byte c0.toInt8.toInt32)), (.int (0 : Int32))] (.int (0 : Int32)) := A1 0 rfl (Nat.le_of_ble_eq_true rfl) (fits_nar_byte _)
  refine own_iinc 35 Y1 #[.val (.ref b), .val (.int (1 : Int32)), .val (.ref d), .val (.int (0 : Int32)), .val (.int (2 : Int32)), .val (.int (0 : Int32)), .val (.int c0)] (1 : Int32) ds1_32 rfl rfl rfl rfl ?_
  refine own_iinc 38 Y1 #[.val (.ref b), .val (.int (1 : Int32)), .val (.ref d), .val (.int (1 : Int32)), .val (.int (2 : Int32)), .val (.int (0 : Int32)), .val (.int c0)] (1 : Int32) ds1_35 rfl rfl rfl rfl ?_
  refine own_iinc 41 Y1 #[.val (.ref b), .val (.int (1 : Int32)), .val (.ref d), .val (.int (1 : Int32)), .val (.int (2 : Int32)), .val (.int (1 : Int32)), .val (.int c0)] (1 : Int32) ds1_38 rfl rfl rfl rfl ?_
  refine own_goto 3 Y1 ds1_41 (by decide) ?_
  refine own_iload 5 Y1 ds1_3 rfl rfl ?_
  refine own_iload 7 Y1 ds1_5 rfl rfl ?_
  refine own_icF 10 Y1 ds1_7 (XT.ii_ge_f (by decide)) rfl ?_
  refine own_aloadN 11 Y1 ds1_10 rfl rfl rfl ?_
  refine own_iloadN 12 Y1 ds1_11 rfl rfl ?_
  refine own_caload 13 Y1 V_b ds1_12 ⟨by decide, by decide⟩ rfl rfl ?_
  refine own_istore 15 Y1 #[.val (.ref b), .val (.int (1 : Int32)), .val (.ref d), .val (.int (1 : Int32)), .val (.int (2 : Int32)), .val (.int (1 : Int32)), .val (.int c1)] ds1_13 rfl rfl ?_
  refine own_iload 17 Y1 ds1_15 rfl rfl ?_
  refine own_sipush 20 Y1 (255 : Int32) ds1_17 rfl rfl ?_
  refine own_icT 26 Y1 ds1_20 (XT.ii_le_t hc1) (by decide) ?_
  refine own_aloadN 27 Y1 ds1_26 rfl rfl rfl ?_
  refine own_iloadN 28 Y1 ds1_27 rfl rfl ?_
  refine own_iload 30 Y1 ds1_28 rfl rfl ?_
  refine own_i2b 31 Y1 ds1_30 rfl ?_
  refine own_stB 32 Y1 V_d ds1_31 ⟨by decide, by decide⟩ rfl fun T2 h2 Y2 W2 A2 => ?_
  have V_b := V_b.other W2 nbd
  have Kp := Kp.wr W2 (Or.inl (List.mem_of_getElem? (i := 0) rfl))
  have N := own_frY Y2 N gd
  have V_d : Arv Z h2 d kd .byte (2 : Int32) [(.int (nar .byte c0.toInt8.toInt32)), (.int (nar .byte c1.toInt8.toInt32))] (.int (0 : Int32)) := A2 1 rfl (Nat.le_of_ble_eq_true rfl) (fits_nar_byte _)
  refine own_iinc 35 Y2 #[.val (.ref b), .val (.int (2 : Int32)), .val (.ref d), .val (.int (1 : Int32)), .val (.int (2 : Int32)), .val (.int (1 : Int32)), .val (.int c1)] (1 : Int32) ds1_32 rfl rfl rfl rfl ?_
  refine own_iinc 38 Y2 #[.val (.ref b), .val (.int (2 : Int32)), .val (.ref d), .val (.int (2 : Int32)), .val (.int (2 : Int32)), .val (.int (1 : Int32)), .val (.int c1)] (1 : Int32) ds1_35 rfl rfl rfl rfl ?_
  refine own_iinc 41 Y2 #[.val (.ref b), .val (.int (2 : Int32)), .val (.ref d), .val (.int (2 : Int32)), .val (.int (2 : Int32)), .val (.int (2 : Int32)), .val (.int c1)] (1 : Int32) ds1_38 rfl rfl rfl rfl ?_
  refine own_goto 3 Y2 ds1_41 (by decide) ?_
  refine own_iload 5 Y2 ds1_3 rfl rfl ?_
  refine own_iload 7 Y2 ds1_5 rfl rfl ?_
  refine own_icT 44 Y2 ds1_7 (XT.ii_ge_t (by decide)) (by decide) ?_
  refine own_iload 46 Y2 ds1_44 rfl rfl ?_
  exact own_retI Y2 rfl ds1_46 (by decide) (by decide) ⟨rfl, Kp, N, V_d⟩
def Qcmp3_2 (Z : State) (c0 c1 : Int32) (h0 : Heap) (n0 : Nat) (v : Option Value) (h : Heap) (L : List Loc) : Prop := ∃ (d : Addr) (kd : ClassId), v = some (.ref d) ∧ h0.size ≤ d ∧ Keep h0 h [] ∧ Fr n0 L ∧ Arv Z h d kd .byte (2 : Int32) [(.int (nar .byte c0.toInt8.toInt32)), (.int (nar .byte c1.toInt8.toInt32))] (.int (0 : Int32))
set_option maxRecDepth 65536 in
set_option maxHeartbeats 4000000 in
theorem c_cmp3_2 (l : Launch) (Z : State) (a0 : Array Value) (hw : ∀ d ∈ tables_1, d.before a0 Z = true) (b : Addr) (kb : ClassId) (c0 c1 : Int32) (hc0 : ¬ (255 : Int32) < c0) (hc1 : ¬ (255 : Int32) < c1) (h0 : Heap) (n0 : Nat) (Zs : n0 ≤ h0.size) (V_b : Arv Z h0 b kb .char (2 : Int32) [(.int c0), (.int c1)] (.int (0 : Int32))) : own_M l (⟨"java/lang/StringUTF16", "compress", "([CII)[B"⟩ : MethodName) jdk_52_method_16_code 6 (some (.array .byte)) [] ({ frames := 1, cells := 1, slots := 2, locals := 18 } : Room) Z #[.ref b, .int (0 : Int32), .int (2 : Int32)] h0 (Qcmp3_2 Z c0 c1 h0 n0) := by
  refine own_met pls2 (Lf := #[.val (.ref b), .val (.int (0 : Int32)), .val (.int (2 : Int32)), .unset, .unset, .unset]) (fun m => by first | (simp [entryFrame, mkF, argsToLocals, Value.category]; done) | rfl) ?_
  intro p e s m below meth c T Y
  have Kp := Keep.refl h0 []
  have N := Fr.nil n0
  refine own_iloadN 1 Y ds2_0 rfl rfl ?_
  refine own_newP 3 Y (own_wd hw 19 rfl) 2 ds2_1 (by decide) (by decide) (by decide) (by decide) (by decide) rfl fun T1 h1 d k_d Y1 g_d E1 V_d => ?_
  have ne_b_d : b ≠ d := by rw [g_d]; exact Nat.ne_of_lt V_b.lt
  have gk_d := Nat.le_trans Kp.1 (Nat.le_of_eq g_d.symm)
  have gn_d : n0 ≤ d := by rw [g_d]; exact Zs
  have V_b := V_b.ext E1
  have Kp := Kp.ext E1
  have Zs := Nat.le_trans Zs E1.1
  have V_d : Arv Z h1 d k_d .byte (2 : Int32) [(.int (0 : Int32)), (.int (0 : Int32))] (.int (0 : Int32)) := V_d.pad (pad_rep [] _ 2)
  refine own_astoreN 4 Y1 #[.val (.ref b), .val (.int (0 : Int32)), .val (.int (2 : Int32)), .val (.ref d), .unset, .unset] ds2_3 rfl rfl rfl ?_
  refine own_aloadN 5 Y1 ds2_4 rfl rfl rfl ?_
  refine own_iloadN 6 Y1 ds2_5 rfl rfl ?_
  refine own_aloadN 7 Y1 ds2_6 rfl rfl rfl ?_
  refine own_iconst 8 Y1 (0 : Int32) ds2_7 rfl rfl ?_
  refine own_iloadN 9 Y1 ds2_8 rfl rfl ?_
  refine own_callS 12 Y1 [(.ref b), (.int (0 : Int32)), (.ref d), (.int (0 : Int32)), (.int (2 : Int32))] [] (own_wd hw 20 rfl) (own_wd hw 21 rfl) (own_wd hw 17 rfl) (own_wd hw 22 rfl) (c_cmp5_2 l Z a0 hw b d kb k_d c0 c1 hc0 hc1 _ n0 gn_d ne_b_d V_b V_d) ds2_9 (by decide) (lenOf pds1 rfl) rfl rfl (by decide) (Nat.le_of_ble_eq_true rfl) (by decide) (by decide) rfl fun v2 T2 h2 L2 Y2 hQ2 => ?_
  obtain ⟨rfl, K2, N2, G2⟩ := hQ2
  have V_b := V_b.keep K2 (ninS ne_b_d nin0)
  have Kp := Kp.trans K2 (allS (Or.inr gk_d) all0)
  have N := N.app N2
  have Zs := Nat.le_trans Zs K2.1
  have V_d := G2
  show own_G p e below _ (T2.setTop (mkF m 12 #[.val (.ref b), .val (.int (0 : Int32)), .val (.int (2 : Int32)), .val (.ref d), .unset, .unset] [(.int (2 : Int32))]))
  refine own_istore 14 Y2 #[.val (.ref b), .val (.int (0 : Int32)), .val (.int (2 : Int32)), .val (.ref d), .val (.int (2 : Int32)), .unset] ds2_12 rfl rfl ?_
  refine own_iload 16 Y2 ds2_14 rfl rfl ?_
  refine own_iloadN 17 Y2 ds2_16 rfl rfl ?_
  refine own_icT 57 Y2 ds2_17 (XT.ii_eq_t (by decide)) (by decide) ?_
  refine own_aloadN 58 Y2 ds2_57 rfl rfl rfl ?_
  exact own_retA Y2 rfl rfl rfl ds2_58 (by decide) (by decide) ⟨d, k_d, rfl, gk_d, Kp, N, V_d⟩
set_option maxRecDepth 65536 in
set_option maxHeartbeats 4000000 in
theorem c_codl_2 (l : Launch) (Z : State) (a0 : Array Value) (hw : ∀ d ∈ tables_1, d.before a0 Z = true) (d : Addr) (kd : ClassId) (vs : List Value) (h0 : Heap) (V_d : Arv Z h0 d kd .byte (2 : Int32) vs (.int (0 : Int32))) : own_M l (⟨"java/lang/StringUTF16", "coderFromArrayLen", "([BI)B"⟩ : MethodName) jdk_52_method_15_code 2 (some .byte) [] ({ frames := 0, cells := 0, slots := 0, locals := 0 } : Room) Z #[.ref d, .int (2 : Int32)] h0 (Qv (some (.int (0 : Int32))) h0) := by
  refine own_met pls3 (Lf := #[.val (.ref d), .val (.int (2 : Int32))]) (fun m => by first | (simp [entryFrame, mkF, argsToLocals, Value.category]; done) | rfl) ?_
  intro p e s m below meth c T Y
  refine own_iloadN 1 Y ds3_0 rfl rfl ?_
  refine own_aloadN 2 Y ds3_1 rfl rfl rfl ?_
  refine own_alen 3 Y V_d ds3_2 rfl ?_
  refine own_isub 4 Y ds3_3 rfl ?_
  show own_G p e below _ (State.setTop _ (mkF m 4 #[.val (.ref d), .val (.int (2 : Int32))] [(.int (0 : Int32))]))
  refine own_bipush 6 Y (31 : Int32) ds3_4 rfl rfl ?_
  refine own_iushr 7 Y ds3_6 rfl ?_
  refine own_i2b 8 Y ds3_7 rfl ?_
  exact own_retN Y (t := .byte) rfl (by simp) ds3_8 (by decide) (by decide) ⟨rfl, rfl, rfl⟩
def Qnew_2 (Z : State) (a : Addr) (c0 c1 : Int32) (h0 : Heap) (n0 : Nat) (v : Option Value) (h : Heap) (L : List Loc) : Prop := v = none ∧ Keep h0 h [a] ∧ Fr n0 L ∧ Exa Z h a "java/lang/String" ∧ ∃ (d : Addr) (kd : ClassId), h0.size ≤ d ∧ Fld Z h a "java/lang/String" "value" "[B" (.ref d) ∧ Fld Z h a "java/lang/String" "coder" "B" (.int (0 : Int32)) ∧ Arv Z h d kd .byte (2 : Int32) [(.int (nar .byte c0.toInt8.toInt32)), (.int (nar .byte c1.toInt8.toInt32))] (.int (0 : Int32))
set_option maxRecDepth 65536 in
set_option maxHeartbeats 4000000 in
theorem c_new4_2 (l : Launch) (Z : State) (a0 : Array Value) (hw : ∀ d ∈ tables_1, d.before a0 Z = true) (a b : Addr) (kb : ClassId) (c0 c1 : Int32) (hc0 : ¬ (255 : Int32) < c0) (hc1 : ¬ (255 : Int32) < c1) (z : Int32) (h0 : Heap) (n0 : Nat) (Zs : n0 ≤ h0.size) (ga : n0 ≤ a) (nab : a ≠ b) (O : Old Z n0 h0) (Sc : Sta Z Z.heap "java/lang/String" "COMPACT_STRINGS" "Z" (.int z)) (hz : ¬ z = 0) (u1 u2 : Value) (X_a : Exa Z h0 a "java/lang/String") (F_a_value : Fld Z h0 a "java/lang/String" "value" "[B" u1) (F_a_coder : Fld Z h0 a "java/lang/String" "coder" "B" u2) (V_b : Arv Z h0 b kb .char (2 : Int32) [(.int c0), (.int c1)] (.int (0 : Int32))) : own_M l (⟨"java/lang/String", "<init>", "([CIILjava/lang/Void;)V"⟩ : MethodName) jdk_42_method_149_code 6 none [] ({ frames := 2, cells := 1, slots := 2, locals := 36 } : Room) Z #[.ref a, .ref b, .int (0 : Int32), .int (2 : Int32), .null] h0 (Qnew_2 Z a c0 c1 h0 n0) := by
  refine own_met pls4 (Lf := #[.val (.ref a), .val (.ref b), .val (.int (0 : Int32)), .val (.int (2 : Int32)), .val .null, .unset]) (fun m => by first | (simp [entryFrame, mkF, argsToLocals, Value.category]; done) | rfl) ?_
  intro p e s m below meth c T Y
  have Kp := Keep.refl h0 [a]
  have N := Fr.nil n0
  refine own_aloadN 1 Y ds4_0 rfl rfl rfl ?_
  refine own_initO 4 Y (own_wd hw 11 rfl) (own_wd hw 12 rfl) (own_wd hw 13 rfl) ds4_1 rfl (by decide) (by decide) rfl fun T2 Y1 => ?_
  refine own_iloadN 5 Y1 ds4_4 rfl rfl ?_
  refine own_ifT 27 Y1 ds4_5 (XT.i0_ne_t (by decide)) (by decide) ?_
  refine own_getS 30 Y1 (host := "") (Or.inl (own_wd hw 14 rfl)) Via.refl (Sc.ext O.2) ds4_27 rfl fun T4 Y3 => ?_
  refine own_ifF 33 Y3 ds4_30 (XT.i0_eq_f hz) rfl ?_
  refine own_aloadN 34 Y3 ds4_33 rfl rfl rfl ?_
  refine own_iloadN 35 Y3 ds4_34 rfl rfl ?_
  refine own_iloadN 36 Y3 ds4_35 rfl rfl ?_
  refine own_callS 39 Y3 [(.ref b), (.int (0 : Int32)), (.int (2 : Int32))] [] (own_wd hw 15 rfl) (own_wd hw 16 rfl) (own_wd hw 17 rfl) (own_wd hw 18 rfl) (c_cmp3_2 l Z a0 hw b kb c0 c1 hc0 hc1 _ n0 Zs V_b) ds4_36 (by decide) (lenOf pds2 rfl) rfl rfl (by decide) (Nat.le_of_ble_eq_true rfl) (by decide) (by decide) rfl fun v5 T5 h5 L5 Y5 hQ5 => ?_
  obtain ⟨d, kd, rfl, gk_d, K5, N5, V_d⟩ := hQ5
  have gn_d := Nat.le_trans Zs gk_d
  have ne_a_d : a ≠ d := Nat.ne_of_lt (Nat.lt_of_lt_of_le X_a.lt gk_d)
  have X_a := X_a.keep K5
  have F_a_value := F_a_value.keep K5 nin0
  have F_a_coder := F_a_coder.keep K5 nin0
  have V_b := V_b.keep K5 nin0
  have Kp := Kp.trans K5 all0
  have N := N.app N5
  have Zs := Nat.le_trans Zs K5.1
  have O := O.keep K5 all0
  show own_G p e below _ (T5.setTop (mkF m 39 #[.val (.ref a), .val (.ref b), .val (.int (0 : Int32)), .val (.int (2 : Int32)), .val .null, .unset] [(.ref d)]))
  refine own_astore 41 Y5 #[.val (.ref a), .val (.ref b), .val (.int (0 : Int32)), .val (.int (2 : Int32)), .val .null, .val (.ref d)] ds4_39 rfl rfl rfl ?_
  refine own_aloadN 42 Y5 ds4_41 rfl rfl rfl ?_
  refine own_aload 44 Y5 ds4_42 rfl rfl rfl ?_
  refine own_iloadN 45 Y5 ds4_44 rfl rfl ?_
  refine own_callS 48 Y5 [(.ref d), (.int (2 : Int32))] [(.ref a)] (own_wd hw 23 rfl) (own_wd hw 24 rfl) (own_wd hw 17 rfl) (own_wd hw 25 rfl) (c_codl_2 l Z a0 hw d kd _ _ V_d) ds4_45 (by decide) (lenOf pds3 rfl) rfl rfl (by decide) (Nat.le_of_ble_eq_true rfl) (by decide) (by decide) rfl fun v6 T6 h6 L6 Y6 hQ6 => ?_
  obtain ⟨rfl, rfl, rfl⟩ := hQ6
  have N := N.app (Fr.nil n0)
  show own_G p e below _ (T6.setTop (mkF m 48 #[.val (.ref a), .val (.ref b), .val (.int (0 : Int32)), .val (.int (2 : Int32)), .val .null, .val (.ref d)] [(.int (0 : Int32)), (.ref a)]))
  refine own_putFN 51 Y6 (own_wd hw 26 rfl) Via.refl F_a_coder X_a (Or.inr ⟨(own_wd hw 27 rfl), rfl, rfl⟩) (own_wd hw 2 rfl) (ty := .byte) (v' := (.int (0 : Int32))) (by decide) rfl rfl ds4_48 rfl fun T7 h7 Y7 W7 => ?_
  have X_a := X_a.wr W7
  have F_a_value := F_a_value.other W7 (Or.inr (slot_ne (Or.inr (own_wd hw 29 rfl)) (Or.inr (own_wd hw 27 rfl)) (by decide) (t := (.array .byte)) (t' := .byte) (by decide) (by decide)))
  have F_a_coder := F_a_coder.same W7
  have V_b := V_b.other W7 (Ne.symm nab)
  have Kp := Kp.wr W7 (Or.inl (List.mem_of_getElem? (i := 0) rfl))
  have N := own_frY Y7 N ga
  have Zs := Nat.le_trans Zs (Nat.le_of_eq W7.size.symm)
  have O := O.wr W7 ga
  have V_d := V_d.other W7 (Ne.symm ne_a_d)
  refine own_aloadN 52 Y7 ds4_51 rfl rfl rfl ?_
  refine own_aload 54 Y7 ds4_52 rfl rfl rfl ?_
  refine own_putF 57 Y7 (host := "") (Or.inl (own_wd hw 28 rfl)) Via.refl F_a_value X_a (Or.inr ⟨(own_wd hw 29 rfl), rfl, rfl⟩) (own_wd hw 2 rfl) (ty := (.array .byte)) (by decide) rfl rfl ds4_54 rfl fun T8 h8 Y8 W8 => ?_
  have X_a := X_a.wr W8
  have F_a_value := F_a_value.same W8
  have F_a_coder := F_a_coder.other W8 (Or.inr (slot_ne (Or.inr (own_wd hw 27 rfl)) (Or.inr (own_wd hw 29 rfl)) (by decide) (t := .byte) (t' := (.array .byte)) (by decide) (by decide)))
  have V_b := V_b.other W8 (Ne.symm nab)
  have Kp := Kp.wr W8 (Or.inl (List.mem_of_getElem? (i := 0) rfl))
  have N := own_frY Y8 N ga
  have Zs := Nat.le_trans Zs (Nat.le_of_eq W8.size.symm)
  have O := O.wr W8 ga
  have V_d := V_d.other W8 (Ne.symm ne_a_d)
  exact own_retV Y8 rfl ds4_57 (by decide) (by decide) ⟨rfl, Kp, N, X_a, d, kd, gk_d, F_a_value, F_a_coder, V_d⟩
set_option maxRecDepth 65536 in
set_option maxHeartbeats 4000000 in
theorem c_new1_2 (l : Launch) (Z : State) (a0 : Array Value) (hw : ∀ d ∈ tables_1, d.before a0 Z = true) (a b : Addr) (kb : ClassId) (c0 c1 : Int32) (hc0 : ¬ (255 : Int32) < c0) (hc1 : ¬ (255 : Int32) < c1) (z : Int32) (h0 : Heap) (n0 : Nat) (Zs : n0 ≤ h0.size) (ga : n0 ≤ a) (nab : a ≠ b) (O : Old Z n0 h0) (Sc : Sta Z Z.heap "java/lang/String" "COMPACT_STRINGS" "Z" (.int z)) (hz : ¬ z = 0) (u1 u2 : Value) (X_a : Exa Z h0 a "java/lang/String") (F_a_value : Fld Z h0 a "java/lang/String" "value" "[B" u1) (F_a_coder : Fld Z h0 a "java/lang/String" "coder" "B" u2) (V_b : Arv Z h0 b kb .char (2 : Int32) [(.int c0), (.int c1)] (.int (0 : Int32))) : own_M l (⟨"java/lang/String", "<init>", "([C)V"⟩ : MethodName) jdk_42_method_3_code 2 none [] ({ frames := 3, cells := 1, slots := 2, locals := 60 } : Room) Z #[.ref a, .ref b] h0 (Qnew_2 Z a c0 c1 h0 n0) := by
  refine own_met pls5 (Lf := #[.val (.ref a), .val (.ref b)]) (fun m => by first | (simp [entryFrame, mkF, argsToLocals, Value.category]; done) | rfl) ?_
  intro p e s m below meth c T Y
  refine own_aloadN 1 Y ds5_0 rfl rfl rfl ?_
  refine own_aloadN 2 Y ds5_1 rfl rfl rfl ?_
  refine own_iconst 3 Y (0 : Int32) ds5_2 rfl rfl ?_
  refine own_aloadN 4 Y ds5_3 rfl rfl rfl ?_
  refine own_alen 5 Y V_b ds5_4 rfl ?_
  refine own_aconst_null 6 Y ds5_5 rfl ?_
  refine own_callI 9 Y [(.ref b), (.int (0 : Int32)), (.int (2 : Int32)), .null] [] rfl (own_wd hw 7 rfl) (own_wd hw 8 rfl) (own_wd hw 3 rfl) (own_wd hw 10 rfl) (c_new4_2 l Z a0 hw a b kb c0 c1 hc0 hc1 z _ n0 Zs ga nab O Sc hz _ _ X_a F_a_value F_a_coder V_b) ds5_6 (by decide) (lenOf pds4 rfl) rfl rfl (by decide) (Nat.le_of_ble_eq_true rfl) (by decide) (by decide) rfl fun v1 T1 h1 L1 Y1 hQ1 => ?_
  obtain ⟨rfl, K1, N1, R1⟩ := hQ1
  have N := (Fr.nil n0).app N1
  show own_G p e below _ (T1.setTop (mkF m 9 #[.val (.ref a), .val (.ref b)] []))
  exact own_retV Y1 rfl ds5_9 (by decide) (by decide) ⟨rfl, K1, N, R1⟩
set_option maxRecDepth 65536 in
set_option maxHeartbeats 4000000 in
theorem c_isWhole (l : Launch) (Z : State) (a0 : Array Value) (hw : ∀ d ∈ tables_1, d.before a0 Z = true) (a : Addr) (n : Int32) (hn : nar .boolean n = n) (h0 : Heap) (F : Fld Z h0 a "com/example/nachweis/nachweis/TrailState" "whole" "Z" (.int n)) : own_M l (⟨"com/example/nachweis/nachweis/TrailState", "isWhole", "()Z"⟩ : MethodName) prog_11_method_5_code 1 (some .boolean) [] ({ frames := 0, cells := 0, slots := 0, locals := 0 } : Room) Z #[.ref a] h0 (Qv (some (.int n)) h0) := by
  refine own_met plg1 (Lf := #[.val (.ref a)]) (fun m => by first | (simp [entryFrame, mkF, argsToLocals, Value.category]; done) | rfl) ?_
  intro p e s m below meth c T Y
  refine own_aloadN 1 Y dg1_0 rfl rfl rfl ?_
  refine own_getF 4 Y (host := "") (Or.inl (own_wd hw 44 rfl)) Via.refl F dg1_1 rfl fun T2 Y1 => ?_
  exact own_retN Y1 (t := .boolean) rfl (by simp) dg1_4 (by decide) (by decide) ⟨rfl, rfl, congrArg (fun z => some (Value.int z)) hn⟩
set_option maxRecDepth 65536 in
set_option maxHeartbeats 4000000 in
theorem c_records (l : Launch) (Z : State) (a0 : Array Value) (hw : ∀ d ∈ tables_1, d.before a0 Z = true) (a : Addr) (n : Int64) (h0 : Heap) (F : Fld Z h0 a "com/example/nachweis/nachweis/TrailState" "records" "J" (.long n)) : own_M l (⟨"com/example/nachweis/nachweis/TrailState", "records", "()J"⟩ : MethodName) prog_11_method_6_code 1 (some .long) [] ({ frames := 0, cells := 0, slots := 0, locals := 0 } : Room) Z #[.ref a] h0 (Qv (some (.long n)) h0) := by
  refine own_met plg2 (Lf := #[.val (.ref a)]) (fun m => by first | (simp [entryFrame, mkF, argsToLocals, Value.category]; done) | rfl) ?_
  intro p e s m below meth c T Y
  refine own_aloadN 1 Y dg2_0 rfl rfl rfl ?_
  refine own_getF 4 Y (host := "") (Or.inl (own_wd hw 40 rfl)) Via.refl F dg2_1 rfl fun T2 Y1 => ?_
  exact own_retL Y1 rfl dg2_4 (by decide) (by decide) ⟨rfl, rfl, rfl⟩
set_option maxRecDepth 65536 in
set_option maxHeartbeats 4000000 in
theorem c_head (l : Launch) (Z : State) (a0 : Array Value) (hw : ∀ d ∈ tables_1, d.before a0 Z = true) (a : Addr) (v : Value) (hv : v.isRef = true) (h0 : Heap) (F : Fld Z h0 a "com/example/nachweis/nachweis/TrailState" "head" "Ljava/lang/String;" v) : own_M l (⟨"com/example/nachweis/nachweis/TrailState", "head", "()Ljava/lang/String;"⟩ : MethodName) prog_11_method_7_code 1 (some (.object "java/lang/String")) [] ({ frames := 0, cells := 0, slots := 0, locals := 0 } : Room) Z #[.ref a] h0 (Qv (some v) h0) := by
  refine own_met plg3 (Lf := #[.val (.ref a)]) (fun m => by first | (simp [entryFrame, mkF, argsToLocals, Value.category]; done) | rfl) ?_
  intro p e s m below meth c T Y
  refine own_aloadN 1 Y dg3_0 rfl rfl rfl ?_
  refine own_getF 4 Y (host := "") (Or.inl (own_wd hw 42 rfl)) Via.refl F dg3_1 rfl fun T2 Y1 => ?_
  exact own_retA Y1 rfl rfl hv dg3_4 (by decide) (by decide) ⟨rfl, rfl, rfl⟩
set_option maxRecDepth 65536 in
set_option maxHeartbeats 4000000 in
theorem c_tornBytes (l : Launch) (Z : State) (a0 : Array Value) (hw : ∀ d ∈ tables_1, d.before a0 Z = true) (a : Addr) (n : Int64) (h0 : Heap) (F : Fld Z h0 a "com/example/nachweis/nachweis/TrailState" "tornBytes" "J" (.long n)) : own_M l (⟨"com/example/nachweis/nachweis/TrailState", "tornBytes", "()J"⟩ : MethodName) prog_11_method_9_code 1 (some .long) [] ({ frames := 0, cells := 0, slots := 0, locals := 0 } : Room) Z #[.ref a] h0 (Qv (some (.long n)) h0) := by
  refine own_met plg4 (Lf := #[.val (.ref a)]) (fun m => by first | (simp [entryFrame, mkF, argsToLocals, Value.category]; done) | rfl) ?_
  intro p e s m below meth c T Y
  refine own_aloadN 1 Y dg4_0 rfl rfl rfl ?_
  refine own_getF 4 Y (host := "") (Or.inl (own_wd hw 46 rfl)) Via.refl F dg4_1 rfl fun T2 Y1 => ?_
  exact own_retL Y1 rfl dg4_4 (by decide) (by decide) ⟨rfl, rfl, rfl⟩
set_option maxRecDepth 65536 in
set_option maxHeartbeats 4000000 in
theorem c_tornHash (l : Launch) (Z : State) (a0 : Array Value) (hw : ∀ d ∈ tables_1, d.before a0 Z = true) (a : Addr) (v : Value) (hv : v.isRef = true) (h0 : Heap) (F : Fld Z h0 a "com/example/nachweis/nachweis/TrailState" "tornHash" "Ljava/lang/String;" v) : own_M l (⟨"com/example/nachweis/nachweis/TrailState", "tornHash", "()Ljava/lang/String;"⟩ : MethodName) prog_11_method_10_code 1 (some (.object "java/lang/String")) [] ({ frames := 0, cells := 0, slots := 0, locals := 0 } : Room) Z #[.ref a] h0 (Qv (some v) h0) := by
  refine own_met plg5 (Lf := #[.val (.ref a)]) (fun m => by first | (simp [entryFrame, mkF, argsToLocals, Value.category]; done) | rfl) ?_
  intro p e s m below meth c T Y
  refine own_aloadN 1 Y dg5_0 rfl rfl rfl ?_
  refine own_getF 4 Y (host := "") (Or.inl (own_wd hw 48 rfl)) Via.refl F dg5_1 rfl fun T2 Y1 => ?_
  exact own_retA Y1 rfl rfl hv dg5_4 (by decide) (by decide) ⟨rfl, rfl, rfl⟩
def Qc_ini (Z : State) (a : Addr) (v0 : Int64) (v1 : Value) (v2 : Int32) (v3 : Int64) (v4 : Value) (h0 : Heap) (n0 : Nat) (v : Option Value) (h : Heap) (L : List Loc) : Prop := v = none ∧ Keep h0 h [a] ∧ Fr n0 L ∧ Exa Z h a "com/example/nachweis/nachweis/TrailState" ∧ Fld Z h a "com/example/nachweis/nachweis/TrailState" "records" "J" (.long v0) ∧ Fld Z h a "com/example/nachweis/nachweis/TrailState" "head" "Ljava/lang/String;" v1 ∧ Fld Z h a "com/example/nachweis/nachweis/TrailState" "whole" "Z" (.int v2) ∧ Fld Z h a "com/example/nachweis/nachweis/TrailState" "tornBytes" "J" (.long v3) ∧ Fld Z h a "com/example/nachweis/nachweis/TrailState" "tornHash" "Ljava/lang/String;" v4
set_option maxRecDepth 65536 in
set_option maxHeartbeats 4000000 in
theorem c_ini (l : Launch) (Z : State) (a0 : Array Value) (hw : ∀ d ∈ tables_1, d.before a0 Z = true) (a : Addr) (v0 : Int64) (v1 : Value) (hv1 : v1.isRef = true) (v2 : Int32) (hb2 : narrow .boolean (.int v2) = .int v2 ∧ fits .boolean (.int v2) = true) (v3 : Int64) (v4 : Value) (hv4 : v4.isRef = true) (h0 : Heap) (n0 : Nat) (ga : n0 ≤ a) (u0 : Value) (u1 : Value) (u2 : Value) (u3 : Value) (u4 : Value) (X_a : Exa Z h0 a "com/example/nachweis/nachweis/TrailState") (F_a_records : Fld Z h0 a "com/example/nachweis/nachweis/TrailState" "records" "J" u0) (F_a_head : Fld Z h0 a "com/example/nachweis/nachweis/TrailState" "head" "Ljava/lang/String;" u1) (F_a_whole : Fld Z h0 a "com/example/nachweis/nachweis/TrailState" "whole" "Z" u2) (F_a_tornBytes : Fld Z h0 a "com/example/nachweis/nachweis/TrailState" "tornBytes" "J" u3) (F_a_tornHash : Fld Z h0 a "com/example/nachweis/nachweis/TrailState" "tornHash" "Ljava/lang/String;" u4) : own_M l (⟨"com/example/nachweis/nachweis/TrailState", "<init>", "(JLjava/lang/String;ZJLjava/lang/String;)V"⟩ : MethodName) prog_11_method_1_code 8 none [] ({ frames := 1, cells := 0, slots := 0, locals := 12 } : Room) Z #[.ref a, (.long v0), v1, (.int v2), (.long v3), v4] h0 (Qc_ini Z a v0 v1 v2 v3 v4 h0 n0) := by
  refine own_met pl2 (Lf := #[.val (.ref a), .val (.long v0), .second, .val v1, .val (.int v2), .val (.long v3), .second, .val v4]) (fun m => by rcases ref_cases hv1 with rfl | ⟨_, rfl⟩ <;> rcases ref_cases hv4 with rfl | ⟨_, rfl⟩ <;> rfl) ?_
  intro p e s m below meth c T Y
  have Kp := Keep.refl h0 [a]
  have N := Fr.nil n0
  refine own_aloadN 1 Y d2_0 rfl rfl rfl ?_
  refine own_initO 4 Y (own_wd hw 39 rfl) (own_wd hw 12 rfl) (own_wd hw 13 rfl) d2_1 rfl (by decide) (by decide) rfl fun T2 Y1 => ?_
  refine own_aloadN 5 Y1 d2_4 rfl rfl rfl ?_
  refine own_lloadN 6 Y1 d2_5 rfl rfl ?_
  refine own_putF 9 Y1 (host := "") (Or.inl (own_wd hw 40 rfl)) Via.refl F_a_records X_a (Or.inr ⟨(own_wd hw 41 rfl), rfl, rfl⟩) (own_wd hw 35 rfl) (ty := .long) (by decide) rfl rfl d2_6 rfl fun T3 h3 Y3 W3 => ?_
  have X_a := X_a.wr W3
  have F_a_records := F_a_records.same W3
  have F_a_head := F_a_head.other W3 (Or.inr (slot_ne (Or.inr (own_wd hw 43 rfl)) (Or.inr (own_wd hw 41 rfl)) (by decide) (t := (.object "java/lang/String")) (t' := .long) (by decide) (by decide)))
  have F_a_whole := F_a_whole.other W3 (Or.inr (slot_ne (Or.inr (own_wd hw 45 rfl)) (Or.inr (own_wd hw 41 rfl)) (by decide) (t := .boolean) (t' := .long) (by decide) (by decide)))
  have F_a_tornBytes := F_a_tornBytes.other W3 (Or.inr (slot_ne (Or.inr (own_wd hw 47 rfl)) (Or.inr (own_wd hw 41 rfl)) (by decide) (t := .long) (t' := .long) (by decide) (by decide)))
  have F_a_tornHash := F_a_tornHash.other W3 (Or.inr (slot_ne (Or.inr (own_wd hw 49 rfl)) (Or.inr (own_wd hw 41 rfl)) (by decide) (t := (.object "java/lang/String")) (t' := .long) (by decide) (by decide)))
  have Kp := Kp.wr W3 (Or.inl (List.mem_of_getElem? (i := 0) rfl))
  have N := own_frY Y3 N ga
  refine own_aloadN 10 Y3 d2_9 rfl rfl rfl ?_
  refine own_aloadN 11 Y3 d2_10 rfl hv1 rfl ?_
  refine own_putF 14 Y3 (host := "") (Or.inl (own_wd hw 42 rfl)) Via.refl F_a_head X_a (Or.inr ⟨(own_wd hw 43 rfl), rfl, rfl⟩) (own_wd hw 35 rfl) (ty := (.object "java/lang/String")) (by decide) (own_fitR hv1).1 (own_fitR hv1).2 d2_11 rfl fun T4 h4 Y4 W4 => ?_
  have X_a := X_a.wr W4
  have F_a_records := F_a_records.other W4 (Or.inr (slot_ne (Or.inr (own_wd hw 41 rfl)) (Or.inr (own_wd hw 43 rfl)) (by decide) (t := .long) (t' := (.object "java/lang/String")) (by decide) (by decide)))
  have F_a_head := F_a_head.same W4
  have F_a_whole := F_a_whole.other W4 (Or.inr (slot_ne (Or.inr (own_wd hw 45 rfl)) (Or.inr (own_wd hw 43 rfl)) (by decide) (t := .boolean) (t' := (.object "java/lang/String")) (by decide) (by decide)))
  have F_a_tornBytes := F_a_tornBytes.other W4 (Or.inr (slot_ne (Or.inr (own_wd hw 47 rfl)) (Or.inr (own_wd hw 43 rfl)) (by decide) (t := .long) (t' := (.object "java/lang/String")) (by decide) (by decide)))
  have F_a_tornHash := F_a_tornHash.other W4 (Or.inr (slot_ne (Or.inr (own_wd hw 49 rfl)) (Or.inr (own_wd hw 43 rfl)) (by decide) (t := (.object "java/lang/String")) (t' := (.object "java/lang/String")) (by decide) (by decide)))
  have Kp := Kp.wr W4 (Or.inl (List.mem_of_getElem? (i := 0) rfl))
  have N := own_frY Y4 N ga
  refine own_aloadN 15 Y4 d2_14 rfl rfl rfl ?_
  refine own_iload 17 Y4 d2_15 rfl rfl ?_
  refine own_putFN 20 Y4 (own_wd hw 44 rfl) Via.refl F_a_whole X_a (Or.inr ⟨(own_wd hw 45 rfl), rfl, rfl⟩) (own_wd hw 35 rfl) (ty := .boolean) (v' := (.int v2)) (by decide) hb2.1 hb2.2 d2_17 rfl fun T5 h5 Y5 W5 => ?_
  have X_a := X_a.wr W5
  have F_a_records := F_a_records.other W5 (Or.inr (slot_ne (Or.inr (own_wd hw 41 rfl)) (Or.inr (own_wd hw 45 rfl)) (by decide) (t := .long) (t' := .boolean) (by decide) (by decide)))
  have F_a_head := F_a_head.other W5 (Or.inr (slot_ne (Or.inr (own_wd hw 43 rfl)) (Or.inr (own_wd hw 45 rfl)) (by decide) (t := (.object "java/lang/String")) (t' := .boolean) (by decide) (by decide)))
  have F_a_whole := F_a_whole.same W5
  have F_a_tornBytes := F_a_tornBytes.other W5 (Or.inr (slot_ne (Or.inr (own_wd hw 47 rfl)) (Or.inr (own_wd hw 45 rfl)) (by decide) (t := .long) (t' := .boolean) (by decide) (by decide)))
  have F_a_tornHash := F_a_tornHash.other W5 (Or.inr (slot_ne (Or.inr (own_wd hw 49 rfl)) (Or.inr (own_wd hw 45 rfl)) (by decide) (t := (.object "java/lang/String")) (t' := .boolean) (by decide) (by decide)))
  have Kp := Kp.wr W5 (Or.inl (List.mem_of_getElem? (i := 0) rfl))
  have N := own_frY Y5 N ga
  refine own_aloadN 21 Y5 d2_20 rfl rfl rfl ?_
  refine own_lload 23 Y5 d2_21 rfl rfl ?_
  refine own_putF 26 Y5 (host := "") (Or.inl (own_wd hw 46 rfl)) Via.refl F_a_tornBytes X_a (Or.inr ⟨(own_wd hw 47 rfl), rfl, rfl⟩) (own_wd hw 35 rfl) (ty := .long) (by decide) rfl rfl d2_23 rfl fun T6 h6 Y6 W6 => ?_
  have X_a := X_a.wr W6
  have F_a_records := F_a_records.other W6 (Or.inr (slot_ne (Or.inr (own_wd hw 41 rfl)) (Or.inr (own_wd hw 47 rfl)) (by decide) (t := .long) (t' := .long) (by decide) (by decide)))
  have F_a_head := F_a_head.other W6 (Or.inr (slot_ne (Or.inr (own_wd hw 43 rfl)) (Or.inr (own_wd hw 47 rfl)) (by decide) (t := (.object "java/lang/String")) (t' := .long) (by decide) (by decide)))
  have F_a_whole := F_a_whole.other W6 (Or.inr (slot_ne (Or.inr (own_wd hw 45 rfl)) (Or.inr (own_wd hw 47 rfl)) (by decide) (t := .boolean) (t' := .long) (by decide) (by decide)))
  have F_a_tornBytes := F_a_tornBytes.same W6
  have F_a_tornHash := F_a_tornHash.other W6 (Or.inr (slot_ne (Or.inr (own_wd hw 49 rfl)) (Or.inr (own_wd hw 47 rfl)) (by decide) (t := (.object "java/lang/String")) (t' := .long) (by decide) (by decide)))
  have Kp := Kp.wr W6 (Or.inl (List.mem_of_getElem? (i := 0) rfl))
  have N := own_frY Y6 N ga
  refine own_aloadN 27 Y6 d2_26 rfl rfl rfl ?_
  refine own_aload 29 Y6 d2_27 rfl hv4 rfl ?_
  refine own_putF 32 Y6 (host := "") (Or.inl (own_wd hw 48 rfl)) Via.refl F_a_tornHash X_a (Or.inr ⟨(own_wd hw 49 rfl), rfl, rfl⟩) (own_wd hw 35 rfl) (ty := (.object "java/lang/String")) (by decide) (own_fitR hv4).1 (own_fitR hv4).2 d2_29 rfl fun T7 h7 Y7 W7 => ?_
  have X_a := X_a.wr W7
  have F_a_records := F_a_records.other W7 (Or.inr (slot_ne (Or.inr (own_wd hw 41 rfl)) (Or.inr (own_wd hw 49 rfl)) (by decide) (t := .long) (t' := (.object "java/lang/String")) (by decide) (by decide)))
  have F_a_head := F_a_head.other W7 (Or.inr (slot_ne (Or.inr (own_wd hw 43 rfl)) (Or.inr (own_wd hw 49 rfl)) (by decide) (t := (.object "java/lang/String")) (t' := (.object "java/lang/String")) (by decide) (by decide)))
  have F_a_whole := F_a_whole.other W7 (Or.inr (slot_ne (Or.inr (own_wd hw 45 rfl)) (Or.inr (own_wd hw 49 rfl)) (by decide) (t := .boolean) (t' := (.object "java/lang/String")) (by decide) (by decide)))
  have F_a_tornBytes := F_a_tornBytes.other W7 (Or.inr (slot_ne (Or.inr (own_wd hw 47 rfl)) (Or.inr (own_wd hw 49 rfl)) (by decide) (t := .long) (t' := (.object "java/lang/String")) (by decide) (by decide)))
  have F_a_tornHash := F_a_tornHash.same W7
  have Kp := Kp.wr W7 (Or.inl (List.mem_of_getElem? (i := 0) rfl))
  have N := own_frY Y7 N ga
  exact own_retV Y7 rfl d2_32 (by decide) (by decide) ⟨rfl, Kp, N, X_a, F_a_records, F_a_head, F_a_whole, F_a_tornBytes, F_a_tornHash⟩
set_option maxRecDepth 65536 in
set_option maxHeartbeats 4000000 in
theorem c_bl (l : Launch) (Z : State) (a0 : Array Value) (hw : ∀ d ∈ tables_1, d.before a0 Z = true) (a : Addr) (r : Int64) (h0 : Heap) (F1 : Fld Z h0 a "com/example/nachweis/nachweis/TrailState" "whole" "Z" (.int (0 : Int32))) (F2 : Fld Z h0 a "com/example/nachweis/nachweis/TrailState" "records" "J" (.long r)) : own_M l (⟨"com/example/nachweis/nachweis/TrailState", "brokenLine", "()J"⟩ : MethodName) prog_11_method_8_code 1 (some .long) [] ({ frames := 0, cells := 0, slots := 0, locals := 0 } : Room) Z #[.ref a] h0 (Qv (some (.long (r + (1 : Int64)))) h0) := by
  refine own_met pl3 (Lf := #[.val (.ref a)]) (fun m => by first | (simp [entryFrame, mkF, argsToLocals, Value.category]; done) | rfl) ?_
  intro p e s m below meth c T Y
  refine own_aloadN 1 Y d3_0 rfl rfl rfl ?_
  refine own_getF 4 Y (host := "") (Or.inl (own_wd hw 44 rfl)) Via.refl F1 d3_1 rfl fun T2 Y1 => ?_
  refine own_ifT 11 Y1 d3_4 (XT.i0_eq_t (by decide)) (by decide) ?_
  refine own_aloadN 12 Y1 d3_11 rfl rfl rfl ?_
  refine own_getF 15 Y1 (host := "") (Or.inl (own_wd hw 40 rfl)) Via.refl F2 d3_12 rfl fun T4 Y3 => ?_
  refine own_lconst 16 Y3 (1 : Int64) d3_15 rfl rfl ?_
  refine own_ladd 17 Y3 d3_16 rfl ?_
  exact own_retL Y3 rfl d3_17 (by decide) (by decide) ⟨rfl, rfl, rfl⟩
set_option maxRecDepth 65536 in
set_option maxHeartbeats 4000000 in
theorem c_eq (l : Launch) (Z : State) (a0 : Array Value) (hw : ∀ d ∈ tables_1, d.before a0 Z = true) (a : Addr) (h0 : Heap) : own_M l (⟨"java/lang/String", "equals", "(Ljava/lang/Object;)Z"⟩ : MethodName) jdk_42_method_66_code 3 (some .boolean) [] ({ frames := 0, cells := 0, slots := 0, locals := 0 } : Room) Z #[.ref a, .ref a] h0 (Qv (some (.int (1 : Int32))) h0) := by
  refine own_met pl4 (Lf := #[.val (.ref a), .val (.ref a), .unset]) (fun m => by first | (simp [entryFrame, mkF, argsToLocals, Value.category]; done) | rfl) ?_
  intro p e s m below meth c T Y
  refine own_aloadN 1 Y d4_0 rfl rfl rfl ?_
  refine own_aloadN 2 Y d4_1 rfl rfl rfl ?_
  refine own_acmp 5 true Y d4_2 rfl rfl (decide_eq_true rfl) (by decide) (by decide) ?_
  refine own_iconst 6 Y (1 : Int32) d4_5 rfl rfl ?_
  exact own_retN Y (t := .boolean) rfl (by simp) d4_6 (by decide) (by decide) ⟨rfl, rfl, rfl⟩
def Qtorn (Z : State) (v0 : Int64) (v1 : Value) (v3 : Int64) (v4 : Value) (h0 : Heap) (n0 : Nat) (v : Option Value) (h : Heap) (L : List Loc) : Prop := ∃ x : Addr, v = some (.ref x) ∧ h0.size ≤ x ∧ Keep h0 h [] ∧ Fr n0 L ∧ Exa Z h x "com/example/nachweis/nachweis/TrailState" ∧ Fld Z h x "com/example/nachweis/nachweis/TrailState" "records" "J" (.long v0) ∧ Fld Z h x "com/example/nachweis/nachweis/TrailState" "head" "Ljava/lang/String;" v1 ∧ Fld Z h x "com/example/nachweis/nachweis/TrailState" "whole" "Z" (.int (0 : Int32)) ∧ Fld Z h x "com/example/nachweis/nachweis/TrailState" "tornBytes" "J" (.long v3) ∧ Fld Z h x "com/example/nachweis/nachweis/TrailState" "tornHash" "Ljava/lang/String;" v4
set_option maxRecDepth 65536 in
set_option maxHeartbeats 4000000 in
theorem c_torn (l : Launch) (Z : State) (a0 : Array Value) (hw : ∀ d ∈ tables_1, d.before a0 Z = true) (v0 : Int64) (v1 : Value) (hv1 : v1.isRef = true) (v3 : Int64) (v4 : Value) (hv4 : v4.isRef = true) (h0 : Heap) (n0 : Nat) (Zs : n0 ≤ h0.size) : own_M l (⟨"com/example/nachweis/nachweis/TrailState", "torn", "(JLjava/lang/String;JLjava/lang/String;)Lcom/example/nachweis/nachweis/TrailState;"⟩ : MethodName) prog_11_method_4_code 6 (some (.object "com/example/nachweis/nachweis/TrailState")) [] ({ frames := 2, cells := 1, slots := 5, locals := 60 } : Room) Z #[.long v0, v1, .long v3, v4] h0 (Qtorn Z v0 v1 v3 v4 h0 n0) := by
  refine own_met pl1 (Lf := #[.val (.long v0), .second, .val v1, .val (.long v3), .second, .val v4]) (fun m => by rcases ref_cases hv1 with rfl | ⟨_, rfl⟩ <;> rcases ref_cases hv4 with rfl | ⟨_, rfl⟩ <;> rfl) ?_
  intro p e s m below meth c T Y
  have Kp := Keep.refl h0 []
  have N := Fr.nil n0
  refine own_newO 3 Y (own_wd hw 34 rfl) (own_wd hw 35 rfl) (own_wd hw 32 rfl) d1_0 (by decide) (by decide) rfl fun T1 h1 x Y1 g_x E1 X_x D1 => ?_
  have gk_x := Nat.le_trans Kp.1 (Nat.le_of_eq g_x.symm)
  have gn_x : n0 ≤ x := by rw [g_x]; exact Zs
  have Kp := Kp.ext E1
  have Zs := Nat.le_trans Zs E1.1
  have F_x_records := D1 (Or.inr (own_wd hw 41 rfl)) (ty := .long) (by decide)
  have F_x_head := D1 (Or.inr (own_wd hw 43 rfl)) (ty := (.object "java/lang/String")) (by decide)
  have F_x_whole := D1 (Or.inr (own_wd hw 45 rfl)) (ty := .boolean) (by decide)
  have F_x_tornBytes := D1 (Or.inr (own_wd hw 47 rfl)) (ty := .long) (by decide)
  have F_x_tornHash := D1 (Or.inr (own_wd hw 49 rfl)) (ty := (.object "java/lang/String")) (by decide)
  refine own_dup 4 Y1 d1_3 rfl rfl ?_
  refine own_lloadN 5 Y1 d1_4 rfl rfl ?_
  refine own_aloadN 6 Y1 d1_5 rfl hv1 rfl ?_
  refine own_iconst 7 Y1 (0 : Int32) d1_6 rfl rfl ?_
  refine own_lloadN 8 Y1 d1_7 rfl rfl ?_
  refine own_aload 10 Y1 d1_8 rfl hv4 rfl ?_
  refine own_callI 13 Y1 [(.long v0), v1, (.int (0 : Int32)), (.long v3), v4] [(.ref x)] rfl (own_wd hw 36 rfl) (own_wd hw 37 rfl) (own_wd hw 32 rfl) (own_wd hw 38 rfl) (c_ini l Z a0 hw x v0 v1 hv1 (0 : Int32) ⟨rfl, rfl⟩ v3 v4 hv4 _ n0 gn_x _ _ _ _ _ X_x F_x_records F_x_head F_x_whole F_x_tornBytes F_x_tornHash) d1_10 (by decide) (lenOf pd2 rfl) rfl rfl (by decide) (Nat.le_of_ble_eq_true rfl) (by decide) (by decide) rfl fun v2 T2 h2 L2 Y2 hQ2 => ?_
  obtain ⟨rfl, K2, N2, G2, G2_0, G2_1, G2_2, G2_3, G2_4⟩ := hQ2
  have Kp := Kp.trans K2 (allS (Or.inr gk_x) all0)
  have N := N.app N2
  have Zs := Nat.le_trans Zs K2.1
  have X_x := G2
  have F_x_records := G2_0
  have F_x_head := G2_1
  have F_x_whole := G2_2
  have F_x_tornBytes := G2_3
  have F_x_tornHash := G2_4
  show own_G p e below _ (T2.setTop (mkF m 13 #[.val (.long v0), .second, .val v1, .val (.long v3), .second, .val v4] [(.ref x)]))
  exact own_retA Y2 rfl rfl rfl d1_13 (by decide) (by decide) ⟨x, rfl, gk_x, Kp, N, X_x, F_x_records, F_x_head, F_x_whole, F_x_tornBytes, F_x_tornHash⟩
theorem own_lc (x : Int64) : lcmpW x x = 0 := (lcW x x).trans ((lc_eq x x).mpr rfl)
def Q0 (n0 : Nat) (v : Option Value) (h : Heap) (L : List Loc) : Prop := v = some (.int 1) ∧ Fr n0 L
set_option maxRecDepth 65536 in
set_option maxHeartbeats 4000000 in
theorem c_law (l : Launch) (Z : State) (a0 : Array Value) (hw : ∀ d ∈ tables_1, d.before a0 Z = true) (x0 x1 : Int64) (x2 x3 x4 : Int32) (z : Int32) (h0 : Heap) (n0 : Nat) (Zs : n0 ≤ h0.size) (O : Old Z n0 h0) (Sc : Sta Z Z.heap "java/lang/String" "COMPACT_STRINGS" "Z" (.int z)) (hz : ¬ z = 0) : own_M l x code maxLocals ret tables_1 room_1 Z #[.long x0, .long x1, .int x2, .int x3, .int x4] h0 (Q0 n0) := by
  refine own_met pl0 (Lf := #[.val (.long x0), .second, .val (.long x1), .second, .val (.int x2), .val (.int x3), .val (.int x4), .unset, .unset, .unset, .unset, .unset, .unset]) (fun m => by first | (simp [entryFrame, mkF, argsToLocals, Value.category, maxLocals]; done) | rfl) ?_
  intro p e s m below meth c T Y
  have N := Fr.nil n0
  refine own_iconst 1 Y (2 : Int32) at_0 rfl rfl ?_
  refine own_newP 3 Y (own_wd hw 0 rfl) 2 at_1 (by decide) (by decide) (by decide) (by decide) (by decide) rfl fun T1 h1 ca k_ca Y1 g_ca E1 V_ca => ?_
  have gn_ca : n0 ≤ ca := by rw [g_ca]; exact Zs
  have Zs := Nat.le_trans Zs E1.1
  have O := O.ext E1
  have V_ca : Arv Z h1 ca k_ca .char (2 : Int32) [(.int (0 : Int32)), (.int (0 : Int32))] (.int (0 : Int32)) := V_ca.pad (pad_rep [] _ 2)
  refine own_astore 5 Y1 #[.val (.long x0), .second, .val (.long x1), .second, .val (.int x2), .val (.int x3), .val (.int x4), .val (.ref ca), .unset, .unset, .unset, .unset, .unset] at_3 rfl rfl rfl ?_
  refine own_aload 7 Y1 at_5 rfl rfl rfl ?_
  refine own_iconst 8 Y1 (0 : Int32) at_7 rfl rfl ?_
  refine own_iload 10 Y1 at_8 rfl rfl ?_
  refine own_sipush 13 Y1 (255 : Int32) at_10 rfl rfl ?_
  refine own_iand 14 Y1 at_13 rfl ?_
  refine own_i2c 15 Y1 at_14 rfl ?_
  refine own_stC 16 Y1 V_ca at_15 ⟨by decide, by decide⟩ rfl fun T2 h2 Y2 W2 A2 => ?_
  have N := own_frY Y2 N gn_ca
  have Zs := Nat.le_trans Zs (Nat.le_of_eq W2.size.symm)
  have O := O.wr W2 gn_ca
  have V_ca : Arv Z h2 ca k_ca .char (2 : Int32) [(.int (nar .char (x2 &&& (255 : Int32)).toUInt32.toUInt16.toUInt32.toInt32)), (.int (0 : Int32))] (.int (0 : Int32)) := A2 0 rfl (Nat.le_of_ble_eq_true rfl) (fits_nar_char _)
  obtain ⟨c0, e_c0⟩ : ∃ c : Int32, c = nar .char (x2 &&& (255 : Int32)).toUInt32.toUInt16.toUInt32.toInt32 := ⟨_, rfl⟩
  rw [← e_c0] at V_ca
  have hc0 : ¬ (255 : Int32) < c0 := by rw [e_c0]; exact own_c255 _
  refine own_aload 18 Y2 at_16 rfl rfl rfl ?_
  refine own_iconst 19 Y2 (1 : Int32) at_18 rfl rfl ?_
  refine own_iload 21 Y2 at_19 rfl rfl ?_
  refine own_bipush 23 Y2 (8 : Int32) at_21 rfl rfl ?_
  refine own_iushr 24 Y2 at_23 rfl ?_
  refine own_sipush 27 Y2 (255 : Int32) at_24 rfl rfl ?_
  refine own_iand 28 Y2 at_27 rfl ?_
  refine own_i2c 29 Y2 at_28 rfl ?_
  refine own_stC 30 Y2 V_ca at_29 ⟨by decide, by decide⟩ rfl fun T3 h3 Y3 W3 A3 => ?_
  have N := own_frY Y3 N gn_ca
  have Zs := Nat.le_trans Zs (Nat.le_of_eq W3.size.symm)
  have O := O.wr W3 gn_ca
  have V_ca : Arv Z h3 ca k_ca .char (2 : Int32) [(.int c0), (.int (nar .char ((x2.toUInt32 >>> ((8 : Int32) &&& 31).toUInt32).toInt32 &&& (255 : Int32)).toUInt32.toUInt16.toUInt32.toInt32))] (.int (0 : Int32)) := A3 1 rfl (Nat.le_of_ble_eq_true rfl) (fits_nar_char _)
  obtain ⟨c1, e_c1⟩ : ∃ c : Int32, c = nar .char ((x2.toUInt32 >>> ((8 : Int32) &&& 31).toUInt32).toInt32 &&& (255 : Int32)).toUInt32.toUInt16.toUInt32.toInt32 := ⟨_, rfl⟩
  rw [← e_c1] at V_ca
  have hc1 : ¬ (255 : Int32) < c1 := by rw [e_c1]; exact own_c255 _
  refine own_newO 33 Y3 (own_wd hw 1 rfl) (own_wd hw 2 rfl) (own_wd hw 3 rfl) at_30 (by decide) (by decide) rfl fun T4 h4 s Y4 g_s E4 X_s D4 => ?_
  have ne_ca_s : ca ≠ s := by rw [g_s]; exact Nat.ne_of_lt V_ca.lt
  have gn_s : n0 ≤ s := by rw [g_s]; exact Zs
  have Zs := Nat.le_trans Zs E4.1
  have O := O.ext E4
  have V_ca := V_ca.ext E4
  have F_s_value := D4 (Or.inr (own_wd hw 29 rfl)) (ty := (.array .byte)) (by decide)
  have F_s_coder := D4 (Or.inr (own_wd hw 27 rfl)) (ty := .byte) (by decide)
  refine own_dup 34 Y4 at_33 rfl rfl ?_
  refine own_aload 36 Y4 at_34 rfl rfl rfl ?_
  refine own_callI 39 Y4 [(.ref ca)] [(.ref s)] rfl (own_wd hw 4 rfl) (own_wd hw 5 rfl) (own_wd hw 3 rfl) (own_wd hw 6 rfl) (c_new1_2 l Z a0 hw s ca k_ca c0 c1 hc0 hc1 z _ n0 Zs gn_s (Ne.symm ne_ca_s) O Sc hz _ _ X_s F_s_value F_s_coder V_ca) at_36 (by decide) (lenOf pds5 rfl) rfl rfl (by decide) (Nat.le_of_ble_eq_true rfl) (by decide) (by decide) rfl fun v5 T5 h5 L5 Y5 hQ5 => ?_
  obtain ⟨rfl, K5, N5, G5, -⟩ := hQ5
  have N := N.app N5
  have Zs := Nat.le_trans Zs K5.1
  have O := O.keep K5 (allS gn_s all0)
  have V_ca := V_ca.keep K5 (ninS ne_ca_s nin0)
  have X_s := G5
  show own_G p e below _ (T5.setTop (mkF m 39 #[.val (.long x0), .second, .val (.long x1), .second, .val (.int x2), .val (.int x3), .val (.int x4), .val (.ref ca), .unset, .unset, .unset, .unset, .unset] [(.ref s)]))
  refine own_astore 41 Y5 #[.val (.long x0), .second, .val (.long x1), .second, .val (.int x2), .val (.int x3), .val (.int x4), .val (.ref ca), .val (.ref s), .unset, .unset, .unset, .unset] at_39 rfl rfl rfl ?_
  refine own_iconst 42 Y5 (2 : Int32) at_41 rfl rfl ?_
  refine own_newP 44 Y5 (own_wd hw 0 rfl) 2 at_42 (by decide) (by decide) (by decide) (by decide) (by decide) rfl fun T6 h6 cb k_cb Y6 g_cb E6 V_cb => ?_
  have ne_ca_cb : ca ≠ cb := by rw [g_cb]; exact Nat.ne_of_lt V_ca.lt
  have ne_s_cb : s ≠ cb := by rw [g_cb]; exact Nat.ne_of_lt X_s.lt
  have gn_cb : n0 ≤ cb := by rw [g_cb]; exact Zs
  have Zs := Nat.le_trans Zs E6.1
  have O := O.ext E6
  have V_ca := V_ca.ext E6
  have X_s := X_s.ext E6
  have V_cb : Arv Z h6 cb k_cb .char (2 : Int32) [(.int (0 : Int32)), (.int (0 : Int32))] (.int (0 : Int32)) := V_cb.pad (pad_rep [] _ 2)
  refine own_astore 46 Y6 #[.val (.long x0), .second, .val (.long x1), .second, .val (.int x2), .val (.int x3), .val (.int x4), .val (.ref ca), .val (.ref s), .val (.ref cb), .unset, .unset, .unset] at_44 rfl rfl rfl ?_
  refine own_aload 48 Y6 at_46 rfl rfl rfl ?_
  refine own_iconst 49 Y6 (0 : Int32) at_48 rfl rfl ?_
  refine own_iload 51 Y6 at_49 rfl rfl ?_
  refine own_sipush 54 Y6 (255 : Int32) at_51 rfl rfl ?_
  refine own_iand 55 Y6 at_54 rfl ?_
  refine own_i2c 56 Y6 at_55 rfl ?_
  refine own_stC 57 Y6 V_cb at_56 ⟨by decide, by decide⟩ rfl fun T7 h7 Y7 W7 A7 => ?_
  have N := own_frY Y7 N gn_cb
  have Zs := Nat.le_trans Zs (Nat.le_of_eq W7.size.symm)
  have O := O.wr W7 gn_cb
  have V_ca := V_ca.other W7 ne_ca_cb
  have X_s := X_s.wr W7
  have V_cb : Arv Z h7 cb k_cb .char (2 : Int32) [(.int (nar .char (x3 &&& (255 : Int32)).toUInt32.toUInt16.toUInt32.toInt32)), (.int (0 : Int32))] (.int (0 : Int32)) := A7 0 rfl (Nat.le_of_ble_eq_true rfl) (fits_nar_char _)
  obtain ⟨d0, e_d0⟩ : ∃ c : Int32, c = nar .char (x3 &&& (255 : Int32)).toUInt32.toUInt16.toUInt32.toInt32 := ⟨_, rfl⟩
  rw [← e_d0] at V_cb
  have hd0 : ¬ (255 : Int32) < d0 := by rw [e_d0]; exact own_c255 _
  refine own_aload 59 Y7 at_57 rfl rfl rfl ?_
  refine own_iconst 60 Y7 (1 : Int32) at_59 rfl rfl ?_
  refine own_iload 62 Y7 at_60 rfl rfl ?_
  refine own_bipush 64 Y7 (8 : Int32) at_62 rfl rfl ?_
  refine own_iushr 65 Y7 at_64 rfl ?_
  refine own_sipush 68 Y7 (255 : Int32) at_65 rfl rfl ?_
  refine own_iand 69 Y7 at_68 rfl ?_
  refine own_i2c 70 Y7 at_69 rfl ?_
  refine own_stC 71 Y7 V_cb at_70 ⟨by decide, by decide⟩ rfl fun T8 h8 Y8 W8 A8 => ?_
  have N := own_frY Y8 N gn_cb
  have Zs := Nat.le_trans Zs (Nat.le_of_eq W8.size.symm)
  have O := O.wr W8 gn_cb
  have V_ca := V_ca.other W8 ne_ca_cb
  have X_s := X_s.wr W8
  have V_cb : Arv Z h8 cb k_cb .char (2 : Int32) [(.int d0), (.int (nar .char ((x3.toUInt32 >>> ((8 : Int32) &&& 31).toUInt32).toInt32 &&& (255 : Int32)).toUInt32.toUInt16.toUInt32.toInt32))] (.int (0 : Int32)) := A8 1 rfl (Nat.le_of_ble_eq_true rfl) (fits_nar_char _)
  obtain ⟨d1, e_d1⟩ : ∃ c : Int32, c = nar .char ((x3.toUInt32 >>> ((8 : Int32) &&& 31).toUInt32).toInt32 &&& (255 : Int32)).toUInt32.toUInt16.toUInt32.toInt32 := ⟨_, rfl⟩
  rw [← e_d1] at V_cb
  have hd1 : ¬ (255 : Int32) < d1 := by rw [e_d1]; exact own_c255 _
  refine own_iload 73 Y8 at_71 rfl rfl ?_
  refine own_iconst 74 Y8 (1 : Int32) at_73 rfl rfl ?_
  refine own_iand 75 Y8 at_74 rfl ?_
  refine own_if_eq 82 78 Y8 at_75 (by decide) rfl (fun q75 => ?_) (fun q75 => ?_)
  · refine own_newO 85 Y8 (own_wd hw 1 rfl) (own_wd hw 2 rfl) (own_wd hw 3 rfl) at_82 (by decide) (by decide) rfl fun T9 h9 u Y9 g_u E9 X_u D9 => ?_
    have ne_ca_u : ca ≠ u := by rw [g_u]; exact Nat.ne_of_lt V_ca.lt
    have ne_s_u : s ≠ u := by rw [g_u]; exact Nat.ne_of_lt X_s.lt
    have ne_cb_u : cb ≠ u := by rw [g_u]; exact Nat.ne_of_lt V_cb.lt
    have gn_u : n0 ≤ u := by rw [g_u]; exact Zs
    have Zs := Nat.le_trans Zs E9.1
    have O := O.ext E9
    have V_ca := V_ca.ext E9
    have X_s := X_s.ext E9
    have V_cb := V_cb.ext E9
    have F_u_value := D9 (Or.inr (own_wd hw 29 rfl)) (ty := (.array .byte)) (by decide)
    have F_u_coder := D9 (Or.inr (own_wd hw 27 rfl)) (ty := .byte) (by decide)
    refine own_dup 86 Y9 at_85 rfl rfl ?_
    refine own_aload 88 Y9 at_86 rfl rfl rfl ?_
    refine own_callI 91 Y9 [(.ref cb)] [(.ref u)] rfl (own_wd hw 4 rfl) (own_wd hw 5 rfl) (own_wd hw 3 rfl) (own_wd hw 6 rfl) (c_new1_2 l Z a0 hw u cb k_cb d0 d1 hd0 hd1 z _ n0 Zs gn_u (Ne.symm ne_cb_u) O Sc hz _ _ X_u F_u_value F_u_coder V_cb) at_88 (by decide) (lenOf pds5 rfl) rfl rfl (by decide) (Nat.le_of_ble_eq_true rfl) (by decide) (by decide) rfl fun v10 T10 h10 L10 Y10 hQ10 => ?_
    obtain ⟨rfl, K10, N10, G10, -⟩ := hQ10
    have N := N.app N10
    have Zs := Nat.le_trans Zs K10.1
    have O := O.keep K10 (allS gn_u all0)
    have V_ca := V_ca.keep K10 (ninS ne_ca_u nin0)
    have X_s := X_s.keep K10
    have V_cb := V_cb.keep K10 (ninS ne_cb_u nin0)
    have X_u := G10
    show own_G p e below _ (T10.setTop (mkF m 91 #[.val (.long x0), .second, .val (.long x1), .second, .val (.int x2), .val (.int x3), .val (.int x4), .val (.ref ca), .val (.ref s), .val (.ref cb), .unset, .unset, .unset] [(.ref u)]))
    refine own_astore 93 Y10 #[.val (.long x0), .second, .val (.long x1), .second, .val (.int x2), .val (.int x3), .val (.int x4), .val (.ref ca), .val (.ref s), .val (.ref cb), .val (.ref u), .unset, .unset] at_91 rfl rfl rfl ?_
    refine own_lloadN 94 Y10 at_93 rfl rfl ?_
    refine own_aload 96 Y10 at_94 rfl rfl rfl ?_
    refine own_lloadN 97 Y10 at_96 rfl rfl ?_
    refine own_aload 99 Y10 at_97 rfl rfl rfl ?_
    refine own_callS 102 Y10 [(.long x0), (.ref s), (.long x1), (.ref u)] [] (own_wd hw 30 rfl) (own_wd hw 31 rfl) (own_wd hw 32 rfl) (own_wd hw 33 rfl) (c_torn l Z a0 hw x0 (.ref s) rfl x1 (.ref u) rfl _ n0 Zs) at_99 (by decide) (lenOf pd1 rfl) rfl rfl (by decide) (Nat.le_of_ble_eq_true rfl) (by decide) (by decide) rfl fun v11 T11 h11 L11 Y11 hQ11 => ?_
    obtain ⟨x, rfl, gx, K11, N11, X_x, F_x_records, F_x_head, F_x_whole, F_x_tornBytes, F_x_tornHash⟩ := hQ11
    have N := N.app N11
    have Zs := Nat.le_trans Zs K11.1
    have O := O.keep K11 all0
    have V_ca := V_ca.keep K11 nin0
    have X_s := X_s.keep K11
    have V_cb := V_cb.keep K11 nin0
    have X_u := X_u.keep K11
    show own_G p e below _ (T11.setTop (mkF m 102 #[.val (.long x0), .second, .val (.long x1), .second, .val (.int x2), .val (.int x3), .val (.int x4), .val (.ref ca), .val (.ref s), .val (.ref cb), .val (.ref u), .unset, .unset] [(.ref x)]))
    refine own_astore 104 Y11 #[.val (.long x0), .second, .val (.long x1), .second, .val (.int x2), .val (.int x3), .val (.int x4), .val (.ref ca), .val (.ref s), .val (.ref cb), .val (.ref u), .val (.ref x), .unset] at_102 rfl rfl rfl ?_
    refine own_aload 106 Y11 at_104 rfl rfl rfl ?_
    refine own_callV 109 Y11 [] [] X_x (own_wd hw 50 rfl) (own_wd hw 51 rfl) (notFace_of_selects (args := #[]) (mvT Y11.warm (own_wd hw 53 rfl))) (own_wd hw 53 rfl) (own_wd hw 52 rfl) (own_wd hw 32 rfl) (own_wd hw 54 rfl) (c_isWhole l Z a0 hw x (0 : Int32) rfl _ F_x_whole) at_106 (by decide) (lenOf pdg1 rfl) rfl rfl (by decide) (Nat.le_of_ble_eq_true rfl) (by decide) (by decide) rfl fun v12 T12 h12 L12 Y12 hQ12 => ?_
    obtain ⟨rfl, rfl, rfl⟩ := hQ12
    have N := N.app (Fr.nil n0)
    show own_G p e below _ (T12.setTop (mkF m 109 #[.val (.long x0), .second, .val (.long x1), .second, .val (.int x2), .val (.int x3), .val (.int x4), .val (.ref ca), .val (.ref s), .val (.ref cb), .val (.ref u), .val (.ref x), .unset] [(.int (0 : Int32))]))
    refine own_ifT 114 Y12 at_109 (XT.i0_eq_t (by decide)) (by decide) ?_
    refine own_aload 116 Y12 at_114 rfl rfl rfl ?_
    refine own_callV 119 Y12 [] [] X_x (own_wd hw 55 rfl) (own_wd hw 56 rfl) (notFace_of_selects (args := #[]) (mvT Y12.warm (own_wd hw 58 rfl))) (own_wd hw 58 rfl) (own_wd hw 57 rfl) (own_wd hw 32 rfl) (own_wd hw 59 rfl) (c_records l Z a0 hw x x0 _ F_x_records) at_116 (by decide) (lenOf pdg2 rfl) rfl rfl (by decide) (Nat.le_of_ble_eq_true rfl) (by decide) (by decide) rfl fun v13 T13 h13 L13 Y13 hQ13 => ?_
    obtain ⟨rfl, rfl, rfl⟩ := hQ13
    have N := N.app (Fr.nil n0)
    show own_G p e below _ (T13.setTop (mkF m 119 #[.val (.long x0), .second, .val (.long x1), .second, .val (.int x2), .val (.int x3), .val (.int x4), .val (.ref ca), .val (.ref s), .val (.ref cb), .val (.ref u), .val (.ref x), .unset] [(.long x0)]))
    refine own_lloadN 120 Y13 at_119 rfl rfl ?_
    refine own_lcmp 121 Y13 at_120 rfl ?_
    refine own_ifT 126 Y13 at_121 (XT.i0_eq_t (own_lc _)) (by decide) ?_
    refine own_aload 128 Y13 at_126 rfl rfl rfl ?_
    refine own_aload 130 Y13 at_128 rfl rfl rfl ?_
    refine own_callV 133 Y13 [] [(.ref s)] X_x (own_wd hw 60 rfl) (own_wd hw 61 rfl) (notFace_of_selects (args := #[]) (mvT Y13.warm (own_wd hw 63 rfl))) (own_wd hw 63 rfl) (own_wd hw 62 rfl) (own_wd hw 32 rfl) (own_wd hw 64 rfl) (c_head l Z a0 hw x (.ref s) rfl _ F_x_head) at_130 (by decide) (lenOf pdg3 rfl) rfl rfl (by decide) (Nat.le_of_ble_eq_true rfl) (by decide) (by decide) rfl fun v14 T14 h14 L14 Y14 hQ14 => ?_
    obtain ⟨rfl, rfl, rfl⟩ := hQ14
    have N := N.app (Fr.nil n0)
    show own_G p e below _ (T14.setTop (mkF m 133 #[.val (.long x0), .second, .val (.long x1), .second, .val (.int x2), .val (.int x3), .val (.int x4), .val (.ref ca), .val (.ref s), .val (.ref cb), .val (.ref u), .val (.ref x), .unset] [(.ref s), (.ref s)]))
    refine own_callV 136 Y14 [(.ref s)] [] X_s (own_wd hw 65 rfl) (own_wd hw 66 rfl) (notFace_of_selects (args := #[]) (mvT Y14.warm (own_wd hw 68 rfl))) (own_wd hw 68 rfl) (own_wd hw 67 rfl) (own_wd hw 3 rfl) (own_wd hw 69 rfl) (c_eq l Z a0 hw s _) at_133 (by decide) (lenOf pd4 rfl) rfl rfl (by decide) (Nat.le_of_ble_eq_true rfl) (by decide) (by decide) rfl fun v15 T15 h15 L15 Y15 hQ15 => ?_
    obtain ⟨rfl, rfl, rfl⟩ := hQ15
    have N := N.app (Fr.nil n0)
    show own_G p e below _ (T15.setTop (mkF m 136 #[.val (.long x0), .second, .val (.long x1), .second, .val (.int x2), .val (.int x3), .val (.int x4), .val (.ref ca), .val (.ref s), .val (.ref cb), .val (.ref u), .val (.ref x), .unset] [(.int (1 : Int32))]))
    refine own_ifT 141 Y15 at_136 (XT.i0_ne_t (by decide)) (by decide) ?_
    refine own_aload 143 Y15 at_141 rfl rfl rfl ?_
    refine own_callV 146 Y15 [] [] X_x (own_wd hw 70 rfl) (own_wd hw 71 rfl) (notFace_of_selects (args := #[]) (mvT Y15.warm (own_wd hw 73 rfl))) (own_wd hw 73 rfl) (own_wd hw 72 rfl) (own_wd hw 32 rfl) (own_wd hw 74 rfl) (c_bl l Z a0 hw x x0 _ F_x_whole F_x_records) at_143 (by decide) (lenOf pd3 rfl) rfl rfl (by decide) (Nat.le_of_ble_eq_true rfl) (by decide) (by decide) rfl fun v16 T16 h16 L16 Y16 hQ16 => ?_
    obtain ⟨rfl, rfl, rfl⟩ := hQ16
    have N := N.app (Fr.nil n0)
    show own_G p e below _ (T16.setTop (mkF m 146 #[.val (.long x0), .second, .val (.long x1), .second, .val (.int x2), .val (.int x3), .val (.int x4), .val (.ref ca), .val (.ref s), .val (.ref cb), .val (.ref u), .val (.ref x), .unset] [(.long (x0 + (1 : Int64)))]))
    refine own_lloadN 147 Y16 at_146 rfl rfl ?_
    refine own_lconst 148 Y16 (1 : Int64) at_147 rfl rfl ?_
    refine own_ladd 149 Y16 at_148 rfl ?_
    refine own_lcmp 150 Y16 at_149 rfl ?_
    refine own_ifT 155 Y16 at_150 (XT.i0_eq_t (own_lc _)) (by decide) ?_
    refine own_aload 157 Y16 at_155 rfl rfl rfl ?_
    refine own_callV 160 Y16 [] [] X_x (own_wd hw 75 rfl) (own_wd hw 76 rfl) (notFace_of_selects (args := #[]) (mvT Y16.warm (own_wd hw 78 rfl))) (own_wd hw 78 rfl) (own_wd hw 77 rfl) (own_wd hw 32 rfl) (own_wd hw 79 rfl) (c_tornBytes l Z a0 hw x x1 _ F_x_tornBytes) at_157 (by decide) (lenOf pdg4 rfl) rfl rfl (by decide) (Nat.le_of_ble_eq_true rfl) (by decide) (by decide) rfl fun v17 T17 h17 L17 Y17 hQ17 => ?_
    obtain ⟨rfl, rfl, rfl⟩ := hQ17
    have N := N.app (Fr.nil n0)
    show own_G p e below _ (T17.setTop (mkF m 160 #[.val (.long x0), .second, .val (.long x1), .second, .val (.int x2), .val (.int x3), .val (.int x4), .val (.ref ca), .val (.ref s), .val (.ref cb), .val (.ref u), .val (.ref x), .unset] [(.long x1)]))
    refine own_lloadN 161 Y17 at_160 rfl rfl ?_
    refine own_lcmp 162 Y17 at_161 rfl ?_
    refine own_ifT 167 Y17 at_162 (XT.i0_eq_t (own_lc _)) (by decide) ?_
    refine own_aload 169 Y17 at_167 rfl rfl rfl ?_
    refine own_callV 172 Y17 [] [] X_x (own_wd hw 80 rfl) (own_wd hw 81 rfl) (notFace_of_selects (args := #[]) (mvT Y17.warm (own_wd hw 83 rfl))) (own_wd hw 83 rfl) (own_wd hw 82 rfl) (own_wd hw 32 rfl) (own_wd hw 84 rfl) (c_tornHash l Z a0 hw x (.ref u) rfl _ F_x_tornHash) at_169 (by decide) (lenOf pdg5 rfl) rfl rfl (by decide) (Nat.le_of_ble_eq_true rfl) (by decide) (by decide) rfl fun v18 T18 h18 L18 Y18 hQ18 => ?_
    obtain ⟨rfl, rfl, rfl⟩ := hQ18
    have N := N.app (Fr.nil n0)
    show own_G p e below _ (T18.setTop (mkF m 172 #[.val (.long x0), .second, .val (.long x1), .second, .val (.int x2), .val (.int x3), .val (.int x4), .val (.ref ca), .val (.ref s), .val (.ref cb), .val (.ref u), .val (.ref x), .unset] [(.ref u)]))
    refine own_astore 174 Y18 #[.val (.long x0), .second, .val (.long x1), .second, .val (.int x2), .val (.int x3), .val (.int x4), .val (.ref ca), .val (.ref s), .val (.ref cb), .val (.ref u), .val (.ref x), .val (.ref u)] at_172 rfl rfl rfl ?_
    refine own_aload 176 Y18 at_174 rfl rfl rfl ?_
    refine own_ifnonnullT 190 Y18 at_176 (by decide) ?_
    refine own_aload 192 Y18 at_190 rfl rfl rfl ?_
    refine own_aload 194 Y18 at_192 rfl rfl rfl ?_
    refine own_callV 197 Y18 [(.ref u)] [] X_u (own_wd hw 65 rfl) (own_wd hw 66 rfl) (notFace_of_selects (args := #[]) (mvT Y18.warm (own_wd hw 68 rfl))) (own_wd hw 68 rfl) (own_wd hw 67 rfl) (own_wd hw 3 rfl) (own_wd hw 69 rfl) (c_eq l Z a0 hw u _) at_194 (by decide) (lenOf pd4 rfl) rfl rfl (by decide) (Nat.le_of_ble_eq_true rfl) (by decide) (by decide) rfl fun v19 T19 h19 L19 Y19 hQ19 => ?_
    obtain ⟨rfl, rfl, rfl⟩ := hQ19
    have N := N.app (Fr.nil n0)
    show own_G p e below _ (T19.setTop (mkF m 197 #[.val (.long x0), .second, .val (.long x1), .second, .val (.int x2), .val (.int x3), .val (.int x4), .val (.ref ca), .val (.ref s), .val (.ref cb), .val (.ref u), .val (.ref x), .val (.ref u)] [(.int (1 : Int32))]))
    exact own_retN Y19 (t := .boolean) rfl (by simp) at_197 (by decide) (by decide) ⟨rfl, N⟩
  · refine own_aconst_null 79 Y8 at_78 rfl ?_
    refine own_goto 91 Y8 at_79 (by decide) ?_
    refine own_astore 93 Y8 #[.val (.long x0), .second, .val (.long x1), .second, .val (.int x2), .val (.int x3), .val (.int x4), .val (.ref ca), .val (.ref s), .val (.ref cb), .val .null, .unset, .unset] at_91 rfl rfl rfl ?_
    refine own_lloadN 94 Y8 at_93 rfl rfl ?_
    refine own_aload 96 Y8 at_94 rfl rfl rfl ?_
    refine own_lloadN 97 Y8 at_96 rfl rfl ?_
    refine own_aload 99 Y8 at_97 rfl rfl rfl ?_
    refine own_callS 102 Y8 [(.long x0), (.ref s), (.long x1), .null] [] (own_wd hw 30 rfl) (own_wd hw 31 rfl) (own_wd hw 32 rfl) (own_wd hw 33 rfl) (c_torn l Z a0 hw x0 (.ref s) rfl x1 .null rfl _ n0 Zs) at_99 (by decide) (lenOf pd1 rfl) rfl rfl (by decide) (Nat.le_of_ble_eq_true rfl) (by decide) (by decide) rfl fun v20 T20 h20 L20 Y20 hQ20 => ?_
    obtain ⟨x, rfl, gx, K20, N20, X_x, F_x_records, F_x_head, F_x_whole, F_x_tornBytes, F_x_tornHash⟩ := hQ20
    have N := N.app N20
    have Zs := Nat.le_trans Zs K20.1
    have O := O.keep K20 all0
    have V_ca := V_ca.keep K20 nin0
    have X_s := X_s.keep K20
    have V_cb := V_cb.keep K20 nin0
    show own_G p e below _ (T20.setTop (mkF m 102 #[.val (.long x0), .second, .val (.long x1), .second, .val (.int x2), .val (.int x3), .val (.int x4), .val (.ref ca), .val (.ref s), .val (.ref cb), .val .null, .unset, .unset] [(.ref x)]))
    refine own_astore 104 Y20 #[.val (.long x0), .second, .val (.long x1), .second, .val (.int x2), .val (.int x3), .val (.int x4), .val (.ref ca), .val (.ref s), .val (.ref cb), .val .null, .val (.ref x), .unset] at_102 rfl rfl rfl ?_
    refine own_aload 106 Y20 at_104 rfl rfl rfl ?_
    refine own_callV 109 Y20 [] [] X_x (own_wd hw 50 rfl) (own_wd hw 51 rfl) (notFace_of_selects (args := #[]) (mvT Y20.warm (own_wd hw 53 rfl))) (own_wd hw 53 rfl) (own_wd hw 52 rfl) (own_wd hw 32 rfl) (own_wd hw 54 rfl) (c_isWhole l Z a0 hw x (0 : Int32) rfl _ F_x_whole) at_106 (by decide) (lenOf pdg1 rfl) rfl rfl (by decide) (Nat.le_of_ble_eq_true rfl) (by decide) (by decide) rfl fun v21 T21 h21 L21 Y21 hQ21 => ?_
    obtain ⟨rfl, rfl, rfl⟩ := hQ21
    have N := N.app (Fr.nil n0)
    show own_G p e below _ (T21.setTop (mkF m 109 #[.val (.long x0), .second, .val (.long x1), .second, .val (.int x2), .val (.int x3), .val (.int x4), .val (.ref ca), .val (.ref s), .val (.ref cb), .val .null, .val (.ref x), .unset] [(.int (0 : Int32))]))
    refine own_ifT 114 Y21 at_109 (XT.i0_eq_t (by decide)) (by decide) ?_
    refine own_aload 116 Y21 at_114 rfl rfl rfl ?_
    refine own_callV 119 Y21 [] [] X_x (own_wd hw 55 rfl) (own_wd hw 56 rfl) (notFace_of_selects (args := #[]) (mvT Y21.warm (own_wd hw 58 rfl))) (own_wd hw 58 rfl) (own_wd hw 57 rfl) (own_wd hw 32 rfl) (own_wd hw 59 rfl) (c_records l Z a0 hw x x0 _ F_x_records) at_116 (by decide) (lenOf pdg2 rfl) rfl rfl (by decide) (Nat.le_of_ble_eq_true rfl) (by decide) (by decide) rfl fun v22 T22 h22 L22 Y22 hQ22 => ?_
    obtain ⟨rfl, rfl, rfl⟩ := hQ22
    have N := N.app (Fr.nil n0)
    show own_G p e below _ (T22.setTop (mkF m 119 #[.val (.long x0), .second, .val (.long x1), .second, .val (.int x2), .val (.int x3), .val (.int x4), .val (.ref ca), .val (.ref s), .val (.ref cb), .val .null, .val (.ref x), .unset] [(.long x0)]))
    refine own_lloadN 120 Y22 at_119 rfl rfl ?_
    refine own_lcmp 121 Y22 at_120 rfl ?_
    refine own_ifT 126 Y22 at_121 (XT.i0_eq_t (own_lc _)) (by decide) ?_
    refine own_aload 128 Y22 at_126 rfl rfl rfl ?_
    refine own_aload 130 Y22 at_128 rfl rfl rfl ?_
    refine own_callV 133 Y22 [] [(.ref s)] X_x (own_wd hw 60 rfl) (own_wd hw 61 rfl) (notFace_of_selects (args := #[]) (mvT Y22.warm (own_wd hw 63 rfl))) (own_wd hw 63 rfl) (own_wd hw 62 rfl) (own_wd hw 32 rfl) (own_wd hw 64 rfl) (c_head l Z a0 hw x (.ref s) rfl _ F_x_head) at_130 (by decide) (lenOf pdg3 rfl) rfl rfl (by decide) (Nat.le_of_ble_eq_true rfl) (by decide) (by decide) rfl fun v23 T23 h23 L23 Y23 hQ23 => ?_
    obtain ⟨rfl, rfl, rfl⟩ := hQ23
    have N := N.app (Fr.nil n0)
    show own_G p e below _ (T23.setTop (mkF m 133 #[.val (.long x0), .second, .val (.long x1), .second, .val (.int x2), .val (.int x3), .val (.int x4), .val (.ref ca), .val (.ref s), .val (.ref cb), .val .null, .val (.ref x), .unset] [(.ref s), (.ref s)]))
    refine own_callV 136 Y23 [(.ref s)] [] X_s (own_wd hw 65 rfl) (own_wd hw 66 rfl) (notFace_of_selects (args := #[]) (mvT Y23.warm (own_wd hw 68 rfl))) (own_wd hw 68 rfl) (own_wd hw 67 rfl) (own_wd hw 3 rfl) (own_wd hw 69 rfl) (c_eq l Z a0 hw s _) at_133 (by decide) (lenOf pd4 rfl) rfl rfl (by decide) (Nat.le_of_ble_eq_true rfl) (by decide) (by decide) rfl fun v24 T24 h24 L24 Y24 hQ24 => ?_
    obtain ⟨rfl, rfl, rfl⟩ := hQ24
    have N := N.app (Fr.nil n0)
    show own_G p e below _ (T24.setTop (mkF m 136 #[.val (.long x0), .second, .val (.long x1), .second, .val (.int x2), .val (.int x3), .val (.int x4), .val (.ref ca), .val (.ref s), .val (.ref cb), .val .null, .val (.ref x), .unset] [(.int (1 : Int32))]))
    refine own_ifT 141 Y24 at_136 (XT.i0_ne_t (by decide)) (by decide) ?_
    refine own_aload 143 Y24 at_141 rfl rfl rfl ?_
    refine own_callV 146 Y24 [] [] X_x (own_wd hw 70 rfl) (own_wd hw 71 rfl) (notFace_of_selects (args := #[]) (mvT Y24.warm (own_wd hw 73 rfl))) (own_wd hw 73 rfl) (own_wd hw 72 rfl) (own_wd hw 32 rfl) (own_wd hw 74 rfl) (c_bl l Z a0 hw x x0 _ F_x_whole F_x_records) at_143 (by decide) (lenOf pd3 rfl) rfl rfl (by decide) (Nat.le_of_ble_eq_true rfl) (by decide) (by decide) rfl fun v25 T25 h25 L25 Y25 hQ25 => ?_
    obtain ⟨rfl, rfl, rfl⟩ := hQ25
    have N := N.app (Fr.nil n0)
    show own_G p e below _ (T25.setTop (mkF m 146 #[.val (.long x0), .second, .val (.long x1), .second, .val (.int x2), .val (.int x3), .val (.int x4), .val (.ref ca), .val (.ref s), .val (.ref cb), .val .null, .val (.ref x), .unset] [(.long (x0 + (1 : Int64)))]))
    refine own_lloadN 147 Y25 at_146 rfl rfl ?_
    refine own_lconst 148 Y25 (1 : Int64) at_147 rfl rfl ?_
    refine own_ladd 149 Y25 at_148 rfl ?_
    refine own_lcmp 150 Y25 at_149 rfl ?_
    refine own_ifT 155 Y25 at_150 (XT.i0_eq_t (own_lc _)) (by decide) ?_
    refine own_aload 157 Y25 at_155 rfl rfl rfl ?_
    refine own_callV 160 Y25 [] [] X_x (own_wd hw 75 rfl) (own_wd hw 76 rfl) (notFace_of_selects (args := #[]) (mvT Y25.warm (own_wd hw 78 rfl))) (own_wd hw 78 rfl) (own_wd hw 77 rfl) (own_wd hw 32 rfl) (own_wd hw 79 rfl) (c_tornBytes l Z a0 hw x x1 _ F_x_tornBytes) at_157 (by decide) (lenOf pdg4 rfl) rfl rfl (by decide) (Nat.le_of_ble_eq_true rfl) (by decide) (by decide) rfl fun v26 T26 h26 L26 Y26 hQ26 => ?_
    obtain ⟨rfl, rfl, rfl⟩ := hQ26
    have N := N.app (Fr.nil n0)
    show own_G p e below _ (T26.setTop (mkF m 160 #[.val (.long x0), .second, .val (.long x1), .second, .val (.int x2), .val (.int x3), .val (.int x4), .val (.ref ca), .val (.ref s), .val (.ref cb), .val .null, .val (.ref x), .unset] [(.long x1)]))
    refine own_lloadN 161 Y26 at_160 rfl rfl ?_
    refine own_lcmp 162 Y26 at_161 rfl ?_
    refine own_ifT 167 Y26 at_162 (XT.i0_eq_t (own_lc _)) (by decide) ?_
    refine own_aload 169 Y26 at_167 rfl rfl rfl ?_
    refine own_callV 172 Y26 [] [] X_x (own_wd hw 80 rfl) (own_wd hw 81 rfl) (notFace_of_selects (args := #[]) (mvT Y26.warm (own_wd hw 83 rfl))) (own_wd hw 83 rfl) (own_wd hw 82 rfl) (own_wd hw 32 rfl) (own_wd hw 84 rfl) (c_tornHash l Z a0 hw x .null rfl _ F_x_tornHash) at_169 (by decide) (lenOf pdg5 rfl) rfl rfl (by decide) (Nat.le_of_ble_eq_true rfl) (by decide) (by decide) rfl fun v27 T27 h27 L27 Y27 hQ27 => ?_
    obtain ⟨rfl, rfl, rfl⟩ := hQ27
    have N := N.app (Fr.nil n0)
    show own_G p e below _ (T27.setTop (mkF m 172 #[.val (.long x0), .second, .val (.long x1), .second, .val (.int x2), .val (.int x3), .val (.int x4), .val (.ref ca), .val (.ref s), .val (.ref cb), .val .null, .val (.ref x), .unset] [.null]))
    refine own_astore 174 Y27 #[.val (.long x0), .second, .val (.long x1), .second, .val (.int x2), .val (.int x3), .val (.int x4), .val (.ref ca), .val (.ref s), .val (.ref cb), .val .null, .val (.ref x), .val .null] at_172 rfl rfl rfl ?_
    refine own_aload 176 Y27 at_174 rfl rfl rfl ?_
    refine own_ifnonnullF 179 Y27 at_176 rfl ?_
    refine own_aload 181 Y27 at_179 rfl rfl rfl ?_
    refine own_ifnonnullF 184 Y27 at_181 rfl ?_
    refine own_iconst 185 Y27 (1 : Int32) at_184 rfl rfl ?_
    refine own_goto 189 Y27 at_185 (by decide) ?_
    exact own_retN Y27 (t := .boolean) rfl (by simp) at_189 (by decide) (by decide) ⟨rfl, N⟩
set_option maxRecDepth 65536 in
set_option maxHeartbeats 40000000 in
theorem comes_1 {Post : Tables → Env → Array Value → State → Outcome → State → Prop} (hpost : ∀ tb e args s v u, (limb_1_1.after args s (.returned v) u = true ∧ limb_1_2.after args s (.returned v) u = true ∧ True) → FrameEnd s (.returned v) u (Jvm.fieldLocs frame_1_writes args s ++ Jvm.arrayLocs frame_1_arrays args s ++ Jvm.staticLocs frame_1_statics s) 24 128 → Post tb e args s (.returned v) u) :
    ArmFor flags0 classFile x code maxLocals ret World_1 tables_1 room_1 Calls_1 rest_1 Pre_1 Post := by
  intro l hfl _ _ p e ha hc hk s m args below hf hA hF happ hP
  obtain ⟨hcalls, hrest, hpre⟩ := hP
  obtain ⟨-, -, -, hnamed, -, -, -, hat⟩ := (Spec.applies_iff hf).mp happ
  obtain ⟨hg, hn⟩ := and_e (Cond.before_iff.mp (show (Jvm.Cond.and given_1 narrow_1).before args s = true from hpre))
  obtain ⟨g0, hg⟩ := and_e hg
  obtain ⟨g1, hg⟩ := and_e hg
  obtain ⟨g2, hg⟩ := and_e hg
  obtain ⟨g3, hg⟩ := and_e hg
  obtain ⟨g4, hg⟩ := and_e hg
  have g5 := hg
  obtain ⟨w0, w1, w2, w3, w4, rfl⟩ : ∃ w0 w1 w2 w3 w4 : Value, args = #[w0, w1, w2, w3, w4] := by
    have hs : args.size = 5 := by simpa [Cond.value, given_1] using g0
    obtain ⟨L⟩ := args
    match L, hs with
    | [w0, w1, w2, w3, w4], _ => exact ⟨w0, w1, w2, w3, w4, rfl⟩
  have hw := fun d (hd : d ∈ tables_1) => atoms_spec (ws := Jvm.Cond.code x code maxLocals ret :: tables_1) hat d (List.mem_cons_of_mem _ hd)
  have hfit : Fit s := fun {y c} hc i hi => by
    obtain ⟨ha, rfl⟩ := Array.getElem?_eq_some_iff.mp hc
    have q := List.all_eq_true.mp ((Array.all_eq_true_iff_forall_mem.mp hF) _ (Array.getElem_mem ha)) i (List.mem_range.mpr hi)
    simpa [Array.getElem?_eq_getElem hi] using q
  obtain ⟨hsets, hown0⟩ := atoms_of _ (rest_1_c_eq ▸ (show rest_1_c.before _ s = true from hrest))
  have hr0 := Cond.before_iff.mp hown0
  obtain ⟨i0, ei0⟩ := isL_v g1
  obtain rfl : w0 = (.long i0) := Option.some.inj ei0
  obtain ⟨i1, ei1⟩ := isL_v g2
  obtain rfl : w1 = (.long i1) := Option.some.inj ei1
  obtain ⟨i2, ei2⟩ := is_v g3
  obtain rfl : w2 = (.int i2) := Option.some.inj ei2
  obtain ⟨i3, ei3⟩ := is_v g4
  obtain rfl : w3 = (.int i3) := Option.some.inj ei3
  obtain ⟨i4, ei4⟩ := is_v g5
  obtain rfl : w4 = (.int i4) := Option.some.inj ei4
  obtain ⟨z, ez⟩ := is_v (Cond.before_iff.mp (hsets _ (List.mem_of_getElem? (i := 1) rfl)))
  have Sc : Sta s s.heap "java/lang/String" "COMPACT_STRINGS" "Z" (.int z) := Sta.start ez (Or.inl (hsets _ (List.mem_of_getElem? (i := 0) rfl)))
  have hz : ¬ z = 0 := gotF (Cond.eq_ints ez (Term.int_eval 0)) (not_v (Cond.before_iff.mp (hsets _ (List.mem_of_getElem? (i := 2) rfl))))
  obtain ⟨n, o, h1, h2, h3, _, L, rfl, ⟨rfl, N⟩, hq⟩ := (c_law l s _ hw i0 i1 i2 i3 i4 z s.heap s.heap.size (Nat.le_refl _) (Old.start s) Sc hz) p e ha hc hk s m _ below hf ((Spec.applies_iff_loose hf).mp happ).1 ⟨rfl, State.Warmed39.refl s, rfl⟩ trivial
  refine ⟨n, _, h1, h2, h3, hpost _ _ _ _ _ _ ⟨Cond.after_iff.mpr rfl, Cond.after_iff.mpr (eq_i res_at (Term.int_eval (1)) rfl), trivial⟩ ⟨hq.1, hq.2.1, (hq.2.2.sift fun y hy => Or.inr (N y hy)).mono (by decide) (by decide)⟩⟩
theorem main_1_1 : Claimed_1_1 := comes_1 fun _ _ _ _ _ _ h hF => ⟨h.1, hF⟩
theorem main_1_2 : Claimed_1_2 := comes_1 fun _ _ _ _ _ _ h hF => ⟨h.2.1, hF⟩
end Jvm.Pilot.@@N@@
namespace Jvm.Pilot.@@N@@
open Jvm Jvm.ClassFile Sem Op Lib Jvm.Free Jvm.Stand Jvm.Pilot.@@N@@.Jvm.D
/-! MADE BY PROGRAM (witnessworld.py) out of the Statement's table words and the real class files: 20 classes; the members and pool entries that the words name. The judged class is class 1, her method 1. -/
namespace start1
open Jvm.ClassFile
def u (s : String) : CpInfo := .utf8 (stringToUtf16 s)
/-- a pool by its gaps: so many unusable entries, then the entry; so many at the end -/
def gap : Nat → List CpInfo → List CpInfo
  | 0, r => r
  | n + 1, r => .unusable :: gap n r
def poolList (es : List (Nat × CpInfo)) (last : Nat) : List CpInfo := es.foldr (fun e r => gap e.1 (e.2 :: r)) (gap last [])
def pool (es : List (Nat × CpInfo)) (last : Nat) : Array CpInfo := ⟨poolList es last⟩
def fileOf (pool : Array CpInfo) (this : Nat) (attrs : Array Attribute := #[]) (ms : Array MethodInfo := #[]) (fl : Nat := 33) (sup : Nat := 0) (ifs : Array Nat := #[]) (fds : Array FieldInfo := #[]) : ClassFile where
  minorVersion := 0
  majorVersion := 65
  constantPool := pool
  accessFlags := fl
  thisClass := this
  superClass := sup
  interfaces := ifs
  fields := fds
  methods := ms
  attributes := attrs
def plain (name : String) (sup : Option ClassId) : Class where
  name := name
  kind := .ordinary
  loader := none
  accessFlags := 33
  super := sup
  interfaces := #[]
  cf := none
  fields := #[]
  methods := #[]
  instanceTypes := #[]
  staticTypes := #[]
  resolved := #[]
  callSites := []
  init := .initialized
  statics := none
  mirror := none

def pool0 : Array CpInfo := pool [(5, u "<init>"), (0, u "()V"), (1, .class_ 10), (1, u "java/lang/Object")] 113

def k0c0 : Code := { maxStack := 0, maxLocals := 1, code := object_method_1_code, exceptionTable := #[], attributes := #[] }
def k0m0 : Method := { name := "<init>", desc := "()V", sig := { parameters := [], returnType := none }, accessFlags := 1, code := some k0c0 }
/-- java/lang/Object -/
def k0 : Class := { plain "java/lang/Object" none with
  accessFlags := 33
  interfaces := #[]
  cf := some (fileOf pool0 8 #[] #[{ accessFlags := 1, nameIndex := 5, descriptorIndex := 6, attributes := #[] }] 33 0 #[] #[])
  fields := #[]
  methods := #[k0m0]
  instanceTypes := #[]
  staticTypes := #[]
  resolved := Array.replicate 124 none
  statics := none }

def pool1 : Array CpInfo := pool [(2, .class_ 4), (1, u "java/lang/Object"), (0, u "<init>"), (0, u "()V"), (0, .class_ 8), (0, u "java/lang/String"), (0, .methodref 7 10), (0, .nameAndType 5 11), (0, u "([C)V"), (0, .methodref 13 14), (0, .class_ 15), (0, .nameAndType 16 17), (0, u "com/example/nachweis/nachweis/TrailState"), (0, u "torn"), (0, u "(JLjava/lang/String;JLjava/lang/String;)Lcom/example/nachweis/nachweis/TrailState;"), (0, .methodref 13 19), (0, .nameAndType 20 21), (0, u "isWhole"), (0, u "()Z"), (0, .methodref 13 23), (0, .nameAndType 24 25), (0, u "records"), (0, u "()J"), (0, .methodref 13 27), (0, .nameAndType 28 29), (0, u "head"), (0, u "()Ljava/lang/String;"), (0, .methodref 7 31), (0, .nameAndType 32 33), (0, u "equals"), (0, u "(Ljava/lang/Object;)Z"), (0, .methodref 13 35), (0, .nameAndType 36 25), (0, u "brokenLine"), (0, .methodref 13 38), (0, .nameAndType 39 25), (0, u "tornBytes"), (0, .methodref 13 41), (0, .nameAndType 42 29), (0, u "tornHash"), (0, .class_ 44), (0, u "com/example/nachweis/nachweis/TrailStateTornPinLaw"), (2, u "law"), (0, u "(JJIII)Z")] 5

def k1m0 : Method := { name := "<init>", desc := "()V", sig := { parameters := [], returnType := none }, accessFlags := 1, code := none }
def k1c1 : Code := { maxStack := 6, maxLocals := 13, code := code, exceptionTable := #[], attributes := #[] }
def k1m1 : Method := { name := "law", desc := "(JJIII)Z", sig := { parameters := [.long, .long, .int, .int, .int], returnType := some .boolean }, accessFlags := 9, code := some k1c1 }
/-- com/example/nachweis/nachweis/TrailStateTornPinLaw -/
def k1 : Class := { plain "com/example/nachweis/nachweis/TrailStateTornPinLaw" (some 0) with
  accessFlags := 49
  interfaces := #[]
  cf := some (fileOf pool1 43 #[] #[{ accessFlags := 1, nameIndex := 5, descriptorIndex := 6, attributes := #[] }, { accessFlags := 9, nameIndex := 47, descriptorIndex := 48, attributes := #[] }] 49 2 #[] #[])
  fields := #[]
  methods := #[k1m0, k1m1]
  instanceTypes := #[]
  staticTypes := #[]
  resolved := Array.replicate 54 none
  statics := none }

def pool2 : Array CpInfo := pool [(1, .class_ 2), (0, u "java/io/Serializable"), (0, .class_ 4), (0, u "java/lang/Object")] 2

/-- java/io/Serializable -/
def k2 : Class := { plain "java/io/Serializable" (some 0) with
  accessFlags := 1537
  interfaces := #[]
  cf := some (fileOf pool2 1 #[] #[] 1537 3 #[] #[])
  fields := #[]
  methods := #[]
  instanceTypes := #[]
  staticTypes := #[]
  resolved := Array.replicate 7 none
  statics := none }

def pool3 : Array CpInfo := pool [(1, .class_ 2), (0, u "java/lang/Comparable"), (0, .class_ 4), (0, u "java/lang/Object")] 7

/-- java/lang/Comparable -/
def k3 : Class := { plain "java/lang/Comparable" (some 0) with
  accessFlags := 1537
  interfaces := #[]
  cf := some (fileOf pool3 1 #[] #[] 1537 3 #[] #[])
  fields := #[]
  methods := #[]
  instanceTypes := #[]
  staticTypes := #[]
  resolved := Array.replicate 12 none
  statics := none }

def pool4 : Array CpInfo := pool [(2, .class_ 4), (1, u "java/lang/CharSequence"), (42, .class_ 48), (0, u "java/lang/CharSequence$1CodePointIterator"), (10, .class_ 60), (0, u "java/lang/CharSequence$1CharIterator"), (5, .class_ 67), (0, u "java/lang/Object")] 63

/-- java/lang/CharSequence -/
def k4 : Class := { plain "java/lang/CharSequence" (some 0) with
  accessFlags := 1537
  interfaces := #[]
  cf := some (fileOf pool4 2 #[.nestMembers #[47, 59]] #[] 1537 66 #[] #[])
  fields := #[]
  methods := #[]
  instanceTypes := #[]
  staticTypes := #[]
  resolved := Array.replicate 131 none
  statics := none }

def pool5 : Array CpInfo := pool [(1, .class_ 2), (0, u "java/lang/constant/Constable"), (0, .class_ 4), (0, u "java/lang/Object")] 6

/-- java/lang/constant/Constable -/
def k5 : Class := { plain "java/lang/constant/Constable" (some 0) with
  accessFlags := 1537
  interfaces := #[]
  cf := some (fileOf pool5 1 #[] #[] 1537 3 #[] #[])
  fields := #[]
  methods := #[]
  instanceTypes := #[]
  staticTypes := #[]
  resolved := Array.replicate 11 none
  statics := none }

def pool6 : Array CpInfo := pool [(1, .class_ 2), (0, u "java/lang/constant/ConstantDesc"), (0, .class_ 4), (0, u "java/lang/Object")] 32

/-- java/lang/constant/ConstantDesc -/
def k6 : Class := { plain "java/lang/constant/ConstantDesc" (some 0) with
  accessFlags := 1537
  interfaces := #[]
  cf := some (fileOf pool6 1 #[] #[] 1537 3 #[] #[])
  fields := #[]
  methods := #[]
  instanceTypes := #[]
  staticTypes := #[]
  resolved := Array.replicate 37 none
  statics := none }

def pool7 : Array CpInfo := pool [(1, .methodref 2 3), (0, .class_ 4), (0, .nameAndType 5 6), (0, u "java/lang/Object"), (0, u "<init>"), (0, u "()V"), (2, .fieldref 10 11), (0, .class_ 12), (0, .nameAndType 13 14), (0, u "java/lang/String"), (0, u "value"), (0, u "[B"), (0, .fieldref 10 16), (0, .nameAndType 17 18), (0, u "coder"), (0, u "B"), (2, u "hash"), (0, u "I"), (2, u "hashIsZero"), (0, u "Z"), (0, .methodref 10 28), (0, .nameAndType 5 29), (0, u "([CIILjava/lang/Void;)V"), (8, .fieldref 10 39), (0, .nameAndType 40 26), (0, u "COMPACT_STRINGS"), (1, .class_ 44), (1, u "java/lang/StringUTF16"), (0, u "compress"), (1, .methodref 42 48), (0, .nameAndType 49 50), (0, u "coderFromArrayLen"), (0, u "([BI)B"), (126, .methodref 42 178), (0, .nameAndType 45 179), (0, u "([CII)[B"), (363, u "equals"), (29, u "(Ljava/lang/Object;)Z"), (1, .class_ 576), (0, u "java/lang/CharSequence"), (22, u "CASE_INSENSITIVE_ORDER"), (0, u "Ljava/util/Comparator;"), (409, u "([C)V"), (90, u "serialPersistentFields"), (0, u "[Ljava/io/ObjectStreamField;"), (0, .class_ 1104), (0, u "java/lang/String$CaseInsensitiveComparator"), (1, .class_ 1107), (0, u "java/io/Serializable"), (0, .class_ 1109), (0, u "java/lang/Comparable"), (0, .class_ 1111), (0, u "java/lang/constant/Constable"), (0, .class_ 1113), (0, u "java/lang/constant/ConstantDesc"), (2, u "serialVersionUID"), (0, u "J"), (3, u "REPL"), (0, u "C"), (2, u "LATIN1"), (1, u "UTF16")] 323

def k7m0 : Method := { name := "<init>", desc := "()V", sig := { parameters := [], returnType := none }, accessFlags := 1, code := none }
def k7c1 : Code := { maxStack := 5, maxLocals := 2, code := jdk_42_method_3_code, exceptionTable := #[], attributes := #[] }
def k7m1 : Method := { name := "<init>", desc := "([C)V", sig := { parameters := [(.array .char)], returnType := none }, accessFlags := 1, code := some k7c1 }
def k7c2 : Code := { maxStack := 2, maxLocals := 3, code := jdk_42_method_66_code, exceptionTable := #[], attributes := #[] }
def k7m2 : Method := { name := "equals", desc := "(Ljava/lang/Object;)Z", sig := { parameters := [(.object "java/lang/Object")], returnType := some .boolean }, accessFlags := 1, code := some k7c2 }
def k7c3 : Code := { maxStack := 4, maxLocals := 6, code := jdk_42_method_149_code, exceptionTable := #[], attributes := #[] }
def k7m3 : Method := { name := "<init>", desc := "([CIILjava/lang/Void;)V", sig := { parameters := [(.array .char), .int, .int, (.object "java/lang/Void")], returnType := none }, accessFlags := 2, code := some k7c3 }
/-- java/lang/String -/
def k7 : Class := { plain "java/lang/String" (some 0) with
  accessFlags := 49
  interfaces := #[2, 3, 4, 5, 6]
  cf := some (fileOf pool7 10 #[.nestMembers #[1103]] #[{ accessFlags := 1, nameIndex := 5, descriptorIndex := 6, attributes := #[] }, { accessFlags := 1, nameIndex := 5, descriptorIndex := 1010, attributes := #[] }, { accessFlags := 1, nameIndex := 543, descriptorIndex := 573, attributes := #[] }, { accessFlags := 2, nameIndex := 5, descriptorIndex := 29, attributes := #[] }] 49 2 #[1106, 1108, 575, 1110, 1112] #[{ accessFlags := 18, nameIndex := 13, descriptorIndex := 14, attributes := #[] }, { accessFlags := 18, nameIndex := 17, descriptorIndex := 18, attributes := #[] }, { accessFlags := 2, nameIndex := 21, descriptorIndex := 22, attributes := #[] }, { accessFlags := 2, nameIndex := 25, descriptorIndex := 26, attributes := #[] }, { accessFlags := 26, nameIndex := 1116, descriptorIndex := 1117, attributes := #[] }, { accessFlags := 24, nameIndex := 40, descriptorIndex := 26, attributes := #[] }, { accessFlags := 26, nameIndex := 1101, descriptorIndex := 1102, attributes := #[] }, { accessFlags := 26, nameIndex := 1121, descriptorIndex := 1122, attributes := #[] }, { accessFlags := 25, nameIndex := 599, descriptorIndex := 600, attributes := #[] }, { accessFlags := 24, nameIndex := 1125, descriptorIndex := 18, attributes := #[] }, { accessFlags := 24, nameIndex := 1127, descriptorIndex := 18, attributes := #[] }])
  fields := #[{ name := "value", type := (.array .byte), accessFlags := 18, slot := 0, constantValue := 0 }, { name := "coder", type := .byte, accessFlags := 18, slot := 1, constantValue := 0 }, { name := "hash", type := .int, accessFlags := 2, slot := 2, constantValue := 0 }, { name := "hashIsZero", type := .boolean, accessFlags := 2, slot := 3, constantValue := 0 }, { name := "serialVersionUID", type := .long, accessFlags := 26, slot := 0, constantValue := 0 }, { name := "COMPACT_STRINGS", type := .boolean, accessFlags := 24, slot := 1, constantValue := 0 }, { name := "serialPersistentFields", type := (.array (.object "java/io/ObjectStreamField")), accessFlags := 26, slot := 2, constantValue := 0 }, { name := "REPL", type := .char, accessFlags := 26, slot := 3, constantValue := 0 }, { name := "CASE_INSENSITIVE_ORDER", type := (.object "java/util/Comparator"), accessFlags := 25, slot := 4, constantValue := 0 }, { name := "LATIN1", type := .byte, accessFlags := 24, slot := 5, constantValue := 0 }, { name := "UTF16", type := .byte, accessFlags := 24, slot := 6, constantValue := 0 }]
  methods := #[k7m0, k7m1, k7m2, k7m3]
  instanceTypes := #[(.array .byte), .byte, .int, .boolean]
  staticTypes := #[.long, .boolean, (.array (.object "java/io/ObjectStreamField")), .char, (.object "java/util/Comparator"), .byte, .byte]
  resolved := Array.replicate 1451 none
  statics := some 0 }

def pool8 : Array CpInfo := pool [(6, .class_ 8), (1, u "java/lang/Object"), (0, u "<init>"), (0, u "()V"), (1, .class_ 14), (1, u "java/lang/StringUTF16"), (31, u "$assertionsDisabled"), (0, u "Z"), (13, u "HI_BYTE_SHIFT"), (0, u "I"), (2, u "LO_BYTE_SHIFT"), (49, .methodref 12 116), (0, .nameAndType 117 118), (0, u "compress"), (0, u "([CI[BII)I"), (3, u "([CII)[B"), (138, u "coderFromArrayLen"), (0, u "([BI)B"), (106, .class_ 371), (1, u "java/lang/StringUTF16$LinesSpliterator"), (58, u "MAX_LENGTH"), (196, .class_ 628), (0, u "java/lang/StringUTF16$CodePointsSpliterator"), (0, .class_ 630), (0, u "java/lang/StringUTF16$CharsSpliterator")] 4

def k8m0 : Method := { name := "<init>", desc := "()V", sig := { parameters := [], returnType := none }, accessFlags := 0, code := none }
def k8c1 : Code := { maxStack := 2, maxLocals := 2, code := jdk_52_method_15_code, exceptionTable := #[], attributes := #[] }
def k8m1 : Method := { name := "coderFromArrayLen", desc := "([BI)B", sig := { parameters := [(.array .byte), .int], returnType := some .byte }, accessFlags := 8, code := some k8c1 }
def k8c2 : Code := { maxStack := 5, maxLocals := 6, code := jdk_52_method_16_code, exceptionTable := #[], attributes := #[] }
def k8m2 : Method := { name := "compress", desc := "([CII)[B", sig := { parameters := [(.array .char), .int, .int], returnType := some (.array .byte) }, accessFlags := 9, code := some k8c2 }
def k8c3 : Code := { maxStack := 3, maxLocals := 7, code := jdk_52_method_21_code, exceptionTable := #[], attributes := #[] }
def k8m3 : Method := { name := "compress", desc := "([CI[BII)I", sig := { parameters := [(.array .char), .int, (.array .byte), .int, .int], returnType := some .int }, accessFlags := 9, code := some k8c3 }
/-- java/lang/StringUTF16 -/
def k8 : Class := { plain "java/lang/StringUTF16" (some 0) with
  accessFlags := 48
  interfaces := #[]
  cf := some (fileOf pool8 12 #[.nestMembers #[627, 629, 369]] #[{ accessFlags := 0, nameIndex := 9, descriptorIndex := 10, attributes := #[] }, { accessFlags := 8, nameIndex := 261, descriptorIndex := 262, attributes := #[] }, { accessFlags := 9, nameIndex := 117, descriptorIndex := 122, attributes := #[] }, { accessFlags := 9, nameIndex := 117, descriptorIndex := 118, attributes := #[] }] 48 6 #[] #[{ accessFlags := 26, nameIndex := 61, descriptorIndex := 62, attributes := #[] }, { accessFlags := 26, nameIndex := 65, descriptorIndex := 62, attributes := #[] }, { accessFlags := 24, nameIndex := 430, descriptorIndex := 62, attributes := #[] }, { accessFlags := 4120, nameIndex := 46, descriptorIndex := 47, attributes := #[] }])
  fields := #[{ name := "HI_BYTE_SHIFT", type := .int, accessFlags := 26, slot := 0, constantValue := 0 }, { name := "LO_BYTE_SHIFT", type := .int, accessFlags := 26, slot := 1, constantValue := 0 }, { name := "MAX_LENGTH", type := .int, accessFlags := 24, slot := 2, constantValue := 0 }, { name := "$assertionsDisabled", type := .boolean, accessFlags := 4120, slot := 3, constantValue := 0 }]
  methods := #[k8m0, k8m1, k8m2, k8m3]
  instanceTypes := #[]
  staticTypes := #[.int, .int, .int, .boolean]
  resolved := Array.replicate 635 none
  statics := none }

def pool9 : Array CpInfo := pool [(1, .methodref 2 3), (0, .class_ 4), (0, .nameAndType 5 6), (0, u "java/lang/Object"), (0, u "<init>"), (0, u "()V"), (0, .fieldref 8 9), (0, .class_ 10), (0, .nameAndType 11 12), (0, u "com/example/nachweis/nachweis/TrailState"), (0, u "records"), (0, u "J"), (0, .fieldref 8 14), (0, .nameAndType 15 16), (0, u "head"), (0, u "Ljava/lang/String;"), (0, .fieldref 8 18), (0, .nameAndType 19 20), (0, u "whole"), (0, u "Z"), (0, .fieldref 8 22), (0, .nameAndType 23 12), (0, u "tornBytes"), (0, .fieldref 8 25), (0, .nameAndType 26 16), (0, u "tornHash"), (0, .methodref 8 28), (0, .nameAndType 5 29), (0, u "(JLjava/lang/String;ZJLjava/lang/String;)V"), (6, u "brokenLine"), (0, u "()J"), (7, u "torn"), (0, u "(JLjava/lang/String;JLjava/lang/String;)Lcom/example/nachweis/nachweis/TrailState;"), (0, u "isWhole"), (0, u "()Z"), (0, u "()Ljava/lang/String;")] 23

def k9c0 : Code := { maxStack := 3, maxLocals := 8, code := prog_11_method_1_code, exceptionTable := #[], attributes := #[] }
def k9m0 : Method := { name := "<init>", desc := "(JLjava/lang/String;ZJLjava/lang/String;)V", sig := { parameters := [.long, (.object "java/lang/String"), .boolean, .long, (.object "java/lang/String")], returnType := none }, accessFlags := 2, code := some k9c0 }
def k9c1 : Code := { maxStack := 9, maxLocals := 6, code := prog_11_method_4_code, exceptionTable := #[], attributes := #[] }
def k9m1 : Method := { name := "torn", desc := "(JLjava/lang/String;JLjava/lang/String;)Lcom/example/nachweis/nachweis/TrailState;", sig := { parameters := [.long, (.object "java/lang/String"), .long, (.object "java/lang/String")], returnType := some (.object "com/example/nachweis/nachweis/TrailState") }, accessFlags := 8, code := some k9c1 }
def k9c2 : Code := { maxStack := 1, maxLocals := 1, code := prog_11_method_5_code, exceptionTable := #[], attributes := #[] }
def k9m2 : Method := { name := "isWhole", desc := "()Z", sig := { parameters := [], returnType := some .boolean }, accessFlags := 1, code := some k9c2 }
def k9c3 : Code := { maxStack := 2, maxLocals := 1, code := prog_11_method_6_code, exceptionTable := #[], attributes := #[] }
def k9m3 : Method := { name := "records", desc := "()J", sig := { parameters := [], returnType := some .long }, accessFlags := 1, code := some k9c3 }
def k9c4 : Code := { maxStack := 1, maxLocals := 1, code := prog_11_method_7_code, exceptionTable := #[], attributes := #[] }
def k9m4 : Method := { name := "head", desc := "()Ljava/lang/String;", sig := { parameters := [], returnType := some (.object "java/lang/String") }, accessFlags := 1, code := some k9c4 }
def k9c5 : Code := { maxStack := 4, maxLocals := 1, code := prog_11_method_8_code, exceptionTable := #[], attributes := #[] }
def k9m5 : Method := { name := "brokenLine", desc := "()J", sig := { parameters := [], returnType := some .long }, accessFlags := 1, code := some k9c5 }
def k9c6 : Code := { maxStack := 2, maxLocals := 1, code := prog_11_method_9_code, exceptionTable := #[], attributes := #[] }
def k9m6 : Method := { name := "tornBytes", desc := "()J", sig := { parameters := [], returnType := some .long }, accessFlags := 1, code := some k9c6 }
def k9c7 : Code := { maxStack := 1, maxLocals := 1, code := prog_11_method_10_code, exceptionTable := #[], attributes := #[] }
def k9m7 : Method := { name := "tornHash", desc := "()Ljava/lang/String;", sig := { parameters := [], returnType := some (.object "java/lang/String") }, accessFlags := 1, code := some k9c7 }
/-- com/example/nachweis/nachweis/TrailState -/
def k9 : Class := { plain "com/example/nachweis/nachweis/TrailState" (some 0) with
  accessFlags := 33
  interfaces := #[]
  cf := some (fileOf pool9 8 #[] #[{ accessFlags := 2, nameIndex := 5, descriptorIndex := 29, attributes := #[] }, { accessFlags := 8, nameIndex := 45, descriptorIndex := 46, attributes := #[] }, { accessFlags := 1, nameIndex := 47, descriptorIndex := 48, attributes := #[] }, { accessFlags := 1, nameIndex := 11, descriptorIndex := 37, attributes := #[] }, { accessFlags := 1, nameIndex := 15, descriptorIndex := 49, attributes := #[] }, { accessFlags := 1, nameIndex := 36, descriptorIndex := 37, attributes := #[] }, { accessFlags := 1, nameIndex := 23, descriptorIndex := 37, attributes := #[] }, { accessFlags := 1, nameIndex := 26, descriptorIndex := 49, attributes := #[] }] 33 2 #[] #[{ accessFlags := 18, nameIndex := 11, descriptorIndex := 12, attributes := #[] }, { accessFlags := 18, nameIndex := 15, descriptorIndex := 16, attributes := #[] }, { accessFlags := 18, nameIndex := 19, descriptorIndex := 20, attributes := #[] }, { accessFlags := 18, nameIndex := 23, descriptorIndex := 12, attributes := #[] }, { accessFlags := 18, nameIndex := 26, descriptorIndex := 16, attributes := #[] }])
  fields := #[{ name := "records", type := .long, accessFlags := 18, slot := 0, constantValue := 0 }, { name := "head", type := (.object "java/lang/String"), accessFlags := 18, slot := 1, constantValue := 0 }, { name := "whole", type := .boolean, accessFlags := 18, slot := 2, constantValue := 0 }, { name := "tornBytes", type := .long, accessFlags := 18, slot := 3, constantValue := 0 }, { name := "tornHash", type := (.object "java/lang/String"), accessFlags := 18, slot := 4, constantValue := 0 }]
  methods := #[k9m0, k9m1, k9m2, k9m3, k9m4, k9m5, k9m6, k9m7]
  instanceTypes := #[.long, (.object "java/lang/String"), .boolean, .long, (.object "java/lang/String")]
  staticTypes := #[]
  resolved := Array.replicate 73 none
  statics := none }

def pool10 : Array CpInfo := pool [(4, .class_ 6), (1, u "java/lang/Object"), (0, u "<init>"), (0, u "()V"), (5, .class_ 16), (1, u "java/lang/StringLatin1"), (104, u "$assertionsDisabled"), (0, u "Z"), (98, .class_ 223), (1, u "java/lang/StringLatin1$LinesSpliterator"), (166, .class_ 391), (0, u "java/lang/StringLatin1$CharsSpliterator")] 3

def k10m0 : Method := { name := "<init>", desc := "()V", sig := { parameters := [], returnType := none }, accessFlags := 0, code := none }
/-- java/lang/StringLatin1 -/
def k10 : Class := { plain "java/lang/StringLatin1" (some 0) with
  accessFlags := 48
  interfaces := #[]
  cf := some (fileOf pool10 14 #[.nestMembers #[390, 221]] #[{ accessFlags := 0, nameIndex := 7, descriptorIndex := 8, attributes := #[] }] 48 4 #[] #[{ accessFlags := 4120, nameIndex := 121, descriptorIndex := 122, attributes := #[] }])
  fields := #[{ name := "$assertionsDisabled", type := .boolean, accessFlags := 4120, slot := 0, constantValue := 0 }]
  methods := #[k10m0]
  instanceTypes := #[]
  staticTypes := #[.boolean]
  resolved := Array.replicate 395 none
  statics := none }

def pool11 : Array CpInfo := pool [(2, .class_ 4), (1, u "java/lang/Object"), (0, u "<init>"), (0, u "()V"), (17, .class_ 26), (1, u "jdk/internal/util/Preconditions"), (28, .class_ 56), (0, u "jdk/internal/util/Preconditions$4"), (57, .class_ 115), (0, u "jdk/internal/util/Preconditions$1"), (7, u "SIOOBE_FORMATTER"), (0, u "Ljava/util/function/BiFunction;"), (0, .class_ 126), (0, u "jdk/internal/util/Preconditions$2"), (3, u "AIOOBE_FORMATTER"), (0, .class_ 132), (0, u "jdk/internal/util/Preconditions$3"), (3, u "IOOBE_FORMATTER")] 57

def k11m0 : Method := { name := "<init>", desc := "()V", sig := { parameters := [], returnType := none }, accessFlags := 1, code := none }
/-- jdk/internal/util/Preconditions -/
def k11 : Class := { plain "jdk/internal/util/Preconditions" (some 0) with
  accessFlags := 33
  interfaces := #[]
  cf := some (fileOf pool11 24 #[.nestMembers #[55, 131, 125, 114]] #[{ accessFlags := 1, nameIndex := 5, descriptorIndex := 6, attributes := #[] }] 33 2 #[] #[{ accessFlags := 25, nameIndex := 123, descriptorIndex := 124, attributes := #[] }, { accessFlags := 25, nameIndex := 130, descriptorIndex := 124, attributes := #[] }, { accessFlags := 25, nameIndex := 136, descriptorIndex := 124, attributes := #[] }])
  fields := #[{ name := "SIOOBE_FORMATTER", type := (.object "java/util/function/BiFunction"), accessFlags := 25, slot := 0, constantValue := 0 }, { name := "AIOOBE_FORMATTER", type := (.object "java/util/function/BiFunction"), accessFlags := 25, slot := 1, constantValue := 0 }, { name := "IOOBE_FORMATTER", type := (.object "java/util/function/BiFunction"), accessFlags := 25, slot := 2, constantValue := 0 }]
  methods := #[k11m0]
  instanceTypes := #[]
  staticTypes := #[(.object "java/util/function/BiFunction"), (.object "java/util/function/BiFunction"), (.object "java/util/function/BiFunction")]
  resolved := Array.replicate 194 none
  statics := some 1 }

def pool12 : Array CpInfo := pool [(9, u "<init>"), (6, .class_ 18), (1, u "java/lang/Object"), (0, u "()V"), (1, .class_ 23), (1, u "jdk/internal/util/ArraysSupport"), (0, u "LOG2_ARRAY_LONG_INDEX_SCALE"), (0, u "I"), (2, u "U"), (0, u "Ljdk/internal/misc/Unsafe;"), (8, u "BIG_ENDIAN"), (0, u "Z"), (8, u "LOG2_BYTE_BIT_SIZE"), (4, u "LOG2_ARRAY_INT_INDEX_SCALE"), (54, u "JLA"), (0, u "Ljdk/internal/access/JavaLangAccess;"), (11, u "LOG2_ARRAY_BOOLEAN_INDEX_SCALE"), (9, u "LOG2_ARRAY_BYTE_INDEX_SCALE"), (5, u "LOG2_ARRAY_CHAR_INDEX_SCALE"), (5, u "LOG2_ARRAY_SHORT_INDEX_SCALE"), (18, u "LOG2_ARRAY_FLOAT_INDEX_SCALE"), (24, u "LOG2_ARRAY_DOUBLE_INDEX_SCALE"), (89, u "T_BOOLEAN"), (2, u "T_CHAR"), (1, u "T_FLOAT"), (1, u "T_DOUBLE"), (1, u "T_BYTE"), (1, u "T_SHORT"), (1, u "T_INT"), (1, u "T_LONG"), (1, u "SOFT_MAX_ARRAY_LENGTH")] 83

def k12m0 : Method := { name := "<init>", desc := "()V", sig := { parameters := [], returnType := none }, accessFlags := 2, code := none }
/-- jdk/internal/util/ArraysSupport -/
def k12 : Class := { plain "jdk/internal/util/ArraysSupport" (some 0) with
  accessFlags := 33
  interfaces := #[]
  cf := some (fileOf pool12 21 #[] #[{ accessFlags := 2, nameIndex := 9, descriptorIndex := 19, attributes := #[] }] 33 16 #[] #[{ accessFlags := 24, nameIndex := 28, descriptorIndex := 29, attributes := #[] }, { accessFlags := 26, nameIndex := 38, descriptorIndex := 39, attributes := #[] }, { accessFlags := 25, nameIndex := 121, descriptorIndex := 25, attributes := #[] }, { accessFlags := 25, nameIndex := 131, descriptorIndex := 25, attributes := #[] }, { accessFlags := 25, nameIndex := 137, descriptorIndex := 25, attributes := #[] }, { accessFlags := 25, nameIndex := 143, descriptorIndex := 25, attributes := #[] }, { accessFlags := 25, nameIndex := 53, descriptorIndex := 25, attributes := #[] }, { accessFlags := 25, nameIndex := 24, descriptorIndex := 25, attributes := #[] }, { accessFlags := 25, nameIndex := 162, descriptorIndex := 25, attributes := #[] }, { accessFlags := 25, nameIndex := 187, descriptorIndex := 25, attributes := #[] }, { accessFlags := 26, nameIndex := 48, descriptorIndex := 25, attributes := #[] }, { accessFlags := 25, nameIndex := 277, descriptorIndex := 25, attributes := #[] }, { accessFlags := 25, nameIndex := 280, descriptorIndex := 25, attributes := #[] }, { accessFlags := 25, nameIndex := 282, descriptorIndex := 25, attributes := #[] }, { accessFlags := 25, nameIndex := 284, descriptorIndex := 25, attributes := #[] }, { accessFlags := 25, nameIndex := 286, descriptorIndex := 25, attributes := #[] }, { accessFlags := 25, nameIndex := 288, descriptorIndex := 25, attributes := #[] }, { accessFlags := 25, nameIndex := 290, descriptorIndex := 25, attributes := #[] }, { accessFlags := 25, nameIndex := 292, descriptorIndex := 25, attributes := #[] }, { accessFlags := 26, nameIndex := 108, descriptorIndex := 109, attributes := #[] }, { accessFlags := 25, nameIndex := 294, descriptorIndex := 25, attributes := #[] }])
  fields := #[{ name := "U", type := (.object "jdk/internal/misc/Unsafe"), accessFlags := 24, slot := 0, constantValue := 0 }, { name := "BIG_ENDIAN", type := .boolean, accessFlags := 26, slot := 1, constantValue := 0 }, { name := "LOG2_ARRAY_BOOLEAN_INDEX_SCALE", type := .int, accessFlags := 25, slot := 2, constantValue := 0 }, { name := "LOG2_ARRAY_BYTE_INDEX_SCALE", type := .int, accessFlags := 25, slot := 3, constantValue := 0 }, { name := "LOG2_ARRAY_CHAR_INDEX_SCALE", type := .int, accessFlags := 25, slot := 4, constantValue := 0 }, { name := "LOG2_ARRAY_SHORT_INDEX_SCALE", type := .int, accessFlags := 25, slot := 5, constantValue := 0 }, { name := "LOG2_ARRAY_INT_INDEX_SCALE", type := .int, accessFlags := 25, slot := 6, constantValue := 0 }, { name := "LOG2_ARRAY_LONG_INDEX_SCALE", type := .int, accessFlags := 25, slot := 7, constantValue := 0 }, { name := "LOG2_ARRAY_FLOAT_INDEX_SCALE", type := .int, accessFlags := 25, slot := 8, constantValue := 0 }, { name := "LOG2_ARRAY_DOUBLE_INDEX_SCALE", type := .int, accessFlags := 25, slot := 9, constantValue := 0 }, { name := "LOG2_BYTE_BIT_SIZE", type := .int, accessFlags := 26, slot := 10, constantValue := 0 }, { name := "T_BOOLEAN", type := .int, accessFlags := 25, slot := 11, constantValue := 0 }, { name := "T_CHAR", type := .int, accessFlags := 25, slot := 12, constantValue := 0 }, { name := "T_FLOAT", type := .int, accessFlags := 25, slot := 13, constantValue := 0 }, { name := "T_DOUBLE", type := .int, accessFlags := 25, slot := 14, constantValue := 0 }, { name := "T_BYTE", type := .int, accessFlags := 25, slot := 15, constantValue := 0 }, { name := "T_SHORT", type := .int, accessFlags := 25, slot := 16, constantValue := 0 }, { name := "T_INT", type := .int, accessFlags := 25, slot := 17, constantValue := 0 }, { name := "T_LONG", type := .int, accessFlags := 25, slot := 18, constantValue := 0 }, { name := "JLA", type := (.object "jdk/internal/access/JavaLangAccess"), accessFlags := 26, slot := 19, constantValue := 0 }, { name := "SOFT_MAX_ARRAY_LENGTH", type := .int, accessFlags := 25, slot := 20, constantValue := 0 }]
  methods := #[k12m0]
  instanceTypes := #[]
  staticTypes := #[(.object "jdk/internal/misc/Unsafe"), .boolean, .int, .int, .int, .int, .int, .int, .int, .int, .int, .int, .int, .int, .int, .int, .int, .int, .int, (.object "jdk/internal/access/JavaLangAccess"), .int]
  resolved := Array.replicate 378 none
  statics := none }

def pool13 : Array CpInfo := pool [(1, u "java/lang/Cloneable"), (0, .class_ 1), (0, u "java/lang/Object"), (0, .class_ 3)] 3

/-- java/lang/Cloneable -/
def k13 : Class := { plain "java/lang/Cloneable" (some 0) with
  accessFlags := 1537
  interfaces := #[]
  cf := some (fileOf pool13 2 #[] #[] 1537 4 #[] #[])
  fields := #[]
  methods := #[]
  instanceTypes := #[]
  staticTypes := #[]
  resolved := Array.replicate 8 none
  statics := none }

/-- the primitive byte -/
def k14 : Class := { plain "byte" none with kind := .primitive 'B', accessFlags := 0x411 }
/-- [B -/
def k15 : Class := { plain "[B" (some 0) with kind := .array 14 .byte, interfaces := #[13, 2], accessFlags := 1041 }

/-- the primitive char -/
def k16 : Class := { plain "char" none with kind := .primitive 'C', accessFlags := 0x411 }
/-- [C -/
def k17 : Class := { plain "[C" (some 0) with kind := .array 16 .char, interfaces := #[13, 2], accessFlags := 1041 }

/-- the primitive int -/
def k18 : Class := { plain "int" none with kind := .primitive 'I', accessFlags := 0x411 }
/-- [I -/
def k19 : Class := { plain "[I" (some 0) with kind := .array 18 .int, interfaces := #[13, 2], accessFlags := 1041 }

def heap : Heap := #[{ cls := 7, slots := #[.long 0, .int 1, .null, .int 0, .null, .int 0, .int 0], vm := .statics 7 },
  { cls := 11, slots := #[.null, .null, .null], vm := .statics 11 }]
def classes : Array Class := #[k0, k1, k2, k3, k4, k5, k6, k7, k8, k9, k10, k11, k12, k13, k14, k15, k16, k17, k18, k19]
def interned : List (Array UInt16 × Addr) := []
def slotsUsed : Nat := 10
def theMethod : MethodId := ⟨1, 1⟩
def args0 : Array Value := #[.long 5, .long 6, .int 3, .int 4, .int 0]
def aboutOver (below : List Frame) : State where
  vm := { classes := classes, interned := interned.toArray }
  heap := heap
  slotsUsed := slotsUsed
  threads := #[{ frames := .invoking theMethod args0 :: below }]
def below0 : List Frame := [.native { method := ⟨0, 0⟩, args := #[] }]
def about1 : State := aboutOver below0
def p0 : Program := .bare "" "" ""
def e0 : Env := launch0.env 0 0 0
theorem w_frames : about1.frames = Frame.invoking theMethod args0 :: below0 := rfl
set_option maxRecDepth 65536 in
theorem w_args : argsFit about1.vm theMethod args0 = true := by decide +kernel
set_option maxRecDepth 65536 in
theorem w_heap : heapFits about1 = true := by decide +kernel
set_option maxRecDepth 65536 in
theorem w_runnable : about1.curStatus? = some .runnable := by decide +kernel
set_option maxRecDepth 65536 in
theorem w_alone : about1.alone = true := by decide +kernel
set_option maxRecDepth 65536 in
theorem w_named : about1.methodNamed? x = some theMethod := by decide +kernel
set_option maxRecDepth 65536 in
theorem w_hears : about1.hears theMethod below0 = true := by decide +kernel
set_option maxRecDepth 65536 in
theorem w_ripe : about1.ripe theMethod args0 below0 = true := by decide +kernel
theorem w_running : about1.status = .running := rfl
set_option maxRecDepth 65536 in
theorem w_room : about1.hasRoom e0.platform room_1 = true :=
  launch0.hasRoom_least _ room_1 (by decide +kernel) (by decide +kernel) (by decide +kernel) (by decide +kernel) (by decide +kernel) (by decide +kernel)
theorem allAtoms_all (ts : List Jvm.Cond) (a : Array Jvm.Value) (st : Jvm.State) : (allAtoms ts).before a st = ts.all (fun c => c.before a st) := by
  induction ts with
  | nil => rfl
  | cons c t ih =>
    show (Jvm.Cond.and c (allAtoms t)).before a st = _
    rw [Jvm.Cond.before_and, ih, List.all_cons]
def words1 : List Jvm.Cond := Jvm.Cond.code x code maxLocals ret :: tables_1
/-- a 'code' word, met by the world's own term for the bytes: nothing is compared byte by byte -/
theorem code_word {y : MethodName} {bytes : ByteArray} {mx : Nat} {rt : Option FieldType} {a : Array Value} {s : State} {m : MethodId} {meth : Method} {c : Code} (h1 : s.methodNamed? y = some m) (h2 : s.vm.method? m = some meth) (h3 : meth.code = some c) (h4 : c.code = bytes)
    (h5 : (c.maxLocals == mx && c.exceptionTable.isEmpty && decide (c.maxStack ≤ mostOperands) && decide (meth.sig.returnType = rt) && !meth.locks && decide (parseMethodDescriptor y.desc = some meth.sig)) = true) : (Jvm.Cond.code y bytes mx rt).before a s = true := by
  simp only [Bool.and_eq_true, beq_iff_eq, Bool.not_eq_true', decide_eq_true_eq] at h5
  obtain ⟨⟨⟨⟨⟨g1, g2⟩, g3⟩, g4⟩, g5⟩, g6⟩ := h5
  simp [Cond.before, Cond.holds, Cond.value, h1, h2, h3, h4, g1, g2, g3, g4, g5, g6]
def isCode : Jvm.Cond → Bool
  | .code _ _ _ _ => true
  | _ => false
theorem all_split {L : List Jvm.Cond} {P : Jvm.Cond → Bool} (h1 : L.all (fun c => isCode c || P c) = true) (h2 : ∀ c ∈ L.filter isCode, P c = true) : L.all P = true := by
  refine List.all_eq_true.mpr fun c hc => ?_
  have h := List.all_eq_true.mp h1 c hc
  rcases Bool.eq_false_or_eq_true (isCode c) with hi | hi
  · exact h2 c (List.mem_filter.mpr ⟨hc, hi⟩)
  · simpa [hi] using h
set_option maxRecDepth 65536 in
theorem w_c0 : (Jvm.Cond.code x code maxLocals ret).before args0 about1 = true := code_word (m := ⟨1, 1⟩) (meth := k1m1) (c := k1c1) (by decide +kernel) rfl rfl rfl (by decide +kernel)
set_option maxRecDepth 65536 in
theorem w_c1 : (Jvm.Cond.code ({ cls := "java/lang/String", name := "<init>", desc := "([C)V" } : Jvm.MethodName) jdk_42_method_3_code (2 : Nat) (Option.none : Option Jvm.ClassFile.FieldType)).before args0 about1 = true := code_word (m := ⟨7, 1⟩) (meth := k7m1) (c := k7c1) (by decide +kernel) rfl rfl rfl (by decide +kernel)
set_option maxRecDepth 65536 in
theorem w_c2 : (Jvm.Cond.code ({ cls := "java/lang/String", name := "<init>", desc := "([CIILjava/lang/Void;)V" } : Jvm.MethodName) jdk_42_method_149_code (6 : Nat) (Option.none : Option Jvm.ClassFile.FieldType)).before args0 about1 = true := code_word (m := ⟨7, 3⟩) (meth := k7m3) (c := k7c3) (by decide +kernel) rfl rfl rfl (by decide +kernel)
set_option maxRecDepth 65536 in
theorem w_c3 : (Jvm.Cond.code ({ cls := "java/lang/Object", name := "<init>", desc := "()V" } : Jvm.MethodName) object_method_1_code (1 : Nat) (Option.none : Option Jvm.ClassFile.FieldType)).before args0 about1 = true := code_word (m := ⟨0, 0⟩) (meth := k0m0) (c := k0c0) (by decide +kernel) rfl rfl rfl (by decide +kernel)
set_option maxRecDepth 65536 in
theorem w_c4 : (Jvm.Cond.code ({ cls := "java/lang/StringUTF16", name := "compress", desc := "([CII)[B" } : Jvm.MethodName) jdk_52_method_16_code (6 : Nat) (Option.some (Jvm.ClassFile.FieldType.array Jvm.ClassFile.FieldType.byte))).before args0 about1 = true := code_word (m := ⟨8, 2⟩) (meth := k8m2) (c := k8c2) (by decide +kernel) rfl rfl rfl (by decide +kernel)
set_option maxRecDepth 65536 in
theorem w_c5 : (Jvm.Cond.code ({ cls := "java/lang/StringUTF16", name := "compress", desc := "([CI[BII)I" } : Jvm.MethodName) jdk_52_method_21_code (7 : Nat) (Option.some Jvm.ClassFile.FieldType.int)).before args0 about1 = true := code_word (m := ⟨8, 3⟩) (meth := k8m3) (c := k8c3) (by decide +kernel) rfl rfl rfl (by decide +kernel)
set_option maxRecDepth 65536 in
theorem w_c6 : (Jvm.Cond.code ({ cls := "java/lang/StringUTF16", name := "coderFromArrayLen", desc := "([BI)B" } : Jvm.MethodName) jdk_52_method_15_code (2 : Nat) (Option.some Jvm.ClassFile.FieldType.byte)).before args0 about1 = true := code_word (m := ⟨8, 1⟩) (meth := k8m1) (c := k8c1) (by decide +kernel) rfl rfl rfl (by decide +kernel)
set_option maxRecDepth 65536 in
theorem w_c7 : (Jvm.Cond.code ({ cls := "com/example/nachweis/nachweis/TrailState", name := "torn", desc := "(JLjava/lang/String;JLjava/lang/String;)Lcom/example/nachweis/nachweis/TrailState;" } : Jvm.MethodName) prog_11_method_4_code (6 : Nat) (Option.some (Jvm.ClassFile.FieldType.object "com/example/nachweis/nachweis/TrailState"))).before args0 about1 = true := code_word (m := ⟨9, 1⟩) (meth := k9m1) (c := k9c1) (by decide +kernel) rfl rfl rfl (by decide +kernel)
set_option maxRecDepth 65536 in
theorem w_c8 : (Jvm.Cond.code ({ cls := "com/example/nachweis/nachweis/TrailState", name := "<init>", desc := "(JLjava/lang/String;ZJLjava/lang/String;)V" } : Jvm.MethodName) prog_11_method_1_code (8 : Nat) (Option.none : Option Jvm.ClassFile.FieldType)).before args0 about1 = true := code_word (m := ⟨9, 0⟩) (meth := k9m0) (c := k9c0) (by decide +kernel) rfl rfl rfl (by decide +kernel)
set_option maxRecDepth 65536 in
theorem w_c9 : (Jvm.Cond.code ({ cls := "com/example/nachweis/nachweis/TrailState", name := "isWhole", desc := "()Z" } : Jvm.MethodName) prog_11_method_5_code (1 : Nat) (Option.some Jvm.ClassFile.FieldType.boolean)).before args0 about1 = true := code_word (m := ⟨9, 2⟩) (meth := k9m2) (c := k9c2) (by decide +kernel) rfl rfl rfl (by decide +kernel)
set_option maxRecDepth 65536 in
theorem w_c10 : (Jvm.Cond.code ({ cls := "com/example/nachweis/nachweis/TrailState", name := "records", desc := "()J" } : Jvm.MethodName) prog_11_method_6_code (1 : Nat) (Option.some Jvm.ClassFile.FieldType.long)).before args0 about1 = true := code_word (m := ⟨9, 3⟩) (meth := k9m3) (c := k9c3) (by decide +kernel) rfl rfl rfl (by decide +kernel)
set_option maxRecDepth 65536 in
theorem w_c11 : (Jvm.Cond.code ({ cls := "com/example/nachweis/nachweis/TrailState", name := "head", desc := "()Ljava/lang/String;" } : Jvm.MethodName) prog_11_method_7_code (1 : Nat) (Option.some (Jvm.ClassFile.FieldType.object "java/lang/String"))).before args0 about1 = true := code_word (m := ⟨9, 4⟩) (meth := k9m4) (c := k9c4) (by decide +kernel) rfl rfl rfl (by decide +kernel)
set_option maxRecDepth 65536 in
theorem w_c12 : (Jvm.Cond.code ({ cls := "java/lang/String", name := "equals", desc := "(Ljava/lang/Object;)Z" } : Jvm.MethodName) jdk_42_method_66_code (3 : Nat) (Option.some Jvm.ClassFile.FieldType.boolean)).before args0 about1 = true := code_word (m := ⟨7, 2⟩) (meth := k7m2) (c := k7c2) (by decide +kernel) rfl rfl rfl (by decide +kernel)
set_option maxRecDepth 65536 in
theorem w_c13 : (Jvm.Cond.code ({ cls := "com/example/nachweis/nachweis/TrailState", name := "brokenLine", desc := "()J" } : Jvm.MethodName) prog_11_method_8_code (1 : Nat) (Option.some Jvm.ClassFile.FieldType.long)).before args0 about1 = true := code_word (m := ⟨9, 5⟩) (meth := k9m5) (c := k9c5) (by decide +kernel) rfl rfl rfl (by decide +kernel)
set_option maxRecDepth 65536 in
theorem w_c14 : (Jvm.Cond.code ({ cls := "com/example/nachweis/nachweis/TrailState", name := "tornBytes", desc := "()J" } : Jvm.MethodName) prog_11_method_9_code (1 : Nat) (Option.some Jvm.ClassFile.FieldType.long)).before args0 about1 = true := code_word (m := ⟨9, 6⟩) (meth := k9m6) (c := k9c6) (by decide +kernel) rfl rfl rfl (by decide +kernel)
set_option maxRecDepth 65536 in
theorem w_c15 : (Jvm.Cond.code ({ cls := "com/example/nachweis/nachweis/TrailState", name := "tornHash", desc := "()Ljava/lang/String;" } : Jvm.MethodName) prog_11_method_10_code (1 : Nat) (Option.some (Jvm.ClassFile.FieldType.object "java/lang/String"))).before args0 about1 = true := code_word (m := ⟨9, 7⟩) (meth := k9m7) (c := k9c7) (by decide +kernel) rfl rfl rfl (by decide +kernel)
def codes1 : List Jvm.Cond := [Jvm.Cond.code x code maxLocals ret, Jvm.Cond.code ({ cls := "java/lang/String", name := "<init>", desc := "([C)V" } : Jvm.MethodName) jdk_42_method_3_code (2 : Nat) (Option.none : Option Jvm.ClassFile.FieldType), Jvm.Cond.code ({ cls := "java/lang/String", name := "<init>", desc := "([CIILjava/lang/Void;)V" } : Jvm.MethodName) jdk_42_method_149_code (6 : Nat) (Option.none : Option Jvm.ClassFile.FieldType), Jvm.Cond.code ({ cls := "java/lang/Object", name := "<init>", desc := "()V" } : Jvm.MethodName) object_method_1_code (1 : Nat) (Option.none : Option Jvm.ClassFile.FieldType), Jvm.Cond.code ({ cls := "java/lang/StringUTF16", name := "compress", desc := "([CII)[B" } : Jvm.MethodName) jdk_52_method_16_code (6 : Nat) (Option.some (Jvm.ClassFile.FieldType.array Jvm.ClassFile.FieldType.byte)), Jvm.Cond.code ({ cls := "java/lang/StringUTF16", name := "compress", desc := "([CI[BII)I" } : Jvm.MethodName) jdk_52_method_21_code (7 : Nat) (Option.some Jvm.ClassFile.FieldType.int), Jvm.Cond.code ({ cls := "java/lang/StringUTF16", name := "coderFromArrayLen", desc := "([BI)B" } : Jvm.MethodName) jdk_52_method_15_code (2 : Nat) (Option.some Jvm.ClassFile.FieldType.byte), Jvm.Cond.code ({ cls := "com/example/nachweis/nachweis/TrailState", name := "torn", desc := "(JLjava/lang/String;JLjava/lang/String;)Lcom/example/nachweis/nachweis/TrailState;" } : Jvm.MethodName) prog_11_method_4_code (6 : Nat) (Option.some (Jvm.ClassFile.FieldType.object "com/example/nachweis/nachweis/TrailState")), Jvm.Cond.code ({ cls := "com/example/nachweis/nachweis/TrailState", name := "<init>", desc := "(JLjava/lang/String;ZJLjava/lang/String;)V" } : Jvm.MethodName) prog_11_method_1_code (8 : Nat) (Option.none : Option Jvm.ClassFile.FieldType), Jvm.Cond.code ({ cls := "com/example/nachweis/nachweis/TrailState", name := "isWhole", desc := "()Z" } : Jvm.MethodName) prog_11_method_5_code (1 : Nat) (Option.some Jvm.ClassFile.FieldType.boolean), Jvm.Cond.code ({ cls := "com/example/nachweis/nachweis/TrailState", name := "records", desc := "()J" } : Jvm.MethodName) prog_11_method_6_code (1 : Nat) (Option.some Jvm.ClassFile.FieldType.long), Jvm.Cond.code ({ cls := "com/example/nachweis/nachweis/TrailState", name := "head", desc := "()Ljava/lang/String;" } : Jvm.MethodName) prog_11_method_7_code (1 : Nat) (Option.some (Jvm.ClassFile.FieldType.object "java/lang/String")), Jvm.Cond.code ({ cls := "java/lang/String", name := "equals", desc := "(Ljava/lang/Object;)Z" } : Jvm.MethodName) jdk_42_method_66_code (3 : Nat) (Option.some Jvm.ClassFile.FieldType.boolean), Jvm.Cond.code ({ cls := "com/example/nachweis/nachweis/TrailState", name := "brokenLine", desc := "()J" } : Jvm.MethodName) prog_11_method_8_code (1 : Nat) (Option.some Jvm.ClassFile.FieldType.long), Jvm.Cond.code ({ cls := "com/example/nachweis/nachweis/TrailState", name := "tornBytes", desc := "()J" } : Jvm.MethodName) prog_11_method_9_code (1 : Nat) (Option.some Jvm.ClassFile.FieldType.long), Jvm.Cond.code ({ cls := "com/example/nachweis/nachweis/TrailState", name := "tornHash", desc := "()Ljava/lang/String;" } : Jvm.MethodName) prog_11_method_10_code (1 : Nat) (Option.some (Jvm.ClassFile.FieldType.object "java/lang/String"))]
set_option maxRecDepth 65536 in
theorem codes_eq : words1.filter isCode = codes1 := rfl
theorem w_codes : ∀ c ∈ words1.filter isCode, c.before args0 about1 = true := by
  rw [codes_eq]
  intro c hc
  simp only [codes1, List.mem_cons, List.not_mem_nil, or_false] at hc
  rcases hc with rfl | rfl | rfl | rfl | rfl | rfl | rfl | rfl | rfl | rfl | rfl | rfl | rfl | rfl | rfl | rfl
  · exact w_c0
  · exact w_c1
  · exact w_c2
  · exact w_c3
  · exact w_c4
  · exact w_c5
  · exact w_c6
  · exact w_c7
  · exact w_c8
  · exact w_c9
  · exact w_c10
  · exact w_c11
  · exact w_c12
  · exact w_c13
  · exact w_c14
  · exact w_c15
set_option maxRecDepth 65536 in
theorem w_t1 : (words1.take 24).all (fun c => isCode c || c.before args0 about1) = true := by decide +kernel
set_option maxRecDepth 65536 in
theorem w_t2 : ((words1.drop 24).take 24).all (fun c => isCode c || c.before args0 about1) = true := by decide +kernel
set_option maxRecDepth 65536 in
theorem w_t3 : (((words1.drop 24).drop 24).take 24).all (fun c => isCode c || c.before args0 about1) = true := by decide +kernel
set_option maxRecDepth 65536 in
theorem w_t4 : (((words1.drop 24).drop 24).drop 24).all (fun c => isCode c || c.before args0 about1) = true := by decide +kernel
theorem w_tables : (allAtoms (Jvm.Cond.code x code maxLocals ret :: tables_1)).before args0 about1 = true := by
  rw [allAtoms_all]
  show words1.all (fun c => c.before args0 about1) = true
  refine all_split ?_ w_codes
  rw [← List.take_append_drop 24 words1, List.all_append, w_t1, ← List.take_append_drop 24 (words1.drop 24), List.all_append, w_t2, ← List.take_append_drop 24 ((words1.drop 24).drop 24), List.all_append, w_t3, w_t4]
  rfl
set_option maxRecDepth 65536 in
theorem w_rest : rest_1_c.before args0 about1 = true := by decide +kernel
set_option maxRecDepth 65536 in
theorem w_case : (Jvm.Cond.and given_1 narrow_1).before args0 about1 = true := by decide +kernel
theorem w_applies : (headSpec (Jvm.Cond.code x code maxLocals ret :: tables_1) room_1).applies x e0.platform about1 = true :=
  (Spec.applies_iff w_frames).mpr ⟨w_running, w_runnable, w_alone, w_named, w_hears, w_ripe, w_room, w_tables⟩
theorem atStart : AtStart classFile x code maxLocals ret World_1 tables_1 room_1 Calls_1 rest_1 Pre_1 launch0 p0 e0 about1 theMethod args0 below0 :=
  ⟨lists_1, trivial, launch0.admits_env _ _ _, launch0.least_env, fairChoices_fair.cas, fairChoices_fair.clock, w_frames, w_args, w_heap, w_applies, trivial, w_rest, w_case⟩
end start1
theorem witness_1 : WitnessClaimed_1 := ⟨start1.p0, start1.e0, start1.about1, start1.theMethod, start1.args0, start1.below0, start1.atStart⟩
end Jvm.Pilot.@@N@@
