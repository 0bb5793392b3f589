import JvmDerived
import JvmDerived.Pilot.@@N@@Statement
import JvmDerived.Pilot.@@N@@Code
set_option linter.unusedVariables false
set_option linter.unusedSimpArgs false
namespace Jvm.Pilot.@@N@@
open Jvm Jvm.ClassFile Sem Op Lib Jvm.Free Jvm.Stand Jvm.LawKit Jvm.RoadKit Bundle Jvm.Pilot.@@N@@.Jvm.D

section Own
variable {p : Program} {l : Launch} {e : Env} {R : Room} {s : State} {m : MethodId} {args : Array Value} {below : List Frame} {meth : Method} {c : Code} {T : State} {locs : List Loc} {cells slots : Nat} {Z : State} {h : Heap} {y : MethodName} {bytes : ByteArray} {maxL : Nat} {ret : Option FieldType} {E : Outcome → State → Prop} {Q : Option Value → Heap → List Loc → Prop} {kc ks : Nat} {Ls : Array Slot} {st : List Value} {pc : Nat} {a0 : Array Value}
/-- what stays as it is through the walk of one body -/
def own_C (Z : State) (y : MethodName) (bytes : ByteArray) (maxL : Nat) (ret : Option FieldType) (p : Program) (s : State) (m : MethodId) (meth : Method) (c : Code) : Prop :=
  p.tables.exec = Jvm.exec ∧ c.code = bytes ∧ c.maxLocals = maxL ∧ s.vm.findClass y.cls = some m.cls ∧ Z.Warmed39 s.vm ∧ meth.sig.returnType = ret ∧ meth.locks = false ∧ meth.name = y.name
/-- the walk stands at T, whose heap is h -/
def own_S (Z : State) (y : MethodName) (bytes : ByteArray) (maxL : Nat) (ret : Option FieldType) (p : Program) (l : Launch) (e : Env) (R : Room) (s : State) (m : MethodId) (args : Array Value) (below : List Frame) (meth : Method) (c : Code) (T : State) (h : Heap) (locs : List Loc) (cells slots : Nat) : Prop :=
  own_C Z y bytes maxL ret p s m meth c ∧ Stand p l e R s m args below meth c T locs cells slots ∧ T.heap = h
/-- from S the run ends, and its end is as Q says -/
def own_G (p : Program) (e : Env) (below : List Frame) (E : Outcome → State → Prop) (S : State) : Prop :=
  ∃ t o, Steps p.tables e below S t ∧ t.status = .running ∧ Ended t below o ∧ E o t
def own_E (s : State) (Q : Option Value → Heap → List Loc → Prop) (kc ks : Nat) (o : Outcome) (t : State) : Prop := ∃ v L, o = .returned v ∧ Q v t.heap L ∧ FrameEnd s o t L kc ks
theorem own_st {S S' : State} (hs : ∀ t, Steps p.tables e below S' t → Steps p.tables e below S t) (K : own_G p e below E S') : own_G p e below E S := by
  obtain ⟨t, o, h1, r⟩ := K
  exact ⟨t, o, hs t h1, r⟩
theorem own_S.x (Y : own_S Z y bytes maxL ret p l e R s m args below meth c T h locs cells slots) : p.tables.exec = Jvm.exec := Y.1.1
theorem own_S.d (Y : own_S Z y bytes maxL ret p l e R s m args below meth c T h locs cells slots) {pc : Nat} {r : Except ClassFile.DecodeError (ClassFile.Instr × Nat)} (hd : decode bytes pc = r) : decode c.code pc = r := hb Y.1.2.1 hd
theorem own_S.own (Y : own_S Z y bytes maxL ret p l e R s m args below meth c T h locs cells slots) : s.vm.findClass y.cls = some m.cls := Y.1.2.2.2.1
theorem own_S.warm (Y : own_S Z y bytes maxL ret p l e R s m args below meth c T h locs cells slots) : Z.Warmed39 s.vm := Y.1.2.2.2.2.1
theorem own_S.X (Y : own_S Z y bytes maxL ret p l e R s m args below meth c T h locs cells slots) : Stand p l e R s m args below meth c T locs cells slots := Y.2.1
theorem own_S.eT (Y : own_S Z y bytes maxL ret p l e R s m args below meth c T h locs cells slots) : T.heap = h := Y.2.2
/-- the contract of a body -/
def own_M (l : Launch) (y : MethodName) (bytes : ByteArray) (maxL : Nat) (ret : Option FieldType) (ws : List Jvm.Cond) (rm : Room) (Z : State) (as' : Array Value) (h : Heap) (Q : Option Value → Heap → List Loc → Prop) : Prop :=
  MetFree l y (head1 (Jvm.Cond.code y bytes maxL ret :: ws) rm) (fun a U => a = as' ∧ Z.Warmed39 U.vm ∧ U.heap = h) (fun _ _ _ _ _ => True) (fun _ U o U' => ∃ v L, o = .returned v ∧ Q v U'.heap L ∧ FrameEnd U o U' L rm.cells rm.slots)
theorem own_met {ws : List Jvm.Cond} {rm : Room} {as' : Array Value} (hp : plainFor y = true) {Lf : Array Slot} (hE : ∀ m, entryFrame m as' maxL = mkF m 0 Lf [])
    (body : ∀ p e s m below meth c T, own_S Z y bytes maxL ret p l e rm s m as' below meth c T h [] 0 0 → own_G p e below (own_E s Q rm.cells rm.slots) (T.setTop (mkF m 0 Lf []))) : own_M l y bytes maxL ret ws rm Z as' h Q := by
  refine MetFree.of_bodySF (maxLocals := maxL) hp hisR ?_
  intro p e s m args below meth c s₁ Bd hml0 hP hK
  obtain ⟨rfl, hZ, hh⟩ := hP
  obtain ⟨t, o, h1, h2, h3, h4⟩ := body p e s m below meth c s₁ ⟨⟨Bd.exec, Bd.bytes, hml0, findClass_of_methodNamed Bd.named, hZ, Bd.returns, Bd.notSynchronized, (name_of_methodNamed Bd.named Bd.method).1⟩, Stand.of_body Bd, by rw [← hh, Bd.state]; rfl⟩
  exact ⟨t, o, castTop (hE m) h1, h2, h3, h4⟩
theorem own_wd {ts : List Jvm.Cond} (hw : ∀ d ∈ ts, d.before a0 Z = true) (i : Nat) {d : Jvm.Cond} (hi : ts[i]? = some d) : d.before a0 Z = true := hw d (List.mem_of_getElem? hi)
theorem own_M.weak {ws : List Jvm.Cond} {rm : Room} {as' : Array Value} {Q' : Option Value → Heap → List Loc → Prop} (M : own_M l y bytes maxL ret ws rm Z as' h Q) (hQ : ∀ v h' L, Q v h' L → Q' v h' L) : own_M l y bytes maxL ret ws rm Z as' h Q' := by
  intro p e ha hc hk s m args below hf happ hP hK
  obtain ⟨n, o, h1, h2, h3, v, L, h4, h5, h6⟩ := M p e ha hc hk s m args below hf happ hP hK
  exact ⟨n, o, h1, h2, h3, v, L, h4, hQ _ _ _ h5, h6⟩
theorem own_aloadN (pc' : Nat) (Y : own_S Z y bytes maxL ret p l e R s m args below meth c T h locs cells slots) {k : Fin 4} {v : Value} (hd : decode bytes pc = .ok (.aload_n k, 1)) (hl : Ls[k.val]? = some (.val v)) (hv : v.isRef = true) (hp : pc + 1 = pc') (K : own_G p e below E (T.setTop (mkF m pc' Ls (v :: st)))) : own_G p e below E (T.setTop (mkF m pc Ls (st))) := by
  subst hp
  exact own_st (fun t k => XS.aloadN Y.X.here Y.x rfl (Y.d hd) hl hv k) K
theorem own_aload (pc' : Nat) (Y : own_S Z y bytes maxL ret p l e R s m args below meth c T h locs cells slots) {k : Nat} {v : Value} (hd : decode bytes pc = .ok (.aload k, 2)) (hl : Ls[k]? = some (.val v)) (hv : v.isRef = true) (hp : pc + 2 = pc') (K : own_G p e below E (T.setTop (mkF m pc' Ls (v :: st)))) : own_G p e below E (T.setTop (mkF m pc Ls (st))) := by
  subst hp
  exact own_st (fun t k => XS.aload Y.X.here Y.x rfl (Y.d hd) hl hv k) K
theorem own_iloadN (pc' : Nat) (Y : own_S Z y bytes maxL ret p l e R s m args below meth c T h locs cells slots) {k : Fin 4} {v : Int32} (hd : decode bytes pc = .ok (.iload_n k, 1)) (hl : Ls[k.val]? = some (.val (.int v))) (hp : pc + 1 = pc') (K : own_G p e below E (T.setTop (mkF m pc' Ls (.int v :: st)))) : own_G p e below E (T.setTop (mkF m pc Ls (st))) := by
  subst hp
  exact own_st (fun t k => XS.iloadN Y.X.here Y.x rfl (Y.d hd) hl k) K
theorem own_iload (pc' : Nat) (Y : own_S Z y bytes maxL ret p l e R s m args below meth c T h locs cells slots) {k : Nat} {v : Int32} (hd : decode bytes pc = .ok (.iload k, 2)) (hl : Ls[k]? = some (.val (.int v))) (hp : pc + 2 = pc') (K : own_G p e below E (T.setTop (mkF m pc' Ls (.int v :: st)))) : own_G p e below E (T.setTop (mkF m pc Ls (st))) := by
  subst hp
  exact own_st (fun t k => XS.iload Y.X.here Y.x rfl (Y.d hd) hl k) K
theorem own_lloadN (pc' : Nat) (Y : own_S Z y bytes maxL ret p l e R s m args below meth c T h locs cells slots) {k : Fin 4} {v : Int64} (hd : decode bytes pc = .ok (.lload_n k, 1)) (hl : Ls[k.val]? = some (.val (.long v))) (hp : pc + 1 = pc') (K : own_G p e below E (T.setTop (mkF m pc' Ls (.long v :: st)))) : own_G p e below E (T.setTop (mkF m pc Ls (st))) := by
  subst hp
  exact own_st (fun t k => XS.lloadN Y.X.here Y.x rfl (Y.d hd) hl k) K
theorem own_lload (pc' : Nat) (Y : own_S Z y bytes maxL ret p l e R s m args below meth c T h locs cells slots) {k : Nat} {v : Int64} (hd : decode bytes pc = .ok (.lload k, 2)) (hl : Ls[k]? = some (.val (.long v))) (hp : pc + 2 = pc') (K : own_G p e below E (T.setTop (mkF m pc' Ls (.long v :: st)))) : own_G p e below E (T.setTop (mkF m pc Ls (st))) := by
  subst hp
  exact own_st (fun t k => XS.lload Y.X.here Y.x rfl (Y.d hd) hl k) K
theorem own_iconst (pc' : Nat) (Y : own_S Z y bytes maxL ret p l e R s m args below meth c T h locs cells slots) {i : Int} (v : Int32) (hd : decode bytes pc = .ok (.iconst i, 1)) (hv : Int32.ofInt i = v) (hp : pc + 1 = pc') (K : own_G p e below E (T.setTop (mkF m pc' Ls (.int v :: st)))) : own_G p e below E (T.setTop (mkF m pc Ls (st))) := by
  subst hp
  exact own_st (fun t k => XT.iconstV Y.X.here Y.x rfl v (Y.d hd) hv k) K
theorem own_bipush (pc' : Nat) (Y : own_S Z y bytes maxL ret p l e R s m args below meth c T h locs cells slots) {i : Int} (v : Int32) (hd : decode bytes pc = .ok (.bipush i, 2)) (hv : (Int8.ofInt i).toInt32 = v) (hp : pc + 2 = pc') (K : own_G p e below E (T.setTop (mkF m pc' Ls (.int v :: st)))) : own_G p e below E (T.setTop (mkF m pc Ls (st))) := by
  subst hp
  exact own_st (fun t k => XT.bipushV Y.X.here Y.x rfl v (Y.d hd) hv k) K
theorem own_sipush (pc' : Nat) (Y : own_S Z y bytes maxL ret p l e R s m args below meth c T h locs cells slots) {i : Int} (v : Int32) (hd : decode bytes pc = .ok (.sipush i, 3)) (hv : (Int16.ofInt i).toInt32 = v) (hp : pc + 3 = pc') (K : own_G p e below E (T.setTop (mkF m pc' Ls (.int v :: st)))) : own_G p e below E (T.setTop (mkF m pc Ls (st))) := by
  subst hp
  exact own_st (fun t k => XT.sipushV Y.X.here Y.x rfl v (Y.d hd) hv k) K
theorem own_lconst (pc' : Nat) (Y : own_S Z y bytes maxL ret p l e R s m args below meth c T h locs cells slots) {i : Fin 2} (v : Int64) (hd : decode bytes pc = .ok (.lconst i, 1)) (hv : Int64.ofNat i = v) (hp : pc + 1 = pc') (K : own_G p e below E (T.setTop (mkF m pc' Ls (.long v :: st)))) : own_G p e below E (T.setTop (mkF m pc Ls (st))) := by
  subst hp
  exact own_st (fun t k => XT.lconstV Y.X.here Y.x rfl v (Y.d hd) hv k) K
theorem own_aconst_null (pc' : Nat) (Y : own_S Z y bytes maxL ret p l e R s m args below meth c T h locs cells slots)  (hd : decode bytes pc = .ok (.aconst_null, 1))  (hp : pc + 1 = pc') (K : own_G p e below E (T.setTop (mkF m pc' Ls (.null :: st)))) : own_G p e below E (T.setTop (mkF m pc Ls (st))) := by
  subst hp
  exact own_st (fun t k => XS.aconstNull Y.X.here Y.x rfl (Y.d hd) k) K
theorem own_iadd (pc' : Nat) (Y : own_S Z y bytes maxL ret p l e R s m args below meth c T h locs cells slots) {x z : Int32} (hd : decode bytes pc = .ok (.iadd, 1))  (hp : pc + 1 = pc') (K : own_G p e below E (T.setTop (mkF m pc' Ls (.int (x + z) :: st)))) : own_G p e below E (T.setTop (mkF m pc Ls (.int z :: .int x :: st))) := by
  subst hp
  exact own_st (fun t k => XS.iadd Y.X.here Y.x rfl (Y.d hd) rfl k) K
theorem own_isub (pc' : Nat) (Y : own_S Z y bytes maxL ret p l e R s m args below meth c T h locs cells slots) {x z : Int32} (hd : decode bytes pc = .ok (.isub, 1))  (hp : pc + 1 = pc') (K : own_G p e below E (T.setTop (mkF m pc' Ls (.int (x - z) :: st)))) : own_G p e below E (T.setTop (mkF m pc Ls (.int z :: .int x :: st))) := by
  subst hp
  exact own_st (fun t k => XS.isub Y.X.here Y.x rfl (Y.d hd) rfl k) K
theorem own_imul (pc' : Nat) (Y : own_S Z y bytes maxL ret p l e R s m args below meth c T h locs cells slots) {x z : Int32} (hd : decode bytes pc = .ok (.imul, 1))  (hp : pc + 1 = pc') (K : own_G p e below E (T.setTop (mkF m pc' Ls (.int (x * z) :: st)))) : own_G p e below E (T.setTop (mkF m pc Ls (.int z :: .int x :: st))) := by
  subst hp
  exact own_st (fun t k => XS.imul Y.X.here Y.x rfl (Y.d hd) rfl k) K
theorem own_iand (pc' : Nat) (Y : own_S Z y bytes maxL ret p l e R s m args below meth c T h locs cells slots) {x z : Int32} (hd : decode bytes pc = .ok (.iand, 1))  (hp : pc + 1 = pc') (K : own_G p e below E (T.setTop (mkF m pc' Ls (.int (x &&& z) :: st)))) : own_G p e below E (T.setTop (mkF m pc Ls (.int z :: .int x :: st))) := by
  subst hp
  exact own_st (fun t k => XS.iand Y.X.here Y.x rfl (Y.d hd) rfl k) K
theorem own_ior (pc' : Nat) (Y : own_S Z y bytes maxL ret p l e R s m args below meth c T h locs cells slots) {x z : Int32} (hd : decode bytes pc = .ok (.ior, 1))  (hp : pc + 1 = pc') (K : own_G p e below E (T.setTop (mkF m pc' Ls (.int (x ||| z) :: st)))) : own_G p e below E (T.setTop (mkF m pc Ls (.int z :: .int x :: st))) := by
  subst hp
  exact own_st (fun t k => XS.ior Y.X.here Y.x rfl (Y.d hd) rfl k) K
theorem own_ixor (pc' : Nat) (Y : own_S Z y bytes maxL ret p l e R s m args below meth c T h locs cells slots) {x z : Int32} (hd : decode bytes pc = .ok (.ixor, 1))  (hp : pc + 1 = pc') (K : own_G p e below E (T.setTop (mkF m pc' Ls (.int (x ^^^ z) :: st)))) : own_G p e below E (T.setTop (mkF m pc Ls (.int z :: .int x :: st))) := by
  subst hp
  exact own_st (fun t k => XS.ixor Y.X.here Y.x rfl (Y.d hd) rfl k) K
theorem own_ishl (pc' : Nat) (Y : own_S Z y bytes maxL ret p l e R s m args below meth c T h locs cells slots) {x z : Int32} (hd : decode bytes pc = .ok (.ishl, 1))  (hp : pc + 1 = pc') (K : own_G p e below E (T.setTop (mkF m pc' Ls (.int (x <<< (z &&& 31)) :: st)))) : own_G p e below E (T.setTop (mkF m pc Ls (.int z :: .int x :: st))) := by
  subst hp
  exact own_st (fun t k => XS.ishl Y.X.here Y.x rfl (Y.d hd) rfl k) K
theorem own_ishr (pc' : Nat) (Y : own_S Z y bytes maxL ret p l e R s m args below meth c T h locs cells slots) {x z : Int32} (hd : decode bytes pc = .ok (.ishr, 1))  (hp : pc + 1 = pc') (K : own_G p e below E (T.setTop (mkF m pc' Ls (.int (x >>> (z &&& 31)) :: st)))) : own_G p e below E (T.setTop (mkF m pc Ls (.int z :: .int x :: st))) := by
  subst hp
  exact own_st (fun t k => XS.ishr Y.X.here Y.x rfl (Y.d hd) rfl k) K
theorem own_iushr (pc' : Nat) (Y : own_S Z y bytes maxL ret p l e R s m args below meth c T h locs cells slots) {x z : Int32} (hd : decode bytes pc = .ok (.iushr, 1))  (hp : pc + 1 = pc') (K : own_G p e below E (T.setTop (mkF m pc' Ls (.int ((x.toUInt32 >>> (z &&& 31).toUInt32).toInt32) :: st)))) : own_G p e below E (T.setTop (mkF m pc Ls (.int z :: .int x :: st))) := by
  subst hp
  exact own_st (fun t k => XS.iushr Y.X.here Y.x rfl (Y.d hd) rfl k) K
theorem own_ladd (pc' : Nat) (Y : own_S Z y bytes maxL ret p l e R s m args below meth c T h locs cells slots) {x z : Int64} (hd : decode bytes pc = .ok (.ladd, 1))  (hp : pc + 1 = pc') (K : own_G p e below E (T.setTop (mkF m pc' Ls (.long (x + z) :: st)))) : own_G p e below E (T.setTop (mkF m pc Ls (.long z :: .long x :: st))) := by
  subst hp
  exact own_st (fun t k => XS.ladd Y.X.here Y.x rfl (Y.d hd) rfl k) K
theorem own_lsub (pc' : Nat) (Y : own_S Z y bytes maxL ret p l e R s m args below meth c T h locs cells slots) {x z : Int64} (hd : decode bytes pc = .ok (.lsub, 1))  (hp : pc + 1 = pc') (K : own_G p e below E (T.setTop (mkF m pc' Ls (.long (x - z) :: st)))) : own_G p e below E (T.setTop (mkF m pc Ls (.long z :: .long x :: st))) := by
  subst hp
  exact own_st (fun t k => XS.lsub Y.X.here Y.x rfl (Y.d hd) rfl k) K
theorem own_lmul (pc' : Nat) (Y : own_S Z y bytes maxL ret p l e R s m args below meth c T h locs cells slots) {x z : Int64} (hd : decode bytes pc = .ok (.lmul, 1))  (hp : pc + 1 = pc') (K : own_G p e below E (T.setTop (mkF m pc' Ls (.long (x * z) :: st)))) : own_G p e below E (T.setTop (mkF m pc Ls (.long z :: .long x :: st))) := by
  subst hp
  exact own_st (fun t k => XS.lmul Y.X.here Y.x rfl (Y.d hd) rfl k) K
theorem own_land (pc' : Nat) (Y : own_S Z y bytes maxL ret p l e R s m args below meth c T h locs cells slots) {x z : Int64} (hd : decode bytes pc = .ok (.land, 1))  (hp : pc + 1 = pc') (K : own_G p e below E (T.setTop (mkF m pc' Ls (.long (x &&& z) :: st)))) : own_G p e below E (T.setTop (mkF m pc Ls (.long z :: .long x :: st))) := by
  subst hp
  exact own_st (fun t k => XS.land Y.X.here Y.x rfl (Y.d hd) rfl k) K
theorem own_lor (pc' : Nat) (Y : own_S Z y bytes maxL ret p l e R s m args below meth c T h locs cells slots) {x z : Int64} (hd : decode bytes pc = .ok (.lor, 1))  (hp : pc + 1 = pc') (K : own_G p e below E (T.setTop (mkF m pc' Ls (.long (x ||| z) :: st)))) : own_G p e below E (T.setTop (mkF m pc Ls (.long z :: .long x :: st))) := by
  subst hp
  exact own_st (fun t k => XS.lor Y.X.here Y.x rfl (Y.d hd) rfl k) K
theorem own_lxor (pc' : Nat) (Y : own_S Z y bytes maxL ret p l e R s m args below meth c T h locs cells slots) {x z : Int64} (hd : decode bytes pc = .ok (.lxor, 1))  (hp : pc + 1 = pc') (K : own_G p e below E (T.setTop (mkF m pc' Ls (.long (x ^^^ z) :: st)))) : own_G p e below E (T.setTop (mkF m pc Ls (.long z :: .long x :: st))) := by
  subst hp
  exact own_st (fun t k => XS.lxor Y.X.here Y.x rfl (Y.d hd) rfl k) K
theorem own_lshl (pc' : Nat) (Y : own_S Z y bytes maxL ret p l e R s m args below meth c T h locs cells slots) {x : Int64} {z : Int32} (hd : decode bytes pc = .ok (.lshl, 1))  (hp : pc + 1 = pc') (K : own_G p e below E (T.setTop (mkF m pc' Ls (.long (x <<< (z &&& 0x3f).toInt64) :: st)))) : own_G p e below E (T.setTop (mkF m pc Ls (.int z :: .long x :: st))) := by
  subst hp
  exact own_st (fun t k => XS.lshl Y.X.here Y.x rfl (Y.d hd) rfl k) K
theorem own_lshr (pc' : Nat) (Y : own_S Z y bytes maxL ret p l e R s m args below meth c T h locs cells slots) {x : Int64} {z : Int32} (hd : decode bytes pc = .ok (.lshr, 1))  (hp : pc + 1 = pc') (K : own_G p e below E (T.setTop (mkF m pc' Ls (.long (x >>> (z &&& 0x3f).toInt64) :: st)))) : own_G p e below E (T.setTop (mkF m pc Ls (.int z :: .long x :: st))) := by
  subst hp
  exact own_st (fun t k => XS.lshr Y.X.here Y.x rfl (Y.d hd) rfl k) K
theorem own_lushr (pc' : Nat) (Y : own_S Z y bytes maxL ret p l e R s m args below meth c T h locs cells slots) {x : Int64} {z : Int32} (hd : decode bytes pc = .ok (.lushr, 1))  (hp : pc + 1 = pc') (K : own_G p e below E (T.setTop (mkF m pc' Ls (.long ((x.toUInt64 >>> (z &&& 0x3f).toInt64.toUInt64).toInt64) :: st)))) : own_G p e below E (T.setTop (mkF m pc Ls (.int z :: .long x :: st))) := by
  subst hp
  exact own_st (fun t k => XS.lushr Y.X.here Y.x rfl (Y.d hd) rfl k) K
theorem own_idiv (pc' : Nat) (Y : own_S Z y bytes maxL ret p l e R s m args below meth c T h locs cells slots) {x z : Int32} (hd : decode bytes pc = .ok (.idiv, 1)) (hz : z ≠ 0) (hp : pc + 1 = pc') (K : own_G p e below E (T.setTop (mkF m pc' Ls (.int (x / z) :: st)))) : own_G p e below E (T.setTop (mkF m pc Ls (.int z :: .int x :: st))) := by
  subst hp
  exact own_st (fun t k => XS.idiv Y.X.here Y.x rfl (Y.d hd) rfl hz k) K
theorem own_irem (pc' : Nat) (Y : own_S Z y bytes maxL ret p l e R s m args below meth c T h locs cells slots) {x z : Int32} (hd : decode bytes pc = .ok (.irem, 1)) (hz : z ≠ 0) (hp : pc + 1 = pc') (K : own_G p e below E (T.setTop (mkF m pc' Ls (.int (x % z) :: st)))) : own_G p e below E (T.setTop (mkF m pc Ls (.int z :: .int x :: st))) := by
  subst hp
  exact own_st (fun t k => iremM Y.X Y.x rfl (Y.d hd) rfl hz k) K
theorem own_ldiv (pc' : Nat) (Y : own_S Z y bytes maxL ret p l e R s m args below meth c T h locs cells slots) {x z : Int64} (hd : decode bytes pc = .ok (.ldiv, 1)) (hz : z ≠ 0) (hp : pc + 1 = pc') (K : own_G p e below E (T.setTop (mkF m pc' Ls (.long (x / z) :: st)))) : own_G p e below E (T.setTop (mkF m pc Ls (.long z :: .long x :: st))) := by
  subst hp
  exact own_st (fun t k => XS.ldiv Y.X.here Y.x rfl (Y.d hd) rfl hz k) K
theorem own_lrem (pc' : Nat) (Y : own_S Z y bytes maxL ret p l e R s m args below meth c T h locs cells slots) {x z : Int64} (hd : decode bytes pc = .ok (.lrem, 1)) (hz : z ≠ 0) (hp : pc + 1 = pc') (K : own_G p e below E (T.setTop (mkF m pc' Ls (.long (x - (x / z) * z) :: st)))) : own_G p e below E (T.setTop (mkF m pc Ls (.long z :: .long x :: st))) := by
  subst hp
  exact own_st (fun t k => XS.lrem Y.X.here Y.x rfl (Y.d hd) rfl hz k) K
theorem own_ineg (pc' : Nat) (Y : own_S Z y bytes maxL ret p l e R s m args below meth c T h locs cells slots) {x : Int32} (hd : decode bytes pc = .ok (.ineg, 1))  (hp : pc + 1 = pc') (K : own_G p e below E (T.setTop (mkF m pc' Ls (.int (-x) :: st)))) : own_G p e below E (T.setTop (mkF m pc Ls (.int x :: st))) := by
  subst hp
  exact own_st (fun t k => XS.ineg Y.X.here Y.x rfl (Y.d hd) rfl k) K
theorem own_i2b (pc' : Nat) (Y : own_S Z y bytes maxL ret p l e R s m args below meth c T h locs cells slots) {x : Int32} (hd : decode bytes pc = .ok (.i2b, 1))  (hp : pc + 1 = pc') (K : own_G p e below E (T.setTop (mkF m pc' Ls (.int (x.toInt8.toInt32) :: st)))) : own_G p e below E (T.setTop (mkF m pc Ls (.int x :: st))) := by
  subst hp
  exact own_st (fun t k => XS.i2b Y.X.here Y.x rfl (Y.d hd) rfl k) K
theorem own_i2c (pc' : Nat) (Y : own_S Z y bytes maxL ret p l e R s m args below meth c T h locs cells slots) {x : Int32} (hd : decode bytes pc = .ok (.i2c, 1))  (hp : pc + 1 = pc') (K : own_G p e below E (T.setTop (mkF m pc' Ls (.int (x.toUInt32.toUInt16.toUInt32.toInt32) :: st)))) : own_G p e below E (T.setTop (mkF m pc Ls (.int x :: st))) := by
  subst hp
  exact own_st (fun t k => XS.i2c Y.X.here Y.x rfl (Y.d hd) rfl k) K
theorem own_i2s (pc' : Nat) (Y : own_S Z y bytes maxL ret p l e R s m args below meth c T h locs cells slots) {x : Int32} (hd : decode bytes pc = .ok (.i2s, 1))  (hp : pc + 1 = pc') (K : own_G p e below E (T.setTop (mkF m pc' Ls (.int (x.toInt16.toInt32) :: st)))) : own_G p e below E (T.setTop (mkF m pc Ls (.int x :: st))) := by
  subst hp
  exact own_st (fun t k => XS.i2s Y.X.here Y.x rfl (Y.d hd) rfl k) K
theorem own_i2l (pc' : Nat) (Y : own_S Z y bytes maxL ret p l e R s m args below meth c T h locs cells slots) {x : Int32} (hd : decode bytes pc = .ok (.i2l, 1))  (hp : pc + 1 = pc') (K : own_G p e below E (T.setTop (mkF m pc' Ls (.long x.toInt64 :: st)))) : own_G p e below E (T.setTop (mkF m pc Ls (.int x :: st))) := by
  subst hp
  exact own_st (fun t k => XS.i2l Y.X.here Y.x rfl (Y.d hd) rfl k) K
theorem own_l2i (pc' : Nat) (Y : own_S Z y bytes maxL ret p l e R s m args below meth c T h locs cells slots) {x : Int64} (hd : decode bytes pc = .ok (.l2i, 1))  (hp : pc + 1 = pc') (K : own_G p e below E (T.setTop (mkF m pc' Ls (.int x.toInt32 :: st)))) : own_G p e below E (T.setTop (mkF m pc Ls (.long x :: st))) := by
  subst hp
  exact own_st (fun t k => XS.l2i Y.X.here Y.x rfl (Y.d hd) rfl k) K
theorem own_lneg (pc' : Nat) (Y : own_S Z y bytes maxL ret p l e R s m args below meth c T h locs cells slots) {x : Int64} (hd : decode bytes pc = .ok (.lneg, 1))  (hp : pc + 1 = pc') (K : own_G p e below E (T.setTop (mkF m pc' Ls (.long (-x) :: st)))) : own_G p e below E (T.setTop (mkF m pc Ls (.long x :: st))) := by
  subst hp
  exact own_st (fun t k => XS.lneg Y.X.here Y.x rfl (Y.d hd) rfl k) K
theorem own_lcmp (pc' : Nat) (Y : own_S Z y bytes maxL ret p l e R s m args below meth c T h locs cells slots) {x z : Int64} (hd : decode bytes pc = .ok (.lcmp, 1))  (hp : pc + 1 = pc') (K : own_G p e below E (T.setTop (mkF m pc' Ls (.int (lcmpW x z) :: st)))) : own_G p e below E (T.setTop (mkF m pc Ls (.long z :: .long x :: st))) := by
  subst hp
  exact own_st (fun t k => XS.lcmp Y.X.here Y.x rfl (Y.d hd) rfl k) K
theorem own_dup (pc' : Nat) (Y : own_S Z y bytes maxL ret p l e R s m args below meth c T h locs cells slots) {x : Value} (hd : decode bytes pc = .ok (.dup, 1)) (hc : x.category = 1) (hp : pc + 1 = pc') (K : own_G p e below E (T.setTop (mkF m pc' Ls (x :: x :: st)))) : own_G p e below E (T.setTop (mkF m pc Ls (x :: st))) := by
  subst hp
  exact own_st (fun t k => XS.dup Y.X.here Y.x rfl (Y.d hd) rfl hc k) K
theorem own_dupX1 (pc' : Nat) (Y : own_S Z y bytes maxL ret p l e R s m args below meth c T h locs cells slots) {x z : Value} (hd : decode bytes pc = .ok (.dup_x1, 1)) (hc : x.category = 1) (hc' : z.category = 1) (hp : pc + 1 = pc') (K : own_G p e below E (T.setTop (mkF m pc' Ls (x :: z :: x :: st)))) : own_G p e below E (T.setTop (mkF m pc Ls (x :: z :: st))) := by
  subst hp
  exact own_st (fun t k => XS.dupX1 Y.X.here Y.x rfl (Y.d hd) rfl hc hc' k) K
theorem own_pop (pc' : Nat) (Y : own_S Z y bytes maxL ret p l e R s m args below meth c T h locs cells slots) {x : Value} (hd : decode bytes pc = .ok (.pop, 1)) (hc : x.category = 1) (hp : pc + 1 = pc') (K : own_G p e below E (T.setTop (mkF m pc' Ls (st)))) : own_G p e below E (T.setTop (mkF m pc Ls (x :: st))) := by
  subst hp
  exact own_st (fun t k => XS.pop Y.X.here Y.x rfl (Y.d hd) rfl hc k) K
theorem own_istoreN (pc' : Nat) (Y : own_S Z y bytes maxL ret p l e R s m args below meth c T h locs cells slots) (Ls' : Array Slot) {k : Fin 4} {x : Int32} (hd : decode bytes pc = .ok (.istore_n k, 1)) (hl : storeLocals Ls k.val (.int x) = some Ls') (hp : pc + 1 = pc') (K : own_G p e below E (T.setTop (mkF m pc' Ls' (st)))) : own_G p e below E (T.setTop (mkF m pc Ls (.int x :: st))) := by
  subst hp
  exact own_st (fun t k => XS.istoreN Y.X.here Y.x rfl (Y.d hd) rfl hl k) K
theorem own_istore (pc' : Nat) (Y : own_S Z y bytes maxL ret p l e R s m args below meth c T h locs cells slots) (Ls' : Array Slot) {k : Nat} {x : Int32} (hd : decode bytes pc = .ok (.istore k, 2)) (hl : storeLocals Ls k (.int x) = some Ls') (hp : pc + 2 = pc') (K : own_G p e below E (T.setTop (mkF m pc' Ls' (st)))) : own_G p e below E (T.setTop (mkF m pc Ls (.int x :: st))) := by
  subst hp
  exact own_st (fun t k => XS.istore Y.X.here Y.x rfl (Y.d hd) rfl hl k) K
theorem own_lstoreN (pc' : Nat) (Y : own_S Z y bytes maxL ret p l e R s m args below meth c T h locs cells slots) (Ls' : Array Slot) {k : Fin 4} {x : Int64} (hd : decode bytes pc = .ok (.lstore_n k, 1)) (hl : storeLocals Ls k.val (.long x) = some Ls') (hp : pc + 1 = pc') (K : own_G p e below E (T.setTop (mkF m pc' Ls' (st)))) : own_G p e below E (T.setTop (mkF m pc Ls (.long x :: st))) := by
  subst hp
  exact own_st (fun t k => XS.lstoreN Y.X.here Y.x rfl (Y.d hd) rfl hl k) K
theorem own_lstore (pc' : Nat) (Y : own_S Z y bytes maxL ret p l e R s m args below meth c T h locs cells slots) (Ls' : Array Slot) {k : Nat} {x : Int64} (hd : decode bytes pc = .ok (.lstore k, 2)) (hl : storeLocals Ls k (.long x) = some Ls') (hp : pc + 2 = pc') (K : own_G p e below E (T.setTop (mkF m pc' Ls' (st)))) : own_G p e below E (T.setTop (mkF m pc Ls (.long x :: st))) := by
  subst hp
  exact own_st (fun t k => XS.lstore Y.X.here Y.x rfl (Y.d hd) rfl hl k) K
theorem own_astoreN (pc' : Nat) (Y : own_S Z y bytes maxL ret p l e R s m args below meth c T h locs cells slots) (Ls' : Array Slot) {k : Fin 4} {x : Value} (hd : decode bytes pc = .ok (.astore_n k, 1)) (hv : x.isRef = true) (hl : storeLocals Ls k.val (x) = some Ls') (hp : pc + 1 = pc') (K : own_G p e below E (T.setTop (mkF m pc' Ls' (st)))) : own_G p e below E (T.setTop (mkF m pc Ls (x :: st))) := by
  subst hp
  exact own_st (fun t k => XS.astoreN Y.X.here Y.x rfl (Y.d hd) rfl hv hl k) K
theorem own_astore (pc' : Nat) (Y : own_S Z y bytes maxL ret p l e R s m args below meth c T h locs cells slots) (Ls' : Array Slot) {k : Nat} {x : Value} (hd : decode bytes pc = .ok (.astore k, 2)) (hv : x.isRef = true) (hl : storeLocals Ls k (x) = some Ls') (hp : pc + 2 = pc') (K : own_G p e below E (T.setTop (mkF m pc' Ls' (st)))) : own_G p e below E (T.setTop (mkF m pc Ls (x :: st))) := by
  subst hp
  exact own_st (fun t k => XS.astore Y.X.here Y.x rfl (Y.d hd) rfl hv hl k) K
theorem own_iinc (pc' : Nat) (Y : own_S Z y bytes maxL ret p l e R s m args below meth c T h locs cells slots) (Ls' : Array Slot) (v : Int32) {k : Nat} {cst : Int} {x : Int32} (hd : decode bytes pc = .ok (.iinc k cst, 3)) (hv : Int32.ofInt cst = v) (hl : Ls[k]? = some (.val (.int x))) (hl' : storeLocals Ls k (.int (x + v)) = some Ls') (hp : pc + 3 = pc') (K : own_G p e below E (T.setTop (mkF m pc' Ls' (st)))) : own_G p e below E (T.setTop (mkF m pc Ls (st))) := by
  subst hp
  exact own_st (fun t k => XT.iincV Y.X.here Y.x rfl v (Y.d hd) hv hl hl' k) K
theorem own_dloadN (pc' : Nat) (Y : own_S Z y bytes maxL ret p l e R s m args below meth c T h locs cells slots) {k : Fin 4} {v : UInt64} (hd : decode bytes pc = .ok (.dload_n k, 1)) (hl : Ls[k.val]? = some (.val (.double v))) (hp : pc + 1 = pc') (K : own_G p e below E (T.setTop (mkF m pc' Ls (.double v :: st)))) : own_G p e below E (T.setTop (mkF m pc Ls (st))) := by
  subst hp
  exact own_st (fun t k => XS.dloadN Y.X.here Y.x rfl (Y.d hd) hl k) K
theorem own_dload (pc' : Nat) (Y : own_S Z y bytes maxL ret p l e R s m args below meth c T h locs cells slots) {k : Nat} {v : UInt64} (hd : decode bytes pc = .ok (.dload k, 2)) (hl : Ls[k]? = some (.val (.double v))) (hp : pc + 2 = pc') (K : own_G p e below E (T.setTop (mkF m pc' Ls (.double v :: st)))) : own_G p e below E (T.setTop (mkF m pc Ls (st))) := by
  subst hp
  exact own_st (fun t k => XS.dload Y.X.here Y.x rfl (Y.d hd) hl k) K
theorem own_dstoreN (pc' : Nat) (Y : own_S Z y bytes maxL ret p l e R s m args below meth c T h locs cells slots) (Ls' : Array Slot) {k : Fin 4} {x : UInt64} (hd : decode bytes pc = .ok (.dstore_n k, 1)) (hl : storeLocals Ls k.val (.double x) = some Ls') (hp : pc + 1 = pc') (K : own_G p e below E (T.setTop (mkF m pc' Ls' (st)))) : own_G p e below E (T.setTop (mkF m pc Ls (.double x :: st))) := by
  subst hp
  exact own_st (fun t k => XS.dstoreN Y.X.here Y.x rfl (Y.d hd) rfl hl k) K
theorem own_dstore (pc' : Nat) (Y : own_S Z y bytes maxL ret p l e R s m args below meth c T h locs cells slots) (Ls' : Array Slot) {k : Nat} {x : UInt64} (hd : decode bytes pc = .ok (.dstore k, 2)) (hl : storeLocals Ls k (.double x) = some Ls') (hp : pc + 2 = pc') (K : own_G p e below E (T.setTop (mkF m pc' Ls' (st)))) : own_G p e below E (T.setTop (mkF m pc Ls (.double x :: st))) := by
  subst hp
  exact own_st (fun t k => XS.dstore Y.X.here Y.x rfl (Y.d hd) rfl hl k) K
theorem own_i2d (pc' : Nat) (Y : own_S Z y bytes maxL ret p l e R s m args below meth c T h locs cells slots) {x : Int32} (hd : decode bytes pc = .ok (.i2d, 1))  (hp : pc + 1 = pc') (K : own_G p e below E (T.setTop (mkF m pc' Ls (.double (FP.l2d x.toInt64) :: st)))) : own_G p e below E (T.setTop (mkF m pc Ls (.int x :: st))) := by
  subst hp
  exact own_st (fun t k => XS.i2dS Y.X.here Y.x rfl (Y.d hd) rfl (i2d_w x) k) K
theorem own_l2d (pc' : Nat) (Y : own_S Z y bytes maxL ret p l e R s m args below meth c T h locs cells slots) {x : Int64} (hd : decode bytes pc = .ok (.l2d, 1))  (hp : pc + 1 = pc') (K : own_G p e below E (T.setTop (mkF m pc' Ls (.double (FP.l2d x) :: st)))) : own_G p e below E (T.setTop (mkF m pc Ls (.long x :: st))) := by
  subst hp
  exact own_st (fun t k => XS.l2dS Y.X.here Y.x rfl (Y.d hd) rfl rfl k) K
theorem own_dsub (pc' : Nat) (Y : own_S Z y bytes maxL ret p l e R s m args below meth c T h locs cells slots) {x z : Int64} (hbx : B53 x) (hbz : B53 z) (hd : decode bytes pc = .ok (.dsub, 1))  (hp : pc + 1 = pc') (K : own_G p e below E (T.setTop (mkF m pc' Ls (.double (FP.l2d (x - z)) :: st)))) : own_G p e below E (T.setTop (mkF m pc Ls (.double (FP.l2d z) :: .double (FP.l2d x) :: st))) := by
  subst hp
  exact own_st (fun t k => XS.dsubS Y.X.here Y.x rfl (Y.d hd) rfl (nn_w (dsub_w hbx hbz)) (dsub_w hbx hbz) k) K
theorem own_dcmp (pc' : Nat) (Y : own_S Z y bytes maxL ret p l e R s m args below meth c T h locs cells slots) {o : CmpOp} {x z : Int64} (hbx : B53 x) (hbz : B53 z) (hd : decode bytes pc = .ok (.dcmp o, 1))  (hp : pc + 1 = pc') (K : own_G p e below E (T.setTop (mkF m pc' Ls (.int (lcmpW x z) :: st)))) : own_G p e below E (T.setTop (mkF m pc Ls (.double (FP.l2d z) :: .double (FP.l2d x) :: st))) := by
  subst hp
  exact own_st (fun t k => XS.dcmpS Y.X.here Y.x rfl (Y.d hd) rfl (dcmpV_w hbx hbz o) k) K
theorem own_pc {pc pc' : Nat} {o : Int} (hp : (pc : Int) + o = (pc' : Int)) : 0 ≤ (pc : Int) + o ∧ ((pc : Int) + o).toNat = pc' := by rw [hp]; exact ⟨Int.natCast_nonneg _, Int.toNat_natCast _⟩
theorem own_goto (pc' : Nat) (Y : own_S Z y bytes maxL ret p l e R s m args below meth c T h locs cells slots) {o : Int} (hd : decode bytes pc = .ok (.goto o, 3)) (hp : (pc : Int) + o = (pc' : Int)) (K : own_G p e below E (T.setTop (mkF m pc' Ls st))) : own_G p e below E (T.setTop (mkF m pc Ls st)) :=
  own_st (fun t k => XS.goto Y.X.here Y.x rfl rfl (Y.d hd) (own_pc hp).1 (own_pc hp).2 k) K
theorem own_ifT (pc' : Nat) (Y : own_S Z y bytes maxL ret p l e R s m args below meth c T h locs cells slots) {cd : ClassFile.Cond} {o : Int} {x : Int32} (hd : decode bytes pc = .ok (.ifCond cd o, 3)) (hc : ifCond.holds cd x = true) (hp : (pc : Int) + o = (pc' : Int)) (K : own_G p e below E (T.setTop (mkF m pc' Ls st))) : own_G p e below E (T.setTop (mkF m pc Ls (.int x :: st))) :=
  own_st (fun t k => XS.ifYes Y.X.here Y.x rfl rfl (Y.d hd) rfl hc (own_pc hp).1 (own_pc hp).2 k) K
theorem own_ifF (pc' : Nat) (Y : own_S Z y bytes maxL ret p l e R s m args below meth c T h locs cells slots) {cd : ClassFile.Cond} {o : Int} {x : Int32} (hd : decode bytes pc = .ok (.ifCond cd o, 3)) (hc : ifCond.holds cd x = false) (hp : pc + 3 = pc') (K : own_G p e below E (T.setTop (mkF m pc' Ls st))) : own_G p e below E (T.setTop (mkF m pc Ls (.int x :: st))) := by
  subst hp
  exact own_st (fun t k => XS.ifNo Y.X.here Y.x rfl (Y.d hd) rfl hc k) K
theorem own_icT (pc' : Nat) (Y : own_S Z y bytes maxL ret p l e R s m args below meth c T h locs cells slots) {cd : ClassFile.Cond} {o : Int} {x z : Int32} (hd : decode bytes pc = .ok (.if_icmp cd o, 3)) (hc : if_icmp.holds cd x z = true) (hp : (pc : Int) + o = (pc' : Int)) (K : own_G p e below E (T.setTop (mkF m pc' Ls st))) : own_G p e below E (T.setTop (mkF m pc Ls (.int z :: .int x :: st))) :=
  own_st (fun t k => XS.icmpYes Y.X.here Y.x rfl rfl (Y.d hd) rfl hc (own_pc hp).1 (own_pc hp).2 k) K
theorem own_icF (pc' : Nat) (Y : own_S Z y bytes maxL ret p l e R s m args below meth c T h locs cells slots) {cd : ClassFile.Cond} {o : Int} {x z : Int32} (hd : decode bytes pc = .ok (.if_icmp cd o, 3)) (hc : if_icmp.holds cd x z = false) (hp : pc + 3 = pc') (K : own_G p e below E (T.setTop (mkF m pc' Ls st))) : own_G p e below E (T.setTop (mkF m pc Ls (.int z :: .int x :: st))) := by
  subst hp
  exact own_st (fun t k => XS.icmpNo Y.X.here Y.x rfl (Y.d hd) rfl hc k) K
theorem own_if_eq (pc' pc'' : Nat) (Y : own_S Z y bytes maxL ret p l e R s m args below meth c T h locs cells slots) {x : Int32} {o : Int} (hd : decode bytes pc = .ok (.ifCond .eq o, 3)) (hp : (pc : Int) + o = (pc' : Int)) (hp' : pc + 3 = pc'') (KT : x = 0 → own_G p e below E (T.setTop (mkF m pc' Ls st))) (KF : ¬ x = 0 → own_G p e below E (T.setTop (mkF m pc'' Ls st))) : own_G p e below E (T.setTop (mkF m pc Ls (.int x :: st))) :=
  (Decidable.em (x = 0)).elim (fun q => own_ifT pc' Y hd (XT.i0_eq_t q) hp (KT q)) (fun q => own_ifF pc'' Y hd (XT.i0_eq_f q) hp' (KF q))
theorem own_ic_eq (pc' pc'' : Nat) (Y : own_S Z y bytes maxL ret p l e R s m args below meth c T h locs cells slots) {x z : Int32} {o : Int} (hd : decode bytes pc = .ok (.if_icmp .eq o, 3)) (hp : (pc : Int) + o = (pc' : Int)) (hp' : pc + 3 = pc'') (KT : x = z → own_G p e below E (T.setTop (mkF m pc' Ls st))) (KF : ¬ x = z → own_G p e below E (T.setTop (mkF m pc'' Ls st))) : own_G p e below E (T.setTop (mkF m pc Ls (.int z :: .int x :: st))) :=
  (Decidable.em (x = z)).elim (fun q => own_icT pc' Y hd (XT.ii_eq_t q) hp (KT q)) (fun q => own_icF pc'' Y hd (XT.ii_eq_f q) hp' (KF q))
theorem own_if_ne (pc' pc'' : Nat) (Y : own_S Z y bytes maxL ret p l e R s m args below meth c T h locs cells slots) {x : Int32} {o : Int} (hd : decode bytes pc = .ok (.ifCond .ne o, 3)) (hp : (pc : Int) + o = (pc' : Int)) (hp' : pc + 3 = pc'') (KT : ¬ x = 0 → own_G p e below E (T.setTop (mkF m pc' Ls st))) (KF : x = 0 → own_G p e below E (T.setTop (mkF m pc'' Ls st))) : own_G p e below E (T.setTop (mkF m pc Ls (.int x :: st))) :=
  (Decidable.em (x = 0)).elim (fun q => own_ifF pc'' Y hd (XT.i0_ne_f q) hp' (KF q)) (fun q => own_ifT pc' Y hd (XT.i0_ne_t q) hp (KT q))
theorem own_ic_ne (pc' pc'' : Nat) (Y : own_S Z y bytes maxL ret p l e R s m args below meth c T h locs cells slots) {x z : Int32} {o : Int} (hd : decode bytes pc = .ok (.if_icmp .ne o, 3)) (hp : (pc : Int) + o = (pc' : Int)) (hp' : pc + 3 = pc'') (KT : ¬ x = z → own_G p e below E (T.setTop (mkF m pc' Ls st))) (KF : x = z → own_G p e below E (T.setTop (mkF m pc'' Ls st))) : own_G p e below E (T.setTop (mkF m pc Ls (.int z :: .int x :: st))) :=
  (Decidable.em (x = z)).elim (fun q => own_icF pc'' Y hd (XT.ii_ne_f q) hp' (KF q)) (fun q => own_icT pc' Y hd (XT.ii_ne_t q) hp (KT q))
theorem own_if_lt (pc' pc'' : Nat) (Y : own_S Z y bytes maxL ret p l e R s m args below meth c T h locs cells slots) {x : Int32} {o : Int} (hd : decode bytes pc = .ok (.ifCond .lt o, 3)) (hp : (pc : Int) + o = (pc' : Int)) (hp' : pc + 3 = pc'') (KT : x < 0 → own_G p e below E (T.setTop (mkF m pc' Ls st))) (KF : ¬ x < 0 → own_G p e below E (T.setTop (mkF m pc'' Ls st))) : own_G p e below E (T.setTop (mkF m pc Ls (.int x :: st))) :=
  (Decidable.em (x < 0)).elim (fun q => own_ifT pc' Y hd (XT.i0_lt_t q) hp (KT q)) (fun q => own_ifF pc'' Y hd (XT.i0_lt_f q) hp' (KF q))
theorem own_ic_lt (pc' pc'' : Nat) (Y : own_S Z y bytes maxL ret p l e R s m args below meth c T h locs cells slots) {x z : Int32} {o : Int} (hd : decode bytes pc = .ok (.if_icmp .lt o, 3)) (hp : (pc : Int) + o = (pc' : Int)) (hp' : pc + 3 = pc'') (KT : x < z → own_G p e below E (T.setTop (mkF m pc' Ls st))) (KF : ¬ x < z → own_G p e below E (T.setTop (mkF m pc'' Ls st))) : own_G p e below E (T.setTop (mkF m pc Ls (.int z :: .int x :: st))) :=
  (Decidable.em (x < z)).elim (fun q => own_icT pc' Y hd (XT.ii_lt_t q) hp (KT q)) (fun q => own_icF pc'' Y hd (XT.ii_lt_f q) hp' (KF q))
theorem own_if_ge (pc' pc'' : Nat) (Y : own_S Z y bytes maxL ret p l e R s m args below meth c T h locs cells slots) {x : Int32} {o : Int} (hd : decode bytes pc = .ok (.ifCond .ge o, 3)) (hp : (pc : Int) + o = (pc' : Int)) (hp' : pc + 3 = pc'') (KT : ¬ x < 0 → own_G p e below E (T.setTop (mkF m pc' Ls st))) (KF : x < 0 → own_G p e below E (T.setTop (mkF m pc'' Ls st))) : own_G p e below E (T.setTop (mkF m pc Ls (.int x :: st))) :=
  (Decidable.em (x < 0)).elim (fun q => own_ifF pc'' Y hd (XT.i0_ge_f q) hp' (KF q)) (fun q => own_ifT pc' Y hd (XT.i0_ge_t q) hp (KT q))
theorem own_ic_ge (pc' pc'' : Nat) (Y : own_S Z y bytes maxL ret p l e R s m args below meth c T h locs cells slots) {x z : Int32} {o : Int} (hd : decode bytes pc = .ok (.if_icmp .ge o, 3)) (hp : (pc : Int) + o = (pc' : Int)) (hp' : pc + 3 = pc'') (KT : ¬ x < z → own_G p e below E (T.setTop (mkF m pc' Ls st))) (KF : x < z → own_G p e below E (T.setTop (mkF m pc'' Ls st))) : own_G p e below E (T.setTop (mkF m pc Ls (.int z :: .int x :: st))) :=
  (Decidable.em (x < z)).elim (fun q => own_icF pc'' Y hd (XT.ii_ge_f q) hp' (KF q)) (fun q => own_icT pc' Y hd (XT.ii_ge_t q) hp (KT q))
theorem own_if_gt (pc' pc'' : Nat) (Y : own_S Z y bytes maxL ret p l e R s m args below meth c T h locs cells slots) {x : Int32} {o : Int} (hd : decode bytes pc = .ok (.ifCond .gt o, 3)) (hp : (pc : Int) + o = (pc' : Int)) (hp' : pc + 3 = pc'') (KT : 0 < x → own_G p e below E (T.setTop (mkF m pc' Ls st))) (KF : ¬ 0 < x → own_G p e below E (T.setTop (mkF m pc'' Ls st))) : own_G p e below E (T.setTop (mkF m pc Ls (.int x :: st))) :=
  (Decidable.em (0 < x)).elim (fun q => own_ifT pc' Y hd (XT.i0_gt_t q) hp (KT q)) (fun q => own_ifF pc'' Y hd (XT.i0_gt_f q) hp' (KF q))
theorem own_ic_gt (pc' pc'' : Nat) (Y : own_S Z y bytes maxL ret p l e R s m args below meth c T h locs cells slots) {x z : Int32} {o : Int} (hd : decode bytes pc = .ok (.if_icmp .gt o, 3)) (hp : (pc : Int) + o = (pc' : Int)) (hp' : pc + 3 = pc'') (KT : z < x → own_G p e below E (T.setTop (mkF m pc' Ls st))) (KF : ¬ z < x → own_G p e below E (T.setTop (mkF m pc'' Ls st))) : own_G p e below E (T.setTop (mkF m pc Ls (.int z :: .int x :: st))) :=
  (Decidable.em (z < x)).elim (fun q => own_icT pc' Y hd (XT.ii_gt_t q) hp (KT q)) (fun q => own_icF pc'' Y hd (XT.ii_gt_f q) hp' (KF q))
theorem own_if_le (pc' pc'' : Nat) (Y : own_S Z y bytes maxL ret p l e R s m args below meth c T h locs cells slots) {x : Int32} {o : Int} (hd : decode bytes pc = .ok (.ifCond .le o, 3)) (hp : (pc : Int) + o = (pc' : Int)) (hp' : pc + 3 = pc'') (KT : ¬ 0 < x → own_G p e below E (T.setTop (mkF m pc' Ls st))) (KF : 0 < x → own_G p e below E (T.setTop (mkF m pc'' Ls st))) : own_G p e below E (T.setTop (mkF m pc Ls (.int x :: st))) :=
  (Decidable.em (0 < x)).elim (fun q => own_ifF pc'' Y hd (XT.i0_le_f q) hp' (KF q)) (fun q => own_ifT pc' Y hd (XT.i0_le_t q) hp (KT q))
theorem own_ic_le (pc' pc'' : Nat) (Y : own_S Z y bytes maxL ret p l e R s m args below meth c T h locs cells slots) {x z : Int32} {o : Int} (hd : decode bytes pc = .ok (.if_icmp .le o, 3)) (hp : (pc : Int) + o = (pc' : Int)) (hp' : pc + 3 = pc'') (KT : ¬ z < x → own_G p e below E (T.setTop (mkF m pc' Ls st))) (KF : z < x → own_G p e below E (T.setTop (mkF m pc'' Ls st))) : own_G p e below E (T.setTop (mkF m pc Ls (.int z :: .int x :: st))) :=
  (Decidable.em (z < x)).elim (fun q => own_icF pc'' Y hd (XT.ii_le_f q) hp' (KF q)) (fun q => own_icT pc' Y hd (XT.ii_le_t q) hp (KT q))
theorem own_acmp (pc' : Nat) (same : Bool) (Y : own_S Z y bytes maxL ret p l e R s m args below meth c T h locs cells slots) {cd : ACond} {o : Int} {x z : Value} (hd : decode bytes pc = .ok (.if_acmp cd o, 3)) (h1 : x.isRef = true) (h2 : z.isRef = true) (hq : decide (x = z) = same) (ho : 0 ≤ (pc : Int) + o) (hp : pc' = if acV cd same = true then ((pc : Int) + o).toNat else pc + 3) (K : own_G p e below E (T.setTop (mkF m pc' Ls st))) : own_G p e below E (T.setTop (mkF m pc Ls (z :: x :: st))) :=
  own_st (fun t k => Jvm.RoadKit.acmp Y.X Y.x rfl h1 h2 rfl (Y.d hd) rfl hq ho hp k) K
theorem own_ifnullT (pc' : Nat) (Y : own_S Z y bytes maxL ret p l e R s m args below meth c T h locs cells slots) {o : Int} (hd : decode bytes pc = .ok (.ifnull o, 3)) (hp : (pc : Int) + o = (pc' : Int)) (K : own_G p e below E (T.setTop (mkF m pc' Ls st))) : own_G p e below E (T.setTop (mkF m pc Ls (.null :: st))) :=
  own_st (fun t k => XS.ifnullYes Y.X.here Y.x rfl rfl (Y.d hd) rfl (own_pc hp).1 (own_pc hp).2 k) K
theorem own_ifnonnullT (pc' : Nat) (Y : own_S Z y bytes maxL ret p l e R s m args below meth c T h locs cells slots) {b : Addr} {o : Int} (hd : decode bytes pc = .ok (.ifnonnull o, 3)) (hp : (pc : Int) + o = (pc' : Int)) (K : own_G p e below E (T.setTop (mkF m pc' Ls st))) : own_G p e below E (T.setTop (mkF m pc Ls (.ref b :: st))) :=
  own_st (fun t k => XS.ifnonnullYes Y.X.here Y.x rfl rfl (Y.d hd) rfl (own_pc hp).1 (own_pc hp).2 k) K
theorem own_ifnullF (pc' : Nat) (Y : own_S Z y bytes maxL ret p l e R s m args below meth c T h locs cells slots) {b : Addr} {o : Int} (hd : decode bytes pc = .ok (.ifnull o, 3)) (hp : pc + 3 = pc') (K : own_G p e below E (T.setTop (mkF m pc' Ls st))) : own_G p e below E (T.setTop (mkF m pc Ls (.ref b :: st))) := by
  subst hp
  exact own_st (fun t k => XS.ifnullNo Y.X.here Y.x rfl (Y.d hd) rfl k) K
theorem own_ifnonnullF (pc' : Nat) (Y : own_S Z y bytes maxL ret p l e R s m args below meth c T h locs cells slots) {o : Int} (hd : decode bytes pc = .ok (.ifnonnull o, 3)) (hp : pc + 3 = pc') (K : own_G p e below E (T.setTop (mkF m pc' Ls st))) : own_G p e below E (T.setTop (mkF m pc Ls (.null :: st))) := by
  subst hp
  exact own_st (fun t k => XS.ifnonnullNo Y.X.here Y.x rfl (Y.d hd) rfl k) K
theorem own_tswIn (pc' : Nat) (Y : own_S Z y bytes maxL ret p l e R s m args below meth c T h locs cells slots) {dflt low high : Int} {offs : Array Int} {len : Nat} {o : Int} {i : Int32} (hd : decode bytes pc = .ok (.tableswitch dflt low high offs, len)) (hin : ¬ (i.toInt < low ∨ i.toInt > high)) (hoff : offs[(i.toInt - low).toNat]? = some o) (hp : (pc : Int) + o = (pc' : Int)) (K : own_G p e below E (T.setTop (mkF m pc' Ls st))) : own_G p e below E (T.setTop (mkF m pc Ls (.int i :: st))) :=
  own_st (fun t k => XS.tswIn Y.X.here Y.x rfl rfl (Y.d hd) rfl hin hoff (own_pc hp).1 (own_pc hp).2 k) K
theorem own_tswOut (pc' : Nat) (Y : own_S Z y bytes maxL ret p l e R s m args below meth c T h locs cells slots) {o low high : Int} {offs : Array Int} {len : Nat} {i : Int32} (hd : decode bytes pc = .ok (.tableswitch o low high offs, len)) (hout : i.toInt < low ∨ i.toInt > high) (hp : (pc : Int) + o = (pc' : Int)) (K : own_G p e below E (T.setTop (mkF m pc' Ls st))) : own_G p e below E (T.setTop (mkF m pc Ls (.int i :: st))) :=
  own_st (fun t k => XS.tswOut Y.X.here Y.x rfl rfl (Y.d hd) rfl hout (own_pc hp).1 (own_pc hp).2 k) K
theorem own_ldcI (pc' : Nat) (Y : own_S Z y bytes maxL ret p l e R s m args below meth c T h locs cells slots) {index : Nat} {v : Int32} (w : (Jvm.Cond.constant y.cls index v).before a0 Z = true) (hd : decode bytes pc = .ok (.ldc index, 2)) (hp : pc + 2 = pc') (K : own_G p e below E (T.setTop (mkF m pc' Ls (.int v :: st)))) : own_G p e below E (T.setTop (mkF m pc Ls st)) := by
  subst hp
  exact own_st (fun t k => Y.X.ldcInt Y.x Y.own (mvT Y.warm w) (g := mkF m pc Ls st) rfl (Y.d hd) t k) K
theorem own_ldc2J (pc' : Nat) (Y : own_S Z y bytes maxL ret p l e R s m args below meth c T h locs cells slots) {index : Nat} {v : Int64} (w : (Jvm.Cond.constantLong y.cls index v).before a0 Z = true) (hd : decode bytes pc = .ok (.ldc2_w index, 3)) (hp : pc + 3 = pc') (K : own_G p e below E (T.setTop (mkF m pc' Ls (.long v :: st)))) : own_G p e below E (T.setTop (mkF m pc Ls st)) := by
  subst hp
  exact own_st (fun t k => Y.X.ldc2Long Y.x Y.own (mvT Y.warm w) (g := mkF m pc Ls st) rfl (Y.d hd) t k) K
theorem own_getS (pc' : Nat) (Y : own_S Z y bytes maxL ret p l e R s m args below meth c T h locs cells slots) {R0 O n d host : String} {index : Nat} (w : (Jvm.Cond.fieldLink y.cls index R0 n d).before a0 Z = true ∨ (Jvm.Cond.fieldLinkNest y.cls index R0 n d host).before a0 Z = true) (via : Via Z R0 O n d) {v : Value} (F : Sta Z h O n d v) (hd : decode bytes pc = .ok (.getstatic index, 3)) (hp : pc + 3 = pc') (K : ∀ T', own_S Z y bytes maxL ret p l e R s m args below meth c T' h locs cells slots → own_G p e below E (T'.setTop (mkF m pc' Ls (v :: st)))) : own_G p e below E (T.setTop (mkF m pc Ls st)) := by
  subst hp
  obtain ⟨T', X', e', st'⟩ := getS2 Y.X Y.x Y.warm Y.own w via Y.eT F (g := mkF m pc Ls st) rfl (Y.d hd)
  exact own_st st' (K T' ⟨Y.1, X', e'⟩)
theorem own_getF (pc' : Nat) (Y : own_S Z y bytes maxL ret p l e R s m args below meth c T h locs cells slots) {R0 O n d host : String} {index : Nat} (w : (Jvm.Cond.fieldLink y.cls index R0 n d).before a0 Z = true ∨ (Jvm.Cond.fieldLinkNest y.cls index R0 n d host).before a0 Z = true) (via : Via Z R0 O n d) {a : Addr} {v : Value} (F : Fld Z h a O n d v) (hd : decode bytes pc = .ok (.getfield index, 3)) (hp : pc + 3 = pc') (K : ∀ T', own_S Z y bytes maxL ret p l e R s m args below meth c T' h locs cells slots → own_G p e below E (T'.setTop (mkF m pc' Ls (v :: st)))) : own_G p e below E (T.setTop (mkF m pc Ls (.ref a :: st))) := by
  subst hp
  obtain ⟨T', X', e', st'⟩ := getF Y.X Y.x Y.warm Y.own w via Y.eT F (g := mkF m pc Ls (.ref a :: st)) rfl rfl (Y.d hd)
  exact own_st st' (K T' ⟨Y.1, X', e'⟩)
theorem own_putF (pc' : Nat) (Y : own_S Z y bytes maxL ret p l e R s m args below meth c T h locs cells slots) {R0 O n d host : String} {index : Nat} {C : String} {kk : Nat} {ty : FieldType} (w : (Jvm.Cond.fieldLink y.cls index R0 n d).before a0 Z = true ∨ (Jvm.Cond.fieldLinkNest y.cls index R0 n d host).before a0 Z = true) (via : Via Z R0 O n d) {a : Addr} {v old : Value} (F : Fld Z h a O n d old) (EX : Exa Z h a C) (Lw : (Jvm.Cond.lays C O n d).before a0 Z = true ∨ ((Jvm.Cond.laysFinal C O n d).before a0 Z = true ∧ y.cls = O ∧ y.name = "<init>")) (wi : (Jvm.Cond.instantiable C kk).before a0 Z = true) (hty : parseFieldDescriptor d = some ty) (hn : narrow ty v = v) (hf : fits ty v = true) (hd : decode bytes pc = .ok (.putfield index, 3)) (hp : pc + 3 = pc')
    (K : ∀ T' h', own_S Z y bytes maxL ret p l e R s m args below meth c T' h' (locs ++ [⟨a, Jvm.RoadKit.slotOf Z O n d⟩]) cells slots → Wr h h' a (Jvm.RoadKit.slotOf Z O n d) v → own_G p e below E (T'.setTop (mkF m pc' Ls st))) : own_G p e below E (T.setTop (mkF m pc Ls (v :: .ref a :: st))) := by
  subst hp
  obtain ⟨T', h', X', e', W', st'⟩ := putF Y.X Y.x Y.warm Y.own w via Y.eT F EX (Lw.imp id fun q => ⟨q.1, q.2.1, Y.1.2.2.2.2.2.2.2.trans q.2.2⟩) wi hty hn hf (g := mkF m pc Ls (v :: .ref a :: st)) rfl rfl (Y.d hd)
  exact own_st st' (K T' h' ⟨Y.1, X', e'⟩ W')
theorem own_putFN (pc' : Nat) (Y : own_S Z y bytes maxL ret p l e R s m args below meth c T h locs cells slots) {R0 O n d : String} {index : Nat} {C : String} {kk : Nat} {ty : FieldType} (w : (Jvm.Cond.fieldLink y.cls index R0 n d).before a0 Z = true) (via : Via Z R0 O n d) {a : Addr} {v v' old : Value} (F : Fld Z h a O n d old) (EX : Exa Z h a C) (Lw : (Jvm.Cond.lays C O n d).before a0 Z = true ∨ ((Jvm.Cond.laysFinal C O n d).before a0 Z = true ∧ y.cls = O ∧ y.name = "<init>")) (wi : (Jvm.Cond.instantiable C kk).before a0 Z = true) (hty : parseFieldDescriptor d = some ty) (hn : narrow ty v = v') (hf : fits ty v' = true) (hd : decode bytes pc = .ok (.putfield index, 3)) (hp : pc + 3 = pc')
    (K : ∀ T' h', own_S Z y bytes maxL ret p l e R s m args below meth c T' h' (locs ++ [⟨a, Jvm.RoadKit.slotOf Z O n d⟩]) cells slots → Wr h h' a (Jvm.RoadKit.slotOf Z O n d) v' → own_G p e below E (T'.setTop (mkF m pc' Ls st))) : own_G p e below E (T.setTop (mkF m pc Ls (v :: .ref a :: st))) := by
  subst hp
  obtain ⟨T', h', X', e', W', st'⟩ := putFN Y.X Y.x Y.warm Y.own w via Y.eT F EX (Lw.imp id fun q => ⟨q.1, q.2.1, Y.1.2.2.2.2.2.2.2.trans q.2.2⟩) wi hty hn hf (g := mkF m pc Ls (v :: .ref a :: st)) rfl rfl (Y.d hd)
  exact own_st st' (K T' h' ⟨Y.1, X', e'⟩ W')
theorem own_newO (pc' : Nat) (Y : own_S Z y bytes maxL ret p l e R s m args below meth c T h locs cells slots) {C : String} {index n : Nat} (w : (Jvm.Cond.classLink y.cls index C).before a0 Z = true) (wi : (Jvm.Cond.instantiable C n).before a0 Z = true) (wz : (Jvm.Cond.initialized C).before a0 Z = true) (hd : decode bytes pc = .ok (.new index, 3)) (hc : cells + 1 ≤ R.cells) (hl : slots + n ≤ R.slots) (hp : pc + 3 = pc')
    (K : ∀ T' h' a, own_S Z y bytes maxL ret p l e R s m args below meth c T' h' locs (cells + 1) (slots + n) → a = h.size → Ext h h' → Exa Z h' a C → (∀ {O nm d : String} {ty : FieldType}, Laid Z a0 C O nm d → parseFieldDescriptor d = some ty → Fld Z h' a O nm d (defaultValue ty)) → own_G p e below E (T'.setTop (mkF m pc' Ls (.ref a :: st)))) : own_G p e below E (T.setTop (mkF m pc Ls st)) := by
  subst hp
  obtain ⟨T', h', X', e', E', A', D', -, st'⟩ := newO Y.X Y.x Y.warm Y.own w wi wz Y.eT (g := mkF m pc Ls st) rfl (Y.d hd) hc hl
  exact own_st st' (K T' h' _ ⟨Y.1, X', e'⟩ rfl E' A' D')
theorem own_initO (pc' : Nat) (Y : own_S Z y bytes maxL ret p l e R s m args below meth c T h locs cells slots) {idx : Nat} {a : Addr} (w1 : (Jvm.Cond.methodLink y.cls idx Lib.objectInit).before a0 Z = true) (w2 : (Jvm.Cond.instanceMethod Lib.objectInit).before a0 Z = true) (w3 : (Jvm.Cond.code Lib.objectInit ⟨#[0xb1]⟩ 1 none).before a0 Z = true) (hd : decode bytes pc = .ok (.invokespecial idx, 3)) (hLs : Ls.size = maxL) (hf : 1 ≤ R.frames) (hl : (st.map fun v => v.category).sum + 12 ≤ R.locals) (hp : pc + 3 = pc') (K : ∀ T', own_S Z y bytes maxL ret p l e R s m args below meth c T' h locs cells slots → own_G p e below E (T'.setTop (mkF m pc' Ls st))) : own_G p e below E (T.setTop (mkF m pc Ls (.ref a :: st))) := by
  subst hp
  obtain ⟨T', X', e', st'⟩ := initO Y.X Y.x Y.warm Y.own w1 w2 w3 Y.eT (g := mkF m pc Ls (.ref a :: st)) rfl (hLs.trans Y.1.2.2.1.symm) rfl (Y.d hd) hf (W := (st.map fun v => v.category).sum) (by show 2 * 0 + _ ≤ _; omega) hl
  exact own_st st' (K T' ⟨Y.1, X', e'⟩)
theorem own_cast (pc' : Nat) (Y : own_S Z y bytes maxL ret p l e R s m args below meth c T h locs cells slots) {K0 : String} {index : Nat} {a : Addr} (w : (Jvm.Cond.classLink y.cls index K0).before a0 Z = true) (F : Ins Z h a K0 true) (hd : decode bytes pc = .ok (.checkcast index, 3)) (hp : pc + 3 = pc') (K : ∀ T', own_S Z y bytes maxL ret p l e R s m args below meth c T' h locs cells slots → own_G p e below E (T'.setTop (mkF m pc' Ls (.ref a :: st)))) : own_G p e below E (T.setTop (mkF m pc Ls (.ref a :: st))) := by
  subst hp
  obtain ⟨T', X', e', st'⟩ := castY Y.X Y.x Y.warm Y.own w Y.eT F (g := mkF m pc Ls (.ref a :: st)) rfl rfl (Y.d hd)
  exact own_st st' (K T' ⟨Y.1, X', e'⟩)
theorem own_newP (pc' : Nat) (Y : own_S Z y bytes maxL ret p l e R s m args below meth c T h locs cells slots) {aty : ArrayType} (w : (Jvm.Cond.arrayClass (newarray.typeOf aty)).before a0 Z = true) {n : Int32} (cap : Nat) (hd : decode bytes pc = .ok (.newarray aty, 2)) (hn : ¬ n < 0) (hcap : n.toNatClampNeg ≤ cap) (hb : cap * 8 ≤ 536870912) (hc : cells + 1 ≤ R.cells) (hl : slots + cap ≤ R.slots) (hp : pc + 2 = pc')
    (K : ∀ T' h' a kA, own_S Z y bytes maxL ret p l e R s m args below meth c T' h' locs (cells + 1) (slots + cap) → a = h.size → Ext h h' → Arv Z h' a kA (newarray.typeOf aty) n [] (defaultValue (newarray.typeOf aty)) → own_G p e below E (T'.setTop (mkF m pc' Ls (.ref a :: st)))) : own_G p e below E (T.setTop (mkF m pc Ls (.int n :: st))) := by
  subst hp
  obtain ⟨T', h', kA, X', e', E', A', st'⟩ := newP Y.X Y.x Y.warm w Y.eT (g := mkF m pc Ls (.int n :: st)) rfl (Y.d hd) rfl hn (cap := cap) hcap hb hc hl
  exact own_st st' (K T' h' _ kA ⟨Y.1, X', e'⟩ rfl E' (Arv.new A' hn))
theorem own_newR (pc' : Nat) (Y : own_S Z y bytes maxL ret p l e R s m args below meth c T h locs cells slots) {C : String} {index : Nat} (w1 : (Jvm.Cond.classLink y.cls index C).before a0 Z = true) (w2 : (Jvm.Cond.arrayOver (.object C)).before a0 Z = true) {n : Int32} (cap : Nat) (hd : decode bytes pc = .ok (.anewarray index, 3)) (hn : ¬ n < 0) (hcap : n.toNatClampNeg ≤ cap) (hb : cap * 8 ≤ 536870912) (hc : cells + 1 ≤ R.cells) (hl : slots + cap ≤ R.slots) (hp : pc + 3 = pc')
    (K : ∀ T' h' a kA, own_S Z y bytes maxL ret p l e R s m args below meth c T' h' locs (cells + 1) (slots + cap) → a = h.size → Ext h h' → Arv Z h' a kA (.object C) n [] .null → Ovr Z kA C → own_G p e below E (T'.setTop (mkF m pc' Ls (.ref a :: st)))) : own_G p e below E (T.setTop (mkF m pc Ls (.int n :: st))) := by
  subst hp
  obtain ⟨T', h', kA, X', e', E', A', O', st'⟩ := newR Y.X Y.x Y.warm Y.own w1 w2 Y.eT (g := mkF m pc Ls (.int n :: st)) rfl (Y.d hd) rfl hn (cap := cap) hcap hb hc hl
  exact own_st st' (K T' h' _ kA ⟨Y.1, X', e'⟩ rfl E' (Arv.new A' hn) O')
theorem own_stC (pc' : Nat) (Y : own_S Z y bytes maxL ret p l e R s m args below meth c T h locs cells slots) {a : Addr} {kA : ClassId} {n j : Int32} {vs : List Value} {dv : Value} {x : Int32} (A : Arv Z h a kA .char n vs dv) (hd : decode bytes pc = .ok (.castore, 1)) (hj : ¬ j < 0 ∧ j < n) (hp : pc + 1 = pc')
    (K : ∀ T' h', own_S Z y bytes maxL ret p l e R s m args below meth c T' h' (locs ++ [⟨a, j.toNatClampNeg⟩]) cells slots → Wr h h' a j.toNatClampNeg (.int (nar .char x)) → (∀ (i : Nat), j.toNatClampNeg = i → i < vs.length → fits .char (.int (nar .char x)) = true → Arv Z h' a kA .char n (vs.set i (.int (nar .char x))) dv) → own_G p e below E (T'.setTop (mkF m pc' Ls st))) : own_G p e below E (T.setTop (mkF m pc Ls (.int x :: .int j :: .ref a :: st))) := by
  subst hp
  obtain ⟨cl, A1, q1, q2, q3, q4, q5⟩ := A
  obtain ⟨T', h', X', e', W', st'⟩ := stC Y.X Y.x Y.warm Y.eT A1 (j := j) (inb_of q2 hj) (g := mkF m pc Ls (.int x :: .int j :: .ref a :: st)) rfl rfl (Y.d hd)
  exact own_st st' (K T' h' ⟨Y.1, X', e'⟩ W' fun i hi hl hf => Arv.set A1 q1 q2 q3 q4 q5 hf W' i hi hl)
theorem own_stI (pc' : Nat) (Y : own_S Z y bytes maxL ret p l e R s m args below meth c T h locs cells slots) {a : Addr} {kA : ClassId} {n j : Int32} {vs : List Value} {dv : Value} {x : Int32} (A : Arv Z h a kA .int n vs dv) (hd : decode bytes pc = .ok (.iastore, 1)) (hj : ¬ j < 0 ∧ j < n) (hp : pc + 1 = pc')
    (K : ∀ T' h', own_S Z y bytes maxL ret p l e R s m args below meth c T' h' (locs ++ [⟨a, j.toNatClampNeg⟩]) cells slots → Wr h h' a j.toNatClampNeg (.int x) → (∀ (i : Nat), j.toNatClampNeg = i → i < vs.length → fits .int (.int x) = true → Arv Z h' a kA .int n (vs.set i (.int x)) dv) → own_G p e below E (T'.setTop (mkF m pc' Ls st))) : own_G p e below E (T.setTop (mkF m pc Ls (.int x :: .int j :: .ref a :: st))) := by
  subst hp
  obtain ⟨cl, A1, q1, q2, q3, q4, q5⟩ := A
  obtain ⟨T', h', X', e', W', st'⟩ := stI Y.X Y.x Y.warm Y.eT A1 (j := j) (inb_of q2 hj) (g := mkF m pc Ls (.int x :: .int j :: .ref a :: st)) rfl rfl (Y.d hd)
  exact own_st st' (K T' h' ⟨Y.1, X', e'⟩ W' fun i hi hl hf => Arv.set A1 q1 q2 q3 q4 q5 hf W' i hi hl)
theorem own_stB (pc' : Nat) (Y : own_S Z y bytes maxL ret p l e R s m args below meth c T h locs cells slots) {a : Addr} {kA : ClassId} {n j : Int32} {vs : List Value} {dv : Value} {x : Int32} (A : Arv Z h a kA .byte n vs dv) (hd : decode bytes pc = .ok (.bastore, 1)) (hj : ¬ j < 0 ∧ j < n) (hp : pc + 1 = pc')
    (K : ∀ T' h', own_S Z y bytes maxL ret p l e R s m args below meth c T' h' (locs ++ [⟨a, j.toNatClampNeg⟩]) cells slots → Wr h h' a j.toNatClampNeg (.int (nar .byte x)) → (∀ (i : Nat), j.toNatClampNeg = i → i < vs.length → fits .byte (.int (nar .byte x)) = true → Arv Z h' a kA .byte n (vs.set i (.int (nar .byte x))) dv) → own_G p e below E (T'.setTop (mkF m pc' Ls st))) : own_G p e below E (T.setTop (mkF m pc Ls (.int x :: .int j :: .ref a :: st))) := by
  subst hp
  obtain ⟨cl, A1, q1, q2, q3, q4, q5⟩ := A
  obtain ⟨T', h', X', e', W', st'⟩ := stB Y.X Y.x Y.warm Y.eT A1 (j := j) (inb_of q2 hj) (g := mkF m pc Ls (.int x :: .int j :: .ref a :: st)) rfl rfl (Y.d hd)
  exact own_st st' (K T' h' ⟨Y.1, X', e'⟩ W' fun i hi hl hf => Arv.set A1 q1 q2 q3 q4 q5 hf W' i hi hl)
theorem own_stJ (pc' : Nat) (Y : own_S Z y bytes maxL ret p l e R s m args below meth c T h locs cells slots) {a : Addr} {kA : ClassId} {n j : Int32} {vs : List Value} {dv : Value} {x : Int64} (A : Arv Z h a kA .long n vs dv) (hd : decode bytes pc = .ok (.lastore, 1)) (hj : ¬ j < 0 ∧ j < n) (hp : pc + 1 = pc')
    (K : ∀ T' h', own_S Z y bytes maxL ret p l e R s m args below meth c T' h' (locs ++ [⟨a, j.toNatClampNeg⟩]) cells slots → Wr h h' a j.toNatClampNeg (.long x) → (∀ (i : Nat), j.toNatClampNeg = i → i < vs.length → fits .long (.long x) = true → Arv Z h' a kA .long n (vs.set i (.long x)) dv) → own_G p e below E (T'.setTop (mkF m pc' Ls st))) : own_G p e below E (T.setTop (mkF m pc Ls (.long x :: .int j :: .ref a :: st))) := by
  subst hp
  obtain ⟨cl, A1, q1, q2, q3, q4, q5⟩ := A
  obtain ⟨T', h', X', e', W', st'⟩ := stJ Y.X Y.x Y.warm Y.eT A1 (j := j) (inb_of q2 hj) (g := mkF m pc Ls (.long x :: .int j :: .ref a :: st)) rfl rfl (Y.d hd)
  exact own_st st' (K T' h' ⟨Y.1, X', e'⟩ W' fun i hi hl hf => Arv.set A1 q1 q2 q3 q4 q5 hf W' i hi hl)
theorem own_stR (pc' : Nat) (Y : own_S Z y bytes maxL ret p l e R s m args below meth c T h locs cells slots) {a : Addr} {kA : ClassId} {n j : Int32} {vs : List Value} {dv : Value} {v : Value} {ty : FieldType} (A : Arv Z h a kA ty n vs dv) (hty : ty.isReference = true) (F : Sto Z h a v) (hfit : fits ty v = true) (hd : decode bytes pc = .ok (.aastore, 1)) (hj : ¬ j < 0 ∧ j < n) (hp : pc + 1 = pc')
    (K : ∀ T' h', own_S Z y bytes maxL ret p l e R s m args below meth c T' h' (locs ++ [⟨a, j.toNatClampNeg⟩]) cells slots → Wr h h' a j.toNatClampNeg v → (∀ (i : Nat), j.toNatClampNeg = i → i < vs.length → Arv Z h' a kA ty n (vs.set i v) dv) → own_G p e below E (T'.setTop (mkF m pc' Ls st))) : own_G p e below E (T.setTop (mkF m pc Ls (v :: .int j :: .ref a :: st))) := by
  subst hp
  obtain ⟨cl, A1, q1, q2, q3, q4, q5⟩ := A
  obtain ⟨T', h', X', e', W', st'⟩ := stR Y.X Y.x Y.warm Y.eT A1 (j := j) (inb_of q2 hj) hty F (g := mkF m pc Ls (v :: .int j :: .ref a :: st)) rfl rfl (Y.d hd)
  exact own_st st' (K T' h' ⟨Y.1, X', e'⟩ W' fun i hi hl => Arv.set A1 q1 q2 q3 q4 q5 hfit W' i hi hl)
theorem own_caload (pc' : Nat) (Y : own_S Z y bytes maxL ret p l e R s m args below meth c T h locs cells slots) {a : Addr} {kA : ClassId} {n j : Int32} {vs : List Value} {dv : Value} (A : Arv Z h a kA .char n vs dv) {v : Value} (hd : decode bytes pc = .ok (.caload, 1)) (hj : ¬ j < 0 ∧ j < n) (hv : vs.getD j.toNatClampNeg dv = v) (hp : pc + 1 = pc') (K : own_G p e below E (T.setTop (mkF m pc' Ls (v :: st)))) : own_G p e below E (T.setTop (mkF m pc Ls (.int j :: .ref a :: st))) := by
  subst hp
  obtain ⟨cl, A1, q1, q2, q3, q4, q5⟩ := A
  exact own_st (fun t k => Y.X.caload Y.x (j := j) (v := v) (by rw [Y.eT]; exact A1.1) (State.isArrayOf_alike Y.warm.alike A1.2.1) A1.2.2 (inb_of q2 hj) (q4.at (inb_of q2 hj) hv) (g := mkF m pc Ls (.int j :: .ref a :: st)) rfl rfl (Y.d hd) t k) K
theorem own_iaload (pc' : Nat) (Y : own_S Z y bytes maxL ret p l e R s m args below meth c T h locs cells slots) {a : Addr} {kA : ClassId} {n j : Int32} {vs : List Value} {dv : Value} (A : Arv Z h a kA .int n vs dv) {v : Value} (hd : decode bytes pc = .ok (.iaload, 1)) (hj : ¬ j < 0 ∧ j < n) (hv : vs.getD j.toNatClampNeg dv = v) (hp : pc + 1 = pc') (K : own_G p e below E (T.setTop (mkF m pc' Ls (v :: st)))) : own_G p e below E (T.setTop (mkF m pc Ls (.int j :: .ref a :: st))) := by
  subst hp
  obtain ⟨cl, A1, q1, q2, q3, q4, q5⟩ := A
  exact own_st (fun t k => Y.X.iaload Y.x (j := j) (v := v) (by rw [Y.eT]; exact A1.1) (State.isArrayOf_alike Y.warm.alike A1.2.1) A1.2.2 (inb_of q2 hj) (q4.at (inb_of q2 hj) hv) (g := mkF m pc Ls (.int j :: .ref a :: st)) rfl rfl (Y.d hd) t k) K
theorem own_baload (pc' : Nat) (Y : own_S Z y bytes maxL ret p l e R s m args below meth c T h locs cells slots) {a : Addr} {kA : ClassId} {n j : Int32} {vs : List Value} {dv : Value} (A : Arv Z h a kA .byte n vs dv) {v : Value} (hd : decode bytes pc = .ok (.baload, 1)) (hj : ¬ j < 0 ∧ j < n) (hv : vs.getD j.toNatClampNeg dv = v) (hp : pc + 1 = pc') (K : own_G p e below E (T.setTop (mkF m pc' Ls (v :: st)))) : own_G p e below E (T.setTop (mkF m pc Ls (.int j :: .ref a :: st))) := by
  subst hp
  obtain ⟨cl, A1, q1, q2, q3, q4, q5⟩ := A
  exact own_st (fun t k => Y.X.baloadBytes Y.x (j := j) (v := v) (by rw [Y.eT]; exact A1.1) (State.isArrayOf_alike Y.warm.alike A1.2.1) A1.2.2 (inb_of q2 hj) (q4.at (inb_of q2 hj) hv) (g := mkF m pc Ls (.int j :: .ref a :: st)) rfl rfl (Y.d hd) t k) K
theorem own_laload (pc' : Nat) (Y : own_S Z y bytes maxL ret p l e R s m args below meth c T h locs cells slots) {a : Addr} {kA : ClassId} {n j : Int32} {vs : List Value} {dv : Value} (A : Arv Z h a kA .long n vs dv) {v : Value} (hd : decode bytes pc = .ok (.laload, 1)) (hj : ¬ j < 0 ∧ j < n) (hv : vs.getD j.toNatClampNeg dv = v) (hp : pc + 1 = pc') (K : own_G p e below E (T.setTop (mkF m pc' Ls (v :: st)))) : own_G p e below E (T.setTop (mkF m pc Ls (.int j :: .ref a :: st))) := by
  subst hp
  obtain ⟨cl, A1, q1, q2, q3, q4, q5⟩ := A
  exact own_st (fun t k => Y.X.laload Y.x (j := j) (v := v) (by rw [Y.eT]; exact A1.1) (State.isArrayOf_alike Y.warm.alike A1.2.1) A1.2.2 (inb_of q2 hj) (q4.at (inb_of q2 hj) hv) (g := mkF m pc Ls (.int j :: .ref a :: st)) rfl rfl (Y.d hd) t k) K
theorem own_aaload (pc' : Nat) (Y : own_S Z y bytes maxL ret p l e R s m args below meth c T h locs cells slots) {a : Addr} {kA : ClassId} {n j : Int32} {vs : List Value} {dv : Value} {ty : FieldType} (A : Arv Z h a kA ty n vs dv) (hty : ty.isReference = true) {v : Value} (hd : decode bytes pc = .ok (.aaload, 1)) (hj : ¬ j < 0 ∧ j < n) (hv : vs.getD j.toNatClampNeg dv = v) (hp : pc + 1 = pc') (K : own_G p e below E (T.setTop (mkF m pc' Ls (v :: st)))) : own_G p e below E (T.setTop (mkF m pc Ls (.int j :: .ref a :: st))) := by
  subst hp
  obtain ⟨cl, A1, q1, q2, q3, q4, q5⟩ := A
  exact own_st (fun t k => Y.X.aaload Y.x (j := j) (v := v) (by rw [Y.eT]; exact A1.1) (State.isArrayOf_alike Y.warm.alike A1.2.1) hty A1.2.2 (inb_of q2 hj) (q4.at (inb_of q2 hj) hv) (g := mkF m pc Ls (.int j :: .ref a :: st)) rfl rfl (Y.d hd) t k) K
theorem own_alen (pc' : Nat) (Y : own_S Z y bytes maxL ret p l e R s m args below meth c T h locs cells slots) {a : Addr} {kA : ClassId} {n : Int32} {vs : List Value} {dv : Value} {ty : FieldType} (A : Arv Z h a kA ty n vs dv) (hd : decode bytes pc = .ok (.arraylength, 1)) (hp : pc + 1 = pc') (K : own_G p e below E (T.setTop (mkF m pc' Ls (.int n :: st)))) : own_G p e below E (T.setTop (mkF m pc Ls (.ref a :: st))) := by
  subst hp
  obtain ⟨cl, A1, q1, q2, q3, q4, q5⟩ := A
  refine own_st (fun t k => Y.X.arraylength Y.x (by rw [Y.eT]; exact A1.1) (State.isArrayOf_alike Y.warm.alike A1.2.1) (g := mkF m pc Ls (.ref a :: st)) rfl rfl (Y.d hd) t k) ?_
  rw [len_of q2 q3]
  exact K
theorem own_callS (pc' : Nat) (Y : own_S Z y bytes maxL ret p l e R s m args below meth c T h locs cells slots) {yc : MethodName} {bc : ByteArray} {mc : Nat} {rc : Option FieldType} {rm : Room} {index : Nat} {Qc : Option Value → Heap → List Loc → Prop} (argsL rest : List Value) (w1 : (Jvm.Cond.methodLink y.cls index yc).before a0 Z = true) (w2 : (Jvm.Cond.static yc).before a0 Z = true) (w3 : (Jvm.Cond.initialized yc.cls).before a0 Z = true) (w4 : (Jvm.Cond.code yc bc mc rc).before a0 Z = true) (hM : own_M l yc bc mc rc [] rm Z argsL.toArray h Qc) (hd : decode bytes pc = .ok (.invokestatic index, 3)) (hy : (yc.cls ≠ "java/lang/invoke/MethodHandle" ∧ yc.cls ≠ "java/lang/invoke/VarHandle")) (hlen : ∀ sig, parseMethodDescriptor yc.desc = some sig → argsL.length = sig.parameters.length) (hst : st = argsL.reverse ++ rest) (hLs : Ls.size = maxL) (hf : rm.frames + 1 ≤ R.frames) (hl : (rest.map fun v => v.category).sum + (mc + 11) + rm.locals ≤ R.locals) (hc : cells + rm.cells ≤ R.cells) (hs : slots + rm.slots ≤ R.slots) (hp : pc + 3 = pc')
    (K : ∀ v T' h' L, own_S Z y bytes maxL ret p l e R s m args below meth c T' h' (locs ++ L) (cells + rm.cells) (slots + rm.slots) → Qc v h' L → own_G p e below E (T'.setTop (mkF m pc' Ls (v.toList ++ rest)))) : own_G p e below E (T.setTop (mkF m pc Ls st)) := by
  subst hp
  obtain ⟨v, _, ⟨T', L', k', n'⟩, -, X', P', st'⟩ := Jvm.LawKit.callS Y.X Y.x (y := yc) Y.own (mvT Y.warm w1) (mvT Y.warm w2) (mvT Y.warm w3) (mvT Y.warm w4) hy (backOf (W := (rest.map fun v => v.category).sum) hM Y.warm w4 w3 hf hl) (g := mkF m pc Ls st) rfl (hLs.trans Y.1.2.2.1.symm) (argsL := argsL) (rest := rest) hlen hst (by show 2 * 0 + _ ≤ _; omega) (Y.d hd) (fun _ _ => ⟨rfl, Y.eT, hc, hs⟩)
  obtain ⟨Lc, hQ, l1, y1, z1⟩ := P'
  dsimp only [Pt.U, Pt.locs, Pt.cells, Pt.slots] at l1 y1 z1 hQ
  dsimp only [Pt.U, Pt.locs, Pt.cells, Pt.slots] at X' st'
  subst l1 y1 z1
  exact own_st st' (K v T' T'.heap Lc ⟨Y.1, X', rfl⟩ hQ)
theorem own_callI (pc' : Nat) (Y : own_S Z y bytes maxL ret p l e R s m args below meth c T h locs cells slots) {yc : MethodName} {bc : ByteArray} {mc : Nat} {rm : Room} {index : Nat} {Qc : Option Value → Heap → List Loc → Prop} (argsL rest : List Value) {a : Addr} (hini : yc.name = "<init>") (w1 : (Jvm.Cond.methodLink y.cls index yc).before a0 Z = true) (w2 : (Jvm.Cond.instanceMethod yc).before a0 Z = true) (w3 : (Jvm.Cond.initialized yc.cls).before a0 Z = true) (w4 : (Jvm.Cond.code yc bc mc none).before a0 Z = true) (hM : own_M l yc bc mc none [] rm Z (.ref a :: argsL).toArray h Qc) (hd : decode bytes pc = .ok (.invokespecial index, 3)) (hy : (yc.cls ≠ "java/lang/invoke/MethodHandle" ∧ yc.cls ≠ "java/lang/invoke/VarHandle")) (hlen : ∀ sig, parseMethodDescriptor yc.desc = some sig → argsL.length = sig.parameters.length) (hst : st = argsL.reverse ++ .ref a :: rest) (hLs : Ls.size = maxL) (hf : rm.frames + 1 ≤ R.frames) (hl : (rest.map fun v => v.category).sum + (mc + 11) + rm.locals ≤ R.locals) (hc : cells + rm.cells ≤ R.cells) (hs : slots + rm.slots ≤ R.slots) (hp : pc + 3 = pc')
    (K : ∀ v T' h' L, own_S Z y bytes maxL ret p l e R s m args below meth c T' h' (locs ++ L) (cells + rm.cells) (slots + rm.slots) → Qc v h' L → own_G p e below E (T'.setTop (mkF m pc' Ls (v.toList ++ rest)))) : own_G p e below E (T.setTop (mkF m pc Ls st)) := by
  subst hp
  obtain ⟨v, _, ⟨T', L', k', n'⟩, -, X', P', st'⟩ := Y.X.specialBack Y.x (y := yc) hini Y.own (mvT Y.warm w1) (mvT Y.warm w2) (mvT Y.warm w4) hy (backOf (W := (rest.map fun v => v.category).sum) hM Y.warm w4 w3 hf hl) (g := mkF m pc Ls st) rfl (hLs.trans Y.1.2.2.1.symm) (Steps.refl _) (a := a) (argsL := argsL) (rest := rest) hlen hst (by show 2 * 0 + _ ≤ _; omega) (Y.d hd) (fun _ _ => ⟨rfl, Y.eT, hc, hs⟩)
  obtain ⟨Lc, hQ, l1, y1, z1⟩ := P'
  dsimp only [Pt.U, Pt.locs, Pt.cells, Pt.slots] at l1 y1 z1 hQ
  dsimp only [Pt.U, Pt.locs, Pt.cells, Pt.slots] at X' st'
  subst l1 y1 z1
  exact own_st (fun t k => st'.trans k) (K v T' T'.heap Lc ⟨Y.1, X', rfl⟩ hQ)
theorem own_callV (pc' : Nat) (Y : own_S Z y bytes maxL ret p l e R s m args below meth c T h locs cells slots) {yc : MethodName} {bc : ByteArray} {mc : Nat} {rc : Option FieldType} {rm : Room} {index : Nat} {Qc : Option Value → Heap → List Loc → Prop} {yr : MethodName} {C : String} (argsL rest : List Value) {a : Addr} (EX : Exa Z h a C) (w1 : (Jvm.Cond.methodLink y.cls index yr).before a0 Z = true) (wd : (Jvm.Cond.declares yr).before a0 Z = true) (nf : NotFace s yr) (ws : (Jvm.Cond.selects C yr yc).before a0 Z = true) (w2 : (Jvm.Cond.instanceMethod yc).before a0 Z = true) (w3 : (Jvm.Cond.initialized yc.cls).before a0 Z = true) (w4 : (Jvm.Cond.code yc bc mc rc).before a0 Z = true) (hM : own_M l yc bc mc rc [] rm Z (.ref a :: argsL).toArray h Qc) (hd : decode bytes pc = .ok (.invokevirtual index, 3)) (hy : (yr.cls ≠ "java/lang/invoke/MethodHandle" ∧ yr.cls ≠ "java/lang/invoke/VarHandle")) (hlen : ∀ sig, parseMethodDescriptor yr.desc = some sig → argsL.length = sig.parameters.length) (hst : st = argsL.reverse ++ .ref a :: rest) (hLs : Ls.size = maxL) (hf : rm.frames + 1 ≤ R.frames) (hl : (rest.map fun v => v.category).sum + (mc + 11) + rm.locals ≤ R.locals) (hc : cells + rm.cells ≤ R.cells) (hs : slots + rm.slots ≤ R.slots) (hp : pc + 3 = pc')
    (K : ∀ v T' h' L, own_S Z y bytes maxL ret p l e R s m args below meth c T' h' (locs ++ L) (cells + rm.cells) (slots + rm.slots) → Qc v h' L → own_G p e below E (T'.setTop (mkF m pc' Ls (v.toList ++ rest)))) : own_G p e below E (T.setTop (mkF m pc Ls st)) := by
  subst hp
  obtain ⟨cq, kq, qa, qb, qc⟩ := isOf Y.warm Y.eT EX
  obtain ⟨v, _, ⟨T', L', k', n'⟩, -, X', P', st'⟩ := Y.X.virtualBack Y.x (y := yr) (z := yc) Y.own (mvT Y.warm w1) (mvT Y.warm wd) nf (mvT Y.warm ws) (mvT Y.warm w2) hy (backOf (W := (rest.map fun v => v.category).sum) hM Y.warm w4 w3 hf hl) qa qc (g := mkF m pc Ls st) rfl (hLs.trans Y.1.2.2.1.symm) (Steps.refl _) (argsL := argsL) (rest := rest) hlen hst (by show 2 * 0 + _ ≤ _; omega) (Y.d hd) (fun _ _ => ⟨rfl, Y.eT, hc, hs⟩)
  obtain ⟨Lc, hQ, l1, y1, z1⟩ := P'
  dsimp only [Pt.U, Pt.locs, Pt.cells, Pt.slots] at l1 y1 z1 hQ
  dsimp only [Pt.U, Pt.locs, Pt.cells, Pt.slots] at X' st'
  subst l1 y1 z1
  exact own_st (fun t k => st'.trans k) (K v T' T'.heap Lc ⟨Y.1, X', rfl⟩ hQ)
theorem own_callUp (pc' : Nat) (Y : own_S Z y bytes maxL ret p l e R s m args below meth c T h locs cells slots) {yc : MethodName} {bc : ByteArray} {mc : Nat} {rc : Option FieldType} {rm : Room} {index : Nat} {Qc : Option Value → Heap → List Loc → Prop} {yr : MethodName} {C owner : String} (argsL rest : List Value) {a : Addr} (EX : Exa Z h a C) (w1 : (Jvm.Cond.methodLink y.cls index yr).before a0 Z = true) (wm : (Jvm.Cond.sameMethod yr.cls owner yr.name yr.desc).before a0 Z = true) (wd : (Jvm.Cond.declares ⟨owner, yr.name, yr.desc⟩).before a0 Z = true) (ws : (Jvm.Cond.selects C yr yc).before a0 Z = true) (w2 : (Jvm.Cond.instanceMethod yc).before a0 Z = true) (w3 : (Jvm.Cond.initialized yc.cls).before a0 Z = true) (w4 : (Jvm.Cond.code yc bc mc rc).before a0 Z = true) (hM : own_M l yc bc mc rc [] rm Z (.ref a :: argsL).toArray h Qc) (hd : decode bytes pc = .ok (.invokevirtual index, 3)) (hy : owner ≠ "java/lang/invoke/MethodHandle" ∧ owner ≠ "java/lang/invoke/VarHandle") (hlen : ∀ sig, parseMethodDescriptor yr.desc = some sig → argsL.length = sig.parameters.length) (hst : st = argsL.reverse ++ .ref a :: rest) (hLs : Ls.size = maxL) (hf : rm.frames + 1 ≤ R.frames) (hl : (rest.map fun v => v.category).sum + (mc + 11) + rm.locals ≤ R.locals) (hc : cells + rm.cells ≤ R.cells) (hs : slots + rm.slots ≤ R.slots) (hp : pc + 3 = pc')
    (K : ∀ v T' h' L, own_S Z y bytes maxL ret p l e R s m args below meth c T' h' (locs ++ L) (cells + rm.cells) (slots + rm.slots) → Qc v h' L → own_G p e below E (T'.setTop (mkF m pc' Ls (v.toList ++ rest)))) : own_G p e below E (T.setTop (mkF m pc Ls st)) := by
  subst hp
  obtain ⟨cq, kq, qa, qb, qc⟩ := isOf Y.warm Y.eT EX
  obtain ⟨v, _, ⟨T', L', k', n'⟩, -, X', P', st'⟩ := Y.X.virtualBackUp Y.x (x := yr) (y := yc) Y.own (mvT Y.warm w1) (mvT Y.warm wm) (mvT Y.warm wd) hy (mvT Y.warm ws) (mvT Y.warm w2) (backOf (W := (rest.map fun v => v.category).sum) hM Y.warm w4 w3 hf hl) qa qc (g := mkF m pc Ls st) rfl (hLs.trans Y.1.2.2.1.symm) (Steps.refl _) (argsL := argsL) (rest := rest) hlen hst (by show 2 * 0 + _ ≤ _; omega) (Y.d hd) (fun _ _ => ⟨rfl, Y.eT, hc, hs⟩)
  obtain ⟨Lc, hQ, l1, y1, z1⟩ := P'
  dsimp only [Pt.U, Pt.locs, Pt.cells, Pt.slots] at l1 y1 z1 hQ
  dsimp only [Pt.U, Pt.locs, Pt.cells, Pt.slots] at X' st'
  subst l1 y1 z1
  exact own_st (fun t k => st'.trans k) (K v T' T'.heap Lc ⟨Y.1, X', rfl⟩ hQ)
theorem own_natS (pc' : Nat) (Y : own_S Z y bytes maxL ret p l e R s m args below meth c T h locs cells slots) {yc : MethodName} {bc : ByteArray} {mc : Nat} {rc : Option FieldType} {index : Nat} {val : Value} {F : Array Value → Prop} (argsL rest : List Value) (w1 : (Jvm.Cond.methodLink y.cls index yc).before a0 Z = true) (w2 : (Jvm.Cond.static yc).before a0 Z = true) (w3 : (Jvm.Cond.initialized yc.cls).before a0 Z = true) (w4 : (Jvm.Cond.code yc bc mc rc).before a0 Z = true) (hK : (Jvm.Cond.code yc bc mc rc).before args s = true → Back l R p e below s args yc 3 (rest.map fun v => v.category).sum (fun A a' => A.cells ≤ R.cells ∧ A.slots ≤ R.slots ∧ F a') (fun A _ v B => v = some val ∧ B = A)) (hF : F argsL.toArray) (hd : decode bytes pc = .ok (.invokestatic index, 3)) (hy : (yc.cls ≠ "java/lang/invoke/MethodHandle" ∧ yc.cls ≠ "java/lang/invoke/VarHandle")) (hlen : ∀ sig, parseMethodDescriptor yc.desc = some sig → argsL.length = sig.parameters.length) (hst : st = argsL.reverse ++ rest) (hLs : Ls.size = maxL) (hc : cells ≤ R.cells) (hs : slots ≤ R.slots) (hp : pc + 3 = pc') (K : ∀ T', own_S Z y bytes maxL ret p l e R s m args below meth c T' h locs cells slots → own_G p e below E (T'.setTop (mkF m pc' Ls (val :: rest)))) : own_G p e below E (T.setTop (mkF m pc Ls st)) := by
  subst hp
  obtain ⟨T', X', e', st'⟩ := natS Y.X Y.x Y.warm Y.own w1 w2 w3 w4 hy Y.eT hK (g := mkF m pc Ls st) rfl (hLs.trans Y.1.2.2.1.symm) (argsL := argsL) (rest := rest) hlen hst (by show 2 * 0 + _ ≤ _; omega) (Y.d hd) hc hs hF rfl
  exact own_st st' (K T' ⟨Y.1, X', e'⟩)
theorem own_ret (Y : own_S Z y bytes maxL ret p l e R s m args below meth c T h locs cells slots) {w : Value} {t : FieldType} {i : Instr} (hn : narrow t w = w)
    (hi : (i = .ireturn ∧ (t = .int ∨ t = .boolean ∨ t = .byte ∨ t = .char ∨ t = .short) ∧ ∃ z, w = .int z) ∨ (i = .lreturn ∧ t = .long ∧ ∃ z, w = .long z) ∨ (i = .dreturn ∧ t = .double ∧ ∃ z, w = .double z) ∨ (i = .freturn ∧ t = .float ∧ ∃ z, w = .float z) ∨ (i = .areturn ∧ t.isReference = true ∧ w.isRef = true))
    (hret : ret = some t) (hd : decode bytes pc = .ok (i, 1)) (hc : cells ≤ kc) (hs : slots ≤ ks) (hq : Q (some w) h locs) : own_G p e below (own_E s Q kc ks) (T.setTop (mkF m pc Ls (w :: st))) := by
  obtain ⟨⟨hx, hby, hml, hown, hZ, hr0, hlk, hnm⟩, X, eT⟩ := Y
  subst eT
  obtain ⟨fs, hr, hrun, hended, hW, hsame⟩ := X.leave (v := some w) (fun q => by rw [hr0, hret] at q; cases q) hlk
  exact ⟨_, _, retOut X hx (hr0.trans hret) hn hi (hb hby hd) hr, hrun, hended, _, _, rfl, hq, ⟨_, rfl⟩, hW, hsame.mono hc hs⟩
theorem own_retI (Y : own_S Z y bytes maxL ret p l e R s m args below meth c T h locs cells slots) {z : Int32} (hret : ret = some .int) (hd : decode bytes pc = .ok (.ireturn, 1)) (hc : cells ≤ kc) (hs : slots ≤ ks) (hq : Q (some (.int z)) h locs) : own_G p e below (own_E s Q kc ks) (T.setTop (mkF m pc Ls (.int z :: st))) := own_ret Y rfl (Or.inl ⟨rfl, Or.inl rfl, _, rfl⟩) hret hd hc hs hq
theorem own_retL (Y : own_S Z y bytes maxL ret p l e R s m args below meth c T h locs cells slots) {z : Int64} (hret : ret = some .long) (hd : decode bytes pc = .ok (.lreturn, 1)) (hc : cells ≤ kc) (hs : slots ≤ ks) (hq : Q (some (.long z)) h locs) : own_G p e below (own_E s Q kc ks) (T.setTop (mkF m pc Ls (.long z :: st))) := own_ret Y rfl (Or.inr (Or.inl ⟨rfl, rfl, _, rfl⟩)) hret hd hc hs hq
theorem own_retD (Y : own_S Z y bytes maxL ret p l e R s m args below meth c T h locs cells slots) {z : UInt64} (hret : ret = some .double) (hd : decode bytes pc = .ok (.dreturn, 1)) (hc : cells ≤ kc) (hs : slots ≤ ks) (hq : Q (some (.double z)) h locs) : own_G p e below (own_E s Q kc ks) (T.setTop (mkF m pc Ls (.double z :: st))) := own_ret Y rfl (Or.inr (Or.inr (Or.inl ⟨rfl, rfl, _, rfl⟩))) hret hd hc hs hq
theorem own_retA (Y : own_S Z y bytes maxL ret p l e R s m args below meth c T h locs cells slots) {w : Value} {t : FieldType} (hret : ret = some t) (ht : t.isReference = true) (hw : w.isRef = true) (hd : decode bytes pc = .ok (.areturn, 1)) (hc : cells ≤ kc) (hs : slots ≤ ks) (hq : Q (some w) h locs) : own_G p e below (own_E s Q kc ks) (T.setTop (mkF m pc Ls (w :: st))) := own_ret Y (by cases t <;> first | rfl | (cases ht; done)) (Or.inr (Or.inr (Or.inr (Or.inr ⟨rfl, ht, hw⟩)))) hret hd hc hs hq
theorem own_retN (Y : own_S Z y bytes maxL ret p l e R s m args below meth c T h locs cells slots) {z : Int32} {t : FieldType} (hret : ret = some t) (ht : t = .boolean ∨ t = .byte ∨ t = .char ∨ t = .short) (hd : decode bytes pc = .ok (.ireturn, 1)) (hc : cells ≤ kc) (hs : slots ≤ ks) (hq : Q (some (.int (nar t z))) h locs) : own_G p e below (own_E s Q kc ks) (T.setTop (mkF m pc Ls (.int z :: st))) := by
  obtain ⟨⟨hx, hby, hml, hown, hZ, hr0, hlk, hnm⟩, X, eT⟩ := Y
  subst eT
  obtain ⟨fs, hr, hrun, hended, hW, hsame⟩ := X.leave (v := some (.int (nar t z))) (fun q => by rw [hr0, hret] at q; cases q) hlk
  exact ⟨_, _, retN X hx (hr0.trans hret) ht (hb hby hd) hr, hrun, hended, _, _, rfl, hq, ⟨_, rfl⟩, hW, hsame.mono hc hs⟩
theorem own_retV (Y : own_S Z y bytes maxL ret p l e R s m args below meth c T h locs cells slots) (hret : ret = none) (hd : decode bytes pc = .ok (.return_, 1)) (hc : cells ≤ kc) (hs : slots ≤ ks) (hq : Q none h locs) : own_G p e below (own_E s Q kc ks) (T.setTop (mkF m pc Ls [])) := by
  obtain ⟨⟨hx, hby, hml, hown, hZ, hr0, hlk, hnm⟩, X, eT⟩ := Y
  subst eT
  obtain ⟨fs, hr, hrun, hended, hW, hsame⟩ := X.leave (v := none) (fun _ => rfl) hlk
  exact ⟨_, _, X.returnOut hx (hr0.trans hret) (hb hby hd) hr, hrun, hended, _, _, rfl, hq, ⟨_, rfl⟩, hW, hsame.mono hc hs⟩
end Own

theorem own_eqi {args : Array Value} {Z : State} {t : Term} {k : Int32} (hx : (Jvm.Cond.eq t (Jvm.Term.int k)).value args Z none Z [] = some true) : t.eval args Z none [] Z = some (.int k) := by
  obtain ⟨u, v, e1, e2, k1, k2⟩ := cmp_v (Or.inl hx)
  cases (Term.int_eval k).symm.trans e2
  obtain ⟨z, rfl⟩ := k2
  have q : some (decide (z = k)) = some true := by simpa [Jvm.Cond.value, Term.eval, e1] using hx
  obtain rfl : z = k := of_decide_eq_true (Option.some.inj q)
  exact e1
theorem own_len {args : Array Value} {Z : State} {t : Term} {a : Addr} {c : Cell} {ty : FieldType} {k : Int32} (ev : t.eval args Z none [] Z = some (.ref a)) (A : Arr Z Z.heap a c ty) (hx : (Jvm.Cond.eq (Jvm.Term.length t) (Jvm.Term.int k)).value args Z none Z [] = some true) : c.slots.size < 2 ^ 31 ∧ c.slots.size.toInt32 = k := by
  have e := own_eqi hx
  have f : Z.arrayAt? a = some c := Arr.fin (State.Warmed39.refl Z).alike A
  simp only [Term.eval, ev, f, Option.bind_eq_bind, Option.bind_some] at e
  split at e
  · rename_i q; exact ⟨by simpa using q, Value.int.inj (Option.some.inj e)⟩
  · cases e
theorem own_el {args : Array Value} {Z : State} {t : Term} {a : Addr} {c : Cell} {ty : FieldType} {j k : Int32} (ev : t.eval args Z none [] Z = some (.ref a)) (A : Arr Z Z.heap a c ty) (hx : (Jvm.Cond.eq (Jvm.Term.elem t (Jvm.Term.int j)) (Jvm.Term.int k)).value args Z none Z [] = some true) : c.slots[j.toNatClampNeg]? = some (.int k) :=
  (elem_in (own_eqi hx) ev (Term.int_eval j) A.1).2

theorem d1_0 : decode prog_19_method_4_code 0 = .ok (.iload_n 0, 1) := by decide +kernel
theorem d1_1 : decode prog_19_method_4_code 1 = .ok (.ifCond .eq 9, 3) := by decide +kernel
theorem d1_4 : decode prog_19_method_4_code 4 = .ok (.getstatic 160, 3) := by decide +kernel
theorem d1_7 : decode prog_19_method_4_code 7 = .ok (.goto 6, 3) := by decide +kernel
theorem d1_10 : decode prog_19_method_4_code 10 = .ok (.getstatic 114, 3) := by decide +kernel
theorem d1_13 : decode prog_19_method_4_code 13 = .ok (.areturn, 1) := by decide +kernel
theorem pl1 : plainFor (⟨"com/example/portero/portero/http/Responses", "end", "(Z)[B"⟩ : MethodName) = true := by first | exact plainFor_of_name (by first | (simp [plainName, overriddenIn]; done) | decide +kernel) | decide +kernel
theorem pl0 : plainFor x = true := by first | exact plainFor_of_name (by first | (simp [plainName, overriddenIn]; done) | decide +kernel) | decide +kernel
theorem pd1 : parseMethodDescriptor "(Z)[B" = some ⟨[.boolean], some (.array .byte)⟩ := by decide +kernel
def Qend (b : Int32) (an al : Addr) (h0 : Heap) (v : Option Value) (h : Heap) (L : List Loc) : Prop := h0 = h ∧ L = [] ∧ ((b = 0 ∧ v = some (.ref an)) ∨ (¬ b = 0 ∧ v = some (.ref al)))
set_option maxRecDepth 65536 in
set_option maxHeartbeats 4000000 in
theorem c_end (l : Launch) (Z : State) (a0 : Array Value) (hw : ∀ d ∈ tables_1, d.before a0 Z = true) (b : Int32) (an al : Addr) (h0 : Heap) (Sn : Sta Z h0 "com/example/portero/portero/http/Responses" "NOTHING" "[B" (.ref an)) (Sl : Sta Z h0 "com/example/portero/portero/http/Responses" "LAST_CHUNK" "[B" (.ref al)) : own_M l (⟨"com/example/portero/portero/http/Responses", "end", "(Z)[B"⟩ : MethodName) prog_19_method_4_code 1 (some (.array .byte)) [] ({ frames := 0, cells := 0, slots := 0, locals := 0 } : Room) Z #[.int b] h0 (Qend b an al h0) := by
  refine own_met pl1 (Lf := #[.val (.int b)]) (fun m => by first | (simp [entryFrame, mkF, argsToLocals, Value.category]; done) | rfl) ?_
  intro p e s m below meth c T Y
  refine own_iloadN 1 Y d1_0 rfl rfl ?_
  refine own_if_eq 10 4 Y d1_1 (by decide) rfl (fun q1 => ?_) (fun q1 => ?_)
  · refine own_getS 13 Y (host := "") (Or.inl (own_wd hw 4 rfl)) Via.refl Sn d1_10 rfl fun T2 Y1 => ?_
    exact own_retA Y1 rfl rfl rfl d1_13 (by decide) (by decide) ⟨rfl, rfl, Or.inl ⟨q1, rfl⟩⟩
  · refine own_getS 7 Y (host := "") (Or.inl (own_wd hw 6 rfl)) Via.refl Sl d1_4 rfl fun T4 Y3 => ?_
    refine own_goto 13 Y3 d1_7 (by decide) ?_
    exact own_retA Y3 rfl rfl rfl d1_13 (by decide) (by decide) ⟨rfl, rfl, Or.inr ⟨q1, rfl⟩⟩
def Q0 (n0 : Nat) (v : Option Value) (h : Heap) (L : List Loc) : Prop := v = some (.int 1) ∧ Fr n0 L
set_option maxRecDepth 65536 in
set_option maxHeartbeats 4000000 in
theorem c_law (l : Launch) (Z : State) (a0 : Array Value) (hw : ∀ d ∈ tables_1, d.before a0 Z = true) (x0 : Int32) (an al : Addr) (kn kl : ClassId) (h0 : Heap) (n0 : Nat) (Sn : Sta Z h0 "com/example/portero/portero/http/Responses" "NOTHING" "[B" (.ref an)) (Sl : Sta Z h0 "com/example/portero/portero/http/Responses" "LAST_CHUNK" "[B" (.ref al)) (An : Arv Z h0 an kn .byte (0 : Int32) [] (.int 0)) (Al : Arv Z h0 al kl .byte (5 : Int32) [(.int (48 : Int32)), (.int (13 : Int32)), (.int (10 : Int32)), (.int (13 : Int32)), (.int (10 : Int32))] (.int 0)) : own_M l x code maxLocals ret tables_1 room_1 Z #[.int x0] h0 (Q0 n0) := by
  refine own_met pl0 (Lf := #[.val (.int x0), .unset, .unset]) (fun m => by first | (simp [entryFrame, mkF, argsToLocals, Value.category, maxLocals]; done) | rfl) ?_
  intro p e s m below meth c T Y
  refine own_iloadN 1 Y at_0 rfl rfl ?_
  refine own_iconst 2 Y (1 : Int32) at_1 rfl rfl ?_
  refine own_iand 3 Y at_2 rfl ?_
  refine own_if_eq 10 6 Y at_3 (by decide) rfl (fun q3 => ?_) (fun q3 => ?_)
  · refine own_iconst 11 Y (0 : Int32) at_10 rfl rfl ?_
    refine own_istoreN 12 Y #[.val (.int x0), .val (.int (0 : Int32)), .unset] at_11 rfl rfl ?_
    refine own_iloadN 13 Y at_12 rfl rfl ?_
    refine own_callS 16 Y [(.int (0 : Int32))] [] (own_wd hw 0 rfl) (own_wd hw 1 rfl) (own_wd hw 2 rfl) (own_wd hw 3 rfl) (c_end l Z a0 hw (0 : Int32) an al h0 Sn Sl) at_13 (by decide) (lenOf pd1 rfl) rfl rfl (by decide) (by decide) (by decide) (by decide) rfl fun v1 T1 h1 L1 Y1 hQ1 => ?_
    obtain ⟨rfl, rfl, hv⟩ := hQ1
    obtain ⟨-, rfl⟩ := hv.resolve_right fun z => z.1 rfl
    show own_G p e below _ (T1.setTop (mkF m 16 #[.val (.int x0), .val (.int (0 : Int32)), .unset] [(.ref an)]))
    refine own_astoreN 17 Y1 #[.val (.int x0), .val (.int (0 : Int32)), .val (.ref an)] at_16 rfl rfl rfl ?_
    refine own_aloadN 18 Y1 at_17 rfl rfl rfl ?_
    refine own_ifnonnullT 23 Y1 at_18 (by decide) ?_
    refine own_iloadN 24 Y1 at_23 rfl rfl ?_
    refine own_ifF 27 Y1 at_24 (XT.i0_ne_f rfl) rfl ?_
    refine own_aloadN 28 Y1 at_27 rfl rfl rfl ?_
    refine own_alen 29 Y1 An at_28 rfl ?_
    refine own_ifF 32 Y1 at_29 (XT.i0_ne_f rfl) rfl ?_
    refine own_iconst 33 Y1 (1 : Int32) at_32 rfl rfl ?_
    refine own_goto 37 Y1 at_33 (by decide) ?_
    exact own_retN Y1 (t := .boolean) rfl (by simp) at_37 (by decide) (by decide) ⟨rfl, Fr.nil n0⟩
  · refine own_iconst 7 Y (1 : Int32) at_6 rfl rfl ?_
    refine own_goto 11 Y at_7 (by decide) ?_
    refine own_istoreN 12 Y #[.val (.int x0), .val (.int (1 : Int32)), .unset] at_11 rfl rfl ?_
    refine own_iloadN 13 Y at_12 rfl rfl ?_
    refine own_callS 16 Y [(.int (1 : Int32))] [] (own_wd hw 0 rfl) (own_wd hw 1 rfl) (own_wd hw 2 rfl) (own_wd hw 3 rfl) (c_end l Z a0 hw (1 : Int32) an al h0 Sn Sl) at_13 (by decide) (lenOf pd1 rfl) rfl rfl (by decide) (by decide) (by decide) (by decide) rfl fun v2 T2 h2 L2 Y2 hQ2 => ?_
    obtain ⟨rfl, rfl, hv⟩ := hQ2
    obtain ⟨-, rfl⟩ := hv.resolve_left fun z => absurd z.1 (by decide)
    show own_G p e below _ (T2.setTop (mkF m 16 #[.val (.int x0), .val (.int (1 : Int32)), .unset] [(.ref al)]))
    refine own_astoreN 17 Y2 #[.val (.int x0), .val (.int (1 : Int32)), .val (.ref al)] at_16 rfl rfl rfl ?_
    refine own_aloadN 18 Y2 at_17 rfl rfl rfl ?_
    refine own_ifnonnullT 23 Y2 at_18 (by decide) ?_
    refine own_iloadN 24 Y2 at_23 rfl rfl ?_
    refine own_ifT 38 Y2 at_24 (XT.i0_ne_t (by decide)) (by decide) ?_
    refine own_aloadN 39 Y2 at_38 rfl rfl rfl ?_
    refine own_alen 40 Y2 Al at_39 rfl ?_
    refine own_iconst 41 Y2 (5 : Int32) at_40 rfl rfl ?_
    refine own_icF 44 Y2 at_41 (XT.ii_ne_f rfl) rfl ?_
    refine own_aloadN 45 Y2 at_44 rfl rfl rfl ?_
    refine own_iconst 46 Y2 (0 : Int32) at_45 rfl rfl ?_
    refine own_baload 47 Y2 Al at_46 ⟨by decide, by decide⟩ rfl rfl ?_
    refine own_bipush 49 Y2 (48 : Int32) at_47 rfl rfl ?_
    refine own_icF 52 Y2 at_49 (XT.ii_ne_f rfl) rfl ?_
    refine own_aloadN 53 Y2 at_52 rfl rfl rfl ?_
    refine own_iconst 54 Y2 (1 : Int32) at_53 rfl rfl ?_
    refine own_baload 55 Y2 Al at_54 ⟨by decide, by decide⟩ rfl rfl ?_
    refine own_bipush 57 Y2 (13 : Int32) at_55 rfl rfl ?_
    refine own_icF 60 Y2 at_57 (XT.ii_ne_f rfl) rfl ?_
    refine own_aloadN 61 Y2 at_60 rfl rfl rfl ?_
    refine own_iconst 62 Y2 (2 : Int32) at_61 rfl rfl ?_
    refine own_baload 63 Y2 Al at_62 ⟨by decide, by decide⟩ rfl rfl ?_
    refine own_bipush 65 Y2 (10 : Int32) at_63 rfl rfl ?_
    refine own_icF 68 Y2 at_65 (XT.ii_ne_f rfl) rfl ?_
    refine own_aloadN 69 Y2 at_68 rfl rfl rfl ?_
    refine own_iconst 70 Y2 (3 : Int32) at_69 rfl rfl ?_
    refine own_baload 71 Y2 Al at_70 ⟨by decide, by decide⟩ rfl rfl ?_
    refine own_bipush 73 Y2 (13 : Int32) at_71 rfl rfl ?_
    refine own_icF 76 Y2 at_73 (XT.ii_ne_f rfl) rfl ?_
    refine own_aloadN 77 Y2 at_76 rfl rfl rfl ?_
    refine own_iconst 78 Y2 (4 : Int32) at_77 rfl rfl ?_
    refine own_baload 79 Y2 Al at_78 ⟨by decide, by decide⟩ rfl rfl ?_
    refine own_bipush 81 Y2 (10 : Int32) at_79 rfl rfl ?_
    refine own_icF 84 Y2 at_81 (XT.ii_ne_f rfl) rfl ?_
    refine own_iconst 85 Y2 (1 : Int32) at_84 rfl rfl ?_
    refine own_goto 89 Y2 at_85 (by decide) ?_
    exact own_retN Y2 (t := .boolean) rfl (by simp) at_89 (by decide) (by decide) ⟨rfl, Fr.nil n0⟩
set_option maxRecDepth 65536 in
set_option maxHeartbeats 40000000 in
theorem comes_1 {Post : Tables → Env → Array Value → State → Outcome → State → Prop} (hpost : ∀ tb e args s v u, (limb_1_1.after args s (.returned v) u = true ∧ limb_1_2.after args s (.returned v) u = true ∧ True) → FrameEnd s (.returned v) u (Jvm.fieldLocs frame_1_writes args s ++ Jvm.arrayLocs frame_1_arrays args s ++ Jvm.staticLocs frame_1_statics s) 0 0 → Post tb e args s (.returned v) u) :
    ArmFor flags0 classFile x code maxLocals ret World_1 tables_1 room_1 Calls_1 rest_1 Pre_1 Post := by
  intro l hfl _ _ p e ha hc hk s m args below hf hA hF happ hP
  obtain ⟨hcalls, hrest, hpre⟩ := hP
  obtain ⟨-, -, -, hnamed, -, -, -, hat⟩ := (Spec.applies_iff hf).mp happ
  obtain ⟨hg, hn⟩ := and_e (Cond.before_iff.mp (show (Jvm.Cond.and given_1 narrow_1).before args s = true from hpre))
  obtain ⟨g0, hg⟩ := and_e hg
  have g1 := hg
  obtain ⟨w0, rfl⟩ : ∃ w0 : Value, args = #[w0] := by
    have hs : args.size = 1 := by simpa [Cond.value, given_1] using g0
    obtain ⟨L⟩ := args
    match L, hs with
    | [w0], _ => exact ⟨w0, rfl⟩
  have hw := fun d (hd : d ∈ tables_1) => atoms_spec (ws := Jvm.Cond.code x code maxLocals ret :: tables_1) hat d (List.mem_cons_of_mem _ hd)
  have hfit : Fit s := fun {y c} hc i hi => by
    obtain ⟨ha, rfl⟩ := Array.getElem?_eq_some_iff.mp hc
    have q := List.all_eq_true.mp ((Array.all_eq_true_iff_forall_mem.mp hF) _ (Array.getElem_mem ha)) i (List.mem_range.mpr hi)
    simpa [Array.getElem?_eq_getElem hi] using q
  obtain ⟨i0, ei0⟩ := is_v g1
  obtain rfl : w0 = (.int i0) := Option.some.inj ei0
  obtain ⟨n0, hn⟩ := and_e hn
  obtain ⟨n1, hn⟩ := and_e hn
  obtain ⟨n2, hn⟩ := and_e hn
  obtain ⟨n3, hn⟩ := and_e hn
  obtain ⟨n4, hn⟩ := and_e hn
  obtain ⟨n5, hn⟩ := and_e hn
  obtain ⟨n6, hn⟩ := and_e hn
  obtain ⟨n7, hn⟩ := and_e hn
  have n8 := hn
  obtain ⟨an, ev_an⟩ := arr_v n0
  obtain ⟨c_an, A_an⟩ := Arr.start ev_an n0
  obtain ⟨z_an, y_an⟩ := own_len ev_an A_an n1
  have S_an : Sta s s.heap "com/example/portero/portero/http/Responses" "NOTHING" "[B" (.ref an) := Sta.start ev_an (Or.inr ⟨(own_wd hw 2 rfl), (own_wd hw 5 rfl)⟩)
  obtain ⟨al, ev_al⟩ := arr_v n2
  obtain ⟨c_al, A_al⟩ := Arr.start ev_al n2
  obtain ⟨z_al, y_al⟩ := own_len ev_al A_al n3
  have S_al : Sta s s.heap "com/example/portero/portero/http/Responses" "LAST_CHUNK" "[B" (.ref al) := Sta.start ev_al (Or.inr ⟨(own_wd hw 2 rfl), (own_wd hw 7 rfl)⟩)
  have V_an : Arv s s.heap an c_an.cls .byte (0 : Int32) [] (.int 0) := Arv.start hfit A_an z_an y_an (by decide) (by decide) trivial
  have V_al : Arv s s.heap al c_al.cls .byte (5 : Int32) [(.int (48 : Int32)), (.int (13 : Int32)), (.int (10 : Int32)), (.int (13 : Int32)), (.int (10 : Int32))] (.int 0) := Arv.start hfit A_al z_al y_al (by decide) (by decide) ⟨own_el ev_al A_al n4, own_el ev_al A_al n5, own_el ev_al A_al n6, own_el ev_al A_al n7, own_el ev_al A_al n8, trivial⟩
  obtain ⟨n, o, h1, h2, h3, _, L, rfl, ⟨rfl, N⟩, hq⟩ := (c_law l s _ hw i0 an al c_an.cls c_al.cls s.heap s.heap.size S_an S_al V_an V_al) p e ha hc hk s m _ below hf ((Spec.applies_iff_loose hf).mp happ).1 ⟨rfl, State.Warmed39.refl s, rfl⟩ trivial
  refine ⟨n, _, h1, h2, h3, hpost _ _ _ _ _ _ ⟨Cond.after_iff.mpr rfl, Cond.after_iff.mpr (eq_i res_at (Term.int_eval (1)) rfl), trivial⟩ ⟨hq.1, hq.2.1, (hq.2.2.sift fun y hy => Or.inr (N y hy)).mono (by decide) (by decide)⟩⟩
theorem main_1_1 : Claimed_1_1 := comes_1 fun _ _ _ _ _ _ h hF => ⟨h.1, hF⟩
theorem main_1_2 : Claimed_1_2 := comes_1 fun _ _ _ _ _ _ h hF => ⟨h.2.1, hF⟩
end Jvm.Pilot.@@N@@
namespace Jvm.Pilot.@@N@@
open Jvm Jvm.ClassFile Sem Op Lib Jvm.Free Jvm.Stand Jvm.Pilot.@@N@@.Jvm.D
/-! MADE BY PROGRAM (witnessworld.py) out of the Statement's table words and the real class files: 9 classes; the members and pool entries that the words name. The judged class is class 1, her method 1. -/
namespace start1
open Jvm.ClassFile
def u (s : String) : CpInfo := .utf8 (stringToUtf16 s)
/-- a pool by its gaps: so many unusable entries, then the entry; so many at the end -/
def gap : Nat → List CpInfo → List CpInfo
  | 0, r => r
  | n + 1, r => .unusable :: gap n r
def poolList (es : List (Nat × CpInfo)) (last : Nat) : List CpInfo := es.foldr (fun e r => gap e.1 (e.2 :: r)) (gap last [])
def pool (es : List (Nat × CpInfo)) (last : Nat) : Array CpInfo := ⟨poolList es last⟩
def fileOf (pool : Array CpInfo) (this : Nat) (attrs : Array Attribute := #[]) (ms : Array MethodInfo := #[]) (fl : Nat := 33) (sup : Nat := 0) (ifs : Array Nat := #[]) (fds : Array FieldInfo := #[]) : ClassFile where
  minorVersion := 0
  majorVersion := 65
  constantPool := pool
  accessFlags := fl
  thisClass := this
  superClass := sup
  interfaces := ifs
  fields := fds
  methods := ms
  attributes := attrs
def plain (name : String) (sup : Option ClassId) : Class where
  name := name
  kind := .ordinary
  loader := none
  accessFlags := 33
  super := sup
  interfaces := #[]
  cf := none
  fields := #[]
  methods := #[]
  instanceTypes := #[]
  staticTypes := #[]
  resolved := #[]
  callSites := []
  init := .initialized
  statics := none
  mirror := none

def pool0 : Array CpInfo := pool [(5, u "<init>"), (0, u "()V"), (1, .class_ 10), (1, u "java/lang/Object")] 113

def k0m0 : Method := { name := "<init>", desc := "()V", sig := { parameters := [], returnType := none }, accessFlags := 1, code := none }
/-- java/lang/Object -/
def k0 : Class := { plain "java/lang/Object" none with
  accessFlags := 33
  interfaces := #[]
  cf := some (fileOf pool0 8 #[] #[{ accessFlags := 1, nameIndex := 5, descriptorIndex := 6, attributes := #[] }] 33 0 #[] #[])
  fields := #[]
  methods := #[k0m0]
  instanceTypes := #[]
  staticTypes := #[]
  resolved := Array.replicate 124 none
  statics := none }

def pool1 : Array CpInfo := pool [(2, .class_ 4), (1, u "java/lang/Object"), (0, u "<init>"), (0, u "()V"), (0, .methodref 8 9), (0, .class_ 10), (0, .nameAndType 11 12), (0, u "com/example/portero/portero/http/Responses"), (0, u "end"), (0, u "(Z)[B"), (0, .class_ 14), (0, u "com/example/portero/portero/http/ResponsesEndPinLaw"), (2, u "law"), (0, u "(I)Z")] 5

def k1m0 : Method := { name := "<init>", desc := "()V", sig := { parameters := [], returnType := none }, accessFlags := 1, code := none }
def k1c1 : Code := { maxStack := 2, maxLocals := 3, code := code, exceptionTable := #[], attributes := #[] }
def k1m1 : Method := { name := "law", desc := "(I)Z", sig := { parameters := [.int], returnType := some .boolean }, accessFlags := 9, code := some k1c1 }
/-- com/example/portero/portero/http/ResponsesEndPinLaw -/
def k1 : Class := { plain "com/example/portero/portero/http/ResponsesEndPinLaw" (some 0) with
  accessFlags := 49
  interfaces := #[]
  cf := some (fileOf pool1 13 #[] #[{ accessFlags := 1, nameIndex := 5, descriptorIndex := 6, attributes := #[] }, { accessFlags := 9, nameIndex := 17, descriptorIndex := 18, attributes := #[] }] 49 2 #[] #[])
  fields := #[]
  methods := #[k1m0, k1m1]
  instanceTypes := #[]
  staticTypes := #[]
  resolved := Array.replicate 24 none
  statics := none }

def pool2 : Array CpInfo := pool [(2, .class_ 4), (1, u "java/lang/Object"), (0, u "<init>"), (0, u "()V"), (14, .class_ 22), (0, u "com/example/portero/portero/http/Responses"), (91, .fieldref 21 115), (0, .nameAndType 116 117), (0, u "NOTHING"), (0, u "[B"), (41, u "CRLF"), (0, .fieldref 21 161), (0, .nameAndType 162 117), (0, u "LAST_CHUNK"), (16, u "stamp"), (0, u "Lcom/example/portero/portero/http/Responses$Stamp;"), (1, .class_ 184), (1, u "com/example/portero/portero/http/Responses$Stamp"), (3, u "DATE"), (0, u "Ljava/time/format/DateTimeFormatter;"), (52, u "CONTINUE"), (28, u "CLOSE"), (0, u "Ljava/lang/String;"), (7, u "end"), (0, u "(Z)[B")] 24

def k2m0 : Method := { name := "<init>", desc := "()V", sig := { parameters := [], returnType := none }, accessFlags := 2, code := none }
def k2c1 : Code := { maxStack := 1, maxLocals := 1, code := prog_19_method_4_code, exceptionTable := #[], attributes := #[] }
def k2m1 : Method := { name := "end", desc := "(Z)[B", sig := { parameters := [.boolean], returnType := some (.array .byte) }, accessFlags := 8, code := some k2c1 }
/-- com/example/portero/portero/http/Responses -/
def k2 : Class := { plain "com/example/portero/portero/http/Responses" (some 0) with
  accessFlags := 48
  interfaces := #[]
  cf := some (fileOf pool2 21 #[.nestMembers #[182]] #[{ accessFlags := 2, nameIndex := 5, descriptorIndex := 6, attributes := #[] }, { accessFlags := 8, nameIndex := 280, descriptorIndex := 281, attributes := #[] }] 48 2 #[] #[{ accessFlags := 24, nameIndex := 242, descriptorIndex := 117, attributes := #[] }, { accessFlags := 24, nameIndex := 271, descriptorIndex := 272, attributes := #[] }, { accessFlags := 26, nameIndex := 162, descriptorIndex := 117, attributes := #[] }, { accessFlags := 26, nameIndex := 159, descriptorIndex := 117, attributes := #[] }, { accessFlags := 26, nameIndex := 116, descriptorIndex := 117, attributes := #[] }, { accessFlags := 26, nameIndex := 188, descriptorIndex := 189, attributes := #[] }, { accessFlags := 74, nameIndex := 179, descriptorIndex := 180, attributes := #[] }])
  fields := #[{ name := "CONTINUE", type := (.array .byte), accessFlags := 24, slot := 0, constantValue := 0 }, { name := "CLOSE", type := (.object "java/lang/String"), accessFlags := 24, slot := 1, constantValue := 0 }, { name := "LAST_CHUNK", type := (.array .byte), accessFlags := 26, slot := 2, constantValue := 0 }, { name := "CRLF", type := (.array .byte), accessFlags := 26, slot := 3, constantValue := 0 }, { name := "NOTHING", type := (.array .byte), accessFlags := 26, slot := 4, constantValue := 0 }, { name := "DATE", type := (.object "java/time/format/DateTimeFormatter"), accessFlags := 26, slot := 5, constantValue := 0 }, { name := "stamp", type := (.object "com/example/portero/portero/http/Responses$Stamp"), accessFlags := 74, slot := 6, constantValue := 0 }]
  methods := #[k2m0, k2m1]
  instanceTypes := #[]
  staticTypes := #[(.array .byte), (.object "java/lang/String"), (.array .byte), (.array .byte), (.array .byte), (.object "java/time/format/DateTimeFormatter"), (.object "com/example/portero/portero/http/Responses$Stamp")]
  resolved := Array.replicate 306 none
  statics := some 0 }

def pool3 : Array CpInfo := pool [(1, u "java/lang/Cloneable"), (0, .class_ 1), (0, u "java/lang/Object"), (0, .class_ 3)] 3

/-- java/lang/Cloneable -/
def k3 : Class := { plain "java/lang/Cloneable" (some 0) with
  accessFlags := 1537
  interfaces := #[]
  cf := some (fileOf pool3 2 #[] #[] 1537 4 #[] #[])
  fields := #[]
  methods := #[]
  instanceTypes := #[]
  staticTypes := #[]
  resolved := Array.replicate 8 none
  statics := none }

def pool4 : Array CpInfo := pool [(1, u "java/io/Serializable"), (0, .class_ 1), (0, u "java/lang/Object"), (0, .class_ 3)] 3

/-- java/io/Serializable -/
def k4 : Class := { plain "java/io/Serializable" (some 0) with
  accessFlags := 1537
  interfaces := #[]
  cf := some (fileOf pool4 2 #[] #[] 1537 4 #[] #[])
  fields := #[]
  methods := #[]
  instanceTypes := #[]
  staticTypes := #[]
  resolved := Array.replicate 8 none
  statics := none }

/-- the primitive byte -/
def k5 : Class := { plain "byte" none with kind := .primitive 'B', accessFlags := 0x411 }
/-- [B -/
def k6 : Class := { plain "[B" (some 0) with kind := .array 5 .byte, interfaces := #[3, 4], accessFlags := 1041 }

/-- the primitive int -/
def k7 : Class := { plain "int" none with kind := .primitive 'I', accessFlags := 0x411 }
/-- [I -/
def k8 : Class := { plain "[I" (some 0) with kind := .array 7 .int, interfaces := #[3, 4], accessFlags := 1041 }

def heap : Heap := #[{ cls := 2, slots := #[.null, .null, .ref 2, .null, .ref 1, .null, .null], vm := .statics 2 },
  { cls := 6, slots := #[], vm := .none },
  { cls := 6, slots := #[.int 48, .int 13, .int 10, .int 13, .int 10], vm := .none }]
def classes : Array Class := #[k0, k1, k2, k3, k4, k5, k6, k7, k8]
def interned : List (Array UInt16 × Addr) := []
def slotsUsed : Nat := 12
def theMethod : MethodId := ⟨1, 1⟩
def args0 : Array Value := #[.int 5]
def aboutOver (below : List Frame) : State where
  vm := { classes := classes, interned := interned.toArray }
  heap := heap
  slotsUsed := slotsUsed
  threads := #[{ frames := .invoking theMethod args0 :: below }]
def below0 : List Frame := [.native { method := ⟨0, 0⟩, args := #[] }]
def about1 : State := aboutOver below0
def p0 : Program := .bare "" "" ""
def e0 : Env := launch0.env 0 0 0
theorem w_frames : about1.frames = Frame.invoking theMethod args0 :: below0 := rfl
set_option maxRecDepth 65536 in
theorem w_args : argsFit about1.vm theMethod args0 = true := by decide +kernel
set_option maxRecDepth 65536 in
theorem w_heap : heapFits about1 = true := by decide +kernel
set_option maxRecDepth 65536 in
theorem w_runnable : about1.curStatus? = some .runnable := by decide +kernel
set_option maxRecDepth 65536 in
theorem w_alone : about1.alone = true := by decide +kernel
set_option maxRecDepth 65536 in
theorem w_named : about1.methodNamed? x = some theMethod := by decide +kernel
set_option maxRecDepth 65536 in
theorem w_hears : about1.hears theMethod below0 = true := by decide +kernel
set_option maxRecDepth 65536 in
theorem w_ripe : about1.ripe theMethod args0 below0 = true := by decide +kernel
theorem w_running : about1.status = .running := rfl
set_option maxRecDepth 65536 in
theorem w_room : about1.hasRoom e0.platform room_1 = true :=
  launch0.hasRoom_least _ room_1 (by decide +kernel) (by decide +kernel) (by decide +kernel) (by decide +kernel) (by decide +kernel) (by decide +kernel)
theorem allAtoms_all (ts : List Jvm.Cond) (a : Array Jvm.Value) (st : Jvm.State) : (allAtoms ts).before a st = ts.all (fun c => c.before a st) := by
  induction ts with
  | nil => rfl
  | cons c t ih =>
    show (Jvm.Cond.and c (allAtoms t)).before a st = _
    rw [Jvm.Cond.before_and, ih, List.all_cons]
def words1 : List Jvm.Cond := Jvm.Cond.code x code maxLocals ret :: tables_1
/-- a 'code' word, met by the world's own term for the bytes: nothing is compared byte by byte -/
theorem code_word {y : MethodName} {bytes : ByteArray} {mx : Nat} {rt : Option FieldType} {a : Array Value} {s : State} {m : MethodId} {meth : Method} {c : Code} (h1 : s.methodNamed? y = some m) (h2 : s.vm.method? m = some meth) (h3 : meth.code = some c) (h4 : c.code = bytes)
    (h5 : (c.maxLocals == mx && c.exceptionTable.isEmpty && decide (c.maxStack ≤ mostOperands) && decide (meth.sig.returnType = rt) && !meth.locks && decide (parseMethodDescriptor y.desc = some meth.sig)) = true) : (Jvm.Cond.code y bytes mx rt).before a s = true := by
  simp only [Bool.and_eq_true, beq_iff_eq, Bool.not_eq_true', decide_eq_true_eq] at h5
  obtain ⟨⟨⟨⟨⟨g1, g2⟩, g3⟩, g4⟩, g5⟩, g6⟩ := h5
  simp [Cond.before, Cond.holds, Cond.value, h1, h2, h3, h4, g1, g2, g3, g4, g5, g6]
def isCode : Jvm.Cond → Bool
  | .code _ _ _ _ => true
  | _ => false
theorem all_split {L : List Jvm.Cond} {P : Jvm.Cond → Bool} (h1 : L.all (fun c => isCode c || P c) = true) (h2 : ∀ c ∈ L.filter isCode, P c = true) : L.all P = true := by
  refine List.all_eq_true.mpr fun c hc => ?_
  have h := List.all_eq_true.mp h1 c hc
  rcases Bool.eq_false_or_eq_true (isCode c) with hi | hi
  · exact h2 c (List.mem_filter.mpr ⟨hc, hi⟩)
  · simpa [hi] using h
set_option maxRecDepth 65536 in
theorem w_c0 : (Jvm.Cond.code x code maxLocals ret).before args0 about1 = true := code_word (m := ⟨1, 1⟩) (meth := k1m1) (c := k1c1) (by decide +kernel) rfl rfl rfl (by decide +kernel)
set_option maxRecDepth 65536 in
theorem w_c1 : (Jvm.Cond.code ({ cls := "com/example/portero/portero/http/Responses", name := "end", desc := "(Z)[B" } : Jvm.MethodName) prog_19_method_4_code (1 : Nat) (Option.some (Jvm.ClassFile.FieldType.array Jvm.ClassFile.FieldType.byte))).before args0 about1 = true := code_word (m := ⟨2, 1⟩) (meth := k2m1) (c := k2c1) (by decide +kernel) rfl rfl rfl (by decide +kernel)
def codes1 : List Jvm.Cond := [Jvm.Cond.code x code maxLocals ret, Jvm.Cond.code ({ cls := "com/example/portero/portero/http/Responses", name := "end", desc := "(Z)[B" } : Jvm.MethodName) prog_19_method_4_code (1 : Nat) (Option.some (Jvm.ClassFile.FieldType.array Jvm.ClassFile.FieldType.byte))]
set_option maxRecDepth 65536 in
theorem codes_eq : words1.filter isCode = codes1 := rfl
theorem w_codes : ∀ c ∈ words1.filter isCode, c.before args0 about1 = true := by
  rw [codes_eq]
  intro c hc
  simp only [codes1, List.mem_cons, List.not_mem_nil, or_false] at hc
  rcases hc with rfl | rfl
  · exact w_c0
  · exact w_c1
set_option maxRecDepth 65536 in
theorem w_t1 : words1.all (fun c => isCode c || c.before args0 about1) = true := by decide +kernel
theorem w_tables : (allAtoms (Jvm.Cond.code x code maxLocals ret :: tables_1)).before args0 about1 = true := by
  rw [allAtoms_all]
  show words1.all (fun c => c.before args0 about1) = true
  refine all_split ?_ w_codes
  rw [w_t1]
set_option maxRecDepth 65536 in
theorem w_case : (Jvm.Cond.and given_1 narrow_1).before args0 about1 = true := by decide +kernel
theorem w_applies : (headSpec (Jvm.Cond.code x code maxLocals ret :: tables_1) room_1).applies x e0.platform about1 = true :=
  (Spec.applies_iff w_frames).mpr ⟨w_running, w_runnable, w_alone, w_named, w_hears, w_ripe, w_room, w_tables⟩
theorem atStart : AtStart classFile x code maxLocals ret World_1 tables_1 room_1 Calls_1 rest_1 Pre_1 launch0 p0 e0 about1 theMethod args0 below0 :=
  ⟨lists_1, trivial, launch0.admits_env _ _ _, launch0.least_env, fairChoices_fair.cas, fairChoices_fair.clock, w_frames, w_args, w_heap, w_applies, trivial, trivial, w_case⟩
end start1
theorem witness_1 : WitnessClaimed_1 := ⟨start1.p0, start1.e0, start1.about1, start1.theMethod, start1.args0, start1.below0, start1.atStart⟩
end Jvm.Pilot.@@N@@
