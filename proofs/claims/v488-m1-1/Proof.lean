import JvmDerived
import JvmDerived.Pilot.@@N@@Statement
import JvmDerived.Pilot.@@N@@Code
set_option linter.unusedVariables false
set_option linter.unusedSimpArgs false
namespace Jvm.Pilot.@@N@@
open Jvm Jvm.ClassFile Sem Op Lib Jvm.Free Jvm.Stand Jvm.LawKit Jvm.RoadKit Bundle Jvm.Pilot.@@N@@.Jvm.D

section Own
variable {p : Program} {l : Launch} {e : Env} {R : Room} {s : State} {m : MethodId} {args : Array Value} {below : List Frame} {meth : Method} {c : Code} {T : State} {locs : List Loc} {cells slots : Nat} {Z : State} {h : Heap} {y : MethodName} {bytes : ByteArray} {maxL : Nat} {ret : Option FieldType} {E : Outcome → State → Prop} {Q : Option Value → Heap → List Loc → Prop} {kc ks : Nat} {Ls : Array Slot} {st : List Value} {pc : Nat} {a0 : Array Value}
/-- what stays as it is through the walk of one body -/
def own_C (Z : State) (y : MethodName) (bytes : ByteArray) (maxL : Nat) (ret : Option FieldType) (p : Program) (s : State) (m : MethodId) (meth : Method) (c : Code) : Prop :=
  p.tables.exec = Jvm.exec ∧ c.code = bytes ∧ c.maxLocals = maxL ∧ s.vm.findClass y.cls = some m.cls ∧ Z.Warmed39 s.vm ∧ meth.sig.returnType = ret ∧ meth.locks = false ∧ meth.name = y.name
/-- the walk stands at T, whose heap is h -/
def own_S (Z : State) (y : MethodName) (bytes : ByteArray) (maxL : Nat) (ret : Option FieldType) (p : Program) (l : Launch) (e : Env) (R : Room) (s : State) (m : MethodId) (args : Array Value) (below : List Frame) (meth : Method) (c : Code) (T : State) (h : Heap) (locs : List Loc) (cells slots : Nat) : Prop :=
  own_C Z y bytes maxL ret p s m meth c ∧ Stand p l e R s m args below meth c T locs cells slots ∧ T.heap = h
/-- from S the run ends, and its end is as Q says -/
def own_G (p : Program) (e : Env) (below : List Frame) (E : Outcome → State → Prop) (S : State) : Prop :=
  ∃ t o, Steps p.tables e below S t ∧ t.status = .running ∧ Ended t below o ∧ E o t
def own_E (s : State) (Q : Option Value → Heap → List Loc → Prop) (kc ks : Nat) (o : Outcome) (t : State) : Prop := ∃ v L, o = .returned v ∧ Q v t.heap L ∧ FrameEnd s o t L kc ks
theorem own_st {S S' : State} (hs : ∀ t, Steps p.tables e below S' t → Steps p.tables e below S t) (K : own_G p e below E S') : own_G p e below E S := by
  obtain ⟨t, o, h1, r⟩ := K
  exact ⟨t, o, hs t h1, r⟩
theorem own_S.x (Y : own_S Z y bytes maxL ret p l e R s m args below meth c T h locs cells slots) : p.tables.exec = Jvm.exec := Y.1.1
theorem own_S.d (Y : own_S Z y bytes maxL ret p l e R s m args below meth c T h locs cells slots) {pc : Nat} {r : Except ClassFile.DecodeError (ClassFile.Instr × Nat)} (hd : decode bytes pc = r) : decode c.code pc = r := hb Y.1.2.1 hd
theorem own_S.own (Y : own_S Z y bytes maxL ret p l e R s m args below meth c T h locs cells slots) : s.vm.findClass y.cls = some m.cls := Y.1.2.2.2.1
theorem own_S.warm (Y : own_S Z y bytes maxL ret p l e R s m args below meth c T h locs cells slots) : Z.Warmed39 s.vm := Y.1.2.2.2.2.1
theorem own_S.X (Y : own_S Z y bytes maxL ret p l e R s m args below meth c T h locs cells slots) : Stand p l e R s m args below meth c T locs cells slots := Y.2.1
theorem own_S.eT (Y : own_S Z y bytes maxL ret p l e R s m args below meth c T h locs cells slots) : T.heap = h := Y.2.2
/-- the contract of a body -/
def own_M (l : Launch) (y : MethodName) (bytes : ByteArray) (maxL : Nat) (ret : Option FieldType) (ws : List Jvm.Cond) (rm : Room) (Z : State) (as' : Array Value) (h : Heap) (Q : Option Value → Heap → List Loc → Prop) : Prop :=
  MetFree l y (head1 (Jvm.Cond.code y bytes maxL ret :: ws) rm) (fun a U => a = as' ∧ Z.Warmed39 U.vm ∧ U.heap = h) (fun _ _ _ _ _ => True) (fun _ U o U' => ∃ v L, o = .returned v ∧ Q v U'.heap L ∧ FrameEnd U o U' L rm.cells rm.slots)
theorem own_met {ws : List Jvm.Cond} {rm : Room} {as' : Array Value} (hp : plainFor y = true) {Lf : Array Slot} (hE : ∀ m, entryFrame m as' maxL = mkF m 0 Lf [])
    (body : ∀ p e s m below meth c T, own_S Z y bytes maxL ret p l e rm s m as' below meth c T h [] 0 0 → own_G p e below (own_E s Q rm.cells rm.slots) (T.setTop (mkF m 0 Lf []))) : own_M l y bytes maxL ret ws rm Z as' h Q := by
  refine MetFree.of_bodySF (maxLocals := maxL) hp hisR ?_
  intro p e s m args below meth c s₁ Bd hml0 hP hK
  obtain ⟨rfl, hZ, hh⟩ := hP
  obtain ⟨t, o, h1, h2, h3, h4⟩ := body p e s m below meth c s₁ ⟨⟨Bd.exec, Bd.bytes, hml0, findClass_of_methodNamed Bd.named, hZ, Bd.returns, Bd.notSynchronized, (name_of_methodNamed Bd.named Bd.method).1⟩, Stand.of_body Bd, by rw [← hh, Bd.state]; rfl⟩
  exact ⟨t, o, castTop (hE m) h1, h2, h3, h4⟩
theorem own_wd {ts : List Jvm.Cond} (hw : ∀ d ∈ ts, d.before a0 Z = true) (i : Nat) {d : Jvm.Cond} (hi : ts[i]? = some d) : d.before a0 Z = true := hw d (List.mem_of_getElem? hi)
theorem own_M.weak {ws : List Jvm.Cond} {rm : Room} {as' : Array Value} {Q' : Option Value → Heap → List Loc → Prop} (M : own_M l y bytes maxL ret ws rm Z as' h Q) (hQ : ∀ v h' L, Q v h' L → Q' v h' L) : own_M l y bytes maxL ret ws rm Z as' h Q' := by
  intro p e ha hc hk s m args below hf happ hP hK
  obtain ⟨n, o, h1, h2, h3, v, L, h4, h5, h6⟩ := M p e ha hc hk s m args below hf happ hP hK
  exact ⟨n, o, h1, h2, h3, v, L, h4, hQ _ _ _ h5, h6⟩
theorem own_aloadN (pc' : Nat) (Y : own_S Z y bytes maxL ret p l e R s m args below meth c T h locs cells slots) {k : Fin 4} {v : Value} (hd : decode bytes pc = .ok (.aload_n k, 1)) (hl : Ls[k.val]? = some (.val v)) (hv : v.isRef = true) (hp : pc + 1 = pc') (K : own_G p e below E (T.setTop (mkF m pc' Ls (v :: st)))) : own_G p e below E (T.setTop (mkF m pc Ls (st))) := by
  subst hp
  exact own_st (fun t k => XS.aloadN Y.X.here Y.x rfl (Y.d hd) hl hv k) K
theorem own_aload (pc' : Nat) (Y : own_S Z y bytes maxL ret p l e R s m args below meth c T h locs cells slots) {k : Nat} {v : Value} (hd : decode bytes pc = .ok (.aload k, 2)) (hl : Ls[k]? = some (.val v)) (hv : v.isRef = true) (hp : pc + 2 = pc') (K : own_G p e below E (T.setTop (mkF m pc' Ls (v :: st)))) : own_G p e below E (T.setTop (mkF m pc Ls (st))) := by
  subst hp
  exact own_st (fun t k => XS.aload Y.X.here Y.x rfl (Y.d hd) hl hv k) K
theorem own_iloadN (pc' : Nat) (Y : own_S Z y bytes maxL ret p l e R s m args below meth c T h locs cells slots) {k : Fin 4} {v : Int32} (hd : decode bytes pc = .ok (.iload_n k, 1)) (hl : Ls[k.val]? = some (.val (.int v))) (hp : pc + 1 = pc') (K : own_G p e below E (T.setTop (mkF m pc' Ls (.int v :: st)))) : own_G p e below E (T.setTop (mkF m pc Ls (st))) := by
  subst hp
  exact own_st (fun t k => XS.iloadN Y.X.here Y.x rfl (Y.d hd) hl k) K
theorem own_iload (pc' : Nat) (Y : own_S Z y bytes maxL ret p l e R s m args below meth c T h locs cells slots) {k : Nat} {v : Int32} (hd : decode bytes pc = .ok (.iload k, 2)) (hl : Ls[k]? = some (.val (.int v))) (hp : pc + 2 = pc') (K : own_G p e below E (T.setTop (mkF m pc' Ls (.int v :: st)))) : own_G p e below E (T.setTop (mkF m pc Ls (st))) := by
  subst hp
  exact own_st (fun t k => XS.iload Y.X.here Y.x rfl (Y.d hd) hl k) K
theorem own_lloadN (pc' : Nat) (Y : own_S Z y bytes maxL ret p l e R s m args below meth c T h locs cells slots) {k : Fin 4} {v : Int64} (hd : decode bytes pc = .ok (.lload_n k, 1)) (hl : Ls[k.val]? = some (.val (.long v))) (hp : pc + 1 = pc') (K : own_G p e below E (T.setTop (mkF m pc' Ls (.long v :: st)))) : own_G p e below E (T.setTop (mkF m pc Ls (st))) := by
  subst hp
  exact own_st (fun t k => XS.lloadN Y.X.here Y.x rfl (Y.d hd) hl k) K
theorem own_lload (pc' : Nat) (Y : own_S Z y bytes maxL ret p l e R s m args below meth c T h locs cells slots) {k : Nat} {v : Int64} (hd : decode bytes pc = .ok (.lload k, 2)) (hl : Ls[k]? = some (.val (.long v))) (hp : pc + 2 = pc') (K : own_G p e below E (T.setTop (mkF m pc' Ls (.long v :: st)))) : own_G p e below E (T.setTop (mkF m pc Ls (st))) := by
  subst hp
  exact own_st (fun t k => XS.lload Y.X.here Y.x rfl (Y.d hd) hl k) K
theorem own_iconst (pc' : Nat) (Y : own_S Z y bytes maxL ret p l e R s m args below meth c T h locs cells slots) {i : Int} (v : Int32) (hd : decode bytes pc = .ok (.iconst i, 1)) (hv : Int32.ofInt i = v) (hp : pc + 1 = pc') (K : own_G p e below E (T.setTop (mkF m pc' Ls (.int v :: st)))) : own_G p e below E (T.setTop (mkF m pc Ls (st))) := by
  subst hp
  exact own_st (fun t k => XT.iconstV Y.X.here Y.x rfl v (Y.d hd) hv k) K
theorem own_bipush (pc' : Nat) (Y : own_S Z y bytes maxL ret p l e R s m args below meth c T h locs cells slots) {i : Int} (v : Int32) (hd : decode bytes pc = .ok (.bipush i, 2)) (hv : (Int8.ofInt i).toInt32 = v) (hp : pc + 2 = pc') (K : own_G p e below E (T.setTop (mkF m pc' Ls (.int v :: st)))) : own_G p e below E (T.setTop (mkF m pc Ls (st))) := by
  subst hp
  exact own_st (fun t k => XT.bipushV Y.X.here Y.x rfl v (Y.d hd) hv k) K
theorem own_sipush (pc' : Nat) (Y : own_S Z y bytes maxL ret p l e R s m args below meth c T h locs cells slots) {i : Int} (v : Int32) (hd : decode bytes pc = .ok (.sipush i, 3)) (hv : (Int16.ofInt i).toInt32 = v) (hp : pc + 3 = pc') (K : own_G p e below E (T.setTop (mkF m pc' Ls (.int v :: st)))) : own_G p e below E (T.setTop (mkF m pc Ls (st))) := by
  subst hp
  exact own_st (fun t k => XT.sipushV Y.X.here Y.x rfl v (Y.d hd) hv k) K
theorem own_lconst (pc' : Nat) (Y : own_S Z y bytes maxL ret p l e R s m args below meth c T h locs cells slots) {i : Fin 2} (v : Int64) (hd : decode bytes pc = .ok (.lconst i, 1)) (hv : Int64.ofNat i = v) (hp : pc + 1 = pc') (K : own_G p e below E (T.setTop (mkF m pc' Ls (.long v :: st)))) : own_G p e below E (T.setTop (mkF m pc Ls (st))) := by
  subst hp
  exact own_st (fun t k => XT.lconstV Y.X.here Y.x rfl v (Y.d hd) hv k) K
theorem own_aconst_null (pc' : Nat) (Y : own_S Z y bytes maxL ret p l e R s m args below meth c T h locs cells slots)  (hd : decode bytes pc = .ok (.aconst_null, 1))  (hp : pc + 1 = pc') (K : own_G p e below E (T.setTop (mkF m pc' Ls (.null :: st)))) : own_G p e below E (T.setTop (mkF m pc Ls (st))) := by
  subst hp
  exact own_st (fun t k => XS.aconstNull Y.X.here Y.x rfl (Y.d hd) k) K
theorem own_iadd (pc' : Nat) (Y : own_S Z y bytes maxL ret p l e R s m args below meth c T h locs cells slots) {x z : Int32} (hd : decode bytes pc = .ok (.iadd, 1))  (hp : pc + 1 = pc') (K : own_G p e below E (T.setTop (mkF m pc' Ls (.int (x + z) :: st)))) : own_G p e below E (T.setTop (mkF m pc Ls (.int z :: .int x :: st))) := by
  subst hp
  exact own_st (fun t k => XS.iadd Y.X.here Y.x rfl (Y.d hd) rfl k) K
theorem own_isub (pc' : Nat) (Y : own_S Z y bytes maxL ret p l e R s m args below meth c T h locs cells slots) {x z : Int32} (hd : decode bytes pc = .ok (.isub, 1))  (hp : pc + 1 = pc') (K : own_G p e below E (T.setTop (mkF m pc' Ls (.int (x - z) :: st)))) : own_G p e below E (T.setTop (mkF m pc Ls (.int z :: .int x :: st))) := by
  subst hp
  exact own_st (fun t k => XS.isub Y.X.here Y.x rfl (Y.d hd) rfl k) K
theorem own_imul (pc' : Nat) (Y : own_S Z y bytes maxL ret p l e R s m args below meth c T h locs cells slots) {x z : Int32} (hd : decode bytes pc = .ok (.imul, 1))  (hp : pc + 1 = pc') (K : own_G p e below E (T.setTop (mkF m pc' Ls (.int (x * z) :: st)))) : own_G p e below E (T.setTop (mkF m pc Ls (.int z :: .int x :: st))) := by
  subst hp
  exact own_st (fun t k => XS.imul Y.X.here Y.x rfl (Y.d hd) rfl k) K
theorem own_iand (pc' : Nat) (Y : own_S Z y bytes maxL ret p l e R s m args below meth c T h locs cells slots) {x z : Int32} (hd : decode bytes pc = .ok (.iand, 1))  (hp : pc + 1 = pc') (K : own_G p e below E (T.setTop (mkF m pc' Ls (.int (x &&& z) :: st)))) : own_G p e below E (T.setTop (mkF m pc Ls (.int z :: .int x :: st))) := by
  subst hp
  exact own_st (fun t k => XS.iand Y.X.here Y.x rfl (Y.d hd) rfl k) K
theorem own_ior (pc' : Nat) (Y : own_S Z y bytes maxL ret p l e R s m args below meth c T h locs cells slots) {x z : Int32} (hd : decode bytes pc = .ok (.ior, 1))  (hp : pc + 1 = pc') (K : own_G p e below E (T.setTop (mkF m pc' Ls (.int (x ||| z) :: st)))) : own_G p e below E (T.setTop (mkF m pc Ls (.int z :: .int x :: st))) := by
  subst hp
  exact own_st (fun t k => XS.ior Y.X.here Y.x rfl (Y.d hd) rfl k) K
theorem own_ixor (pc' : Nat) (Y : own_S Z y bytes maxL ret p l e R s m args below meth c T h locs cells slots) {x z : Int32} (hd : decode bytes pc = .ok (.ixor, 1))  (hp : pc + 1 = pc') (K : own_G p e below E (T.setTop (mkF m pc' Ls (.int (x ^^^ z) :: st)))) : own_G p e below E (T.setTop (mkF m pc Ls (.int z :: .int x :: st))) := by
  subst hp
  exact own_st (fun t k => XS.ixor Y.X.here Y.x rfl (Y.d hd) rfl k) K
theorem own_ishl (pc' : Nat) (Y : own_S Z y bytes maxL ret p l e R s m args below meth c T h locs cells slots) {x z : Int32} (hd : decode bytes pc = .ok (.ishl, 1))  (hp : pc + 1 = pc') (K : own_G p e below E (T.setTop (mkF m pc' Ls (.int (x <<< (z &&& 31)) :: st)))) : own_G p e below E (T.setTop (mkF m pc Ls (.int z :: .int x :: st))) := by
  subst hp
  exact own_st (fun t k => XS.ishl Y.X.here Y.x rfl (Y.d hd) rfl k) K
theorem own_ishr (pc' : Nat) (Y : own_S Z y bytes maxL ret p l e R s m args below meth c T h locs cells slots) {x z : Int32} (hd : decode bytes pc = .ok (.ishr, 1))  (hp : pc + 1 = pc') (K : own_G p e below E (T.setTop (mkF m pc' Ls (.int (x >>> (z &&& 31)) :: st)))) : own_G p e below E (T.setTop (mkF m pc Ls (.int z :: .int x :: st))) := by
  subst hp
  exact own_st (fun t k => XS.ishr Y.X.here Y.x rfl (Y.d hd) rfl k) K
theorem own_iushr (pc' : Nat) (Y : own_S Z y bytes maxL ret p l e R s m args below meth c T h locs cells slots) {x z : Int32} (hd : decode bytes pc = .ok (.iushr, 1))  (hp : pc + 1 = pc') (K : own_G p e below E (T.setTop (mkF m pc' Ls (.int ((x.toUInt32 >>> (z &&& 31).toUInt32).toInt32) :: st)))) : own_G p e below E (T.setTop (mkF m pc Ls (.int z :: .int x :: st))) := by
  subst hp
  exact own_st (fun t k => XS.iushr Y.X.here Y.x rfl (Y.d hd) rfl k) K
theorem own_ladd (pc' : Nat) (Y : own_S Z y bytes maxL ret p l e R s m args below meth c T h locs cells slots) {x z : Int64} (hd : decode bytes pc = .ok (.ladd, 1))  (hp : pc + 1 = pc') (K : own_G p e below E (T.setTop (mkF m pc' Ls (.long (x + z) :: st)))) : own_G p e below E (T.setTop (mkF m pc Ls (.long z :: .long x :: st))) := by
  subst hp
  exact own_st (fun t k => XS.ladd Y.X.here Y.x rfl (Y.d hd) rfl k) K
theorem own_lsub (pc' : Nat) (Y : own_S Z y bytes maxL ret p l e R s m args below meth c T h locs cells slots) {x z : Int64} (hd : decode bytes pc = .ok (.lsub, 1))  (hp : pc + 1 = pc') (K : own_G p e below E (T.setTop (mkF m pc' Ls (.long (x - z) :: st)))) : own_G p e below E (T.setTop (mkF m pc Ls (.long z :: .long x :: st))) := by
  subst hp
  exact own_st (fun t k => XS.lsub Y.X.here Y.x rfl (Y.d hd) rfl k) K
theorem own_lmul (pc' : Nat) (Y : own_S Z y bytes maxL ret p l e R s m args below meth c T h locs cells slots) {x z : Int64} (hd : decode bytes pc = .ok (.lmul, 1))  (hp : pc + 1 = pc') (K : own_G p e below E (T.setTop (mkF m pc' Ls (.long (x * z) :: st)))) : own_G p e below E (T.setTop (mkF m pc Ls (.long z :: .long x :: st))) := by
  subst hp
  exact own_st (fun t k => XS.lmul Y.X.here Y.x rfl (Y.d hd) rfl k) K
theorem own_land (pc' : Nat) (Y : own_S Z y bytes maxL ret p l e R s m args below meth c T h locs cells slots) {x z : Int64} (hd : decode bytes pc = .ok (.land, 1))  (hp : pc + 1 = pc') (K : own_G p e below E (T.setTop (mkF m pc' Ls (.long (x &&& z) :: st)))) : own_G p e below E (T.setTop (mkF m pc Ls (.long z :: .long x :: st))) := by
  subst hp
  exact own_st (fun t k => XS.land Y.X.here Y.x rfl (Y.d hd) rfl k) K
theorem own_lor (pc' : Nat) (Y : own_S Z y bytes maxL ret p l e R s m args below meth c T h locs cells slots) {x z : Int64} (hd : decode bytes pc = .ok (.lor, 1))  (hp : pc + 1 = pc') (K : own_G p e below E (T.setTop (mkF m pc' Ls (.long (x ||| z) :: st)))) : own_G p e below E (T.setTop (mkF m pc Ls (.long z :: .long x :: st))) := by
  subst hp
  exact own_st (fun t k => XS.lor Y.X.here Y.x rfl (Y.d hd) rfl k) K
theorem own_lxor (pc' : Nat) (Y : own_S Z y bytes maxL ret p l e R s m args below meth c T h locs cells slots) {x z : Int64} (hd : decode bytes pc = .ok (.lxor, 1))  (hp : pc + 1 = pc') (K : own_G p e below E (T.setTop (mkF m pc' Ls (.long (x ^^^ z) :: st)))) : own_G p e below E (T.setTop (mkF m pc Ls (.long z :: .long x :: st))) := by
  subst hp
  exact own_st (fun t k => XS.lxor Y.X.here Y.x rfl (Y.d hd) rfl k) K
theorem own_lshl (pc' : Nat) (Y : own_S Z y bytes maxL ret p l e R s m args below meth c T h locs cells slots) {x : Int64} {z : Int32} (hd : decode bytes pc = .ok (.lshl, 1))  (hp : pc + 1 = pc') (K : own_G p e below E (T.setTop (mkF m pc' Ls (.long (x <<< (z &&& 0x3f).toInt64) :: st)))) : own_G p e below E (T.setTop (mkF m pc Ls (.int z :: .long x :: st))) := by
  subst hp
  exact own_st (fun t k => XS.lshl Y.X.here Y.x rfl (Y.d hd) rfl k) K
theorem own_lshr (pc' : Nat) (Y : own_S Z y bytes maxL ret p l e R s m args below meth c T h locs cells slots) {x : Int64} {z : Int32} (hd : decode bytes pc = .ok (.lshr, 1))  (hp : pc + 1 = pc') (K : own_G p e below E (T.setTop (mkF m pc' Ls (.long (x >>> (z &&& 0x3f).toInt64) :: st)))) : own_G p e below E (T.setTop (mkF m pc Ls (.int z :: .long x :: st))) := by
  subst hp
  exact own_st (fun t k => XS.lshr Y.X.here Y.x rfl (Y.d hd) rfl k) K
theorem own_lushr (pc' : Nat) (Y : own_S Z y bytes maxL ret p l e R s m args below meth c T h locs cells slots) {x : Int64} {z : Int32} (hd : decode bytes pc = .ok (.lushr, 1))  (hp : pc + 1 = pc') (K : own_G p e below E (T.setTop (mkF m pc' Ls (.long ((x.toUInt64 >>> (z &&& 0x3f).toInt64.toUInt64).toInt64) :: st)))) : own_G p e below E (T.setTop (mkF m pc Ls (.int z :: .long x :: st))) := by
  subst hp
  exact own_st (fun t k => XS.lushr Y.X.here Y.x rfl (Y.d hd) rfl k) K
theorem own_idiv (pc' : Nat) (Y : own_S Z y bytes maxL ret p l e R s m args below meth c T h locs cells slots) {x z : Int32} (hd : decode bytes pc = .ok (.idiv, 1)) (hz : z ≠ 0) (hp : pc + 1 = pc') (K : own_G p e below E (T.setTop (mkF m pc' Ls (.int (x / z) :: st)))) : own_G p e below E (T.setTop (mkF m pc Ls (.int z :: .int x :: st))) := by
  subst hp
  exact own_st (fun t k => XS.idiv Y.X.here Y.x rfl (Y.d hd) rfl hz k) K
theorem own_irem (pc' : Nat) (Y : own_S Z y bytes maxL ret p l e R s m args below meth c T h locs cells slots) {x z : Int32} (hd : decode bytes pc = .ok (.irem, 1)) (hz : z ≠ 0) (hp : pc + 1 = pc') (K : own_G p e below E (T.setTop (mkF m pc' Ls (.int (x % z) :: st)))) : own_G p e below E (T.setTop (mkF m pc Ls (.int z :: .int x :: st))) := by
  subst hp
  exact own_st (fun t k => iremM Y.X Y.x rfl (Y.d hd) rfl hz k) K
theorem own_ldiv (pc' : Nat) (Y : own_S Z y bytes maxL ret p l e R s m args below meth c T h locs cells slots) {x z : Int64} (hd : decode bytes pc = .ok (.ldiv, 1)) (hz : z ≠ 0) (hp : pc + 1 = pc') (K : own_G p e below E (T.setTop (mkF m pc' Ls (.long (x / z) :: st)))) : own_G p e below E (T.setTop (mkF m pc Ls (.long z :: .long x :: st))) := by
  subst hp
  exact own_st (fun t k => XS.ldiv Y.X.here Y.x rfl (Y.d hd) rfl hz k) K
theorem own_lrem (pc' : Nat) (Y : own_S Z y bytes maxL ret p l e R s m args below meth c T h locs cells slots) {x z : Int64} (hd : decode bytes pc = .ok (.lrem, 1)) (hz : z ≠ 0) (hp : pc + 1 = pc') (K : own_G p e below E (T.setTop (mkF m pc' Ls (.long (x - (x / z) * z) :: st)))) : own_G p e below E (T.setTop (mkF m pc Ls (.long z :: .long x :: st))) := by
  subst hp
  exact own_st (fun t k => XS.lrem Y.X.here Y.x rfl (Y.d hd) rfl hz k) K
theorem own_ineg (pc' : Nat) (Y : own_S Z y bytes maxL ret p l e R s m args below meth c T h locs cells slots) {x : Int32} (hd : decode bytes pc = .ok (.ineg, 1))  (hp : pc + 1 = pc') (K : own_G p e below E (T.setTop (mkF m pc' Ls (.int (-x) :: st)))) : own_G p e below E (T.setTop (mkF m pc Ls (.int x :: st))) := by
  subst hp
  exact own_st (fun t k => XS.ineg Y.X.here Y.x rfl (Y.d hd) rfl k) K
theorem own_i2b (pc' : Nat) (Y : own_S Z y bytes maxL ret p l e R s m args below meth c T h locs cells slots) {x : Int32} (hd : decode bytes pc = .ok (.i2b, 1))  (hp : pc + 1 = pc') (K : own_G p e below E (T.setTop (mkF m pc' Ls (.int (x.toInt8.toInt32) :: st)))) : own_G p e below E (T.setTop (mkF m pc Ls (.int x :: st))) := by
  subst hp
  exact own_st (fun t k => XS.i2b Y.X.here Y.x rfl (Y.d hd) rfl k) K
theorem own_i2c (pc' : Nat) (Y : own_S Z y bytes maxL ret p l e R s m args below meth c T h locs cells slots) {x : Int32} (hd : decode bytes pc = .ok (.i2c, 1))  (hp : pc + 1 = pc') (K : own_G p e below E (T.setTop (mkF m pc' Ls (.int (x.toUInt32.toUInt16.toUInt32.toInt32) :: st)))) : own_G p e below E (T.setTop (mkF m pc Ls (.int x :: st))) := by
  subst hp
  exact own_st (fun t k => XS.i2c Y.X.here Y.x rfl (Y.d hd) rfl k) K
theorem own_i2s (pc' : Nat) (Y : own_S Z y bytes maxL ret p l e R s m args below meth c T h locs cells slots) {x : Int32} (hd : decode bytes pc = .ok (.i2s, 1))  (hp : pc + 1 = pc') (K : own_G p e below E (T.setTop (mkF m pc' Ls (.int (x.toInt16.toInt32) :: st)))) : own_G p e below E (T.setTop (mkF m pc Ls (.int x :: st))) := by
  subst hp
  exact own_st (fun t k => XS.i2s Y.X.here Y.x rfl (Y.d hd) rfl k) K
theorem own_i2l (pc' : Nat) (Y : own_S Z y bytes maxL ret p l e R s m args below meth c T h locs cells slots) {x : Int32} (hd : decode bytes pc = .ok (.i2l, 1))  (hp : pc + 1 = pc') (K : own_G p e below E (T.setTop (mkF m pc' Ls (.long x.toInt64 :: st)))) : own_G p e below E (T.setTop (mkF m pc Ls (.int x :: st))) := by
  subst hp
  exact own_st (fun t k => XS.i2l Y.X.here Y.x rfl (Y.d hd) rfl k) K
theorem own_l2i (pc' : Nat) (Y : own_S Z y bytes maxL ret p l e R s m args below meth c T h locs cells slots) {x : Int64} (hd : decode bytes pc = .ok (.l2i, 1))  (hp : pc + 1 = pc') (K : own_G p e below E (T.setTop (mkF m pc' Ls (.int x.toInt32 :: st)))) : own_G p e below E (T.setTop (mkF m pc Ls (.long x :: st))) := by
  subst hp
  exact own_st (fun t k => XS.l2i Y.X.here Y.x rfl (Y.d hd) rfl k) K
theorem own_lneg (pc' : Nat) (Y : own_S Z y bytes maxL ret p l e R s m args below meth c T h locs cells slots) {x : Int64} (hd : decode bytes pc = .ok (.lneg, 1))  (hp : pc + 1 = pc') (K : own_G p e below E (T.setTop (mkF m pc' Ls (.long (-x) :: st)))) : own_G p e below E (T.setTop (mkF m pc Ls (.long x :: st))) := by
  subst hp
  exact own_st (fun t k => XS.lneg Y.X.here Y.x rfl (Y.d hd) rfl k) K
theorem own_lcmp (pc' : Nat) (Y : own_S Z y bytes maxL ret p l e R s m args below meth c T h locs cells slots) {x z : Int64} (hd : decode bytes pc = .ok (.lcmp, 1))  (hp : pc + 1 = pc') (K : own_G p e below E (T.setTop (mkF m pc' Ls (.int (lcmpW x z) :: st)))) : own_G p e below E (T.setTop (mkF m pc Ls (.long z :: .long x :: st))) := by
  subst hp
  exact own_st (fun t k => XS.lcmp Y.X.here Y.x rfl (Y.d hd) rfl k) K
theorem own_dup (pc' : Nat) (Y : own_S Z y bytes maxL ret p l e R s m args below meth c T h locs cells slots) {x : Value} (hd : decode bytes pc = .ok (.dup, 1)) (hc : x.category = 1) (hp : pc + 1 = pc') (K : own_G p e below E (T.setTop (mkF m pc' Ls (x :: x :: st)))) : own_G p e below E (T.setTop (mkF m pc Ls (x :: st))) := by
  subst hp
  exact own_st (fun t k => XS.dup Y.X.here Y.x rfl (Y.d hd) rfl hc k) K
theorem own_dupX1 (pc' : Nat) (Y : own_S Z y bytes maxL ret p l e R s m args below meth c T h locs cells slots) {x z : Value} (hd : decode bytes pc = .ok (.dup_x1, 1)) (hc : x.category = 1) (hc' : z.category = 1) (hp : pc + 1 = pc') (K : own_G p e below E (T.setTop (mkF m pc' Ls (x :: z :: x :: st)))) : own_G p e below E (T.setTop (mkF m pc Ls (x :: z :: st))) := by
  subst hp
  exact own_st (fun t k => XS.dupX1 Y.X.here Y.x rfl (Y.d hd) rfl hc hc' k) K
theorem own_pop (pc' : Nat) (Y : own_S Z y bytes maxL ret p l e R s m args below meth c T h locs cells slots) {x : Value} (hd : decode bytes pc = .ok (.pop, 1)) (hc : x.category = 1) (hp : pc + 1 = pc') (K : own_G p e below E (T.setTop (mkF m pc' Ls (st)))) : own_G p e below E (T.setTop (mkF m pc Ls (x :: st))) := by
  subst hp
  exact own_st (fun t k => XS.pop Y.X.here Y.x rfl (Y.d hd) rfl hc k) K
theorem own_istoreN (pc' : Nat) (Y : own_S Z y bytes maxL ret p l e R s m args below meth c T h locs cells slots) (Ls' : Array Slot) {k : Fin 4} {x : Int32} (hd : decode bytes pc = .ok (.istore_n k, 1)) (hl : storeLocals Ls k.val (.int x) = some Ls') (hp : pc + 1 = pc') (K : own_G p e below E (T.setTop (mkF m pc' Ls' (st)))) : own_G p e below E (T.setTop (mkF m pc Ls (.int x :: st))) := by
  subst hp
  exact own_st (fun t k => XS.istoreN Y.X.here Y.x rfl (Y.d hd) rfl hl k) K
theorem own_istore (pc' : Nat) (Y : own_S Z y bytes maxL ret p l e R s m args below meth c T h locs cells slots) (Ls' : Array Slot) {k : Nat} {x : Int32} (hd : decode bytes pc = .ok (.istore k, 2)) (hl : storeLocals Ls k (.int x) = some Ls') (hp : pc + 2 = pc') (K : own_G p e below E (T.setTop (mkF m pc' Ls' (st)))) : own_G p e below E (T.setTop (mkF m pc Ls (.int x :: st))) := by
  subst hp
  exact own_st (fun t k => XS.istore Y.X.here Y.x rfl (Y.d hd) rfl hl k) K
theorem own_lstoreN (pc' : Nat) (Y : own_S Z y bytes maxL ret p l e R s m args below meth c T h locs cells slots) (Ls' : Array Slot) {k : Fin 4} {x : Int64} (hd : decode bytes pc = .ok (.lstore_n k, 1)) (hl : storeLocals Ls k.val (.long x) = some Ls') (hp : pc + 1 = pc') (K : own_G p e below E (T.setTop (mkF m pc' Ls' (st)))) : own_G p e below E (T.setTop (mkF m pc Ls (.long x :: st))) := by
  subst hp
  exact own_st (fun t k => XS.lstoreN Y.X.here Y.x rfl (Y.d hd) rfl hl k) K
theorem own_lstore (pc' : Nat) (Y : own_S Z y bytes maxL ret p l e R s m args below meth c T h locs cells slots) (Ls' : Array Slot) {k : Nat} {x : Int64} (hd : decode bytes pc = .ok (.lstore k, 2)) (hl : storeLocals Ls k (.long x) = some Ls') (hp : pc + 2 = pc') (K : own_G p e below E (T.setTop (mkF m pc' Ls' (st)))) : own_G p e below E (T.setTop (mkF m pc Ls (.long x :: st))) := by
  subst hp
  exact own_st (fun t k => XS.lstore Y.X.here Y.x rfl (Y.d hd) rfl hl k) K
theorem own_astoreN (pc' : Nat) (Y : own_S Z y bytes maxL ret p l e R s m args below meth c T h locs cells slots) (Ls' : Array Slot) {k : Fin 4} {x : Value} (hd : decode bytes pc = .ok (.astore_n k, 1)) (hv : x.isRef = true) (hl : storeLocals Ls k.val (x) = some Ls') (hp : pc + 1 = pc') (K : own_G p e below E (T.setTop (mkF m pc' Ls' (st)))) : own_G p e below E (T.setTop (mkF m pc Ls (x :: st))) := by
  subst hp
  exact own_st (fun t k => XS.astoreN Y.X.here Y.x rfl (Y.d hd) rfl hv hl k) K
theorem own_astore (pc' : Nat) (Y : own_S Z y bytes maxL ret p l e R s m args below meth c T h locs cells slots) (Ls' : Array Slot) {k : Nat} {x : Value} (hd : decode bytes pc = .ok (.astore k, 2)) (hv : x.isRef = true) (hl : storeLocals Ls k (x) = some Ls') (hp : pc + 2 = pc') (K : own_G p e below E (T.setTop (mkF m pc' Ls' (st)))) : own_G p e below E (T.setTop (mkF m pc Ls (x :: st))) := by
  subst hp
  exact own_st (fun t k => XS.astore Y.X.here Y.x rfl (Y.d hd) rfl hv hl k) K
theorem own_iinc (pc' : Nat) (Y : own_S Z y bytes maxL ret p l e R s m args below meth c T h locs cells slots) (Ls' : Array Slot) (v : Int32) {k : Nat} {cst : Int} {x : Int32} (hd : decode bytes pc = .ok (.iinc k cst, 3)) (hv : Int32.ofInt cst = v) (hl : Ls[k]? = some (.val (.int x))) (hl' : storeLocals Ls k (.int (x + v)) = some Ls') (hp : pc + 3 = pc') (K : own_G p e below E (T.setTop (mkF m pc' Ls' (st)))) : own_G p e below E (T.setTop (mkF m pc Ls (st))) := by
  subst hp
  exact own_st (fun t k => XT.iincV Y.X.here Y.x rfl v (Y.d hd) hv hl hl' k) K
theorem own_dloadN (pc' : Nat) (Y : own_S Z y bytes maxL ret p l e R s m args below meth c T h locs cells slots) {k : Fin 4} {v : UInt64} (hd : decode bytes pc = .ok (.dload_n k, 1)) (hl : Ls[k.val]? = some (.val (.double v))) (hp : pc + 1 = pc') (K : own_G p e below E (T.setTop (mkF m pc' Ls (.double v :: st)))) : own_G p e below E (T.setTop (mkF m pc Ls (st))) := by
  subst hp
  exact own_st (fun t k => XS.dloadN Y.X.here Y.x rfl (Y.d hd) hl k) K
theorem own_dload (pc' : Nat) (Y : own_S Z y bytes maxL ret p l e R s m args below meth c T h locs cells slots) {k : Nat} {v : UInt64} (hd : decode bytes pc = .ok (.dload k, 2)) (hl : Ls[k]? = some (.val (.double v))) (hp : pc + 2 = pc') (K : own_G p e below E (T.setTop (mkF m pc' Ls (.double v :: st)))) : own_G p e below E (T.setTop (mkF m pc Ls (st))) := by
  subst hp
  exact own_st (fun t k => XS.dload Y.X.here Y.x rfl (Y.d hd) hl k) K
theorem own_dstoreN (pc' : Nat) (Y : own_S Z y bytes maxL ret p l e R s m args below meth c T h locs cells slots) (Ls' : Array Slot) {k : Fin 4} {x : UInt64} (hd : decode bytes pc = .ok (.dstore_n k, 1)) (hl : storeLocals Ls k.val (.double x) = some Ls') (hp : pc + 1 = pc') (K : own_G p e below E (T.setTop (mkF m pc' Ls' (st)))) : own_G p e below E (T.setTop (mkF m pc Ls (.double x :: st))) := by
  subst hp
  exact own_st (fun t k => XS.dstoreN Y.X.here Y.x rfl (Y.d hd) rfl hl k) K
theorem own_dstore (pc' : Nat) (Y : own_S Z y bytes maxL ret p l e R s m args below meth c T h locs cells slots) (Ls' : Array Slot) {k : Nat} {x : UInt64} (hd : decode bytes pc = .ok (.dstore k, 2)) (hl : storeLocals Ls k (.double x) = some Ls') (hp : pc + 2 = pc') (K : own_G p e below E (T.setTop (mkF m pc' Ls' (st)))) : own_G p e below E (T.setTop (mkF m pc Ls (.double x :: st))) := by
  subst hp
  exact own_st (fun t k => XS.dstore Y.X.here Y.x rfl (Y.d hd) rfl hl k) K
theorem own_i2d (pc' : Nat) (Y : own_S Z y bytes maxL ret p l e R s m args below meth c T h locs cells slots) {x : Int32} (hd : decode bytes pc = .ok (.i2d, 1))  (hp : pc + 1 = pc') (K : own_G p e below E (T.setTop (mkF m pc' Ls (.double (FP.l2d x.toInt64) :: st)))) : own_G p e below E (T.setTop (mkF m pc Ls (.int x :: st))) := by
  subst hp
  exact own_st (fun t k => XS.i2dS Y.X.here Y.x rfl (Y.d hd) rfl (i2d_w x) k) K
theorem own_l2d (pc' : Nat) (Y : own_S Z y bytes maxL ret p l e R s m args below meth c T h locs cells slots) {x : Int64} (hd : decode bytes pc = .ok (.l2d, 1))  (hp : pc + 1 = pc') (K : own_G p e below E (T.setTop (mkF m pc' Ls (.double (FP.l2d x) :: st)))) : own_G p e below E (T.setTop (mkF m pc Ls (.long x :: st))) := by
  subst hp
  exact own_st (fun t k => XS.l2dS Y.X.here Y.x rfl (Y.d hd) rfl rfl k) K
theorem own_dsub (pc' : Nat) (Y : own_S Z y bytes maxL ret p l e R s m args below meth c T h locs cells slots) {x z : Int64} (hbx : B53 x) (hbz : B53 z) (hd : decode bytes pc = .ok (.dsub, 1))  (hp : pc + 1 = pc') (K : own_G p e below E (T.setTop (mkF m pc' Ls (.double (FP.l2d (x - z)) :: st)))) : own_G p e below E (T.setTop (mkF m pc Ls (.double (FP.l2d z) :: .double (FP.l2d x) :: st))) := by
  subst hp
  exact own_st (fun t k => XS.dsubS Y.X.here Y.x rfl (Y.d hd) rfl (nn_w (dsub_w hbx hbz)) (dsub_w hbx hbz) k) K
theorem own_dcmp (pc' : Nat) (Y : own_S Z y bytes maxL ret p l e R s m args below meth c T h locs cells slots) {o : CmpOp} {x z : Int64} (hbx : B53 x) (hbz : B53 z) (hd : decode bytes pc = .ok (.dcmp o, 1))  (hp : pc + 1 = pc') (K : own_G p e below E (T.setTop (mkF m pc' Ls (.int (lcmpW x z) :: st)))) : own_G p e below E (T.setTop (mkF m pc Ls (.double (FP.l2d z) :: .double (FP.l2d x) :: st))) := by
  subst hp
  exact own_st (fun t k => XS.dcmpS Y.X.here Y.x rfl (Y.d hd) rfl (dcmpV_w hbx hbz o) k) K
theorem own_pc {pc pc' : Nat} {o : Int} (hp : (pc : Int) + o = (pc' : Int)) : 0 ≤ (pc : Int) + o ∧ ((pc : Int) + o).toNat = pc' := by rw [hp]; exact ⟨Int.natCast_nonneg _, Int.toNat_natCast _⟩
theorem own_goto (pc' : Nat) (Y : own_S Z y bytes maxL ret p l e R s m args below meth c T h locs cells slots) {o : Int} (hd : decode bytes pc = .ok (.goto o, 3)) (hp : (pc : Int) + o = (pc' : Int)) (K : own_G p e below E (T.setTop (mkF m pc' Ls st))) : own_G p e below E (T.setTop (mkF m pc Ls st)) :=
  own_st (fun t k => XS.goto Y.X.here Y.x rfl rfl (Y.d hd) (own_pc hp).1 (own_pc hp).2 k) K
theorem own_ifT (pc' : Nat) (Y : own_S Z y bytes maxL ret p l e R s m args below meth c T h locs cells slots) {cd : ClassFile.Cond} {o : Int} {x : Int32} (hd : decode bytes pc = .ok (.ifCond cd o, 3)) (hc : ifCond.holds cd x = true) (hp : (pc : Int) + o = (pc' : Int)) (K : own_G p e below E (T.setTop (mkF m pc' Ls st))) : own_G p e below E (T.setTop (mkF m pc Ls (.int x :: st))) :=
  own_st (fun t k => XS.ifYes Y.X.here Y.x rfl rfl (Y.d hd) rfl hc (own_pc hp).1 (own_pc hp).2 k) K
theorem own_ifF (pc' : Nat) (Y : own_S Z y bytes maxL ret p l e R s m args below meth c T h locs cells slots) {cd : ClassFile.Cond} {o : Int} {x : Int32} (hd : decode bytes pc = .ok (.ifCond cd o, 3)) (hc : ifCond.holds cd x = false) (hp : pc + 3 = pc') (K : own_G p e below E (T.setTop (mkF m pc' Ls st))) : own_G p e below E (T.setTop (mkF m pc Ls (.int x :: st))) := by
  subst hp
  exact own_st (fun t k => XS.ifNo Y.X.here Y.x rfl (Y.d hd) rfl hc k) K
theorem own_icT (pc' : Nat) (Y : own_S Z y bytes maxL ret p l e R s m args below meth c T h locs cells slots) {cd : ClassFile.Cond} {o : Int} {x z : Int32} (hd : decode bytes pc = .ok (.if_icmp cd o, 3)) (hc : if_icmp.holds cd x z = true) (hp : (pc : Int) + o = (pc' : Int)) (K : own_G p e below E (T.setTop (mkF m pc' Ls st))) : own_G p e below E (T.setTop (mkF m pc Ls (.int z :: .int x :: st))) :=
  own_st (fun t k => XS.icmpYes Y.X.here Y.x rfl rfl (Y.d hd) rfl hc (own_pc hp).1 (own_pc hp).2 k) K
theorem own_icF (pc' : Nat) (Y : own_S Z y bytes maxL ret p l e R s m args below meth c T h locs cells slots) {cd : ClassFile.Cond} {o : Int} {x z : Int32} (hd : decode bytes pc = .ok (.if_icmp cd o, 3)) (hc : if_icmp.holds cd x z = false) (hp : pc + 3 = pc') (K : own_G p e below E (T.setTop (mkF m pc' Ls st))) : own_G p e below E (T.setTop (mkF m pc Ls (.int z :: .int x :: st))) := by
  subst hp
  exact own_st (fun t k => XS.icmpNo Y.X.here Y.x rfl (Y.d hd) rfl hc k) K
theorem own_if_eq (pc' pc'' : Nat) (Y : own_S Z y bytes maxL ret p l e R s m args below meth c T h locs cells slots) {x : Int32} {o : Int} (hd : decode bytes pc = .ok (.ifCond .eq o, 3)) (hp : (pc : Int) + o = (pc' : Int)) (hp' : pc + 3 = pc'') (KT : x = 0 → own_G p e below E (T.setTop (mkF m pc' Ls st))) (KF : ¬ x = 0 → own_G p e below E (T.setTop (mkF m pc'' Ls st))) : own_G p e below E (T.setTop (mkF m pc Ls (.int x :: st))) :=
  (Decidable.em (x = 0)).elim (fun q => own_ifT pc' Y hd (XT.i0_eq_t q) hp (KT q)) (fun q => own_ifF pc'' Y hd (XT.i0_eq_f q) hp' (KF q))
theorem own_ic_eq (pc' pc'' : Nat) (Y : own_S Z y bytes maxL ret p l e R s m args below meth c T h locs cells slots) {x z : Int32} {o : Int} (hd : decode bytes pc = .ok (.if_icmp .eq o, 3)) (hp : (pc : Int) + o = (pc' : Int)) (hp' : pc + 3 = pc'') (KT : x = z → own_G p e below E (T.setTop (mkF m pc' Ls st))) (KF : ¬ x = z → own_G p e below E (T.setTop (mkF m pc'' Ls st))) : own_G p e below E (T.setTop (mkF m pc Ls (.int z :: .int x :: st))) :=
  (Decidable.em (x = z)).elim (fun q => own_icT pc' Y hd (XT.ii_eq_t q) hp (KT q)) (fun q => own_icF pc'' Y hd (XT.ii_eq_f q) hp' (KF q))
theorem own_if_ne (pc' pc'' : Nat) (Y : own_S Z y bytes maxL ret p l e R s m args below meth c T h locs cells slots) {x : Int32} {o : Int} (hd : decode bytes pc = .ok (.ifCond .ne o, 3)) (hp : (pc : Int) + o = (pc' : Int)) (hp' : pc + 3 = pc'') (KT : ¬ x = 0 → own_G p e below E (T.setTop (mkF m pc' Ls st))) (KF : x = 0 → own_G p e below E (T.setTop (mkF m pc'' Ls st))) : own_G p e below E (T.setTop (mkF m pc Ls (.int x :: st))) :=
  (Decidable.em (x = 0)).elim (fun q => own_ifF pc'' Y hd (XT.i0_ne_f q) hp' (KF q)) (fun q => own_ifT pc' Y hd (XT.i0_ne_t q) hp (KT q))
theorem own_ic_ne (pc' pc'' : Nat) (Y : own_S Z y bytes maxL ret p l e R s m args below meth c T h locs cells slots) {x z : Int32} {o : Int} (hd : decode bytes pc = .ok (.if_icmp .ne o, 3)) (hp : (pc : Int) + o = (pc' : Int)) (hp' : pc + 3 = pc'') (KT : ¬ x = z → own_G p e below E (T.setTop (mkF m pc' Ls st))) (KF : x = z → own_G p e below E (T.setTop (mkF m pc'' Ls st))) : own_G p e below E (T.setTop (mkF m pc Ls (.int z :: .int x :: st))) :=
  (Decidable.em (x = z)).elim (fun q => own_icF pc'' Y hd (XT.ii_ne_f q) hp' (KF q)) (fun q => own_icT pc' Y hd (XT.ii_ne_t q) hp (KT q))
theorem own_if_lt (pc' pc'' : Nat) (Y : own_S Z y bytes maxL ret p l e R s m args below meth c T h locs cells slots) {x : Int32} {o : Int} (hd : decode bytes pc = .ok (.ifCond .lt o, 3)) (hp : (pc : Int) + o = (pc' : Int)) (hp' : pc + 3 = pc'') (KT : x < 0 → own_G p e below E (T.setTop (mkF m pc' Ls st))) (KF : ¬ x < 0 → own_G p e below E (T.setTop (mkF m pc'' Ls st))) : own_G p e below E (T.setTop (mkF m pc Ls (.int x :: st))) :=
  (Decidable.em (x < 0)).elim (fun q => own_ifT pc' Y hd (XT.i0_lt_t q) hp (KT q)) (fun q => own_ifF pc'' Y hd (XT.i0_lt_f q) hp' (KF q))
theorem own_ic_lt (pc' pc'' : Nat) (Y : own_S Z y bytes maxL ret p l e R s m args below meth c T h locs cells slots) {x z : Int32} {o : Int} (hd : decode bytes pc = .ok (.if_icmp .lt o, 3)) (hp : (pc : Int) + o = (pc' : Int)) (hp' : pc + 3 = pc'') (KT : x < z → own_G p e below E (T.setTop (mkF m pc' Ls st))) (KF : ¬ x < z → own_G p e below E (T.setTop (mkF m pc'' Ls st))) : own_G p e below E (T.setTop (mkF m pc Ls (.int z :: .int x :: st))) :=
  (Decidable.em (x < z)).elim (fun q => own_icT pc' Y hd (XT.ii_lt_t q) hp (KT q)) (fun q => own_icF pc'' Y hd (XT.ii_lt_f q) hp' (KF q))
theorem own_if_ge (pc' pc'' : Nat) (Y : own_S Z y bytes maxL ret p l e R s m args below meth c T h locs cells slots) {x : Int32} {o : Int} (hd : decode bytes pc = .ok (.ifCond .ge o, 3)) (hp : (pc : Int) + o = (pc' : Int)) (hp' : pc + 3 = pc'') (KT : ¬ x < 0 → own_G p e below E (T.setTop (mkF m pc' Ls st))) (KF : x < 0 → own_G p e below E (T.setTop (mkF m pc'' Ls st))) : own_G p e below E (T.setTop (mkF m pc Ls (.int x :: st))) :=
  (Decidable.em (x < 0)).elim (fun q => own_ifF pc'' Y hd (XT.i0_ge_f q) hp' (KF q)) (fun q => own_ifT pc' Y hd (XT.i0_ge_t q) hp (KT q))
theorem own_ic_ge (pc' pc'' : Nat) (Y : own_S Z y bytes maxL ret p l e R s m args below meth c T h locs cells slots) {x z : Int32} {o : Int} (hd : decode bytes pc = .ok (.if_icmp .ge o, 3)) (hp : (pc : Int) + o = (pc' : Int)) (hp' : pc + 3 = pc'') (KT : ¬ x < z → own_G p e below E (T.setTop (mkF m pc' Ls st))) (KF : x < z → own_G p e below E (T.setTop (mkF m pc'' Ls st))) : own_G p e below E (T.setTop (mkF m pc Ls (.int z :: .int x :: st))) :=
  (Decidable.em (x < z)).elim (fun q => own_icF pc'' Y hd (XT.ii_ge_f q) hp' (KF q)) (fun q => own_icT pc' Y hd (XT.ii_ge_t q) hp (KT q))
theorem own_if_gt (pc' pc'' : Nat) (Y : own_S Z y bytes maxL ret p l e R s m args below meth c T h locs cells slots) {x : Int32} {o : Int} (hd : decode bytes pc = .ok (.ifCond .gt o, 3)) (hp : (pc : Int) + o = (pc' : Int)) (hp' : pc + 3 = pc'') (KT : 0 < x → own_G p e below E (T.setTop (mkF m pc' Ls st))) (KF : ¬ 0 < x → own_G p e below E (T.setTop (mkF m pc'' Ls st))) : own_G p e below E (T.setTop (mkF m pc Ls (.int x :: st))) :=
  (Decidable.em (0 < x)).elim (fun q => own_ifT pc' Y hd (XT.i0_gt_t q) hp (KT q)) (fun q => own_ifF pc'' Y hd (XT.i0_gt_f q) hp' (KF q))
theorem own_ic_gt (pc' pc'' : Nat) (Y : own_S Z y bytes maxL ret p l e R s m args below meth c T h locs cells slots) {x z : Int32} {o : Int} (hd : decode bytes pc = .ok (.if_icmp .gt o, 3)) (hp : (pc : Int) + o = (pc' : Int)) (hp' : pc + 3 = pc'') (KT : z < x → own_G p e below E (T.setTop (mkF m pc' Ls st))) (KF : ¬ z < x → own_G p e below E (T.setTop (mkF m pc'' Ls st))) : own_G p e below E (T.setTop (mkF m pc Ls (.int z :: .int x :: st))) :=
  (Decidable.em (z < x)).elim (fun q => own_icT pc' Y hd (XT.ii_gt_t q) hp (KT q)) (fun q => own_icF pc'' Y hd (XT.ii_gt_f q) hp' (KF q))
theorem own_if_le (pc' pc'' : Nat) (Y : own_S Z y bytes maxL ret p l e R s m args below meth c T h locs cells slots) {x : Int32} {o : Int} (hd : decode bytes pc = .ok (.ifCond .le o, 3)) (hp : (pc : Int) + o = (pc' : Int)) (hp' : pc + 3 = pc'') (KT : ¬ 0 < x → own_G p e below E (T.setTop (mkF m pc' Ls st))) (KF : 0 < x → own_G p e below E (T.setTop (mkF m pc'' Ls st))) : own_G p e below E (T.setTop (mkF m pc Ls (.int x :: st))) :=
  (Decidable.em (0 < x)).elim (fun q => own_ifF pc'' Y hd (XT.i0_le_f q) hp' (KF q)) (fun q => own_ifT pc' Y hd (XT.i0_le_t q) hp (KT q))
theorem own_ic_le (pc' pc'' : Nat) (Y : own_S Z y bytes maxL ret p l e R s m args below meth c T h locs cells slots) {x z : Int32} {o : Int} (hd : decode bytes pc = .ok (.if_icmp .le o, 3)) (hp : (pc : Int) + o = (pc' : Int)) (hp' : pc + 3 = pc'') (KT : ¬ z < x → own_G p e below E (T.setTop (mkF m pc' Ls st))) (KF : z < x → own_G p e below E (T.setTop (mkF m pc'' Ls st))) : own_G p e below E (T.setTop (mkF m pc Ls (.int z :: .int x :: st))) :=
  (Decidable.em (z < x)).elim (fun q => own_icF pc'' Y hd (XT.ii_le_f q) hp' (KF q)) (fun q => own_icT pc' Y hd (XT.ii_le_t q) hp (KT q))
theorem own_acmp (pc' : Nat) (same : Bool) (Y : own_S Z y bytes maxL ret p l e R s m args below meth c T h locs cells slots) {cd : ACond} {o : Int} {x z : Value} (hd : decode bytes pc = .ok (.if_acmp cd o, 3)) (h1 : x.isRef = true) (h2 : z.isRef = true) (hq : decide (x = z) = same) (ho : 0 ≤ (pc : Int) + o) (hp : pc' = if acV cd same = true then ((pc : Int) + o).toNat else pc + 3) (K : own_G p e below E (T.setTop (mkF m pc' Ls st))) : own_G p e below E (T.setTop (mkF m pc Ls (z :: x :: st))) :=
  own_st (fun t k => Jvm.RoadKit.acmp Y.X Y.x rfl h1 h2 rfl (Y.d hd) rfl hq ho hp k) K
theorem own_ifnullT (pc' : Nat) (Y : own_S Z y bytes maxL ret p l e R s m args below meth c T h locs cells slots) {o : Int} (hd : decode bytes pc = .ok (.ifnull o, 3)) (hp : (pc : Int) + o = (pc' : Int)) (K : own_G p e below E (T.setTop (mkF m pc' Ls st))) : own_G p e below E (T.setTop (mkF m pc Ls (.null :: st))) :=
  own_st (fun t k => XS.ifnullYes Y.X.here Y.x rfl rfl (Y.d hd) rfl (own_pc hp).1 (own_pc hp).2 k) K
theorem own_ifnonnullT (pc' : Nat) (Y : own_S Z y bytes maxL ret p l e R s m args below meth c T h locs cells slots) {b : Addr} {o : Int} (hd : decode bytes pc = .ok (.ifnonnull o, 3)) (hp : (pc : Int) + o = (pc' : Int)) (K : own_G p e below E (T.setTop (mkF m pc' Ls st))) : own_G p e below E (T.setTop (mkF m pc Ls (.ref b :: st))) :=
  own_st (fun t k => XS.ifnonnullYes Y.X.here Y.x rfl rfl (Y.d hd) rfl (own_pc hp).1 (own_pc hp).2 k) K
theorem own_ifnullF (pc' : Nat) (Y : own_S Z y bytes maxL ret p l e R s m args below meth c T h locs cells slots) {b : Addr} {o : Int} (hd : decode bytes pc = .ok (.ifnull o, 3)) (hp : pc + 3 = pc') (K : own_G p e below E (T.setTop (mkF m pc' Ls st))) : own_G p e below E (T.setTop (mkF m pc Ls (.ref b :: st))) := by
  subst hp
  exact own_st (fun t k => XS.ifnullNo Y.X.here Y.x rfl (Y.d hd) rfl k) K
theorem own_ifnonnullF (pc' : Nat) (Y : own_S Z y bytes maxL ret p l e R s m args below meth c T h locs cells slots) {o : Int} (hd : decode bytes pc = .ok (.ifnonnull o, 3)) (hp : pc + 3 = pc') (K : own_G p e below E (T.setTop (mkF m pc' Ls st))) : own_G p e below E (T.setTop (mkF m pc Ls (.null :: st))) := by
  subst hp
  exact own_st (fun t k => XS.ifnonnullNo Y.X.here Y.x rfl (Y.d hd) rfl k) K
theorem own_tswIn (pc' : Nat) (Y : own_S Z y bytes maxL ret p l e R s m args below meth c T h locs cells slots) {dflt low high : Int} {offs : Array Int} {len : Nat} {o : Int} {i : Int32} (hd : decode bytes pc = .ok (.tableswitch dflt low high offs, len)) (hin : ¬ (i.toInt < low ∨ i.toInt > high)) (hoff : offs[(i.toInt - low).toNat]? = some o) (hp : (pc : Int) + o = (pc' : Int)) (K : own_G p e below E (T.setTop (mkF m pc' Ls st))) : own_G p e below E (T.setTop (mkF m pc Ls (.int i :: st))) :=
  own_st (fun t k => XS.tswIn Y.X.here Y.x rfl rfl (Y.d hd) rfl hin hoff (own_pc hp).1 (own_pc hp).2 k) K
theorem own_tswOut (pc' : Nat) (Y : own_S Z y bytes maxL ret p l e R s m args below meth c T h locs cells slots) {o low high : Int} {offs : Array Int} {len : Nat} {i : Int32} (hd : decode bytes pc = .ok (.tableswitch o low high offs, len)) (hout : i.toInt < low ∨ i.toInt > high) (hp : (pc : Int) + o = (pc' : Int)) (K : own_G p e below E (T.setTop (mkF m pc' Ls st))) : own_G p e below E (T.setTop (mkF m pc Ls (.int i :: st))) :=
  own_st (fun t k => XS.tswOut Y.X.here Y.x rfl rfl (Y.d hd) rfl hout (own_pc hp).1 (own_pc hp).2 k) K
theorem own_ldcI (pc' : Nat) (Y : own_S Z y bytes maxL ret p l e R s m args below meth c T h locs cells slots) {index : Nat} {v : Int32} (w : (Jvm.Cond.constant y.cls index v).before a0 Z = true) (hd : decode bytes pc = .ok (.ldc index, 2)) (hp : pc + 2 = pc') (K : own_G p e below E (T.setTop (mkF m pc' Ls (.int v :: st)))) : own_G p e below E (T.setTop (mkF m pc Ls st)) := by
  subst hp
  exact own_st (fun t k => Y.X.ldcInt Y.x Y.own (mvT Y.warm w) (g := mkF m pc Ls st) rfl (Y.d hd) t k) K
theorem own_ldc2J (pc' : Nat) (Y : own_S Z y bytes maxL ret p l e R s m args below meth c T h locs cells slots) {index : Nat} {v : Int64} (w : (Jvm.Cond.constantLong y.cls index v).before a0 Z = true) (hd : decode bytes pc = .ok (.ldc2_w index, 3)) (hp : pc + 3 = pc') (K : own_G p e below E (T.setTop (mkF m pc' Ls (.long v :: st)))) : own_G p e below E (T.setTop (mkF m pc Ls st)) := by
  subst hp
  exact own_st (fun t k => Y.X.ldc2Long Y.x Y.own (mvT Y.warm w) (g := mkF m pc Ls st) rfl (Y.d hd) t k) K
theorem own_getS (pc' : Nat) (Y : own_S Z y bytes maxL ret p l e R s m args below meth c T h locs cells slots) {R0 O n d host : String} {index : Nat} (w : (Jvm.Cond.fieldLink y.cls index R0 n d).before a0 Z = true ∨ (Jvm.Cond.fieldLinkNest y.cls index R0 n d host).before a0 Z = true) (via : Via Z R0 O n d) {v : Value} (F : Sta Z h O n d v) (hd : decode bytes pc = .ok (.getstatic index, 3)) (hp : pc + 3 = pc') (K : ∀ T', own_S Z y bytes maxL ret p l e R s m args below meth c T' h locs cells slots → own_G p e below E (T'.setTop (mkF m pc' Ls (v :: st)))) : own_G p e below E (T.setTop (mkF m pc Ls st)) := by
  subst hp
  obtain ⟨T', X', e', st'⟩ := getS2 Y.X Y.x Y.warm Y.own w via Y.eT F (g := mkF m pc Ls st) rfl (Y.d hd)
  exact own_st st' (K T' ⟨Y.1, X', e'⟩)
theorem own_getF (pc' : Nat) (Y : own_S Z y bytes maxL ret p l e R s m args below meth c T h locs cells slots) {R0 O n d host : String} {index : Nat} (w : (Jvm.Cond.fieldLink y.cls index R0 n d).before a0 Z = true ∨ (Jvm.Cond.fieldLinkNest y.cls index R0 n d host).before a0 Z = true) (via : Via Z R0 O n d) {a : Addr} {v : Value} (F : Fld Z h a O n d v) (hd : decode bytes pc = .ok (.getfield index, 3)) (hp : pc + 3 = pc') (K : ∀ T', own_S Z y bytes maxL ret p l e R s m args below meth c T' h locs cells slots → own_G p e below E (T'.setTop (mkF m pc' Ls (v :: st)))) : own_G p e below E (T.setTop (mkF m pc Ls (.ref a :: st))) := by
  subst hp
  obtain ⟨T', X', e', st'⟩ := getF Y.X Y.x Y.warm Y.own w via Y.eT F (g := mkF m pc Ls (.ref a :: st)) rfl rfl (Y.d hd)
  exact own_st st' (K T' ⟨Y.1, X', e'⟩)
theorem own_putF (pc' : Nat) (Y : own_S Z y bytes maxL ret p l e R s m args below meth c T h locs cells slots) {R0 O n d host : String} {index : Nat} {C : String} {kk : Nat} {ty : FieldType} (w : (Jvm.Cond.fieldLink y.cls index R0 n d).before a0 Z = true ∨ (Jvm.Cond.fieldLinkNest y.cls index R0 n d host).before a0 Z = true) (via : Via Z R0 O n d) {a : Addr} {v old : Value} (F : Fld Z h a O n d old) (EX : Exa Z h a C) (Lw : (Jvm.Cond.lays C O n d).before a0 Z = true ∨ ((Jvm.Cond.laysFinal C O n d).before a0 Z = true ∧ y.cls = O ∧ y.name = "<init>")) (wi : (Jvm.Cond.instantiable C kk).before a0 Z = true) (hty : parseFieldDescriptor d = some ty) (hn : narrow ty v = v) (hf : fits ty v = true) (hd : decode bytes pc = .ok (.putfield index, 3)) (hp : pc + 3 = pc')
    (K : ∀ T' h', own_S Z y bytes maxL ret p l e R s m args below meth c T' h' (locs ++ [⟨a, Jvm.RoadKit.slotOf Z O n d⟩]) cells slots → Wr h h' a (Jvm.RoadKit.slotOf Z O n d) v → own_G p e below E (T'.setTop (mkF m pc' Ls st))) : own_G p e below E (T.setTop (mkF m pc Ls (v :: .ref a :: st))) := by
  subst hp
  obtain ⟨T', h', X', e', W', st'⟩ := putF Y.X Y.x Y.warm Y.own w via Y.eT F EX (Lw.imp id fun q => ⟨q.1, q.2.1, Y.1.2.2.2.2.2.2.2.trans q.2.2⟩) wi hty hn hf (g := mkF m pc Ls (v :: .ref a :: st)) rfl rfl (Y.d hd)
  exact own_st st' (K T' h' ⟨Y.1, X', e'⟩ W')
theorem own_putFN (pc' : Nat) (Y : own_S Z y bytes maxL ret p l e R s m args below meth c T h locs cells slots) {R0 O n d : String} {index : Nat} {C : String} {kk : Nat} {ty : FieldType} (w : (Jvm.Cond.fieldLink y.cls index R0 n d).before a0 Z = true) (via : Via Z R0 O n d) {a : Addr} {v v' old : Value} (F : Fld Z h a O n d old) (EX : Exa Z h a C) (Lw : (Jvm.Cond.lays C O n d).before a0 Z = true ∨ ((Jvm.Cond.laysFinal C O n d).before a0 Z = true ∧ y.cls = O ∧ y.name = "<init>")) (wi : (Jvm.Cond.instantiable C kk).before a0 Z = true) (hty : parseFieldDescriptor d = some ty) (hn : narrow ty v = v') (hf : fits ty v' = true) (hd : decode bytes pc = .ok (.putfield index, 3)) (hp : pc + 3 = pc')
    (K : ∀ T' h', own_S Z y bytes maxL ret p l e R s m args below meth c T' h' (locs ++ [⟨a, Jvm.RoadKit.slotOf Z O n d⟩]) cells slots → Wr h h' a (Jvm.RoadKit.slotOf Z O n d) v' → own_G p e below E (T'.setTop (mkF m pc' Ls st))) : own_G p e below E (T.setTop (mkF m pc Ls (v :: .ref a :: st))) := by
  subst hp
  obtain ⟨T', h', X', e', W', st'⟩ := putFN Y.X Y.x Y.warm Y.own w via Y.eT F EX (Lw.imp id fun q => ⟨q.1, q.2.1, Y.1.2.2.2.2.2.2.2.trans q.2.2⟩) wi hty hn hf (g := mkF m pc Ls (v :: .ref a :: st)) rfl rfl (Y.d hd)
  exact own_st st' (K T' h' ⟨Y.1, X', e'⟩ W')
theorem own_newO (pc' : Nat) (Y : own_S Z y bytes maxL ret p l e R s m args below meth c T h locs cells slots) {C : String} {index n : Nat} (w : (Jvm.Cond.classLink y.cls index C).before a0 Z = true) (wi : (Jvm.Cond.instantiable C n).before a0 Z = true) (wz : (Jvm.Cond.initialized C).before a0 Z = true) (hd : decode bytes pc = .ok (.new index, 3)) (hc : cells + 1 ≤ R.cells) (hl : slots + n ≤ R.slots) (hp : pc + 3 = pc')
    (K : ∀ T' h' a, own_S Z y bytes maxL ret p l e R s m args below meth c T' h' locs (cells + 1) (slots + n) → a = h.size → Ext h h' → Exa Z h' a C → (∀ {O nm d : String} {ty : FieldType}, Laid Z a0 C O nm d → parseFieldDescriptor d = some ty → Fld Z h' a O nm d (defaultValue ty)) → own_G p e below E (T'.setTop (mkF m pc' Ls (.ref a :: st)))) : own_G p e below E (T.setTop (mkF m pc Ls st)) := by
  subst hp
  obtain ⟨T', h', X', e', E', A', D', -, st'⟩ := newO Y.X Y.x Y.warm Y.own w wi wz Y.eT (g := mkF m pc Ls st) rfl (Y.d hd) hc hl
  exact own_st st' (K T' h' _ ⟨Y.1, X', e'⟩ rfl E' A' D')
theorem own_initO (pc' : Nat) (Y : own_S Z y bytes maxL ret p l e R s m args below meth c T h locs cells slots) {idx : Nat} {a : Addr} (w1 : (Jvm.Cond.methodLink y.cls idx Lib.objectInit).before a0 Z = true) (w2 : (Jvm.Cond.instanceMethod Lib.objectInit).before a0 Z = true) (w3 : (Jvm.Cond.code Lib.objectInit ⟨#[0xb1]⟩ 1 none).before a0 Z = true) (hd : decode bytes pc = .ok (.invokespecial idx, 3)) (hLs : Ls.size = maxL) (hf : 1 ≤ R.frames) (hl : (st.map fun v => v.category).sum + 12 ≤ R.locals) (hp : pc + 3 = pc') (K : ∀ T', own_S Z y bytes maxL ret p l e R s m args below meth c T' h locs cells slots → own_G p e below E (T'.setTop (mkF m pc' Ls st))) : own_G p e below E (T.setTop (mkF m pc Ls (.ref a :: st))) := by
  subst hp
  obtain ⟨T', X', e', st'⟩ := initO Y.X Y.x Y.warm Y.own w1 w2 w3 Y.eT (g := mkF m pc Ls (.ref a :: st)) rfl (hLs.trans Y.1.2.2.1.symm) rfl (Y.d hd) hf (W := (st.map fun v => v.category).sum) (by show 2 * 0 + _ ≤ _; omega) hl
  exact own_st st' (K T' ⟨Y.1, X', e'⟩)
theorem own_cast (pc' : Nat) (Y : own_S Z y bytes maxL ret p l e R s m args below meth c T h locs cells slots) {K0 : String} {index : Nat} {a : Addr} (w : (Jvm.Cond.classLink y.cls index K0).before a0 Z = true) (F : Ins Z h a K0 true) (hd : decode bytes pc = .ok (.checkcast index, 3)) (hp : pc + 3 = pc') (K : ∀ T', own_S Z y bytes maxL ret p l e R s m args below meth c T' h locs cells slots → own_G p e below E (T'.setTop (mkF m pc' Ls (.ref a :: st)))) : own_G p e below E (T.setTop (mkF m pc Ls (.ref a :: st))) := by
  subst hp
  obtain ⟨T', X', e', st'⟩ := castY Y.X Y.x Y.warm Y.own w Y.eT F (g := mkF m pc Ls (.ref a :: st)) rfl rfl (Y.d hd)
  exact own_st st' (K T' ⟨Y.1, X', e'⟩)
theorem own_inst (pc' : Nat) (Y : own_S Z y bytes maxL ret p l e R s m args below meth c T h locs cells slots) {K0 : String} {index : Nat} {a : Addr} (w : (Jvm.Cond.classLink y.cls index K0).before a0 Z = true) (F : Ins Z h a K0 true) (hd : decode bytes pc = .ok (.instanceof index, 3)) (hp : pc + 3 = pc') (K : ∀ T', own_S Z y bytes maxL ret p l e R s m args below meth c T' h locs cells slots → own_G p e below E (T'.setTop (mkF m pc' Ls (.int 1 :: st)))) : own_G p e below E (T.setTop (mkF m pc Ls (.ref a :: st))) := by
  subst hp
  obtain ⟨T', X', e', st'⟩ := instY Y.X Y.x Y.warm Y.own w Y.eT F (g := mkF m pc Ls (.ref a :: st)) rfl rfl (Y.d hd)
  exact own_st st' (K T' ⟨Y.1, X', e'⟩)
theorem own_instNull (pc' : Nat) (Y : own_S Z y bytes maxL ret p l e R s m args below meth c T h locs cells slots) {index : Nat} (hd : decode bytes pc = .ok (.instanceof index, 3)) (hp : pc + 3 = pc') (K : own_G p e below E (T.setTop (mkF m pc' Ls (.int 0 :: st)))) : own_G p e below E (T.setTop (mkF m pc Ls (.null :: st))) := by
  subst hp
  exact own_st (fun t k => Y.X.instanceofNull Y.x (g := mkF m pc Ls (.null :: st)) rfl rfl (Y.d hd) t k) K
theorem own_newP (pc' : Nat) (Y : own_S Z y bytes maxL ret p l e R s m args below meth c T h locs cells slots) {aty : ArrayType} (w : (Jvm.Cond.arrayClass (newarray.typeOf aty)).before a0 Z = true) {n : Int32} (cap : Nat) (hd : decode bytes pc = .ok (.newarray aty, 2)) (hn : ¬ n < 0) (hcap : n.toNatClampNeg ≤ cap) (hb : cap * 8 ≤ 536870912) (hc : cells + 1 ≤ R.cells) (hl : slots + cap ≤ R.slots) (hp : pc + 2 = pc')
    (K : ∀ T' h' a kA, own_S Z y bytes maxL ret p l e R s m args below meth c T' h' locs (cells + 1) (slots + cap) → a = h.size → Ext h h' → Arv Z h' a kA (newarray.typeOf aty) n [] (defaultValue (newarray.typeOf aty)) → own_G p e below E (T'.setTop (mkF m pc' Ls (.ref a :: st)))) : own_G p e below E (T.setTop (mkF m pc Ls (.int n :: st))) := by
  subst hp
  obtain ⟨T', h', kA, X', e', E', A', st'⟩ := newP Y.X Y.x Y.warm w Y.eT (g := mkF m pc Ls (.int n :: st)) rfl (Y.d hd) rfl hn (cap := cap) hcap hb hc hl
  exact own_st st' (K T' h' _ kA ⟨Y.1, X', e'⟩ rfl E' (Arv.new A' hn))
theorem own_newR (pc' : Nat) (Y : own_S Z y bytes maxL ret p l e R s m args below meth c T h locs cells slots) {C : String} {index : Nat} (w1 : (Jvm.Cond.classLink y.cls index C).before a0 Z = true) (w2 : (Jvm.Cond.arrayOver (.object C)).before a0 Z = true) {n : Int32} (cap : Nat) (hd : decode bytes pc = .ok (.anewarray index, 3)) (hn : ¬ n < 0) (hcap : n.toNatClampNeg ≤ cap) (hb : cap * 8 ≤ 536870912) (hc : cells + 1 ≤ R.cells) (hl : slots + cap ≤ R.slots) (hp : pc + 3 = pc')
    (K : ∀ T' h' a kA, own_S Z y bytes maxL ret p l e R s m args below meth c T' h' locs (cells + 1) (slots + cap) → a = h.size → Ext h h' → Arv Z h' a kA (.object C) n [] .null → Ovr Z kA C → own_G p e below E (T'.setTop (mkF m pc' Ls (.ref a :: st)))) : own_G p e below E (T.setTop (mkF m pc Ls (.int n :: st))) := by
  subst hp
  obtain ⟨T', h', kA, X', e', E', A', O', st'⟩ := newR Y.X Y.x Y.warm Y.own w1 w2 Y.eT (g := mkF m pc Ls (.int n :: st)) rfl (Y.d hd) rfl hn (cap := cap) hcap hb hc hl
  exact own_st st' (K T' h' _ kA ⟨Y.1, X', e'⟩ rfl E' (Arv.new A' hn) O')
theorem own_stC (pc' : Nat) (Y : own_S Z y bytes maxL ret p l e R s m args below meth c T h locs cells slots) {a : Addr} {kA : ClassId} {n j : Int32} {vs : List Value} {dv : Value} {x : Int32} (A : Arv Z h a kA .char n vs dv) (hd : decode bytes pc = .ok (.castore, 1)) (hj : ¬ j < 0 ∧ j < n) (hp : pc + 1 = pc')
    (K : ∀ T' h', own_S Z y bytes maxL ret p l e R s m args below meth c T' h' (locs ++ [⟨a, j.toNatClampNeg⟩]) cells slots → Wr h h' a j.toNatClampNeg (.int (nar .char x)) → (∀ (i : Nat), j.toNatClampNeg = i → i < vs.length → fits .char (.int (nar .char x)) = true → Arv Z h' a kA .char n (vs.set i (.int (nar .char x))) dv) → own_G p e below E (T'.setTop (mkF m pc' Ls st))) : own_G p e below E (T.setTop (mkF m pc Ls (.int x :: .int j :: .ref a :: st))) := by
  subst hp
  obtain ⟨cl, A1, q1, q2, q3, q4, q5⟩ := A
  obtain ⟨T', h', X', e', W', st'⟩ := stC Y.X Y.x Y.warm Y.eT A1 (j := j) (inb_of q2 hj) (g := mkF m pc Ls (.int x :: .int j :: .ref a :: st)) rfl rfl (Y.d hd)
  exact own_st st' (K T' h' ⟨Y.1, X', e'⟩ W' fun i hi hl hf => Arv.set A1 q1 q2 q3 q4 q5 hf W' i hi hl)
theorem own_stI (pc' : Nat) (Y : own_S Z y bytes maxL ret p l e R s m args below meth c T h locs cells slots) {a : Addr} {kA : ClassId} {n j : Int32} {vs : List Value} {dv : Value} {x : Int32} (A : Arv Z h a kA .int n vs dv) (hd : decode bytes pc = .ok (.iastore, 1)) (hj : ¬ j < 0 ∧ j < n) (hp : pc + 1 = pc')
    (K : ∀ T' h', own_S Z y bytes maxL ret p l e R s m args below meth c T' h' (locs ++ [⟨a, j.toNatClampNeg⟩]) cells slots → Wr h h' a j.toNatClampNeg (.int x) → (∀ (i : Nat), j.toNatClampNeg = i → i < vs.length → fits .int (.int x) = true → Arv Z h' a kA .int n (vs.set i (.int x)) dv) → own_G p e below E (T'.setTop (mkF m pc' Ls st))) : own_G p e below E (T.setTop (mkF m pc Ls (.int x :: .int j :: .ref a :: st))) := by
  subst hp
  obtain ⟨cl, A1, q1, q2, q3, q4, q5⟩ := A
  obtain ⟨T', h', X', e', W', st'⟩ := stI Y.X Y.x Y.warm Y.eT A1 (j := j) (inb_of q2 hj) (g := mkF m pc Ls (.int x :: .int j :: .ref a :: st)) rfl rfl (Y.d hd)
  exact own_st st' (K T' h' ⟨Y.1, X', e'⟩ W' fun i hi hl hf => Arv.set A1 q1 q2 q3 q4 q5 hf W' i hi hl)
theorem own_stB (pc' : Nat) (Y : own_S Z y bytes maxL ret p l e R s m args below meth c T h locs cells slots) {a : Addr} {kA : ClassId} {n j : Int32} {vs : List Value} {dv : Value} {x : Int32} (A : Arv Z h a kA .byte n vs dv) (hd : decode bytes pc = .ok (.bastore, 1)) (hj : ¬ j < 0 ∧ j < n) (hp : pc + 1 = pc')
    (K : ∀ T' h', own_S Z y bytes maxL ret p l e R s m args below meth c T' h' (locs ++ [⟨a, j.toNatClampNeg⟩]) cells slots → Wr h h' a j.toNatClampNeg (.int (nar .byte x)) → (∀ (i : Nat), j.toNatClampNeg = i → i < vs.length → fits .byte (.int (nar .byte x)) = true → Arv Z h' a kA .byte n (vs.set i (.int (nar .byte x))) dv) → own_G p e below E (T'.setTop (mkF m pc' Ls st))) : own_G p e below E (T.setTop (mkF m pc Ls (.int x :: .int j :: .ref a :: st))) := by
  subst hp
  obtain ⟨cl, A1, q1, q2, q3, q4, q5⟩ := A
  obtain ⟨T', h', X', e', W', st'⟩ := stB Y.X Y.x Y.warm Y.eT A1 (j := j) (inb_of q2 hj) (g := mkF m pc Ls (.int x :: .int j :: .ref a :: st)) rfl rfl (Y.d hd)
  exact own_st st' (K T' h' ⟨Y.1, X', e'⟩ W' fun i hi hl hf => Arv.set A1 q1 q2 q3 q4 q5 hf W' i hi hl)
theorem own_stJ (pc' : Nat) (Y : own_S Z y bytes maxL ret p l e R s m args below meth c T h locs cells slots) {a : Addr} {kA : ClassId} {n j : Int32} {vs : List Value} {dv : Value} {x : Int64} (A : Arv Z h a kA .long n vs dv) (hd : decode bytes pc = .ok (.lastore, 1)) (hj : ¬ j < 0 ∧ j < n) (hp : pc + 1 = pc')
    (K : ∀ T' h', own_S Z y bytes maxL ret p l e R s m args below meth c T' h' (locs ++ [⟨a, j.toNatClampNeg⟩]) cells slots → Wr h h' a j.toNatClampNeg (.long x) → (∀ (i : Nat), j.toNatClampNeg = i → i < vs.length → fits .long (.long x) = true → Arv Z h' a kA .long n (vs.set i (.long x)) dv) → own_G p e below E (T'.setTop (mkF m pc' Ls st))) : own_G p e below E (T.setTop (mkF m pc Ls (.long x :: .int j :: .ref a :: st))) := by
  subst hp
  obtain ⟨cl, A1, q1, q2, q3, q4, q5⟩ := A
  obtain ⟨T', h', X', e', W', st'⟩ := stJ Y.X Y.x Y.warm Y.eT A1 (j := j) (inb_of q2 hj) (g := mkF m pc Ls (.long x :: .int j :: .ref a :: st)) rfl rfl (Y.d hd)
  exact own_st st' (K T' h' ⟨Y.1, X', e'⟩ W' fun i hi hl hf => Arv.set A1 q1 q2 q3 q4 q5 hf W' i hi hl)
theorem own_stR (pc' : Nat) (Y : own_S Z y bytes maxL ret p l e R s m args below meth c T h locs cells slots) {a : Addr} {kA : ClassId} {n j : Int32} {vs : List Value} {dv : Value} {v : Value} {ty : FieldType} (A : Arv Z h a kA ty n vs dv) (hty : ty.isReference = true) (F : Sto Z h a v) (hfit : fits ty v = true) (hd : decode bytes pc = .ok (.aastore, 1)) (hj : ¬ j < 0 ∧ j < n) (hp : pc + 1 = pc')
    (K : ∀ T' h', own_S Z y bytes maxL ret p l e R s m args below meth c T' h' (locs ++ [⟨a, j.toNatClampNeg⟩]) cells slots → Wr h h' a j.toNatClampNeg v → (∀ (i : Nat), j.toNatClampNeg = i → i < vs.length → Arv Z h' a kA ty n (vs.set i v) dv) → own_G p e below E (T'.setTop (mkF m pc' Ls st))) : own_G p e below E (T.setTop (mkF m pc Ls (v :: .int j :: .ref a :: st))) := by
  subst hp
  obtain ⟨cl, A1, q1, q2, q3, q4, q5⟩ := A
  obtain ⟨T', h', X', e', W', st'⟩ := stR Y.X Y.x Y.warm Y.eT A1 (j := j) (inb_of q2 hj) hty F (g := mkF m pc Ls (v :: .int j :: .ref a :: st)) rfl rfl (Y.d hd)
  exact own_st st' (K T' h' ⟨Y.1, X', e'⟩ W' fun i hi hl => Arv.set A1 q1 q2 q3 q4 q5 hfit W' i hi hl)
theorem own_caload (pc' : Nat) (Y : own_S Z y bytes maxL ret p l e R s m args below meth c T h locs cells slots) {a : Addr} {kA : ClassId} {n j : Int32} {vs : List Value} {dv : Value} (A : Arv Z h a kA .char n vs dv) {v : Value} (hd : decode bytes pc = .ok (.caload, 1)) (hj : ¬ j < 0 ∧ j < n) (hv : vs.getD j.toNatClampNeg dv = v) (hp : pc + 1 = pc') (K : own_G p e below E (T.setTop (mkF m pc' Ls (v :: st)))) : own_G p e below E (T.setTop (mkF m pc Ls (.int j :: .ref a :: st))) := by
  subst hp
  obtain ⟨cl, A1, q1, q2, q3, q4, q5⟩ := A
  exact own_st (fun t k => Y.X.caload Y.x (j := j) (v := v) (by rw [Y.eT]; exact A1.1) (State.isArrayOf_alike Y.warm.alike A1.2.1) A1.2.2 (inb_of q2 hj) (q4.at (inb_of q2 hj) hv) (g := mkF m pc Ls (.int j :: .ref a :: st)) rfl rfl (Y.d hd) t k) K
theorem own_iaload (pc' : Nat) (Y : own_S Z y bytes maxL ret p l e R s m args below meth c T h locs cells slots) {a : Addr} {kA : ClassId} {n j : Int32} {vs : List Value} {dv : Value} (A : Arv Z h a kA .int n vs dv) {v : Value} (hd : decode bytes pc = .ok (.iaload, 1)) (hj : ¬ j < 0 ∧ j < n) (hv : vs.getD j.toNatClampNeg dv = v) (hp : pc + 1 = pc') (K : own_G p e below E (T.setTop (mkF m pc' Ls (v :: st)))) : own_G p e below E (T.setTop (mkF m pc Ls (.int j :: .ref a :: st))) := by
  subst hp
  obtain ⟨cl, A1, q1, q2, q3, q4, q5⟩ := A
  exact own_st (fun t k => Y.X.iaload Y.x (j := j) (v := v) (by rw [Y.eT]; exact A1.1) (State.isArrayOf_alike Y.warm.alike A1.2.1) A1.2.2 (inb_of q2 hj) (q4.at (inb_of q2 hj) hv) (g := mkF m pc Ls (.int j :: .ref a :: st)) rfl rfl (Y.d hd) t k) K
theorem own_baload (pc' : Nat) (Y : own_S Z y bytes maxL ret p l e R s m args below meth c T h locs cells slots) {a : Addr} {kA : ClassId} {n j : Int32} {vs : List Value} {dv : Value} (A : Arv Z h a kA .byte n vs dv) {v : Value} (hd : decode bytes pc = .ok (.baload, 1)) (hj : ¬ j < 0 ∧ j < n) (hv : vs.getD j.toNatClampNeg dv = v) (hp : pc + 1 = pc') (K : own_G p e below E (T.setTop (mkF m pc' Ls (v :: st)))) : own_G p e below E (T.setTop (mkF m pc Ls (.int j :: .ref a :: st))) := by
  subst hp
  obtain ⟨cl, A1, q1, q2, q3, q4, q5⟩ := A
  exact own_st (fun t k => Y.X.baloadBytes Y.x (j := j) (v := v) (by rw [Y.eT]; exact A1.1) (State.isArrayOf_alike Y.warm.alike A1.2.1) A1.2.2 (inb_of q2 hj) (q4.at (inb_of q2 hj) hv) (g := mkF m pc Ls (.int j :: .ref a :: st)) rfl rfl (Y.d hd) t k) K
theorem own_laload (pc' : Nat) (Y : own_S Z y bytes maxL ret p l e R s m args below meth c T h locs cells slots) {a : Addr} {kA : ClassId} {n j : Int32} {vs : List Value} {dv : Value} (A : Arv Z h a kA .long n vs dv) {v : Value} (hd : decode bytes pc = .ok (.laload, 1)) (hj : ¬ j < 0 ∧ j < n) (hv : vs.getD j.toNatClampNeg dv = v) (hp : pc + 1 = pc') (K : own_G p e below E (T.setTop (mkF m pc' Ls (v :: st)))) : own_G p e below E (T.setTop (mkF m pc Ls (.int j :: .ref a :: st))) := by
  subst hp
  obtain ⟨cl, A1, q1, q2, q3, q4, q5⟩ := A
  exact own_st (fun t k => Y.X.laload Y.x (j := j) (v := v) (by rw [Y.eT]; exact A1.1) (State.isArrayOf_alike Y.warm.alike A1.2.1) A1.2.2 (inb_of q2 hj) (q4.at (inb_of q2 hj) hv) (g := mkF m pc Ls (.int j :: .ref a :: st)) rfl rfl (Y.d hd) t k) K
theorem own_aaload (pc' : Nat) (Y : own_S Z y bytes maxL ret p l e R s m args below meth c T h locs cells slots) {a : Addr} {kA : ClassId} {n j : Int32} {vs : List Value} {dv : Value} {ty : FieldType} (A : Arv Z h a kA ty n vs dv) (hty : ty.isReference = true) {v : Value} (hd : decode bytes pc = .ok (.aaload, 1)) (hj : ¬ j < 0 ∧ j < n) (hv : vs.getD j.toNatClampNeg dv = v) (hp : pc + 1 = pc') (K : own_G p e below E (T.setTop (mkF m pc' Ls (v :: st)))) : own_G p e below E (T.setTop (mkF m pc Ls (.int j :: .ref a :: st))) := by
  subst hp
  obtain ⟨cl, A1, q1, q2, q3, q4, q5⟩ := A
  exact own_st (fun t k => Y.X.aaload Y.x (j := j) (v := v) (by rw [Y.eT]; exact A1.1) (State.isArrayOf_alike Y.warm.alike A1.2.1) hty A1.2.2 (inb_of q2 hj) (q4.at (inb_of q2 hj) hv) (g := mkF m pc Ls (.int j :: .ref a :: st)) rfl rfl (Y.d hd) t k) K
theorem own_alen (pc' : Nat) (Y : own_S Z y bytes maxL ret p l e R s m args below meth c T h locs cells slots) {a : Addr} {kA : ClassId} {n : Int32} {vs : List Value} {dv : Value} {ty : FieldType} (A : Arv Z h a kA ty n vs dv) (hd : decode bytes pc = .ok (.arraylength, 1)) (hp : pc + 1 = pc') (K : own_G p e below E (T.setTop (mkF m pc' Ls (.int n :: st)))) : own_G p e below E (T.setTop (mkF m pc Ls (.ref a :: st))) := by
  subst hp
  obtain ⟨cl, A1, q1, q2, q3, q4, q5⟩ := A
  refine own_st (fun t k => Y.X.arraylength Y.x (by rw [Y.eT]; exact A1.1) (State.isArrayOf_alike Y.warm.alike A1.2.1) (g := mkF m pc Ls (.ref a :: st)) rfl rfl (Y.d hd) t k) ?_
  rw [len_of q2 q3]
  exact K
theorem own_callS (pc' : Nat) (Y : own_S Z y bytes maxL ret p l e R s m args below meth c T h locs cells slots) {yc : MethodName} {bc : ByteArray} {mc : Nat} {rc : Option FieldType} {rm : Room} {index : Nat} {Qc : Option Value → Heap → List Loc → Prop} (argsL rest : List Value) (w1 : (Jvm.Cond.methodLink y.cls index yc).before a0 Z = true) (w2 : (Jvm.Cond.static yc).before a0 Z = true) (w3 : (Jvm.Cond.initialized yc.cls).before a0 Z = true) (w4 : (Jvm.Cond.code yc bc mc rc).before a0 Z = true) (hM : own_M l yc bc mc rc [] rm Z argsL.toArray h Qc) (hd : decode bytes pc = .ok (.invokestatic index, 3)) (hy : (yc.cls ≠ "java/lang/invoke/MethodHandle" ∧ yc.cls ≠ "java/lang/invoke/VarHandle")) (hlen : ∀ sig, parseMethodDescriptor yc.desc = some sig → argsL.length = sig.parameters.length) (hst : st = argsL.reverse ++ rest) (hLs : Ls.size = maxL) (hf : rm.frames + 1 ≤ R.frames) (hl : (rest.map fun v => v.category).sum + (mc + 11) + rm.locals ≤ R.locals) (hc : cells + rm.cells ≤ R.cells) (hs : slots + rm.slots ≤ R.slots) (hp : pc + 3 = pc')
    (K : ∀ v T' h' L, own_S Z y bytes maxL ret p l e R s m args below meth c T' h' (locs ++ L) (cells + rm.cells) (slots + rm.slots) → Qc v h' L → own_G p e below E (T'.setTop (mkF m pc' Ls (v.toList ++ rest)))) : own_G p e below E (T.setTop (mkF m pc Ls st)) := by
  subst hp
  obtain ⟨v, _, ⟨T', L', k', n'⟩, -, X', P', st'⟩ := Jvm.LawKit.callS Y.X Y.x (y := yc) Y.own (mvT Y.warm w1) (mvT Y.warm w2) (mvT Y.warm w3) (mvT Y.warm w4) hy (backOf (W := (rest.map fun v => v.category).sum) hM Y.warm w4 w3 hf hl) (g := mkF m pc Ls st) rfl (hLs.trans Y.1.2.2.1.symm) (argsL := argsL) (rest := rest) hlen hst (by show 2 * 0 + _ ≤ _; omega) (Y.d hd) (fun _ _ => ⟨rfl, Y.eT, hc, hs⟩)
  obtain ⟨Lc, hQ, l1, y1, z1⟩ := P'
  dsimp only [Pt.U, Pt.locs, Pt.cells, Pt.slots] at l1 y1 z1 hQ
  dsimp only [Pt.U, Pt.locs, Pt.cells, Pt.slots] at X' st'
  subst l1 y1 z1
  exact own_st st' (K v T' T'.heap Lc ⟨Y.1, X', rfl⟩ hQ)
theorem own_callI (pc' : Nat) (Y : own_S Z y bytes maxL ret p l e R s m args below meth c T h locs cells slots) {yc : MethodName} {bc : ByteArray} {mc : Nat} {rm : Room} {index : Nat} {Qc : Option Value → Heap → List Loc → Prop} (argsL rest : List Value) {a : Addr} (hini : yc.name = "<init>") (w1 : (Jvm.Cond.methodLink y.cls index yc).before a0 Z = true) (w2 : (Jvm.Cond.instanceMethod yc).before a0 Z = true) (w3 : (Jvm.Cond.initialized yc.cls).before a0 Z = true) (w4 : (Jvm.Cond.code yc bc mc none).before a0 Z = true) (hM : own_M l yc bc mc none [] rm Z (.ref a :: argsL).toArray h Qc) (hd : decode bytes pc = .ok (.invokespecial index, 3)) (hy : (yc.cls ≠ "java/lang/invoke/MethodHandle" ∧ yc.cls ≠ "java/lang/invoke/VarHandle")) (hlen : ∀ sig, parseMethodDescriptor yc.desc = some sig → argsL.length = sig.parameters.length) (hst : st = argsL.reverse ++ .ref a :: rest) (hLs : Ls.size = maxL) (hf : rm.frames + 1 ≤ R.frames) (hl : (rest.map fun v => v.category).sum + (mc + 11) + rm.locals ≤ R.locals) (hc : cells + rm.cells ≤ R.cells) (hs : slots + rm.slots ≤ R.slots) (hp : pc + 3 = pc')
    (K : ∀ v T' h' L, own_S Z y bytes maxL ret p l e R s m args below meth c T' h' (locs ++ L) (cells + rm.cells) (slots + rm.slots) → Qc v h' L → own_G p e below E (T'.setTop (mkF m pc' Ls (v.toList ++ rest)))) : own_G p e below E (T.setTop (mkF m pc Ls st)) := by
  subst hp
  obtain ⟨v, _, ⟨T', L', k', n'⟩, -, X', P', st'⟩ := Y.X.specialBack Y.x (y := yc) hini Y.own (mvT Y.warm w1) (mvT Y.warm w2) (mvT Y.warm w4) hy (backOf (W := (rest.map fun v => v.category).sum) hM Y.warm w4 w3 hf hl) (g := mkF m pc Ls st) rfl (hLs.trans Y.1.2.2.1.symm) (Steps.refl _) (a := a) (argsL := argsL) (rest := rest) hlen hst (by show 2 * 0 + _ ≤ _; omega) (Y.d hd) (fun _ _ => ⟨rfl, Y.eT, hc, hs⟩)
  obtain ⟨Lc, hQ, l1, y1, z1⟩ := P'
  dsimp only [Pt.U, Pt.locs, Pt.cells, Pt.slots] at l1 y1 z1 hQ
  dsimp only [Pt.U, Pt.locs, Pt.cells, Pt.slots] at X' st'
  subst l1 y1 z1
  exact own_st (fun t k => st'.trans k) (K v T' T'.heap Lc ⟨Y.1, X', rfl⟩ hQ)
theorem own_callV (pc' : Nat) (Y : own_S Z y bytes maxL ret p l e R s m args below meth c T h locs cells slots) {yc : MethodName} {bc : ByteArray} {mc : Nat} {rc : Option FieldType} {rm : Room} {index : Nat} {Qc : Option Value → Heap → List Loc → Prop} {yr : MethodName} {C : String} (argsL rest : List Value) {a : Addr} (EX : Exa Z h a C) (w1 : (Jvm.Cond.methodLink y.cls index yr).before a0 Z = true) (wd : (Jvm.Cond.declares yr).before a0 Z = true) (nf : NotFace s yr) (ws : (Jvm.Cond.selects C yr yc).before a0 Z = true) (w2 : (Jvm.Cond.instanceMethod yc).before a0 Z = true) (w3 : (Jvm.Cond.initialized yc.cls).before a0 Z = true) (w4 : (Jvm.Cond.code yc bc mc rc).before a0 Z = true) (hM : own_M l yc bc mc rc [] rm Z (.ref a :: argsL).toArray h Qc) (hd : decode bytes pc = .ok (.invokevirtual index, 3)) (hy : (yr.cls ≠ "java/lang/invoke/MethodHandle" ∧ yr.cls ≠ "java/lang/invoke/VarHandle")) (hlen : ∀ sig, parseMethodDescriptor yr.desc = some sig → argsL.length = sig.parameters.length) (hst : st = argsL.reverse ++ .ref a :: rest) (hLs : Ls.size = maxL) (hf : rm.frames + 1 ≤ R.frames) (hl : (rest.map fun v => v.category).sum + (mc + 11) + rm.locals ≤ R.locals) (hc : cells + rm.cells ≤ R.cells) (hs : slots + rm.slots ≤ R.slots) (hp : pc + 3 = pc')
    (K : ∀ v T' h' L, own_S Z y bytes maxL ret p l e R s m args below meth c T' h' (locs ++ L) (cells + rm.cells) (slots + rm.slots) → Qc v h' L → own_G p e below E (T'.setTop (mkF m pc' Ls (v.toList ++ rest)))) : own_G p e below E (T.setTop (mkF m pc Ls st)) := by
  subst hp
  obtain ⟨cq, kq, qa, qb, qc⟩ := isOf Y.warm Y.eT EX
  obtain ⟨v, _, ⟨T', L', k', n'⟩, -, X', P', st'⟩ := Y.X.virtualBack Y.x (y := yr) (z := yc) Y.own (mvT Y.warm w1) (mvT Y.warm wd) nf (mvT Y.warm ws) (mvT Y.warm w2) hy (backOf (W := (rest.map fun v => v.category).sum) hM Y.warm w4 w3 hf hl) qa qc (g := mkF m pc Ls st) rfl (hLs.trans Y.1.2.2.1.symm) (Steps.refl _) (argsL := argsL) (rest := rest) hlen hst (by show 2 * 0 + _ ≤ _; omega) (Y.d hd) (fun _ _ => ⟨rfl, Y.eT, hc, hs⟩)
  obtain ⟨Lc, hQ, l1, y1, z1⟩ := P'
  dsimp only [Pt.U, Pt.locs, Pt.cells, Pt.slots] at l1 y1 z1 hQ
  dsimp only [Pt.U, Pt.locs, Pt.cells, Pt.slots] at X' st'
  subst l1 y1 z1
  exact own_st (fun t k => st'.trans k) (K v T' T'.heap Lc ⟨Y.1, X', rfl⟩ hQ)
theorem own_callUp (pc' : Nat) (Y : own_S Z y bytes maxL ret p l e R s m args below meth c T h locs cells slots) {yc : MethodName} {bc : ByteArray} {mc : Nat} {rc : Option FieldType} {rm : Room} {index : Nat} {Qc : Option Value → Heap → List Loc → Prop} {yr : MethodName} {C owner : String} (argsL rest : List Value) {a : Addr} (EX : Exa Z h a C) (w1 : (Jvm.Cond.methodLink y.cls index yr).before a0 Z = true) (wm : (Jvm.Cond.sameMethod yr.cls owner yr.name yr.desc).before a0 Z = true) (wd : (Jvm.Cond.declares ⟨owner, yr.name, yr.desc⟩).before a0 Z = true) (ws : (Jvm.Cond.selects C yr yc).before a0 Z = true) (w2 : (Jvm.Cond.instanceMethod yc).before a0 Z = true) (w3 : (Jvm.Cond.initialized yc.cls).before a0 Z = true) (w4 : (Jvm.Cond.code yc bc mc rc).before a0 Z = true) (hM : own_M l yc bc mc rc [] rm Z (.ref a :: argsL).toArray h Qc) (hd : decode bytes pc = .ok (.invokevirtual index, 3)) (hy : owner ≠ "java/lang/invoke/MethodHandle" ∧ owner ≠ "java/lang/invoke/VarHandle") (hlen : ∀ sig, parseMethodDescriptor yr.desc = some sig → argsL.length = sig.parameters.length) (hst : st = argsL.reverse ++ .ref a :: rest) (hLs : Ls.size = maxL) (hf : rm.frames + 1 ≤ R.frames) (hl : (rest.map fun v => v.category).sum + (mc + 11) + rm.locals ≤ R.locals) (hc : cells + rm.cells ≤ R.cells) (hs : slots + rm.slots ≤ R.slots) (hp : pc + 3 = pc')
    (K : ∀ v T' h' L, own_S Z y bytes maxL ret p l e R s m args below meth c T' h' (locs ++ L) (cells + rm.cells) (slots + rm.slots) → Qc v h' L → own_G p e below E (T'.setTop (mkF m pc' Ls (v.toList ++ rest)))) : own_G p e below E (T.setTop (mkF m pc Ls st)) := by
  subst hp
  obtain ⟨cq, kq, qa, qb, qc⟩ := isOf Y.warm Y.eT EX
  obtain ⟨v, _, ⟨T', L', k', n'⟩, -, X', P', st'⟩ := Y.X.virtualBackUp Y.x (x := yr) (y := yc) Y.own (mvT Y.warm w1) (mvT Y.warm wm) (mvT Y.warm wd) hy (mvT Y.warm ws) (mvT Y.warm w2) (backOf (W := (rest.map fun v => v.category).sum) hM Y.warm w4 w3 hf hl) qa qc (g := mkF m pc Ls st) rfl (hLs.trans Y.1.2.2.1.symm) (Steps.refl _) (argsL := argsL) (rest := rest) hlen hst (by show 2 * 0 + _ ≤ _; omega) (Y.d hd) (fun _ _ => ⟨rfl, Y.eT, hc, hs⟩)
  obtain ⟨Lc, hQ, l1, y1, z1⟩ := P'
  dsimp only [Pt.U, Pt.locs, Pt.cells, Pt.slots] at l1 y1 z1 hQ
  dsimp only [Pt.U, Pt.locs, Pt.cells, Pt.slots] at X' st'
  subst l1 y1 z1
  exact own_st (fun t k => st'.trans k) (K v T' T'.heap Lc ⟨Y.1, X', rfl⟩ hQ)
theorem own_natS (pc' : Nat) (Y : own_S Z y bytes maxL ret p l e R s m args below meth c T h locs cells slots) {yc : MethodName} {bc : ByteArray} {mc : Nat} {rc : Option FieldType} {index : Nat} {val : Value} {F : Array Value → Prop} (argsL rest : List Value) (w1 : (Jvm.Cond.methodLink y.cls index yc).before a0 Z = true) (w2 : (Jvm.Cond.static yc).before a0 Z = true) (w3 : (Jvm.Cond.initialized yc.cls).before a0 Z = true) (w4 : (Jvm.Cond.code yc bc mc rc).before a0 Z = true) (hK : (Jvm.Cond.code yc bc mc rc).before args s = true → Back l R p e below s args yc 3 (rest.map fun v => v.category).sum (fun A a' => A.cells ≤ R.cells ∧ A.slots ≤ R.slots ∧ F a') (fun A _ v B => v = some val ∧ B = A)) (hF : F argsL.toArray) (hd : decode bytes pc = .ok (.invokestatic index, 3)) (hy : (yc.cls ≠ "java/lang/invoke/MethodHandle" ∧ yc.cls ≠ "java/lang/invoke/VarHandle")) (hlen : ∀ sig, parseMethodDescriptor yc.desc = some sig → argsL.length = sig.parameters.length) (hst : st = argsL.reverse ++ rest) (hLs : Ls.size = maxL) (hc : cells ≤ R.cells) (hs : slots ≤ R.slots) (hp : pc + 3 = pc') (K : ∀ T', own_S Z y bytes maxL ret p l e R s m args below meth c T' h locs cells slots → own_G p e below E (T'.setTop (mkF m pc' Ls (val :: rest)))) : own_G p e below E (T.setTop (mkF m pc Ls st)) := by
  subst hp
  obtain ⟨T', X', e', st'⟩ := natS Y.X Y.x Y.warm Y.own w1 w2 w3 w4 hy Y.eT hK (g := mkF m pc Ls st) rfl (hLs.trans Y.1.2.2.1.symm) (argsL := argsL) (rest := rest) hlen hst (by show 2 * 0 + _ ≤ _; omega) (Y.d hd) hc hs hF rfl
  exact own_st st' (K T' ⟨Y.1, X', e'⟩)
theorem own_ret (Y : own_S Z y bytes maxL ret p l e R s m args below meth c T h locs cells slots) {w : Value} {t : FieldType} {i : Instr} (hn : narrow t w = w)
    (hi : (i = .ireturn ∧ (t = .int ∨ t = .boolean ∨ t = .byte ∨ t = .char ∨ t = .short) ∧ ∃ z, w = .int z) ∨ (i = .lreturn ∧ t = .long ∧ ∃ z, w = .long z) ∨ (i = .dreturn ∧ t = .double ∧ ∃ z, w = .double z) ∨ (i = .freturn ∧ t = .float ∧ ∃ z, w = .float z) ∨ (i = .areturn ∧ t.isReference = true ∧ w.isRef = true))
    (hret : ret = some t) (hd : decode bytes pc = .ok (i, 1)) (hc : cells ≤ kc) (hs : slots ≤ ks) (hq : Q (some w) h locs) : own_G p e below (own_E s Q kc ks) (T.setTop (mkF m pc Ls (w :: st))) := by
  obtain ⟨⟨hx, hby, hml, hown, hZ, hr0, hlk, hnm⟩, X, eT⟩ := Y
  subst eT
  obtain ⟨fs, hr, hrun, hended, hW, hsame⟩ := X.leave (v := some w) (fun q => by rw [hr0, hret] at q; cases q) hlk
  exact ⟨_, _, retOut X hx (hr0.trans hret) hn hi (hb hby hd) hr, hrun, hended, _, _, rfl, hq, ⟨_, rfl⟩, hW, hsame.mono hc hs⟩
theorem own_retI (Y : own_S Z y bytes maxL ret p l e R s m args below meth c T h locs cells slots) {z : Int32} (hret : ret = some .int) (hd : decode bytes pc = .ok (.ireturn, 1)) (hc : cells ≤ kc) (hs : slots ≤ ks) (hq : Q (some (.int z)) h locs) : own_G p e below (own_E s Q kc ks) (T.setTop (mkF m pc Ls (.int z :: st))) := own_ret Y rfl (Or.inl ⟨rfl, Or.inl rfl, _, rfl⟩) hret hd hc hs hq
theorem own_retL (Y : own_S Z y bytes maxL ret p l e R s m args below meth c T h locs cells slots) {z : Int64} (hret : ret = some .long) (hd : decode bytes pc = .ok (.lreturn, 1)) (hc : cells ≤ kc) (hs : slots ≤ ks) (hq : Q (some (.long z)) h locs) : own_G p e below (own_E s Q kc ks) (T.setTop (mkF m pc Ls (.long z :: st))) := own_ret Y rfl (Or.inr (Or.inl ⟨rfl, rfl, _, rfl⟩)) hret hd hc hs hq
theorem own_retD (Y : own_S Z y bytes maxL ret p l e R s m args below meth c T h locs cells slots) {z : UInt64} (hret : ret = some .double) (hd : decode bytes pc = .ok (.dreturn, 1)) (hc : cells ≤ kc) (hs : slots ≤ ks) (hq : Q (some (.double z)) h locs) : own_G p e below (own_E s Q kc ks) (T.setTop (mkF m pc Ls (.double z :: st))) := own_ret Y rfl (Or.inr (Or.inr (Or.inl ⟨rfl, rfl, _, rfl⟩))) hret hd hc hs hq
theorem own_retA (Y : own_S Z y bytes maxL ret p l e R s m args below meth c T h locs cells slots) {w : Value} {t : FieldType} (hret : ret = some t) (ht : t.isReference = true) (hw : w.isRef = true) (hd : decode bytes pc = .ok (.areturn, 1)) (hc : cells ≤ kc) (hs : slots ≤ ks) (hq : Q (some w) h locs) : own_G p e below (own_E s Q kc ks) (T.setTop (mkF m pc Ls (w :: st))) := own_ret Y (by cases t <;> first | rfl | (cases ht; done)) (Or.inr (Or.inr (Or.inr (Or.inr ⟨rfl, ht, hw⟩)))) hret hd hc hs hq
theorem own_retN (Y : own_S Z y bytes maxL ret p l e R s m args below meth c T h locs cells slots) {z : Int32} {t : FieldType} (hret : ret = some t) (ht : t = .boolean ∨ t = .byte ∨ t = .char ∨ t = .short) (hd : decode bytes pc = .ok (.ireturn, 1)) (hc : cells ≤ kc) (hs : slots ≤ ks) (hq : Q (some (.int (nar t z))) h locs) : own_G p e below (own_E s Q kc ks) (T.setTop (mkF m pc Ls (.int z :: st))) := by
  obtain ⟨⟨hx, hby, hml, hown, hZ, hr0, hlk, hnm⟩, X, eT⟩ := Y
  subst eT
  obtain ⟨fs, hr, hrun, hended, hW, hsame⟩ := X.leave (v := some (.int (nar t z))) (fun q => by rw [hr0, hret] at q; cases q) hlk
  exact ⟨_, _, retN X hx (hr0.trans hret) ht (hb hby hd) hr, hrun, hended, _, _, rfl, hq, ⟨_, rfl⟩, hW, hsame.mono hc hs⟩
theorem own_retV (Y : own_S Z y bytes maxL ret p l e R s m args below meth c T h locs cells slots) (hret : ret = none) (hd : decode bytes pc = .ok (.return_, 1)) (hc : cells ≤ kc) (hs : slots ≤ ks) (hq : Q none h locs) : own_G p e below (own_E s Q kc ks) (T.setTop (mkF m pc Ls [])) := by
  obtain ⟨⟨hx, hby, hml, hown, hZ, hr0, hlk, hnm⟩, X, eT⟩ := Y
  subst eT
  obtain ⟨fs, hr, hrun, hended, hW, hsame⟩ := X.leave (v := none) (fun _ => rfl) hlk
  exact ⟨_, _, X.returnOut hx (hr0.trans hret) (hb hby hd) hr, hrun, hended, _, _, rfl, hq, ⟨_, rfl⟩, hW, hsame.mono hc hs⟩
end Own

section OwnW
variable {p : Program} {l : Launch} {e : Env} {R : Room} {s : State} {m : MethodId} {args : Array Value} {below : List Frame} {meth : Method} {c : Code} {T : State} {locs : List Loc} {cells slots : Nat} {Z : State} {h : Heap} {y : MethodName} {bytes : ByteArray} {maxL : Nat} {ret : Option FieldType} {E : Outcome → State → Prop} {Q : Option Value → Heap → List Loc → Prop} {kc ks : Nat} {Ls : Array Slot} {st : List Value} {pc : Nat} {a0 : Array Value} {EL : List (String × Nat)} {vm0 : Vm}
/-- how a walk that may intern ends -/
def own_EW (Z : State) (EL : List (String × Nat)) (s : State) (Q : Option Value → Heap → List Loc → Prop) (kc ks : Nat) (o : Outcome) (t : State) : Prop := ∃ v L, o = .returned v ∧ Q v t.heap L ∧ CHr Z EL s.vm s.heap t.vm t.heap ∧ ReturnedEndW s o t L kc ks
/-- the tables vm0 and the heap h, reached from s: the constants of EL hold their text -/
def own_H (Z : State) (EL : List (String × Nat)) (a0 : Array Value) (s : State) (vm0 : Vm) (h : Heap) : Prop := (∃ k0, s.Since vm0 k0 ∧ k0 ≤ h.size) ∧ CHr Z EL s.vm s.heap vm0 h ∧ EW Z a0 EL
theorem own_H.ext {h' : Heap} (H : own_H Z EL a0 s vm0 h) (X : Ext h h') : own_H Z EL a0 s vm0 h' := by
  obtain ⟨⟨k0, q1, q2⟩, r, w⟩ := H
  exact ⟨⟨k0, q1, Nat.le_trans q2 X.1⟩, r.trans (CHr.ext X r.1), w⟩
theorem own_H.keep {h' : Heap} {ws : List Addr} (H : own_H Z EL a0 s vm0 h) (K : Keep h h' ws) (hs : ∀ x ∈ ws, Safe Z EL vm0 h x) : own_H Z EL a0 s vm0 h' := by
  obtain ⟨⟨k0, q1, q2⟩, r, w⟩ := H
  exact ⟨⟨k0, q1, Nat.le_trans q2 K.1⟩, r.trans (CHr.keep K hs r.1), w⟩
theorem own_H.wr {h' : Heap} {a : Addr} {sl : Nat} {v : Value} (H : own_H Z EL a0 s vm0 h) (W : Wr h h' a sl v) (S : Safe Z EL vm0 h a) : own_H Z EL a0 s vm0 h' := by
  obtain ⟨⟨k0, q1, q2⟩, r, w⟩ := H
  exact ⟨⟨k0, q1, Nat.le_trans q2 (Nat.le_of_eq W.size.symm)⟩, r.trans (CHr.wr W S r.1), w⟩
theorem own_H.ch (H : own_H Z EL a0 s vm0 h) : CHv Z EL vm0 h := H.2.1.1
/-- an address that is no booked String's -/
theorem own_H.sExt {h' : Heap} {x : Addr} (H : own_H Z EL a0 s vm0 h) (X : Ext h h') (F : Safe Z EL vm0 h x) : Safe Z EL vm0 h' x := Safe.ext X H.ch F
theorem own_H.sKeep {h' : Heap} {ws : List Addr} {x : Addr} (H : own_H Z EL a0 s vm0 h) (K : Keep h h' ws) (hs : ∀ x ∈ ws, Safe Z EL vm0 h x) (F : Safe Z EL vm0 h x) : Safe Z EL vm0 h' x := Safe.keep K hs H.ch F
theorem own_H.sWr {h' : Heap} {a x : Addr} {sl : Nat} {v : Value} (H : own_H Z EL a0 s vm0 h) (W : Wr h h' a sl v) (S : Safe Z EL vm0 h a) (F : Safe Z EL vm0 h x) : Safe Z EL vm0 h' x := Safe.wr W S H.ch F
theorem own_sNew {h' : Heap} {x : Addr} (H : own_H Z EL a0 s vm0 h) (X : Ext h h') (g : x = h.size) : Safe Z EL vm0 h' x := Safe.ext X H.ch (Safe.new (Nat.le_of_eq g.symm))
def own_MW (l : Launch) (y : MethodName) (bytes : ByteArray) (maxL : Nat) (ret : Option FieldType) (ws : List Jvm.Cond) (rm : Room) (Z : State) (EL : List (String × Nat)) (as' : Array Value) (h : Heap) (Q : Option Value → Heap → List Loc → Prop) : Prop :=
  MetFree l y (head1 (Jvm.Cond.code y bytes maxL ret :: ws) rm) (fun a U => a = as' ∧ Z.Warmed39 U.vm ∧ U.heap = h ∧ CHv Z EL U.vm h) (fun _ _ _ _ _ => True) (fun _ U o U' => ∃ v L, o = .returned v ∧ Q v U'.heap L ∧ CHr Z EL U.vm U.heap U'.vm U'.heap ∧ ReturnedEndW U o U' L rm.cells rm.slots)
theorem own_metW {ws : List Jvm.Cond} {rm : Room} {as' : Array Value} (hEL : EW Z a0 EL) (hp : plainFor y = true) {Lf : Array Slot} (hE : ∀ m, entryFrame m as' maxL = mkF m 0 Lf [])
    (body : ∀ p e s m below meth c T, own_S Z y bytes maxL ret p l e rm (s.setVm s.vm) m as' below meth c T h [] 0 0 → own_H Z EL a0 s s.vm h → (∀ x, Safe Z EL s.vm h x → Safe Z EL s.vm h x) → own_G p e below (own_EW Z EL s Q rm.cells rm.slots) (T.setTop (mkF m 0 Lf []))) : own_MW l y bytes maxL ret ws rm Z EL as' h Q := by
  refine MetFree.of_bodySF (maxLocals := maxL) hp hisR ?_
  intro p e s m args below meth c s₁ Bd hml0 hP hK
  obtain ⟨rfl, hZ, hh, hC⟩ := hP
  obtain ⟨t, o, h1, h2, h3, h4⟩ := body p e s m below meth c s₁ ⟨⟨Bd.exec, Bd.bytes, hml0, findClass_of_methodNamed Bd.named, hZ, Bd.returns, Bd.notSynchronized, (name_of_methodNamed Bd.named Bd.method).1⟩, Stand.of_body Bd, by rw [← hh, Bd.state]; rfl⟩ ⟨⟨0, (State.WarmedH.refl s).since 0, Nat.zero_le _⟩, by rw [hh]; exact CHr.refl hC, hEL⟩ (fun _ q => q)
  exact ⟨t, o, castTop (hE m) h1, h2, h3, h4⟩
theorem own_retW (Y : own_S Z y bytes maxL ret p l e R (s.setVm vm0) m args below meth c T h locs cells slots) (H : own_H Z EL a0 s vm0 h) {w : Value} {t : FieldType} {i : Instr} (hn : narrow t w = w)
    (hi : (i = .ireturn ∧ (t = .int ∨ t = .boolean ∨ t = .byte ∨ t = .char ∨ t = .short) ∧ ∃ z, w = .int z) ∨ (i = .lreturn ∧ t = .long ∧ ∃ z, w = .long z) ∨ (i = .dreturn ∧ t = .double ∧ ∃ z, w = .double z) ∨ (i = .freturn ∧ t = .float ∧ ∃ z, w = .float z) ∨ (i = .areturn ∧ t.isReference = true ∧ w.isRef = true))
    (hret : ret = some t) (hd : decode bytes pc = .ok (i, 1)) (hc : cells ≤ kc) (hs : slots ≤ ks) (hq : Q (some w) h locs) : own_G p e below (own_EW Z EL s Q kc ks) (T.setTop (mkF m pc Ls (w :: st))) := by
  obtain ⟨⟨hx, hby, hml, hown, hZ, hr0, hlk, hnm⟩, X, eT⟩ := Y
  subst eT
  obtain ⟨⟨k0, q1, q2⟩, r, wE⟩ := H
  have hA := CHv.at X hZ wE r.1
  obtain ⟨fs, hr, hrun, hended, b1, b2, b3, b4⟩ := X.leaveW q1 q2 (v := some w) (fun q => by rw [hr0, hret] at q; cases q) hlk
  exact ⟨_, _, retOut X hx (hr0.trans hret) hn hi (hb hby hd) hr, hrun, hended, _, _, rfl, hq, r.trans hA, b1, b2, b3, b4.mono hc hs⟩
theorem own_retIW (Y : own_S Z y bytes maxL ret p l e R (s.setVm vm0) m args below meth c T h locs cells slots) (H : own_H Z EL a0 s vm0 h) {z : Int32} (hret : ret = some .int) (hd : decode bytes pc = .ok (.ireturn, 1)) (hc : cells ≤ kc) (hs : slots ≤ ks) (hq : Q (some (.int z)) h locs) : own_G p e below (own_EW Z EL s Q kc ks) (T.setTop (mkF m pc Ls (.int z :: st))) := own_retW Y H rfl (Or.inl ⟨rfl, Or.inl rfl, _, rfl⟩) hret hd hc hs hq
theorem own_retAW (Y : own_S Z y bytes maxL ret p l e R (s.setVm vm0) m args below meth c T h locs cells slots) (H : own_H Z EL a0 s vm0 h) {w : Value} {t : FieldType} (hret : ret = some t) (ht : t.isReference = true) (hw : w.isRef = true) (hd : decode bytes pc = .ok (.areturn, 1)) (hc : cells ≤ kc) (hs : slots ≤ ks) (hq : Q (some w) h locs) : own_G p e below (own_EW Z EL s Q kc ks) (T.setTop (mkF m pc Ls (w :: st))) := own_retW Y H (by cases t <;> first | rfl | (cases ht; done)) (Or.inr (Or.inr (Or.inr (Or.inr ⟨rfl, ht, hw⟩)))) hret hd hc hs hq
theorem own_retNW (Y : own_S Z y bytes maxL ret p l e R (s.setVm vm0) m args below meth c T h locs cells slots) (H : own_H Z EL a0 s vm0 h) {z : Int32} {t : FieldType} (hret : ret = some t) (ht : t = .boolean ∨ t = .byte ∨ t = .char ∨ t = .short) (hd : decode bytes pc = .ok (.ireturn, 1)) (hc : cells ≤ kc) (hs : slots ≤ ks) (hq : Q (some (.int (nar t z))) h locs) : own_G p e below (own_EW Z EL s Q kc ks) (T.setTop (mkF m pc Ls (.int z :: st))) := by
  obtain ⟨⟨hx, hby, hml, hown, hZ, hr0, hlk, hnm⟩, X, eT⟩ := Y
  subst eT
  obtain ⟨⟨k0, q1, q2⟩, r, wE⟩ := H
  have hA := CHv.at X hZ wE r.1
  obtain ⟨fs, hr, hrun, hended, b1, b2, b3, b4⟩ := X.leaveW q1 q2 (v := some (.int (nar t z))) (fun q => by rw [hr0, hret] at q; cases q) hlk
  exact ⟨_, _, retN X hx (hr0.trans hret) ht (hb hby hd) hr, hrun, hended, _, _, rfl, hq, r.trans hA, b1, b2, b3, b4.mono hc hs⟩
theorem own_retVW (Y : own_S Z y bytes maxL ret p l e R (s.setVm vm0) m args below meth c T h locs cells slots) (H : own_H Z EL a0 s vm0 h) (hret : ret = none) (hd : decode bytes pc = .ok (.return_, 1)) (hc : cells ≤ kc) (hs : slots ≤ ks) (hq : Q none h locs) : own_G p e below (own_EW Z EL s Q kc ks) (T.setTop (mkF m pc Ls [])) := by
  obtain ⟨⟨hx, hby, hml, hown, hZ, hr0, hlk, hnm⟩, X, eT⟩ := Y
  subst eT
  obtain ⟨⟨k0, q1, q2⟩, r, wE⟩ := H
  have hA := CHv.at X hZ wE r.1
  obtain ⟨fs, hr, hrun, hended, b1, b2, b3, b4⟩ := X.leaveW q1 q2 (v := none) (fun _ => rfl) hlk
  exact ⟨_, _, X.returnOut hx (hr0.trans hret) (hb hby hd) hr, hrun, hended, _, _, rfl, hq, r.trans hA, b1, b2, b3, b4.mono hc hs⟩
theorem own_Y2 {p : Program} {l : Launch} {e : Env} {R : Room} {s : State} {m : MethodId} {args : Array Value} {below : List Frame} {meth : Method} {c : Code} {T T' : State} {locs locs' : List Loc} {cells slots cells' slots' : Nat} {Z : State} {h : Heap} {y : MethodName} {bytes : ByteArray} {maxL : Nat} {ret : Option FieldType} {vm0 : Vm} (Y : own_S Z y bytes maxL ret p l e R (s.setVm vm0) m args below meth c T h locs cells slots) {vm1 : Vm} (hal : (s.setVm vm0).Warmed39 vm1) (X' : Stand p l e R (s.setVm vm1) m args below meth c T' locs' cells' slots') : own_S Z y bytes maxL ret p l e R (s.setVm vm1) m args below meth c T' T'.heap locs' cells' slots' :=
  ⟨⟨Y.1.1, Y.1.2.1, Y.1.2.2.1, by show vm1.findClass y.cls = _; rw [hal.alike.findClass]; exact Y.1.2.2.2.1, State.Warmed39.trans Y.warm hal, Y.1.2.2.2.2.2⟩, X', rfl⟩
theorem own_ldcW (pc' : Nat) (Y : own_S Z y bytes maxL ret p l e R (s.setVm vm0) m args below meth c T h locs cells slots) (H : own_H Z EL a0 s vm0 h) {text : String} {index : Nat} (w : (Jvm.Cond.stringLink y.cls index text).before a0 Z = true) (wS : ∀ a ∈ Bundle.stringAtoms, a.before a0 Z = true) (hmem : (y.cls, index) ∈ EL) {vs : List Value} {z : Int32} (ht : (∀ c ∈ text.toList, c.toNat < 256) ∧ text.toList.map (fun c => Value.int (Jvm.Lit.byteI c.toNat.toUInt16)) = vs) (hz : ¬ z < 0) (hl : z.toNatClampNeg = vs.length) (n : Nat)
    (hd : decode bytes pc = .ok (.ldc index, 2)) (hn : 4 * text.toList.length ≤ n) (hbig : n ≤ 536870912) (hc : cells + 2 ≤ R.cells) (hs : slots + (n + 4) ≤ R.slots) (hp : pc + 2 = pc')
    (K : ∀ T' h' vm' a b kA, own_S Z y bytes maxL ret p l e R (s.setVm vm') m args below meth c T' h' locs (cells + 2) (slots + (n + 4)) → own_H Z EL a0 s vm' h' → CHr Z EL vm0 h vm' h' → Ext h h' → Exa Z h' a "java/lang/String" → Fld Z h' a "java/lang/String" "coder" "B" (.int 0) → Fld Z h' a "java/lang/String" "value" "[B" (.ref b) → Arv Z h' b kA .byte z vs (.int 0) → (∀ x, Safe Z EL vm' h' x → x ≠ a ∧ x ≠ b) → own_G p e below E (T'.setTop (mkF m pc' Ls (.ref a :: st)))) : own_G p e below E (T.setTop (mkF m pc Ls st)) := by
  subst hp
  obtain ⟨⟨k0, q1, q2⟩, r, wE⟩ := H
  obtain ⟨a, T', h', k1, b, kA, X', e', E', hS', hk', hW', hf', F1, F2, F3, F4, -, -, hC, -, hN, st'⟩ := ldcCH Y.X Y.x Y.warm Y.own w wS Y.eT q1 q2 wE hmem r.1 ht hz hl (g := mkF m pc Ls st) rfl (Y.d hd) hn hbig hc hs
  subst e'
  exact own_st st' (K T' T'.heap T'.vm a b kA ⟨⟨Y.1.1, Y.1.2.1, Y.1.2.2.1, hf', hW', Y.1.2.2.2.2.2⟩, X', rfl⟩ ⟨⟨k1, hS', hk'⟩, r.trans hC, wE⟩ hC E' F1 F2 F3 F4 hN)
theorem own_callSW (pc' : Nat) (Y : own_S Z y bytes maxL ret p l e R (s.setVm vm0) m args below meth c T h locs cells slots) (H : own_H Z EL a0 s vm0 h) {yc : MethodName} {bc : ByteArray} {mc : Nat} {rc : Option FieldType} {rm : Room} {index : Nat} {Qc : Option Value → Heap → List Loc → Prop} (argsL rest : List Value) (w1 : (Jvm.Cond.methodLink y.cls index yc).before a0 Z = true) (w2 : (Jvm.Cond.static yc).before a0 Z = true) (w3 : (Jvm.Cond.initialized yc.cls).before a0 Z = true) (w4 : (Jvm.Cond.code yc bc mc rc).before a0 Z = true) (hM : own_MW l yc bc mc rc [] rm Z EL argsL.toArray h Qc) (hd : decode bytes pc = .ok (.invokestatic index, 3)) (hy : (yc.cls ≠ "java/lang/invoke/MethodHandle" ∧ yc.cls ≠ "java/lang/invoke/VarHandle")) (hlen : ∀ sig, parseMethodDescriptor yc.desc = some sig → argsL.length = sig.parameters.length) (hst : st = argsL.reverse ++ rest) (hLs : Ls.size = maxL) (hf : rm.frames + 1 ≤ R.frames) (hl : (rest.map fun v => v.category).sum + (mc + 11) + rm.locals ≤ R.locals) (hc : cells + rm.cells ≤ R.cells) (hs : slots + rm.slots ≤ R.slots) (hp : pc + 3 = pc')
    (K : ∀ v T' h' L vm', own_S Z y bytes maxL ret p l e R (s.setVm vm') m args below meth c T' h' (locs ++ L) (cells + rm.cells) (slots + rm.slots) → own_H Z EL a0 s vm' h' → CHr Z EL vm0 h vm' h' → Qc v h' L → own_G p e below E (T'.setTop (mkF m pc' Ls (v.toList ++ rest)))) : own_G p e below E (T.setTop (mkF m pc Ls st)) := by
  subst hp
  obtain ⟨⟨k0, q1, q2⟩, r, wE⟩ := H
  obtain ⟨v, _, ⟨T', L', k', n'⟩, -, X', hS', hg', P', st'⟩ := callSS Y.X Y.x (y := yc) Y.own (mvT Y.warm w1) (mvT Y.warm w2) (mvT Y.warm w3) (mvT Y.warm w4) hy (backOfSH (W := (rest.map fun v => v.category).sum) hM Y.warm w4 w3 hf hl wE r.1) (g := mkF m pc Ls st) rfl (hLs.trans Y.1.2.2.1.symm) (argsL := argsL) (rest := rest) hlen hst (by show 2 * 0 + _ ≤ _; omega) (Y.d hd) (fun _ _ => ⟨rfl, Y.eT, hc, hs⟩)
  obtain ⟨Lc, hQ, l1, y1, z1, hC⟩ := P'
  dsimp only [Pt.U, Pt.locs, Pt.cells, Pt.slots] at l1 y1 z1 hQ hC
  dsimp only [Pt.U, Pt.locs, Pt.cells, Pt.slots] at X' st' hS' hg'
  subst l1 y1 z1
  exact own_st (fun t k => st'.trans k) (K v T' T'.heap Lc T'.vm (own_Y2 Y hS'.1 X') ⟨⟨T'.heap.size, q1.trans hS' (Nat.le_trans q2 (Y.eT ▸ hg')), Nat.le_refl _⟩, r.trans hC, wE⟩ hC hQ)
theorem own_callIW (pc' : Nat) (Y : own_S Z y bytes maxL ret p l e R (s.setVm vm0) m args below meth c T h locs cells slots) (H : own_H Z EL a0 s vm0 h) {yc : MethodName} {bc : ByteArray} {mc : Nat} {rm : Room} {index : Nat} {Qc : Option Value → Heap → List Loc → Prop} (argsL rest : List Value) {a : Addr} (hini : yc.name = "<init>") (w1 : (Jvm.Cond.methodLink y.cls index yc).before a0 Z = true) (w2 : (Jvm.Cond.instanceMethod yc).before a0 Z = true) (w3 : (Jvm.Cond.initialized yc.cls).before a0 Z = true) (w4 : (Jvm.Cond.code yc bc mc none).before a0 Z = true) (hM : own_MW l yc bc mc none [] rm Z EL (.ref a :: argsL).toArray h Qc) (hd : decode bytes pc = .ok (.invokespecial index, 3)) (hy : (yc.cls ≠ "java/lang/invoke/MethodHandle" ∧ yc.cls ≠ "java/lang/invoke/VarHandle")) (hlen : ∀ sig, parseMethodDescriptor yc.desc = some sig → argsL.length = sig.parameters.length) (hst : st = argsL.reverse ++ .ref a :: rest) (hLs : Ls.size = maxL) (hf : rm.frames + 1 ≤ R.frames) (hl : (rest.map fun v => v.category).sum + (mc + 11) + rm.locals ≤ R.locals) (hc : cells + rm.cells ≤ R.cells) (hs : slots + rm.slots ≤ R.slots) (hp : pc + 3 = pc')
    (K : ∀ v T' h' L vm', own_S Z y bytes maxL ret p l e R (s.setVm vm') m args below meth c T' h' (locs ++ L) (cells + rm.cells) (slots + rm.slots) → own_H Z EL a0 s vm' h' → CHr Z EL vm0 h vm' h' → Qc v h' L → own_G p e below E (T'.setTop (mkF m pc' Ls (v.toList ++ rest)))) : own_G p e below E (T.setTop (mkF m pc Ls st)) := by
  subst hp
  obtain ⟨⟨k0, q1, q2⟩, r, wE⟩ := H
  obtain ⟨v, _, ⟨T', L', k', n'⟩, -, X', hS', hg', P', st'⟩ := Y.X.specialBackS Y.x (y := yc) hini Y.own (mvT Y.warm w1) (mvT Y.warm w2) (mvT Y.warm w4) hy (backOfSH (W := (rest.map fun v => v.category).sum) hM Y.warm w4 w3 hf hl wE r.1) (g := mkF m pc Ls st) rfl (hLs.trans Y.1.2.2.1.symm) (Steps.refl _) (a := a) (argsL := argsL) (rest := rest) hlen hst (by show 2 * 0 + _ ≤ _; omega) (Y.d hd) (fun _ _ => ⟨rfl, Y.eT, hc, hs⟩)
  obtain ⟨Lc, hQ, l1, y1, z1, hC⟩ := P'
  dsimp only [Pt.U, Pt.locs, Pt.cells, Pt.slots] at l1 y1 z1 hQ hC
  dsimp only [Pt.U, Pt.locs, Pt.cells, Pt.slots] at X' st' hS' hg'
  subst l1 y1 z1
  exact own_st (fun t k => st'.trans k) (K v T' T'.heap Lc T'.vm (own_Y2 Y hS'.1 X') ⟨⟨T'.heap.size, q1.trans hS' (Nat.le_trans q2 (Y.eT ▸ hg')), Nat.le_refl _⟩, r.trans hC, wE⟩ hC hQ)
theorem own_callVW (pc' : Nat) (Y : own_S Z y bytes maxL ret p l e R (s.setVm vm0) m args below meth c T h locs cells slots) (H : own_H Z EL a0 s vm0 h) {yc : MethodName} {bc : ByteArray} {mc : Nat} {rc : Option FieldType} {rm : Room} {index : Nat} {Qc : Option Value → Heap → List Loc → Prop} {yr : MethodName} {C : String} (argsL rest : List Value) {a : Addr} (EX : Exa Z h a C) (w1 : (Jvm.Cond.methodLink y.cls index yr).before a0 Z = true) (wd : (Jvm.Cond.declares yr).before a0 Z = true) (nf : NotFace (s.setVm vm0) yr) (ws : (Jvm.Cond.selects C yr yc).before a0 Z = true) (w2 : (Jvm.Cond.instanceMethod yc).before a0 Z = true) (w3 : (Jvm.Cond.initialized yc.cls).before a0 Z = true) (w4 : (Jvm.Cond.code yc bc mc rc).before a0 Z = true) (hM : own_MW l yc bc mc rc [] rm Z EL (.ref a :: argsL).toArray h Qc) (hd : decode bytes pc = .ok (.invokevirtual index, 3)) (hy : (yr.cls ≠ "java/lang/invoke/MethodHandle" ∧ yr.cls ≠ "java/lang/invoke/VarHandle")) (hlen : ∀ sig, parseMethodDescriptor yr.desc = some sig → argsL.length = sig.parameters.length) (hst : st = argsL.reverse ++ .ref a :: rest) (hLs : Ls.size = maxL) (hf : rm.frames + 1 ≤ R.frames) (hl : (rest.map fun v => v.category).sum + (mc + 11) + rm.locals ≤ R.locals) (hc : cells + rm.cells ≤ R.cells) (hs : slots + rm.slots ≤ R.slots) (hp : pc + 3 = pc')
    (K : ∀ v T' h' L vm', own_S Z y bytes maxL ret p l e R (s.setVm vm') m args below meth c T' h' (locs ++ L) (cells + rm.cells) (slots + rm.slots) → own_H Z EL a0 s vm' h' → CHr Z EL vm0 h vm' h' → Qc v h' L → own_G p e below E (T'.setTop (mkF m pc' Ls (v.toList ++ rest)))) : own_G p e below E (T.setTop (mkF m pc Ls st)) := by
  subst hp
  obtain ⟨⟨k0, q1, q2⟩, r, wE⟩ := H
  obtain ⟨cq, kq, qa, qb, qc⟩ := isOf Y.warm Y.eT EX
  obtain ⟨v, _, ⟨T', L', k', n'⟩, -, X', hS', hg', P', st'⟩ := Y.X.virtualBackS Y.x (y := yr) (z := yc) Y.own (mvT Y.warm w1) (mvT Y.warm wd) nf (mvT Y.warm ws) (mvT Y.warm w2) hy (backOfSH (W := (rest.map fun v => v.category).sum) hM Y.warm w4 w3 hf hl wE r.1) qa qc (g := mkF m pc Ls st) rfl (hLs.trans Y.1.2.2.1.symm) (Steps.refl _) (argsL := argsL) (rest := rest) hlen hst (by show 2 * 0 + _ ≤ _; omega) (Y.d hd) (fun _ _ => ⟨rfl, Y.eT, hc, hs⟩)
  obtain ⟨Lc, hQ, l1, y1, z1, hC⟩ := P'
  dsimp only [Pt.U, Pt.locs, Pt.cells, Pt.slots] at l1 y1 z1 hQ hC
  dsimp only [Pt.U, Pt.locs, Pt.cells, Pt.slots] at X' st' hS' hg'
  subst l1 y1 z1
  exact own_st (fun t k => st'.trans k) (K v T' T'.heap Lc T'.vm (own_Y2 Y hS'.1 X') ⟨⟨T'.heap.size, q1.trans hS' (Nat.le_trans q2 (Y.eT ▸ hg')), Nat.le_refl _⟩, r.trans hC, wE⟩ hC hQ)
end OwnW

theorem own_frs {k : Nat} {locs : List Loc} {a : Addr} {sl : Nat} (N : Fr k locs) (q : k ≤ a) : Fr k (locs ++ [⟨a, sl⟩]) := N.app fun y hy => by cases List.mem_singleton.mp hy; exact q
theorem own_frY {p : Program} {l : Launch} {e : Env} {R : Room} {s : State} {m : MethodId} {args : Array Value} {below : List Frame} {meth : Method} {c : Code} {T : State} {locs : List Loc} {cells slots : Nat} {Z : State} {h : Heap} {y : MethodName} {bytes : ByteArray} {maxL : Nat} {ret : Option FieldType} {k : Nat} {a : Addr} {sl : Nat} (Y : own_S Z y bytes maxL ret p l e R s m args below meth c T h (locs ++ [⟨a, sl⟩]) cells slots) (N : Fr k locs) (q : k ≤ a) : Fr k (locs ++ [⟨a, sl⟩]) := own_frs N q
theorem own_fitR {n : String} {v : Value} (q : v.isRef = true) : narrow (.object n) v = v ∧ fits (.object n) v = true := by cases v <;> first | exact ⟨rfl, rfl⟩ | cases q
theorem own_fitA {t : FieldType} {v : Value} (q : v.isRef = true) : narrow (.array t) v = v ∧ fits (.array t) v = true := by cases v <;> first | exact ⟨rfl, rfl⟩ | cases q
theorem own_keepE {h0 h : Heap} (K : Keep h0 h []) : Ext h0 h := ⟨K.1, fun a c q => K.2.1 a c q nin0⟩
theorem own_keepF {h0 h1 h2 : Heap} {b : Addr} (E : Ext h0 h1) (g : b = h0.size) (K : Keep h1 h2 [b]) : Keep h0 h2 [] := ((Keep.refl h0 []).ext E).trans K (allS (Or.inr (Nat.le_of_eq g.symm)) all0)
theorem own_refCat {v : Value} (q : v.isRef = true) : v.category = 1 := by cases v <;> first | rfl | cases q

theorem own_safeN {Z : State} {EL : List (String × Nat)} {vm : Vm} {h : Heap} {x : Addr} (hal : Z.vm.Alike vm) (EX : Exa Z h x "java/lang/String") (F : Fld Z h x "java/lang/String" "value" "[B" .null) : Safe Z EL vm h x := fun B => by
  obtain ⟨p, -, u, a, -, q, -, G, rfl | rfl⟩ := B
  · obtain ⟨cell, cf, k, i, f, e1, e2, -, -, -, -, e7⟩ := F
    cases (show h[q.sa]? = some q.sC from G.ha).symm.trans e1
    obtain ⟨cS, ⟨⟨-, -, -, ⟨c1, k1, i1, f1, -⟩, -, -, -, v1, -⟩, -⟩, -⟩ := G
    obtain ⟨k3, e3, -⟩ := State.fieldFound?_setVm (s := ({ Z with heap := h } : State)) hal (show ({ Z with heap := h } : State).fieldFound? "java/lang/String" "value" "[B" = some (cf, k, i, f) from e2)
    have e4 := e3.symm.trans f1
    simp only [Option.some.injEq, Prod.mk.injEq] at e4
    rw [← e4.2.2.2, e7] at v1
    cases v1
  · obtain ⟨cell, k, e1, e2, e3, -, -⟩ := EX
    cases (show h[q.sd]? = some q.SA from G.hd).symm.trans e1
    obtain ⟨cS, -, -, f, -⟩ := G
    rw [show (Wst Z vm h).vm.findClass "[B" = Z.vm.findClass "[B" from hal.findClass _ _] at f
    obtain ⟨k1, q1, q2⟩ := Vm.findClass_spec f
    obtain ⟨k2, q3, q4⟩ := Vm.findClass_spec e2
    cases q1.symm.trans q3
    exact absurd (q2.symm.trans q4) (by decide)

theorem own_c255n (x : Int32) : ¬ (255 : Int32) < (x &&& 255).toUInt32.toUInt16.toUInt32.toInt32 := by
  rw [i2c_mask, Int32.lt_iff_toInt_lt]
  have h2 : (x &&& 255).toBitVec.toNat ≤ 255 := by
    show (x.toBitVec &&& (255 : Int32).toBitVec).toNat ≤ 255
    rw [BitVec.toNat_and]; exact Nat.and_le_right
  show ¬ (255 : Int) < (x &&& 255).toBitVec.toInt
  rw [BitVec.toInt_eq_toNat_cond]; split <;> omega
theorem own_c255 (x : Int32) : ¬ (255 : Int32) < nar .char ((x &&& 255).toUInt32.toUInt16.toUInt32.toInt32) := by
  have e : nar .char ((x &&& 255).toUInt32.toUInt16.toUInt32.toInt32) = x &&& 255 := by
    show ((x &&& 255).toUInt32.toUInt16.toUInt32.toInt32).toUInt32.toUInt16.toUInt32.toInt32 = _
    rw [i2c_mask, i2c_mask]
  rw [e, Int32.lt_iff_toInt_lt]
  have h1 := (c_andS x 255).2.2 (by decide)
  have h2 : (x &&& 255).toBitVec.toNat ≤ 255 := by
    show (x.toBitVec &&& (255 : Int32).toBitVec).toNat ≤ 255
    rw [BitVec.toNat_and]; exact Nat.and_le_right
  show ¬ (255 : Int) < (x &&& 255).toBitVec.toInt
  rw [BitVec.toInt_eq_toNat_cond]; split <;> omega

def Qv (u : Option Value) (h0 : Heap) (v : Option Value) (h : Heap) (L : List Loc) : Prop := h0 = h ∧ L = [] ∧ v = u
def Qref (h0 : Heap) (v : Option Value) (h : Heap) (L : List Loc) : Prop := h0 = h ∧ L = [] ∧ ∃ a : Addr, v = some (.ref a)
abbrev EL0 : List (String × Nat) := [("com/example/leading/leading/Glyph", 25), ("java/lang/String", 7)]
theorem own_el {Z : State} {a0 : Array Value} (hw : ∀ d ∈ tables_1, d.before a0 Z = true) : EW Z a0 EL0 := (EW.cons (own_wd hw 58 rfl) (by decide) (EW.cons (own_wd hw 83 rfl) (by decide) EW.nil))
theorem own_sub : ∀ a ∈ Bundle.stringAtoms, a ∈ tables_1 := by decide +kernel
theorem own_sa {Z : State} {a0 : Array Value} (hw : ∀ d ∈ tables_1, d.before a0 Z = true) : ∀ a ∈ Bundle.stringAtoms, a.before a0 Z = true := fun a ha => hw a (own_sub a ha)
theorem ds1_0 : decode jdk_52_method_21_code 0 = .ok (.iconst 0, 1) := by decide +kernel
theorem ds1_1 : decode jdk_52_method_21_code 1 = .ok (.istore 5, 2) := by decide +kernel
theorem ds1_3 : decode jdk_52_method_21_code 3 = .ok (.iload 5, 2) := by decide +kernel
theorem ds1_5 : decode jdk_52_method_21_code 5 = .ok (.iload 4, 2) := by decide +kernel
theorem ds1_7 : decode jdk_52_method_21_code 7 = .ok (.if_icmp .ge 37, 3) := by decide +kernel
theorem ds1_10 : decode jdk_52_method_21_code 10 = .ok (.aload_n 0, 1) := by decide +kernel
theorem ds1_11 : decode jdk_52_method_21_code 11 = .ok (.iload_n 1, 1) := by decide +kernel
theorem ds1_12 : decode jdk_52_method_21_code 12 = .ok (.caload, 1) := by decide +kernel
theorem ds1_13 : decode jdk_52_method_21_code 13 = .ok (.istore 6, 2) := by decide +kernel
theorem ds1_15 : decode jdk_52_method_21_code 15 = .ok (.iload 6, 2) := by decide +kernel
theorem ds1_17 : decode jdk_52_method_21_code 17 = .ok (.sipush 255, 3) := by decide +kernel
theorem ds1_20 : decode jdk_52_method_21_code 20 = .ok (.if_icmp .le 6, 3) := by decide +kernel
theorem ds1_23 : decode jdk_52_method_21_code 23 = .ok (.iload 5, 2) := by decide +kernel
theorem ds1_25 : decode jdk_52_method_21_code 25 = .ok (.ireturn, 1) := by decide +kernel
theorem ds1_26 : decode jdk_52_method_21_code 26 = .ok (.aload_n 2, 1) := by decide +kernel
theorem ds1_27 : decode jdk_52_method_21_code 27 = .ok (.iload_n 3, 1) := by decide +kernel
theorem ds1_28 : decode jdk_52_method_21_code 28 = .ok (.iload 6, 2) := by decide +kernel
theorem ds1_30 : decode jdk_52_method_21_code 30 = .ok (.i2b, 1) := by decide +kernel
theorem ds1_31 : decode jdk_52_method_21_code 31 = .ok (.bastore, 1) := by decide +kernel
theorem ds1_32 : decode jdk_52_method_21_code 32 = .ok (.iinc 1 1, 3) := by decide +kernel
theorem ds1_35 : decode jdk_52_method_21_code 35 = .ok (.iinc 3 1, 3) := by decide +kernel
theorem ds1_38 : decode jdk_52_method_21_code 38 = .ok (.iinc 5 1, 3) := by decide +kernel
theorem ds1_41 : decode jdk_52_method_21_code 41 = .ok (.goto (-38), 3) := by decide +kernel
theorem ds1_44 : decode jdk_52_method_21_code 44 = .ok (.iload 4, 2) := by decide +kernel
theorem ds1_46 : decode jdk_52_method_21_code 46 = .ok (.ireturn, 1) := by decide +kernel
theorem pls1 : plainFor (⟨"java/lang/StringUTF16", "compress", "([CI[BII)I"⟩ : MethodName) = true := by first | exact plainFor_of_name (by first | (simp [plainName, overriddenIn]; done) | decide +kernel) | decide +kernel
theorem ds2_0 : decode jdk_52_method_16_code 0 = .ok (.iload_n 2, 1) := by decide +kernel
theorem ds2_1 : decode jdk_52_method_16_code 1 = .ok (.newarray .byte, 2) := by decide +kernel
theorem ds2_3 : decode jdk_52_method_16_code 3 = .ok (.astore_n 3, 1) := by decide +kernel
theorem ds2_4 : decode jdk_52_method_16_code 4 = .ok (.aload_n 0, 1) := by decide +kernel
theorem ds2_5 : decode jdk_52_method_16_code 5 = .ok (.iload_n 1, 1) := by decide +kernel
theorem ds2_6 : decode jdk_52_method_16_code 6 = .ok (.aload_n 3, 1) := by decide +kernel
theorem ds2_7 : decode jdk_52_method_16_code 7 = .ok (.iconst 0, 1) := by decide +kernel
theorem ds2_8 : decode jdk_52_method_16_code 8 = .ok (.iload_n 2, 1) := by decide +kernel
theorem ds2_9 : decode jdk_52_method_16_code 9 = .ok (.invokestatic 115, 3) := by decide +kernel
theorem ds2_12 : decode jdk_52_method_16_code 12 = .ok (.istore 4, 2) := by decide +kernel
theorem ds2_14 : decode jdk_52_method_16_code 14 = .ok (.iload 4, 2) := by decide +kernel
theorem ds2_16 : decode jdk_52_method_16_code 16 = .ok (.iload_n 2, 1) := by decide +kernel
theorem ds2_17 : decode jdk_52_method_16_code 17 = .ok (.if_icmp .eq 40, 3) := by decide +kernel
theorem ds2_20 : decode jdk_52_method_16_code 20 = .ok (.aload_n 0, 1) := by decide +kernel
theorem ds2_21 : decode jdk_52_method_16_code 21 = .ok (.iload_n 1, 1) := by decide +kernel
theorem ds2_22 : decode jdk_52_method_16_code 22 = .ok (.iload_n 2, 1) := by decide +kernel
theorem ds2_23 : decode jdk_52_method_16_code 23 = .ok (.invokestatic 119, 3) := by decide +kernel
theorem ds2_26 : decode jdk_52_method_16_code 26 = .ok (.astore 5, 2) := by decide +kernel
theorem ds2_28 : decode jdk_52_method_16_code 28 = .ok (.aload 5, 2) := by decide +kernel
theorem ds2_30 : decode jdk_52_method_16_code 30 = .ok (.iload 4, 2) := by decide +kernel
theorem ds2_32 : decode jdk_52_method_16_code 32 = .ok (.invokestatic 71, 3) := by decide +kernel
theorem ds2_35 : decode jdk_52_method_16_code 35 = .ok (.sipush 255, 3) := by decide +kernel
theorem ds2_38 : decode jdk_52_method_16_code 38 = .ok (.if_icmp .gt 16, 3) := by decide +kernel
theorem ds2_41 : decode jdk_52_method_16_code 41 = .ok (.aload 5, 2) := by decide +kernel
theorem ds2_43 : decode jdk_52_method_16_code 43 = .ok (.iconst 0, 1) := by decide +kernel
theorem ds2_44 : decode jdk_52_method_16_code 44 = .ok (.aload_n 3, 1) := by decide +kernel
theorem ds2_45 : decode jdk_52_method_16_code 45 = .ok (.iconst 0, 1) := by decide +kernel
theorem ds2_46 : decode jdk_52_method_16_code 46 = .ok (.iload_n 2, 1) := by decide +kernel
theorem ds2_47 : decode jdk_52_method_16_code 47 = .ok (.invokestatic 123, 3) := by decide +kernel
theorem ds2_50 : decode jdk_52_method_16_code 50 = .ok (.iload_n 2, 1) := by decide +kernel
theorem ds2_51 : decode jdk_52_method_16_code 51 = .ok (.if_icmp .eq 6, 3) := by decide +kernel
theorem ds2_54 : decode jdk_52_method_16_code 54 = .ok (.aload 5, 2) := by decide +kernel
theorem ds2_56 : decode jdk_52_method_16_code 56 = .ok (.areturn, 1) := by decide +kernel
theorem ds2_57 : decode jdk_52_method_16_code 57 = .ok (.aload_n 3, 1) := by decide +kernel
theorem ds2_58 : decode jdk_52_method_16_code 58 = .ok (.areturn, 1) := by decide +kernel
theorem pls2 : plainFor (⟨"java/lang/StringUTF16", "compress", "([CII)[B"⟩ : MethodName) = true := by first | exact plainFor_of_name (by first | (simp [plainName, overriddenIn]; done) | decide +kernel) | decide +kernel
theorem ds3_0 : decode jdk_52_method_15_code 0 = .ok (.iload_n 1, 1) := by decide +kernel
theorem ds3_1 : decode jdk_52_method_15_code 1 = .ok (.aload_n 0, 1) := by decide +kernel
theorem ds3_2 : decode jdk_52_method_15_code 2 = .ok (.arraylength, 1) := by decide +kernel
theorem ds3_3 : decode jdk_52_method_15_code 3 = .ok (.isub, 1) := by decide +kernel
theorem ds3_4 : decode jdk_52_method_15_code 4 = .ok (.bipush 31, 2) := by decide +kernel
theorem ds3_6 : decode jdk_52_method_15_code 6 = .ok (.iushr, 1) := by decide +kernel
theorem ds3_7 : decode jdk_52_method_15_code 7 = .ok (.i2b, 1) := by decide +kernel
theorem ds3_8 : decode jdk_52_method_15_code 8 = .ok (.ireturn, 1) := by decide +kernel
theorem pls3 : plainFor (⟨"java/lang/StringUTF16", "coderFromArrayLen", "([BI)B"⟩ : MethodName) = true := by first | exact plainFor_of_name (by first | (simp [plainName, overriddenIn]; done) | decide +kernel) | decide +kernel
theorem ds4_0 : decode jdk_42_method_149_code 0 = .ok (.aload_n 0, 1) := by decide +kernel
theorem ds4_1 : decode jdk_42_method_149_code 1 = .ok (.invokespecial 1, 3) := by decide +kernel
theorem ds4_4 : decode jdk_42_method_149_code 4 = .ok (.iload_n 3, 1) := by decide +kernel
theorem ds4_5 : decode jdk_42_method_149_code 5 = .ok (.ifCond .ne 22, 3) := by decide +kernel
theorem ds4_8 : decode jdk_42_method_149_code 8 = .ok (.aload_n 0, 1) := by decide +kernel
theorem ds4_9 : decode jdk_42_method_149_code 9 = .ok (.ldc 7, 2) := by decide +kernel
theorem ds4_11 : decode jdk_42_method_149_code 11 = .ok (.getfield 9, 3) := by decide +kernel
theorem ds4_14 : decode jdk_42_method_149_code 14 = .ok (.putfield 9, 3) := by decide +kernel
theorem ds4_17 : decode jdk_42_method_149_code 17 = .ok (.aload_n 0, 1) := by decide +kernel
theorem ds4_18 : decode jdk_42_method_149_code 18 = .ok (.ldc 7, 2) := by decide +kernel
theorem ds4_20 : decode jdk_42_method_149_code 20 = .ok (.getfield 15, 3) := by decide +kernel
theorem ds4_23 : decode jdk_42_method_149_code 23 = .ok (.putfield 15, 3) := by decide +kernel
theorem ds4_26 : decode jdk_42_method_149_code 26 = .ok (.return_, 1) := by decide +kernel
theorem ds4_27 : decode jdk_42_method_149_code 27 = .ok (.getstatic 38, 3) := by decide +kernel
theorem ds4_30 : decode jdk_42_method_149_code 30 = .ok (.ifCond .eq 28, 3) := by decide +kernel
theorem ds4_33 : decode jdk_42_method_149_code 33 = .ok (.aload_n 1, 1) := by decide +kernel
theorem ds4_34 : decode jdk_42_method_149_code 34 = .ok (.iload_n 2, 1) := by decide +kernel
theorem ds4_35 : decode jdk_42_method_149_code 35 = .ok (.iload_n 3, 1) := by decide +kernel
theorem ds4_36 : decode jdk_42_method_149_code 36 = .ok (.invokestatic 177, 3) := by decide +kernel
theorem ds4_39 : decode jdk_42_method_149_code 39 = .ok (.astore 5, 2) := by decide +kernel
theorem ds4_41 : decode jdk_42_method_149_code 41 = .ok (.aload_n 0, 1) := by decide +kernel
theorem ds4_42 : decode jdk_42_method_149_code 42 = .ok (.aload 5, 2) := by decide +kernel
theorem ds4_44 : decode jdk_42_method_149_code 44 = .ok (.iload_n 3, 1) := by decide +kernel
theorem ds4_45 : decode jdk_42_method_149_code 45 = .ok (.invokestatic 47, 3) := by decide +kernel
theorem ds4_48 : decode jdk_42_method_149_code 48 = .ok (.putfield 15, 3) := by decide +kernel
theorem ds4_51 : decode jdk_42_method_149_code 51 = .ok (.aload_n 0, 1) := by decide +kernel
theorem ds4_52 : decode jdk_42_method_149_code 52 = .ok (.aload 5, 2) := by decide +kernel
theorem ds4_54 : decode jdk_42_method_149_code 54 = .ok (.putfield 9, 3) := by decide +kernel
theorem ds4_57 : decode jdk_42_method_149_code 57 = .ok (.return_, 1) := by decide +kernel
theorem ds4_58 : decode jdk_42_method_149_code 58 = .ok (.aload_n 0, 1) := by decide +kernel
theorem ds4_59 : decode jdk_42_method_149_code 59 = .ok (.iconst 1, 1) := by decide +kernel
theorem ds4_60 : decode jdk_42_method_149_code 60 = .ok (.putfield 15, 3) := by decide +kernel
theorem ds4_63 : decode jdk_42_method_149_code 63 = .ok (.aload_n 0, 1) := by decide +kernel
theorem ds4_64 : decode jdk_42_method_149_code 64 = .ok (.aload_n 1, 1) := by decide +kernel
theorem ds4_65 : decode jdk_42_method_149_code 65 = .ok (.iload_n 2, 1) := by decide +kernel
theorem ds4_66 : decode jdk_42_method_149_code 66 = .ok (.iload_n 3, 1) := by decide +kernel
theorem ds4_67 : decode jdk_42_method_149_code 67 = .ok (.invokestatic 180, 3) := by decide +kernel
theorem ds4_70 : decode jdk_42_method_149_code 70 = .ok (.putfield 9, 3) := by decide +kernel
theorem ds4_73 : decode jdk_42_method_149_code 73 = .ok (.return_, 1) := by decide +kernel
theorem pls4 : plainFor (⟨"java/lang/String", "<init>", "([CIILjava/lang/Void;)V"⟩ : MethodName) = true := by first | exact plainFor_of_name (by first | (simp [plainName, overriddenIn]; done) | decide +kernel) | decide +kernel
theorem ds5_0 : decode jdk_42_method_3_code 0 = .ok (.aload_n 0, 1) := by decide +kernel
theorem ds5_1 : decode jdk_42_method_3_code 1 = .ok (.aload_n 1, 1) := by decide +kernel
theorem ds5_2 : decode jdk_42_method_3_code 2 = .ok (.iconst 0, 1) := by decide +kernel
theorem ds5_3 : decode jdk_42_method_3_code 3 = .ok (.aload_n 1, 1) := by decide +kernel
theorem ds5_4 : decode jdk_42_method_3_code 4 = .ok (.arraylength, 1) := by decide +kernel
theorem ds5_5 : decode jdk_42_method_3_code 5 = .ok (.aconst_null, 1) := by decide +kernel
theorem ds5_6 : decode jdk_42_method_3_code 6 = .ok (.invokespecial 27, 3) := by decide +kernel
theorem ds5_9 : decode jdk_42_method_3_code 9 = .ok (.return_, 1) := by decide +kernel
theorem pls5 : plainFor (⟨"java/lang/String", "<init>", "([C)V"⟩ : MethodName) = true := by first | exact plainFor_of_name (by first | (simp [plainName, overriddenIn]; done) | decide +kernel) | decide +kernel
theorem d1_0 : decode method_3_code 0 = .ok (.iload_n 0, 1) := by decide +kernel
theorem d1_1 : decode method_3_code 1 = .ok (.ifCond .ne 5, 3) := by decide +kernel
theorem d1_4 : decode method_3_code 4 = .ok (.aconst_null, 1) := by decide +kernel
theorem d1_5 : decode method_3_code 5 = .ok (.areturn, 1) := by decide +kernel
theorem d1_6 : decode method_3_code 6 = .ok (.iload_n 0, 1) := by decide +kernel
theorem d1_7 : decode method_3_code 7 = .ok (.iconst 1, 1) := by decide +kernel
theorem d1_8 : decode method_3_code 8 = .ok (.if_icmp .ne 14, 3) := by decide +kernel
theorem d1_11 : decode method_3_code 11 = .ok (.new 35, 3) := by decide +kernel
theorem d1_14 : decode method_3_code 14 = .ok (.dup, 1) := by decide +kernel
theorem d1_15 : decode method_3_code 15 = .ok (.iconst 0, 1) := by decide +kernel
theorem d1_16 : decode method_3_code 16 = .ok (.newarray .char, 2) := by decide +kernel
theorem d1_18 : decode method_3_code 18 = .ok (.invokespecial 37, 3) := by decide +kernel
theorem d1_21 : decode method_3_code 21 = .ok (.areturn, 1) := by decide +kernel
theorem d1_22 : decode method_3_code 22 = .ok (.iload_n 1, 1) := by decide +kernel
theorem d1_23 : decode method_3_code 23 = .ok (.sipush 255, 3) := by decide +kernel
theorem d1_26 : decode method_3_code 26 = .ok (.iand, 1) := by decide +kernel
theorem d1_27 : decode method_3_code 27 = .ok (.i2c, 1) := by decide +kernel
theorem d1_28 : decode method_3_code 28 = .ok (.istore_n 2, 1) := by decide +kernel
theorem d1_29 : decode method_3_code 29 = .ok (.iload_n 1, 1) := by decide +kernel
theorem d1_30 : decode method_3_code 30 = .ok (.bipush 8, 2) := by decide +kernel
theorem d1_32 : decode method_3_code 32 = .ok (.iushr, 1) := by decide +kernel
theorem d1_33 : decode method_3_code 33 = .ok (.sipush 255, 3) := by decide +kernel
theorem d1_36 : decode method_3_code 36 = .ok (.iand, 1) := by decide +kernel
theorem d1_37 : decode method_3_code 37 = .ok (.i2c, 1) := by decide +kernel
theorem d1_38 : decode method_3_code 38 = .ok (.istore_n 3, 1) := by decide +kernel
theorem d1_39 : decode method_3_code 39 = .ok (.iload_n 0, 1) := by decide +kernel
theorem d1_40 : decode method_3_code 40 = .ok (.iconst 2, 1) := by decide +kernel
theorem d1_41 : decode method_3_code 41 = .ok (.if_icmp .ne 8, 3) := by decide +kernel
theorem d1_44 : decode method_3_code 44 = .ok (.iload_n 2, 1) := by decide +kernel
theorem d1_45 : decode method_3_code 45 = .ok (.invokestatic 40, 3) := by decide +kernel
theorem d1_48 : decode method_3_code 48 = .ok (.areturn, 1) := by decide +kernel
theorem d1_49 : decode method_3_code 49 = .ok (.new 35, 3) := by decide +kernel
theorem d1_52 : decode method_3_code 52 = .ok (.dup, 1) := by decide +kernel
theorem d1_53 : decode method_3_code 53 = .ok (.iconst 2, 1) := by decide +kernel
theorem d1_54 : decode method_3_code 54 = .ok (.newarray .char, 2) := by decide +kernel
theorem d1_56 : decode method_3_code 56 = .ok (.dup, 1) := by decide +kernel
theorem d1_57 : decode method_3_code 57 = .ok (.iconst 0, 1) := by decide +kernel
theorem d1_58 : decode method_3_code 58 = .ok (.iload_n 2, 1) := by decide +kernel
theorem d1_59 : decode method_3_code 59 = .ok (.castore, 1) := by decide +kernel
theorem d1_60 : decode method_3_code 60 = .ok (.dup, 1) := by decide +kernel
theorem d1_61 : decode method_3_code 61 = .ok (.iconst 1, 1) := by decide +kernel
theorem d1_62 : decode method_3_code 62 = .ok (.iload_n 3, 1) := by decide +kernel
theorem d1_63 : decode method_3_code 63 = .ok (.castore, 1) := by decide +kernel
theorem d1_64 : decode method_3_code 64 = .ok (.invokespecial 37, 3) := by decide +kernel
theorem d1_67 : decode method_3_code 67 = .ok (.areturn, 1) := by decide +kernel
theorem pl1 : plainFor (⟨"com/example/leading/leading/GlyphIsReadablePinLaw", "makeText", "(II)Ljava/lang/String;"⟩ : MethodName) = true := by first | exact plainFor_of_name (by first | (simp [plainName, overriddenIn]; done) | decide +kernel) | decide +kernel
theorem d2_0 : decode method_4_code 0 = .ok (.iload_n 0, 1) := by decide +kernel
theorem d2_1 : decode method_4_code 1 = .ok (.ifCond .ne 7, 3) := by decide +kernel
theorem d2_4 : decode method_4_code 4 = .ok (.getstatic 44, 3) := by decide +kernel
theorem d2_7 : decode method_4_code 7 = .ok (.areturn, 1) := by decide +kernel
theorem d2_8 : decode method_4_code 8 = .ok (.iload_n 0, 1) := by decide +kernel
theorem d2_9 : decode method_4_code 9 = .ok (.iconst 1, 1) := by decide +kernel
theorem d2_10 : decode method_4_code 10 = .ok (.if_icmp .ne 7, 3) := by decide +kernel
theorem d2_13 : decode method_4_code 13 = .ok (.getstatic 50, 3) := by decide +kernel
theorem d2_16 : decode method_4_code 16 = .ok (.areturn, 1) := by decide +kernel
theorem d2_17 : decode method_4_code 17 = .ok (.iload_n 0, 1) := by decide +kernel
theorem d2_18 : decode method_4_code 18 = .ok (.iconst 2, 1) := by decide +kernel
theorem d2_19 : decode method_4_code 19 = .ok (.if_icmp .ne 7, 3) := by decide +kernel
theorem d2_22 : decode method_4_code 22 = .ok (.getstatic 53, 3) := by decide +kernel
theorem d2_25 : decode method_4_code 25 = .ok (.areturn, 1) := by decide +kernel
theorem d2_26 : decode method_4_code 26 = .ok (.getstatic 56, 3) := by decide +kernel
theorem d2_29 : decode method_4_code 29 = .ok (.areturn, 1) := by decide +kernel
theorem pl2 : plainFor (⟨"com/example/leading/leading/GlyphIsReadablePinLaw", "pick", "(I)Lcom/example/leading/leading/Direction;"⟩ : MethodName) = true := by first | exact plainFor_of_name (by first | (simp [plainName, overriddenIn]; done) | decide +kernel) | decide +kernel
theorem d3_0 : decode prog_7_method_1_code 0 = .ok (.aload_n 0, 1) := by decide +kernel
theorem d3_1 : decode prog_7_method_1_code 1 = .ok (.invokespecial 1, 3) := by decide +kernel
theorem d3_4 : decode prog_7_method_1_code 4 = .ok (.aload_n 0, 1) := by decide +kernel
theorem d3_5 : decode prog_7_method_1_code 5 = .ok (.dload_n 1, 1) := by decide +kernel
theorem d3_6 : decode prog_7_method_1_code 6 = .ok (.putfield 7, 3) := by decide +kernel
theorem d3_9 : decode prog_7_method_1_code 9 = .ok (.aload_n 0, 1) := by decide +kernel
theorem d3_10 : decode prog_7_method_1_code 10 = .ok (.dload_n 3, 1) := by decide +kernel
theorem d3_11 : decode prog_7_method_1_code 11 = .ok (.putfield 13, 3) := by decide +kernel
theorem d3_14 : decode prog_7_method_1_code 14 = .ok (.aload_n 0, 1) := by decide +kernel
theorem d3_15 : decode prog_7_method_1_code 15 = .ok (.dload 5, 2) := by decide +kernel
theorem d3_17 : decode prog_7_method_1_code 17 = .ok (.putfield 16, 3) := by decide +kernel
theorem d3_20 : decode prog_7_method_1_code 20 = .ok (.aload_n 0, 1) := by decide +kernel
theorem d3_21 : decode prog_7_method_1_code 21 = .ok (.dload 7, 2) := by decide +kernel
theorem d3_23 : decode prog_7_method_1_code 23 = .ok (.putfield 19, 3) := by decide +kernel
theorem d3_26 : decode prog_7_method_1_code 26 = .ok (.return_, 1) := by decide +kernel
theorem pl3 : plainFor (⟨"com/example/leading/leading/Box", "<init>", "(DDDD)V"⟩ : MethodName) = true := by first | exact plainFor_of_name (by first | (simp [plainName, overriddenIn]; done) | decide +kernel) | decide +kernel
theorem d4_0 : decode jdk_30_method_1_code 0 = .ok (.aload_n 0, 1) := by decide +kernel
theorem d4_1 : decode jdk_30_method_1_code 1 = .ok (.invokespecial 1, 3) := by decide +kernel
theorem d4_4 : decode jdk_30_method_1_code 4 = .ok (.return_, 1) := by decide +kernel
theorem pl4 : plainFor (⟨"java/lang/Record", "<init>", "()V"⟩ : MethodName) = true := by first | exact plainFor_of_name (by first | (simp [plainName, overriddenIn]; done) | decide +kernel) | decide +kernel
theorem d5_0 : decode prog_15_method_1_code 0 = .ok (.aload_n 0, 1) := by decide +kernel
theorem d5_1 : decode prog_15_method_1_code 1 = .ok (.invokespecial 1, 3) := by decide +kernel
theorem d5_4 : decode prog_15_method_1_code 4 = .ok (.aload_n 0, 1) := by decide +kernel
theorem d5_5 : decode prog_15_method_1_code 5 = .ok (.aload_n 1, 1) := by decide +kernel
theorem d5_6 : decode prog_15_method_1_code 6 = .ok (.putfield 7, 3) := by decide +kernel
theorem d5_9 : decode prog_15_method_1_code 9 = .ok (.aload_n 0, 1) := by decide +kernel
theorem d5_10 : decode prog_15_method_1_code 10 = .ok (.aload_n 2, 1) := by decide +kernel
theorem d5_11 : decode prog_15_method_1_code 11 = .ok (.putfield 13, 3) := by decide +kernel
theorem d5_14 : decode prog_15_method_1_code 14 = .ok (.aload_n 0, 1) := by decide +kernel
theorem d5_15 : decode prog_15_method_1_code 15 = .ok (.dload_n 3, 1) := by decide +kernel
theorem d5_16 : decode prog_15_method_1_code 16 = .ok (.putfield 17, 3) := by decide +kernel
theorem d5_19 : decode prog_15_method_1_code 19 = .ok (.aload_n 0, 1) := by decide +kernel
theorem d5_20 : decode prog_15_method_1_code 20 = .ok (.aload 5, 2) := by decide +kernel
theorem d5_22 : decode prog_15_method_1_code 22 = .ok (.putfield 21, 3) := by decide +kernel
theorem d5_25 : decode prog_15_method_1_code 25 = .ok (.return_, 1) := by decide +kernel
theorem pl5 : plainFor (⟨"com/example/leading/leading/Glyph", "<init>", "(Ljava/lang/String;Lcom/example/leading/leading/Box;DLcom/example/leading/leading/Direction;)V"⟩ : MethodName) = true := by first | exact plainFor_of_name (by first | (simp [plainName, overriddenIn]; done) | decide +kernel) | decide +kernel
theorem d6_0 : decode prog_15_method_3_code 0 = .ok (.aload_n 0, 1) := by decide +kernel
theorem d6_1 : decode prog_15_method_3_code 1 = .ok (.getfield 7, 3) := by decide +kernel
theorem d6_4 : decode prog_15_method_3_code 4 = .ok (.ifnull 7, 3) := by decide +kernel
theorem d6_7 : decode prog_15_method_3_code 7 = .ok (.iconst 1, 1) := by decide +kernel
theorem d6_8 : decode prog_15_method_3_code 8 = .ok (.goto 4, 3) := by decide +kernel
theorem d6_11 : decode prog_15_method_3_code 11 = .ok (.iconst 0, 1) := by decide +kernel
theorem d6_12 : decode prog_15_method_3_code 12 = .ok (.ireturn, 1) := by decide +kernel
theorem pl6 : plainFor (⟨"com/example/leading/leading/Glyph", "isReadable", "()Z"⟩ : MethodName) = true := by first | exact plainFor_of_name (by first | (simp [plainName, overriddenIn]; done) | decide +kernel) | decide +kernel
theorem d7_0 : decode prog_15_method_2_code 0 = .ok (.ldc 25, 2) := by decide +kernel
theorem d7_2 : decode prog_15_method_2_code 2 = .ok (.aload_n 0, 1) := by decide +kernel
theorem d7_3 : decode prog_15_method_2_code 3 = .ok (.getfield 7, 3) := by decide +kernel
theorem d7_6 : decode prog_15_method_2_code 6 = .ok (.invokevirtual 27, 3) := by decide +kernel
theorem d7_9 : decode prog_15_method_2_code 9 = .ok (.ireturn, 1) := by decide +kernel
theorem pl7 : plainFor (⟨"com/example/leading/leading/Glyph", "isSpace", "()Z"⟩ : MethodName) = true := by first | exact plainFor_of_name (by first | (simp [plainName, overriddenIn]; done) | decide +kernel) | decide +kernel
theorem d8_0 : decode jdk_42_method_66_code 0 = .ok (.aload_n 0, 1) := by decide +kernel
theorem d8_1 : decode jdk_42_method_66_code 1 = .ok (.aload_n 1, 1) := by decide +kernel
theorem d8_2 : decode jdk_42_method_66_code 2 = .ok (.if_acmp .ne 5, 3) := by decide +kernel
theorem d8_5 : decode jdk_42_method_66_code 5 = .ok (.iconst 1, 1) := by decide +kernel
theorem d8_6 : decode jdk_42_method_66_code 6 = .ok (.ireturn, 1) := by decide +kernel
theorem d8_7 : decode jdk_42_method_66_code 7 = .ok (.aload_n 1, 1) := by decide +kernel
theorem d8_8 : decode jdk_42_method_66_code 8 = .ok (.instanceof 10, 3) := by decide +kernel
theorem d8_11 : decode jdk_42_method_66_code 11 = .ok (.ifCond .eq 43, 3) := by decide +kernel
theorem d8_14 : decode jdk_42_method_66_code 14 = .ok (.aload_n 1, 1) := by decide +kernel
theorem d8_15 : decode jdk_42_method_66_code 15 = .ok (.checkcast 10, 3) := by decide +kernel
theorem d8_18 : decode jdk_42_method_66_code 18 = .ok (.astore_n 2, 1) := by decide +kernel
theorem d8_19 : decode jdk_42_method_66_code 19 = .ok (.getstatic 38, 3) := by decide +kernel
theorem d8_22 : decode jdk_42_method_66_code 22 = .ok (.ifCond .eq 14, 3) := by decide +kernel
theorem d8_25 : decode jdk_42_method_66_code 25 = .ok (.aload_n 0, 1) := by decide +kernel
theorem d8_26 : decode jdk_42_method_66_code 26 = .ok (.getfield 15, 3) := by decide +kernel
theorem d8_29 : decode jdk_42_method_66_code 29 = .ok (.aload_n 2, 1) := by decide +kernel
theorem d8_30 : decode jdk_42_method_66_code 30 = .ok (.getfield 15, 3) := by decide +kernel
theorem d8_33 : decode jdk_42_method_66_code 33 = .ok (.if_icmp .ne 21, 3) := by decide +kernel
theorem d8_36 : decode jdk_42_method_66_code 36 = .ok (.aload_n 0, 1) := by decide +kernel
theorem d8_37 : decode jdk_42_method_66_code 37 = .ok (.getfield 9, 3) := by decide +kernel
theorem d8_40 : decode jdk_42_method_66_code 40 = .ok (.aload_n 2, 1) := by decide +kernel
theorem d8_41 : decode jdk_42_method_66_code 41 = .ok (.getfield 9, 3) := by decide +kernel
theorem d8_44 : decode jdk_42_method_66_code 44 = .ok (.invokestatic 541, 3) := by decide +kernel
theorem d8_47 : decode jdk_42_method_66_code 47 = .ok (.ifCond .eq 7, 3) := by decide +kernel
theorem d8_50 : decode jdk_42_method_66_code 50 = .ok (.iconst 1, 1) := by decide +kernel
theorem d8_51 : decode jdk_42_method_66_code 51 = .ok (.goto 4, 3) := by decide +kernel
theorem d8_54 : decode jdk_42_method_66_code 54 = .ok (.iconst 0, 1) := by decide +kernel
theorem d8_55 : decode jdk_42_method_66_code 55 = .ok (.ireturn, 1) := by decide +kernel
theorem pl8 : plainFor (⟨"java/lang/String", "equals", "(Ljava/lang/Object;)Z"⟩ : MethodName) = true := by first | exact plainFor_of_name (by first | (simp [plainName, overriddenIn]; done) | decide +kernel) | decide +kernel
theorem d9_0 : decode jdk_43_method_13_code 0 = .ok (.aload_n 0, 1) := by decide +kernel
theorem d9_1 : decode jdk_43_method_13_code 1 = .ok (.arraylength, 1) := by decide +kernel
theorem d9_2 : decode jdk_43_method_13_code 2 = .ok (.aload_n 1, 1) := by decide +kernel
theorem d9_3 : decode jdk_43_method_13_code 3 = .ok (.arraylength, 1) := by decide +kernel
theorem d9_4 : decode jdk_43_method_13_code 4 = .ok (.if_icmp .ne 30, 3) := by decide +kernel
theorem d9_7 : decode jdk_43_method_13_code 7 = .ok (.iconst 0, 1) := by decide +kernel
theorem d9_8 : decode jdk_43_method_13_code 8 = .ok (.istore_n 2, 1) := by decide +kernel
theorem d9_9 : decode jdk_43_method_13_code 9 = .ok (.iload_n 2, 1) := by decide +kernel
theorem d9_10 : decode jdk_43_method_13_code 10 = .ok (.aload_n 0, 1) := by decide +kernel
theorem d9_11 : decode jdk_43_method_13_code 11 = .ok (.arraylength, 1) := by decide +kernel
theorem d9_12 : decode jdk_43_method_13_code 12 = .ok (.if_icmp .ge 20, 3) := by decide +kernel
theorem d9_15 : decode jdk_43_method_13_code 15 = .ok (.aload_n 0, 1) := by decide +kernel
theorem d9_16 : decode jdk_43_method_13_code 16 = .ok (.iload_n 2, 1) := by decide +kernel
theorem d9_17 : decode jdk_43_method_13_code 17 = .ok (.baload, 1) := by decide +kernel
theorem d9_18 : decode jdk_43_method_13_code 18 = .ok (.aload_n 1, 1) := by decide +kernel
theorem d9_19 : decode jdk_43_method_13_code 19 = .ok (.iload_n 2, 1) := by decide +kernel
theorem d9_20 : decode jdk_43_method_13_code 20 = .ok (.baload, 1) := by decide +kernel
theorem d9_21 : decode jdk_43_method_13_code 21 = .ok (.if_icmp .eq 5, 3) := by decide +kernel
theorem d9_24 : decode jdk_43_method_13_code 24 = .ok (.iconst 0, 1) := by decide +kernel
theorem d9_25 : decode jdk_43_method_13_code 25 = .ok (.ireturn, 1) := by decide +kernel
theorem d9_26 : decode jdk_43_method_13_code 26 = .ok (.iinc 2 1, 3) := by decide +kernel
theorem d9_29 : decode jdk_43_method_13_code 29 = .ok (.goto (-20), 3) := by decide +kernel
theorem d9_32 : decode jdk_43_method_13_code 32 = .ok (.iconst 1, 1) := by decide +kernel
theorem d9_33 : decode jdk_43_method_13_code 33 = .ok (.ireturn, 1) := by decide +kernel
theorem d9_34 : decode jdk_43_method_13_code 34 = .ok (.iconst 0, 1) := by decide +kernel
theorem d9_35 : decode jdk_43_method_13_code 35 = .ok (.ireturn, 1) := by decide +kernel
theorem pl9 : plainFor (⟨"java/lang/StringLatin1", "equals", "([B[B)Z"⟩ : MethodName) = true := by first | exact plainFor_of_name (by first | (simp [plainName, overriddenIn]; done) | decide +kernel) | decide +kernel
theorem d10_0 : decode jdk_42_method_139_code 0 = .ok (.getstatic 38, 3) := by decide +kernel
theorem d10_3 : decode jdk_42_method_139_code 3 = .ok (.ifCond .eq 23, 3) := by decide +kernel
theorem d10_6 : decode jdk_42_method_139_code 6 = .ok (.iload_n 0, 1) := by decide +kernel
theorem d10_7 : decode jdk_42_method_139_code 7 = .ok (.invokestatic 1015, 3) := by decide +kernel
theorem d10_10 : decode jdk_42_method_139_code 10 = .ok (.ifCond .eq 16, 3) := by decide +kernel
theorem d10_13 : decode jdk_42_method_139_code 13 = .ok (.new 10, 3) := by decide +kernel
theorem d10_16 : decode jdk_42_method_139_code 16 = .ok (.dup, 1) := by decide +kernel
theorem d10_17 : decode jdk_42_method_139_code 17 = .ok (.iload_n 0, 1) := by decide +kernel
theorem d10_18 : decode jdk_42_method_139_code 18 = .ok (.invokestatic 1018, 3) := by decide +kernel
theorem d10_21 : decode jdk_42_method_139_code 21 = .ok (.iconst 0, 1) := by decide +kernel
theorem d10_22 : decode jdk_42_method_139_code 22 = .ok (.invokespecial 209, 3) := by decide +kernel
theorem d10_25 : decode jdk_42_method_139_code 25 = .ok (.areturn, 1) := by decide +kernel
theorem d10_26 : decode jdk_42_method_139_code 26 = .ok (.new 10, 3) := by decide +kernel
theorem d10_29 : decode jdk_42_method_139_code 29 = .ok (.dup, 1) := by decide +kernel
theorem d10_30 : decode jdk_42_method_139_code 30 = .ok (.iload_n 0, 1) := by decide +kernel
theorem d10_31 : decode jdk_42_method_139_code 31 = .ok (.invokestatic 1021, 3) := by decide +kernel
theorem d10_34 : decode jdk_42_method_139_code 34 = .ok (.iconst 1, 1) := by decide +kernel
theorem d10_35 : decode jdk_42_method_139_code 35 = .ok (.invokespecial 209, 3) := by decide +kernel
theorem d10_38 : decode jdk_42_method_139_code 38 = .ok (.areturn, 1) := by decide +kernel
theorem pl10 : plainFor (⟨"java/lang/String", "valueOf", "(C)Ljava/lang/String;"⟩ : MethodName) = true := by first | exact plainFor_of_name (by first | (simp [plainName, overriddenIn]; done) | decide +kernel) | decide +kernel
theorem d11_0 : decode jdk_43_method_3_code 0 = .ok (.iload_n 0, 1) := by decide +kernel
theorem d11_1 : decode jdk_43_method_3_code 1 = .ok (.sipush 255, 3) := by decide +kernel
theorem d11_4 : decode jdk_43_method_3_code 4 = .ok (.if_icmp .gt 7, 3) := by decide +kernel
theorem d11_7 : decode jdk_43_method_3_code 7 = .ok (.iconst 1, 1) := by decide +kernel
theorem d11_8 : decode jdk_43_method_3_code 8 = .ok (.goto 4, 3) := by decide +kernel
theorem d11_11 : decode jdk_43_method_3_code 11 = .ok (.iconst 0, 1) := by decide +kernel
theorem d11_12 : decode jdk_43_method_3_code 12 = .ok (.ireturn, 1) := by decide +kernel
theorem pl11 : plainFor (⟨"java/lang/StringLatin1", "canEncode", "(C)Z"⟩ : MethodName) = true := by first | exact plainFor_of_name (by first | (simp [plainName, overriddenIn]; done) | decide +kernel) | decide +kernel
theorem d12_0 : decode jdk_43_method_46_code 0 = .ok (.iconst 1, 1) := by decide +kernel
theorem d12_1 : decode jdk_43_method_46_code 1 = .ok (.newarray .byte, 2) := by decide +kernel
theorem d12_3 : decode jdk_43_method_46_code 3 = .ok (.dup, 1) := by decide +kernel
theorem d12_4 : decode jdk_43_method_46_code 4 = .ok (.iconst 0, 1) := by decide +kernel
theorem d12_5 : decode jdk_43_method_46_code 5 = .ok (.iload_n 0, 1) := by decide +kernel
theorem d12_6 : decode jdk_43_method_46_code 6 = .ok (.i2b, 1) := by decide +kernel
theorem d12_7 : decode jdk_43_method_46_code 7 = .ok (.bastore, 1) := by decide +kernel
theorem d12_8 : decode jdk_43_method_46_code 8 = .ok (.areturn, 1) := by decide +kernel
theorem pl12 : plainFor (⟨"java/lang/StringLatin1", "toBytes", "(C)[B"⟩ : MethodName) = true := by first | exact plainFor_of_name (by first | (simp [plainName, overriddenIn]; done) | decide +kernel) | decide +kernel
theorem d13_0 : decode jdk_42_method_151_code 0 = .ok (.aload_n 0, 1) := by decide +kernel
theorem d13_1 : decode jdk_42_method_151_code 1 = .ok (.invokespecial 1, 3) := by decide +kernel
theorem d13_4 : decode jdk_42_method_151_code 4 = .ok (.aload_n 0, 1) := by decide +kernel
theorem d13_5 : decode jdk_42_method_151_code 5 = .ok (.aload_n 1, 1) := by decide +kernel
theorem d13_6 : decode jdk_42_method_151_code 6 = .ok (.putfield 9, 3) := by decide +kernel
theorem d13_9 : decode jdk_42_method_151_code 9 = .ok (.aload_n 0, 1) := by decide +kernel
theorem d13_10 : decode jdk_42_method_151_code 10 = .ok (.iload_n 2, 1) := by decide +kernel
theorem d13_11 : decode jdk_42_method_151_code 11 = .ok (.putfield 15, 3) := by decide +kernel
theorem d13_14 : decode jdk_42_method_151_code 14 = .ok (.return_, 1) := by decide +kernel
theorem pl13 : plainFor (⟨"java/lang/String", "<init>", "([BB)V"⟩ : MethodName) = true := by first | exact plainFor_of_name (by first | (simp [plainName, overriddenIn]; done) | decide +kernel) | decide +kernel
theorem pl0 : plainFor x = true := by first | exact plainFor_of_name (by first | (simp [plainName, overriddenIn]; done) | decide +kernel) | decide +kernel
theorem pds1 : parseMethodDescriptor "([CI[BII)I" = some ⟨[(.array .char), .int, (.array .byte), .int, .int], some .int⟩ := by decide +kernel
theorem pds2 : parseMethodDescriptor "([CII)[B" = some ⟨[(.array .char), .int, .int], some (.array .byte)⟩ := by decide +kernel
theorem pds3 : parseMethodDescriptor "([BI)B" = some ⟨[(.array .byte), .int], some .byte⟩ := by decide +kernel
theorem pds4 : parseMethodDescriptor "([CIILjava/lang/Void;)V" = some ⟨[(.array .char), .int, .int, (.object "java/lang/Void")], none⟩ := by decide +kernel
theorem pds5 : parseMethodDescriptor "([C)V" = some ⟨[(.array .char)], none⟩ := by decide +kernel
theorem pd1 : parseMethodDescriptor "(II)Ljava/lang/String;" = some ⟨[.int, .int], some (.object "java/lang/String")⟩ := by decide +kernel
theorem pd2 : parseMethodDescriptor "(I)Lcom/example/leading/leading/Direction;" = some ⟨[.int], some (.object "com/example/leading/leading/Direction")⟩ := by decide +kernel
theorem pd3 : parseMethodDescriptor "(DDDD)V" = some ⟨[.double, .double, .double, .double], none⟩ := by decide +kernel
theorem pd4 : parseMethodDescriptor "()V" = some ⟨[], none⟩ := by decide +kernel
theorem pd5 : parseMethodDescriptor "(Ljava/lang/String;Lcom/example/leading/leading/Box;DLcom/example/leading/leading/Direction;)V" = some ⟨[(.object "java/lang/String"), (.object "com/example/leading/leading/Box"), .double, (.object "com/example/leading/leading/Direction")], none⟩ := by decide +kernel
theorem pd6 : parseMethodDescriptor "()Z" = some ⟨[], some .boolean⟩ := by decide +kernel
theorem pd7 : parseMethodDescriptor "()Z" = some ⟨[], some .boolean⟩ := by decide +kernel
theorem pd8 : parseMethodDescriptor "(Ljava/lang/Object;)Z" = some ⟨[(.object "java/lang/Object")], some .boolean⟩ := by decide +kernel
theorem pd9 : parseMethodDescriptor "([B[B)Z" = some ⟨[(.array .byte), (.array .byte)], some .boolean⟩ := by decide +kernel
theorem pd10 : parseMethodDescriptor "(C)Ljava/lang/String;" = some ⟨[.char], some (.object "java/lang/String")⟩ := by decide +kernel
theorem pd11 : parseMethodDescriptor "(C)Z" = some ⟨[.char], some .boolean⟩ := by decide +kernel
theorem pd12 : parseMethodDescriptor "(C)[B" = some ⟨[.char], some (.array .byte)⟩ := by decide +kernel
theorem pd13 : parseMethodDescriptor "([BB)V" = some ⟨[(.array .byte), .byte], none⟩ := by decide +kernel
def Qcmp5_2 (Z : State) (d : Addr) (kd : ClassId) (c0 c1 : Int32) (h0 : Heap) (n0 : Nat) (v : Option Value) (h : Heap) (L : List Loc) : Prop := v = some (.int (2 : Int32)) ∧ Keep h0 h [d] ∧ Fr n0 L ∧ Arv Z h d kd .byte (2 : Int32) [(.int (nar .byte c0.toInt8.toInt32)), (.int (nar .byte c1.toInt8.toInt32))] (.int (0 : Int32))
set_option maxRecDepth 65536 in
set_option maxHeartbeats 4000000 in
theorem c_cmp5_2 (l : Launch) (Z : State) (a0 : Array Value) (hw : ∀ d ∈ tables_1, d.before a0 Z = true) (b d : Addr) (kb kd : ClassId) (c0 c1 : Int32) (hc0 : ¬ (255 : Int32) < c0) (hc1 : ¬ (255 : Int32) < c1) (h0 : Heap) (n0 : Nat) (gd : n0 ≤ d) (nbd : b ≠ d) (V_b : Arv Z h0 b kb .char (2 : Int32) [(.int c0), (.int c1)] (.int (0 : Int32))) (V_d : Arv Z h0 d kd .byte (2 : Int32) [(.int (0 : Int32)), (.int (0 : Int32))] (.int (0 : Int32))) : own_M l (⟨"java/lang/StringUTF16", "compress", "([CI[BII)I"⟩ : MethodName) jdk_52_method_21_code 7 (some .int) [] ({ frames := 0, cells := 0, slots := 0, locals := 0 } : Room) Z #[.ref b, .int (0 : Int32), .ref d, .int (0 : Int32), .int (2 : Int32)] h0 (Qcmp5_2 Z d kd c0 c1 h0 n0) := by
  refine own_met pls1 (Lf := #[.val (.ref b), .val (.int (0 : Int32)), .val (.ref d), .val (.int (0 : Int32)), .val (.int (2 : Int32)), .unset, .unset]) (fun m => by first | (simp [entryFrame, mkF, argsToLocals, Value.category]; done) | rfl) ?_
  intro p e s m below meth c T Y
  have Kp := Keep.refl h0 [d]
  have N := Fr.nil n0
  refine own_iconst 1 Y (0 : Int32) ds1_0 rfl rfl ?_
  refine own_istore 3 Y #[.val (.ref b), .val (.int (0 : Int32)), .val (.ref d), .val (.int (0 : Int32)), .val (.int (2 : Int32)), .val (.int (0 : Int32)), .unset] ds1_1 rfl rfl ?_
  refine own_iload 5 Y ds1_3 rfl rfl ?_
  refine own_iload 7 Y ds1_5 rfl rfl ?_
  refine own_icF 10 Y ds1_7 (XT.ii_ge_f (by decide)) rfl ?_
  refine own_aloadN 11 Y ds1_10 rfl rfl rfl ?_
  refine own_iloadN 12 Y ds1_11 rfl rfl ?_
  refine own_caload 13 Y V_b ds1_12 ⟨by decide, by decide⟩ rfl rfl ?_
  refine own_istore 15 Y #[.val (.ref b), .val (.int (0 : Int32)), .val (.ref d), .val (.int (0 : Int32)), .val (.int (2 : Int32)), .val (.int (0 : Int32)), .val (.int c0)] ds1_13 rfl rfl ?_
  refine own_iload 17 Y ds1_15 rfl rfl ?_
  refine own_sipush 20 Y (255 : Int32) ds1_17 rfl rfl ?_
  refine own_icT 26 Y ds1_20 (XT.ii_le_t hc0) (by decide) ?_
  refine own_aloadN 27 Y ds1_26 rfl rfl rfl ?_
  refine own_iloadN 28 Y ds1_27 rfl rfl ?_
  refine own_iload 30 Y ds1_28 rfl rfl ?_
  refine own_i2b 31 Y ds1_30 rfl ?_
  refine own_stB 32 Y V_d ds1_31 ⟨by decide, by decide⟩ rfl fun T1 h1 Y1 W1 A1 => ?_
  have V_b := V_b.other W1 nbd
  have Kp := Kp.wr W1 (Or.inl (List.mem_of_getElem? (i := 0) rfl))
  have N := own_frY Y1 N gd
  have V_d : Arv Z h1 d kd .byte (2 : Int32) [(.int (nar .byte c0.toInt8.toInt32)), (.int (0 : Int32))] (.int (0 : Int32)) := A1 0 rfl (Nat.le_of_ble_eq_true rfl) (fits_nar_byte _)
  refine own_iinc 35 Y1 #[.val (.ref b), .val (.int (1 : Int32)), .val (.ref d), .val (.int (0 : Int32)), .val (.int (2 : Int32)), .val (.int (0 : Int32)), .val (.int c0)] (1 : Int32) ds1_32 rfl rfl rfl rfl ?_
  refine own_iinc 38 Y1 #[.val (.ref b), .val (.int (1 : Int32)), .val (.ref d), .val (.int (1 : Int32)), .val (.int (2 : Int32)), .val (.int (0 : Int32)), .val (.int c0)] (1 : Int32) ds1_35 rfl rfl rfl rfl ?_
  refine own_iinc 41 Y1 #[.val (.ref b), .val (.int (1 : Int32)), .val (.ref d), .val (.int (1 : Int32)), .val (.int (2 : Int32)), .val (.int (1 : Int32)), .val (.int c0)] (1 : Int32) ds1_38 rfl rfl rfl rfl ?_
  refine own_goto 3 Y1 ds1_41 (by decide) ?_
  refine own_iload 5 Y1 ds1_3 rfl rfl ?_
  refine own_iload 7 Y1 ds1_5 rfl rfl ?_
  refine own_icF 10 Y1 ds1_7 (XT.ii_ge_f (by decide)) rfl ?_
  refine own_aloadN 11 Y1 ds1_10 rfl rfl rfl ?_
  refine own_iloadN 12 Y1 ds1_11 rfl rfl ?_
  refine own_caload 13 Y1 V_b ds1_12 ⟨by decide, by decide⟩ rfl rfl ?_
  refine own_istore 15 Y1 #[.val (.ref b), .val (.int (1 : Int32)), .val (.ref d), .val (.int (1 : Int32)), .val (.int (2 : Int32)), .val (.int (1 : Int32)), .val (.int c1)] ds1_13 rfl rfl ?_
  refine own_iload 17 Y1 ds1_15 rfl rfl ?_
  refine own_sipush 20 Y1 (255 : Int32) ds1_17 rfl rfl ?_
  refine own_icT 26 Y1 ds1_20 (XT.ii_le_t hc1) (by decide) ?_
  refine own_aloadN 27 Y1 ds1_26 rfl rfl rfl ?_
  refine own_iloadN 28 Y1 ds1_27 rfl rfl ?_
  refine own_iload 30 Y1 ds1_28 rfl rfl ?_
  refine own_i2b 31 Y1 ds1_30 rfl ?_
  refine own_stB 32 Y1 V_d ds1_31 ⟨by decide, by decide⟩ rfl fun T2 h2 Y2 W2 A2 => ?_
  have V_b := V_b.other W2 nbd
  have Kp := Kp.wr W2 (Or.inl (List.mem_of_getElem? (i := 0) rfl))
  have N := own_frY Y2 N gd
  have V_d : Arv Z h2 d kd .byte (2 : Int32) [(.int (nar .byte c0.toInt8.toInt32)), (.int (nar .byte c1.toInt8.toInt32))] (.int (0 : Int32)) := A2 1 rfl (Nat.le_of_ble_eq_true rfl) (fits_nar_byte _)
  refine own_iinc 35 Y2 #[.val (.ref b), .val (.int (2 : Int32)), .val (.ref d), .val (.int (1 : Int32)), .val (.int (2 : Int32)), .val (.int (1 : Int32)), .val (.int c1)] (1 : Int32) ds1_32 rfl rfl rfl rfl ?_
  refine own_iinc 38 Y2 #[.val (.ref b), .val (.int (2 : Int32)), .val (.ref d), .val (.int (2 : Int32)), .val (.int (2 : Int32)), .val (.int (1 : Int32)), .val (.int c1)] (1 : Int32) ds1_35 rfl rfl rfl rfl ?_
  refine own_iinc 41 Y2 #[.val (.ref b), .val (.int (2 : Int32)), .val (.ref d), .val (.int (2 : Int32)), .val (.int (2 : Int32)), .val (.int (2 : Int32)), .val (.int c1)] (1 : Int32) ds1_38 rfl rfl rfl rfl ?_
  refine own_goto 3 Y2 ds1_41 (by decide) ?_
  refine own_iload 5 Y2 ds1_3 rfl rfl ?_
  refine own_iload 7 Y2 ds1_5 rfl rfl ?_
  refine own_icT 44 Y2 ds1_7 (XT.ii_ge_t (by decide)) (by decide) ?_
  refine own_iload 46 Y2 ds1_44 rfl rfl ?_
  exact own_retI Y2 rfl ds1_46 (by decide) (by decide) ⟨rfl, Kp, N, V_d⟩
def Qcmp3_2 (Z : State) (c0 c1 : Int32) (h0 : Heap) (n0 : Nat) (v : Option Value) (h : Heap) (L : List Loc) : Prop := ∃ (d : Addr) (kd : ClassId), v = some (.ref d) ∧ h0.size ≤ d ∧ Keep h0 h [] ∧ Fr n0 L ∧ Arv Z h d kd .byte (2 : Int32) [(.int (nar .byte c0.toInt8.toInt32)), (.int (nar .byte c1.toInt8.toInt32))] (.int (0 : Int32))
set_option maxRecDepth 65536 in
set_option maxHeartbeats 4000000 in
theorem c_cmp3_2 (l : Launch) (Z : State) (a0 : Array Value) (hw : ∀ d ∈ tables_1, d.before a0 Z = true) (b : Addr) (kb : ClassId) (c0 c1 : Int32) (hc0 : ¬ (255 : Int32) < c0) (hc1 : ¬ (255 : Int32) < c1) (h0 : Heap) (n0 : Nat) (Zs : n0 ≤ h0.size) (V_b : Arv Z h0 b kb .char (2 : Int32) [(.int c0), (.int c1)] (.int (0 : Int32))) : own_M l (⟨"java/lang/StringUTF16", "compress", "([CII)[B"⟩ : MethodName) jdk_52_method_16_code 6 (some (.array .byte)) [] ({ frames := 1, cells := 1, slots := 2, locals := 18 } : Room) Z #[.ref b, .int (0 : Int32), .int (2 : Int32)] h0 (Qcmp3_2 Z c0 c1 h0 n0) := by
  refine own_met pls2 (Lf := #[.val (.ref b), .val (.int (0 : Int32)), .val (.int (2 : Int32)), .unset, .unset, .unset]) (fun m => by first | (simp [entryFrame, mkF, argsToLocals, Value.category]; done) | rfl) ?_
  intro p e s m below meth c T Y
  have Kp := Keep.refl h0 []
  have N := Fr.nil n0
  refine own_iloadN 1 Y ds2_0 rfl rfl ?_
  refine own_newP 3 Y (own_wd hw 61 rfl) 2 ds2_1 (by decide) (by decide) (by decide) (by decide) (by decide) rfl fun T1 h1 d k_d Y1 g_d E1 V_d => ?_
  have ne_b_d : b ≠ d := by rw [g_d]; exact Nat.ne_of_lt V_b.lt
  have gk_d := Nat.le_trans Kp.1 (Nat.le_of_eq g_d.symm)
  have gn_d : n0 ≤ d := by rw [g_d]; exact Zs
  have V_b := V_b.ext E1
  have Kp := Kp.ext E1
  have Zs := Nat.le_trans Zs E1.1
  have V_d : Arv Z h1 d k_d .byte (2 : Int32) [(.int (0 : Int32)), (.int (0 : Int32))] (.int (0 : Int32)) := V_d.pad (pad_rep [] _ 2)
  refine own_astoreN 4 Y1 #[.val (.ref b), .val (.int (0 : Int32)), .val (.int (2 : Int32)), .val (.ref d), .unset, .unset] ds2_3 rfl rfl rfl ?_
  refine own_aloadN 5 Y1 ds2_4 rfl rfl rfl ?_
  refine own_iloadN 6 Y1 ds2_5 rfl rfl ?_
  refine own_aloadN 7 Y1 ds2_6 rfl rfl rfl ?_
  refine own_iconst 8 Y1 (0 : Int32) ds2_7 rfl rfl ?_
  refine own_iloadN 9 Y1 ds2_8 rfl rfl ?_
  refine own_callS 12 Y1 [(.ref b), (.int (0 : Int32)), (.ref d), (.int (0 : Int32)), (.int (2 : Int32))] [] (own_wd hw 98 rfl) (own_wd hw 99 rfl) (own_wd hw 96 rfl) (own_wd hw 100 rfl) (c_cmp5_2 l Z a0 hw b d kb k_d c0 c1 hc0 hc1 _ n0 gn_d ne_b_d V_b V_d) ds2_9 (by decide) (lenOf pds1 rfl) rfl rfl (by decide) (Nat.le_of_ble_eq_true rfl) (by decide) (by decide) rfl fun v2 T2 h2 L2 Y2 hQ2 => ?_
  obtain ⟨rfl, K2, N2, G2⟩ := hQ2
  have V_b := V_b.keep K2 (ninS ne_b_d nin0)
  have Kp := Kp.trans K2 (allS (Or.inr gk_d) all0)
  have N := N.app N2
  have Zs := Nat.le_trans Zs K2.1
  have V_d := G2
  show own_G p e below _ (T2.setTop (mkF m 12 #[.val (.ref b), .val (.int (0 : Int32)), .val (.int (2 : Int32)), .val (.ref d), .unset, .unset] [(.int (2 : Int32))]))
  refine own_istore 14 Y2 #[.val (.ref b), .val (.int (0 : Int32)), .val (.int (2 : Int32)), .val (.ref d), .val (.int (2 : Int32)), .unset] ds2_12 rfl rfl ?_
  refine own_iload 16 Y2 ds2_14 rfl rfl ?_
  refine own_iloadN 17 Y2 ds2_16 rfl rfl ?_
  refine own_icT 57 Y2 ds2_17 (XT.ii_eq_t (by decide)) (by decide) ?_
  refine own_aloadN 58 Y2 ds2_57 rfl rfl rfl ?_
  exact own_retA Y2 rfl rfl rfl ds2_58 (by decide) (by decide) ⟨d, k_d, rfl, gk_d, Kp, N, V_d⟩
set_option maxRecDepth 65536 in
set_option maxHeartbeats 4000000 in
theorem c_codl_2 (l : Launch) (Z : State) (a0 : Array Value) (hw : ∀ d ∈ tables_1, d.before a0 Z = true) (d : Addr) (kd : ClassId) (vs : List Value) (h0 : Heap) (V_d : Arv Z h0 d kd .byte (2 : Int32) vs (.int (0 : Int32))) : own_M l (⟨"java/lang/StringUTF16", "coderFromArrayLen", "([BI)B"⟩ : MethodName) jdk_52_method_15_code 2 (some .byte) [] ({ frames := 0, cells := 0, slots := 0, locals := 0 } : Room) Z #[.ref d, .int (2 : Int32)] h0 (Qv (some (.int (0 : Int32))) h0) := by
  refine own_met pls3 (Lf := #[.val (.ref d), .val (.int (2 : Int32))]) (fun m => by first | (simp [entryFrame, mkF, argsToLocals, Value.category]; done) | rfl) ?_
  intro p e s m below meth c T Y
  refine own_iloadN 1 Y ds3_0 rfl rfl ?_
  refine own_aloadN 2 Y ds3_1 rfl rfl rfl ?_
  refine own_alen 3 Y V_d ds3_2 rfl ?_
  refine own_isub 4 Y ds3_3 rfl ?_
  show own_G p e below _ (State.setTop _ (mkF m 4 #[.val (.ref d), .val (.int (2 : Int32))] [(.int (0 : Int32))]))
  refine own_bipush 6 Y (31 : Int32) ds3_4 rfl rfl ?_
  refine own_iushr 7 Y ds3_6 rfl ?_
  refine own_i2b 8 Y ds3_7 rfl ?_
  exact own_retN Y (t := .byte) rfl (by simp) ds3_8 (by decide) (by decide) ⟨rfl, rfl, rfl⟩
def Qnew_2 (Z : State) (a : Addr) (c0 c1 : Int32) (h0 : Heap) (n0 : Nat) (v : Option Value) (h : Heap) (L : List Loc) : Prop := v = none ∧ Keep h0 h [a] ∧ Fr n0 L ∧ Exa Z h a "java/lang/String" ∧ ∃ (d : Addr) (kd : ClassId), h0.size ≤ d ∧ Fld Z h a "java/lang/String" "value" "[B" (.ref d) ∧ Fld Z h a "java/lang/String" "coder" "B" (.int (0 : Int32)) ∧ Arv Z h d kd .byte (2 : Int32) [(.int (nar .byte c0.toInt8.toInt32)), (.int (nar .byte c1.toInt8.toInt32))] (.int (0 : Int32))
set_option maxRecDepth 65536 in
set_option maxHeartbeats 4000000 in
theorem c_new4_2 (l : Launch) (Z : State) (a0 : Array Value) (hw : ∀ d ∈ tables_1, d.before a0 Z = true) (a b : Addr) (kb : ClassId) (c0 c1 : Int32) (hc0 : ¬ (255 : Int32) < c0) (hc1 : ¬ (255 : Int32) < c1) (z : Int32) (h0 : Heap) (n0 : Nat) (Zs : n0 ≤ h0.size) (ga : n0 ≤ a) (nab : a ≠ b) (O : Old Z n0 h0) (Sc : Sta Z Z.heap "java/lang/String" "COMPACT_STRINGS" "Z" (.int z)) (hz : ¬ z = 0) (u1 u2 : Value) (X_a : Exa Z h0 a "java/lang/String") (F_a_value : Fld Z h0 a "java/lang/String" "value" "[B" u1) (F_a_coder : Fld Z h0 a "java/lang/String" "coder" "B" u2) (V_b : Arv Z h0 b kb .char (2 : Int32) [(.int c0), (.int c1)] (.int (0 : Int32))) : own_M l (⟨"java/lang/String", "<init>", "([CIILjava/lang/Void;)V"⟩ : MethodName) jdk_42_method_149_code 6 none [] ({ frames := 2, cells := 1, slots := 2, locals := 36 } : Room) Z #[.ref a, .ref b, .int (0 : Int32), .int (2 : Int32), .null] h0 (Qnew_2 Z a c0 c1 h0 n0) := by
  refine own_met pls4 (Lf := #[.val (.ref a), .val (.ref b), .val (.int (0 : Int32)), .val (.int (2 : Int32)), .val .null, .unset]) (fun m => by first | (simp [entryFrame, mkF, argsToLocals, Value.category]; done) | rfl) ?_
  intro p e s m below meth c T Y
  have Kp := Keep.refl h0 [a]
  have N := Fr.nil n0
  refine own_aloadN 1 Y ds4_0 rfl rfl rfl ?_
  refine own_initO 4 Y (own_wd hw 82 rfl) (own_wd hw 22 rfl) (own_wd hw 23 rfl) ds4_1 rfl (by decide) (by decide) rfl fun T2 Y1 => ?_
  refine own_iloadN 5 Y1 ds4_4 rfl rfl ?_
  refine own_ifT 27 Y1 ds4_5 (XT.i0_ne_t (by decide)) (by decide) ?_
  refine own_getS 30 Y1 (host := "") (Or.inl (own_wd hw 89 rfl)) Via.refl (Sc.ext O.2) ds4_27 rfl fun T4 Y3 => ?_
  refine own_ifF 33 Y3 ds4_30 (XT.i0_eq_f hz) rfl ?_
  refine own_aloadN 34 Y3 ds4_33 rfl rfl rfl ?_
  refine own_iloadN 35 Y3 ds4_34 rfl rfl ?_
  refine own_iloadN 36 Y3 ds4_35 rfl rfl ?_
  refine own_callS 39 Y3 [(.ref b), (.int (0 : Int32)), (.int (2 : Int32))] [] (own_wd hw 94 rfl) (own_wd hw 95 rfl) (own_wd hw 96 rfl) (own_wd hw 97 rfl) (c_cmp3_2 l Z a0 hw b kb c0 c1 hc0 hc1 _ n0 Zs V_b) ds4_36 (by decide) (lenOf pds2 rfl) rfl rfl (by decide) (Nat.le_of_ble_eq_true rfl) (by decide) (by decide) rfl fun v5 T5 h5 L5 Y5 hQ5 => ?_
  obtain ⟨d, kd, rfl, gk_d, K5, N5, V_d⟩ := hQ5
  have gn_d := Nat.le_trans Zs gk_d
  have ne_a_d : a ≠ d := Nat.ne_of_lt (Nat.lt_of_lt_of_le X_a.lt gk_d)
  have X_a := X_a.keep K5
  have F_a_value := F_a_value.keep K5 nin0
  have F_a_coder := F_a_coder.keep K5 nin0
  have V_b := V_b.keep K5 nin0
  have Kp := Kp.trans K5 all0
  have N := N.app N5
  have Zs := Nat.le_trans Zs K5.1
  have O := O.keep K5 all0
  show own_G p e below _ (T5.setTop (mkF m 39 #[.val (.ref a), .val (.ref b), .val (.int (0 : Int32)), .val (.int (2 : Int32)), .val .null, .unset] [(.ref d)]))
  refine own_astore 41 Y5 #[.val (.ref a), .val (.ref b), .val (.int (0 : Int32)), .val (.int (2 : Int32)), .val .null, .val (.ref d)] ds4_39 rfl rfl rfl ?_
  refine own_aloadN 42 Y5 ds4_41 rfl rfl rfl ?_
  refine own_aload 44 Y5 ds4_42 rfl rfl rfl ?_
  refine own_iloadN 45 Y5 ds4_44 rfl rfl ?_
  refine own_callS 48 Y5 [(.ref d), (.int (2 : Int32))] [(.ref a)] (own_wd hw 101 rfl) (own_wd hw 102 rfl) (own_wd hw 96 rfl) (own_wd hw 103 rfl) (c_codl_2 l Z a0 hw d kd _ _ V_d) ds4_45 (by decide) (lenOf pds3 rfl) rfl rfl (by decide) (Nat.le_of_ble_eq_true rfl) (by decide) (by decide) rfl fun v6 T6 h6 L6 Y6 hQ6 => ?_
  obtain ⟨rfl, rfl, rfl⟩ := hQ6
  have N := N.app (Fr.nil n0)
  show own_G p e below _ (T6.setTop (mkF m 48 #[.val (.ref a), .val (.ref b), .val (.int (0 : Int32)), .val (.int (2 : Int32)), .val .null, .val (.ref d)] [(.int (0 : Int32)), (.ref a)]))
  refine own_putFN 51 Y6 (own_wd hw 85 rfl) Via.refl F_a_coder X_a (Or.inr ⟨(own_wd hw 63 rfl), rfl, rfl⟩) (own_wd hw 60 rfl) (ty := .byte) (v' := (.int (0 : Int32))) (by decide) rfl rfl ds4_48 rfl fun T7 h7 Y7 W7 => ?_
  have X_a := X_a.wr W7
  have F_a_value := F_a_value.other W7 (Or.inr (slot_ne (Or.inr (own_wd hw 62 rfl)) (Or.inr (own_wd hw 63 rfl)) (by decide) (t := (.array .byte)) (t' := .byte) (by decide) (by decide)))
  have F_a_coder := F_a_coder.same W7
  have V_b := V_b.other W7 (Ne.symm nab)
  have Kp := Kp.wr W7 (Or.inl (List.mem_of_getElem? (i := 0) rfl))
  have N := own_frY Y7 N ga
  have Zs := Nat.le_trans Zs (Nat.le_of_eq W7.size.symm)
  have O := O.wr W7 ga
  have V_d := V_d.other W7 (Ne.symm ne_a_d)
  refine own_aloadN 52 Y7 ds4_51 rfl rfl rfl ?_
  refine own_aload 54 Y7 ds4_52 rfl rfl rfl ?_
  refine own_putF 57 Y7 (host := "") (Or.inl (own_wd hw 84 rfl)) Via.refl F_a_value X_a (Or.inr ⟨(own_wd hw 62 rfl), rfl, rfl⟩) (own_wd hw 60 rfl) (ty := (.array .byte)) (by decide) rfl rfl ds4_54 rfl fun T8 h8 Y8 W8 => ?_
  have X_a := X_a.wr W8
  have F_a_value := F_a_value.same W8
  have F_a_coder := F_a_coder.other W8 (Or.inr (slot_ne (Or.inr (own_wd hw 63 rfl)) (Or.inr (own_wd hw 62 rfl)) (by decide) (t := .byte) (t' := (.array .byte)) (by decide) (by decide)))
  have V_b := V_b.other W8 (Ne.symm nab)
  have Kp := Kp.wr W8 (Or.inl (List.mem_of_getElem? (i := 0) rfl))
  have N := own_frY Y8 N ga
  have Zs := Nat.le_trans Zs (Nat.le_of_eq W8.size.symm)
  have O := O.wr W8 ga
  have V_d := V_d.other W8 (Ne.symm ne_a_d)
  exact own_retV Y8 rfl ds4_57 (by decide) (by decide) ⟨rfl, Kp, N, X_a, d, kd, gk_d, F_a_value, F_a_coder, V_d⟩
set_option maxRecDepth 65536 in
set_option maxHeartbeats 4000000 in
theorem c_new1_2 (l : Launch) (Z : State) (a0 : Array Value) (hw : ∀ d ∈ tables_1, d.before a0 Z = true) (a b : Addr) (kb : ClassId) (c0 c1 : Int32) (hc0 : ¬ (255 : Int32) < c0) (hc1 : ¬ (255 : Int32) < c1) (z : Int32) (h0 : Heap) (n0 : Nat) (Zs : n0 ≤ h0.size) (ga : n0 ≤ a) (nab : a ≠ b) (O : Old Z n0 h0) (Sc : Sta Z Z.heap "java/lang/String" "COMPACT_STRINGS" "Z" (.int z)) (hz : ¬ z = 0) (u1 u2 : Value) (X_a : Exa Z h0 a "java/lang/String") (F_a_value : Fld Z h0 a "java/lang/String" "value" "[B" u1) (F_a_coder : Fld Z h0 a "java/lang/String" "coder" "B" u2) (V_b : Arv Z h0 b kb .char (2 : Int32) [(.int c0), (.int c1)] (.int (0 : Int32))) : own_M l (⟨"java/lang/String", "<init>", "([C)V"⟩ : MethodName) jdk_42_method_3_code 2 none [] ({ frames := 3, cells := 1, slots := 2, locals := 60 } : Room) Z #[.ref a, .ref b] h0 (Qnew_2 Z a c0 c1 h0 n0) := by
  refine own_met pls5 (Lf := #[.val (.ref a), .val (.ref b)]) (fun m => by first | (simp [entryFrame, mkF, argsToLocals, Value.category]; done) | rfl) ?_
  intro p e s m below meth c T Y
  refine own_aloadN 1 Y ds5_0 rfl rfl rfl ?_
  refine own_aloadN 2 Y ds5_1 rfl rfl rfl ?_
  refine own_iconst 3 Y (0 : Int32) ds5_2 rfl rfl ?_
  refine own_aloadN 4 Y ds5_3 rfl rfl rfl ?_
  refine own_alen 5 Y V_b ds5_4 rfl ?_
  refine own_aconst_null 6 Y ds5_5 rfl ?_
  refine own_callI 9 Y [(.ref b), (.int (0 : Int32)), (.int (2 : Int32)), .null] [] rfl (own_wd hw 78 rfl) (own_wd hw 79 rfl) (own_wd hw 59 rfl) (own_wd hw 81 rfl) (c_new4_2 l Z a0 hw a b kb c0 c1 hc0 hc1 z _ n0 Zs ga nab O Sc hz _ _ X_a F_a_value F_a_coder V_b) ds5_6 (by decide) (lenOf pds4 rfl) rfl rfl (by decide) (Nat.le_of_ble_eq_true rfl) (by decide) (by decide) rfl fun v1 T1 h1 L1 Y1 hQ1 => ?_
  obtain ⟨rfl, K1, N1, R1⟩ := hQ1
  have N := (Fr.nil n0).app N1
  show own_G p e below _ (T1.setTop (mkF m 9 #[.val (.ref a), .val (.ref b)] []))
  exact own_retV Y1 rfl ds5_9 (by decide) (by decide) ⟨rfl, K1, N, R1⟩
def Qnew_0 (Z : State) (a : Addr) (h0 : Heap) (n0 : Nat) (v : Option Value) (h : Heap) (L : List Loc) : Prop := v = none ∧ Keep h0 h [a] ∧ Fr n0 L ∧ Exa Z h a "java/lang/String" ∧ ∃ (d : Addr) (kd : ClassId), Fld Z h a "java/lang/String" "value" "[B" (.ref d) ∧ Fld Z h a "java/lang/String" "coder" "B" (.int (0 : Int32)) ∧ Arv Z h d kd .byte (0 : Int32) [] (.int 0)
set_option maxRecDepth 65536 in
set_option maxHeartbeats 4000000 in
theorem c_new4_0 (l : Launch) (Z : State) (a0 : Array Value) (hw : ∀ d ∈ tables_1, d.before a0 Z = true) (a b : Addr) (h0 : Heap) (n0 : Nat) (ga : n0 ≤ a) (u2 : Value) (X_a : Exa Z h0 a "java/lang/String") (F_a_value : Fld Z h0 a "java/lang/String" "value" "[B" .null) (F_a_coder : Fld Z h0 a "java/lang/String" "coder" "B" u2) : own_MW l (⟨"java/lang/String", "<init>", "([CIILjava/lang/Void;)V"⟩ : MethodName) jdk_42_method_149_code 6 none [] ({ frames := 1, cells := 4, slots := 8, locals := 12 } : Room) Z EL0 #[.ref a, .ref b, .int (0 : Int32), .int (0 : Int32), .null] h0 (Qnew_0 Z a h0 n0) := by
  refine own_metW (own_el hw) pls4 (Lf := #[.val (.ref a), .val (.ref b), .val (.int (0 : Int32)), .val (.int (0 : Int32)), .val .null, .unset]) (fun m => by first | (simp [entryFrame, mkF, argsToLocals, Value.category]; done) | rfl) ?_
  intro p e s m below meth c T Y H _
  have Kp := Keep.refl h0 [a]
  have N := Fr.nil n0
  have sf_a := own_safeN (EL := EL0) Y.warm.alike X_a F_a_value
  refine own_aloadN 1 Y ds4_0 rfl rfl rfl ?_
  refine own_initO 4 Y (own_wd hw 82 rfl) (own_wd hw 22 rfl) (own_wd hw 23 rfl) ds4_1 rfl (by decide) (by decide) rfl fun T2 Y1 => ?_
  refine own_iloadN 5 Y1 ds4_4 rfl rfl ?_
  refine own_ifF 8 Y1 ds4_5 (XT.i0_ne_f (by decide)) rfl ?_
  refine own_aloadN 9 Y1 ds4_8 rfl rfl rfl ?_
  refine own_ldcW 11 Y1 H (own_wd hw 83 rfl) (own_sa hw) (List.mem_of_getElem? (i := 1) rfl) (vs := []) (z := (0 : Int32)) ⟨by decide, by decide⟩ (by decide) (by decide) 0 ds4_9 (by decide) (by decide) (by decide) (by decide) rfl fun T3 h3 vm3 s1 s1_b k_s1_b Y3 H3 C3 E3 X_s1 F_s1_coder F_s1_value V_s1_b hN3 => ?_
  have sf_a := C3.safe X_a.lt sf_a
  have ne_a_s1 := (hN3 a sf_a).1
  have ne_a_s1_b := (hN3 a sf_a).2
  have X_a := X_a.ext E3
  have F_a_value := F_a_value.ext E3
  have F_a_coder := F_a_coder.ext E3
  have Kp := Kp.ext E3
  have H := H3
  refine own_getF 14 Y3 (host := "") (Or.inl (own_wd hw 84 rfl)) Via.refl F_s1_value ds4_11 rfl fun T5 Y4 => ?_
  refine own_putF 17 Y4 (host := "") (Or.inl (own_wd hw 84 rfl)) Via.refl F_a_value X_a (Or.inr ⟨(own_wd hw 62 rfl), rfl, rfl⟩) (own_wd hw 60 rfl) (ty := (.array .byte)) (by decide) rfl rfl ds4_14 rfl fun T6 h6 Y6 W6 => ?_
  have H' := H.wr W6 sf_a
  have sf_a := H.sWr W6 sf_a sf_a
  have H := H'
  have X_a := X_a.wr W6
  have F_a_value := F_a_value.same W6
  have F_a_coder := F_a_coder.other W6 (Or.inr (slot_ne (Or.inr (own_wd hw 63 rfl)) (Or.inr (own_wd hw 62 rfl)) (by decide) (t := .byte) (t' := (.array .byte)) (by decide) (by decide)))
  have Kp := Kp.wr W6 (Or.inl (List.mem_of_getElem? (i := 0) rfl))
  have N := own_frY Y6 N ga
  have X_s1 := X_s1.wr W6
  have F_s1_coder := F_s1_coder.other W6 (Or.inl (Ne.symm ne_a_s1))
  have F_s1_value := F_s1_value.other W6 (Or.inl (Ne.symm ne_a_s1))
  have V_s1_b := V_s1_b.other W6 (Ne.symm ne_a_s1_b)
  refine own_aloadN 18 Y6 ds4_17 rfl rfl rfl ?_
  refine own_ldcW 20 Y6 H (own_wd hw 83 rfl) (own_sa hw) (List.mem_of_getElem? (i := 1) rfl) (vs := []) (z := (0 : Int32)) ⟨by decide, by decide⟩ (by decide) (by decide) 0 ds4_18 (by decide) (by decide) (by decide) (by decide) rfl fun T7 h7 vm7 s2 s2_b k_s2_b Y7 H7 C7 E7 X_s2 F_s2_coder F_s2_value V_s2_b hN7 => ?_
  have sf_a := C7.safe X_a.lt sf_a
  have ne_a_s2 := (hN7 a sf_a).1
  have ne_a_s2_b := (hN7 a sf_a).2
  have X_a := X_a.ext E7
  have F_a_value := F_a_value.ext E7
  have F_a_coder := F_a_coder.ext E7
  have Kp := Kp.ext E7
  have V_s1_b := V_s1_b.ext E7
  have H := H7
  refine own_getF 23 Y7 (host := "") (Or.inl (own_wd hw 85 rfl)) Via.refl F_s2_coder ds4_20 rfl fun T9 Y8 => ?_
  refine own_putFN 26 Y8 (own_wd hw 85 rfl) Via.refl F_a_coder X_a (Or.inr ⟨(own_wd hw 63 rfl), rfl, rfl⟩) (own_wd hw 60 rfl) (ty := .byte) (v' := (.int (0 : Int32))) (by decide) rfl rfl ds4_23 rfl fun T10 h10 Y10 W10 => ?_
  have H' := H.wr W10 sf_a
  have sf_a := H.sWr W10 sf_a sf_a
  have H := H'
  have X_a := X_a.wr W10
  have F_a_value := F_a_value.other W10 (Or.inr (slot_ne (Or.inr (own_wd hw 62 rfl)) (Or.inr (own_wd hw 63 rfl)) (by decide) (t := (.array .byte)) (t' := .byte) (by decide) (by decide)))
  have F_a_coder := F_a_coder.same W10
  have Kp := Kp.wr W10 (Or.inl (List.mem_of_getElem? (i := 0) rfl))
  have N := own_frY Y10 N ga
  have V_s1_b := V_s1_b.other W10 (Ne.symm ne_a_s1_b)
  have X_s2 := X_s2.wr W10
  have F_s2_coder := F_s2_coder.other W10 (Or.inl (Ne.symm ne_a_s2))
  have F_s2_value := F_s2_value.other W10 (Or.inl (Ne.symm ne_a_s2))
  have V_s2_b := V_s2_b.other W10 (Ne.symm ne_a_s2_b)
  exact own_retVW Y10 H rfl ds4_26 (by decide) (by decide) ⟨rfl, Kp, N, X_a, s1_b, k_s1_b, F_a_value, F_a_coder, V_s1_b⟩
set_option maxRecDepth 65536 in
set_option maxHeartbeats 4000000 in
theorem c_new1_0 (l : Launch) (Z : State) (a0 : Array Value) (hw : ∀ d ∈ tables_1, d.before a0 Z = true) (a b : Addr) (h0 : Heap) (n0 : Nat) (ga : n0 ≤ a) (u2 : Value) (X_a : Exa Z h0 a "java/lang/String") (F_a_value : Fld Z h0 a "java/lang/String" "value" "[B" .null) (F_a_coder : Fld Z h0 a "java/lang/String" "coder" "B" u2) (kb : ClassId) (V_b : Arv Z h0 b kb .char (0 : Int32) [] (.int (0 : Int32))) : own_MW l (⟨"java/lang/String", "<init>", "([C)V"⟩ : MethodName) jdk_42_method_3_code 2 none [] ({ frames := 2, cells := 4, slots := 8, locals := 36 } : Room) Z EL0 #[.ref a, .ref b] h0 (Qnew_0 Z a h0 n0) := by
  refine own_metW (own_el hw) pls5 (Lf := #[.val (.ref a), .val (.ref b)]) (fun m => by first | (simp [entryFrame, mkF, argsToLocals, Value.category]; done) | rfl) ?_
  intro p e s m below meth c T Y H _
  refine own_aloadN 1 Y ds5_0 rfl rfl rfl ?_
  refine own_aloadN 2 Y ds5_1 rfl rfl rfl ?_
  refine own_iconst 3 Y (0 : Int32) ds5_2 rfl rfl ?_
  refine own_aloadN 4 Y ds5_3 rfl rfl rfl ?_
  refine own_alen 5 Y V_b ds5_4 rfl ?_
  refine own_aconst_null 6 Y ds5_5 rfl ?_
  refine own_callIW 9 Y H [(.ref b), (.int (0 : Int32)), (.int (0 : Int32)), .null] [] rfl (own_wd hw 78 rfl) (own_wd hw 79 rfl) (own_wd hw 59 rfl) (own_wd hw 81 rfl) (c_new4_0 l Z a0 hw a b _ n0 ga _ X_a F_a_value F_a_coder) ds5_6 (by decide) (lenOf pds4 rfl) rfl rfl (by decide) (Nat.le_of_ble_eq_true rfl) (by decide) (by decide) rfl fun v1 T1 h1 L1 vm1 Y1 H1 C1 hQ1 => ?_
  have H := H1
  obtain ⟨rfl, K1, N1, R1⟩ := hQ1
  have N := (Fr.nil n0).app N1
  show own_G p e below _ (T1.setTop (mkF m 9 #[.val (.ref a), .val (.ref b)] []))
  exact own_retVW Y1 H rfl ds5_9 (by decide) (by decide) ⟨rfl, K1, N, R1⟩
set_option maxRecDepth 65536 in
set_option maxHeartbeats 4000000 in
theorem c_rec (l : Launch) (Z : State) (a0 : Array Value) (hw : ∀ d ∈ tables_1, d.before a0 Z = true) (a : Addr) (h0 : Heap) : own_M l (⟨"java/lang/Record", "<init>", "()V"⟩ : MethodName) jdk_30_method_1_code 1 none [] ({ frames := 1, cells := 0, slots := 0, locals := 12 } : Room) Z #[.ref a] h0 (Qv none h0) := by
  refine own_met pl4 (Lf := #[.val (.ref a)]) (fun m => by first | (simp [entryFrame, mkF, argsToLocals, Value.category]; done) | rfl) ?_
  intro p e s m below meth c T Y
  refine own_aloadN 1 Y d4_0 rfl rfl rfl ?_
  refine own_initO 4 Y (own_wd hw 21 rfl) (own_wd hw 22 rfl) (own_wd hw 23 rfl) d4_1 rfl (by decide) (by decide) rfl fun T2 Y1 => ?_
  exact own_retV Y1 rfl d4_4 (by decide) (by decide) ⟨rfl, rfl, rfl⟩
set_option maxRecDepth 65536 in
set_option maxHeartbeats 4000000 in
theorem c_pick (l : Launch) (Z : State) (a0 : Array Value) (hw : ∀ d ∈ tables_1, d.before a0 Z = true) (n : Int32) (b0 b1 b2 b3 : Addr) (h0 : Heap) (S0 : Sta Z h0 "com/example/leading/leading/Direction" "RIGHT" "Lcom/example/leading/leading/Direction;" (.ref b0)) (S1 : Sta Z h0 "com/example/leading/leading/Direction" "UP" "Lcom/example/leading/leading/Direction;" (.ref b1)) (S2 : Sta Z h0 "com/example/leading/leading/Direction" "LEFT" "Lcom/example/leading/leading/Direction;" (.ref b2)) (S3 : Sta Z h0 "com/example/leading/leading/Direction" "DOWN" "Lcom/example/leading/leading/Direction;" (.ref b3)) : own_M l (⟨"com/example/leading/leading/GlyphIsReadablePinLaw", "pick", "(I)Lcom/example/leading/leading/Direction;"⟩ : MethodName) method_4_code 1 (some (.object "com/example/leading/leading/Direction")) [] ({ frames := 0, cells := 0, slots := 0, locals := 0 } : Room) Z #[.int n] h0 (Qref h0) := by
  refine own_met pl2 (Lf := #[.val (.int n)]) (fun m => by first | (simp [entryFrame, mkF, argsToLocals, Value.category]; done) | rfl) ?_
  intro p e s m below meth c T Y
  refine own_iloadN 1 Y d2_0 rfl rfl ?_
  refine own_if_ne 8 4 Y d2_1 (by decide) rfl (fun q1 => ?_) (fun q1 => ?_)
  · refine own_iloadN 9 Y d2_8 rfl rfl ?_
    refine own_iconst 10 Y (1 : Int32) d2_9 rfl rfl ?_
    refine own_ic_ne 17 13 Y d2_10 (by decide) rfl (fun q10 => ?_) (fun q10 => ?_)
    · refine own_iloadN 18 Y d2_17 rfl rfl ?_
      refine own_iconst 19 Y (2 : Int32) d2_18 rfl rfl ?_
      refine own_ic_ne 26 22 Y d2_19 (by decide) rfl (fun q19 => ?_) (fun q19 => ?_)
      · refine own_getS 29 Y (host := "") (Or.inl (own_wd hw 71 rfl)) Via.refl S3 d2_26 rfl fun T2 Y1 => ?_
        exact own_retA Y1 rfl rfl rfl d2_29 (by decide) (by decide) ⟨rfl, rfl, _, rfl⟩
      · refine own_getS 25 Y (host := "") (Or.inl (own_wd hw 7 rfl)) Via.refl S2 d2_22 rfl fun T4 Y3 => ?_
        exact own_retA Y3 rfl rfl rfl d2_25 (by decide) (by decide) ⟨rfl, rfl, _, rfl⟩
    · refine own_getS 16 Y (host := "") (Or.inl (own_wd hw 86 rfl)) Via.refl S1 d2_13 rfl fun T6 Y5 => ?_
      exact own_retA Y5 rfl rfl rfl d2_16 (by decide) (by decide) ⟨rfl, rfl, _, rfl⟩
  · refine own_getS 7 Y (host := "") (Or.inl (own_wd hw 104 rfl)) Via.refl S0 d2_4 rfl fun T8 Y7 => ?_
    exact own_retA Y7 rfl rfl rfl d2_7 (by decide) (by decide) ⟨rfl, rfl, _, rfl⟩
def Qc_bini (Z : State) (a : Addr) (v0 : UInt64) (v1 : UInt64) (v2 : UInt64) (v3 : UInt64) (h0 : Heap) (n0 : Nat) (v : Option Value) (h : Heap) (L : List Loc) : Prop := v = none ∧ Keep h0 h [a] ∧ Fr n0 L ∧ Exa Z h a "com/example/leading/leading/Box" ∧ Fld Z h a "com/example/leading/leading/Box" "left" "D" (.double v0) ∧ Fld Z h a "com/example/leading/leading/Box" "top" "D" (.double v1) ∧ Fld Z h a "com/example/leading/leading/Box" "right" "D" (.double v2) ∧ Fld Z h a "com/example/leading/leading/Box" "bottom" "D" (.double v3)
set_option maxRecDepth 65536 in
set_option maxHeartbeats 4000000 in
theorem c_bini (l : Launch) (Z : State) (a0 : Array Value) (hw : ∀ d ∈ tables_1, d.before a0 Z = true) (a : Addr) (v0 : UInt64) (v1 : UInt64) (v2 : UInt64) (v3 : UInt64) (h0 : Heap) (n0 : Nat) (ga : n0 ≤ a) (u0 : Value) (u1 : Value) (u2 : Value) (u3 : Value) (X_a : Exa Z h0 a "com/example/leading/leading/Box") (F_a_left : Fld Z h0 a "com/example/leading/leading/Box" "left" "D" u0) (F_a_top : Fld Z h0 a "com/example/leading/leading/Box" "top" "D" u1) (F_a_right : Fld Z h0 a "com/example/leading/leading/Box" "right" "D" u2) (F_a_bottom : Fld Z h0 a "com/example/leading/leading/Box" "bottom" "D" u3) : own_M l (⟨"com/example/leading/leading/Box", "<init>", "(DDDD)V"⟩ : MethodName) prog_7_method_1_code 9 none [] ({ frames := 2, cells := 0, slots := 0, locals := 24 } : Room) Z #[.ref a, (.double v0), (.double v1), (.double v2), (.double v3)] h0 (Qc_bini Z a v0 v1 v2 v3 h0 n0) := by
  refine own_met pl3 (Lf := #[.val (.ref a), .val (.double v0), .second, .val (.double v1), .second, .val (.double v2), .second, .val (.double v3), .second]) (fun m => by first | (simp [entryFrame, mkF, argsToLocals, Value.category]; done) | rfl) ?_
  intro p e s m below meth c T Y
  have Kp := Keep.refl h0 [a]
  have N := Fr.nil n0
  refine own_aloadN 1 Y d3_0 rfl rfl rfl ?_
  refine own_callI 4 Y [] [] rfl (own_wd hw 16 rfl) (own_wd hw 17 rfl) (own_wd hw 19 rfl) (own_wd hw 20 rfl) (c_rec l Z a0 hw a h0) d3_1 (by decide) (lenOf pd4 rfl) rfl rfl (by decide) (Nat.le_of_ble_eq_true rfl) (by decide) (by decide) rfl fun v1 T1 h1 L1 Y1 hQ1 => ?_
  obtain ⟨rfl, rfl, rfl⟩ := hQ1
  have N := N.app (Fr.nil n0)
  show own_G p e below _ (T1.setTop (mkF m 4 #[.val (.ref a), .val (.double v0), .second, .val (.double v1), .second, .val (.double v2), .second, .val (.double v3), .second] []))
  refine own_aloadN 5 Y1 d3_4 rfl rfl rfl ?_
  refine own_dloadN 6 Y1 d3_5 rfl rfl ?_
  refine own_putF 9 Y1 (host := "") (Or.inl (own_wd hw 24 rfl)) Via.refl F_a_left X_a (Or.inr ⟨(own_wd hw 25 rfl), rfl, rfl⟩) (own_wd hw 11 rfl) (ty := .double) (by decide) rfl rfl d3_6 rfl fun T2 h2 Y2 W2 => ?_
  have X_a := X_a.wr W2
  have F_a_left := F_a_left.same W2
  have F_a_top := F_a_top.other W2 (Or.inr (slot_ne (Or.inr (own_wd hw 27 rfl)) (Or.inr (own_wd hw 25 rfl)) (by decide) (t := .double) (t' := .double) (by decide) (by decide)))
  have F_a_right := F_a_right.other W2 (Or.inr (slot_ne (Or.inr (own_wd hw 29 rfl)) (Or.inr (own_wd hw 25 rfl)) (by decide) (t := .double) (t' := .double) (by decide) (by decide)))
  have F_a_bottom := F_a_bottom.other W2 (Or.inr (slot_ne (Or.inr (own_wd hw 31 rfl)) (Or.inr (own_wd hw 25 rfl)) (by decide) (t := .double) (t' := .double) (by decide) (by decide)))
  have Kp := Kp.wr W2 (Or.inl (List.mem_of_getElem? (i := 0) rfl))
  have N := own_frY Y2 N ga
  refine own_aloadN 10 Y2 d3_9 rfl rfl rfl ?_
  refine own_dloadN 11 Y2 d3_10 rfl rfl ?_
  refine own_putF 14 Y2 (host := "") (Or.inl (own_wd hw 26 rfl)) Via.refl F_a_top X_a (Or.inr ⟨(own_wd hw 27 rfl), rfl, rfl⟩) (own_wd hw 11 rfl) (ty := .double) (by decide) rfl rfl d3_11 rfl fun T3 h3 Y3 W3 => ?_
  have X_a := X_a.wr W3
  have F_a_left := F_a_left.other W3 (Or.inr (slot_ne (Or.inr (own_wd hw 25 rfl)) (Or.inr (own_wd hw 27 rfl)) (by decide) (t := .double) (t' := .double) (by decide) (by decide)))
  have F_a_top := F_a_top.same W3
  have F_a_right := F_a_right.other W3 (Or.inr (slot_ne (Or.inr (own_wd hw 29 rfl)) (Or.inr (own_wd hw 27 rfl)) (by decide) (t := .double) (t' := .double) (by decide) (by decide)))
  have F_a_bottom := F_a_bottom.other W3 (Or.inr (slot_ne (Or.inr (own_wd hw 31 rfl)) (Or.inr (own_wd hw 27 rfl)) (by decide) (t := .double) (t' := .double) (by decide) (by decide)))
  have Kp := Kp.wr W3 (Or.inl (List.mem_of_getElem? (i := 0) rfl))
  have N := own_frY Y3 N ga
  refine own_aloadN 15 Y3 d3_14 rfl rfl rfl ?_
  refine own_dload 17 Y3 d3_15 rfl rfl ?_
  refine own_putF 20 Y3 (host := "") (Or.inl (own_wd hw 28 rfl)) Via.refl F_a_right X_a (Or.inr ⟨(own_wd hw 29 rfl), rfl, rfl⟩) (own_wd hw 11 rfl) (ty := .double) (by decide) rfl rfl d3_17 rfl fun T4 h4 Y4 W4 => ?_
  have X_a := X_a.wr W4
  have F_a_left := F_a_left.other W4 (Or.inr (slot_ne (Or.inr (own_wd hw 25 rfl)) (Or.inr (own_wd hw 29 rfl)) (by decide) (t := .double) (t' := .double) (by decide) (by decide)))
  have F_a_top := F_a_top.other W4 (Or.inr (slot_ne (Or.inr (own_wd hw 27 rfl)) (Or.inr (own_wd hw 29 rfl)) (by decide) (t := .double) (t' := .double) (by decide) (by decide)))
  have F_a_right := F_a_right.same W4
  have F_a_bottom := F_a_bottom.other W4 (Or.inr (slot_ne (Or.inr (own_wd hw 31 rfl)) (Or.inr (own_wd hw 29 rfl)) (by decide) (t := .double) (t' := .double) (by decide) (by decide)))
  have Kp := Kp.wr W4 (Or.inl (List.mem_of_getElem? (i := 0) rfl))
  have N := own_frY Y4 N ga
  refine own_aloadN 21 Y4 d3_20 rfl rfl rfl ?_
  refine own_dload 23 Y4 d3_21 rfl rfl ?_
  refine own_putF 26 Y4 (host := "") (Or.inl (own_wd hw 30 rfl)) Via.refl F_a_bottom X_a (Or.inr ⟨(own_wd hw 31 rfl), rfl, rfl⟩) (own_wd hw 11 rfl) (ty := .double) (by decide) rfl rfl d3_23 rfl fun T5 h5 Y5 W5 => ?_
  have X_a := X_a.wr W5
  have F_a_left := F_a_left.other W5 (Or.inr (slot_ne (Or.inr (own_wd hw 25 rfl)) (Or.inr (own_wd hw 31 rfl)) (by decide) (t := .double) (t' := .double) (by decide) (by decide)))
  have F_a_top := F_a_top.other W5 (Or.inr (slot_ne (Or.inr (own_wd hw 27 rfl)) (Or.inr (own_wd hw 31 rfl)) (by decide) (t := .double) (t' := .double) (by decide) (by decide)))
  have F_a_right := F_a_right.other W5 (Or.inr (slot_ne (Or.inr (own_wd hw 29 rfl)) (Or.inr (own_wd hw 31 rfl)) (by decide) (t := .double) (t' := .double) (by decide) (by decide)))
  have F_a_bottom := F_a_bottom.same W5
  have Kp := Kp.wr W5 (Or.inl (List.mem_of_getElem? (i := 0) rfl))
  have N := own_frY Y5 N ga
  exact own_retV Y5 rfl d3_26 (by decide) (by decide) ⟨rfl, Kp, N, X_a, F_a_left, F_a_top, F_a_right, F_a_bottom⟩
def Qc_gini (Z : State) (a : Addr) (v0 : Value) (v1 : Value) (v2 : UInt64) (v3 : Value) (h0 : Heap) (n0 : Nat) (v : Option Value) (h : Heap) (L : List Loc) : Prop := v = none ∧ Keep h0 h [a] ∧ Fr n0 L ∧ Exa Z h a "com/example/leading/leading/Glyph" ∧ Fld Z h a "com/example/leading/leading/Glyph" "text" "Ljava/lang/String;" v0 ∧ Fld Z h a "com/example/leading/leading/Glyph" "box" "Lcom/example/leading/leading/Box;" v1 ∧ Fld Z h a "com/example/leading/leading/Glyph" "size" "D" (.double v2) ∧ Fld Z h a "com/example/leading/leading/Glyph" "direction" "Lcom/example/leading/leading/Direction;" v3
set_option maxRecDepth 65536 in
set_option maxHeartbeats 4000000 in
theorem c_gini (l : Launch) (Z : State) (a0 : Array Value) (hw : ∀ d ∈ tables_1, d.before a0 Z = true) (a : Addr) (v0 : Value) (hv0 : v0.isRef = true) (v1 : Value) (hv1 : v1.isRef = true) (v2 : UInt64) (v3 : Value) (hv3 : v3.isRef = true) (h0 : Heap) (n0 : Nat) (ga : n0 ≤ a) (u0 : Value) (u1 : Value) (u2 : Value) (u3 : Value) (X_a : Exa Z h0 a "com/example/leading/leading/Glyph") (F_a_text : Fld Z h0 a "com/example/leading/leading/Glyph" "text" "Ljava/lang/String;" u0) (F_a_box : Fld Z h0 a "com/example/leading/leading/Glyph" "box" "Lcom/example/leading/leading/Box;" u1) (F_a_size : Fld Z h0 a "com/example/leading/leading/Glyph" "size" "D" u2) (F_a_direction : Fld Z h0 a "com/example/leading/leading/Glyph" "direction" "Lcom/example/leading/leading/Direction;" u3) : own_M l (⟨"com/example/leading/leading/Glyph", "<init>", "(Ljava/lang/String;Lcom/example/leading/leading/Box;DLcom/example/leading/leading/Direction;)V"⟩ : MethodName) prog_15_method_1_code 6 none [] ({ frames := 2, cells := 0, slots := 0, locals := 24 } : Room) Z #[.ref a, v0, v1, (.double v2), v3] h0 (Qc_gini Z a v0 v1 v2 v3 h0 n0) := by
  refine own_met pl5 (Lf := #[.val (.ref a), .val v0, .val v1, .val (.double v2), .second, .val v3]) (fun m => by rcases ref_cases hv0 with rfl | ⟨_, rfl⟩ <;> rcases ref_cases hv1 with rfl | ⟨_, rfl⟩ <;> rcases ref_cases hv3 with rfl | ⟨_, rfl⟩ <;> rfl) ?_
  intro p e s m below meth c T Y
  have Kp := Keep.refl h0 [a]
  have N := Fr.nil n0
  refine own_aloadN 1 Y d5_0 rfl rfl rfl ?_
  refine own_callI 4 Y [] [] rfl (own_wd hw 39 rfl) (own_wd hw 17 rfl) (own_wd hw 19 rfl) (own_wd hw 20 rfl) (c_rec l Z a0 hw a h0) d5_1 (by decide) (lenOf pd4 rfl) rfl rfl (by decide) (Nat.le_of_ble_eq_true rfl) (by decide) (by decide) rfl fun v1 T1 h1 L1 Y1 hQ1 => ?_
  obtain ⟨rfl, rfl, rfl⟩ := hQ1
  have N := N.app (Fr.nil n0)
  show own_G p e below _ (T1.setTop (mkF m 4 #[.val (.ref a), .val v0, .val v1, .val (.double v2), .second, .val v3] []))
  refine own_aloadN 5 Y1 d5_4 rfl rfl rfl ?_
  refine own_aloadN 6 Y1 d5_5 rfl hv0 rfl ?_
  refine own_putF 9 Y1 (host := "") (Or.inl (own_wd hw 40 rfl)) Via.refl F_a_text X_a (Or.inr ⟨(own_wd hw 41 rfl), rfl, rfl⟩) (own_wd hw 33 rfl) (ty := (.object "java/lang/String")) (by decide) (own_fitR hv0).1 (own_fitR hv0).2 d5_6 rfl fun T2 h2 Y2 W2 => ?_
  have X_a := X_a.wr W2
  have F_a_text := F_a_text.same W2
  have F_a_box := F_a_box.other W2 (Or.inr (slot_ne (Or.inr (own_wd hw 43 rfl)) (Or.inr (own_wd hw 41 rfl)) (by decide) (t := (.object "com/example/leading/leading/Box")) (t' := (.object "java/lang/String")) (by decide) (by decide)))
  have F_a_size := F_a_size.other W2 (Or.inr (slot_ne (Or.inr (own_wd hw 45 rfl)) (Or.inr (own_wd hw 41 rfl)) (by decide) (t := .double) (t' := (.object "java/lang/String")) (by decide) (by decide)))
  have F_a_direction := F_a_direction.other W2 (Or.inr (slot_ne (Or.inr (own_wd hw 47 rfl)) (Or.inr (own_wd hw 41 rfl)) (by decide) (t := (.object "com/example/leading/leading/Direction")) (t' := (.object "java/lang/String")) (by decide) (by decide)))
  have Kp := Kp.wr W2 (Or.inl (List.mem_of_getElem? (i := 0) rfl))
  have N := own_frY Y2 N ga
  refine own_aloadN 10 Y2 d5_9 rfl rfl rfl ?_
  refine own_aloadN 11 Y2 d5_10 rfl hv1 rfl ?_
  refine own_putF 14 Y2 (host := "") (Or.inl (own_wd hw 42 rfl)) Via.refl F_a_box X_a (Or.inr ⟨(own_wd hw 43 rfl), rfl, rfl⟩) (own_wd hw 33 rfl) (ty := (.object "com/example/leading/leading/Box")) (by decide) (own_fitR hv1).1 (own_fitR hv1).2 d5_11 rfl fun T3 h3 Y3 W3 => ?_
  have X_a := X_a.wr W3
  have F_a_text := F_a_text.other W3 (Or.inr (slot_ne (Or.inr (own_wd hw 41 rfl)) (Or.inr (own_wd hw 43 rfl)) (by decide) (t := (.object "java/lang/String")) (t' := (.object "com/example/leading/leading/Box")) (by decide) (by decide)))
  have F_a_box := F_a_box.same W3
  have F_a_size := F_a_size.other W3 (Or.inr (slot_ne (Or.inr (own_wd hw 45 rfl)) (Or.inr (own_wd hw 43 rfl)) (by decide) (t := .double) (t' := (.object "com/example/leading/leading/Box")) (by decide) (by decide)))
  have F_a_direction := F_a_direction.other W3 (Or.inr (slot_ne (Or.inr (own_wd hw 47 rfl)) (Or.inr (own_wd hw 43 rfl)) (by decide) (t := (.object "com/example/leading/leading/Direction")) (t' := (.object "com/example/leading/leading/Box")) (by decide) (by decide)))
  have Kp := Kp.wr W3 (Or.inl (List.mem_of_getElem? (i := 0) rfl))
  have N := own_frY Y3 N ga
  refine own_aloadN 15 Y3 d5_14 rfl rfl rfl ?_
  refine own_dloadN 16 Y3 d5_15 rfl rfl ?_
  refine own_putF 19 Y3 (host := "") (Or.inl (own_wd hw 44 rfl)) Via.refl F_a_size X_a (Or.inr ⟨(own_wd hw 45 rfl), rfl, rfl⟩) (own_wd hw 33 rfl) (ty := .double) (by decide) rfl rfl d5_16 rfl fun T4 h4 Y4 W4 => ?_
  have X_a := X_a.wr W4
  have F_a_text := F_a_text.other W4 (Or.inr (slot_ne (Or.inr (own_wd hw 41 rfl)) (Or.inr (own_wd hw 45 rfl)) (by decide) (t := (.object "java/lang/String")) (t' := .double) (by decide) (by decide)))
  have F_a_box := F_a_box.other W4 (Or.inr (slot_ne (Or.inr (own_wd hw 43 rfl)) (Or.inr (own_wd hw 45 rfl)) (by decide) (t := (.object "com/example/leading/leading/Box")) (t' := .double) (by decide) (by decide)))
  have F_a_size := F_a_size.same W4
  have F_a_direction := F_a_direction.other W4 (Or.inr (slot_ne (Or.inr (own_wd hw 47 rfl)) (Or.inr (own_wd hw 45 rfl)) (by decide) (t := (.object "com/example/leading/leading/Direction")) (t' := .double) (by decide) (by decide)))
  have Kp := Kp.wr W4 (Or.inl (List.mem_of_getElem? (i := 0) rfl))
  have N := own_frY Y4 N ga
  refine own_aloadN 20 Y4 d5_19 rfl rfl rfl ?_
  refine own_aload 22 Y4 d5_20 rfl hv3 rfl ?_
  refine own_putF 25 Y4 (host := "") (Or.inl (own_wd hw 46 rfl)) Via.refl F_a_direction X_a (Or.inr ⟨(own_wd hw 47 rfl), rfl, rfl⟩) (own_wd hw 33 rfl) (ty := (.object "com/example/leading/leading/Direction")) (by decide) (own_fitR hv3).1 (own_fitR hv3).2 d5_22 rfl fun T5 h5 Y5 W5 => ?_
  have X_a := X_a.wr W5
  have F_a_text := F_a_text.other W5 (Or.inr (slot_ne (Or.inr (own_wd hw 41 rfl)) (Or.inr (own_wd hw 47 rfl)) (by decide) (t := (.object "java/lang/String")) (t' := (.object "com/example/leading/leading/Direction")) (by decide) (by decide)))
  have F_a_box := F_a_box.other W5 (Or.inr (slot_ne (Or.inr (own_wd hw 43 rfl)) (Or.inr (own_wd hw 47 rfl)) (by decide) (t := (.object "com/example/leading/leading/Box")) (t' := (.object "com/example/leading/leading/Direction")) (by decide) (by decide)))
  have F_a_size := F_a_size.other W5 (Or.inr (slot_ne (Or.inr (own_wd hw 45 rfl)) (Or.inr (own_wd hw 47 rfl)) (by decide) (t := .double) (t' := (.object "com/example/leading/leading/Direction")) (by decide) (by decide)))
  have F_a_direction := F_a_direction.same W5
  have Kp := Kp.wr W5 (Or.inl (List.mem_of_getElem? (i := 0) rfl))
  have N := own_frY Y5 N ga
  exact own_retV Y5 rfl d5_25 (by decide) (by decide) ⟨rfl, Kp, N, X_a, F_a_text, F_a_box, F_a_size, F_a_direction⟩
set_option maxRecDepth 65536 in
set_option maxHeartbeats 4000000 in
theorem c_ir_n (l : Launch) (Z : State) (a0 : Array Value) (hw : ∀ d ∈ tables_1, d.before a0 Z = true) (a : Addr) (h0 : Heap) (F : Fld Z h0 a "com/example/leading/leading/Glyph" "text" "Ljava/lang/String;" .null) : own_M l (⟨"com/example/leading/leading/Glyph", "isReadable", "()Z"⟩ : MethodName) prog_15_method_3_code 1 (some .boolean) [] ({ frames := 0, cells := 0, slots := 0, locals := 0 } : Room) Z #[.ref a] h0 (Qv (some (.int (0 : Int32))) h0) := by
  refine own_met pl6 (Lf := #[.val (.ref a)]) (fun m => by first | (simp [entryFrame, mkF, argsToLocals, Value.category]; done) | rfl) ?_
  intro p e s m below meth c T Y
  refine own_aloadN 1 Y d6_0 rfl rfl rfl ?_
  refine own_getF 4 Y (host := "") (Or.inl (own_wd hw 40 rfl)) Via.refl F d6_1 rfl fun T2 Y1 => ?_
  refine own_ifnullT 11 Y1 d6_4 (by decide) ?_
  refine own_iconst 12 Y1 (0 : Int32) d6_11 rfl rfl ?_
  exact own_retN Y1 (t := .boolean) rfl (by simp) d6_12 (by decide) (by decide) ⟨rfl, rfl, rfl⟩
set_option maxRecDepth 65536 in
set_option maxHeartbeats 4000000 in
theorem c_ir_r (l : Launch) (Z : State) (a0 : Array Value) (hw : ∀ d ∈ tables_1, d.before a0 Z = true) (a : Addr) (x : Addr) (h0 : Heap) (F : Fld Z h0 a "com/example/leading/leading/Glyph" "text" "Ljava/lang/String;" (.ref x)) : own_M l (⟨"com/example/leading/leading/Glyph", "isReadable", "()Z"⟩ : MethodName) prog_15_method_3_code 1 (some .boolean) [] ({ frames := 0, cells := 0, slots := 0, locals := 0 } : Room) Z #[.ref a] h0 (Qv (some (.int (1 : Int32))) h0) := by
  refine own_met pl6 (Lf := #[.val (.ref a)]) (fun m => by first | (simp [entryFrame, mkF, argsToLocals, Value.category]; done) | rfl) ?_
  intro p e s m below meth c T Y
  refine own_aloadN 1 Y d6_0 rfl rfl rfl ?_
  refine own_getF 4 Y (host := "") (Or.inl (own_wd hw 40 rfl)) Via.refl F d6_1 rfl fun T2 Y1 => ?_
  refine own_ifnullF 7 Y1 d6_4 rfl ?_
  refine own_iconst 8 Y1 (1 : Int32) d6_7 rfl rfl ?_
  refine own_goto 12 Y1 d6_8 (by decide) ?_
  exact own_retN Y1 (t := .boolean) rfl (by simp) d6_12 (by decide) (by decide) ⟨rfl, rfl, rfl⟩
def Qb (h0 : Heap) (v : Option Value) (h : Heap) (L : List Loc) : Prop := h0 = h ∧ L = [] ∧ ∃ b : Int32, nar .boolean b = b ∧ v = some (.int b)
set_option maxRecDepth 65536 in
set_option maxHeartbeats 4000000 in
theorem c_leq (l : Launch) (Z : State) (a0 : Array Value) (hw : ∀ d ∈ tables_1, d.before a0 Z = true) (a b : Addr) (ka kb : ClassId) (n : Int32) (vs : List Value) (h0 : Heap) (V_a : Arv Z h0 a ka .byte (0 : Int32) [] (.int 0)) (V_b : Arv Z h0 b kb .byte n vs (.int 0)) : own_M l (⟨"java/lang/StringLatin1", "equals", "([B[B)Z"⟩ : MethodName) jdk_43_method_13_code 3 (some .boolean) [] ({ frames := 0, cells := 0, slots := 0, locals := 0 } : Room) Z #[.ref a, .ref b] h0 (Qb h0) := by
  refine own_met pl9 (Lf := #[.val (.ref a), .val (.ref b), .unset]) (fun m => by first | (simp [entryFrame, mkF, argsToLocals, Value.category]; done) | rfl) ?_
  intro p e s m below meth c T Y
  refine own_aloadN 1 Y d9_0 rfl rfl rfl ?_
  refine own_alen 2 Y V_a d9_1 rfl ?_
  refine own_aloadN 3 Y d9_2 rfl rfl rfl ?_
  refine own_alen 4 Y V_b d9_3 rfl ?_
  refine own_ic_ne 34 7 Y d9_4 (by decide) rfl (fun q4 => ?_) (fun q4 => ?_)
  · refine own_iconst 35 Y (0 : Int32) d9_34 rfl rfl ?_
    exact own_retN Y (t := .boolean) rfl (by simp) d9_35 (by decide) (by decide) ⟨rfl, rfl, (0 : Int32), rfl, rfl⟩
  · refine own_iconst 8 Y (0 : Int32) d9_7 rfl rfl ?_
    refine own_istoreN 9 Y #[.val (.ref a), .val (.ref b), .val (.int (0 : Int32))] d9_8 rfl rfl ?_
    refine own_iloadN 10 Y d9_9 rfl rfl ?_
    refine own_aloadN 11 Y d9_10 rfl rfl rfl ?_
    refine own_alen 12 Y V_a d9_11 rfl ?_
    refine own_icT 32 Y d9_12 (XT.ii_ge_t (by decide)) (by decide) ?_
    refine own_iconst 33 Y (1 : Int32) d9_32 rfl rfl ?_
    exact own_retN Y (t := .boolean) rfl (by simp) d9_33 (by decide) (by decide) ⟨rfl, rfl, (1 : Int32), rfl, rfl⟩
set_option maxRecDepth 65536 in
set_option maxHeartbeats 4000000 in
theorem c_eq (l : Launch) (Z : State) (a0 : Array Value) (hw : ∀ d ∈ tables_1, d.before a0 Z = true) (a : Addr) (z : Int32) (h0 : Heap) (n0 : Nat) (O : Old Z n0 h0) (Sc : Sta Z Z.heap "java/lang/String" "COMPACT_STRINGS" "Z" (.int z)) (hz : ¬ z = 0) (b da db : Addr) (ka kb : ClassId) (n : Int32) (vs : List Value) (F_a_value : Fld Z h0 a "java/lang/String" "value" "[B" (.ref da)) (F_a_coder : Fld Z h0 a "java/lang/String" "coder" "B" (.int 0)) (V_da : Arv Z h0 da ka .byte (0 : Int32) [] (.int 0)) (X_b : Exa Z h0 b "java/lang/String") (F_b_value : Fld Z h0 b "java/lang/String" "value" "[B" (.ref db)) (F_b_coder : Fld Z h0 b "java/lang/String" "coder" "B" (.int 0)) (V_db : Arv Z h0 db kb .byte n vs (.int 0)) : own_M l (⟨"java/lang/String", "equals", "(Ljava/lang/Object;)Z"⟩ : MethodName) jdk_42_method_66_code 3 (some .boolean) [] ({ frames := 1, cells := 0, slots := 0, locals := 14 } : Room) Z #[.ref a, .ref b] h0 (Qb h0) := by
  refine own_met pl8 (Lf := #[.val (.ref a), .val (.ref b), .unset]) (fun m => by first | (simp [entryFrame, mkF, argsToLocals, Value.category]; done) | rfl) ?_
  intro p e s m below meth c T Y
  refine own_aloadN 1 Y d8_0 rfl rfl rfl ?_
  refine own_aloadN 2 Y d8_1 rfl rfl rfl ?_
  by_cases qe : a = b
  · refine own_acmp 5 true Y d8_2 rfl rfl (decide_eq_true (congrArg Value.ref qe)) (by decide) (by decide) ?_
    refine own_iconst 6 Y (1 : Int32) d8_5 rfl rfl ?_
    exact own_retN Y (t := .boolean) rfl (by simp) d8_6 (by decide) (by decide) ⟨rfl, rfl, (1 : Int32), rfl, rfl⟩
  · refine own_acmp 7 false Y d8_2 rfl rfl (decide_eq_false fun z => qe (Value.ref.inj z)) (by decide) (by decide) ?_
    refine own_aloadN 8 Y d8_7 rfl rfl rfl ?_
    refine own_inst 11 Y (own_wd hw 88 rfl) (Ins.self X_b) d8_8 rfl fun T2 Y1 => ?_
    refine own_ifF 14 Y1 d8_11 (XT.i0_eq_f (by decide)) rfl ?_
    refine own_aloadN 15 Y1 d8_14 rfl rfl rfl ?_
    refine own_cast 18 Y1 (own_wd hw 88 rfl) (Ins.self X_b) d8_15 rfl fun T4 Y3 => ?_
    refine own_astoreN 19 Y3 #[.val (.ref a), .val (.ref b), .val (.ref b)] d8_18 rfl rfl rfl ?_
    refine own_getS 22 Y3 (host := "") (Or.inl (own_wd hw 89 rfl)) Via.refl (Sc.ext O.2) d8_19 rfl fun T6 Y5 => ?_
    refine own_ifF 25 Y5 d8_22 (XT.i0_eq_f hz) rfl ?_
    refine own_aloadN 26 Y5 d8_25 rfl rfl rfl ?_
    refine own_getF 29 Y5 (host := "") (Or.inl (own_wd hw 85 rfl)) Via.refl F_a_coder d8_26 rfl fun T8 Y7 => ?_
    refine own_aloadN 30 Y7 d8_29 rfl rfl rfl ?_
    refine own_getF 33 Y7 (host := "") (Or.inl (own_wd hw 85 rfl)) Via.refl F_b_coder d8_30 rfl fun T10 Y9 => ?_
    refine own_icF 36 Y9 d8_33 (XT.ii_ne_f rfl) rfl ?_
    refine own_aloadN 37 Y9 d8_36 rfl rfl rfl ?_
    refine own_getF 40 Y9 (host := "") (Or.inl (own_wd hw 84 rfl)) Via.refl F_a_value d8_37 rfl fun T12 Y11 => ?_
    refine own_aloadN 41 Y11 d8_40 rfl rfl rfl ?_
    refine own_getF 44 Y11 (host := "") (Or.inl (own_wd hw 84 rfl)) Via.refl F_b_value d8_41 rfl fun T14 Y13 => ?_
    refine own_callS 47 Y13 [(.ref da), (.ref db)] [] (own_wd hw 90 rfl) (own_wd hw 91 rfl) (own_wd hw 92 rfl) (own_wd hw 93 rfl) (c_leq l Z a0 hw da db ka kb n vs _ V_da V_db) d8_44 (by decide) (lenOf pd9 rfl) rfl rfl (by decide) (Nat.le_of_ble_eq_true rfl) (by decide) (by decide) rfl fun v15 T15 h15 L15 Y15 hQ15 => ?_
    obtain ⟨rfl, rfl, r, hr, rfl⟩ := hQ15
    show own_G p e below _ (T15.setTop (mkF m 47 #[.val (.ref a), .val (.ref b), .val (.ref b)] [(.int r)]))
    refine own_if_eq 54 50 Y15 d8_47 (by decide) rfl (fun q47 => ?_) (fun q47 => ?_)
    · refine own_iconst 55 Y15 (0 : Int32) d8_54 rfl rfl ?_
      exact own_retN Y15 (t := .boolean) rfl (by simp) d8_55 (by decide) (by decide) ⟨rfl, rfl, (0 : Int32), rfl, rfl⟩
    · refine own_iconst 51 Y15 (1 : Int32) d8_50 rfl rfl ?_
      refine own_goto 55 Y15 d8_51 (by decide) ?_
      exact own_retN Y15 (t := .boolean) rfl (by simp) d8_55 (by decide) (by decide) ⟨rfl, rfl, (1 : Int32), rfl, rfl⟩
set_option maxRecDepth 65536 in
set_option maxHeartbeats 4000000 in
theorem c_eqn (l : Launch) (Z : State) (a0 : Array Value) (hw : ∀ d ∈ tables_1, d.before a0 Z = true) (a : Addr) (h0 : Heap) : own_M l (⟨"java/lang/String", "equals", "(Ljava/lang/Object;)Z"⟩ : MethodName) jdk_42_method_66_code 3 (some .boolean) [] ({ frames := 0, cells := 0, slots := 0, locals := 0 } : Room) Z #[.ref a, .null] h0 (Qv (some (.int (0 : Int32))) h0) := by
  refine own_met pl8 (Lf := #[.val (.ref a), .val .null, .unset]) (fun m => by first | (simp [entryFrame, mkF, argsToLocals, Value.category]; done) | rfl) ?_
  intro p e s m below meth c T Y
  refine own_aloadN 1 Y d8_0 rfl rfl rfl ?_
  refine own_aloadN 2 Y d8_1 rfl rfl rfl ?_
  refine own_acmp 7 false Y d8_2 rfl rfl (decide_eq_false nofun) (by decide) (by decide) ?_
  refine own_aloadN 8 Y d8_7 rfl rfl rfl ?_
  refine own_instNull 11 Y d8_8 rfl ?_
  refine own_ifT 54 Y d8_11 (XT.i0_eq_t (by decide)) (by decide) ?_
  refine own_iconst 55 Y (0 : Int32) d8_54 rfl rfl ?_
  exact own_retN Y (t := .boolean) rfl (by simp) d8_55 (by decide) (by decide) ⟨rfl, rfl, rfl⟩
def Qsp (P : Int32 → Prop) (h0 : Heap) (n0 : Nat) (v : Option Value) (h : Heap) (L : List Loc) : Prop := Keep h0 h [] ∧ Fr n0 L ∧ ∃ b : Int32, P b ∧ v = some (.int b)
set_option maxRecDepth 65536 in
set_option maxHeartbeats 4000000 in
theorem c_isp_n (l : Launch) (Z : State) (a0 : Array Value) (hw : ∀ d ∈ tables_1, d.before a0 Z = true) (z : Int32) (h0 : Heap) (n0 : Nat) (O : Old Z n0 h0) (Sc : Sta Z Z.heap "java/lang/String" "COMPACT_STRINGS" "Z" (.int z)) (hz : ¬ z = 0) (a : Addr) (F_a_text : Fld Z h0 a "com/example/leading/leading/Glyph" "text" "Ljava/lang/String;" .null) : own_MW l (⟨"com/example/leading/leading/Glyph", "isSpace", "()Z"⟩ : MethodName) prog_15_method_2_code 1 (some .boolean) [] ({ frames := 2, cells := 2, slots := 4, locals := 60 } : Room) Z EL0 #[.ref a] h0 (Qsp (fun b => b = 0) h0 n0) := by
  refine own_metW (own_el hw) pl7 (Lf := #[.val (.ref a)]) (fun m => by first | (simp [entryFrame, mkF, argsToLocals, Value.category]; done) | rfl) ?_
  intro p e s m below meth c T Y H _
  have Kp := Keep.refl h0 []
  have N := Fr.nil n0
  refine own_ldcW 2 Y H (own_wd hw 58 rfl) (own_sa hw) (List.mem_of_getElem? (i := 0) rfl) (vs := []) (z := (0 : Int32)) ⟨by decide, by decide⟩ (by decide) (by decide) 0 d7_0 (by decide) (by decide) (by decide) (by decide) rfl fun T1 h1 vm1 em em_b k_em_b Y1 H1 C1 E1 X_em F_em_coder F_em_value V_em_b hN1 => ?_
  have F_a_text := F_a_text.ext E1
  have Kp := Kp.ext E1
  have O := O.ext E1
  have H := H1
  refine own_aloadN 3 Y1 d7_2 rfl rfl rfl ?_
  refine own_getF 6 Y1 (host := "") (Or.inl (own_wd hw 40 rfl)) Via.refl F_a_text d7_3 rfl fun T3 Y2 => ?_
  refine own_callV 9 Y2 [.null] [] X_em (own_wd hw 66 rfl) (own_wd hw 67 rfl) (notFace_of_selects (args := #[]) (mvT Y2.warm (own_wd hw 69 rfl))) (own_wd hw 69 rfl) (own_wd hw 68 rfl) (own_wd hw 59 rfl) (own_wd hw 70 rfl) (c_eqn l Z a0 hw em _) d7_6 (by decide) (lenOf pd8 rfl) rfl rfl (by decide) (Nat.le_of_ble_eq_true rfl) (by decide) (by decide) rfl fun v4 T4 h4 L4 Y4 hQ4 => ?_
  obtain ⟨rfl, rfl, rfl⟩ := hQ4
  have N := N.app (Fr.nil n0)
  show own_G p e below _ (T4.setTop (mkF m 9 #[.val (.ref a)] [(.int (0 : Int32))]))
  exact own_retNW Y4 H (t := .boolean) rfl (by simp) d7_9 (by decide) (by decide) ⟨Kp, N, _, rfl, rfl⟩
set_option maxRecDepth 65536 in
set_option maxHeartbeats 4000000 in
theorem c_isp_r (l : Launch) (Z : State) (a0 : Array Value) (hw : ∀ d ∈ tables_1, d.before a0 Z = true) (x d : Addr) (kd : ClassId) (n : Int32) (vs : List Value) (z : Int32) (h0 : Heap) (n0 : Nat) (O : Old Z n0 h0) (Sc : Sta Z Z.heap "java/lang/String" "COMPACT_STRINGS" "Z" (.int z)) (hz : ¬ z = 0) (a : Addr) (F_a_text : Fld Z h0 a "com/example/leading/leading/Glyph" "text" "Ljava/lang/String;" (.ref x)) (X_x : Exa Z h0 x "java/lang/String") (F_x_value : Fld Z h0 x "java/lang/String" "value" "[B" (.ref d)) (F_x_coder : Fld Z h0 x "java/lang/String" "coder" "B" (.int 0)) (V_d : Arv Z h0 d kd .byte n vs (.int 0)) : own_MW l (⟨"com/example/leading/leading/Glyph", "isSpace", "()Z"⟩ : MethodName) prog_15_method_2_code 1 (some .boolean) [] ({ frames := 2, cells := 2, slots := 4, locals := 60 } : Room) Z EL0 #[.ref a] h0 (Qsp (fun b => True) h0 n0) := by
  refine own_metW (own_el hw) pl7 (Lf := #[.val (.ref a)]) (fun m => by first | (simp [entryFrame, mkF, argsToLocals, Value.category]; done) | rfl) ?_
  intro p e s m below meth c T Y H _
  have Kp := Keep.refl h0 []
  have N := Fr.nil n0
  refine own_ldcW 2 Y H (own_wd hw 58 rfl) (own_sa hw) (List.mem_of_getElem? (i := 0) rfl) (vs := []) (z := (0 : Int32)) ⟨by decide, by decide⟩ (by decide) (by decide) 0 d7_0 (by decide) (by decide) (by decide) (by decide) rfl fun T1 h1 vm1 em em_b k_em_b Y1 H1 C1 E1 X_em F_em_coder F_em_value V_em_b hN1 => ?_
  have F_a_text := F_a_text.ext E1
  have Kp := Kp.ext E1
  have O := O.ext E1
  have X_x := X_x.ext E1
  have F_x_value := F_x_value.ext E1
  have F_x_coder := F_x_coder.ext E1
  have V_d := V_d.ext E1
  have H := H1
  refine own_aloadN 3 Y1 d7_2 rfl rfl rfl ?_
  refine own_getF 6 Y1 (host := "") (Or.inl (own_wd hw 40 rfl)) Via.refl F_a_text d7_3 rfl fun T3 Y2 => ?_
  refine own_callV 9 Y2 [(.ref x)] [] X_em (own_wd hw 66 rfl) (own_wd hw 67 rfl) (notFace_of_selects (args := #[]) (mvT Y2.warm (own_wd hw 69 rfl))) (own_wd hw 69 rfl) (own_wd hw 68 rfl) (own_wd hw 59 rfl) (own_wd hw 70 rfl) (c_eq l Z a0 hw em z _ n0 O Sc hz x em_b d k_em_b kd n vs F_em_value F_em_coder V_em_b X_x F_x_value F_x_coder V_d) d7_6 (by decide) (lenOf pd8 rfl) rfl rfl (by decide) (Nat.le_of_ble_eq_true rfl) (by decide) (by decide) rfl fun v4 T4 h4 L4 Y4 hQ4 => ?_
  obtain ⟨rfl, rfl, r, hr, rfl⟩ := hQ4
  have N := N.app (Fr.nil n0)
  show own_G p e below _ (T4.setTop (mkF m 9 #[.val (.ref a)] [(.int r)]))
  exact own_retNW Y4 H (t := .boolean) rfl (by simp) d7_9 (by decide) (by decide) ⟨Kp, N, _, trivial, rfl⟩
set_option maxRecDepth 65536 in
set_option maxHeartbeats 4000000 in
theorem c_ce (l : Launch) (Z : State) (a0 : Array Value) (hw : ∀ d ∈ tables_1, d.before a0 Z = true) (c0 : Int32) (hc : ¬ (255 : Int32) < c0) (h0 : Heap) : own_M l (⟨"java/lang/StringLatin1", "canEncode", "(C)Z"⟩ : MethodName) jdk_43_method_3_code 1 (some .boolean) [] ({ frames := 0, cells := 0, slots := 0, locals := 0 } : Room) Z #[.int c0] h0 (Qv (some (.int (1 : Int32))) h0) := by
  refine own_met pl11 (Lf := #[.val (.int c0)]) (fun m => by first | (simp [entryFrame, mkF, argsToLocals, Value.category]; done) | rfl) ?_
  intro p e s m below meth c T Y
  refine own_iloadN 1 Y d11_0 rfl rfl ?_
  refine own_sipush 4 Y (255 : Int32) d11_1 rfl rfl ?_
  refine own_icF 7 Y d11_4 (XT.ii_gt_f hc) rfl ?_
  refine own_iconst 8 Y (1 : Int32) d11_7 rfl rfl ?_
  refine own_goto 12 Y d11_8 (by decide) ?_
  exact own_retN Y (t := .boolean) rfl (by simp) d11_12 (by decide) (by decide) ⟨rfl, rfl, rfl⟩
def Qtb (Z : State) (c0 : Int32) (h0 : Heap) (n0 : Nat) (v : Option Value) (h : Heap) (L : List Loc) : Prop := ∃ (d : Addr) (kd : ClassId), v = some (.ref d) ∧ h0.size ≤ d ∧ Keep h0 h [] ∧ Fr n0 L ∧ Arv Z h d kd .byte (1 : Int32) [(.int (nar .byte c0.toInt8.toInt32))] (.int (0 : Int32))
set_option maxRecDepth 65536 in
set_option maxHeartbeats 4000000 in
theorem c_tb (l : Launch) (Z : State) (a0 : Array Value) (hw : ∀ d ∈ tables_1, d.before a0 Z = true) (c0 : Int32) (h0 : Heap) (n0 : Nat) (Zs : n0 ≤ h0.size) : own_M l (⟨"java/lang/StringLatin1", "toBytes", "(C)[B"⟩ : MethodName) jdk_43_method_46_code 1 (some (.array .byte)) [] ({ frames := 0, cells := 1, slots := 1, locals := 0 } : Room) Z #[.int c0] h0 (Qtb Z c0 h0 n0) := by
  refine own_met pl12 (Lf := #[.val (.int c0)]) (fun m => by first | (simp [entryFrame, mkF, argsToLocals, Value.category]; done) | rfl) ?_
  intro p e s m below meth c T Y
  have Kp := Keep.refl h0 []
  have N := Fr.nil n0
  refine own_iconst 1 Y (1 : Int32) d12_0 rfl rfl ?_
  refine own_newP 3 Y (own_wd hw 61 rfl) 1 d12_1 (by decide) (by decide) (by decide) (by decide) (by decide) rfl fun T1 h1 d k_d Y1 g_d E1 V_d => ?_
  have gk_d := Nat.le_trans Kp.1 (Nat.le_of_eq g_d.symm)
  have gn_d : n0 ≤ d := by rw [g_d]; exact Zs
  have Kp := Kp.ext E1
  have Zs := Nat.le_trans Zs E1.1
  have V_d : Arv Z h1 d k_d .byte (1 : Int32) [(.int (0 : Int32))] (.int (0 : Int32)) := V_d.pad (pad_rep [] _ 1)
  refine own_dup 4 Y1 d12_3 rfl rfl ?_
  refine own_iconst 5 Y1 (0 : Int32) d12_4 rfl rfl ?_
  refine own_iloadN 6 Y1 d12_5 rfl rfl ?_
  refine own_i2b 7 Y1 d12_6 rfl ?_
  refine own_stB 8 Y1 V_d d12_7 ⟨by decide, by decide⟩ rfl fun T2 h2 Y2 W2 A2 => ?_
  have Kp := Kp.wr W2 (Or.inr gk_d)
  have N := own_frY Y2 N gn_d
  have Zs := Nat.le_trans Zs (Nat.le_of_eq W2.size.symm)
  have V_d : Arv Z h2 d k_d .byte (1 : Int32) [(.int (nar .byte c0.toInt8.toInt32))] (.int (0 : Int32)) := A2 0 rfl (Nat.le_of_ble_eq_true rfl) (fits_nar_byte _)
  exact own_retA Y2 rfl rfl rfl d12_8 (by decide) (by decide) ⟨d, k_d, rfl, gk_d, Kp, N, V_d⟩
def Qsbb (Z : State) (a d : Addr) (h0 : Heap) (n0 : Nat) (v : Option Value) (h : Heap) (L : List Loc) : Prop := v = none ∧ Keep h0 h [a] ∧ Fr n0 L ∧ Exa Z h a "java/lang/String" ∧ Fld Z h a "java/lang/String" "value" "[B" (.ref d) ∧ Fld Z h a "java/lang/String" "coder" "B" (.int (0 : Int32))
set_option maxRecDepth 65536 in
set_option maxHeartbeats 4000000 in
theorem c_sbb (l : Launch) (Z : State) (a0 : Array Value) (hw : ∀ d ∈ tables_1, d.before a0 Z = true) (a d : Addr) (h0 : Heap) (n0 : Nat) (ga : n0 ≤ a) (u1 u2 : Value) (X_a : Exa Z h0 a "java/lang/String") (F_a_value : Fld Z h0 a "java/lang/String" "value" "[B" u1) (F_a_coder : Fld Z h0 a "java/lang/String" "coder" "B" u2) : own_M l (⟨"java/lang/String", "<init>", "([BB)V"⟩ : MethodName) jdk_42_method_151_code 3 none [] ({ frames := 1, cells := 0, slots := 0, locals := 12 } : Room) Z #[.ref a, .ref d, .int (0 : Int32)] h0 (Qsbb Z a d h0 n0) := by
  refine own_met pl13 (Lf := #[.val (.ref a), .val (.ref d), .val (.int (0 : Int32))]) (fun m => by first | (simp [entryFrame, mkF, argsToLocals, Value.category]; done) | rfl) ?_
  intro p e s m below meth c T Y
  have Kp := Keep.refl h0 [a]
  have N := Fr.nil n0
  refine own_aloadN 1 Y d13_0 rfl rfl rfl ?_
  refine own_initO 4 Y (own_wd hw 82 rfl) (own_wd hw 22 rfl) (own_wd hw 23 rfl) d13_1 rfl (by decide) (by decide) rfl fun T2 Y1 => ?_
  refine own_aloadN 5 Y1 d13_4 rfl rfl rfl ?_
  refine own_aloadN 6 Y1 d13_5 rfl rfl rfl ?_
  refine own_putF 9 Y1 (host := "") (Or.inl (own_wd hw 84 rfl)) Via.refl F_a_value X_a (Or.inr ⟨(own_wd hw 62 rfl), rfl, rfl⟩) (own_wd hw 60 rfl) (ty := (.array .byte)) (by decide) rfl rfl d13_6 rfl fun T3 h3 Y3 W3 => ?_
  have X_a := X_a.wr W3
  have F_a_value := F_a_value.same W3
  have F_a_coder := F_a_coder.other W3 (Or.inr (slot_ne (Or.inr (own_wd hw 63 rfl)) (Or.inr (own_wd hw 62 rfl)) (by decide) (t := .byte) (t' := (.array .byte)) (by decide) (by decide)))
  have Kp := Kp.wr W3 (Or.inl (List.mem_of_getElem? (i := 0) rfl))
  have N := own_frY Y3 N ga
  refine own_aloadN 10 Y3 d13_9 rfl rfl rfl ?_
  refine own_iloadN 11 Y3 d13_10 rfl rfl ?_
  refine own_putFN 14 Y3 (own_wd hw 85 rfl) Via.refl F_a_coder X_a (Or.inr ⟨(own_wd hw 63 rfl), rfl, rfl⟩) (own_wd hw 60 rfl) (ty := .byte) (v' := (.int (0 : Int32))) (by decide) rfl rfl d13_11 rfl fun T4 h4 Y4 W4 => ?_
  have X_a := X_a.wr W4
  have F_a_value := F_a_value.other W4 (Or.inr (slot_ne (Or.inr (own_wd hw 62 rfl)) (Or.inr (own_wd hw 63 rfl)) (by decide) (t := (.array .byte)) (t' := .byte) (by decide) (by decide)))
  have F_a_coder := F_a_coder.same W4
  have Kp := Kp.wr W4 (Or.inl (List.mem_of_getElem? (i := 0) rfl))
  have N := own_frY Y4 N ga
  exact own_retV Y4 rfl d13_14 (by decide) (by decide) ⟨rfl, Kp, N, X_a, F_a_value, F_a_coder⟩
def Qvo (Z : State) (h0 : Heap) (n0 : Nat) (v : Option Value) (h : Heap) (L : List Loc) : Prop := Keep h0 h [] ∧ Fr n0 L ∧ ∃ (x d : Addr) (kd : ClassId) (n : Int32) (vs : List Value), v = some (.ref x) ∧ h0.size ≤ x ∧ Exa Z h x "java/lang/String" ∧ Fld Z h x "java/lang/String" "value" "[B" (.ref d) ∧ Fld Z h x "java/lang/String" "coder" "B" (.int (0 : Int32)) ∧ Arv Z h d kd .byte n vs (.int 0)
set_option maxRecDepth 65536 in
set_option maxHeartbeats 4000000 in
theorem c_vo (l : Launch) (Z : State) (a0 : Array Value) (hw : ∀ d ∈ tables_1, d.before a0 Z = true) (c0 : Int32) (hc : ¬ (255 : Int32) < c0) (z : Int32) (h0 : Heap) (n0 : Nat) (Zs : n0 ≤ h0.size) (O : Old Z n0 h0) (Sc : Sta Z Z.heap "java/lang/String" "COMPACT_STRINGS" "Z" (.int z)) (hz : ¬ z = 0) : own_M l (⟨"java/lang/String", "valueOf", "(C)Ljava/lang/String;"⟩ : MethodName) jdk_42_method_139_code 1 (some (.object "java/lang/String")) [] ({ frames := 2, cells := 2, slots := 5, locals := 40 } : Room) Z #[.int c0] h0 (Qvo Z h0 n0) := by
  refine own_met pl10 (Lf := #[.val (.int c0)]) (fun m => by first | (simp [entryFrame, mkF, argsToLocals, Value.category]; done) | rfl) ?_
  intro p e s m below meth c T Y
  have Kp := Keep.refl h0 []
  have N := Fr.nil n0
  refine own_getS 3 Y (host := "") (Or.inl (own_wd hw 89 rfl)) Via.refl (Sc.ext O.2) d10_0 rfl fun T2 Y1 => ?_
  refine own_ifF 6 Y1 d10_3 (XT.i0_eq_f hz) rfl ?_
  refine own_iloadN 7 Y1 d10_6 rfl rfl ?_
  refine own_callS 10 Y1 [(.int c0)] [] (own_wd hw 109 rfl) (own_wd hw 110 rfl) (own_wd hw 92 rfl) (own_wd hw 111 rfl) (c_ce l Z a0 hw c0 hc _) d10_7 (by decide) (lenOf pd11 rfl) rfl rfl (by decide) (Nat.le_of_ble_eq_true rfl) (by decide) (by decide) rfl fun v3 T3 h3 L3 Y3 hQ3 => ?_
  obtain ⟨rfl, rfl, rfl⟩ := hQ3
  have N := N.app (Fr.nil n0)
  show own_G p e below _ (T3.setTop (mkF m 10 #[.val (.int c0)] [(.int (1 : Int32))]))
  refine own_ifF 13 Y3 d10_10 (XT.i0_eq_f (by decide)) rfl ?_
  refine own_newO 16 Y3 (own_wd hw 88 rfl) (own_wd hw 60 rfl) (own_wd hw 59 rfl) d10_13 (by decide) (by decide) rfl fun T4 h4 x Y4 g_x E4 X_x D4 => ?_
  have gk_x := Nat.le_trans Kp.1 (Nat.le_of_eq g_x.symm)
  have gn_x : n0 ≤ x := by rw [g_x]; exact Zs
  have Kp := Kp.ext E4
  have Zs := Nat.le_trans Zs E4.1
  have O := O.ext E4
  have F_x_value := D4 (Or.inr (own_wd hw 62 rfl)) (ty := (.array .byte)) (by decide)
  have F_x_coder := D4 (Or.inr (own_wd hw 63 rfl)) (ty := .byte) (by decide)
  refine own_dup 17 Y4 d10_16 rfl rfl ?_
  refine own_iloadN 18 Y4 d10_17 rfl rfl ?_
  refine own_callS 21 Y4 [(.int c0)] [(.ref x), (.ref x)] (own_wd hw 112 rfl) (own_wd hw 113 rfl) (own_wd hw 92 rfl) (own_wd hw 114 rfl) (c_tb l Z a0 hw c0 _ n0 Zs) d10_18 (by decide) (lenOf pd12 rfl) rfl rfl (by decide) (Nat.le_of_ble_eq_true rfl) (by decide) (by decide) rfl fun v5 T5 h5 L5 Y5 hQ5 => ?_
  obtain ⟨d, kd, rfl, gk_d, K5, N5, V_d⟩ := hQ5
  have ne_x_d : x ≠ d := Nat.ne_of_lt (Nat.lt_of_lt_of_le X_x.lt gk_d)
  have Kp := Kp.trans K5 all0
  have N := N.app N5
  have Zs := Nat.le_trans Zs K5.1
  have O := O.keep K5 all0
  have X_x := X_x.keep K5
  have F_x_value := F_x_value.keep K5 nin0
  have F_x_coder := F_x_coder.keep K5 nin0
  show own_G p e below _ (T5.setTop (mkF m 21 #[.val (.int c0)] [(.ref d), (.ref x), (.ref x)]))
  refine own_iconst 22 Y5 (0 : Int32) d10_21 rfl rfl ?_
  refine own_callI 25 Y5 [(.ref d), (.int (0 : Int32))] [(.ref x)] rfl (own_wd hw 115 rfl) (own_wd hw 116 rfl) (own_wd hw 59 rfl) (own_wd hw 117 rfl) (c_sbb l Z a0 hw x d _ n0 gn_x _ _ X_x F_x_value F_x_coder) d10_22 (by decide) (lenOf pd13 rfl) rfl rfl (by decide) (Nat.le_of_ble_eq_true rfl) (by decide) (by decide) rfl fun v6 T6 h6 L6 Y6 hQ6 => ?_
  obtain ⟨rfl, K6, N6, G1, G2, G3⟩ := hQ6
  have Kp := Kp.trans K6 (allS (Or.inr gk_x) all0)
  have N := N.app N6
  have Zs := Nat.le_trans Zs K6.1
  have O := O.keep K6 (allS gn_x all0)
  have V_d := V_d.keep K6 (ninS (Ne.symm ne_x_d) nin0)
  have X_x := G1
  have F_x_value := G2
  have F_x_coder := G3
  show own_G p e below _ (T6.setTop (mkF m 25 #[.val (.int c0)] [(.ref x)]))
  exact own_retA Y6 rfl rfl rfl d10_25 (by decide) (by decide) ⟨Kp, N, x, d, kd, _, _, rfl, gk_x, X_x, F_x_value, F_x_coder, V_d⟩
def Qmk (Z : State) (p0 : Int32) (h0 : Heap) (n0 : Nat) (v : Option Value) (h : Heap) (L : List Loc) : Prop := Keep h0 h [] ∧ Fr n0 L ∧ ((p0 = 0 ∧ v = some .null) ∨ (¬ p0 = 0 ∧ ∃ (x d : Addr) (kd : ClassId) (n : Int32) (vs : List Value), v = some (.ref x) ∧ Exa Z h x "java/lang/String" ∧ Fld Z h x "java/lang/String" "value" "[B" (.ref d) ∧ Fld Z h x "java/lang/String" "coder" "B" (.int (0 : Int32)) ∧ Arv Z h d kd .byte n vs (.int 0)))
set_option maxRecDepth 65536 in
set_option maxHeartbeats 4000000 in
theorem c_mk (l : Launch) (Z : State) (a0 : Array Value) (hw : ∀ d ∈ tables_1, d.before a0 Z = true) (p0 p1 : Int32) (z : Int32) (h0 : Heap) (n0 : Nat) (Zs : n0 ≤ h0.size) (O : Old Z n0 h0) (Sc : Sta Z Z.heap "java/lang/String" "COMPACT_STRINGS" "Z" (.int z)) (hz : ¬ z = 0) : own_MW l (⟨"com/example/leading/leading/GlyphIsReadablePinLaw", "makeText", "(II)Ljava/lang/String;"⟩ : MethodName) method_3_code 4 (some (.object "java/lang/String")) [] ({ frames := 4, cells := 7, slots := 20, locals := 90 } : Room) Z EL0 #[.int p0, .int p1] h0 (Qmk Z p0 h0 n0) := by
  refine own_metW (own_el hw) pl1 (Lf := #[.val (.int p0), .val (.int p1), .unset, .unset]) (fun m => by first | (simp [entryFrame, mkF, argsToLocals, Value.category]; done) | rfl) ?_
  intro p e s m below meth c T Y H _
  have Kp := Keep.refl h0 []
  have N := Fr.nil n0
  refine own_iloadN 1 Y d1_0 rfl rfl ?_
  refine own_if_ne 6 4 Y d1_1 (by decide) rfl (fun q1 => ?_) (fun q1 => ?_)
  · refine own_iloadN 7 Y d1_6 rfl rfl ?_
    refine own_iconst 8 Y (1 : Int32) d1_7 rfl rfl ?_
    refine own_ic_ne 22 11 Y d1_8 (by decide) rfl (fun q8 => ?_) (fun q8 => ?_)
    · refine own_iloadN 23 Y d1_22 rfl rfl ?_
      refine own_sipush 26 Y (255 : Int32) d1_23 rfl rfl ?_
      refine own_iand 27 Y d1_26 rfl ?_
      refine own_i2c 28 Y d1_27 rfl ?_
      refine own_istoreN 29 Y #[.val (.int p0), .val (.int p1), .val (.int (p1 &&& (255 : Int32)).toUInt32.toUInt16.toUInt32.toInt32), .unset] d1_28 rfl rfl ?_
      refine own_iloadN 30 Y d1_29 rfl rfl ?_
      refine own_bipush 32 Y (8 : Int32) d1_30 rfl rfl ?_
      refine own_iushr 33 Y d1_32 rfl ?_
      refine own_sipush 36 Y (255 : Int32) d1_33 rfl rfl ?_
      refine own_iand 37 Y d1_36 rfl ?_
      refine own_i2c 38 Y d1_37 rfl ?_
      refine own_istoreN 39 Y #[.val (.int p0), .val (.int p1), .val (.int (p1 &&& (255 : Int32)).toUInt32.toUInt16.toUInt32.toInt32), .val (.int ((p1.toUInt32 >>> ((8 : Int32) &&& 31).toUInt32).toInt32 &&& (255 : Int32)).toUInt32.toUInt16.toUInt32.toInt32)] d1_38 rfl rfl ?_
      refine own_iloadN 40 Y d1_39 rfl rfl ?_
      refine own_iconst 41 Y (2 : Int32) d1_40 rfl rfl ?_
      refine own_ic_ne 49 44 Y d1_41 (by decide) rfl (fun q41 => ?_) (fun q41 => ?_)
      · refine own_newO 52 Y (own_wd hw 73 rfl) (own_wd hw 60 rfl) (own_wd hw 59 rfl) d1_49 (by decide) (by decide) rfl fun T1 h1 x Y1 g_x E1 X_x D1 => ?_
        have gk_x := Nat.le_trans Kp.1 (Nat.le_of_eq g_x.symm)
        have gn_x : n0 ≤ x := by rw [g_x]; exact Zs
        have sn_x := own_sNew H E1 g_x
        have Kp := Kp.ext E1
        have Zs := Nat.le_trans Zs E1.1
        have O := O.ext E1
        have H := H.ext E1
        have sf_x := sn_x
        have F_x_value := D1 (Or.inr (own_wd hw 62 rfl)) (ty := (.array .byte)) (by decide)
        have F_x_coder := D1 (Or.inr (own_wd hw 63 rfl)) (ty := .byte) (by decide)
        refine own_dup 53 Y1 d1_52 rfl rfl ?_
        refine own_iconst 54 Y1 (2 : Int32) d1_53 rfl rfl ?_
        refine own_newP 56 Y1 (own_wd hw 74 rfl) 2 d1_54 (by decide) (by decide) (by decide) (by decide) (by decide) rfl fun T2 h2 ca k_ca Y2 g_ca E2 V_ca => ?_
        have ne_x_ca : x ≠ ca := by rw [g_ca]; exact Nat.ne_of_lt X_x.lt
        have gk_ca := Nat.le_trans Kp.1 (Nat.le_of_eq g_ca.symm)
        have gn_ca : n0 ≤ ca := by rw [g_ca]; exact Zs
        have sn_ca := own_sNew H E2 g_ca
        have sf_x := H.sExt E2 sf_x
        have Kp := Kp.ext E2
        have Zs := Nat.le_trans Zs E2.1
        have O := O.ext E2
        have H := H.ext E2
        have X_x := X_x.ext E2
        have F_x_value := F_x_value.ext E2
        have F_x_coder := F_x_coder.ext E2
        have sf_ca := sn_ca
        have V_ca : Arv Z h2 ca k_ca .char (2 : Int32) [(.int (0 : Int32)), (.int (0 : Int32))] (.int (0 : Int32)) := V_ca.pad (pad_rep [] _ 2)
        refine own_dup 57 Y2 d1_56 rfl rfl ?_
        refine own_iconst 58 Y2 (0 : Int32) d1_57 rfl rfl ?_
        refine own_iloadN 59 Y2 d1_58 rfl rfl ?_
        refine own_stC 60 Y2 V_ca d1_59 ⟨by decide, by decide⟩ rfl fun T3 h3 Y3 W3 A3 => ?_
        have sf_x := H.sWr W3 sf_ca sf_x
        have H' := H.wr W3 sf_ca
        have sf_ca := H.sWr W3 sf_ca sf_ca
        have H := H'
        have Kp := Kp.wr W3 (Or.inr gk_ca)
        have N := own_frY Y3 N gn_ca
        have Zs := Nat.le_trans Zs (Nat.le_of_eq W3.size.symm)
        have O := O.wr W3 gn_ca
        have X_x := X_x.wr W3
        have F_x_value := F_x_value.other W3 (Or.inl ne_x_ca)
        have F_x_coder := F_x_coder.other W3 (Or.inl ne_x_ca)
        have V_ca : Arv Z h3 ca k_ca .char (2 : Int32) [(.int (nar .char (p1 &&& (255 : Int32)).toUInt32.toUInt16.toUInt32.toInt32)), (.int (0 : Int32))] (.int (0 : Int32)) := A3 0 rfl (Nat.le_of_ble_eq_true rfl) (fits_nar_char _)
        obtain ⟨c0, e_c0⟩ : ∃ c : Int32, c = nar .char (p1 &&& (255 : Int32)).toUInt32.toUInt16.toUInt32.toInt32 := ⟨_, rfl⟩
        rw [← e_c0] at V_ca
        have hc0 : ¬ (255 : Int32) < c0 := by rw [e_c0]; exact own_c255 _
        refine own_dup 61 Y3 d1_60 rfl rfl ?_
        refine own_iconst 62 Y3 (1 : Int32) d1_61 rfl rfl ?_
        refine own_iloadN 63 Y3 d1_62 rfl rfl ?_
        refine own_stC 64 Y3 V_ca d1_63 ⟨by decide, by decide⟩ rfl fun T4 h4 Y4 W4 A4 => ?_
        have sf_x := H.sWr W4 sf_ca sf_x
        have H' := H.wr W4 sf_ca
        have sf_ca := H.sWr W4 sf_ca sf_ca
        have H := H'
        have Kp := Kp.wr W4 (Or.inr gk_ca)
        have N := own_frY Y4 N gn_ca
        have Zs := Nat.le_trans Zs (Nat.le_of_eq W4.size.symm)
        have O := O.wr W4 gn_ca
        have X_x := X_x.wr W4
        have F_x_value := F_x_value.other W4 (Or.inl ne_x_ca)
        have F_x_coder := F_x_coder.other W4 (Or.inl ne_x_ca)
        have V_ca : Arv Z h4 ca k_ca .char (2 : Int32) [(.int c0), (.int (nar .char ((p1.toUInt32 >>> ((8 : Int32) &&& 31).toUInt32).toInt32 &&& (255 : Int32)).toUInt32.toUInt16.toUInt32.toInt32))] (.int (0 : Int32)) := A4 1 rfl (Nat.le_of_ble_eq_true rfl) (fits_nar_char _)
        obtain ⟨c1, e_c1⟩ : ∃ c : Int32, c = nar .char ((p1.toUInt32 >>> ((8 : Int32) &&& 31).toUInt32).toInt32 &&& (255 : Int32)).toUInt32.toUInt16.toUInt32.toInt32 := ⟨_, rfl⟩
        rw [← e_c1] at V_ca
        have hc1 : ¬ (255 : Int32) < c1 := by rw [e_c1]; exact own_c255 _
        refine own_callI 67 Y4 [(.ref ca)] [(.ref x)] rfl (own_wd hw 75 rfl) (own_wd hw 76 rfl) (own_wd hw 59 rfl) (own_wd hw 77 rfl) (c_new1_2 l Z a0 hw x ca k_ca c0 c1 hc0 hc1 z _ n0 Zs gn_x ne_x_ca O Sc hz _ _ X_x F_x_value F_x_coder V_ca) d1_64 (by decide) (lenOf pds5 rfl) rfl rfl (by decide) (Nat.le_of_ble_eq_true rfl) (by decide) (by decide) rfl fun v5 T5 h5 L5 Y5 hQ5 => ?_
        obtain ⟨rfl, K5, N5, X_x, d, kd, -, F_x_value, F_x_coder, V_d⟩ := hQ5
        have H := H.keep K5 (sfS sf_x sf0)
        have Kp := Kp.trans K5 (allS (Or.inr gk_x) all0)
        have N := N.app N5
        show own_G p e below _ (T5.setTop (mkF m 67 #[.val (.int p0), .val (.int p1), .val (.int (p1 &&& (255 : Int32)).toUInt32.toUInt16.toUInt32.toInt32), .val (.int ((p1.toUInt32 >>> ((8 : Int32) &&& 31).toUInt32).toInt32 &&& (255 : Int32)).toUInt32.toUInt16.toUInt32.toInt32)] [(.ref x)]))
        exact own_retAW Y5 H rfl rfl rfl d1_67 (by decide) (by decide) ⟨Kp, N, Or.inr ⟨q1, x, d, _, _, _, rfl, X_x, F_x_value, F_x_coder, V_d⟩⟩
      · refine own_iloadN 45 Y d1_44 rfl rfl ?_
        have hc_0 : ¬ (255 : Int32) < (p1 &&& (255 : Int32)).toUInt32.toUInt16.toUInt32.toInt32 := own_c255n p1
        refine own_callS 48 Y [(.int (p1 &&& (255 : Int32)).toUInt32.toUInt16.toUInt32.toInt32)] [] (own_wd hw 106 rfl) (own_wd hw 107 rfl) (own_wd hw 59 rfl) (own_wd hw 108 rfl) (c_vo l Z a0 hw (p1 &&& (255 : Int32)).toUInt32.toUInt16.toUInt32.toInt32 hc_0 z _ n0 Zs O Sc hz) d1_45 (by decide) (lenOf pd10 rfl) rfl rfl (by decide) (Nat.le_of_ble_eq_true rfl) (by decide) (by decide) rfl fun v6 T6 h6 L6 Y6 hQ6 => ?_
        obtain ⟨K6, N6, x, d, kd, n, vs, rfl, -, X_x, F_x_value, F_x_coder, V_d⟩ := hQ6
        have H := H.keep K6 sf0
        have Kp := Kp.trans K6 all0
        have N := N.app N6
        have Zs := Nat.le_trans Zs K6.1
        have O := O.keep K6 all0
        show own_G p e below _ (T6.setTop (mkF m 48 #[.val (.int p0), .val (.int p1), .val (.int (p1 &&& (255 : Int32)).toUInt32.toUInt16.toUInt32.toInt32), .val (.int ((p1.toUInt32 >>> ((8 : Int32) &&& 31).toUInt32).toInt32 &&& (255 : Int32)).toUInt32.toUInt16.toUInt32.toInt32)] [(.ref x)]))
        exact own_retAW Y6 H rfl rfl rfl d1_48 (by decide) (by decide) ⟨Kp, N, Or.inr ⟨q1, x, d, _, _, _, rfl, X_x, F_x_value, F_x_coder, V_d⟩⟩
    · refine own_newO 14 Y (own_wd hw 73 rfl) (own_wd hw 60 rfl) (own_wd hw 59 rfl) d1_11 (by decide) (by decide) rfl fun T7 h7 x Y7 g_x E7 X_x D7 => ?_
      have gk_x := Nat.le_trans Kp.1 (Nat.le_of_eq g_x.symm)
      have gn_x : n0 ≤ x := by rw [g_x]; exact Zs
      have sn_x := own_sNew H E7 g_x
      have Kp := Kp.ext E7
      have Zs := Nat.le_trans Zs E7.1
      have O := O.ext E7
      have H := H.ext E7
      have sf_x := sn_x
      have F_x_value := D7 (Or.inr (own_wd hw 62 rfl)) (ty := (.array .byte)) (by decide)
      have F_x_coder := D7 (Or.inr (own_wd hw 63 rfl)) (ty := .byte) (by decide)
      refine own_dup 15 Y7 d1_14 rfl rfl ?_
      refine own_iconst 16 Y7 (0 : Int32) d1_15 rfl rfl ?_
      refine own_newP 18 Y7 (own_wd hw 74 rfl) 0 d1_16 (by decide) (by decide) (by decide) (by decide) (by decide) rfl fun T8 h8 ca k_ca Y8 g_ca E8 V_ca => ?_
      have ne_x_ca : x ≠ ca := by rw [g_ca]; exact Nat.ne_of_lt X_x.lt
      have gk_ca := Nat.le_trans Kp.1 (Nat.le_of_eq g_ca.symm)
      have gn_ca : n0 ≤ ca := by rw [g_ca]; exact Zs
      have sn_ca := own_sNew H E8 g_ca
      have sf_x := H.sExt E8 sf_x
      have Kp := Kp.ext E8
      have Zs := Nat.le_trans Zs E8.1
      have O := O.ext E8
      have H := H.ext E8
      have X_x := X_x.ext E8
      have F_x_value := F_x_value.ext E8
      have F_x_coder := F_x_coder.ext E8
      have sf_ca := sn_ca
      have V_ca : Arv Z h8 ca k_ca .char (0 : Int32) [] (.int (0 : Int32)) := V_ca.pad (pad_rep [] _ 0)
      refine own_callIW 21 Y8 H [(.ref ca)] [(.ref x)] rfl (own_wd hw 75 rfl) (own_wd hw 76 rfl) (own_wd hw 59 rfl) (own_wd hw 77 rfl) (c_new1_0 l Z a0 hw x ca _ n0 gn_x _ X_x F_x_value F_x_coder k_ca V_ca) d1_18 (by decide) (lenOf pds5 rfl) rfl rfl (by decide) (Nat.le_of_ble_eq_true rfl) (by decide) (by decide) rfl fun v9 T9 h9 L9 vm9 Y9 H9 C9 hQ9 => ?_
      have sf_x := C9.safe X_x.lt sf_x
      have sf_ca := C9.safe V_ca.lt sf_ca
      have H := H9
      obtain ⟨rfl, K9, N9, X_x, d, kd, F_x_value, F_x_coder, V_d⟩ := hQ9
      have Kp := Kp.trans K9 (allS (Or.inr gk_x) all0)
      have N := N.app N9
      show own_G p e below _ (T9.setTop (mkF m 21 #[.val (.int p0), .val (.int p1), .unset, .unset] [(.ref x)]))
      exact own_retAW Y9 H rfl rfl rfl d1_21 (by decide) (by decide) ⟨Kp, N, Or.inr ⟨q1, x, d, _, _, _, rfl, X_x, F_x_value, F_x_coder, V_d⟩⟩
  · refine own_aconst_null 5 Y d1_4 rfl ?_
    exact own_retAW Y H rfl rfl rfl d1_5 (by decide) (by decide) ⟨Kp, N, Or.inl ⟨q1, rfl⟩⟩
def Q0 (n0 : Nat) (v : Option Value) (h : Heap) (L : List Loc) : Prop := v = some (.int 1) ∧ Fr n0 L
set_option maxRecDepth 65536 in
set_option maxHeartbeats 4000000 in
theorem c_law (l : Launch) (Z : State) (a0 : Array Value) (hw : ∀ d ∈ tables_1, d.before a0 Z = true) (x0 x1 x2 x3 x4 x5 : Int32) (b0 b1 b2 b3 : Addr) (z : Int32) (h0 : Heap) (n0 : Nat) (Zs : n0 ≤ h0.size) (O : Old Z n0 h0) (Sc : Sta Z Z.heap "java/lang/String" "COMPACT_STRINGS" "Z" (.int z)) (hz : ¬ z = 0) (S0 : Sta Z Z.heap "com/example/leading/leading/Direction" "RIGHT" "Lcom/example/leading/leading/Direction;" (.ref b0)) (S1 : Sta Z Z.heap "com/example/leading/leading/Direction" "UP" "Lcom/example/leading/leading/Direction;" (.ref b1)) (S2 : Sta Z Z.heap "com/example/leading/leading/Direction" "LEFT" "Lcom/example/leading/leading/Direction;" (.ref b2)) (S3 : Sta Z Z.heap "com/example/leading/leading/Direction" "DOWN" "Lcom/example/leading/leading/Direction;" (.ref b3)) : own_MW l x code maxLocals ret tables_1 room_1 Z EL0 #[.int x0, .int x1, .int x2, .int x3, .int x4, .int x5] h0 (Q0 n0) := by
  refine own_metW (own_el hw) pl0 (Lf := #[.val (.int x0), .val (.int x1), .val (.int x2), .val (.int x3), .val (.int x4), .val (.int x5), .unset, .unset, .unset, .unset, .unset, .unset, .unset, .unset, .unset, .unset, .unset, .unset]) (fun m => by first | (simp [entryFrame, mkF, argsToLocals, Value.category, maxLocals]; done) | rfl) ?_
  intro p e s m below meth c T Y H _
  refine own_iloadN 1 Y at_0 rfl rfl ?_
  refine own_iconst 2 Y (3 : Int32) at_1 rfl rfl ?_
  refine own_iand 3 Y at_2 rfl ?_
  have N := Fr.nil n0
  obtain ⟨k, ek⟩ : ∃ k : Int32, k = (x0 &&& (3 : Int32)) := ⟨_, rfl⟩
  rw [← ek]
  refine own_istore 5 Y #[.val (.int x0), .val (.int x1), .val (.int x2), .val (.int x3), .val (.int x4), .val (.int x5), .val (.int k), .unset, .unset, .unset, .unset, .unset, .unset, .unset, .unset, .unset, .unset, .unset] at_3 rfl rfl ?_
  refine own_iload 7 Y at_5 rfl rfl ?_
  refine own_iloadN 8 Y at_7 rfl rfl ?_
  refine own_callSW 11 Y H [(.int k), (.int x1)] [] (own_wd hw 0 rfl) (own_wd hw 1 rfl) (own_wd hw 2 rfl) (own_wd hw 3 rfl) (c_mk l Z a0 hw k x1 z _ n0 Zs O Sc hz) at_8 (by decide) (lenOf pd1 rfl) rfl rfl (by decide) (Nat.le_of_ble_eq_true rfl) (by decide) (by decide) rfl fun v1 T1 h1 L1 vm1 Y1 H1 C1 hQ1 => ?_
  have H := H1
  obtain ⟨K1, N1, hv⟩ := hQ1
  have N := N.app N1
  have Zs := Nat.le_trans Zs K1.1
  have O := O.keep K1 all0
  rcases hv with ⟨hk, rfl⟩ | ⟨hk, x, d, kd, n, vs, rfl, X_x, F_x_value, F_x_coder, V_d⟩
  · show own_G p e below _ (T1.setTop (mkF m 11 #[.val (.int x0), .val (.int x1), .val (.int x2), .val (.int x3), .val (.int x4), .val (.int x5), .val (.int k), .unset, .unset, .unset, .unset, .unset, .unset, .unset, .unset, .unset, .unset, .unset] [.null]))
    refine own_astore 13 Y1 #[.val (.int x0), .val (.int x1), .val (.int x2), .val (.int x3), .val (.int x4), .val (.int x5), .val (.int k), .val .null, .unset, .unset, .unset, .unset, .unset, .unset, .unset, .unset, .unset, .unset] at_11 rfl rfl rfl ?_
    refine own_iloadN 14 Y1 at_13 rfl rfl ?_
    refine own_iconst 15 Y1 (3 : Int32) at_14 rfl rfl ?_
    refine own_iand 16 Y1 at_15 rfl ?_
    refine own_callS 19 Y1 [(.int (x2 &&& (3 : Int32)))] [] (own_wd hw 4 rfl) (own_wd hw 5 rfl) (own_wd hw 2 rfl) (own_wd hw 6 rfl) (c_pick l Z a0 hw (x2 &&& (3 : Int32)) _ _ _ _ _ (S0.ext O.2) (S1.ext O.2) (S2.ext O.2) (S3.ext O.2)) at_16 (by decide) (lenOf pd2 rfl) rfl rfl (by decide) (Nat.le_of_ble_eq_true rfl) (by decide) (by decide) rfl fun v2 T2 h2 L2 Y2 hQ2 => ?_
    obtain ⟨rfl, rfl, dr, rfl⟩ := hQ2
    have N := N.app (Fr.nil n0)
    show own_G p e below _ (T2.setTop (mkF m 19 #[.val (.int x0), .val (.int x1), .val (.int x2), .val (.int x3), .val (.int x4), .val (.int x5), .val (.int k), .val .null, .unset, .unset, .unset, .unset, .unset, .unset, .unset, .unset, .unset, .unset] [(.ref dr)]))
    refine own_astore 21 Y2 #[.val (.int x0), .val (.int x1), .val (.int x2), .val (.int x3), .val (.int x4), .val (.int x5), .val (.int k), .val .null, .val (.ref dr), .unset, .unset, .unset, .unset, .unset, .unset, .unset, .unset, .unset] at_19 rfl rfl rfl ?_
    refine own_iloadN 22 Y2 at_21 rfl rfl ?_
    refine own_sipush 25 Y2 (4095 : Int32) at_22 rfl rfl ?_
    refine own_iand 26 Y2 at_25 rfl ?_
    refine own_istore 28 Y2 #[.val (.int x0), .val (.int x1), .val (.int x2), .val (.int x3), .val (.int x4), .val (.int x5), .val (.int k), .val .null, .val (.ref dr), .val (.int (x3 &&& (4095 : Int32))), .unset, .unset, .unset, .unset, .unset, .unset, .unset, .unset] at_26 rfl rfl ?_
    refine own_iload 30 Y2 at_28 rfl rfl ?_
    refine own_sipush 33 Y2 (4095 : Int32) at_30 rfl rfl ?_
    refine own_iand 34 Y2 at_33 rfl ?_
    refine own_istore 36 Y2 #[.val (.int x0), .val (.int x1), .val (.int x2), .val (.int x3), .val (.int x4), .val (.int x5), .val (.int k), .val .null, .val (.ref dr), .val (.int (x3 &&& (4095 : Int32))), .val (.int (x4 &&& (4095 : Int32))), .unset, .unset, .unset, .unset, .unset, .unset, .unset] at_34 rfl rfl ?_
    refine own_iloadN 37 Y2 at_36 rfl rfl ?_
    refine own_bipush 39 Y2 (12 : Int32) at_37 rfl rfl ?_
    refine own_iushr 40 Y2 at_39 rfl ?_
    refine own_sipush 43 Y2 (255 : Int32) at_40 rfl rfl ?_
    refine own_iand 44 Y2 at_43 rfl ?_
    refine own_istore 46 Y2 #[.val (.int x0), .val (.int x1), .val (.int x2), .val (.int x3), .val (.int x4), .val (.int x5), .val (.int k), .val .null, .val (.ref dr), .val (.int (x3 &&& (4095 : Int32))), .val (.int (x4 &&& (4095 : Int32))), .val (.int ((x3.toUInt32 >>> ((12 : Int32) &&& 31).toUInt32).toInt32 &&& (255 : Int32))), .unset, .unset, .unset, .unset, .unset, .unset] at_44 rfl rfl ?_
    refine own_iload 48 Y2 at_46 rfl rfl ?_
    refine own_bipush 50 Y2 (12 : Int32) at_48 rfl rfl ?_
    refine own_iushr 51 Y2 at_50 rfl ?_
    refine own_sipush 54 Y2 (255 : Int32) at_51 rfl rfl ?_
    refine own_iand 55 Y2 at_54 rfl ?_
    refine own_istore 57 Y2 #[.val (.int x0), .val (.int x1), .val (.int x2), .val (.int x3), .val (.int x4), .val (.int x5), .val (.int k), .val .null, .val (.ref dr), .val (.int (x3 &&& (4095 : Int32))), .val (.int (x4 &&& (4095 : Int32))), .val (.int ((x3.toUInt32 >>> ((12 : Int32) &&& 31).toUInt32).toInt32 &&& (255 : Int32))), .val (.int ((x4.toUInt32 >>> ((12 : Int32) &&& 31).toUInt32).toInt32 &&& (255 : Int32))), .unset, .unset, .unset, .unset, .unset] at_55 rfl rfl ?_
    refine own_newO 60 Y2 (own_wd hw 10 rfl) (own_wd hw 11 rfl) (own_wd hw 12 rfl) at_57 (by decide) (by decide) rfl fun T3 h3 bx Y3 g_bx E3 X_bx D3 => ?_
    have gn_bx : n0 ≤ bx := by rw [g_bx]; exact Zs
    have sn_bx := own_sNew H E3 g_bx
    have Zs := Nat.le_trans Zs E3.1
    have O := O.ext E3
    have H := H.ext E3
    have sf_bx := sn_bx
    have F_bx_left := D3 (Or.inr (own_wd hw 25 rfl)) (ty := .double) (by decide)
    have F_bx_top := D3 (Or.inr (own_wd hw 27 rfl)) (ty := .double) (by decide)
    have F_bx_right := D3 (Or.inr (own_wd hw 29 rfl)) (ty := .double) (by decide)
    have F_bx_bottom := D3 (Or.inr (own_wd hw 31 rfl)) (ty := .double) (by decide)
    refine own_dup 61 Y3 at_60 rfl rfl ?_
    refine own_iload 63 Y3 at_61 rfl rfl ?_
    refine own_i2d 64 Y3 at_63 rfl ?_
    refine own_iload 66 Y3 at_64 rfl rfl ?_
    refine own_i2d 67 Y3 at_66 rfl ?_
    refine own_iload 69 Y3 at_67 rfl rfl ?_
    refine own_iload 71 Y3 at_69 rfl rfl ?_
    refine own_iadd 72 Y3 at_71 rfl ?_
    refine own_i2d 73 Y3 at_72 rfl ?_
    refine own_iload 75 Y3 at_73 rfl rfl ?_
    refine own_iload 77 Y3 at_75 rfl rfl ?_
    refine own_iadd 78 Y3 at_77 rfl ?_
    refine own_i2d 79 Y3 at_78 rfl ?_
    refine own_callI 82 Y3 [(.double (FP.l2d (x3 &&& (4095 : Int32)).toInt64)), (.double (FP.l2d (x4 &&& (4095 : Int32)).toInt64)), (.double (FP.l2d ((x3 &&& (4095 : Int32)) + ((x3.toUInt32 >>> ((12 : Int32) &&& 31).toUInt32).toInt32 &&& (255 : Int32))).toInt64)), (.double (FP.l2d ((x4 &&& (4095 : Int32)) + ((x4.toUInt32 >>> ((12 : Int32) &&& 31).toUInt32).toInt32 &&& (255 : Int32))).toInt64))] [(.ref bx)] rfl (own_wd hw 13 rfl) (own_wd hw 14 rfl) (own_wd hw 12 rfl) (own_wd hw 15 rfl) (c_bini l Z a0 hw bx (FP.l2d (x3 &&& (4095 : Int32)).toInt64) (FP.l2d (x4 &&& (4095 : Int32)).toInt64) (FP.l2d ((x3 &&& (4095 : Int32)) + ((x3.toUInt32 >>> ((12 : Int32) &&& 31).toUInt32).toInt32 &&& (255 : Int32))).toInt64) (FP.l2d ((x4 &&& (4095 : Int32)) + ((x4.toUInt32 >>> ((12 : Int32) &&& 31).toUInt32).toInt32 &&& (255 : Int32))).toInt64) _ n0 gn_bx _ _ _ _ X_bx F_bx_left F_bx_top F_bx_right F_bx_bottom) at_79 (by decide) (lenOf pd3 rfl) rfl rfl (by decide) (Nat.le_of_ble_eq_true rfl) (by decide) (by decide) rfl fun v4 T4 h4 L4 Y4 hQ4 => ?_
    obtain ⟨rfl, K4, N4, G4, G4_0, G4_1, G4_2, G4_3⟩ := hQ4
    have hs' := (sfS sf_bx sf0)
    have sf_bx := H.sKeep K4 hs' sf_bx
    have H := H.keep K4 hs'
    have N := N.app N4
    have Zs := Nat.le_trans Zs K4.1
    have O := O.keep K4 (allS gn_bx all0)
    have X_bx := G4
    have F_bx_left := G4_0
    have F_bx_top := G4_1
    have F_bx_right := G4_2
    have F_bx_bottom := G4_3
    show own_G p e below _ (T4.setTop (mkF m 82 #[.val (.int x0), .val (.int x1), .val (.int x2), .val (.int x3), .val (.int x4), .val (.int x5), .val (.int k), .val .null, .val (.ref dr), .val (.int (x3 &&& (4095 : Int32))), .val (.int (x4 &&& (4095 : Int32))), .val (.int ((x3.toUInt32 >>> ((12 : Int32) &&& 31).toUInt32).toInt32 &&& (255 : Int32))), .val (.int ((x4.toUInt32 >>> ((12 : Int32) &&& 31).toUInt32).toInt32 &&& (255 : Int32))), .unset, .unset, .unset, .unset, .unset] [(.ref bx)]))
    refine own_astore 84 Y4 #[.val (.int x0), .val (.int x1), .val (.int x2), .val (.int x3), .val (.int x4), .val (.int x5), .val (.int k), .val .null, .val (.ref dr), .val (.int (x3 &&& (4095 : Int32))), .val (.int (x4 &&& (4095 : Int32))), .val (.int ((x3.toUInt32 >>> ((12 : Int32) &&& 31).toUInt32).toInt32 &&& (255 : Int32))), .val (.int ((x4.toUInt32 >>> ((12 : Int32) &&& 31).toUInt32).toInt32 &&& (255 : Int32))), .val (.ref bx), .unset, .unset, .unset, .unset] at_82 rfl rfl rfl ?_
    refine own_newO 87 Y4 (own_wd hw 32 rfl) (own_wd hw 33 rfl) (own_wd hw 34 rfl) at_84 (by decide) (by decide) rfl fun T5 h5 g Y5 g_g E5 X_g D5 => ?_
    have ne_bx_g : bx ≠ g := by rw [g_g]; exact Nat.ne_of_lt X_bx.lt
    have gn_g : n0 ≤ g := by rw [g_g]; exact Zs
    have sn_g := own_sNew H E5 g_g
    have sf_bx := H.sExt E5 sf_bx
    have Zs := Nat.le_trans Zs E5.1
    have O := O.ext E5
    have H := H.ext E5
    have X_bx := X_bx.ext E5
    have F_bx_left := F_bx_left.ext E5
    have F_bx_top := F_bx_top.ext E5
    have F_bx_right := F_bx_right.ext E5
    have F_bx_bottom := F_bx_bottom.ext E5
    have sf_g := sn_g
    have F_g_text := D5 (Or.inr (own_wd hw 41 rfl)) (ty := (.object "java/lang/String")) (by decide)
    have F_g_box := D5 (Or.inr (own_wd hw 43 rfl)) (ty := (.object "com/example/leading/leading/Box")) (by decide)
    have F_g_size := D5 (Or.inr (own_wd hw 45 rfl)) (ty := .double) (by decide)
    have F_g_direction := D5 (Or.inr (own_wd hw 47 rfl)) (ty := (.object "com/example/leading/leading/Direction")) (by decide)
    refine own_dup 88 Y5 at_87 rfl rfl ?_
    refine own_aload 90 Y5 at_88 rfl rfl rfl ?_
    refine own_aload 92 Y5 at_90 rfl rfl rfl ?_
    refine own_iload 94 Y5 at_92 rfl rfl ?_
    refine own_ldcI 96 Y5 (own_wd hw 35 rfl) at_94 rfl ?_
    refine own_iand 97 Y5 at_96 rfl ?_
    refine own_i2d 98 Y5 at_97 rfl ?_
    refine own_aload 100 Y5 at_98 rfl rfl rfl ?_
    refine own_callI 103 Y5 [.null, (.ref bx), (.double (FP.l2d (x5 &&& (65535 : Int32)).toInt64)), (.ref dr)] [(.ref g)] rfl (own_wd hw 36 rfl) (own_wd hw 37 rfl) (own_wd hw 34 rfl) (own_wd hw 38 rfl) (c_gini l Z a0 hw g .null rfl (.ref bx) rfl (FP.l2d (x5 &&& (65535 : Int32)).toInt64) (.ref dr) rfl _ n0 gn_g _ _ _ _ X_g F_g_text F_g_box F_g_size F_g_direction) at_100 (by decide) (lenOf pd5 rfl) rfl rfl (by decide) (Nat.le_of_ble_eq_true rfl) (by decide) (by decide) rfl fun v6 T6 h6 L6 Y6 hQ6 => ?_
    obtain ⟨rfl, K6, N6, G6, G6_0, G6_1, G6_2, G6_3⟩ := hQ6
    have hs' := (sfS sf_g sf0)
    have sf_bx := H.sKeep K6 hs' sf_bx
    have sf_g := H.sKeep K6 hs' sf_g
    have H := H.keep K6 hs'
    have N := N.app N6
    have Zs := Nat.le_trans Zs K6.1
    have O := O.keep K6 (allS gn_g all0)
    have X_bx := X_bx.keep K6
    have F_bx_left := F_bx_left.keep K6 (ninS ne_bx_g nin0)
    have F_bx_top := F_bx_top.keep K6 (ninS ne_bx_g nin0)
    have F_bx_right := F_bx_right.keep K6 (ninS ne_bx_g nin0)
    have F_bx_bottom := F_bx_bottom.keep K6 (ninS ne_bx_g nin0)
    have X_g := G6
    have F_g_text := G6_0
    have F_g_box := G6_1
    have F_g_size := G6_2
    have F_g_direction := G6_3
    show own_G p e below _ (T6.setTop (mkF m 103 #[.val (.int x0), .val (.int x1), .val (.int x2), .val (.int x3), .val (.int x4), .val (.int x5), .val (.int k), .val .null, .val (.ref dr), .val (.int (x3 &&& (4095 : Int32))), .val (.int (x4 &&& (4095 : Int32))), .val (.int ((x3.toUInt32 >>> ((12 : Int32) &&& 31).toUInt32).toInt32 &&& (255 : Int32))), .val (.int ((x4.toUInt32 >>> ((12 : Int32) &&& 31).toUInt32).toInt32 &&& (255 : Int32))), .val (.ref bx), .unset, .unset, .unset, .unset] [(.ref g)]))
    refine own_astore 105 Y6 #[.val (.int x0), .val (.int x1), .val (.int x2), .val (.int x3), .val (.int x4), .val (.int x5), .val (.int k), .val .null, .val (.ref dr), .val (.int (x3 &&& (4095 : Int32))), .val (.int (x4 &&& (4095 : Int32))), .val (.int ((x3.toUInt32 >>> ((12 : Int32) &&& 31).toUInt32).toInt32 &&& (255 : Int32))), .val (.int ((x4.toUInt32 >>> ((12 : Int32) &&& 31).toUInt32).toInt32 &&& (255 : Int32))), .val (.ref bx), .val (.ref g), .unset, .unset, .unset] at_103 rfl rfl rfl ?_
    refine own_iload 107 Y6 at_105 rfl rfl ?_
    refine own_ifT 114 Y6 at_107 (XT.i0_eq_t hk) (by decide) ?_
    refine own_iconst 115 Y6 (0 : Int32) at_114 rfl rfl ?_
    refine own_istore 117 Y6 #[.val (.int x0), .val (.int x1), .val (.int x2), .val (.int x3), .val (.int x4), .val (.int x5), .val (.int k), .val .null, .val (.ref dr), .val (.int (x3 &&& (4095 : Int32))), .val (.int (x4 &&& (4095 : Int32))), .val (.int ((x3.toUInt32 >>> ((12 : Int32) &&& 31).toUInt32).toInt32 &&& (255 : Int32))), .val (.int ((x4.toUInt32 >>> ((12 : Int32) &&& 31).toUInt32).toInt32 &&& (255 : Int32))), .val (.ref bx), .val (.ref g), .val (.int (0 : Int32)), .unset, .unset] at_115 rfl rfl ?_
    refine own_aload 119 Y6 at_117 rfl rfl rfl ?_
    refine own_callV 122 Y6 [] [] X_g (own_wd hw 48 rfl) (own_wd hw 49 rfl) (notFace_of_selects (args := #[]) (mvT Y6.warm (own_wd hw 51 rfl))) (own_wd hw 51 rfl) (own_wd hw 50 rfl) (own_wd hw 34 rfl) (own_wd hw 52 rfl) (c_ir_n l Z a0 hw g _ F_g_text) at_119 (by decide) (lenOf pd6 rfl) rfl rfl (by decide) (Nat.le_of_ble_eq_true rfl) (by decide) (by decide) rfl fun v7 T7 h7 L7 Y7 hQ7 => ?_
    obtain ⟨rfl, rfl, rfl⟩ := hQ7
    have N := N.app (Fr.nil n0)
    show own_G p e below _ (T7.setTop (mkF m 122 #[.val (.int x0), .val (.int x1), .val (.int x2), .val (.int x3), .val (.int x4), .val (.int x5), .val (.int k), .val .null, .val (.ref dr), .val (.int (x3 &&& (4095 : Int32))), .val (.int (x4 &&& (4095 : Int32))), .val (.int ((x3.toUInt32 >>> ((12 : Int32) &&& 31).toUInt32).toInt32 &&& (255 : Int32))), .val (.int ((x4.toUInt32 >>> ((12 : Int32) &&& 31).toUInt32).toInt32 &&& (255 : Int32))), .val (.ref bx), .val (.ref g), .val (.int (0 : Int32)), .unset, .unset] [(.int (0 : Int32))]))
    refine own_istore 124 Y7 #[.val (.int x0), .val (.int x1), .val (.int x2), .val (.int x3), .val (.int x4), .val (.int x5), .val (.int k), .val .null, .val (.ref dr), .val (.int (x3 &&& (4095 : Int32))), .val (.int (x4 &&& (4095 : Int32))), .val (.int ((x3.toUInt32 >>> ((12 : Int32) &&& 31).toUInt32).toInt32 &&& (255 : Int32))), .val (.int ((x4.toUInt32 >>> ((12 : Int32) &&& 31).toUInt32).toInt32 &&& (255 : Int32))), .val (.ref bx), .val (.ref g), .val (.int (0 : Int32)), .val (.int (0 : Int32)), .unset] at_122 rfl rfl ?_
    refine own_aload 126 Y7 at_124 rfl rfl rfl ?_
    refine own_callVW 129 Y7 H [] [] X_g (own_wd hw 53 rfl) (own_wd hw 54 rfl) (notFace_of_selects (args := #[]) (mvT Y7.warm (own_wd hw 56 rfl))) (own_wd hw 56 rfl) (own_wd hw 55 rfl) (own_wd hw 34 rfl) (own_wd hw 57 rfl) (c_isp_n l Z a0 hw  z _ n0 O Sc hz g F_g_text) at_126 (by decide) (lenOf pd7 rfl) rfl rfl (by decide) (Nat.le_of_ble_eq_true rfl) (by decide) (by decide) rfl fun v8 T8 h8 L8 vm8 Y8 H8 C8 hQ8 => ?_
    have sf_bx := C8.safe X_bx.lt sf_bx
    have sf_g := C8.safe X_g.lt sf_g
    have H := H8
    obtain ⟨K8, N8, sp, rfl, rfl⟩ := hQ8
    have N := N.app N8
    show own_G p e below _ (T8.setTop (mkF m 129 #[.val (.int x0), .val (.int x1), .val (.int x2), .val (.int x3), .val (.int x4), .val (.int x5), .val (.int k), .val .null, .val (.ref dr), .val (.int (x3 &&& (4095 : Int32))), .val (.int (x4 &&& (4095 : Int32))), .val (.int ((x3.toUInt32 >>> ((12 : Int32) &&& 31).toUInt32).toInt32 &&& (255 : Int32))), .val (.int ((x4.toUInt32 >>> ((12 : Int32) &&& 31).toUInt32).toInt32 &&& (255 : Int32))), .val (.ref bx), .val (.ref g), .val (.int (0 : Int32)), .val (.int (0 : Int32)), .unset] [(.int (0 : Int32))]))
    refine own_istore 131 Y8 #[.val (.int x0), .val (.int x1), .val (.int x2), .val (.int x3), .val (.int x4), .val (.int x5), .val (.int k), .val .null, .val (.ref dr), .val (.int (x3 &&& (4095 : Int32))), .val (.int (x4 &&& (4095 : Int32))), .val (.int ((x3.toUInt32 >>> ((12 : Int32) &&& 31).toUInt32).toInt32 &&& (255 : Int32))), .val (.int ((x4.toUInt32 >>> ((12 : Int32) &&& 31).toUInt32).toInt32 &&& (255 : Int32))), .val (.ref bx), .val (.ref g), .val (.int (0 : Int32)), .val (.int (0 : Int32)), .val (.int (0 : Int32))] at_129 rfl rfl ?_
    refine own_iload 133 Y8 at_131 rfl rfl ?_
    refine own_iload 135 Y8 at_133 rfl rfl ?_
    refine own_icF 138 Y8 at_135 (XT.ii_ne_f (by decide)) rfl ?_
    refine own_iload 140 Y8 at_138 rfl rfl ?_
    refine own_ifT 148 Y8 at_140 (XT.i0_eq_t (by decide)) (by decide) ?_
    refine own_iconst 149 Y8 (1 : Int32) at_148 rfl rfl ?_
    refine own_goto 153 Y8 at_149 (by decide) ?_
    exact own_retNW Y8 H (t := .boolean) rfl (by simp) at_153 (by decide) (by decide) ⟨rfl, N⟩
  · show own_G p e below _ (T1.setTop (mkF m 11 #[.val (.int x0), .val (.int x1), .val (.int x2), .val (.int x3), .val (.int x4), .val (.int x5), .val (.int k), .unset, .unset, .unset, .unset, .unset, .unset, .unset, .unset, .unset, .unset, .unset] [(.ref x)]))
    refine own_astore 13 Y1 #[.val (.int x0), .val (.int x1), .val (.int x2), .val (.int x3), .val (.int x4), .val (.int x5), .val (.int k), .val (.ref x), .unset, .unset, .unset, .unset, .unset, .unset, .unset, .unset, .unset, .unset] at_11 rfl rfl rfl ?_
    refine own_iloadN 14 Y1 at_13 rfl rfl ?_
    refine own_iconst 15 Y1 (3 : Int32) at_14 rfl rfl ?_
    refine own_iand 16 Y1 at_15 rfl ?_
    refine own_callS 19 Y1 [(.int (x2 &&& (3 : Int32)))] [] (own_wd hw 4 rfl) (own_wd hw 5 rfl) (own_wd hw 2 rfl) (own_wd hw 6 rfl) (c_pick l Z a0 hw (x2 &&& (3 : Int32)) _ _ _ _ _ (S0.ext O.2) (S1.ext O.2) (S2.ext O.2) (S3.ext O.2)) at_16 (by decide) (lenOf pd2 rfl) rfl rfl (by decide) (Nat.le_of_ble_eq_true rfl) (by decide) (by decide) rfl fun v9 T9 h9 L9 Y9 hQ9 => ?_
    obtain ⟨rfl, rfl, dr, rfl⟩ := hQ9
    have N := N.app (Fr.nil n0)
    show own_G p e below _ (T9.setTop (mkF m 19 #[.val (.int x0), .val (.int x1), .val (.int x2), .val (.int x3), .val (.int x4), .val (.int x5), .val (.int k), .val (.ref x), .unset, .unset, .unset, .unset, .unset, .unset, .unset, .unset, .unset, .unset] [(.ref dr)]))
    refine own_astore 21 Y9 #[.val (.int x0), .val (.int x1), .val (.int x2), .val (.int x3), .val (.int x4), .val (.int x5), .val (.int k), .val (.ref x), .val (.ref dr), .unset, .unset, .unset, .unset, .unset, .unset, .unset, .unset, .unset] at_19 rfl rfl rfl ?_
    refine own_iloadN 22 Y9 at_21 rfl rfl ?_
    refine own_sipush 25 Y9 (4095 : Int32) at_22 rfl rfl ?_
    refine own_iand 26 Y9 at_25 rfl ?_
    refine own_istore 28 Y9 #[.val (.int x0), .val (.int x1), .val (.int x2), .val (.int x3), .val (.int x4), .val (.int x5), .val (.int k), .val (.ref x), .val (.ref dr), .val (.int (x3 &&& (4095 : Int32))), .unset, .unset, .unset, .unset, .unset, .unset, .unset, .unset] at_26 rfl rfl ?_
    refine own_iload 30 Y9 at_28 rfl rfl ?_
    refine own_sipush 33 Y9 (4095 : Int32) at_30 rfl rfl ?_
    refine own_iand 34 Y9 at_33 rfl ?_
    refine own_istore 36 Y9 #[.val (.int x0), .val (.int x1), .val (.int x2), .val (.int x3), .val (.int x4), .val (.int x5), .val (.int k), .val (.ref x), .val (.ref dr), .val (.int (x3 &&& (4095 : Int32))), .val (.int (x4 &&& (4095 : Int32))), .unset, .unset, .unset, .unset, .unset, .unset, .unset] at_34 rfl rfl ?_
    refine own_iloadN 37 Y9 at_36 rfl rfl ?_
    refine own_bipush 39 Y9 (12 : Int32) at_37 rfl rfl ?_
    refine own_iushr 40 Y9 at_39 rfl ?_
    refine own_sipush 43 Y9 (255 : Int32) at_40 rfl rfl ?_
    refine own_iand 44 Y9 at_43 rfl ?_
    refine own_istore 46 Y9 #[.val (.int x0), .val (.int x1), .val (.int x2), .val (.int x3), .val (.int x4), .val (.int x5), .val (.int k), .val (.ref x), .val (.ref dr), .val (.int (x3 &&& (4095 : Int32))), .val (.int (x4 &&& (4095 : Int32))), .val (.int ((x3.toUInt32 >>> ((12 : Int32) &&& 31).toUInt32).toInt32 &&& (255 : Int32))), .unset, .unset, .unset, .unset, .unset, .unset] at_44 rfl rfl ?_
    refine own_iload 48 Y9 at_46 rfl rfl ?_
    refine own_bipush 50 Y9 (12 : Int32) at_48 rfl rfl ?_
    refine own_iushr 51 Y9 at_50 rfl ?_
    refine own_sipush 54 Y9 (255 : Int32) at_51 rfl rfl ?_
    refine own_iand 55 Y9 at_54 rfl ?_
    refine own_istore 57 Y9 #[.val (.int x0), .val (.int x1), .val (.int x2), .val (.int x3), .val (.int x4), .val (.int x5), .val (.int k), .val (.ref x), .val (.ref dr), .val (.int (x3 &&& (4095 : Int32))), .val (.int (x4 &&& (4095 : Int32))), .val (.int ((x3.toUInt32 >>> ((12 : Int32) &&& 31).toUInt32).toInt32 &&& (255 : Int32))), .val (.int ((x4.toUInt32 >>> ((12 : Int32) &&& 31).toUInt32).toInt32 &&& (255 : Int32))), .unset, .unset, .unset, .unset, .unset] at_55 rfl rfl ?_
    refine own_newO 60 Y9 (own_wd hw 10 rfl) (own_wd hw 11 rfl) (own_wd hw 12 rfl) at_57 (by decide) (by decide) rfl fun T10 h10 bx Y10 g_bx E10 X_bx D10 => ?_
    have ne_x_bx : x ≠ bx := by rw [g_bx]; exact Nat.ne_of_lt X_x.lt
    have ne_d_bx : d ≠ bx := by rw [g_bx]; exact Nat.ne_of_lt V_d.lt
    have gn_bx : n0 ≤ bx := by rw [g_bx]; exact Zs
    have sn_bx := own_sNew H E10 g_bx
    have Zs := Nat.le_trans Zs E10.1
    have O := O.ext E10
    have H := H.ext E10
    have X_x := X_x.ext E10
    have F_x_value := F_x_value.ext E10
    have F_x_coder := F_x_coder.ext E10
    have V_d := V_d.ext E10
    have sf_bx := sn_bx
    have F_bx_left := D10 (Or.inr (own_wd hw 25 rfl)) (ty := .double) (by decide)
    have F_bx_top := D10 (Or.inr (own_wd hw 27 rfl)) (ty := .double) (by decide)
    have F_bx_right := D10 (Or.inr (own_wd hw 29 rfl)) (ty := .double) (by decide)
    have F_bx_bottom := D10 (Or.inr (own_wd hw 31 rfl)) (ty := .double) (by decide)
    refine own_dup 61 Y10 at_60 rfl rfl ?_
    refine own_iload 63 Y10 at_61 rfl rfl ?_
    refine own_i2d 64 Y10 at_63 rfl ?_
    refine own_iload 66 Y10 at_64 rfl rfl ?_
    refine own_i2d 67 Y10 at_66 rfl ?_
    refine own_iload 69 Y10 at_67 rfl rfl ?_
    refine own_iload 71 Y10 at_69 rfl rfl ?_
    refine own_iadd 72 Y10 at_71 rfl ?_
    refine own_i2d 73 Y10 at_72 rfl ?_
    refine own_iload 75 Y10 at_73 rfl rfl ?_
    refine own_iload 77 Y10 at_75 rfl rfl ?_
    refine own_iadd 78 Y10 at_77 rfl ?_
    refine own_i2d 79 Y10 at_78 rfl ?_
    refine own_callI 82 Y10 [(.double (FP.l2d (x3 &&& (4095 : Int32)).toInt64)), (.double (FP.l2d (x4 &&& (4095 : Int32)).toInt64)), (.double (FP.l2d ((x3 &&& (4095 : Int32)) + ((x3.toUInt32 >>> ((12 : Int32) &&& 31).toUInt32).toInt32 &&& (255 : Int32))).toInt64)), (.double (FP.l2d ((x4 &&& (4095 : Int32)) + ((x4.toUInt32 >>> ((12 : Int32) &&& 31).toUInt32).toInt32 &&& (255 : Int32))).toInt64))] [(.ref bx)] rfl (own_wd hw 13 rfl) (own_wd hw 14 rfl) (own_wd hw 12 rfl) (own_wd hw 15 rfl) (c_bini l Z a0 hw bx (FP.l2d (x3 &&& (4095 : Int32)).toInt64) (FP.l2d (x4 &&& (4095 : Int32)).toInt64) (FP.l2d ((x3 &&& (4095 : Int32)) + ((x3.toUInt32 >>> ((12 : Int32) &&& 31).toUInt32).toInt32 &&& (255 : Int32))).toInt64) (FP.l2d ((x4 &&& (4095 : Int32)) + ((x4.toUInt32 >>> ((12 : Int32) &&& 31).toUInt32).toInt32 &&& (255 : Int32))).toInt64) _ n0 gn_bx _ _ _ _ X_bx F_bx_left F_bx_top F_bx_right F_bx_bottom) at_79 (by decide) (lenOf pd3 rfl) rfl rfl (by decide) (Nat.le_of_ble_eq_true rfl) (by decide) (by decide) rfl fun v11 T11 h11 L11 Y11 hQ11 => ?_
    obtain ⟨rfl, K11, N11, G11, G11_0, G11_1, G11_2, G11_3⟩ := hQ11
    have hs' := (sfS sf_bx sf0)
    have sf_bx := H.sKeep K11 hs' sf_bx
    have H := H.keep K11 hs'
    have N := N.app N11
    have Zs := Nat.le_trans Zs K11.1
    have O := O.keep K11 (allS gn_bx all0)
    have X_x := X_x.keep K11
    have F_x_value := F_x_value.keep K11 (ninS ne_x_bx nin0)
    have F_x_coder := F_x_coder.keep K11 (ninS ne_x_bx nin0)
    have V_d := V_d.keep K11 (ninS ne_d_bx nin0)
    have X_bx := G11
    have F_bx_left := G11_0
    have F_bx_top := G11_1
    have F_bx_right := G11_2
    have F_bx_bottom := G11_3
    show own_G p e below _ (T11.setTop (mkF m 82 #[.val (.int x0), .val (.int x1), .val (.int x2), .val (.int x3), .val (.int x4), .val (.int x5), .val (.int k), .val (.ref x), .val (.ref dr), .val (.int (x3 &&& (4095 : Int32))), .val (.int (x4 &&& (4095 : Int32))), .val (.int ((x3.toUInt32 >>> ((12 : Int32) &&& 31).toUInt32).toInt32 &&& (255 : Int32))), .val (.int ((x4.toUInt32 >>> ((12 : Int32) &&& 31).toUInt32).toInt32 &&& (255 : Int32))), .unset, .unset, .unset, .unset, .unset] [(.ref bx)]))
    refine own_astore 84 Y11 #[.val (.int x0), .val (.int x1), .val (.int x2), .val (.int x3), .val (.int x4), .val (.int x5), .val (.int k), .val (.ref x), .val (.ref dr), .val (.int (x3 &&& (4095 : Int32))), .val (.int (x4 &&& (4095 : Int32))), .val (.int ((x3.toUInt32 >>> ((12 : Int32) &&& 31).toUInt32).toInt32 &&& (255 : Int32))), .val (.int ((x4.toUInt32 >>> ((12 : Int32) &&& 31).toUInt32).toInt32 &&& (255 : Int32))), .val (.ref bx), .unset, .unset, .unset, .unset] at_82 rfl rfl rfl ?_
    refine own_newO 87 Y11 (own_wd hw 32 rfl) (own_wd hw 33 rfl) (own_wd hw 34 rfl) at_84 (by decide) (by decide) rfl fun T12 h12 g Y12 g_g E12 X_g D12 => ?_
    have ne_x_g : x ≠ g := by rw [g_g]; exact Nat.ne_of_lt X_x.lt
    have ne_d_g : d ≠ g := by rw [g_g]; exact Nat.ne_of_lt V_d.lt
    have ne_bx_g : bx ≠ g := by rw [g_g]; exact Nat.ne_of_lt X_bx.lt
    have gn_g : n0 ≤ g := by rw [g_g]; exact Zs
    have sn_g := own_sNew H E12 g_g
    have sf_bx := H.sExt E12 sf_bx
    have Zs := Nat.le_trans Zs E12.1
    have O := O.ext E12
    have H := H.ext E12
    have X_x := X_x.ext E12
    have F_x_value := F_x_value.ext E12
    have F_x_coder := F_x_coder.ext E12
    have V_d := V_d.ext E12
    have X_bx := X_bx.ext E12
    have F_bx_left := F_bx_left.ext E12
    have F_bx_top := F_bx_top.ext E12
    have F_bx_right := F_bx_right.ext E12
    have F_bx_bottom := F_bx_bottom.ext E12
    have sf_g := sn_g
    have F_g_text := D12 (Or.inr (own_wd hw 41 rfl)) (ty := (.object "java/lang/String")) (by decide)
    have F_g_box := D12 (Or.inr (own_wd hw 43 rfl)) (ty := (.object "com/example/leading/leading/Box")) (by decide)
    have F_g_size := D12 (Or.inr (own_wd hw 45 rfl)) (ty := .double) (by decide)
    have F_g_direction := D12 (Or.inr (own_wd hw 47 rfl)) (ty := (.object "com/example/leading/leading/Direction")) (by decide)
    refine own_dup 88 Y12 at_87 rfl rfl ?_
    refine own_aload 90 Y12 at_88 rfl rfl rfl ?_
    refine own_aload 92 Y12 at_90 rfl rfl rfl ?_
    refine own_iload 94 Y12 at_92 rfl rfl ?_
    refine own_ldcI 96 Y12 (own_wd hw 35 rfl) at_94 rfl ?_
    refine own_iand 97 Y12 at_96 rfl ?_
    refine own_i2d 98 Y12 at_97 rfl ?_
    refine own_aload 100 Y12 at_98 rfl rfl rfl ?_
    refine own_callI 103 Y12 [(.ref x), (.ref bx), (.double (FP.l2d (x5 &&& (65535 : Int32)).toInt64)), (.ref dr)] [(.ref g)] rfl (own_wd hw 36 rfl) (own_wd hw 37 rfl) (own_wd hw 34 rfl) (own_wd hw 38 rfl) (c_gini l Z a0 hw g (.ref x) rfl (.ref bx) rfl (FP.l2d (x5 &&& (65535 : Int32)).toInt64) (.ref dr) rfl _ n0 gn_g _ _ _ _ X_g F_g_text F_g_box F_g_size F_g_direction) at_100 (by decide) (lenOf pd5 rfl) rfl rfl (by decide) (Nat.le_of_ble_eq_true rfl) (by decide) (by decide) rfl fun v13 T13 h13 L13 Y13 hQ13 => ?_
    obtain ⟨rfl, K13, N13, G13, G13_0, G13_1, G13_2, G13_3⟩ := hQ13
    have hs' := (sfS sf_g sf0)
    have sf_bx := H.sKeep K13 hs' sf_bx
    have sf_g := H.sKeep K13 hs' sf_g
    have H := H.keep K13 hs'
    have N := N.app N13
    have Zs := Nat.le_trans Zs K13.1
    have O := O.keep K13 (allS gn_g all0)
    have X_x := X_x.keep K13
    have F_x_value := F_x_value.keep K13 (ninS ne_x_g nin0)
    have F_x_coder := F_x_coder.keep K13 (ninS ne_x_g nin0)
    have V_d := V_d.keep K13 (ninS ne_d_g nin0)
    have X_bx := X_bx.keep K13
    have F_bx_left := F_bx_left.keep K13 (ninS ne_bx_g nin0)
    have F_bx_top := F_bx_top.keep K13 (ninS ne_bx_g nin0)
    have F_bx_right := F_bx_right.keep K13 (ninS ne_bx_g nin0)
    have F_bx_bottom := F_bx_bottom.keep K13 (ninS ne_bx_g nin0)
    have X_g := G13
    have F_g_text := G13_0
    have F_g_box := G13_1
    have F_g_size := G13_2
    have F_g_direction := G13_3
    show own_G p e below _ (T13.setTop (mkF m 103 #[.val (.int x0), .val (.int x1), .val (.int x2), .val (.int x3), .val (.int x4), .val (.int x5), .val (.int k), .val (.ref x), .val (.ref dr), .val (.int (x3 &&& (4095 : Int32))), .val (.int (x4 &&& (4095 : Int32))), .val (.int ((x3.toUInt32 >>> ((12 : Int32) &&& 31).toUInt32).toInt32 &&& (255 : Int32))), .val (.int ((x4.toUInt32 >>> ((12 : Int32) &&& 31).toUInt32).toInt32 &&& (255 : Int32))), .val (.ref bx), .unset, .unset, .unset, .unset] [(.ref g)]))
    refine own_astore 105 Y13 #[.val (.int x0), .val (.int x1), .val (.int x2), .val (.int x3), .val (.int x4), .val (.int x5), .val (.int k), .val (.ref x), .val (.ref dr), .val (.int (x3 &&& (4095 : Int32))), .val (.int (x4 &&& (4095 : Int32))), .val (.int ((x3.toUInt32 >>> ((12 : Int32) &&& 31).toUInt32).toInt32 &&& (255 : Int32))), .val (.int ((x4.toUInt32 >>> ((12 : Int32) &&& 31).toUInt32).toInt32 &&& (255 : Int32))), .val (.ref bx), .val (.ref g), .unset, .unset, .unset] at_103 rfl rfl rfl ?_
    refine own_iload 107 Y13 at_105 rfl rfl ?_
    refine own_ifF 110 Y13 at_107 (XT.i0_eq_f hk) rfl ?_
    refine own_iconst 111 Y13 (1 : Int32) at_110 rfl rfl ?_
    refine own_goto 115 Y13 at_111 (by decide) ?_
    refine own_istore 117 Y13 #[.val (.int x0), .val (.int x1), .val (.int x2), .val (.int x3), .val (.int x4), .val (.int x5), .val (.int k), .val (.ref x), .val (.ref dr), .val (.int (x3 &&& (4095 : Int32))), .val (.int (x4 &&& (4095 : Int32))), .val (.int ((x3.toUInt32 >>> ((12 : Int32) &&& 31).toUInt32).toInt32 &&& (255 : Int32))), .val (.int ((x4.toUInt32 >>> ((12 : Int32) &&& 31).toUInt32).toInt32 &&& (255 : Int32))), .val (.ref bx), .val (.ref g), .val (.int (1 : Int32)), .unset, .unset] at_115 rfl rfl ?_
    refine own_aload 119 Y13 at_117 rfl rfl rfl ?_
    refine own_callV 122 Y13 [] [] X_g (own_wd hw 48 rfl) (own_wd hw 49 rfl) (notFace_of_selects (args := #[]) (mvT Y13.warm (own_wd hw 51 rfl))) (own_wd hw 51 rfl) (own_wd hw 50 rfl) (own_wd hw 34 rfl) (own_wd hw 52 rfl) (c_ir_r l Z a0 hw g x _ F_g_text) at_119 (by decide) (lenOf pd6 rfl) rfl rfl (by decide) (Nat.le_of_ble_eq_true rfl) (by decide) (by decide) rfl fun v14 T14 h14 L14 Y14 hQ14 => ?_
    obtain ⟨rfl, rfl, rfl⟩ := hQ14
    have N := N.app (Fr.nil n0)
    show own_G p e below _ (T14.setTop (mkF m 122 #[.val (.int x0), .val (.int x1), .val (.int x2), .val (.int x3), .val (.int x4), .val (.int x5), .val (.int k), .val (.ref x), .val (.ref dr), .val (.int (x3 &&& (4095 : Int32))), .val (.int (x4 &&& (4095 : Int32))), .val (.int ((x3.toUInt32 >>> ((12 : Int32) &&& 31).toUInt32).toInt32 &&& (255 : Int32))), .val (.int ((x4.toUInt32 >>> ((12 : Int32) &&& 31).toUInt32).toInt32 &&& (255 : Int32))), .val (.ref bx), .val (.ref g), .val (.int (1 : Int32)), .unset, .unset] [(.int (1 : Int32))]))
    refine own_istore 124 Y14 #[.val (.int x0), .val (.int x1), .val (.int x2), .val (.int x3), .val (.int x4), .val (.int x5), .val (.int k), .val (.ref x), .val (.ref dr), .val (.int (x3 &&& (4095 : Int32))), .val (.int (x4 &&& (4095 : Int32))), .val (.int ((x3.toUInt32 >>> ((12 : Int32) &&& 31).toUInt32).toInt32 &&& (255 : Int32))), .val (.int ((x4.toUInt32 >>> ((12 : Int32) &&& 31).toUInt32).toInt32 &&& (255 : Int32))), .val (.ref bx), .val (.ref g), .val (.int (1 : Int32)), .val (.int (1 : Int32)), .unset] at_122 rfl rfl ?_
    refine own_aload 126 Y14 at_124 rfl rfl rfl ?_
    refine own_callVW 129 Y14 H [] [] X_g (own_wd hw 53 rfl) (own_wd hw 54 rfl) (notFace_of_selects (args := #[]) (mvT Y14.warm (own_wd hw 56 rfl))) (own_wd hw 56 rfl) (own_wd hw 55 rfl) (own_wd hw 34 rfl) (own_wd hw 57 rfl) (c_isp_r l Z a0 hw x d kd n vs z _ n0 O Sc hz g F_g_text X_x F_x_value F_x_coder V_d) at_126 (by decide) (lenOf pd7 rfl) rfl rfl (by decide) (Nat.le_of_ble_eq_true rfl) (by decide) (by decide) rfl fun v15 T15 h15 L15 vm15 Y15 H15 C15 hQ15 => ?_
    have sf_bx := C15.safe X_bx.lt sf_bx
    have sf_g := C15.safe X_g.lt sf_g
    have H := H15
    obtain ⟨K15, N15, sp, -, rfl⟩ := hQ15
    have N := N.app N15
    show own_G p e below _ (T15.setTop (mkF m 129 #[.val (.int x0), .val (.int x1), .val (.int x2), .val (.int x3), .val (.int x4), .val (.int x5), .val (.int k), .val (.ref x), .val (.ref dr), .val (.int (x3 &&& (4095 : Int32))), .val (.int (x4 &&& (4095 : Int32))), .val (.int ((x3.toUInt32 >>> ((12 : Int32) &&& 31).toUInt32).toInt32 &&& (255 : Int32))), .val (.int ((x4.toUInt32 >>> ((12 : Int32) &&& 31).toUInt32).toInt32 &&& (255 : Int32))), .val (.ref bx), .val (.ref g), .val (.int (1 : Int32)), .val (.int (1 : Int32)), .unset] [(.int sp)]))
    refine own_istore 131 Y15 #[.val (.int x0), .val (.int x1), .val (.int x2), .val (.int x3), .val (.int x4), .val (.int x5), .val (.int k), .val (.ref x), .val (.ref dr), .val (.int (x3 &&& (4095 : Int32))), .val (.int (x4 &&& (4095 : Int32))), .val (.int ((x3.toUInt32 >>> ((12 : Int32) &&& 31).toUInt32).toInt32 &&& (255 : Int32))), .val (.int ((x4.toUInt32 >>> ((12 : Int32) &&& 31).toUInt32).toInt32 &&& (255 : Int32))), .val (.ref bx), .val (.ref g), .val (.int (1 : Int32)), .val (.int (1 : Int32)), .val (.int sp)] at_129 rfl rfl ?_
    refine own_iload 133 Y15 at_131 rfl rfl ?_
    refine own_iload 135 Y15 at_133 rfl rfl ?_
    refine own_icF 138 Y15 at_135 (XT.ii_ne_f (by decide)) rfl ?_
    refine own_iload 140 Y15 at_138 rfl rfl ?_
    refine own_if_eq 148 143 Y15 at_140 (by decide) rfl (fun q140 => ?_) (fun q140 => ?_)
    · refine own_iconst 149 Y15 (1 : Int32) at_148 rfl rfl ?_
      refine own_goto 153 Y15 at_149 (by decide) ?_
      exact own_retNW Y15 H (t := .boolean) rfl (by simp) at_153 (by decide) (by decide) ⟨rfl, N⟩
    · refine own_iload 145 Y15 at_143 rfl rfl ?_
      refine own_ifF 148 Y15 at_145 (XT.i0_eq_f (by decide)) rfl ?_
      refine own_iconst 149 Y15 (1 : Int32) at_148 rfl rfl ?_
      refine own_goto 153 Y15 at_149 (by decide) ?_
      exact own_retNW Y15 H (t := .boolean) rfl (by simp) at_153 (by decide) (by decide) ⟨rfl, N⟩
set_option maxRecDepth 65536 in
set_option maxHeartbeats 40000000 in
theorem comes_1 {Post : Tables → Env → Array Value → State → Outcome → State → Prop} (hpost : ∀ tb e args s v u, (limb_1_1.after args s (.returned v) u = true ∧ limb_1_2.after args s (.returned v) u = true ∧ True) → FramedW s (.returned v) u (Jvm.fieldLocs frame_1_writes args s ++ Jvm.arrayLocs frame_1_arrays args s ++ Jvm.staticLocs frame_1_statics s) 24 2176 → Post tb e args s (.returned v) u) :
    ArmFor flags0 classFile x code maxLocals ret World_1 tables_1 room_1 Calls_1 rest_1 Pre_1 Post := by
  intro l hfl _ _ p e ha hc hk s m args below hf hA hF happ hP
  obtain ⟨hcalls, hrest, hpre⟩ := hP
  obtain ⟨-, -, -, hnamed, -, -, -, hat⟩ := (Spec.applies_iff hf).mp happ
  obtain ⟨hg, hn⟩ := and_e (Cond.before_iff.mp (show (Jvm.Cond.and given_1 narrow_1).before args s = true from hpre))
  obtain ⟨g0, hg⟩ := and_e hg
  obtain ⟨g1, hg⟩ := and_e hg
  obtain ⟨g2, hg⟩ := and_e hg
  obtain ⟨g3, hg⟩ := and_e hg
  obtain ⟨g4, hg⟩ := and_e hg
  obtain ⟨g5, hg⟩ := and_e hg
  have g6 := hg
  obtain ⟨w0, w1, w2, w3, w4, w5, rfl⟩ : ∃ w0 w1 w2 w3 w4 w5 : Value, args = #[w0, w1, w2, w3, w4, w5] := by
    have hs : args.size = 6 := by simpa [Cond.value, given_1] using g0
    obtain ⟨L⟩ := args
    match L, hs with
    | [w0, w1, w2, w3, w4, w5], _ => exact ⟨w0, w1, w2, w3, w4, w5, rfl⟩
  have hw := fun d (hd : d ∈ tables_1) => atoms_spec (ws := Jvm.Cond.code x code maxLocals ret :: tables_1) hat d (List.mem_cons_of_mem _ hd)
  have hfit : Fit s := fun {y c} hc i hi => by
    obtain ⟨ha, rfl⟩ := Array.getElem?_eq_some_iff.mp hc
    have q := List.all_eq_true.mp ((Array.all_eq_true_iff_forall_mem.mp hF) _ (Array.getElem_mem ha)) i (List.mem_range.mpr hi)
    simpa [Array.getElem?_eq_getElem hi] using q
  obtain ⟨hsets, hown0⟩ := atoms_of _ (rest_1_c_eq ▸ (show rest_1_c.before _ s = true from hrest))
  have hr0 := Cond.before_iff.mp hown0
  obtain ⟨i0, ei0⟩ := is_v g1
  obtain rfl : w0 = (.int i0) := Option.some.inj ei0
  obtain ⟨i1, ei1⟩ := is_v g2
  obtain rfl : w1 = (.int i1) := Option.some.inj ei1
  obtain ⟨i2, ei2⟩ := is_v g3
  obtain rfl : w2 = (.int i2) := Option.some.inj ei2
  obtain ⟨i3, ei3⟩ := is_v g4
  obtain rfl : w3 = (.int i3) := Option.some.inj ei3
  obtain ⟨i4, ei4⟩ := is_v g5
  obtain rfl : w4 = (.int i4) := Option.some.inj ei4
  obtain ⟨i5, ei5⟩ := is_v g6
  obtain rfl : w5 = (.int i5) := Option.some.inj ei5
  obtain ⟨n0, hn⟩ := and_e hn
  obtain ⟨n1, hn⟩ := and_e hn
  obtain ⟨n2, hn⟩ := and_e hn
  have n3 := hn
  obtain ⟨a_Direction_LEFT, ev_Direction_LEFT⟩ := exa_v n0
  have S_Direction_LEFT : Sta s s.heap "com/example/leading/leading/Direction" "LEFT" "Lcom/example/leading/leading/Direction;" (.ref a_Direction_LEFT) := Sta.start ev_Direction_LEFT (Or.inr ⟨(own_wd hw 8 rfl), (own_wd hw 9 rfl)⟩)
  have E_Direction_LEFT : Exa s s.heap a_Direction_LEFT "com/example/leading/leading/Direction" := Exa.start ev_Direction_LEFT n0
  obtain ⟨a_Direction_DOWN, ev_Direction_DOWN⟩ := exa_v n1
  have S_Direction_DOWN : Sta s s.heap "com/example/leading/leading/Direction" "DOWN" "Lcom/example/leading/leading/Direction;" (.ref a_Direction_DOWN) := Sta.start ev_Direction_DOWN (Or.inr ⟨(own_wd hw 8 rfl), (own_wd hw 72 rfl)⟩)
  have E_Direction_DOWN : Exa s s.heap a_Direction_DOWN "com/example/leading/leading/Direction" := Exa.start ev_Direction_DOWN n1
  obtain ⟨a_Direction_UP, ev_Direction_UP⟩ := exa_v n2
  have S_Direction_UP : Sta s s.heap "com/example/leading/leading/Direction" "UP" "Lcom/example/leading/leading/Direction;" (.ref a_Direction_UP) := Sta.start ev_Direction_UP (Or.inr ⟨(own_wd hw 8 rfl), (own_wd hw 87 rfl)⟩)
  have E_Direction_UP : Exa s s.heap a_Direction_UP "com/example/leading/leading/Direction" := Exa.start ev_Direction_UP n2
  obtain ⟨a_Direction_RIGHT, ev_Direction_RIGHT⟩ := exa_v n3
  have S_Direction_RIGHT : Sta s s.heap "com/example/leading/leading/Direction" "RIGHT" "Lcom/example/leading/leading/Direction;" (.ref a_Direction_RIGHT) := Sta.start ev_Direction_RIGHT (Or.inr ⟨(own_wd hw 8 rfl), (own_wd hw 105 rfl)⟩)
  have E_Direction_RIGHT : Exa s s.heap a_Direction_RIGHT "com/example/leading/leading/Direction" := Exa.start ev_Direction_RIGHT n3
  obtain ⟨z, ez⟩ := is_v (Cond.before_iff.mp (hsets _ (List.mem_of_getElem? (i := 1) rfl)))
  have Sc : Sta s s.heap "java/lang/String" "COMPACT_STRINGS" "Z" (.int z) := Sta.start ez (Or.inl (hsets _ (List.mem_of_getElem? (i := 0) rfl)))
  have hz : ¬ z = 0 := gotF (Cond.eq_ints ez (Term.int_eval 0)) (not_v (Cond.before_iff.mp (hsets _ (List.mem_of_getElem? (i := 2) rfl))))
  have hCH : CHv s EL0 s.vm s.heap := CHv.start (own_el hw) (fun p hp => hcalls.1 p hp) (hsets _ (List.mem_of_getElem? (i := 2) rfl)) (own_wd hw 61 rfl) (own_wd hw 60 rfl)
  obtain ⟨n, o, h1, h2, h3, _, L, rfl, ⟨rfl, N⟩, -, hq⟩ := (c_law l s _ hw i0 i1 i2 i3 i4 i5 a_Direction_RIGHT a_Direction_UP a_Direction_LEFT a_Direction_DOWN z s.heap s.heap.size (Nat.le_refl _) (Old.start s) Sc hz S_Direction_RIGHT S_Direction_UP S_Direction_LEFT S_Direction_DOWN) p e ha hc hk s m _ below hf ((Spec.applies_iff_loose hf).mp happ).1 ⟨rfl, State.Warmed39.refl s, rfl, hCH⟩ trivial
  refine ⟨n, _, h1, h2, h3, hpost _ _ _ _ _ _ ⟨Cond.after_iff.mpr rfl, Cond.after_iff.mpr (eq_i res_at (Term.int_eval (1)) rfl), trivial⟩ ⟨hq.1, hq.2.1, hq.2.2.1, (hq.2.2.2.sift fun y hy => Or.inr (N y hy)).mono (by decide) (by decide)⟩⟩
theorem main_1_1 : Claimed_1_1 := comes_1 fun _ _ _ _ _ _ h hF => ⟨h.1, hF⟩
theorem main_1_2 : Claimed_1_2 := comes_1 fun _ _ _ _ _ _ h hF => ⟨h.2.1, hF⟩
end Jvm.Pilot.@@N@@
namespace Jvm.Pilot.@@N@@
open Jvm Jvm.ClassFile Sem Op Lib Jvm.Free Jvm.Stand Jvm.Pilot.@@N@@.Jvm.D
/-! MADE BY PROGRAM (witnessworld.py) out of the Statement's table words and the real class files: 24 classes; the members and pool entries that the words name. The judged class is class 1, her method 1. -/
namespace start1
open Jvm.ClassFile
def u (s : String) : CpInfo := .utf8 (stringToUtf16 s)
/-- a pool by its gaps: so many unusable entries, then the entry; so many at the end -/
def gap : Nat → List CpInfo → List CpInfo
  | 0, r => r
  | n + 1, r => .unusable :: gap n r
def poolList (es : List (Nat × CpInfo)) (last : Nat) : List CpInfo := es.foldr (fun e r => gap e.1 (e.2 :: r)) (gap last [])
def pool (es : List (Nat × CpInfo)) (last : Nat) : Array CpInfo := ⟨poolList es last⟩
def fileOf (pool : Array CpInfo) (this : Nat) (attrs : Array Attribute := #[]) (ms : Array MethodInfo := #[]) (fl : Nat := 33) (sup : Nat := 0) (ifs : Array Nat := #[]) (fds : Array FieldInfo := #[]) : ClassFile where
  minorVersion := 0
  majorVersion := 65
  constantPool := pool
  accessFlags := fl
  thisClass := this
  superClass := sup
  interfaces := ifs
  fields := fds
  methods := ms
  attributes := attrs
def plain (name : String) (sup : Option ClassId) : Class where
  name := name
  kind := .ordinary
  loader := none
  accessFlags := 33
  super := sup
  interfaces := #[]
  cf := none
  fields := #[]
  methods := #[]
  instanceTypes := #[]
  staticTypes := #[]
  resolved := #[]
  callSites := []
  init := .initialized
  statics := none
  mirror := none

def pool0 : Array CpInfo := pool [(5, u "<init>"), (0, u "()V"), (1, .class_ 10), (1, u "java/lang/Object")] 113

def k0c0 : Code := { maxStack := 0, maxLocals := 1, code := object_method_1_code, exceptionTable := #[], attributes := #[] }
def k0m0 : Method := { name := "<init>", desc := "()V", sig := { parameters := [], returnType := none }, accessFlags := 1, code := some k0c0 }
/-- java/lang/Object -/
def k0 : Class := { plain "java/lang/Object" none with
  accessFlags := 33
  interfaces := #[]
  cf := some (fileOf pool0 8 #[] #[{ accessFlags := 1, nameIndex := 5, descriptorIndex := 6, attributes := #[] }] 33 0 #[] #[])
  fields := #[]
  methods := #[k0m0]
  instanceTypes := #[]
  staticTypes := #[]
  resolved := Array.replicate 124 none
  statics := none }

def pool1 : Array CpInfo := pool [(2, .class_ 4), (1, u "java/lang/Object"), (0, u "<init>"), (0, u "()V"), (0, .methodref 8 9), (0, .class_ 10), (0, .nameAndType 11 12), (0, u "com/example/leading/leading/GlyphIsReadablePinLaw"), (0, u "makeText"), (0, u "(II)Ljava/lang/String;"), (0, .methodref 8 14), (0, .nameAndType 15 16), (0, u "pick"), (0, u "(I)Lcom/example/leading/leading/Direction;"), (0, .class_ 18), (0, u "com/example/leading/leading/Box"), (0, .methodref 17 20), (0, .nameAndType 5 21), (0, u "(DDDD)V"), (0, .class_ 23), (0, u "com/example/leading/leading/Glyph"), (0, .integer 65535), (0, .methodref 22 26), (0, .nameAndType 5 27), (0, u "(Ljava/lang/String;Lcom/example/leading/leading/Box;DLcom/example/leading/leading/Direction;)V"), (0, .methodref 22 29), (0, .nameAndType 30 31), (0, u "isReadable"), (0, u "()Z"), (0, .methodref 22 33), (0, .nameAndType 34 31), (0, u "isSpace"), (0, .class_ 36), (0, u "java/lang/String"), (0, .methodref 35 38), (0, .nameAndType 5 39), (0, u "([C)V"), (0, .methodref 35 41), (0, .nameAndType 42 43), (0, u "valueOf"), (0, u "(C)Ljava/lang/String;"), (0, .fieldref 45 46), (0, .class_ 47), (0, .nameAndType 48 49), (0, u "com/example/leading/leading/Direction"), (0, u "RIGHT"), (0, u "Lcom/example/leading/leading/Direction;"), (0, .fieldref 45 51), (0, .nameAndType 52 49), (0, u "UP"), (0, .fieldref 45 54), (0, .nameAndType 55 49), (0, u "LEFT"), (0, .fieldref 45 57), (0, .nameAndType 58 49), (0, u "DOWN"), (2, u "law"), (0, u "(IIIIII)Z")] 3

def k1m0 : Method := { name := "<init>", desc := "()V", sig := { parameters := [], returnType := none }, accessFlags := 1, code := none }
def k1c1 : Code := { maxStack := 10, maxLocals := 18, code := code, exceptionTable := #[], attributes := #[] }
def k1m1 : Method := { name := "law", desc := "(IIIIII)Z", sig := { parameters := [.int, .int, .int, .int, .int, .int], returnType := some .boolean }, accessFlags := 9, code := some k1c1 }
def k1c2 : Code := { maxStack := 6, maxLocals := 4, code := method_3_code, exceptionTable := #[], attributes := #[] }
def k1m2 : Method := { name := "makeText", desc := "(II)Ljava/lang/String;", sig := { parameters := [.int, .int], returnType := some (.object "java/lang/String") }, accessFlags := 10, code := some k1c2 }
def k1c3 : Code := { maxStack := 2, maxLocals := 1, code := method_4_code, exceptionTable := #[], attributes := #[] }
def k1m3 : Method := { name := "pick", desc := "(I)Lcom/example/leading/leading/Direction;", sig := { parameters := [.int], returnType := some (.object "com/example/leading/leading/Direction") }, accessFlags := 10, code := some k1c3 }
/-- com/example/leading/leading/GlyphIsReadablePinLaw -/
def k1 : Class := { plain "com/example/leading/leading/GlyphIsReadablePinLaw" (some 0) with
  accessFlags := 49
  interfaces := #[]
  cf := some (fileOf pool1 8 #[] #[{ accessFlags := 1, nameIndex := 5, descriptorIndex := 6, attributes := #[] }, { accessFlags := 9, nameIndex := 61, descriptorIndex := 62, attributes := #[] }, { accessFlags := 10, nameIndex := 11, descriptorIndex := 12, attributes := #[] }, { accessFlags := 10, nameIndex := 15, descriptorIndex := 16, attributes := #[] }] 49 2 #[] #[])
  fields := #[]
  methods := #[k1m0, k1m1, k1m2, k1m3]
  instanceTypes := #[]
  staticTypes := #[]
  resolved := Array.replicate 66 none
  statics := none }

def pool2 : Array CpInfo := pool [(1, .class_ 2), (0, u "java/lang/constant/Constable"), (0, .class_ 4), (0, u "java/lang/Object")] 6

/-- java/lang/constant/Constable -/
def k2 : Class := { plain "java/lang/constant/Constable" (some 0) with
  accessFlags := 1537
  interfaces := #[]
  cf := some (fileOf pool2 1 #[] #[] 1537 3 #[] #[])
  fields := #[]
  methods := #[]
  instanceTypes := #[]
  staticTypes := #[]
  resolved := Array.replicate 11 none
  statics := none }

def pool3 : Array CpInfo := pool [(1, .class_ 2), (0, u "java/lang/Comparable"), (0, .class_ 4), (0, u "java/lang/Object")] 7

/-- java/lang/Comparable -/
def k3 : Class := { plain "java/lang/Comparable" (some 0) with
  accessFlags := 1537
  interfaces := #[]
  cf := some (fileOf pool3 1 #[] #[] 1537 3 #[] #[])
  fields := #[]
  methods := #[]
  instanceTypes := #[]
  staticTypes := #[]
  resolved := Array.replicate 12 none
  statics := none }

def pool4 : Array CpInfo := pool [(1, .class_ 2), (0, u "java/io/Serializable"), (0, .class_ 4), (0, u "java/lang/Object")] 2

/-- java/io/Serializable -/
def k4 : Class := { plain "java/io/Serializable" (some 0) with
  accessFlags := 1537
  interfaces := #[]
  cf := some (fileOf pool4 1 #[] #[] 1537 3 #[] #[])
  fields := #[]
  methods := #[]
  instanceTypes := #[]
  staticTypes := #[]
  resolved := Array.replicate 7 none
  statics := none }

def pool5 : Array CpInfo := pool [(2, .class_ 4), (1, u "java/lang/Enum"), (0, u "name"), (0, u "Ljava/lang/String;"), (2, u "ordinal"), (0, u "I"), (1, .class_ 14), (1, u "java/lang/Object"), (4, u "hash"), (86, .class_ 108), (1, u "java/lang/Enum$EnumDesc"), (2, .class_ 112), (0, u "java/lang/constant/Constable"), (0, .class_ 114), (0, u "java/lang/Comparable"), (0, .class_ 116), (0, u "java/io/Serializable")] 87

/-- java/lang/Enum -/
def k5 : Class := { plain "java/lang/Enum" (some 0) with
  accessFlags := 1057
  interfaces := #[2, 3, 4]
  cf := some (fileOf pool5 2 #[.nestMembers #[106]] #[] 1057 12 #[111, 113, 115] #[{ accessFlags := 18, nameIndex := 5, descriptorIndex := 6, attributes := #[] }, { accessFlags := 18, nameIndex := 9, descriptorIndex := 10, attributes := #[] }, { accessFlags := 2, nameIndex := 19, descriptorIndex := 10, attributes := #[] }])
  fields := #[{ name := "name", type := (.object "java/lang/String"), accessFlags := 18, slot := 0, constantValue := 0 }, { name := "ordinal", type := .int, accessFlags := 18, slot := 1, constantValue := 0 }, { name := "hash", type := .int, accessFlags := 2, slot := 2, constantValue := 0 }]
  methods := #[]
  instanceTypes := #[(.object "java/lang/String"), .int, .int]
  staticTypes := #[]
  resolved := Array.replicate 204 none
  statics := none }

def pool6 : Array CpInfo := pool [(1, .class_ 2), (0, u "com/example/leading/leading/Direction"), (2, u "RIGHT"), (0, u "Lcom/example/leading/leading/Direction;"), (2, u "UP"), (2, u "LEFT"), (2, u "DOWN"), (2, u "$VALUES"), (0, u "[Lcom/example/leading/leading/Direction;"), (6, .class_ 28), (1, u "java/lang/Enum")] 65

/-- com/example/leading/leading/Direction -/
def k6 : Class := { plain "com/example/leading/leading/Direction" (some 5) with
  accessFlags := 16432
  interfaces := #[]
  cf := some (fileOf pool6 1 #[] #[] 16432 26 #[] #[{ accessFlags := 16409, nameIndex := 5, descriptorIndex := 6, attributes := #[] }, { accessFlags := 16409, nameIndex := 9, descriptorIndex := 6, attributes := #[] }, { accessFlags := 16409, nameIndex := 12, descriptorIndex := 6, attributes := #[] }, { accessFlags := 16409, nameIndex := 15, descriptorIndex := 6, attributes := #[] }, { accessFlags := 4122, nameIndex := 18, descriptorIndex := 19, attributes := #[] }])
  fields := #[{ name := "RIGHT", type := (.object "com/example/leading/leading/Direction"), accessFlags := 16409, slot := 0, constantValue := 0 }, { name := "UP", type := (.object "com/example/leading/leading/Direction"), accessFlags := 16409, slot := 1, constantValue := 0 }, { name := "LEFT", type := (.object "com/example/leading/leading/Direction"), accessFlags := 16409, slot := 2, constantValue := 0 }, { name := "DOWN", type := (.object "com/example/leading/leading/Direction"), accessFlags := 16409, slot := 3, constantValue := 0 }, { name := "$VALUES", type := (.array (.object "com/example/leading/leading/Direction")), accessFlags := 4122, slot := 4, constantValue := 0 }]
  methods := #[]
  instanceTypes := #[(.object "java/lang/String"), .int, .int]
  staticTypes := #[(.object "com/example/leading/leading/Direction"), (.object "com/example/leading/leading/Direction"), (.object "com/example/leading/leading/Direction"), (.object "com/example/leading/leading/Direction"), (.array (.object "com/example/leading/leading/Direction"))]
  resolved := Array.replicate 94 none
  statics := some 0 }

def pool7 : Array CpInfo := pool [(1, .methodref 2 3), (0, .class_ 4), (0, .nameAndType 5 6), (0, u "java/lang/Object"), (0, u "<init>"), (0, u "()V"), (0, .class_ 8), (0, u "java/lang/Record")] 13

def k7c0 : Code := { maxStack := 1, maxLocals := 1, code := jdk_30_method_1_code, exceptionTable := #[], attributes := #[] }
def k7m0 : Method := { name := "<init>", desc := "()V", sig := { parameters := [], returnType := none }, accessFlags := 4, code := some k7c0 }
/-- java/lang/Record -/
def k7 : Class := { plain "java/lang/Record" (some 0) with
  accessFlags := 1057
  interfaces := #[]
  cf := some (fileOf pool7 7 #[] #[{ accessFlags := 4, nameIndex := 5, descriptorIndex := 6, attributes := #[] }] 1057 2 #[] #[])
  fields := #[]
  methods := #[k7m0]
  instanceTypes := #[]
  staticTypes := #[]
  resolved := Array.replicate 22 none
  statics := none }

def pool8 : Array CpInfo := pool [(1, .methodref 2 3), (0, .class_ 4), (0, .nameAndType 5 6), (0, u "java/lang/Record"), (0, u "<init>"), (0, u "()V"), (0, .fieldref 8 9), (0, .class_ 10), (0, .nameAndType 11 12), (0, u "com/example/leading/leading/Box"), (0, u "left"), (0, u "D"), (0, .fieldref 8 14), (0, .nameAndType 15 12), (0, u "top"), (0, .fieldref 8 17), (0, .nameAndType 18 12), (0, u "right"), (0, .fieldref 8 20), (0, .nameAndType 21 12), (0, u "bottom"), (11, u "(DDDD)V"), (12, u "SAME_EDGE")] 39

def k8c0 : Code := { maxStack := 3, maxLocals := 9, code := prog_7_method_1_code, exceptionTable := #[], attributes := #[] }
def k8m0 : Method := { name := "<init>", desc := "(DDDD)V", sig := { parameters := [.double, .double, .double, .double], returnType := none }, accessFlags := 0, code := some k8c0 }
/-- com/example/leading/leading/Box -/
def k8 : Class := { plain "com/example/leading/leading/Box" (some 7) with
  accessFlags := 48
  interfaces := #[]
  cf := some (fileOf pool8 8 #[] #[{ accessFlags := 0, nameIndex := 5, descriptorIndex := 33, attributes := #[] }] 48 2 #[] #[{ accessFlags := 18, nameIndex := 11, descriptorIndex := 12, attributes := #[] }, { accessFlags := 18, nameIndex := 15, descriptorIndex := 12, attributes := #[] }, { accessFlags := 18, nameIndex := 18, descriptorIndex := 12, attributes := #[] }, { accessFlags := 18, nameIndex := 21, descriptorIndex := 12, attributes := #[] }, { accessFlags := 24, nameIndex := 46, descriptorIndex := 12, attributes := #[] }])
  fields := #[{ name := "left", type := .double, accessFlags := 18, slot := 0, constantValue := 0 }, { name := "top", type := .double, accessFlags := 18, slot := 1, constantValue := 0 }, { name := "right", type := .double, accessFlags := 18, slot := 2, constantValue := 0 }, { name := "bottom", type := .double, accessFlags := 18, slot := 3, constantValue := 0 }, { name := "SAME_EDGE", type := .double, accessFlags := 24, slot := 0, constantValue := 0 }]
  methods := #[k8m0]
  instanceTypes := #[.double, .double, .double, .double]
  staticTypes := #[.double]
  resolved := Array.replicate 86 none
  statics := none }

def pool9 : Array CpInfo := pool [(1, .methodref 2 3), (0, .class_ 4), (0, .nameAndType 5 6), (0, u "java/lang/Record"), (0, u "<init>"), (0, u "()V"), (0, .fieldref 8 9), (0, .class_ 10), (0, .nameAndType 11 12), (0, u "com/example/leading/leading/Glyph"), (0, u "text"), (0, u "Ljava/lang/String;"), (0, .fieldref 8 14), (0, .nameAndType 15 16), (0, u "box"), (0, u "Lcom/example/leading/leading/Box;"), (0, .fieldref 8 18), (0, .nameAndType 19 20), (0, u "size"), (0, u "D"), (0, .fieldref 8 22), (0, .nameAndType 23 24), (0, u "direction"), (0, u "Lcom/example/leading/leading/Direction;"), (0, .string 26), (0, u ""), (0, .methodref 28 29), (0, .class_ 30), (0, .nameAndType 31 32), (0, u "java/lang/String"), (0, u "equals"), (0, u "(Ljava/lang/Object;)Z"), (11, u "(Ljava/lang/String;Lcom/example/leading/leading/Box;DLcom/example/leading/leading/Direction;)V"), (3, u "isSpace"), (0, u "()Z"), (0, u "isReadable")] 29

def k9c0 : Code := { maxStack := 3, maxLocals := 6, code := prog_15_method_1_code, exceptionTable := #[], attributes := #[] }
def k9m0 : Method := { name := "<init>", desc := "(Ljava/lang/String;Lcom/example/leading/leading/Box;DLcom/example/leading/leading/Direction;)V", sig := { parameters := [(.object "java/lang/String"), (.object "com/example/leading/leading/Box"), .double, (.object "com/example/leading/leading/Direction")], returnType := none }, accessFlags := 0, code := some k9c0 }
def k9c1 : Code := { maxStack := 2, maxLocals := 1, code := prog_15_method_2_code, exceptionTable := #[], attributes := #[] }
def k9m1 : Method := { name := "isSpace", desc := "()Z", sig := { parameters := [], returnType := some .boolean }, accessFlags := 0, code := some k9c1 }
def k9c2 : Code := { maxStack := 1, maxLocals := 1, code := prog_15_method_3_code, exceptionTable := #[], attributes := #[] }
def k9m2 : Method := { name := "isReadable", desc := "()Z", sig := { parameters := [], returnType := some .boolean }, accessFlags := 0, code := some k9c2 }
/-- com/example/leading/leading/Glyph -/
def k9 : Class := { plain "com/example/leading/leading/Glyph" (some 7) with
  accessFlags := 48
  interfaces := #[]
  cf := some (fileOf pool9 8 #[] #[{ accessFlags := 0, nameIndex := 5, descriptorIndex := 44, attributes := #[] }, { accessFlags := 0, nameIndex := 48, descriptorIndex := 49, attributes := #[] }, { accessFlags := 0, nameIndex := 50, descriptorIndex := 49, attributes := #[] }] 48 2 #[] #[{ accessFlags := 18, nameIndex := 11, descriptorIndex := 12, attributes := #[] }, { accessFlags := 18, nameIndex := 15, descriptorIndex := 16, attributes := #[] }, { accessFlags := 18, nameIndex := 19, descriptorIndex := 20, attributes := #[] }, { accessFlags := 18, nameIndex := 23, descriptorIndex := 24, attributes := #[] }])
  fields := #[{ name := "text", type := (.object "java/lang/String"), accessFlags := 18, slot := 0, constantValue := 0 }, { name := "box", type := (.object "com/example/leading/leading/Box"), accessFlags := 18, slot := 1, constantValue := 0 }, { name := "size", type := .double, accessFlags := 18, slot := 2, constantValue := 0 }, { name := "direction", type := (.object "com/example/leading/leading/Direction"), accessFlags := 18, slot := 3, constantValue := 0 }]
  methods := #[k9m0, k9m1, k9m2]
  instanceTypes := #[(.object "java/lang/String"), (.object "com/example/leading/leading/Box"), .double, (.object "com/example/leading/leading/Direction")]
  staticTypes := #[]
  resolved := Array.replicate 80 none
  statics := none }

def pool10 : Array CpInfo := pool [(2, .class_ 4), (1, u "java/lang/CharSequence"), (42, .class_ 48), (0, u "java/lang/CharSequence$1CodePointIterator"), (10, .class_ 60), (0, u "java/lang/CharSequence$1CharIterator"), (5, .class_ 67), (0, u "java/lang/Object")] 63

/-- java/lang/CharSequence -/
def k10 : Class := { plain "java/lang/CharSequence" (some 0) with
  accessFlags := 1537
  interfaces := #[]
  cf := some (fileOf pool10 2 #[.nestMembers #[47, 59]] #[] 1537 66 #[] #[])
  fields := #[]
  methods := #[]
  instanceTypes := #[]
  staticTypes := #[]
  resolved := Array.replicate 131 none
  statics := none }

def pool11 : Array CpInfo := pool [(1, .class_ 2), (0, u "java/lang/constant/ConstantDesc"), (0, .class_ 4), (0, u "java/lang/Object")] 32

/-- java/lang/constant/ConstantDesc -/
def k11 : Class := { plain "java/lang/constant/ConstantDesc" (some 0) with
  accessFlags := 1537
  interfaces := #[]
  cf := some (fileOf pool11 1 #[] #[] 1537 3 #[] #[])
  fields := #[]
  methods := #[]
  instanceTypes := #[]
  staticTypes := #[]
  resolved := Array.replicate 37 none
  statics := none }

def pool12 : Array CpInfo := pool [(1, .methodref 2 3), (0, .class_ 4), (0, .nameAndType 5 6), (0, u "java/lang/Object"), (0, u "<init>"), (0, u "()V"), (0, .string 8), (0, u ""), (0, .fieldref 10 11), (0, .class_ 12), (0, .nameAndType 13 14), (0, u "java/lang/String"), (0, u "value"), (0, u "[B"), (0, .fieldref 10 16), (0, .nameAndType 17 18), (0, u "coder"), (0, u "B"), (2, u "hash"), (0, u "I"), (2, u "hashIsZero"), (0, u "Z"), (0, .methodref 10 28), (0, .nameAndType 5 29), (0, u "([CIILjava/lang/Void;)V"), (8, .fieldref 10 39), (0, .nameAndType 40 26), (0, u "COMPACT_STRINGS"), (1, .class_ 44), (1, u "java/lang/StringUTF16"), (0, u "compress"), (1, .methodref 42 48), (0, .nameAndType 49 50), (0, u "coderFromArrayLen"), (0, u "([BI)B"), (2, u "toBytes"), (53, .class_ 109), (1, u "java/lang/StringLatin1"), (67, .methodref 42 178), (0, .nameAndType 45 179), (0, u "([CII)[B"), (29, .methodref 10 210), (0, .nameAndType 5 211), (0, u "([BB)V"), (157, u "(C)Z"), (171, .methodref 107 542), (0, .nameAndType 543 544), (0, u "equals"), (0, u "([B[B)Z"), (28, u "(Ljava/lang/Object;)Z"), (1, .class_ 576), (0, u "java/lang/CharSequence"), (22, u "CASE_INSENSITIVE_ORDER"), (0, u "Ljava/util/Comparator;"), (181, u "valueOf"), (0, u "(C)Ljava/lang/String;"), (226, u "([C)V"), (4, .methodref 107 1016), (0, .nameAndType 1017 369), (0, u "canEncode"), (0, .methodref 107 1019), (0, .nameAndType 53 1020), (0, u "(C)[B"), (80, u "serialPersistentFields"), (0, u "[Ljava/io/ObjectStreamField;"), (0, .class_ 1104), (0, u "java/lang/String$CaseInsensitiveComparator"), (1, .class_ 1107), (0, u "java/io/Serializable"), (0, .class_ 1109), (0, u "java/lang/Comparable"), (0, .class_ 1111), (0, u "java/lang/constant/Constable"), (0, .class_ 1113), (0, u "java/lang/constant/ConstantDesc"), (2, u "serialVersionUID"), (0, u "J"), (3, u "REPL"), (0, u "C"), (2, u "LATIN1"), (1, u "UTF16")] 323

def k12m0 : Method := { name := "<init>", desc := "()V", sig := { parameters := [], returnType := none }, accessFlags := 1, code := none }
def k12c1 : Code := { maxStack := 5, maxLocals := 2, code := jdk_42_method_3_code, exceptionTable := #[], attributes := #[] }
def k12m1 : Method := { name := "<init>", desc := "([C)V", sig := { parameters := [(.array .char)], returnType := none }, accessFlags := 1, code := some k12c1 }
def k12c2 : Code := { maxStack := 2, maxLocals := 3, code := jdk_42_method_66_code, exceptionTable := #[], attributes := #[] }
def k12m2 : Method := { name := "equals", desc := "(Ljava/lang/Object;)Z", sig := { parameters := [(.object "java/lang/Object")], returnType := some .boolean }, accessFlags := 1, code := some k12c2 }
def k12c3 : Code := { maxStack := 4, maxLocals := 1, code := jdk_42_method_139_code, exceptionTable := #[], attributes := #[] }
def k12m3 : Method := { name := "valueOf", desc := "(C)Ljava/lang/String;", sig := { parameters := [.char], returnType := some (.object "java/lang/String") }, accessFlags := 9, code := some k12c3 }
def k12c4 : Code := { maxStack := 4, maxLocals := 6, code := jdk_42_method_149_code, exceptionTable := #[], attributes := #[] }
def k12m4 : Method := { name := "<init>", desc := "([CIILjava/lang/Void;)V", sig := { parameters := [(.array .char), .int, .int, (.object "java/lang/Void")], returnType := none }, accessFlags := 2, code := some k12c4 }
def k12c5 : Code := { maxStack := 2, maxLocals := 3, code := jdk_42_method_151_code, exceptionTable := #[], attributes := #[] }
def k12m5 : Method := { name := "<init>", desc := "([BB)V", sig := { parameters := [(.array .byte), .byte], returnType := none }, accessFlags := 0, code := some k12c5 }
/-- java/lang/String -/
def k12 : Class := { plain "java/lang/String" (some 0) with
  accessFlags := 49
  interfaces := #[4, 3, 10, 2, 11]
  cf := some (fileOf pool12 10 #[.nestMembers #[1103]] #[{ accessFlags := 1, nameIndex := 5, descriptorIndex := 6, attributes := #[] }, { accessFlags := 1, nameIndex := 5, descriptorIndex := 1010, attributes := #[] }, { accessFlags := 1, nameIndex := 543, descriptorIndex := 573, attributes := #[] }, { accessFlags := 9, nameIndex := 782, descriptorIndex := 783, attributes := #[] }, { accessFlags := 2, nameIndex := 5, descriptorIndex := 29, attributes := #[] }, { accessFlags := 0, nameIndex := 5, descriptorIndex := 211, attributes := #[] }] 49 2 #[1106, 1108, 575, 1110, 1112] #[{ accessFlags := 18, nameIndex := 13, descriptorIndex := 14, attributes := #[] }, { accessFlags := 18, nameIndex := 17, descriptorIndex := 18, attributes := #[] }, { accessFlags := 2, nameIndex := 21, descriptorIndex := 22, attributes := #[] }, { accessFlags := 2, nameIndex := 25, descriptorIndex := 26, attributes := #[] }, { accessFlags := 26, nameIndex := 1116, descriptorIndex := 1117, attributes := #[] }, { accessFlags := 24, nameIndex := 40, descriptorIndex := 26, attributes := #[] }, { accessFlags := 26, nameIndex := 1101, descriptorIndex := 1102, attributes := #[] }, { accessFlags := 26, nameIndex := 1121, descriptorIndex := 1122, attributes := #[] }, { accessFlags := 25, nameIndex := 599, descriptorIndex := 600, attributes := #[] }, { accessFlags := 24, nameIndex := 1125, descriptorIndex := 18, attributes := #[] }, { accessFlags := 24, nameIndex := 1127, descriptorIndex := 18, attributes := #[] }])
  fields := #[{ name := "value", type := (.array .byte), accessFlags := 18, slot := 0, constantValue := 0 }, { name := "coder", type := .byte, accessFlags := 18, slot := 1, constantValue := 0 }, { name := "hash", type := .int, accessFlags := 2, slot := 2, constantValue := 0 }, { name := "hashIsZero", type := .boolean, accessFlags := 2, slot := 3, constantValue := 0 }, { name := "serialVersionUID", type := .long, accessFlags := 26, slot := 0, constantValue := 0 }, { name := "COMPACT_STRINGS", type := .boolean, accessFlags := 24, slot := 1, constantValue := 0 }, { name := "serialPersistentFields", type := (.array (.object "java/io/ObjectStreamField")), accessFlags := 26, slot := 2, constantValue := 0 }, { name := "REPL", type := .char, accessFlags := 26, slot := 3, constantValue := 0 }, { name := "CASE_INSENSITIVE_ORDER", type := (.object "java/util/Comparator"), accessFlags := 25, slot := 4, constantValue := 0 }, { name := "LATIN1", type := .byte, accessFlags := 24, slot := 5, constantValue := 0 }, { name := "UTF16", type := .byte, accessFlags := 24, slot := 6, constantValue := 0 }]
  methods := #[k12m0, k12m1, k12m2, k12m3, k12m4, k12m5]
  instanceTypes := #[(.array .byte), .byte, .int, .boolean]
  staticTypes := #[.long, .boolean, (.array (.object "java/io/ObjectStreamField")), .char, (.object "java/util/Comparator"), .byte, .byte]
  resolved := Array.replicate 1451 none
  statics := some 1 }

def pool13 : Array CpInfo := pool [(4, .class_ 6), (1, u "java/lang/Object"), (0, u "<init>"), (0, u "()V"), (5, .class_ 16), (1, u "java/lang/StringLatin1"), (73, u "canEncode"), (14, u "(C)Z"), (15, u "$assertionsDisabled"), (0, u "Z"), (98, .class_ 223), (1, u "java/lang/StringLatin1$LinesSpliterator"), (57, u "equals"), (0, u "([B[B)Z"), (97, u "toBytes"), (1, u "(C)[B"), (7, .class_ 391), (0, u "java/lang/StringLatin1$CharsSpliterator")] 3

def k13m0 : Method := { name := "<init>", desc := "()V", sig := { parameters := [], returnType := none }, accessFlags := 0, code := none }
def k13c1 : Code := { maxStack := 2, maxLocals := 1, code := jdk_43_method_3_code, exceptionTable := #[], attributes := #[] }
def k13m1 : Method := { name := "canEncode", desc := "(C)Z", sig := { parameters := [.char], returnType := some .boolean }, accessFlags := 9, code := some k13c1 }
def k13c2 : Code := { maxStack := 3, maxLocals := 3, code := jdk_43_method_13_code, exceptionTable := #[], attributes := #[] }
def k13m2 : Method := { name := "equals", desc := "([B[B)Z", sig := { parameters := [(.array .byte), (.array .byte)], returnType := some .boolean }, accessFlags := 9, code := some k13c2 }
def k13c3 : Code := { maxStack := 4, maxLocals := 1, code := jdk_43_method_46_code, exceptionTable := #[], attributes := #[] }
def k13m3 : Method := { name := "toBytes", desc := "(C)[B", sig := { parameters := [.char], returnType := some (.array .byte) }, accessFlags := 9, code := some k13c3 }
/-- java/lang/StringLatin1 -/
def k13 : Class := { plain "java/lang/StringLatin1" (some 0) with
  accessFlags := 48
  interfaces := #[]
  cf := some (fileOf pool13 14 #[.nestMembers #[390, 221]] #[{ accessFlags := 0, nameIndex := 7, descriptorIndex := 8, attributes := #[] }, { accessFlags := 9, nameIndex := 90, descriptorIndex := 105, attributes := #[] }, { accessFlags := 9, nameIndex := 281, descriptorIndex := 282, attributes := #[] }, { accessFlags := 9, nameIndex := 380, descriptorIndex := 382, attributes := #[] }] 48 4 #[] #[{ accessFlags := 4120, nameIndex := 121, descriptorIndex := 122, attributes := #[] }])
  fields := #[{ name := "$assertionsDisabled", type := .boolean, accessFlags := 4120, slot := 0, constantValue := 0 }]
  methods := #[k13m0, k13m1, k13m2, k13m3]
  instanceTypes := #[]
  staticTypes := #[.boolean]
  resolved := Array.replicate 395 none
  statics := none }

def pool14 : Array CpInfo := pool [(6, .class_ 8), (1, u "java/lang/Object"), (0, u "<init>"), (0, u "()V"), (1, .class_ 14), (1, u "java/lang/StringUTF16"), (31, u "$assertionsDisabled"), (0, u "Z"), (13, u "HI_BYTE_SHIFT"), (0, u "I"), (2, u "LO_BYTE_SHIFT"), (49, .methodref 12 116), (0, .nameAndType 117 118), (0, u "compress"), (0, u "([CI[BII)I"), (3, u "([CII)[B"), (138, u "coderFromArrayLen"), (0, u "([BI)B"), (106, .class_ 371), (1, u "java/lang/StringUTF16$LinesSpliterator"), (58, u "MAX_LENGTH"), (196, .class_ 628), (0, u "java/lang/StringUTF16$CodePointsSpliterator"), (0, .class_ 630), (0, u "java/lang/StringUTF16$CharsSpliterator")] 4

def k14m0 : Method := { name := "<init>", desc := "()V", sig := { parameters := [], returnType := none }, accessFlags := 0, code := none }
def k14c1 : Code := { maxStack := 2, maxLocals := 2, code := jdk_52_method_15_code, exceptionTable := #[], attributes := #[] }
def k14m1 : Method := { name := "coderFromArrayLen", desc := "([BI)B", sig := { parameters := [(.array .byte), .int], returnType := some .byte }, accessFlags := 8, code := some k14c1 }
def k14c2 : Code := { maxStack := 5, maxLocals := 6, code := jdk_52_method_16_code, exceptionTable := #[], attributes := #[] }
def k14m2 : Method := { name := "compress", desc := "([CII)[B", sig := { parameters := [(.array .char), .int, .int], returnType := some (.array .byte) }, accessFlags := 9, code := some k14c2 }
def k14c3 : Code := { maxStack := 3, maxLocals := 7, code := jdk_52_method_21_code, exceptionTable := #[], attributes := #[] }
def k14m3 : Method := { name := "compress", desc := "([CI[BII)I", sig := { parameters := [(.array .char), .int, (.array .byte), .int, .int], returnType := some .int }, accessFlags := 9, code := some k14c3 }
/-- java/lang/StringUTF16 -/
def k14 : Class := { plain "java/lang/StringUTF16" (some 0) with
  accessFlags := 48
  interfaces := #[]
  cf := some (fileOf pool14 12 #[.nestMembers #[627, 629, 369]] #[{ accessFlags := 0, nameIndex := 9, descriptorIndex := 10, attributes := #[] }, { accessFlags := 8, nameIndex := 261, descriptorIndex := 262, attributes := #[] }, { accessFlags := 9, nameIndex := 117, descriptorIndex := 122, attributes := #[] }, { accessFlags := 9, nameIndex := 117, descriptorIndex := 118, attributes := #[] }] 48 6 #[] #[{ accessFlags := 26, nameIndex := 61, descriptorIndex := 62, attributes := #[] }, { accessFlags := 26, nameIndex := 65, descriptorIndex := 62, attributes := #[] }, { accessFlags := 24, nameIndex := 430, descriptorIndex := 62, attributes := #[] }, { accessFlags := 4120, nameIndex := 46, descriptorIndex := 47, attributes := #[] }])
  fields := #[{ name := "HI_BYTE_SHIFT", type := .int, accessFlags := 26, slot := 0, constantValue := 0 }, { name := "LO_BYTE_SHIFT", type := .int, accessFlags := 26, slot := 1, constantValue := 0 }, { name := "MAX_LENGTH", type := .int, accessFlags := 24, slot := 2, constantValue := 0 }, { name := "$assertionsDisabled", type := .boolean, accessFlags := 4120, slot := 3, constantValue := 0 }]
  methods := #[k14m0, k14m1, k14m2, k14m3]
  instanceTypes := #[]
  staticTypes := #[.int, .int, .int, .boolean]
  resolved := Array.replicate 635 none
  statics := none }

def pool15 : Array CpInfo := pool [(2, .class_ 4), (1, u "java/lang/Object"), (0, u "<init>"), (0, u "()V"), (17, .class_ 26), (1, u "jdk/internal/util/Preconditions"), (28, .class_ 56), (0, u "jdk/internal/util/Preconditions$4"), (57, .class_ 115), (0, u "jdk/internal/util/Preconditions$1"), (7, u "SIOOBE_FORMATTER"), (0, u "Ljava/util/function/BiFunction;"), (0, .class_ 126), (0, u "jdk/internal/util/Preconditions$2"), (3, u "AIOOBE_FORMATTER"), (0, .class_ 132), (0, u "jdk/internal/util/Preconditions$3"), (3, u "IOOBE_FORMATTER")] 57

def k15m0 : Method := { name := "<init>", desc := "()V", sig := { parameters := [], returnType := none }, accessFlags := 1, code := none }
/-- jdk/internal/util/Preconditions -/
def k15 : Class := { plain "jdk/internal/util/Preconditions" (some 0) with
  accessFlags := 33
  interfaces := #[]
  cf := some (fileOf pool15 24 #[.nestMembers #[55, 131, 125, 114]] #[{ accessFlags := 1, nameIndex := 5, descriptorIndex := 6, attributes := #[] }] 33 2 #[] #[{ accessFlags := 25, nameIndex := 123, descriptorIndex := 124, attributes := #[] }, { accessFlags := 25, nameIndex := 130, descriptorIndex := 124, attributes := #[] }, { accessFlags := 25, nameIndex := 136, descriptorIndex := 124, attributes := #[] }])
  fields := #[{ name := "SIOOBE_FORMATTER", type := (.object "java/util/function/BiFunction"), accessFlags := 25, slot := 0, constantValue := 0 }, { name := "AIOOBE_FORMATTER", type := (.object "java/util/function/BiFunction"), accessFlags := 25, slot := 1, constantValue := 0 }, { name := "IOOBE_FORMATTER", type := (.object "java/util/function/BiFunction"), accessFlags := 25, slot := 2, constantValue := 0 }]
  methods := #[k15m0]
  instanceTypes := #[]
  staticTypes := #[(.object "java/util/function/BiFunction"), (.object "java/util/function/BiFunction"), (.object "java/util/function/BiFunction")]
  resolved := Array.replicate 194 none
  statics := some 2 }

def pool16 : Array CpInfo := pool [(9, u "<init>"), (6, .class_ 18), (1, u "java/lang/Object"), (0, u "()V"), (1, .class_ 23), (1, u "jdk/internal/util/ArraysSupport"), (0, u "LOG2_ARRAY_LONG_INDEX_SCALE"), (0, u "I"), (2, u "U"), (0, u "Ljdk/internal/misc/Unsafe;"), (8, u "BIG_ENDIAN"), (0, u "Z"), (8, u "LOG2_BYTE_BIT_SIZE"), (4, u "LOG2_ARRAY_INT_INDEX_SCALE"), (54, u "JLA"), (0, u "Ljdk/internal/access/JavaLangAccess;"), (11, u "LOG2_ARRAY_BOOLEAN_INDEX_SCALE"), (9, u "LOG2_ARRAY_BYTE_INDEX_SCALE"), (5, u "LOG2_ARRAY_CHAR_INDEX_SCALE"), (5, u "LOG2_ARRAY_SHORT_INDEX_SCALE"), (18, u "LOG2_ARRAY_FLOAT_INDEX_SCALE"), (24, u "LOG2_ARRAY_DOUBLE_INDEX_SCALE"), (89, u "T_BOOLEAN"), (2, u "T_CHAR"), (1, u "T_FLOAT"), (1, u "T_DOUBLE"), (1, u "T_BYTE"), (1, u "T_SHORT"), (1, u "T_INT"), (1, u "T_LONG"), (1, u "SOFT_MAX_ARRAY_LENGTH")] 83

def k16m0 : Method := { name := "<init>", desc := "()V", sig := { parameters := [], returnType := none }, accessFlags := 2, code := none }
/-- jdk/internal/util/ArraysSupport -/
def k16 : Class := { plain "jdk/internal/util/ArraysSupport" (some 0) with
  accessFlags := 33
  interfaces := #[]
  cf := some (fileOf pool16 21 #[] #[{ accessFlags := 2, nameIndex := 9, descriptorIndex := 19, attributes := #[] }] 33 16 #[] #[{ accessFlags := 24, nameIndex := 28, descriptorIndex := 29, attributes := #[] }, { accessFlags := 26, nameIndex := 38, descriptorIndex := 39, attributes := #[] }, { accessFlags := 25, nameIndex := 121, descriptorIndex := 25, attributes := #[] }, { accessFlags := 25, nameIndex := 131, descriptorIndex := 25, attributes := #[] }, { accessFlags := 25, nameIndex := 137, descriptorIndex := 25, attributes := #[] }, { accessFlags := 25, nameIndex := 143, descriptorIndex := 25, attributes := #[] }, { accessFlags := 25, nameIndex := 53, descriptorIndex := 25, attributes := #[] }, { accessFlags := 25, nameIndex := 24, descriptorIndex := 25, attributes := #[] }, { accessFlags := 25, nameIndex := 162, descriptorIndex := 25, attributes := #[] }, { accessFlags := 25, nameIndex := 187, descriptorIndex := 25, attributes := #[] }, { accessFlags := 26, nameIndex := 48, descriptorIndex := 25, attributes := #[] }, { accessFlags := 25, nameIndex := 277, descriptorIndex := 25, attributes := #[] }, { accessFlags := 25, nameIndex := 280, descriptorIndex := 25, attributes := #[] }, { accessFlags := 25, nameIndex := 282, descriptorIndex := 25, attributes := #[] }, { accessFlags := 25, nameIndex := 284, descriptorIndex := 25, attributes := #[] }, { accessFlags := 25, nameIndex := 286, descriptorIndex := 25, attributes := #[] }, { accessFlags := 25, nameIndex := 288, descriptorIndex := 25, attributes := #[] }, { accessFlags := 25, nameIndex := 290, descriptorIndex := 25, attributes := #[] }, { accessFlags := 25, nameIndex := 292, descriptorIndex := 25, attributes := #[] }, { accessFlags := 26, nameIndex := 108, descriptorIndex := 109, attributes := #[] }, { accessFlags := 25, nameIndex := 294, descriptorIndex := 25, attributes := #[] }])
  fields := #[{ name := "U", type := (.object "jdk/internal/misc/Unsafe"), accessFlags := 24, slot := 0, constantValue := 0 }, { name := "BIG_ENDIAN", type := .boolean, accessFlags := 26, slot := 1, constantValue := 0 }, { name := "LOG2_ARRAY_BOOLEAN_INDEX_SCALE", type := .int, accessFlags := 25, slot := 2, constantValue := 0 }, { name := "LOG2_ARRAY_BYTE_INDEX_SCALE", type := .int, accessFlags := 25, slot := 3, constantValue := 0 }, { name := "LOG2_ARRAY_CHAR_INDEX_SCALE", type := .int, accessFlags := 25, slot := 4, constantValue := 0 }, { name := "LOG2_ARRAY_SHORT_INDEX_SCALE", type := .int, accessFlags := 25, slot := 5, constantValue := 0 }, { name := "LOG2_ARRAY_INT_INDEX_SCALE", type := .int, accessFlags := 25, slot := 6, constantValue := 0 }, { name := "LOG2_ARRAY_LONG_INDEX_SCALE", type := .int, accessFlags := 25, slot := 7, constantValue := 0 }, { name := "LOG2_ARRAY_FLOAT_INDEX_SCALE", type := .int, accessFlags := 25, slot := 8, constantValue := 0 }, { name := "LOG2_ARRAY_DOUBLE_INDEX_SCALE", type := .int, accessFlags := 25, slot := 9, constantValue := 0 }, { name := "LOG2_BYTE_BIT_SIZE", type := .int, accessFlags := 26, slot := 10, constantValue := 0 }, { name := "T_BOOLEAN", type := .int, accessFlags := 25, slot := 11, constantValue := 0 }, { name := "T_CHAR", type := .int, accessFlags := 25, slot := 12, constantValue := 0 }, { name := "T_FLOAT", type := .int, accessFlags := 25, slot := 13, constantValue := 0 }, { name := "T_DOUBLE", type := .int, accessFlags := 25, slot := 14, constantValue := 0 }, { name := "T_BYTE", type := .int, accessFlags := 25, slot := 15, constantValue := 0 }, { name := "T_SHORT", type := .int, accessFlags := 25, slot := 16, constantValue := 0 }, { name := "T_INT", type := .int, accessFlags := 25, slot := 17, constantValue := 0 }, { name := "T_LONG", type := .int, accessFlags := 25, slot := 18, constantValue := 0 }, { name := "JLA", type := (.object "jdk/internal/access/JavaLangAccess"), accessFlags := 26, slot := 19, constantValue := 0 }, { name := "SOFT_MAX_ARRAY_LENGTH", type := .int, accessFlags := 25, slot := 20, constantValue := 0 }]
  methods := #[k16m0]
  instanceTypes := #[]
  staticTypes := #[(.object "jdk/internal/misc/Unsafe"), .boolean, .int, .int, .int, .int, .int, .int, .int, .int, .int, .int, .int, .int, .int, .int, .int, .int, .int, (.object "jdk/internal/access/JavaLangAccess"), .int]
  resolved := Array.replicate 378 none
  statics := none }

def pool17 : Array CpInfo := pool [(1, u "java/lang/Cloneable"), (0, .class_ 1), (0, u "java/lang/Object"), (0, .class_ 3)] 3

/-- java/lang/Cloneable -/
def k17 : Class := { plain "java/lang/Cloneable" (some 0) with
  accessFlags := 1537
  interfaces := #[]
  cf := some (fileOf pool17 2 #[] #[] 1537 4 #[] #[])
  fields := #[]
  methods := #[]
  instanceTypes := #[]
  staticTypes := #[]
  resolved := Array.replicate 8 none
  statics := none }

/-- the primitive byte -/
def k18 : Class := { plain "byte" none with kind := .primitive 'B', accessFlags := 0x411 }
/-- [B -/
def k19 : Class := { plain "[B" (some 0) with kind := .array 18 .byte, interfaces := #[17, 4], accessFlags := 1041 }

/-- the primitive char -/
def k20 : Class := { plain "char" none with kind := .primitive 'C', accessFlags := 0x411 }
/-- [C -/
def k21 : Class := { plain "[C" (some 0) with kind := .array 20 .char, interfaces := #[17, 4], accessFlags := 1041 }

/-- the primitive int -/
def k22 : Class := { plain "int" none with kind := .primitive 'I', accessFlags := 0x411 }
/-- [I -/
def k23 : Class := { plain "[I" (some 0) with kind := .array 22 .int, interfaces := #[17, 4], accessFlags := 1041 }

def heap : Heap := #[{ cls := 6, slots := #[.ref 6, .ref 5, .ref 3, .ref 4, .null], vm := .statics 6 },
  { cls := 12, slots := #[.long 0, .int 1, .null, .int 0, .null, .int 0, .int 0], vm := .statics 12 },
  { cls := 15, slots := #[.null, .null, .null], vm := .statics 15 },
  { cls := 6, slots := #[.null, .int 0, .int 0], vm := .none },
  { cls := 6, slots := #[.null, .int 0, .int 0], vm := .none },
  { cls := 6, slots := #[.null, .int 0, .int 0], vm := .none },
  { cls := 6, slots := #[.null, .int 0, .int 0], vm := .none }]
def classes : Array Class := #[k0, k1, k2, k3, k4, k5, k6, k7, k8, k9, k10, k11, k12, k13, k14, k15, k16, k17, k18, k19, k20, k21, k22, k23]
def interned : List (Array UInt16 × Addr) := []
def slotsUsed : Nat := 27
def theMethod : MethodId := ⟨1, 1⟩
def args0 : Array Value := #[.int 5, .int 300, .int 3, .int 1, .int 2, .int 3]
def aboutOver (below : List Frame) : State where
  vm := { classes := classes, interned := interned.toArray }
  heap := heap
  slotsUsed := slotsUsed
  threads := #[{ frames := .invoking theMethod args0 :: below }]
def below0 : List Frame := [.native { method := ⟨0, 0⟩, args := #[] }]
def about1 : State := aboutOver below0
def p0 : Program := .bare "" "" ""
def e0 : Env := launch0.env 0 0 0
theorem w_frames : about1.frames = Frame.invoking theMethod args0 :: below0 := rfl
set_option maxRecDepth 65536 in
theorem w_args : argsFit about1.vm theMethod args0 = true := by decide +kernel
set_option maxRecDepth 65536 in
theorem w_heap : heapFits about1 = true := by decide +kernel
set_option maxRecDepth 65536 in
theorem w_runnable : about1.curStatus? = some .runnable := by decide +kernel
set_option maxRecDepth 65536 in
theorem w_alone : about1.alone = true := by decide +kernel
set_option maxRecDepth 65536 in
theorem w_named : about1.methodNamed? x = some theMethod := by decide +kernel
set_option maxRecDepth 65536 in
theorem w_hears : about1.hears theMethod below0 = true := by decide +kernel
set_option maxRecDepth 65536 in
theorem w_ripe : about1.ripe theMethod args0 below0 = true := by decide +kernel
theorem w_running : about1.status = .running := rfl
set_option maxRecDepth 65536 in
theorem w_room : about1.hasRoom e0.platform room_1 = true :=
  launch0.hasRoom_least _ room_1 (by decide +kernel) (by decide +kernel) (by decide +kernel) (by decide +kernel) (by decide +kernel) (by decide +kernel)
theorem allAtoms_all (ts : List Jvm.Cond) (a : Array Jvm.Value) (st : Jvm.State) : (allAtoms ts).before a st = ts.all (fun c => c.before a st) := by
  induction ts with
  | nil => rfl
  | cons c t ih =>
    show (Jvm.Cond.and c (allAtoms t)).before a st = _
    rw [Jvm.Cond.before_and, ih, List.all_cons]
def words1 : List Jvm.Cond := Jvm.Cond.code x code maxLocals ret :: tables_1
/-- a 'code' word, met by the world's own term for the bytes: nothing is compared byte by byte -/
theorem code_word {y : MethodName} {bytes : ByteArray} {mx : Nat} {rt : Option FieldType} {a : Array Value} {s : State} {m : MethodId} {meth : Method} {c : Code} (h1 : s.methodNamed? y = some m) (h2 : s.vm.method? m = some meth) (h3 : meth.code = some c) (h4 : c.code = bytes)
    (h5 : (c.maxLocals == mx && c.exceptionTable.isEmpty && decide (c.maxStack ≤ mostOperands) && decide (meth.sig.returnType = rt) && !meth.locks && decide (parseMethodDescriptor y.desc = some meth.sig)) = true) : (Jvm.Cond.code y bytes mx rt).before a s = true := by
  simp only [Bool.and_eq_true, beq_iff_eq, Bool.not_eq_true', decide_eq_true_eq] at h5
  obtain ⟨⟨⟨⟨⟨g1, g2⟩, g3⟩, g4⟩, g5⟩, g6⟩ := h5
  simp [Cond.before, Cond.holds, Cond.value, h1, h2, h3, h4, g1, g2, g3, g4, g5, g6]
def isCode : Jvm.Cond → Bool
  | .code _ _ _ _ => true
  | _ => false
theorem all_split {L : List Jvm.Cond} {P : Jvm.Cond → Bool} (h1 : L.all (fun c => isCode c || P c) = true) (h2 : ∀ c ∈ L.filter isCode, P c = true) : L.all P = true := by
  refine List.all_eq_true.mpr fun c hc => ?_
  have h := List.all_eq_true.mp h1 c hc
  rcases Bool.eq_false_or_eq_true (isCode c) with hi | hi
  · exact h2 c (List.mem_filter.mpr ⟨hc, hi⟩)
  · simpa [hi] using h
set_option maxRecDepth 65536 in
theorem w_c0 : (Jvm.Cond.code x code maxLocals ret).before args0 about1 = true := code_word (m := ⟨1, 1⟩) (meth := k1m1) (c := k1c1) (by decide +kernel) rfl rfl rfl (by decide +kernel)
set_option maxRecDepth 65536 in
theorem w_c1 : (Jvm.Cond.code ({ cls := "com/example/leading/leading/GlyphIsReadablePinLaw", name := "makeText", desc := "(II)Ljava/lang/String;" } : Jvm.MethodName) method_3_code (4 : Nat) (Option.some (Jvm.ClassFile.FieldType.object "java/lang/String"))).before args0 about1 = true := code_word (m := ⟨1, 2⟩) (meth := k1m2) (c := k1c2) (by decide +kernel) rfl rfl rfl (by decide +kernel)
set_option maxRecDepth 65536 in
theorem w_c2 : (Jvm.Cond.code ({ cls := "com/example/leading/leading/GlyphIsReadablePinLaw", name := "pick", desc := "(I)Lcom/example/leading/leading/Direction;" } : Jvm.MethodName) method_4_code (1 : Nat) (Option.some (Jvm.ClassFile.FieldType.object "com/example/leading/leading/Direction"))).before args0 about1 = true := code_word (m := ⟨1, 3⟩) (meth := k1m3) (c := k1c3) (by decide +kernel) rfl rfl rfl (by decide +kernel)
set_option maxRecDepth 65536 in
theorem w_c3 : (Jvm.Cond.code ({ cls := "com/example/leading/leading/Box", name := "<init>", desc := "(DDDD)V" } : Jvm.MethodName) prog_7_method_1_code (9 : Nat) (Option.none : Option Jvm.ClassFile.FieldType)).before args0 about1 = true := code_word (m := ⟨8, 0⟩) (meth := k8m0) (c := k8c0) (by decide +kernel) rfl rfl rfl (by decide +kernel)
set_option maxRecDepth 65536 in
theorem w_c4 : (Jvm.Cond.code ({ cls := "java/lang/Record", name := "<init>", desc := "()V" } : Jvm.MethodName) jdk_30_method_1_code (1 : Nat) (Option.none : Option Jvm.ClassFile.FieldType)).before args0 about1 = true := code_word (m := ⟨7, 0⟩) (meth := k7m0) (c := k7c0) (by decide +kernel) rfl rfl rfl (by decide +kernel)
set_option maxRecDepth 65536 in
theorem w_c5 : (Jvm.Cond.code ({ cls := "java/lang/Object", name := "<init>", desc := "()V" } : Jvm.MethodName) object_method_1_code (1 : Nat) (Option.none : Option Jvm.ClassFile.FieldType)).before args0 about1 = true := code_word (m := ⟨0, 0⟩) (meth := k0m0) (c := k0c0) (by decide +kernel) rfl rfl rfl (by decide +kernel)
set_option maxRecDepth 65536 in
theorem w_c6 : (Jvm.Cond.code ({ cls := "com/example/leading/leading/Glyph", name := "<init>", desc := "(Ljava/lang/String;Lcom/example/leading/leading/Box;DLcom/example/leading/leading/Direction;)V" } : Jvm.MethodName) prog_15_method_1_code (6 : Nat) (Option.none : Option Jvm.ClassFile.FieldType)).before args0 about1 = true := code_word (m := ⟨9, 0⟩) (meth := k9m0) (c := k9c0) (by decide +kernel) rfl rfl rfl (by decide +kernel)
set_option maxRecDepth 65536 in
theorem w_c7 : (Jvm.Cond.code ({ cls := "com/example/leading/leading/Glyph", name := "isReadable", desc := "()Z" } : Jvm.MethodName) prog_15_method_3_code (1 : Nat) (Option.some Jvm.ClassFile.FieldType.boolean)).before args0 about1 = true := code_word (m := ⟨9, 2⟩) (meth := k9m2) (c := k9c2) (by decide +kernel) rfl rfl rfl (by decide +kernel)
set_option maxRecDepth 65536 in
theorem w_c8 : (Jvm.Cond.code ({ cls := "com/example/leading/leading/Glyph", name := "isSpace", desc := "()Z" } : Jvm.MethodName) prog_15_method_2_code (1 : Nat) (Option.some Jvm.ClassFile.FieldType.boolean)).before args0 about1 = true := code_word (m := ⟨9, 1⟩) (meth := k9m1) (c := k9c1) (by decide +kernel) rfl rfl rfl (by decide +kernel)
set_option maxRecDepth 65536 in
theorem w_c9 : (Jvm.Cond.code ({ cls := "java/lang/String", name := "equals", desc := "(Ljava/lang/Object;)Z" } : Jvm.MethodName) jdk_42_method_66_code (3 : Nat) (Option.some Jvm.ClassFile.FieldType.boolean)).before args0 about1 = true := code_word (m := ⟨12, 2⟩) (meth := k12m2) (c := k12c2) (by decide +kernel) rfl rfl rfl (by decide +kernel)
set_option maxRecDepth 65536 in
theorem w_c10 : (Jvm.Cond.code ({ cls := "java/lang/String", name := "<init>", desc := "([C)V" } : Jvm.MethodName) jdk_42_method_3_code (2 : Nat) (Option.none : Option Jvm.ClassFile.FieldType)).before args0 about1 = true := code_word (m := ⟨12, 1⟩) (meth := k12m1) (c := k12c1) (by decide +kernel) rfl rfl rfl (by decide +kernel)
set_option maxRecDepth 65536 in
theorem w_c11 : (Jvm.Cond.code ({ cls := "java/lang/String", name := "<init>", desc := "([CIILjava/lang/Void;)V" } : Jvm.MethodName) jdk_42_method_149_code (6 : Nat) (Option.none : Option Jvm.ClassFile.FieldType)).before args0 about1 = true := code_word (m := ⟨12, 4⟩) (meth := k12m4) (c := k12c4) (by decide +kernel) rfl rfl rfl (by decide +kernel)
set_option maxRecDepth 65536 in
theorem w_c12 : (Jvm.Cond.code ({ cls := "java/lang/StringLatin1", name := "equals", desc := "([B[B)Z" } : Jvm.MethodName) jdk_43_method_13_code (3 : Nat) (Option.some Jvm.ClassFile.FieldType.boolean)).before args0 about1 = true := code_word (m := ⟨13, 2⟩) (meth := k13m2) (c := k13c2) (by decide +kernel) rfl rfl rfl (by decide +kernel)
set_option maxRecDepth 65536 in
theorem w_c13 : (Jvm.Cond.code ({ cls := "java/lang/StringUTF16", name := "compress", desc := "([CII)[B" } : Jvm.MethodName) jdk_52_method_16_code (6 : Nat) (Option.some (Jvm.ClassFile.FieldType.array Jvm.ClassFile.FieldType.byte))).before args0 about1 = true := code_word (m := ⟨14, 2⟩) (meth := k14m2) (c := k14c2) (by decide +kernel) rfl rfl rfl (by decide +kernel)
set_option maxRecDepth 65536 in
theorem w_c14 : (Jvm.Cond.code ({ cls := "java/lang/StringUTF16", name := "compress", desc := "([CI[BII)I" } : Jvm.MethodName) jdk_52_method_21_code (7 : Nat) (Option.some Jvm.ClassFile.FieldType.int)).before args0 about1 = true := code_word (m := ⟨14, 3⟩) (meth := k14m3) (c := k14c3) (by decide +kernel) rfl rfl rfl (by decide +kernel)
set_option maxRecDepth 65536 in
theorem w_c15 : (Jvm.Cond.code ({ cls := "java/lang/StringUTF16", name := "coderFromArrayLen", desc := "([BI)B" } : Jvm.MethodName) jdk_52_method_15_code (2 : Nat) (Option.some Jvm.ClassFile.FieldType.byte)).before args0 about1 = true := code_word (m := ⟨14, 1⟩) (meth := k14m1) (c := k14c1) (by decide +kernel) rfl rfl rfl (by decide +kernel)
set_option maxRecDepth 65536 in
theorem w_c16 : (Jvm.Cond.code ({ cls := "java/lang/String", name := "valueOf", desc := "(C)Ljava/lang/String;" } : Jvm.MethodName) jdk_42_method_139_code (1 : Nat) (Option.some (Jvm.ClassFile.FieldType.object "java/lang/String"))).before args0 about1 = true := code_word (m := ⟨12, 3⟩) (meth := k12m3) (c := k12c3) (by decide +kernel) rfl rfl rfl (by decide +kernel)
set_option maxRecDepth 65536 in
theorem w_c17 : (Jvm.Cond.code ({ cls := "java/lang/StringLatin1", name := "canEncode", desc := "(C)Z" } : Jvm.MethodName) jdk_43_method_3_code (1 : Nat) (Option.some Jvm.ClassFile.FieldType.boolean)).before args0 about1 = true := code_word (m := ⟨13, 1⟩) (meth := k13m1) (c := k13c1) (by decide +kernel) rfl rfl rfl (by decide +kernel)
set_option maxRecDepth 65536 in
theorem w_c18 : (Jvm.Cond.code ({ cls := "java/lang/StringLatin1", name := "toBytes", desc := "(C)[B" } : Jvm.MethodName) jdk_43_method_46_code (1 : Nat) (Option.some (Jvm.ClassFile.FieldType.array Jvm.ClassFile.FieldType.byte))).before args0 about1 = true := code_word (m := ⟨13, 3⟩) (meth := k13m3) (c := k13c3) (by decide +kernel) rfl rfl rfl (by decide +kernel)
set_option maxRecDepth 65536 in
theorem w_c19 : (Jvm.Cond.code ({ cls := "java/lang/String", name := "<init>", desc := "([BB)V" } : Jvm.MethodName) jdk_42_method_151_code (3 : Nat) (Option.none : Option Jvm.ClassFile.FieldType)).before args0 about1 = true := code_word (m := ⟨12, 5⟩) (meth := k12m5) (c := k12c5) (by decide +kernel) rfl rfl rfl (by decide +kernel)
def codes1 : List Jvm.Cond := [Jvm.Cond.code x code maxLocals ret, Jvm.Cond.code ({ cls := "com/example/leading/leading/GlyphIsReadablePinLaw", name := "makeText", desc := "(II)Ljava/lang/String;" } : Jvm.MethodName) method_3_code (4 : Nat) (Option.some (Jvm.ClassFile.FieldType.object "java/lang/String")), Jvm.Cond.code ({ cls := "com/example/leading/leading/GlyphIsReadablePinLaw", name := "pick", desc := "(I)Lcom/example/leading/leading/Direction;" } : Jvm.MethodName) method_4_code (1 : Nat) (Option.some (Jvm.ClassFile.FieldType.object "com/example/leading/leading/Direction")), Jvm.Cond.code ({ cls := "com/example/leading/leading/Box", name := "<init>", desc := "(DDDD)V" } : Jvm.MethodName) prog_7_method_1_code (9 : Nat) (Option.none : Option Jvm.ClassFile.FieldType), Jvm.Cond.code ({ cls := "java/lang/Record", name := "<init>", desc := "()V" } : Jvm.MethodName) jdk_30_method_1_code (1 : Nat) (Option.none : Option Jvm.ClassFile.FieldType), Jvm.Cond.code ({ cls := "java/lang/Object", name := "<init>", desc := "()V" } : Jvm.MethodName) object_method_1_code (1 : Nat) (Option.none : Option Jvm.ClassFile.FieldType), Jvm.Cond.code ({ cls := "com/example/leading/leading/Glyph", name := "<init>", desc := "(Ljava/lang/String;Lcom/example/leading/leading/Box;DLcom/example/leading/leading/Direction;)V" } : Jvm.MethodName) prog_15_method_1_code (6 : Nat) (Option.none : Option Jvm.ClassFile.FieldType), Jvm.Cond.code ({ cls := "com/example/leading/leading/Glyph", name := "isReadable", desc := "()Z" } : Jvm.MethodName) prog_15_method_3_code (1 : Nat) (Option.some Jvm.ClassFile.FieldType.boolean), Jvm.Cond.code ({ cls := "com/example/leading/leading/Glyph", name := "isSpace", desc := "()Z" } : Jvm.MethodName) prog_15_method_2_code (1 : Nat) (Option.some Jvm.ClassFile.FieldType.boolean), Jvm.Cond.code ({ cls := "java/lang/String", name := "equals", desc := "(Ljava/lang/Object;)Z" } : Jvm.MethodName) jdk_42_method_66_code (3 : Nat) (Option.some Jvm.ClassFile.FieldType.boolean), Jvm.Cond.code ({ cls := "java/lang/String", name := "<init>", desc := "([C)V" } : Jvm.MethodName) jdk_42_method_3_code (2 : Nat) (Option.none : Option Jvm.ClassFile.FieldType), Jvm.Cond.code ({ cls := "java/lang/String", name := "<init>", desc := "([CIILjava/lang/Void;)V" } : Jvm.MethodName) jdk_42_method_149_code (6 : Nat) (Option.none : Option Jvm.ClassFile.FieldType), Jvm.Cond.code ({ cls := "java/lang/StringLatin1", name := "equals", desc := "([B[B)Z" } : Jvm.MethodName) jdk_43_method_13_code (3 : Nat) (Option.some Jvm.ClassFile.FieldType.boolean), Jvm.Cond.code ({ cls := "java/lang/StringUTF16", name := "compress", desc := "([CII)[B" } : Jvm.MethodName) jdk_52_method_16_code (6 : Nat) (Option.some (Jvm.ClassFile.FieldType.array Jvm.ClassFile.FieldType.byte)), Jvm.Cond.code ({ cls := "java/lang/StringUTF16", name := "compress", desc := "([CI[BII)I" } : Jvm.MethodName) jdk_52_method_21_code (7 : Nat) (Option.some Jvm.ClassFile.FieldType.int), Jvm.Cond.code ({ cls := "java/lang/StringUTF16", name := "coderFromArrayLen", desc := "([BI)B" } : Jvm.MethodName) jdk_52_method_15_code (2 : Nat) (Option.some Jvm.ClassFile.FieldType.byte), Jvm.Cond.code ({ cls := "java/lang/String", name := "valueOf", desc := "(C)Ljava/lang/String;" } : Jvm.MethodName) jdk_42_method_139_code (1 : Nat) (Option.some (Jvm.ClassFile.FieldType.object "java/lang/String")), Jvm.Cond.code ({ cls := "java/lang/StringLatin1", name := "canEncode", desc := "(C)Z" } : Jvm.MethodName) jdk_43_method_3_code (1 : Nat) (Option.some Jvm.ClassFile.FieldType.boolean), Jvm.Cond.code ({ cls := "java/lang/StringLatin1", name := "toBytes", desc := "(C)[B" } : Jvm.MethodName) jdk_43_method_46_code (1 : Nat) (Option.some (Jvm.ClassFile.FieldType.array Jvm.ClassFile.FieldType.byte)), Jvm.Cond.code ({ cls := "java/lang/String", name := "<init>", desc := "([BB)V" } : Jvm.MethodName) jdk_42_method_151_code (3 : Nat) (Option.none : Option Jvm.ClassFile.FieldType)]
set_option maxRecDepth 65536 in
theorem codes_eq : words1.filter isCode = codes1 := rfl
theorem w_codes : ∀ c ∈ words1.filter isCode, c.before args0 about1 = true := by
  rw [codes_eq]
  intro c hc
  simp only [codes1, List.mem_cons, List.not_mem_nil, or_false] at hc
  rcases hc with rfl | rfl | rfl | rfl | rfl | rfl | rfl | rfl | rfl | rfl | rfl | rfl | rfl | rfl | rfl | rfl | rfl | rfl | rfl | rfl
  · exact w_c0
  · exact w_c1
  · exact w_c2
  · exact w_c3
  · exact w_c4
  · exact w_c5
  · exact w_c6
  · exact w_c7
  · exact w_c8
  · exact w_c9
  · exact w_c10
  · exact w_c11
  · exact w_c12
  · exact w_c13
  · exact w_c14
  · exact w_c15
  · exact w_c16
  · exact w_c17
  · exact w_c18
  · exact w_c19
set_option maxRecDepth 65536 in
theorem w_t1 : (words1.take 24).all (fun c => isCode c || c.before args0 about1) = true := by decide +kernel
set_option maxRecDepth 65536 in
theorem w_t2 : ((words1.drop 24).take 24).all (fun c => isCode c || c.before args0 about1) = true := by decide +kernel
set_option maxRecDepth 65536 in
theorem w_t3 : (((words1.drop 24).drop 24).take 24).all (fun c => isCode c || c.before args0 about1) = true := by decide +kernel
set_option maxRecDepth 65536 in
theorem w_t4 : ((((words1.drop 24).drop 24).drop 24).take 24).all (fun c => isCode c || c.before args0 about1) = true := by decide +kernel
set_option maxRecDepth 65536 in
theorem w_t5 : ((((words1.drop 24).drop 24).drop 24).drop 24).all (fun c => isCode c || c.before args0 about1) = true := by decide +kernel
theorem w_tables : (allAtoms (Jvm.Cond.code x code maxLocals ret :: tables_1)).before args0 about1 = true := by
  rw [allAtoms_all]
  show words1.all (fun c => c.before args0 about1) = true
  refine all_split ?_ w_codes
  rw [← List.take_append_drop 24 words1, List.all_append, w_t1, ← List.take_append_drop 24 (words1.drop 24), List.all_append, w_t2, ← List.take_append_drop 24 ((words1.drop 24).drop 24), List.all_append, w_t3, ← List.take_append_drop 24 (((words1.drop 24).drop 24).drop 24), List.all_append, w_t4, w_t5]
  rfl
set_option maxRecDepth 65536 in
theorem w_rest : rest_1_c.before args0 about1 = true := by decide +kernel
set_option maxRecDepth 65536 in
theorem w_case : (Jvm.Cond.and given_1 narrow_1).before args0 about1 = true := by decide +kernel
set_option maxRecDepth 65536 in
theorem w_consts : constsHeld consts_1 about1 := Jvm.Lit.constsHeldB_iff.mp (by decide +kernel)
theorem w_applies : (headSpec (Jvm.Cond.code x code maxLocals ret :: tables_1) room_1).applies x e0.platform about1 = true :=
  (Spec.applies_iff w_frames).mpr ⟨w_running, w_runnable, w_alone, w_named, w_hears, w_ripe, w_room, w_tables⟩
theorem atStart : AtStart classFile x code maxLocals ret World_1 tables_1 room_1 Calls_1 rest_1 Pre_1 launch0 p0 e0 about1 theMethod args0 below0 :=
  ⟨lists_1, trivial, launch0.admits_env _ _ _, launch0.least_env, fairChoices_fair.cas, fairChoices_fair.clock, w_frames, w_args, w_heap, w_applies, ⟨w_consts, trivial⟩, w_rest, w_case⟩
end start1
theorem witness_1 : WitnessClaimed_1 := ⟨start1.p0, start1.e0, start1.about1, start1.theMethod, start1.args0, start1.below0, start1.atStart⟩
end Jvm.Pilot.@@N@@
