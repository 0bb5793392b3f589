import JvmDerived
import JvmDerived.Pilot.@@N@@Statement
import JvmDerived.Pilot.@@N@@Code
set_option linter.unusedVariables false
set_option linter.unusedSimpArgs false
namespace Jvm.Pilot.@@N@@
open Jvm Jvm.ClassFile Sem Op Lib Jvm.Free Jvm.Stand Jvm.LawKit Jvm.RoadKit Bundle Jvm.Pilot.@@N@@.Jvm.D

section Own
variable {p : Program} {l : Launch} {e : Env} {R : Room} {s : State} {m : MethodId} {args : Array Value} {below : List Frame} {meth : Method} {c : Code} {T : State} {locs : List Loc} {cells slots : Nat} {Z : State} {h : Heap} {y : MethodName} {bytes : ByteArray} {maxL : Nat} {ret : Option FieldType} {E : Outcome → State → Prop} {Q : Option Value → Heap → List Loc → Prop} {kc ks : Nat} {Ls : Array Slot} {st : List Value} {pc : Nat} {a0 : Array Value}
/-- what stays as it is through the walk of one body -/
def own_C (Z : State) (y : MethodName) (bytes : ByteArray) (maxL : Nat) (ret : Option FieldType) (p : Program) (s : State) (m : MethodId) (meth : Method) (c : Code) : Prop :=
  p.tables.exec = Jvm.exec ∧ c.code = bytes ∧ c.maxLocals = maxL ∧ s.vm.findClass y.cls = some m.cls ∧ Z.Warmed39 s.vm ∧ meth.sig.returnType = ret ∧ meth.locks = false ∧ meth.name = y.name
/-- the walk stands at T, whose heap is h -/
def own_S (Z : State) (y : MethodName) (bytes : ByteArray) (maxL : Nat) (ret : Option FieldType) (p : Program) (l : Launch) (e : Env) (R : Room) (s : State) (m : MethodId) (args : Array Value) (below : List Frame) (meth : Method) (c : Code) (T : State) (h : Heap) (locs : List Loc) (cells slots : Nat) : Prop :=
  own_C Z y bytes maxL ret p s m meth c ∧ Stand p l e R s m args below meth c T locs cells slots ∧ T.heap = h
/-- from S the run ends, and its end is as Q says -/
def own_G (p : Program) (e : Env) (below : List Frame) (E : Outcome → State → Prop) (S : State) : Prop :=
  ∃ t o, Steps p.tables e below S t ∧ t.status = .running ∧ Ended t below o ∧ E o t
def own_E (s : State) (Q : Option Value → Heap → List Loc → Prop) (kc ks : Nat) (o : Outcome) (t : State) : Prop := ∃ v L, o = .returned v ∧ Q v t.heap L ∧ FrameEnd s o t L kc ks
theorem own_st {S S' : State} (hs : ∀ t, Steps p.tables e below S' t → Steps p.tables e below S t) (K : own_G p e below E S') : own_G p e below E S := by
  obtain ⟨t, o, h1, r⟩ := K
  exact ⟨t, o, hs t h1, r⟩
theorem own_S.x (Y : own_S Z y bytes maxL ret p l e R s m args below meth c T h locs cells slots) : p.tables.exec = Jvm.exec := Y.1.1
theorem own_S.d (Y : own_S Z y bytes maxL ret p l e R s m args below meth c T h locs cells slots) {pc : Nat} {r : Except ClassFile.DecodeError (ClassFile.Instr × Nat)} (hd : decode bytes pc = r) : decode c.code pc = r := hb Y.1.2.1 hd
theorem own_S.own (Y : own_S Z y bytes maxL ret p l e R s m args below meth c T h locs cells slots) : s.vm.findClass y.cls = some m.cls := Y.1.2.2.2.1
theorem own_S.warm (Y : own_S Z y bytes maxL ret p l e R s m args below meth c T h locs cells slots) : Z.Warmed39 s.vm := Y.1.2.2.2.2.1
theorem own_S.X (Y : own_S Z y bytes maxL ret p l e R s m args below meth c T h locs cells slots) : Stand p l e R s m args below meth c T locs cells slots := Y.2.1
theorem own_S.eT (Y : own_S Z y bytes maxL ret p l e R s m args below meth c T h locs cells slots) : T.heap = h := Y.2.2
/-- the contract of a body -/
def own_M (l : Launch) (y : MethodName) (bytes : ByteArray) (maxL : Nat) (ret : Option FieldType) (ws : List Jvm.Cond) (rm : Room) (Z : State) (as' : Array Value) (h : Heap) (Q : Option Value → Heap → List Loc → Prop) : Prop :=
  MetFree l y (head1 (Jvm.Cond.code y bytes maxL ret :: ws) rm) (fun a U => a = as' ∧ Z.Warmed39 U.vm ∧ U.heap = h) (fun _ _ _ _ _ => True) (fun _ U o U' => ∃ v L, o = .returned v ∧ Q v U'.heap L ∧ FrameEnd U o U' L rm.cells rm.slots)
theorem own_met {ws : List Jvm.Cond} {rm : Room} {as' : Array Value} (hp : plainFor y = true) {Lf : Array Slot} (hE : ∀ m, entryFrame m as' maxL = mkF m 0 Lf [])
    (body : ∀ p e s m below meth c T, own_S Z y bytes maxL ret p l e rm s m as' below meth c T h [] 0 0 → own_G p e below (own_E s Q rm.cells rm.slots) (T.setTop (mkF m 0 Lf []))) : own_M l y bytes maxL ret ws rm Z as' h Q := by
  refine MetFree.of_bodySF (maxLocals := maxL) hp hisR ?_
  intro p e s m args below meth c s₁ Bd hml0 hP hK
  obtain ⟨rfl, hZ, hh⟩ := hP
  obtain ⟨t, o, h1, h2, h3, h4⟩ := body p e s m below meth c s₁ ⟨⟨Bd.exec, Bd.bytes, hml0, findClass_of_methodNamed Bd.named, hZ, Bd.returns, Bd.notSynchronized, (name_of_methodNamed Bd.named Bd.method).1⟩, Stand.of_body Bd, by rw [← hh, Bd.state]; rfl⟩
  exact ⟨t, o, castTop (hE m) h1, h2, h3, h4⟩
theorem own_wd {ts : List Jvm.Cond} (hw : ∀ d ∈ ts, d.before a0 Z = true) (i : Nat) {d : Jvm.Cond} (hi : ts[i]? = some d) : d.before a0 Z = true := hw d (List.mem_of_getElem? hi)
theorem own_M.weak {ws : List Jvm.Cond} {rm : Room} {as' : Array Value} {Q' : Option Value → Heap → List Loc → Prop} (M : own_M l y bytes maxL ret ws rm Z as' h Q) (hQ : ∀ v h' L, Q v h' L → Q' v h' L) : own_M l y bytes maxL ret ws rm Z as' h Q' := by
  intro p e ha hc hk s m args below hf happ hP hK
  obtain ⟨n, o, h1, h2, h3, v, L, h4, h5, h6⟩ := M p e ha hc hk s m args below hf happ hP hK
  exact ⟨n, o, h1, h2, h3, v, L, h4, hQ _ _ _ h5, h6⟩
theorem own_aloadN (pc' : Nat) (Y : own_S Z y bytes maxL ret p l e R s m args below meth c T h locs cells slots) {k : Fin 4} {v : Value} (hd : decode bytes pc = .ok (.aload_n k, 1)) (hl : Ls[k.val]? = some (.val v)) (hv : v.isRef = true) (hp : pc + 1 = pc') (K : own_G p e below E (T.setTop (mkF m pc' Ls (v :: st)))) : own_G p e below E (T.setTop (mkF m pc Ls (st))) := by
  subst hp
  exact own_st (fun t k => XS.aloadN Y.X.here Y.x rfl (Y.d hd) hl hv k) K
theorem own_aload (pc' : Nat) (Y : own_S Z y bytes maxL ret p l e R s m args below meth c T h locs cells slots) {k : Nat} {v : Value} (hd : decode bytes pc = .ok (.aload k, 2)) (hl : Ls[k]? = some (.val v)) (hv : v.isRef = true) (hp : pc + 2 = pc') (K : own_G p e below E (T.setTop (mkF m pc' Ls (v :: st)))) : own_G p e below E (T.setTop (mkF m pc Ls (st))) := by
  subst hp
  exact own_st (fun t k => XS.aload Y.X.here Y.x rfl (Y.d hd) hl hv k) K
theorem own_iloadN (pc' : Nat) (Y : own_S Z y bytes maxL ret p l e R s m args below meth c T h locs cells slots) {k : Fin 4} {v : Int32} (hd : decode bytes pc = .ok (.iload_n k, 1)) (hl : Ls[k.val]? = some (.val (.int v))) (hp : pc + 1 = pc') (K : own_G p e below E (T.setTop (mkF m pc' Ls (.int v :: st)))) : own_G p e below E (T.setTop (mkF m pc Ls (st))) := by
  subst hp
  exact own_st (fun t k => XS.iloadN Y.X.here Y.x rfl (Y.d hd) hl k) K
theorem own_iload (pc' : Nat) (Y : own_S Z y bytes maxL ret p l e R s m args below meth c T h locs cells slots) {k : Nat} {v : Int32} (hd : decode bytes pc = .ok (.iload k, 2)) (hl : Ls[k]? = some (.val (.int v))) (hp : pc + 2 = pc') (K : own_G p e below E (T.setTop (mkF m pc' Ls (.int v :: st)))) : own_G p e below E (T.setTop (mkF m pc Ls (st))) := by
  subst hp
  exact own_st (fun t k => XS.iload Y.X.here Y.x rfl (Y.d hd) hl k) K
theorem own_lloadN (pc' : Nat) (Y : own_S Z y bytes maxL ret p l e R s m args below meth c T h locs cells slots) {k : Fin 4} {v : Int64} (hd : decode bytes pc = .ok (.lload_n k, 1)) (hl : Ls[k.val]? = some (.val (.long v))) (hp : pc + 1 = pc') (K : own_G p e below E (T.setTop (mkF m pc' Ls (.long v :: st)))) : own_G p e below E (T.setTop (mkF m pc Ls (st))) := by
  subst hp
  exact own_st (fun t k => XS.lloadN Y.X.here Y.x rfl (Y.d hd) hl k) K
theorem own_lload (pc' : Nat) (Y : own_S Z y bytes maxL ret p l e R s m args below meth c T h locs cells slots) {k : Nat} {v : Int64} (hd : decode bytes pc = .ok (.lload k, 2)) (hl : Ls[k]? = some (.val (.long v))) (hp : pc + 2 = pc') (K : own_G p e below E (T.setTop (mkF m pc' Ls (.long v :: st)))) : own_G p e below E (T.setTop (mkF m pc Ls (st))) := by
  subst hp
  exact own_st (fun t k => XS.lload Y.X.here Y.x rfl (Y.d hd) hl k) K
theorem own_iconst (pc' : Nat) (Y : own_S Z y bytes maxL ret p l e R s m args below meth c T h locs cells slots) {i : Int} (v : Int32) (hd : decode bytes pc = .ok (.iconst i, 1)) (hv : Int32.ofInt i = v) (hp : pc + 1 = pc') (K : own_G p e below E (T.setTop (mkF m pc' Ls (.int v :: st)))) : own_G p e below E (T.setTop (mkF m pc Ls (st))) := by
  subst hp
  exact own_st (fun t k => XT.iconstV Y.X.here Y.x rfl v (Y.d hd) hv k) K
theorem own_bipush (pc' : Nat) (Y : own_S Z y bytes maxL ret p l e R s m args below meth c T h locs cells slots) {i : Int} (v : Int32) (hd : decode bytes pc = .ok (.bipush i, 2)) (hv : (Int8.ofInt i).toInt32 = v) (hp : pc + 2 = pc') (K : own_G p e below E (T.setTop (mkF m pc' Ls (.int v :: st)))) : own_G p e below E (T.setTop (mkF m pc Ls (st))) := by
  subst hp
  exact own_st (fun t k => XT.bipushV Y.X.here Y.x rfl v (Y.d hd) hv k) K
theorem own_sipush (pc' : Nat) (Y : own_S Z y bytes maxL ret p l e R s m args below meth c T h locs cells slots) {i : Int} (v : Int32) (hd : decode bytes pc = .ok (.sipush i, 3)) (hv : (Int16.ofInt i).toInt32 = v) (hp : pc + 3 = pc') (K : own_G p e below E (T.setTop (mkF m pc' Ls (.int v :: st)))) : own_G p e below E (T.setTop (mkF m pc Ls (st))) := by
  subst hp
  exact own_st (fun t k => XT.sipushV Y.X.here Y.x rfl v (Y.d hd) hv k) K
theorem own_lconst (pc' : Nat) (Y : own_S Z y bytes maxL ret p l e R s m args below meth c T h locs cells slots) {i : Fin 2} (v : Int64) (hd : decode bytes pc = .ok (.lconst i, 1)) (hv : Int64.ofNat i = v) (hp : pc + 1 = pc') (K : own_G p e below E (T.setTop (mkF m pc' Ls (.long v :: st)))) : own_G p e below E (T.setTop (mkF m pc Ls (st))) := by
  subst hp
  exact own_st (fun t k => XT.lconstV Y.X.here Y.x rfl v (Y.d hd) hv k) K
theorem own_aconst_null (pc' : Nat) (Y : own_S Z y bytes maxL ret p l e R s m args below meth c T h locs cells slots)  (hd : decode bytes pc = .ok (.aconst_null, 1))  (hp : pc + 1 = pc') (K : own_G p e below E (T.setTop (mkF m pc' Ls (.null :: st)))) : own_G p e below E (T.setTop (mkF m pc Ls (st))) := by
  subst hp
  exact own_st (fun t k => XS.aconstNull Y.X.here Y.x rfl (Y.d hd) k) K
theorem own_iadd (pc' : Nat) (Y : own_S Z y bytes maxL ret p l e R s m args below meth c T h locs cells slots) {x z : Int32} (hd : decode bytes pc = .ok (.iadd, 1))  (hp : pc + 1 = pc') (K : own_G p e below E (T.setTop (mkF m pc' Ls (.int (x + z) :: st)))) : own_G p e below E (T.setTop (mkF m pc Ls (.int z :: .int x :: st))) := by
  subst hp
  exact own_st (fun t k => XS.iadd Y.X.here Y.x rfl (Y.d hd) rfl k) K
theorem own_isub (pc' : Nat) (Y : own_S Z y bytes maxL ret p l e R s m args below meth c T h locs cells slots) {x z : Int32} (hd : decode bytes pc = .ok (.isub, 1))  (hp : pc + 1 = pc') (K : own_G p e below E (T.setTop (mkF m pc' Ls (.int (x - z) :: st)))) : own_G p e below E (T.setTop (mkF m pc Ls (.int z :: .int x :: st))) := by
  subst hp
  exact own_st (fun t k => XS.isub Y.X.here Y.x rfl (Y.d hd) rfl k) K
theorem own_imul (pc' : Nat) (Y : own_S Z y bytes maxL ret p l e R s m args below meth c T h locs cells slots) {x z : Int32} (hd : decode bytes pc = .ok (.imul, 1))  (hp : pc + 1 = pc') (K : own_G p e below E (T.setTop (mkF m pc' Ls (.int (x * z) :: st)))) : own_G p e below E (T.setTop (mkF m pc Ls (.int z :: .int x :: st))) := by
  subst hp
  exact own_st (fun t k => XS.imul Y.X.here Y.x rfl (Y.d hd) rfl k) K
theorem own_iand (pc' : Nat) (Y : own_S Z y bytes maxL ret p l e R s m args below meth c T h locs cells slots) {x z : Int32} (hd : decode bytes pc = .ok (.iand, 1))  (hp : pc + 1 = pc') (K : own_G p e below E (T.setTop (mkF m pc' Ls (.int (x &&& z) :: st)))) : own_G p e below E (T.setTop (mkF m pc Ls (.int z :: .int x :: st))) := by
  subst hp
  exact own_st (fun t k => XS.iand Y.X.here Y.x rfl (Y.d hd) rfl k) K
theorem own_ior (pc' : Nat) (Y : own_S Z y bytes maxL ret p l e R s m args below meth c T h locs cells slots) {x z : Int32} (hd : decode bytes pc = .ok (.ior, 1))  (hp : pc + 1 = pc') (K : own_G p e below E (T.setTop (mkF m pc' Ls (.int (x ||| z) :: st)))) : own_G p e below E (T.setTop (mkF m pc Ls (.int z :: .int x :: st))) := by
  subst hp
  exact own_st (fun t k => XS.ior Y.X.here Y.x rfl (Y.d hd) rfl k) K
theorem own_ixor (pc' : Nat) (Y : own_S Z y bytes maxL ret p l e R s m args below meth c T h locs cells slots) {x z : Int32} (hd : decode bytes pc = .ok (.ixor, 1))  (hp : pc + 1 = pc') (K : own_G p e below E (T.setTop (mkF m pc' Ls (.int (x ^^^ z) :: st)))) : own_G p e below E (T.setTop (mkF m pc Ls (.int z :: .int x :: st))) := by
  subst hp
  exact own_st (fun t k => XS.ixor Y.X.here Y.x rfl (Y.d hd) rfl k) K
theorem own_ishl (pc' : Nat) (Y : own_S Z y bytes maxL ret p l e R s m args below meth c T h locs cells slots) {x z : Int32} (hd : decode bytes pc = .ok (.ishl, 1))  (hp : pc + 1 = pc') (K : own_G p e below E (T.setTop (mkF m pc' Ls (.int (x <<< (z &&& 31)) :: st)))) : own_G p e below E (T.setTop (mkF m pc Ls (.int z :: .int x :: st))) := by
  subst hp
  exact own_st (fun t k => XS.ishl Y.X.here Y.x rfl (Y.d hd) rfl k) K
theorem own_ishr (pc' : Nat) (Y : own_S Z y bytes maxL ret p l e R s m args below meth c T h locs cells slots) {x z : Int32} (hd : decode bytes pc = .ok (.ishr, 1))  (hp : pc + 1 = pc') (K : own_G p e below E (T.setTop (mkF m pc' Ls (.int (x >>> (z &&& 31)) :: st)))) : own_G p e below E (T.setTop (mkF m pc Ls (.int z :: .int x :: st))) := by
  subst hp
  exact own_st (fun t k => XS.ishr Y.X.here Y.x rfl (Y.d hd) rfl k) K
theorem own_iushr (pc' : Nat) (Y : own_S Z y bytes maxL ret p l e R s m args below meth c T h locs cells slots) {x z : Int32} (hd : decode bytes pc = .ok (.iushr, 1))  (hp : pc + 1 = pc') (K : own_G p e below E (T.setTop (mkF m pc' Ls (.int ((x.toUInt32 >>> (z &&& 31).toUInt32).toInt32) :: st)))) : own_G p e below E (T.setTop (mkF m pc Ls (.int z :: .int x :: st))) := by
  subst hp
  exact own_st (fun t k => XS.iushr Y.X.here Y.x rfl (Y.d hd) rfl k) K
theorem own_ladd (pc' : Nat) (Y : own_S Z y bytes maxL ret p l e R s m args below meth c T h locs cells slots) {x z : Int64} (hd : decode bytes pc = .ok (.ladd, 1))  (hp : pc + 1 = pc') (K : own_G p e below E (T.setTop (mkF m pc' Ls (.long (x + z) :: st)))) : own_G p e below E (T.setTop (mkF m pc Ls (.long z :: .long x :: st))) := by
  subst hp
  exact own_st (fun t k => XS.ladd Y.X.here Y.x rfl (Y.d hd) rfl k) K
theorem own_lsub (pc' : Nat) (Y : own_S Z y bytes maxL ret p l e R s m args below meth c T h locs cells slots) {x z : Int64} (hd : decode bytes pc = .ok (.lsub, 1))  (hp : pc + 1 = pc') (K : own_G p e below E (T.setTop (mkF m pc' Ls (.long (x - z) :: st)))) : own_G p e below E (T.setTop (mkF m pc Ls (.long z :: .long x :: st))) := by
  subst hp
  exact own_st (fun t k => XS.lsub Y.X.here Y.x rfl (Y.d hd) rfl k) K
theorem own_lmul (pc' : Nat) (Y : own_S Z y bytes maxL ret p l e R s m args below meth c T h locs cells slots) {x z : Int64} (hd : decode bytes pc = .ok (.lmul, 1))  (hp : pc + 1 = pc') (K : own_G p e below E (T.setTop (mkF m pc' Ls (.long (x * z) :: st)))) : own_G p e below E (T.setTop (mkF m pc Ls (.long z :: .long x :: st))) := by
  subst hp
  exact own_st (fun t k => XS.lmul Y.X.here Y.x rfl (Y.d hd) rfl k) K
theorem own_land (pc' : Nat) (Y : own_S Z y bytes maxL ret p l e R s m args below meth c T h locs cells slots) {x z : Int64} (hd : decode bytes pc = .ok (.land, 1))  (hp : pc + 1 = pc') (K : own_G p e below E (T.setTop (mkF m pc' Ls (.long (x &&& z) :: st)))) : own_G p e below E (T.setTop (mkF m pc Ls (.long z :: .long x :: st))) := by
  subst hp
  exact own_st (fun t k => XS.land Y.X.here Y.x rfl (Y.d hd) rfl k) K
theorem own_lor (pc' : Nat) (Y : own_S Z y bytes maxL ret p l e R s m args below meth c T h locs cells slots) {x z : Int64} (hd : decode bytes pc = .ok (.lor, 1))  (hp : pc + 1 = pc') (K : own_G p e below E (T.setTop (mkF m pc' Ls (.long (x ||| z) :: st)))) : own_G p e below E (T.setTop (mkF m pc Ls (.long z :: .long x :: st))) := by
  subst hp
  exact own_st (fun t k => XS.lor Y.X.here Y.x rfl (Y.d hd) rfl k) K
theorem own_lxor (pc' : Nat) (Y : own_S Z y bytes maxL ret p l e R s m args below meth c T h locs cells slots) {x z : Int64} (hd : decode bytes pc = .ok (.lxor, 1))  (hp : pc + 1 = pc') (K : own_G p e below E (T.setTop (mkF m pc' Ls (.long (x ^^^ z) :: st)))) : own_G p e below E (T.setTop (mkF m pc Ls (.long z :: .long x :: st))) := by
  subst hp
  exact own_st (fun t k => XS.lxor Y.X.here Y.x rfl (Y.d hd) rfl k) K
theorem own_lshl (pc' : Nat) (Y : own_S Z y bytes maxL ret p l e R s m args below meth c T h locs cells slots) {x : Int64} {z : Int32} (hd : decode bytes pc = .ok (.lshl, 1))  (hp : pc + 1 = pc') (K : own_G p e below E (T.setTop (mkF m pc' Ls (.long (x <<< (z &&& 0x3f).toInt64) :: st)))) : own_G p e below E (T.setTop (mkF m pc Ls (.int z :: .long x :: st))) := by
  subst hp
  exact own_st (fun t k => XS.lshl Y.X.here Y.x rfl (Y.d hd) rfl k) K
theorem own_lshr (pc' : Nat) (Y : own_S Z y bytes maxL ret p l e R s m args below meth c T h locs cells slots) {x : Int64} {z : Int32} (hd : decode bytes pc = .ok (.lshr, 1))  (hp : pc + 1 = pc') (K : own_G p e below E (T.setTop (mkF m pc' Ls (.long (x >>> (z &&& 0x3f).toInt64) :: st)))) : own_G p e below E (T.setTop (mkF m pc Ls (.int z :: .long x :: st))) := by
  subst hp
  exact own_st (fun t k => XS.lshr Y.X.here Y.x rfl (Y.d hd) rfl k) K
theorem own_lushr (pc' : Nat) (Y : own_S Z y bytes maxL ret p l e R s m args below meth c T h locs cells slots) {x : Int64} {z : Int32} (hd : decode bytes pc = .ok (.lushr, 1))  (hp : pc + 1 = pc') (K : own_G p e below E (T.setTop (mkF m pc' Ls (.long ((x.toUInt64 >>> (z &&& 0x3f).toInt64.toUInt64).toInt64) :: st)))) : own_G p e below E (T.setTop (mkF m pc Ls (.int z :: .long x :: st))) := by
  subst hp
  exact own_st (fun t k => XS.lushr Y.X.here Y.x rfl (Y.d hd) rfl k) K
theorem own_idiv (pc' : Nat) (Y : own_S Z y bytes maxL ret p l e R s m args below meth c T h locs cells slots) {x z : Int32} (hd : decode bytes pc = .ok (.idiv, 1)) (hz : z ≠ 0) (hp : pc + 1 = pc') (K : own_G p e below E (T.setTop (mkF m pc' Ls (.int (x / z) :: st)))) : own_G p e below E (T.setTop (mkF m pc Ls (.int z :: .int x :: st))) := by
  subst hp
  exact own_st (fun t k => XS.idiv Y.X.here Y.x rfl (Y.d hd) rfl hz k) K
theorem own_irem (pc' : Nat) (Y : own_S Z y bytes maxL ret p l e R s m args below meth c T h locs cells slots) {x z : Int32} (hd : decode bytes pc = .ok (.irem, 1)) (hz : z ≠ 0) (hp : pc + 1 = pc') (K : own_G p e below E (T.setTop (mkF m pc' Ls (.int (x % z) :: st)))) : own_G p e below E (T.setTop (mkF m pc Ls (.int z :: .int x :: st))) := by
  subst hp
  exact own_st (fun t k => iremM Y.X Y.x rfl (Y.d hd) rfl hz k) K
theorem own_ldiv (pc' : Nat) (Y : own_S Z y bytes maxL ret p l e R s m args below meth c T h locs cells slots) {x z : Int64} (hd : decode bytes pc = .ok (.ldiv, 1)) (hz : z ≠ 0) (hp : pc + 1 = pc') (K : own_G p e below E (T.setTop (mkF m pc' Ls (.long (x / z) :: st)))) : own_G p e below E (T.setTop (mkF m pc Ls (.long z :: .long x :: st))) := by
  subst hp
  exact own_st (fun t k => XS.ldiv Y.X.here Y.x rfl (Y.d hd) rfl hz k) K
theorem own_lrem (pc' : Nat) (Y : own_S Z y bytes maxL ret p l e R s m args below meth c T h locs cells slots) {x z : Int64} (hd : decode bytes pc = .ok (.lrem, 1)) (hz : z ≠ 0) (hp : pc + 1 = pc') (K : own_G p e below E (T.setTop (mkF m pc' Ls (.long (x - (x / z) * z) :: st)))) : own_G p e below E (T.setTop (mkF m pc Ls (.long z :: .long x :: st))) := by
  subst hp
  exact own_st (fun t k => XS.lrem Y.X.here Y.x rfl (Y.d hd) rfl hz k) K
theorem own_ineg (pc' : Nat) (Y : own_S Z y bytes maxL ret p l e R s m args below meth c T h locs cells slots) {x : Int32} (hd : decode bytes pc = .ok (.ineg, 1))  (hp : pc + 1 = pc') (K : own_G p e below E (T.setTop (mkF m pc' Ls (.int (-x) :: st)))) : own_G p e below E (T.setTop (mkF m pc Ls (.int x :: st))) := by
  subst hp
  exact own_st (fun t k => XS.ineg Y.X.here Y.x rfl (Y.d hd) rfl k) K
theorem own_i2b (pc' : Nat) (Y : own_S Z y bytes maxL ret p l e R s m args below meth c T h locs cells slots) {x : Int32} (hd : decode bytes pc = .ok (.i2b, 1))  (hp : pc + 1 = pc') (K : own_G p e below E (T.setTop (mkF m pc' Ls (.int (x.toInt8.toInt32) :: st)))) : own_G p e below E (T.setTop (mkF m pc Ls (.int x :: st))) := by
  subst hp
  exact own_st (fun t k => XS.i2b Y.X.here Y.x rfl (Y.d hd) rfl k) K
theorem own_i2c (pc' : Nat) (Y : own_S Z y bytes maxL ret p l e R s m args below meth c T h locs cells slots) {x : Int32} (hd : decode bytes pc = .ok (.i2c, 1))  (hp : pc + 1 = pc') (K : own_G p e below E (T.setTop (mkF m pc' Ls (.int (x.toUInt32.toUInt16.toUInt32.toInt32) :: st)))) : own_G p e below E (T.setTop (mkF m pc Ls (.int x :: st))) := by
  subst hp
  exact own_st (fun t k => XS.i2c Y.X.here Y.x rfl (Y.d hd) rfl k) K
theorem own_i2s (pc' : Nat) (Y : own_S Z y bytes maxL ret p l e R s m args below meth c T h locs cells slots) {x : Int32} (hd : decode bytes pc = .ok (.i2s, 1))  (hp : pc + 1 = pc') (K : own_G p e below E (T.setTop (mkF m pc' Ls (.int (x.toInt16.toInt32) :: st)))) : own_G p e below E (T.setTop (mkF m pc Ls (.int x :: st))) := by
  subst hp
  exact own_st (fun t k => XS.i2s Y.X.here Y.x rfl (Y.d hd) rfl k) K
theorem own_i2l (pc' : Nat) (Y : own_S Z y bytes maxL ret p l e R s m args below meth c T h locs cells slots) {x : Int32} (hd : decode bytes pc = .ok (.i2l, 1))  (hp : pc + 1 = pc') (K : own_G p e below E (T.setTop (mkF m pc' Ls (.long x.toInt64 :: st)))) : own_G p e below E (T.setTop (mkF m pc Ls (.int x :: st))) := by
  subst hp
  exact own_st (fun t k => XS.i2l Y.X.here Y.x rfl (Y.d hd) rfl k) K
theorem own_l2i (pc' : Nat) (Y : own_S Z y bytes maxL ret p l e R s m args below meth c T h locs cells slots) {x : Int64} (hd : decode bytes pc = .ok (.l2i, 1))  (hp : pc + 1 = pc') (K : own_G p e below E (T.setTop (mkF m pc' Ls (.int x.toInt32 :: st)))) : own_G p e below E (T.setTop (mkF m pc Ls (.long x :: st))) := by
  subst hp
  exact own_st (fun t k => XS.l2i Y.X.here Y.x rfl (Y.d hd) rfl k) K
theorem own_lneg (pc' : Nat) (Y : own_S Z y bytes maxL ret p l e R s m args below meth c T h locs cells slots) {x : Int64} (hd : decode bytes pc = .ok (.lneg, 1))  (hp : pc + 1 = pc') (K : own_G p e below E (T.setTop (mkF m pc' Ls (.long (-x) :: st)))) : own_G p e below E (T.setTop (mkF m pc Ls (.long x :: st))) := by
  subst hp
  exact own_st (fun t k => XS.lneg Y.X.here Y.x rfl (Y.d hd) rfl k) K
theorem own_lcmp (pc' : Nat) (Y : own_S Z y bytes maxL ret p l e R s m args below meth c T h locs cells slots) {x z : Int64} (hd : decode bytes pc = .ok (.lcmp, 1))  (hp : pc + 1 = pc') (K : own_G p e below E (T.setTop (mkF m pc' Ls (.int (lcmpW x z) :: st)))) : own_G p e below E (T.setTop (mkF m pc Ls (.long z :: .long x :: st))) := by
  subst hp
  exact own_st (fun t k => XS.lcmp Y.X.here Y.x rfl (Y.d hd) rfl k) K
theorem own_dup (pc' : Nat) (Y : own_S Z y bytes maxL ret p l e R s m args below meth c T h locs cells slots) {x : Value} (hd : decode bytes pc = .ok (.dup, 1)) (hc : x.category = 1) (hp : pc + 1 = pc') (K : own_G p e below E (T.setTop (mkF m pc' Ls (x :: x :: st)))) : own_G p e below E (T.setTop (mkF m pc Ls (x :: st))) := by
  subst hp
  exact own_st (fun t k => XS.dup Y.X.here Y.x rfl (Y.d hd) rfl hc k) K
theorem own_dupX1 (pc' : Nat) (Y : own_S Z y bytes maxL ret p l e R s m args below meth c T h locs cells slots) {x z : Value} (hd : decode bytes pc = .ok (.dup_x1, 1)) (hc : x.category = 1) (hc' : z.category = 1) (hp : pc + 1 = pc') (K : own_G p e below E (T.setTop (mkF m pc' Ls (x :: z :: x :: st)))) : own_G p e below E (T.setTop (mkF m pc Ls (x :: z :: st))) := by
  subst hp
  exact own_st (fun t k => XS.dupX1 Y.X.here Y.x rfl (Y.d hd) rfl hc hc' k) K
theorem own_pop (pc' : Nat) (Y : own_S Z y bytes maxL ret p l e R s m args below meth c T h locs cells slots) {x : Value} (hd : decode bytes pc = .ok (.pop, 1)) (hc : x.category = 1) (hp : pc + 1 = pc') (K : own_G p e below E (T.setTop (mkF m pc' Ls (st)))) : own_G p e below E (T.setTop (mkF m pc Ls (x :: st))) := by
  subst hp
  exact own_st (fun t k => XS.pop Y.X.here Y.x rfl (Y.d hd) rfl hc k) K
theorem own_istoreN (pc' : Nat) (Y : own_S Z y bytes maxL ret p l e R s m args below meth c T h locs cells slots) (Ls' : Array Slot) {k : Fin 4} {x : Int32} (hd : decode bytes pc = .ok (.istore_n k, 1)) (hl : storeLocals Ls k.val (.int x) = some Ls') (hp : pc + 1 = pc') (K : own_G p e below E (T.setTop (mkF m pc' Ls' (st)))) : own_G p e below E (T.setTop (mkF m pc Ls (.int x :: st))) := by
  subst hp
  exact own_st (fun t k => XS.istoreN Y.X.here Y.x rfl (Y.d hd) rfl hl k) K
theorem own_istore (pc' : Nat) (Y : own_S Z y bytes maxL ret p l e R s m args below meth c T h locs cells slots) (Ls' : Array Slot) {k : Nat} {x : Int32} (hd : decode bytes pc = .ok (.istore k, 2)) (hl : storeLocals Ls k (.int x) = some Ls') (hp : pc + 2 = pc') (K : own_G p e below E (T.setTop (mkF m pc' Ls' (st)))) : own_G p e below E (T.setTop (mkF m pc Ls (.int x :: st))) := by
  subst hp
  exact own_st (fun t k => XS.istore Y.X.here Y.x rfl (Y.d hd) rfl hl k) K
theorem own_lstoreN (pc' : Nat) (Y : own_S Z y bytes maxL ret p l e R s m args below meth c T h locs cells slots) (Ls' : Array Slot) {k : Fin 4} {x : Int64} (hd : decode bytes pc = .ok (.lstore_n k, 1)) (hl : storeLocals Ls k.val (.long x) = some Ls') (hp : pc + 1 = pc') (K : own_G p e below E (T.setTop (mkF m pc' Ls' (st)))) : own_G p e below E (T.setTop (mkF m pc Ls (.long x :: st))) := by
  subst hp
  exact own_st (fun t k => XS.lstoreN Y.X.here Y.x rfl (Y.d hd) rfl hl k) K
theorem own_lstore (pc' : Nat) (Y : own_S Z y bytes maxL ret p l e R s m args below meth c T h locs cells slots) (Ls' : Array Slot) {k : Nat} {x : Int64} (hd : decode bytes pc = .ok (.lstore k, 2)) (hl : storeLocals Ls k (.long x) = some Ls') (hp : pc + 2 = pc') (K : own_G p e below E (T.setTop (mkF m pc' Ls' (st)))) : own_G p e below E (T.setTop (mkF m pc Ls (.long x :: st))) := by
  subst hp
  exact own_st (fun t k => XS.lstore Y.X.here Y.x rfl (Y.d hd) rfl hl k) K
theorem own_astoreN (pc' : Nat) (Y : own_S Z y bytes maxL ret p l e R s m args below meth c T h locs cells slots) (Ls' : Array Slot) {k : Fin 4} {x : Value} (hd : decode bytes pc = .ok (.astore_n k, 1)) (hv : x.isRef = true) (hl : storeLocals Ls k.val (x) = some Ls') (hp : pc + 1 = pc') (K : own_G p e below E (T.setTop (mkF m pc' Ls' (st)))) : own_G p e below E (T.setTop (mkF m pc Ls (x :: st))) := by
  subst hp
  exact own_st (fun t k => XS.astoreN Y.X.here Y.x rfl (Y.d hd) rfl hv hl k) K
theorem own_astore (pc' : Nat) (Y : own_S Z y bytes maxL ret p l e R s m args below meth c T h locs cells slots) (Ls' : Array Slot) {k : Nat} {x : Value} (hd : decode bytes pc = .ok (.astore k, 2)) (hv : x.isRef = true) (hl : storeLocals Ls k (x) = some Ls') (hp : pc + 2 = pc') (K : own_G p e below E (T.setTop (mkF m pc' Ls' (st)))) : own_G p e below E (T.setTop (mkF m pc Ls (x :: st))) := by
  subst hp
  exact own_st (fun t k => XS.astore Y.X.here Y.x rfl (Y.d hd) rfl hv hl k) K
theorem own_iinc (pc' : Nat) (Y : own_S Z y bytes maxL ret p l e R s m args below meth c T h locs cells slots) (Ls' : Array Slot) (v : Int32) {k : Nat} {cst : Int} {x : Int32} (hd : decode bytes pc = .ok (.iinc k cst, 3)) (hv : Int32.ofInt cst = v) (hl : Ls[k]? = some (.val (.int x))) (hl' : storeLocals Ls k (.int (x + v)) = some Ls') (hp : pc + 3 = pc') (K : own_G p e below E (T.setTop (mkF m pc' Ls' (st)))) : own_G p e below E (T.setTop (mkF m pc Ls (st))) := by
  subst hp
  exact own_st (fun t k => XT.iincV Y.X.here Y.x rfl v (Y.d hd) hv hl hl' k) K
theorem own_dloadN (pc' : Nat) (Y : own_S Z y bytes maxL ret p l e R s m args below meth c T h locs cells slots) {k : Fin 4} {v : UInt64} (hd : decode bytes pc = .ok (.dload_n k, 1)) (hl : Ls[k.val]? = some (.val (.double v))) (hp : pc + 1 = pc') (K : own_G p e below E (T.setTop (mkF m pc' Ls (.double v :: st)))) : own_G p e below E (T.setTop (mkF m pc Ls (st))) := by
  subst hp
  exact own_st (fun t k => XS.dloadN Y.X.here Y.x rfl (Y.d hd) hl k) K
theorem own_dload (pc' : Nat) (Y : own_S Z y bytes maxL ret p l e R s m args below meth c T h locs cells slots) {k : Nat} {v : UInt64} (hd : decode bytes pc = .ok (.dload k, 2)) (hl : Ls[k]? = some (.val (.double v))) (hp : pc + 2 = pc') (K : own_G p e below E (T.setTop (mkF m pc' Ls (.double v :: st)))) : own_G p e below E (T.setTop (mkF m pc Ls (st))) := by
  subst hp
  exact own_st (fun t k => XS.dload Y.X.here Y.x rfl (Y.d hd) hl k) K
theorem own_dstoreN (pc' : Nat) (Y : own_S Z y bytes maxL ret p l e R s m args below meth c T h locs cells slots) (Ls' : Array Slot) {k : Fin 4} {x : UInt64} (hd : decode bytes pc = .ok (.dstore_n k, 1)) (hl : storeLocals Ls k.val (.double x) = some Ls') (hp : pc + 1 = pc') (K : own_G p e below E (T.setTop (mkF m pc' Ls' (st)))) : own_G p e below E (T.setTop (mkF m pc Ls (.double x :: st))) := by
  subst hp
  exact own_st (fun t k => XS.dstoreN Y.X.here Y.x rfl (Y.d hd) rfl hl k) K
theorem own_dstore (pc' : Nat) (Y : own_S Z y bytes maxL ret p l e R s m args below meth c T h locs cells slots) (Ls' : Array Slot) {k : Nat} {x : UInt64} (hd : decode bytes pc = .ok (.dstore k, 2)) (hl : storeLocals Ls k (.double x) = some Ls') (hp : pc + 2 = pc') (K : own_G p e below E (T.setTop (mkF m pc' Ls' (st)))) : own_G p e below E (T.setTop (mkF m pc Ls (.double x :: st))) := by
  subst hp
  exact own_st (fun t k => XS.dstore Y.X.here Y.x rfl (Y.d hd) rfl hl k) K
theorem own_i2d (pc' : Nat) (Y : own_S Z y bytes maxL ret p l e R s m args below meth c T h locs cells slots) {x : Int32} (hd : decode bytes pc = .ok (.i2d, 1))  (hp : pc + 1 = pc') (K : own_G p e below E (T.setTop (mkF m pc' Ls (.double (FP.l2d x.toInt64) :: st)))) : own_G p e below E (T.setTop (mkF m pc Ls (.int x :: st))) := by
  subst hp
  exact own_st (fun t k => XS.i2dS Y.X.here Y.x rfl (Y.d hd) rfl (i2d_w x) k) K
theorem own_l2d (pc' : Nat) (Y : own_S Z y bytes maxL ret p l e R s m args below meth c T h locs cells slots) {x : Int64} (hd : decode bytes pc = .ok (.l2d, 1))  (hp : pc + 1 = pc') (K : own_G p e below E (T.setTop (mkF m pc' Ls (.double (FP.l2d x) :: st)))) : own_G p e below E (T.setTop (mkF m pc Ls (.long x :: st))) := by
  subst hp
  exact own_st (fun t k => XS.l2dS Y.X.here Y.x rfl (Y.d hd) rfl rfl k) K
theorem own_dsub (pc' : Nat) (Y : own_S Z y bytes maxL ret p l e R s m args below meth c T h locs cells slots) {x z : Int64} (hbx : B53 x) (hbz : B53 z) (hd : decode bytes pc = .ok (.dsub, 1))  (hp : pc + 1 = pc') (K : own_G p e below E (T.setTop (mkF m pc' Ls (.double (FP.l2d (x - z)) :: st)))) : own_G p e below E (T.setTop (mkF m pc Ls (.double (FP.l2d z) :: .double (FP.l2d x) :: st))) := by
  subst hp
  exact own_st (fun t k => XS.dsubS Y.X.here Y.x rfl (Y.d hd) rfl (nn_w (dsub_w hbx hbz)) (dsub_w hbx hbz) k) K
theorem own_dcmp (pc' : Nat) (Y : own_S Z y bytes maxL ret p l e R s m args below meth c T h locs cells slots) {o : CmpOp} {x z : Int64} (hbx : B53 x) (hbz : B53 z) (hd : decode bytes pc = .ok (.dcmp o, 1))  (hp : pc + 1 = pc') (K : own_G p e below E (T.setTop (mkF m pc' Ls (.int (lcmpW x z) :: st)))) : own_G p e below E (T.setTop (mkF m pc Ls (.double (FP.l2d z) :: .double (FP.l2d x) :: st))) := by
  subst hp
  exact own_st (fun t k => XS.dcmpS Y.X.here Y.x rfl (Y.d hd) rfl (dcmpV_w hbx hbz o) k) K
theorem own_pc {pc pc' : Nat} {o : Int} (hp : (pc : Int) + o = (pc' : Int)) : 0 ≤ (pc : Int) + o ∧ ((pc : Int) + o).toNat = pc' := by rw [hp]; exact ⟨Int.natCast_nonneg _, Int.toNat_natCast _⟩
theorem own_goto (pc' : Nat) (Y : own_S Z y bytes maxL ret p l e R s m args below meth c T h locs cells slots) {o : Int} (hd : decode bytes pc = .ok (.goto o, 3)) (hp : (pc : Int) + o = (pc' : Int)) (K : own_G p e below E (T.setTop (mkF m pc' Ls st))) : own_G p e below E (T.setTop (mkF m pc Ls st)) :=
  own_st (fun t k => XS.goto Y.X.here Y.x rfl rfl (Y.d hd) (own_pc hp).1 (own_pc hp).2 k) K
theorem own_ifT (pc' : Nat) (Y : own_S Z y bytes maxL ret p l e R s m args below meth c T h locs cells slots) {cd : ClassFile.Cond} {o : Int} {x : Int32} (hd : decode bytes pc = .ok (.ifCond cd o, 3)) (hc : ifCond.holds cd x = true) (hp : (pc : Int) + o = (pc' : Int)) (K : own_G p e below E (T.setTop (mkF m pc' Ls st))) : own_G p e below E (T.setTop (mkF m pc Ls (.int x :: st))) :=
  own_st (fun t k => XS.ifYes Y.X.here Y.x rfl rfl (Y.d hd) rfl hc (own_pc hp).1 (own_pc hp).2 k) K
theorem own_ifF (pc' : Nat) (Y : own_S Z y bytes maxL ret p l e R s m args below meth c T h locs cells slots) {cd : ClassFile.Cond} {o : Int} {x : Int32} (hd : decode bytes pc = .ok (.ifCond cd o, 3)) (hc : ifCond.holds cd x = false) (hp : pc + 3 = pc') (K : own_G p e below E (T.setTop (mkF m pc' Ls st))) : own_G p e below E (T.setTop (mkF m pc Ls (.int x :: st))) := by
  subst hp
  exact own_st (fun t k => XS.ifNo Y.X.here Y.x rfl (Y.d hd) rfl hc k) K
theorem own_icT (pc' : Nat) (Y : own_S Z y bytes maxL ret p l e R s m args below meth c T h locs cells slots) {cd : ClassFile.Cond} {o : Int} {x z : Int32} (hd : decode bytes pc = .ok (.if_icmp cd o, 3)) (hc : if_icmp.holds cd x z = true) (hp : (pc : Int) + o = (pc' : Int)) (K : own_G p e below E (T.setTop (mkF m pc' Ls st))) : own_G p e below E (T.setTop (mkF m pc Ls (.int z :: .int x :: st))) :=
  own_st (fun t k => XS.icmpYes Y.X.here Y.x rfl rfl (Y.d hd) rfl hc (own_pc hp).1 (own_pc hp).2 k) K
theorem own_icF (pc' : Nat) (Y : own_S Z y bytes maxL ret p l e R s m args below meth c T h locs cells slots) {cd : ClassFile.Cond} {o : Int} {x z : Int32} (hd : decode bytes pc = .ok (.if_icmp cd o, 3)) (hc : if_icmp.holds cd x z = false) (hp : pc + 3 = pc') (K : own_G p e below E (T.setTop (mkF m pc' Ls st))) : own_G p e below E (T.setTop (mkF m pc Ls (.int z :: .int x :: st))) := by
  subst hp
  exact own_st (fun t k => XS.icmpNo Y.X.here Y.x rfl (Y.d hd) rfl hc k) K
theorem own_if_eq (pc' pc'' : Nat) (Y : own_S Z y bytes maxL ret p l e R s m args below meth c T h locs cells slots) {x : Int32} {o : Int} (hd : decode bytes pc = .ok (.ifCond .eq o, 3)) (hp : (pc : Int) + o = (pc' : Int)) (hp' : pc + 3 = pc'') (KT : x = 0 → own_G p e below E (T.setTop (mkF m pc' Ls st))) (KF : ¬ x = 0 → own_G p e below E (T.setTop (mkF m pc'' Ls st))) : own_G p e below E (T.setTop (mkF m pc Ls (.int x :: st))) :=
  (Decidable.em (x = 0)).elim (fun q => own_ifT pc' Y hd (XT.i0_eq_t q) hp (KT q)) (fun q => own_ifF pc'' Y hd (XT.i0_eq_f q) hp' (KF q))
theorem own_ic_eq (pc' pc'' : Nat) (Y : own_S Z y bytes maxL ret p l e R s m args below meth c T h locs cells slots) {x z : Int32} {o : Int} (hd : decode bytes pc = .ok (.if_icmp .eq o, 3)) (hp : (pc : Int) + o = (pc' : Int)) (hp' : pc + 3 = pc'') (KT : x = z → own_G p e below E (T.setTop (mkF m pc' Ls st))) (KF : ¬ x = z → own_G p e below E (T.setTop (mkF m pc'' Ls st))) : own_G p e below E (T.setTop (mkF m pc Ls (.int z :: .int x :: st))) :=
  (Decidable.em (x = z)).elim (fun q => own_icT pc' Y hd (XT.ii_eq_t q) hp (KT q)) (fun q => own_icF pc'' Y hd (XT.ii_eq_f q) hp' (KF q))
theorem own_if_ne (pc' pc'' : Nat) (Y : own_S Z y bytes maxL ret p l e R s m args below meth c T h locs cells slots) {x : Int32} {o : Int} (hd : decode bytes pc = .ok (.ifCond .ne o, 3)) (hp : (pc : Int) + o = (pc' : Int)) (hp' : pc + 3 = pc'') (KT : ¬ x = 0 → own_G p e below E (T.setTop (mkF m pc' Ls st))) (KF : x = 0 → own_G p e below E (T.setTop (mkF m pc'' Ls st))) : own_G p e below E (T.setTop (mkF m pc Ls (.int x :: st))) :=
  (Decidable.em (x = 0)).elim (fun q => own_ifF pc'' Y hd (XT.i0_ne_f q) hp' (KF q)) (fun q => own_ifT pc' Y hd (XT.i0_ne_t q) hp (KT q))
theorem own_ic_ne (pc' pc'' : Nat) (Y : own_S Z y bytes maxL ret p l e R s m args below meth c T h locs cells slots) {x z : Int32} {o : Int} (hd : decode bytes pc = .ok (.if_icmp .ne o, 3)) (hp : (pc : Int) + o = (pc' : Int)) (hp' : pc + 3 = pc'') (KT : ¬ x = z → own_G p e below E (T.setTop (mkF m pc' Ls st))) (KF : x = z → own_G p e below E (T.setTop (mkF m pc'' Ls st))) : own_G p e below E (T.setTop (mkF m pc Ls (.int z :: .int x :: st))) :=
  (Decidable.em (x = z)).elim (fun q => own_icF pc'' Y hd (XT.ii_ne_f q) hp' (KF q)) (fun q => own_icT pc' Y hd (XT.ii_ne_t q) hp (KT q))
theorem own_if_lt (pc' pc'' : Nat) (Y : own_S Z y bytes maxL ret p l e R s m args below meth c T h locs cells slots) {x : Int32} {o : Int} (hd : decode bytes pc = .ok (.ifCond .lt o, 3)) (hp : (pc : Int) + o = (pc' : Int)) (hp' : pc + 3 = pc'') (KT : x < 0 → own_G p e below E (T.setTop (mkF m pc' Ls st))) (KF : ¬ x < 0 → own_G p e below E (T.setTop (mkF m pc'' Ls st))) : own_G p e below E (T.setTop (mkF m pc Ls (.int x :: st))) :=
  (Decidable.em (x < 0)).elim (fun q => own_ifT pc' Y hd (XT.i0_lt_t q) hp (KT q)) (fun q => own_ifF pc'' Y hd (XT.i0_lt_f q) hp' (KF q))
theorem own_ic_lt (pc' pc'' : Nat) (Y : own_S Z y bytes maxL ret p l e R s m args below meth c T h locs cells slots) {x z : Int32} {o : Int} (hd : decode bytes pc = .ok (.if_icmp .lt o, 3)) (hp : (pc : Int) + o = (pc' : Int)) (hp' : pc + 3 = pc'') (KT : x < z → own_G p e below E (T.setTop (mkF m pc' Ls st))) (KF : ¬ x < z → own_G p e below E (T.setTop (mkF m pc'' Ls st))) : own_G p e below E (T.setTop (mkF m pc Ls (.int z :: .int x :: st))) :=
  (Decidable.em (x < z)).elim (fun q => own_icT pc' Y hd (XT.ii_lt_t q) hp (KT q)) (fun q => own_icF pc'' Y hd (XT.ii_lt_f q) hp' (KF q))
theorem own_if_ge (pc' pc'' : Nat) (Y : own_S Z y bytes maxL ret p l e R s m args below meth c T h locs cells slots) {x : Int32} {o : Int} (hd : decode bytes pc = .ok (.ifCond .ge o, 3)) (hp : (pc : Int) + o = (pc' : Int)) (hp' : pc + 3 = pc'') (KT : ¬ x < 0 → own_G p e below E (T.setTop (mkF m pc' Ls st))) (KF : x < 0 → own_G p e below E (T.setTop (mkF m pc'' Ls st))) : own_G p e below E (T.setTop (mkF m pc Ls (.int x :: st))) :=
  (Decidable.em (x < 0)).elim (fun q => own_ifF pc'' Y hd (XT.i0_ge_f q) hp' (KF q)) (fun q => own_ifT pc' Y hd (XT.i0_ge_t q) hp (KT q))
theorem own_ic_ge (pc' pc'' : Nat) (Y : own_S Z y bytes maxL ret p l e R s m args below meth c T h locs cells slots) {x z : Int32} {o : Int} (hd : decode bytes pc = .ok (.if_icmp .ge o, 3)) (hp : (pc : Int) + o = (pc' : Int)) (hp' : pc + 3 = pc'') (KT : ¬ x < z → own_G p e below E (T.setTop (mkF m pc' Ls st))) (KF : x < z → own_G p e below E (T.setTop (mkF m pc'' Ls st))) : own_G p e below E (T.setTop (mkF m pc Ls (.int z :: .int x :: st))) :=
  (Decidable.em (x < z)).elim (fun q => own_icF pc'' Y hd (XT.ii_ge_f q) hp' (KF q)) (fun q => own_icT pc' Y hd (XT.ii_ge_t q) hp (KT q))
theorem own_if_gt (pc' pc'' : Nat) (Y : own_S Z y bytes maxL ret p l e R s m args below meth c T h locs cells slots) {x : Int32} {o : Int} (hd : decode bytes pc = .ok (.ifCond .gt o, 3)) (hp : (pc : Int) + o = (pc' : Int)) (hp' : pc + 3 = pc'') (KT : 0 < x → own_G p e below E (T.setTop (mkF m pc' Ls st))) (KF : ¬ 0 < x → own_G p e below E (T.setTop (mkF m pc'' Ls st))) : own_G p e below E (T.setTop (mkF m pc Ls (.int x :: st))) :=
  (Decidable.em (0 < x)).elim (fun q => own_ifT pc' Y hd (XT.i0_gt_t q) hp (KT q)) (fun q => own_ifF pc'' Y hd (XT.i0_gt_f q) hp' (KF q))
theorem own_ic_gt (pc' pc'' : Nat) (Y : own_S Z y bytes maxL ret p l e R s m args below meth c T h locs cells slots) {x z : Int32} {o : Int} (hd : decode bytes pc = .ok (.if_icmp .gt o, 3)) (hp : (pc : Int) + o = (pc' : Int)) (hp' : pc + 3 = pc'') (KT : z < x → own_G p e below E (T.setTop (mkF m pc' Ls st))) (KF : ¬ z < x → own_G p e below E (T.setTop (mkF m pc'' Ls st))) : own_G p e below E (T.setTop (mkF m pc Ls (.int z :: .int x :: st))) :=
  (Decidable.em (z < x)).elim (fun q => own_icT pc' Y hd (XT.ii_gt_t q) hp (KT q)) (fun q => own_icF pc'' Y hd (XT.ii_gt_f q) hp' (KF q))
theorem own_if_le (pc' pc'' : Nat) (Y : own_S Z y bytes maxL ret p l e R s m args below meth c T h locs cells slots) {x : Int32} {o : Int} (hd : decode bytes pc = .ok (.ifCond .le o, 3)) (hp : (pc : Int) + o = (pc' : Int)) (hp' : pc + 3 = pc'') (KT : ¬ 0 < x → own_G p e below E (T.setTop (mkF m pc' Ls st))) (KF : 0 < x → own_G p e below E (T.setTop (mkF m pc'' Ls st))) : own_G p e below E (T.setTop (mkF m pc Ls (.int x :: st))) :=
  (Decidable.em (0 < x)).elim (fun q => own_ifF pc'' Y hd (XT.i0_le_f q) hp' (KF q)) (fun q => own_ifT pc' Y hd (XT.i0_le_t q) hp (KT q))
theorem own_ic_le (pc' pc'' : Nat) (Y : own_S Z y bytes maxL ret p l e R s m args below meth c T h locs cells slots) {x z : Int32} {o : Int} (hd : decode bytes pc = .ok (.if_icmp .le o, 3)) (hp : (pc : Int) + o = (pc' : Int)) (hp' : pc + 3 = pc'') (KT : ¬ z < x → own_G p e below E (T.setTop (mkF m pc' Ls st))) (KF : z < x → own_G p e below E (T.setTop (mkF m pc'' Ls st))) : own_G p e below E (T.setTop (mkF m pc Ls (.int z :: .int x :: st))) :=
  (Decidable.em (z < x)).elim (fun q => own_icF pc'' Y hd (XT.ii_le_f q) hp' (KF q)) (fun q => own_icT pc' Y hd (XT.ii_le_t q) hp (KT q))
theorem own_acmp (pc' : Nat) (same : Bool) (Y : own_S Z y bytes maxL ret p l e R s m args below meth c T h locs cells slots) {cd : ACond} {o : Int} {x z : Value} (hd : decode bytes pc = .ok (.if_acmp cd o, 3)) (h1 : x.isRef = true) (h2 : z.isRef = true) (hq : decide (x = z) = same) (ho : 0 ≤ (pc : Int) + o) (hp : pc' = if acV cd same = true then ((pc : Int) + o).toNat else pc + 3) (K : own_G p e below E (T.setTop (mkF m pc' Ls st))) : own_G p e below E (T.setTop (mkF m pc Ls (z :: x :: st))) :=
  own_st (fun t k => Jvm.RoadKit.acmp Y.X Y.x rfl h1 h2 rfl (Y.d hd) rfl hq ho hp k) K
theorem own_ifnullT (pc' : Nat) (Y : own_S Z y bytes maxL ret p l e R s m args below meth c T h locs cells slots) {o : Int} (hd : decode bytes pc = .ok (.ifnull o, 3)) (hp : (pc : Int) + o = (pc' : Int)) (K : own_G p e below E (T.setTop (mkF m pc' Ls st))) : own_G p e below E (T.setTop (mkF m pc Ls (.null :: st))) :=
  own_st (fun t k => XS.ifnullYes Y.X.here Y.x rfl rfl (Y.d hd) rfl (own_pc hp).1 (own_pc hp).2 k) K
theorem own_ifnonnullT (pc' : Nat) (Y : own_S Z y bytes maxL ret p l e R s m args below meth c T h locs cells slots) {b : Addr} {o : Int} (hd : decode bytes pc = .ok (.ifnonnull o, 3)) (hp : (pc : Int) + o = (pc' : Int)) (K : own_G p e below E (T.setTop (mkF m pc' Ls st))) : own_G p e below E (T.setTop (mkF m pc Ls (.ref b :: st))) :=
  own_st (fun t k => XS.ifnonnullYes Y.X.here Y.x rfl rfl (Y.d hd) rfl (own_pc hp).1 (own_pc hp).2 k) K
theorem own_ifnullF (pc' : Nat) (Y : own_S Z y bytes maxL ret p l e R s m args below meth c T h locs cells slots) {b : Addr} {o : Int} (hd : decode bytes pc = .ok (.ifnull o, 3)) (hp : pc + 3 = pc') (K : own_G p e below E (T.setTop (mkF m pc' Ls st))) : own_G p e below E (T.setTop (mkF m pc Ls (.ref b :: st))) := by
  subst hp
  exact own_st (fun t k => XS.ifnullNo Y.X.here Y.x rfl (Y.d hd) rfl k) K
theorem own_ifnonnullF (pc' : Nat) (Y : own_S Z y bytes maxL ret p l e R s m args below meth c T h locs cells slots) {o : Int} (hd : decode bytes pc = .ok (.ifnonnull o, 3)) (hp : pc + 3 = pc') (K : own_G p e below E (T.setTop (mkF m pc' Ls st))) : own_G p e below E (T.setTop (mkF m pc Ls (.null :: st))) := by
  subst hp
  exact own_st (fun t k => XS.ifnonnullNo Y.X.here Y.x rfl (Y.d hd) rfl k) K
theorem own_tswIn (pc' : Nat) (Y : own_S Z y bytes maxL ret p l e R s m args below meth c T h locs cells slots) {dflt low high : Int} {offs : Array Int} {len : Nat} {o : Int} {i : Int32} (hd : decode bytes pc = .ok (.tableswitch dflt low high offs, len)) (hin : ¬ (i.toInt < low ∨ i.toInt > high)) (hoff : offs[(i.toInt - low).toNat]? = some o) (hp : (pc : Int) + o = (pc' : Int)) (K : own_G p e below E (T.setTop (mkF m pc' Ls st))) : own_G p e below E (T.setTop (mkF m pc Ls (.int i :: st))) :=
  own_st (fun t k => XS.tswIn Y.X.here Y.x rfl rfl (Y.d hd) rfl hin hoff (own_pc hp).1 (own_pc hp).2 k) K
theorem own_tswOut (pc' : Nat) (Y : own_S Z y bytes maxL ret p l e R s m args below meth c T h locs cells slots) {o low high : Int} {offs : Array Int} {len : Nat} {i : Int32} (hd : decode bytes pc = .ok (.tableswitch o low high offs, len)) (hout : i.toInt < low ∨ i.toInt > high) (hp : (pc : Int) + o = (pc' : Int)) (K : own_G p e below E (T.setTop (mkF m pc' Ls st))) : own_G p e below E (T.setTop (mkF m pc Ls (.int i :: st))) :=
  own_st (fun t k => XS.tswOut Y.X.here Y.x rfl rfl (Y.d hd) rfl hout (own_pc hp).1 (own_pc hp).2 k) K
theorem own_ldcI (pc' : Nat) (Y : own_S Z y bytes maxL ret p l e R s m args below meth c T h locs cells slots) {index : Nat} {v : Int32} (w : (Jvm.Cond.constant y.cls index v).before a0 Z = true) (hd : decode bytes pc = .ok (.ldc index, 2)) (hp : pc + 2 = pc') (K : own_G p e below E (T.setTop (mkF m pc' Ls (.int v :: st)))) : own_G p e below E (T.setTop (mkF m pc Ls st)) := by
  subst hp
  exact own_st (fun t k => Y.X.ldcInt Y.x Y.own (mvT Y.warm w) (g := mkF m pc Ls st) rfl (Y.d hd) t k) K
theorem own_ldc2J (pc' : Nat) (Y : own_S Z y bytes maxL ret p l e R s m args below meth c T h locs cells slots) {index : Nat} {v : Int64} (w : (Jvm.Cond.constantLong y.cls index v).before a0 Z = true) (hd : decode bytes pc = .ok (.ldc2_w index, 3)) (hp : pc + 3 = pc') (K : own_G p e below E (T.setTop (mkF m pc' Ls (.long v :: st)))) : own_G p e below E (T.setTop (mkF m pc Ls st)) := by
  subst hp
  exact own_st (fun t k => Y.X.ldc2Long Y.x Y.own (mvT Y.warm w) (g := mkF m pc Ls st) rfl (Y.d hd) t k) K
theorem own_getS (pc' : Nat) (Y : own_S Z y bytes maxL ret p l e R s m args below meth c T h locs cells slots) {R0 O n d host : String} {index : Nat} (w : (Jvm.Cond.fieldLink y.cls index R0 n d).before a0 Z = true ∨ (Jvm.Cond.fieldLinkNest y.cls index R0 n d host).before a0 Z = true) (via : Via Z R0 O n d) {v : Value} (F : Sta Z h O n d v) (hd : decode bytes pc = .ok (.getstatic index, 3)) (hp : pc + 3 = pc') (K : ∀ T', own_S Z y bytes maxL ret p l e R s m args below meth c T' h locs cells slots → own_G p e below E (T'.setTop (mkF m pc' Ls (v :: st)))) : own_G p e below E (T.setTop (mkF m pc Ls st)) := by
  subst hp
  obtain ⟨T', X', e', st'⟩ := getS2 Y.X Y.x Y.warm Y.own w via Y.eT F (g := mkF m pc Ls st) rfl (Y.d hd)
  exact own_st st' (K T' ⟨Y.1, X', e'⟩)
theorem own_getF (pc' : Nat) (Y : own_S Z y bytes maxL ret p l e R s m args below meth c T h locs cells slots) {R0 O n d host : String} {index : Nat} (w : (Jvm.Cond.fieldLink y.cls index R0 n d).before a0 Z = true ∨ (Jvm.Cond.fieldLinkNest y.cls index R0 n d host).before a0 Z = true) (via : Via Z R0 O n d) {a : Addr} {v : Value} (F : Fld Z h a O n d v) (hd : decode bytes pc = .ok (.getfield index, 3)) (hp : pc + 3 = pc') (K : ∀ T', own_S Z y bytes maxL ret p l e R s m args below meth c T' h locs cells slots → own_G p e below E (T'.setTop (mkF m pc' Ls (v :: st)))) : own_G p e below E (T.setTop (mkF m pc Ls (.ref a :: st))) := by
  subst hp
  obtain ⟨T', X', e', st'⟩ := getF Y.X Y.x Y.warm Y.own w via Y.eT F (g := mkF m pc Ls (.ref a :: st)) rfl rfl (Y.d hd)
  exact own_st st' (K T' ⟨Y.1, X', e'⟩)
theorem own_putF (pc' : Nat) (Y : own_S Z y bytes maxL ret p l e R s m args below meth c T h locs cells slots) {R0 O n d host : String} {index : Nat} {C : String} {kk : Nat} {ty : FieldType} (w : (Jvm.Cond.fieldLink y.cls index R0 n d).before a0 Z = true ∨ (Jvm.Cond.fieldLinkNest y.cls index R0 n d host).before a0 Z = true) (via : Via Z R0 O n d) {a : Addr} {v old : Value} (F : Fld Z h a O n d old) (EX : Exa Z h a C) (Lw : (Jvm.Cond.lays C O n d).before a0 Z = true ∨ ((Jvm.Cond.laysFinal C O n d).before a0 Z = true ∧ y.cls = O ∧ y.name = "<init>")) (wi : (Jvm.Cond.instantiable C kk).before a0 Z = true) (hty : parseFieldDescriptor d = some ty) (hn : narrow ty v = v) (hf : fits ty v = true) (hd : decode bytes pc = .ok (.putfield index, 3)) (hp : pc + 3 = pc')
    (K : ∀ T' h', own_S Z y bytes maxL ret p l e R s m args below meth c T' h' (locs ++ [⟨a, Jvm.RoadKit.slotOf Z O n d⟩]) cells slots → Wr h h' a (Jvm.RoadKit.slotOf Z O n d) v → own_G p e below E (T'.setTop (mkF m pc' Ls st))) : own_G p e below E (T.setTop (mkF m pc Ls (v :: .ref a :: st))) := by
  subst hp
  obtain ⟨T', h', X', e', W', st'⟩ := putF Y.X Y.x Y.warm Y.own w via Y.eT F EX (Lw.imp id fun q => ⟨q.1, q.2.1, Y.1.2.2.2.2.2.2.2.trans q.2.2⟩) wi hty hn hf (g := mkF m pc Ls (v :: .ref a :: st)) rfl rfl (Y.d hd)
  exact own_st st' (K T' h' ⟨Y.1, X', e'⟩ W')
theorem own_putFN (pc' : Nat) (Y : own_S Z y bytes maxL ret p l e R s m args below meth c T h locs cells slots) {R0 O n d : String} {index : Nat} {C : String} {kk : Nat} {ty : FieldType} (w : (Jvm.Cond.fieldLink y.cls index R0 n d).before a0 Z = true) (via : Via Z R0 O n d) {a : Addr} {v v' old : Value} (F : Fld Z h a O n d old) (EX : Exa Z h a C) (Lw : (Jvm.Cond.lays C O n d).before a0 Z = true ∨ ((Jvm.Cond.laysFinal C O n d).before a0 Z = true ∧ y.cls = O ∧ y.name = "<init>")) (wi : (Jvm.Cond.instantiable C kk).before a0 Z = true) (hty : parseFieldDescriptor d = some ty) (hn : narrow ty v = v') (hf : fits ty v' = true) (hd : decode bytes pc = .ok (.putfield index, 3)) (hp : pc + 3 = pc')
    (K : ∀ T' h', own_S Z y bytes maxL ret p l e R s m args below meth c T' h' (locs ++ [⟨a, Jvm.RoadKit.slotOf Z O n d⟩]) cells slots → Wr h h' a (Jvm.RoadKit.slotOf Z O n d) v' → own_G p e below E (T'.setTop (mkF m pc' Ls st))) : own_G p e below E (T.setTop (mkF m pc Ls (v :: .ref a :: st))) := by
  subst hp
  obtain ⟨T', h', X', e', W', st'⟩ := putFN Y.X Y.x Y.warm Y.own w via Y.eT F EX (Lw.imp id fun q => ⟨q.1, q.2.1, Y.1.2.2.2.2.2.2.2.trans q.2.2⟩) wi hty hn hf (g := mkF m pc Ls (v :: .ref a :: st)) rfl rfl (Y.d hd)
  exact own_st st' (K T' h' ⟨Y.1, X', e'⟩ W')
theorem own_newO (pc' : Nat) (Y : own_S Z y bytes maxL ret p l e R s m args below meth c T h locs cells slots) {C : String} {index n : Nat} (w : (Jvm.Cond.classLink y.cls index C).before a0 Z = true) (wi : (Jvm.Cond.instantiable C n).before a0 Z = true) (wz : (Jvm.Cond.initialized C).before a0 Z = true) (hd : decode bytes pc = .ok (.new index, 3)) (hc : cells + 1 ≤ R.cells) (hl : slots + n ≤ R.slots) (hp : pc + 3 = pc')
    (K : ∀ T' h' a, own_S Z y bytes maxL ret p l e R s m args below meth c T' h' locs (cells + 1) (slots + n) → a = h.size → Ext h h' → Exa Z h' a C → (∀ {O nm d : String} {ty : FieldType}, Laid Z a0 C O nm d → parseFieldDescriptor d = some ty → Fld Z h' a O nm d (defaultValue ty)) → own_G p e below E (T'.setTop (mkF m pc' Ls (.ref a :: st)))) : own_G p e below E (T.setTop (mkF m pc Ls st)) := by
  subst hp
  obtain ⟨T', h', X', e', E', A', D', -, st'⟩ := newO Y.X Y.x Y.warm Y.own w wi wz Y.eT (g := mkF m pc Ls st) rfl (Y.d hd) hc hl
  exact own_st st' (K T' h' _ ⟨Y.1, X', e'⟩ rfl E' A' D')
theorem own_initO (pc' : Nat) (Y : own_S Z y bytes maxL ret p l e R s m args below meth c T h locs cells slots) {idx : Nat} {a : Addr} (w1 : (Jvm.Cond.methodLink y.cls idx Lib.objectInit).before a0 Z = true) (w2 : (Jvm.Cond.instanceMethod Lib.objectInit).before a0 Z = true) (w3 : (Jvm.Cond.code Lib.objectInit ⟨#[0xb1]⟩ 1 none).before a0 Z = true) (hd : decode bytes pc = .ok (.invokespecial idx, 3)) (hLs : Ls.size = maxL) (hf : 1 ≤ R.frames) (hl : (st.map fun v => v.category).sum + 12 ≤ R.locals) (hp : pc + 3 = pc') (K : ∀ T', own_S Z y bytes maxL ret p l e R s m args below meth c T' h locs cells slots → own_G p e below E (T'.setTop (mkF m pc' Ls st))) : own_G p e below E (T.setTop (mkF m pc Ls (.ref a :: st))) := by
  subst hp
  obtain ⟨T', X', e', st'⟩ := initO Y.X Y.x Y.warm Y.own w1 w2 w3 Y.eT (g := mkF m pc Ls (.ref a :: st)) rfl (hLs.trans Y.1.2.2.1.symm) rfl (Y.d hd) hf (W := (st.map fun v => v.category).sum) (by show 2 * 0 + _ ≤ _; omega) hl
  exact own_st st' (K T' ⟨Y.1, X', e'⟩)
theorem own_cast (pc' : Nat) (Y : own_S Z y bytes maxL ret p l e R s m args below meth c T h locs cells slots) {K0 : String} {index : Nat} {a : Addr} (w : (Jvm.Cond.classLink y.cls index K0).before a0 Z = true) (F : Ins Z h a K0 true) (hd : decode bytes pc = .ok (.checkcast index, 3)) (hp : pc + 3 = pc') (K : ∀ T', own_S Z y bytes maxL ret p l e R s m args below meth c T' h locs cells slots → own_G p e below E (T'.setTop (mkF m pc' Ls (.ref a :: st)))) : own_G p e below E (T.setTop (mkF m pc Ls (.ref a :: st))) := by
  subst hp
  obtain ⟨T', X', e', st'⟩ := castY Y.X Y.x Y.warm Y.own w Y.eT F (g := mkF m pc Ls (.ref a :: st)) rfl rfl (Y.d hd)
  exact own_st st' (K T' ⟨Y.1, X', e'⟩)
theorem own_newP (pc' : Nat) (Y : own_S Z y bytes maxL ret p l e R s m args below meth c T h locs cells slots) {aty : ArrayType} (w : (Jvm.Cond.arrayClass (newarray.typeOf aty)).before a0 Z = true) {n : Int32} (cap : Nat) (hd : decode bytes pc = .ok (.newarray aty, 2)) (hn : ¬ n < 0) (hcap : n.toNatClampNeg ≤ cap) (hb : cap * 8 ≤ 536870912) (hc : cells + 1 ≤ R.cells) (hl : slots + cap ≤ R.slots) (hp : pc + 2 = pc')
    (K : ∀ T' h' a kA, own_S Z y bytes maxL ret p l e R s m args below meth c T' h' locs (cells + 1) (slots + cap) → a = h.size → Ext h h' → Arv Z h' a kA (newarray.typeOf aty) n [] (defaultValue (newarray.typeOf aty)) → own_G p e below E (T'.setTop (mkF m pc' Ls (.ref a :: st)))) : own_G p e below E (T.setTop (mkF m pc Ls (.int n :: st))) := by
  subst hp
  obtain ⟨T', h', kA, X', e', E', A', st'⟩ := newP Y.X Y.x Y.warm w Y.eT (g := mkF m pc Ls (.int n :: st)) rfl (Y.d hd) rfl hn (cap := cap) hcap hb hc hl
  exact own_st st' (K T' h' _ kA ⟨Y.1, X', e'⟩ rfl E' (Arv.new A' hn))
theorem own_newR (pc' : Nat) (Y : own_S Z y bytes maxL ret p l e R s m args below meth c T h locs cells slots) {C : String} {index : Nat} (w1 : (Jvm.Cond.classLink y.cls index C).before a0 Z = true) (w2 : (Jvm.Cond.arrayOver (.object C)).before a0 Z = true) {n : Int32} (cap : Nat) (hd : decode bytes pc = .ok (.anewarray index, 3)) (hn : ¬ n < 0) (hcap : n.toNatClampNeg ≤ cap) (hb : cap * 8 ≤ 536870912) (hc : cells + 1 ≤ R.cells) (hl : slots + cap ≤ R.slots) (hp : pc + 3 = pc')
    (K : ∀ T' h' a kA, own_S Z y bytes maxL ret p l e R s m args below meth c T' h' locs (cells + 1) (slots + cap) → a = h.size → Ext h h' → Arv Z h' a kA (.object C) n [] .null → Ovr Z kA C → own_G p e below E (T'.setTop (mkF m pc' Ls (.ref a :: st)))) : own_G p e below E (T.setTop (mkF m pc Ls (.int n :: st))) := by
  subst hp
  obtain ⟨T', h', kA, X', e', E', A', O', st'⟩ := newR Y.X Y.x Y.warm Y.own w1 w2 Y.eT (g := mkF m pc Ls (.int n :: st)) rfl (Y.d hd) rfl hn (cap := cap) hcap hb hc hl
  exact own_st st' (K T' h' _ kA ⟨Y.1, X', e'⟩ rfl E' (Arv.new A' hn) O')
theorem own_stC (pc' : Nat) (Y : own_S Z y bytes maxL ret p l e R s m args below meth c T h locs cells slots) {a : Addr} {kA : ClassId} {n j : Int32} {vs : List Value} {dv : Value} {x : Int32} (A : Arv Z h a kA .char n vs dv) (hd : decode bytes pc = .ok (.castore, 1)) (hj : ¬ j < 0 ∧ j < n) (hp : pc + 1 = pc')
    (K : ∀ T' h', own_S Z y bytes maxL ret p l e R s m args below meth c T' h' (locs ++ [⟨a, j.toNatClampNeg⟩]) cells slots → Wr h h' a j.toNatClampNeg (.int (nar .char x)) → (∀ (i : Nat), j.toNatClampNeg = i → i < vs.length → fits .char (.int (nar .char x)) = true → Arv Z h' a kA .char n (vs.set i (.int (nar .char x))) dv) → own_G p e below E (T'.setTop (mkF m pc' Ls st))) : own_G p e below E (T.setTop (mkF m pc Ls (.int x :: .int j :: .ref a :: st))) := by
  subst hp
  obtain ⟨cl, A1, q1, q2, q3, q4, q5⟩ := A
  obtain ⟨T', h', X', e', W', st'⟩ := stC Y.X Y.x Y.warm Y.eT A1 (j := j) (inb_of q2 hj) (g := mkF m pc Ls (.int x :: .int j :: .ref a :: st)) rfl rfl (Y.d hd)
  exact own_st st' (K T' h' ⟨Y.1, X', e'⟩ W' fun i hi hl hf => Arv.set A1 q1 q2 q3 q4 q5 hf W' i hi hl)
theorem own_stI (pc' : Nat) (Y : own_S Z y bytes maxL ret p l e R s m args below meth c T h locs cells slots) {a : Addr} {kA : ClassId} {n j : Int32} {vs : List Value} {dv : Value} {x : Int32} (A : Arv Z h a kA .int n vs dv) (hd : decode bytes pc = .ok (.iastore, 1)) (hj : ¬ j < 0 ∧ j < n) (hp : pc + 1 = pc')
    (K : ∀ T' h', own_S Z y bytes maxL ret p l e R s m args below meth c T' h' (locs ++ [⟨a, j.toNatClampNeg⟩]) cells slots → Wr h h' a j.toNatClampNeg (.int x) → (∀ (i : Nat), j.toNatClampNeg = i → i < vs.length → fits .int (.int x) = true → Arv Z h' a kA .int n (vs.set i (.int x)) dv) → own_G p e below E (T'.setTop (mkF m pc' Ls st))) : own_G p e below E (T.setTop (mkF m pc Ls (.int x :: .int j :: .ref a :: st))) := by
  subst hp
  obtain ⟨cl, A1, q1, q2, q3, q4, q5⟩ := A
  obtain ⟨T', h', X', e', W', st'⟩ := stI Y.X Y.x Y.warm Y.eT A1 (j := j) (inb_of q2 hj) (g := mkF m pc Ls (.int x :: .int j :: .ref a :: st)) rfl rfl (Y.d hd)
  exact own_st st' (K T' h' ⟨Y.1, X', e'⟩ W' fun i hi hl hf => Arv.set A1 q1 q2 q3 q4 q5 hf W' i hi hl)
theorem own_stB (pc' : Nat) (Y : own_S Z y bytes maxL ret p l e R s m args below meth c T h locs cells slots) {a : Addr} {kA : ClassId} {n j : Int32} {vs : List Value} {dv : Value} {x : Int32} (A : Arv Z h a kA .byte n vs dv) (hd : decode bytes pc = .ok (.bastore, 1)) (hj : ¬ j < 0 ∧ j < n) (hp : pc + 1 = pc')
    (K : ∀ T' h', own_S Z y bytes maxL ret p l e R s m args below meth c T' h' (locs ++ [⟨a, j.toNatClampNeg⟩]) cells slots → Wr h h' a j.toNatClampNeg (.int (nar .byte x)) → (∀ (i : Nat), j.toNatClampNeg = i → i < vs.length → fits .byte (.int (nar .byte x)) = true → Arv Z h' a kA .byte n (vs.set i (.int (nar .byte x))) dv) → own_G p e below E (T'.setTop (mkF m pc' Ls st))) : own_G p e below E (T.setTop (mkF m pc Ls (.int x :: .int j :: .ref a :: st))) := by
  subst hp
  obtain ⟨cl, A1, q1, q2, q3, q4, q5⟩ := A
  obtain ⟨T', h', X', e', W', st'⟩ := stB Y.X Y.x Y.warm Y.eT A1 (j := j) (inb_of q2 hj) (g := mkF m pc Ls (.int x :: .int j :: .ref a :: st)) rfl rfl (Y.d hd)
  exact own_st st' (K T' h' ⟨Y.1, X', e'⟩ W' fun i hi hl hf => Arv.set A1 q1 q2 q3 q4 q5 hf W' i hi hl)
theorem own_stJ (pc' : Nat) (Y : own_S Z y bytes maxL ret p l e R s m args below meth c T h locs cells slots) {a : Addr} {kA : ClassId} {n j : Int32} {vs : List Value} {dv : Value} {x : Int64} (A : Arv Z h a kA .long n vs dv) (hd : decode bytes pc = .ok (.lastore, 1)) (hj : ¬ j < 0 ∧ j < n) (hp : pc + 1 = pc')
    (K : ∀ T' h', own_S Z y bytes maxL ret p l e R s m args below meth c T' h' (locs ++ [⟨a, j.toNatClampNeg⟩]) cells slots → Wr h h' a j.toNatClampNeg (.long x) → (∀ (i : Nat), j.toNatClampNeg = i → i < vs.length → fits .long (.long x) = true → Arv Z h' a kA .long n (vs.set i (.long x)) dv) → own_G p e below E (T'.setTop (mkF m pc' Ls st))) : own_G p e below E (T.setTop (mkF m pc Ls (.long x :: .int j :: .ref a :: st))) := by
  subst hp
  obtain ⟨cl, A1, q1, q2, q3, q4, q5⟩ := A
  obtain ⟨T', h', X', e', W', st'⟩ := stJ Y.X Y.x Y.warm Y.eT A1 (j := j) (inb_of q2 hj) (g := mkF m pc Ls (.long x :: .int j :: .ref a :: st)) rfl rfl (Y.d hd)
  exact own_st st' (K T' h' ⟨Y.1, X', e'⟩ W' fun i hi hl hf => Arv.set A1 q1 q2 q3 q4 q5 hf W' i hi hl)
theorem own_stR (pc' : Nat) (Y : own_S Z y bytes maxL ret p l e R s m args below meth c T h locs cells slots) {a : Addr} {kA : ClassId} {n j : Int32} {vs : List Value} {dv : Value} {v : Value} {ty : FieldType} (A : Arv Z h a kA ty n vs dv) (hty : ty.isReference = true) (F : Sto Z h a v) (hfit : fits ty v = true) (hd : decode bytes pc = .ok (.aastore, 1)) (hj : ¬ j < 0 ∧ j < n) (hp : pc + 1 = pc')
    (K : ∀ T' h', own_S Z y bytes maxL ret p l e R s m args below meth c T' h' (locs ++ [⟨a, j.toNatClampNeg⟩]) cells slots → Wr h h' a j.toNatClampNeg v → (∀ (i : Nat), j.toNatClampNeg = i → i < vs.length → Arv Z h' a kA ty n (vs.set i v) dv) → own_G p e below E (T'.setTop (mkF m pc' Ls st))) : own_G p e below E (T.setTop (mkF m pc Ls (v :: .int j :: .ref a :: st))) := by
  subst hp
  obtain ⟨cl, A1, q1, q2, q3, q4, q5⟩ := A
  obtain ⟨T', h', X', e', W', st'⟩ := stR Y.X Y.x Y.warm Y.eT A1 (j := j) (inb_of q2 hj) hty F (g := mkF m pc Ls (v :: .int j :: .ref a :: st)) rfl rfl (Y.d hd)
  exact own_st st' (K T' h' ⟨Y.1, X', e'⟩ W' fun i hi hl => Arv.set A1 q1 q2 q3 q4 q5 hfit W' i hi hl)
theorem own_caload (pc' : Nat) (Y : own_S Z y bytes maxL ret p l e R s m args below meth c T h locs cells slots) {a : Addr} {kA : ClassId} {n j : Int32} {vs : List Value} {dv : Value} (A : Arv Z h a kA .char n vs dv) {v : Value} (hd : decode bytes pc = .ok (.caload, 1)) (hj : ¬ j < 0 ∧ j < n) (hv : vs.getD j.toNatClampNeg dv = v) (hp : pc + 1 = pc') (K : own_G p e below E (T.setTop (mkF m pc' Ls (v :: st)))) : own_G p e below E (T.setTop (mkF m pc Ls (.int j :: .ref a :: st))) := by
  subst hp
  obtain ⟨cl, A1, q1, q2, q3, q4, q5⟩ := A
  exact own_st (fun t k => Y.X.caload Y.x (j := j) (v := v) (by rw [Y.eT]; exact A1.1) (State.isArrayOf_alike Y.warm.alike A1.2.1) A1.2.2 (inb_of q2 hj) (q4.at (inb_of q2 hj) hv) (g := mkF m pc Ls (.int j :: .ref a :: st)) rfl rfl (Y.d hd) t k) K
theorem own_iaload (pc' : Nat) (Y : own_S Z y bytes maxL ret p l e R s m args below meth c T h locs cells slots) {a : Addr} {kA : ClassId} {n j : Int32} {vs : List Value} {dv : Value} (A : Arv Z h a kA .int n vs dv) {v : Value} (hd : decode bytes pc = .ok (.iaload, 1)) (hj : ¬ j < 0 ∧ j < n) (hv : vs.getD j.toNatClampNeg dv = v) (hp : pc + 1 = pc') (K : own_G p e below E (T.setTop (mkF m pc' Ls (v :: st)))) : own_G p e below E (T.setTop (mkF m pc Ls (.int j :: .ref a :: st))) := by
  subst hp
  obtain ⟨cl, A1, q1, q2, q3, q4, q5⟩ := A
  exact own_st (fun t k => Y.X.iaload Y.x (j := j) (v := v) (by rw [Y.eT]; exact A1.1) (State.isArrayOf_alike Y.warm.alike A1.2.1) A1.2.2 (inb_of q2 hj) (q4.at (inb_of q2 hj) hv) (g := mkF m pc Ls (.int j :: .ref a :: st)) rfl rfl (Y.d hd) t k) K
theorem own_baload (pc' : Nat) (Y : own_S Z y bytes maxL ret p l e R s m args below meth c T h locs cells slots) {a : Addr} {kA : ClassId} {n j : Int32} {vs : List Value} {dv : Value} (A : Arv Z h a kA .byte n vs dv) {v : Value} (hd : decode bytes pc = .ok (.baload, 1)) (hj : ¬ j < 0 ∧ j < n) (hv : vs.getD j.toNatClampNeg dv = v) (hp : pc + 1 = pc') (K : own_G p e below E (T.setTop (mkF m pc' Ls (v :: st)))) : own_G p e below E (T.setTop (mkF m pc Ls (.int j :: .ref a :: st))) := by
  subst hp
  obtain ⟨cl, A1, q1, q2, q3, q4, q5⟩ := A
  exact own_st (fun t k => Y.X.baloadBytes Y.x (j := j) (v := v) (by rw [Y.eT]; exact A1.1) (State.isArrayOf_alike Y.warm.alike A1.2.1) A1.2.2 (inb_of q2 hj) (q4.at (inb_of q2 hj) hv) (g := mkF m pc Ls (.int j :: .ref a :: st)) rfl rfl (Y.d hd) t k) K
theorem own_laload (pc' : Nat) (Y : own_S Z y bytes maxL ret p l e R s m args below meth c T h locs cells slots) {a : Addr} {kA : ClassId} {n j : Int32} {vs : List Value} {dv : Value} (A : Arv Z h a kA .long n vs dv) {v : Value} (hd : decode bytes pc = .ok (.laload, 1)) (hj : ¬ j < 0 ∧ j < n) (hv : vs.getD j.toNatClampNeg dv = v) (hp : pc + 1 = pc') (K : own_G p e below E (T.setTop (mkF m pc' Ls (v :: st)))) : own_G p e below E (T.setTop (mkF m pc Ls (.int j :: .ref a :: st))) := by
  subst hp
  obtain ⟨cl, A1, q1, q2, q3, q4, q5⟩ := A
  exact own_st (fun t k => Y.X.laload Y.x (j := j) (v := v) (by rw [Y.eT]; exact A1.1) (State.isArrayOf_alike Y.warm.alike A1.2.1) A1.2.2 (inb_of q2 hj) (q4.at (inb_of q2 hj) hv) (g := mkF m pc Ls (.int j :: .ref a :: st)) rfl rfl (Y.d hd) t k) K
theorem own_aaload (pc' : Nat) (Y : own_S Z y bytes maxL ret p l e R s m args below meth c T h locs cells slots) {a : Addr} {kA : ClassId} {n j : Int32} {vs : List Value} {dv : Value} {ty : FieldType} (A : Arv Z h a kA ty n vs dv) (hty : ty.isReference = true) {v : Value} (hd : decode bytes pc = .ok (.aaload, 1)) (hj : ¬ j < 0 ∧ j < n) (hv : vs.getD j.toNatClampNeg dv = v) (hp : pc + 1 = pc') (K : own_G p e below E (T.setTop (mkF m pc' Ls (v :: st)))) : own_G p e below E (T.setTop (mkF m pc Ls (.int j :: .ref a :: st))) := by
  subst hp
  obtain ⟨cl, A1, q1, q2, q3, q4, q5⟩ := A
  exact own_st (fun t k => Y.X.aaload Y.x (j := j) (v := v) (by rw [Y.eT]; exact A1.1) (State.isArrayOf_alike Y.warm.alike A1.2.1) hty A1.2.2 (inb_of q2 hj) (q4.at (inb_of q2 hj) hv) (g := mkF m pc Ls (.int j :: .ref a :: st)) rfl rfl (Y.d hd) t k) K
theorem own_alen (pc' : Nat) (Y : own_S Z y bytes maxL ret p l e R s m args below meth c T h locs cells slots) {a : Addr} {kA : ClassId} {n : Int32} {vs : List Value} {dv : Value} {ty : FieldType} (A : Arv Z h a kA ty n vs dv) (hd : decode bytes pc = .ok (.arraylength, 1)) (hp : pc + 1 = pc') (K : own_G p e below E (T.setTop (mkF m pc' Ls (.int n :: st)))) : own_G p e below E (T.setTop (mkF m pc Ls (.ref a :: st))) := by
  subst hp
  obtain ⟨cl, A1, q1, q2, q3, q4, q5⟩ := A
  refine own_st (fun t k => Y.X.arraylength Y.x (by rw [Y.eT]; exact A1.1) (State.isArrayOf_alike Y.warm.alike A1.2.1) (g := mkF m pc Ls (.ref a :: st)) rfl rfl (Y.d hd) t k) ?_
  rw [len_of q2 q3]
  exact K
theorem own_callS (pc' : Nat) (Y : own_S Z y bytes maxL ret p l e R s m args below meth c T h locs cells slots) {yc : MethodName} {bc : ByteArray} {mc : Nat} {rc : Option FieldType} {rm : Room} {index : Nat} {Qc : Option Value → Heap → List Loc → Prop} (argsL rest : List Value) (w1 : (Jvm.Cond.methodLink y.cls index yc).before a0 Z = true) (w2 : (Jvm.Cond.static yc).before a0 Z = true) (w3 : (Jvm.Cond.initialized yc.cls).before a0 Z = true) (w4 : (Jvm.Cond.code yc bc mc rc).before a0 Z = true) (hM : own_M l yc bc mc rc [] rm Z argsL.toArray h Qc) (hd : decode bytes pc = .ok (.invokestatic index, 3)) (hy : (yc.cls ≠ "java/lang/invoke/MethodHandle" ∧ yc.cls ≠ "java/lang/invoke/VarHandle")) (hlen : ∀ sig, parseMethodDescriptor yc.desc = some sig → argsL.length = sig.parameters.length) (hst : st = argsL.reverse ++ rest) (hLs : Ls.size = maxL) (hf : rm.frames + 1 ≤ R.frames) (hl : (rest.map fun v => v.category).sum + (mc + 11) + rm.locals ≤ R.locals) (hc : cells + rm.cells ≤ R.cells) (hs : slots + rm.slots ≤ R.slots) (hp : pc + 3 = pc')
    (K : ∀ v T' h' L, own_S Z y bytes maxL ret p l e R s m args below meth c T' h' (locs ++ L) (cells + rm.cells) (slots + rm.slots) → Qc v h' L → own_G p e below E (T'.setTop (mkF m pc' Ls (v.toList ++ rest)))) : own_G p e below E (T.setTop (mkF m pc Ls st)) := by
  subst hp
  obtain ⟨v, _, ⟨T', L', k', n'⟩, -, X', P', st'⟩ := Jvm.LawKit.callS Y.X Y.x (y := yc) Y.own (mvT Y.warm w1) (mvT Y.warm w2) (mvT Y.warm w3) (mvT Y.warm w4) hy (backOf (W := (rest.map fun v => v.category).sum) hM Y.warm w4 w3 hf hl) (g := mkF m pc Ls st) rfl (hLs.trans Y.1.2.2.1.symm) (argsL := argsL) (rest := rest) hlen hst (by show 2 * 0 + _ ≤ _; omega) (Y.d hd) (fun _ _ => ⟨rfl, Y.eT, hc, hs⟩)
  obtain ⟨Lc, hQ, l1, y1, z1⟩ := P'
  dsimp only [Pt.U, Pt.locs, Pt.cells, Pt.slots] at l1 y1 z1 hQ
  dsimp only [Pt.U, Pt.locs, Pt.cells, Pt.slots] at X' st'
  subst l1 y1 z1
  exact own_st st' (K v T' T'.heap Lc ⟨Y.1, X', rfl⟩ hQ)
theorem own_callI (pc' : Nat) (Y : own_S Z y bytes maxL ret p l e R s m args below meth c T h locs cells slots) {yc : MethodName} {bc : ByteArray} {mc : Nat} {rm : Room} {index : Nat} {Qc : Option Value → Heap → List Loc → Prop} (argsL rest : List Value) {a : Addr} (hini : yc.name = "<init>") (w1 : (Jvm.Cond.methodLink y.cls index yc).before a0 Z = true) (w2 : (Jvm.Cond.instanceMethod yc).before a0 Z = true) (w3 : (Jvm.Cond.initialized yc.cls).before a0 Z = true) (w4 : (Jvm.Cond.code yc bc mc none).before a0 Z = true) (hM : own_M l yc bc mc none [] rm Z (.ref a :: argsL).toArray h Qc) (hd : decode bytes pc = .ok (.invokespecial index, 3)) (hy : (yc.cls ≠ "java/lang/invoke/MethodHandle" ∧ yc.cls ≠ "java/lang/invoke/VarHandle")) (hlen : ∀ sig, parseMethodDescriptor yc.desc = some sig → argsL.length = sig.parameters.length) (hst : st = argsL.reverse ++ .ref a :: rest) (hLs : Ls.size = maxL) (hf : rm.frames + 1 ≤ R.frames) (hl : (rest.map fun v => v.category).sum + (mc + 11) + rm.locals ≤ R.locals) (hc : cells + rm.cells ≤ R.cells) (hs : slots + rm.slots ≤ R.slots) (hp : pc + 3 = pc')
    (K : ∀ v T' h' L, own_S Z y bytes maxL ret p l e R s m args below meth c T' h' (locs ++ L) (cells + rm.cells) (slots + rm.slots) → Qc v h' L → own_G p e below E (T'.setTop (mkF m pc' Ls (v.toList ++ rest)))) : own_G p e below E (T.setTop (mkF m pc Ls st)) := by
  subst hp
  obtain ⟨v, _, ⟨T', L', k', n'⟩, -, X', P', st'⟩ := Y.X.specialBack Y.x (y := yc) hini Y.own (mvT Y.warm w1) (mvT Y.warm w2) (mvT Y.warm w4) hy (backOf (W := (rest.map fun v => v.category).sum) hM Y.warm w4 w3 hf hl) (g := mkF m pc Ls st) rfl (hLs.trans Y.1.2.2.1.symm) (Steps.refl _) (a := a) (argsL := argsL) (rest := rest) hlen hst (by show 2 * 0 + _ ≤ _; omega) (Y.d hd) (fun _ _ => ⟨rfl, Y.eT, hc, hs⟩)
  obtain ⟨Lc, hQ, l1, y1, z1⟩ := P'
  dsimp only [Pt.U, Pt.locs, Pt.cells, Pt.slots] at l1 y1 z1 hQ
  dsimp only [Pt.U, Pt.locs, Pt.cells, Pt.slots] at X' st'
  subst l1 y1 z1
  exact own_st (fun t k => st'.trans k) (K v T' T'.heap Lc ⟨Y.1, X', rfl⟩ hQ)
theorem own_callV (pc' : Nat) (Y : own_S Z y bytes maxL ret p l e R s m args below meth c T h locs cells slots) {yc : MethodName} {bc : ByteArray} {mc : Nat} {rc : Option FieldType} {rm : Room} {index : Nat} {Qc : Option Value → Heap → List Loc → Prop} {yr : MethodName} {C : String} (argsL rest : List Value) {a : Addr} (EX : Exa Z h a C) (w1 : (Jvm.Cond.methodLink y.cls index yr).before a0 Z = true) (wd : (Jvm.Cond.declares yr).before a0 Z = true) (nf : NotFace s yr) (ws : (Jvm.Cond.selects C yr yc).before a0 Z = true) (w2 : (Jvm.Cond.instanceMethod yc).before a0 Z = true) (w3 : (Jvm.Cond.initialized yc.cls).before a0 Z = true) (w4 : (Jvm.Cond.code yc bc mc rc).before a0 Z = true) (hM : own_M l yc bc mc rc [] rm Z (.ref a :: argsL).toArray h Qc) (hd : decode bytes pc = .ok (.invokevirtual index, 3)) (hy : (yr.cls ≠ "java/lang/invoke/MethodHandle" ∧ yr.cls ≠ "java/lang/invoke/VarHandle")) (hlen : ∀ sig, parseMethodDescriptor yr.desc = some sig → argsL.length = sig.parameters.length) (hst : st = argsL.reverse ++ .ref a :: rest) (hLs : Ls.size = maxL) (hf : rm.frames + 1 ≤ R.frames) (hl : (rest.map fun v => v.category).sum + (mc + 11) + rm.locals ≤ R.locals) (hc : cells + rm.cells ≤ R.cells) (hs : slots + rm.slots ≤ R.slots) (hp : pc + 3 = pc')
    (K : ∀ v T' h' L, own_S Z y bytes maxL ret p l e R s m args below meth c T' h' (locs ++ L) (cells + rm.cells) (slots + rm.slots) → Qc v h' L → own_G p e below E (T'.setTop (mkF m pc' Ls (v.toList ++ rest)))) : own_G p e below E (T.setTop (mkF m pc Ls st)) := by
  subst hp
  obtain ⟨cq, kq, qa, qb, qc⟩ := isOf Y.warm Y.eT EX
  obtain ⟨v, _, ⟨T', L', k', n'⟩, -, X', P', st'⟩ := Y.X.virtualBack Y.x (y := yr) (z := yc) Y.own (mvT Y.warm w1) (mvT Y.warm wd) nf (mvT Y.warm ws) (mvT Y.warm w2) hy (backOf (W := (rest.map fun v => v.category).sum) hM Y.warm w4 w3 hf hl) qa qc (g := mkF m pc Ls st) rfl (hLs.trans Y.1.2.2.1.symm) (Steps.refl _) (argsL := argsL) (rest := rest) hlen hst (by show 2 * 0 + _ ≤ _; omega) (Y.d hd) (fun _ _ => ⟨rfl, Y.eT, hc, hs⟩)
  obtain ⟨Lc, hQ, l1, y1, z1⟩ := P'
  dsimp only [Pt.U, Pt.locs, Pt.cells, Pt.slots] at l1 y1 z1 hQ
  dsimp only [Pt.U, Pt.locs, Pt.cells, Pt.slots] at X' st'
  subst l1 y1 z1
  exact own_st (fun t k => st'.trans k) (K v T' T'.heap Lc ⟨Y.1, X', rfl⟩ hQ)
theorem own_callUp (pc' : Nat) (Y : own_S Z y bytes maxL ret p l e R s m args below meth c T h locs cells slots) {yc : MethodName} {bc : ByteArray} {mc : Nat} {rc : Option FieldType} {rm : Room} {index : Nat} {Qc : Option Value → Heap → List Loc → Prop} {yr : MethodName} {C owner : String} (argsL rest : List Value) {a : Addr} (EX : Exa Z h a C) (w1 : (Jvm.Cond.methodLink y.cls index yr).before a0 Z = true) (wm : (Jvm.Cond.sameMethod yr.cls owner yr.name yr.desc).before a0 Z = true) (wd : (Jvm.Cond.declares ⟨owner, yr.name, yr.desc⟩).before a0 Z = true) (ws : (Jvm.Cond.selects C yr yc).before a0 Z = true) (w2 : (Jvm.Cond.instanceMethod yc).before a0 Z = true) (w3 : (Jvm.Cond.initialized yc.cls).before a0 Z = true) (w4 : (Jvm.Cond.code yc bc mc rc).before a0 Z = true) (hM : own_M l yc bc mc rc [] rm Z (.ref a :: argsL).toArray h Qc) (hd : decode bytes pc = .ok (.invokevirtual index, 3)) (hy : owner ≠ "java/lang/invoke/MethodHandle" ∧ owner ≠ "java/lang/invoke/VarHandle") (hlen : ∀ sig, parseMethodDescriptor yr.desc = some sig → argsL.length = sig.parameters.length) (hst : st = argsL.reverse ++ .ref a :: rest) (hLs : Ls.size = maxL) (hf : rm.frames + 1 ≤ R.frames) (hl : (rest.map fun v => v.category).sum + (mc + 11) + rm.locals ≤ R.locals) (hc : cells + rm.cells ≤ R.cells) (hs : slots + rm.slots ≤ R.slots) (hp : pc + 3 = pc')
    (K : ∀ v T' h' L, own_S Z y bytes maxL ret p l e R s m args below meth c T' h' (locs ++ L) (cells + rm.cells) (slots + rm.slots) → Qc v h' L → own_G p e below E (T'.setTop (mkF m pc' Ls (v.toList ++ rest)))) : own_G p e below E (T.setTop (mkF m pc Ls st)) := by
  subst hp
  obtain ⟨cq, kq, qa, qb, qc⟩ := isOf Y.warm Y.eT EX
  obtain ⟨v, _, ⟨T', L', k', n'⟩, -, X', P', st'⟩ := Y.X.virtualBackUp Y.x (x := yr) (y := yc) Y.own (mvT Y.warm w1) (mvT Y.warm wm) (mvT Y.warm wd) hy (mvT Y.warm ws) (mvT Y.warm w2) (backOf (W := (rest.map fun v => v.category).sum) hM Y.warm w4 w3 hf hl) qa qc (g := mkF m pc Ls st) rfl (hLs.trans Y.1.2.2.1.symm) (Steps.refl _) (argsL := argsL) (rest := rest) hlen hst (by show 2 * 0 + _ ≤ _; omega) (Y.d hd) (fun _ _ => ⟨rfl, Y.eT, hc, hs⟩)
  obtain ⟨Lc, hQ, l1, y1, z1⟩ := P'
  dsimp only [Pt.U, Pt.locs, Pt.cells, Pt.slots] at l1 y1 z1 hQ
  dsimp only [Pt.U, Pt.locs, Pt.cells, Pt.slots] at X' st'
  subst l1 y1 z1
  exact own_st (fun t k => st'.trans k) (K v T' T'.heap Lc ⟨Y.1, X', rfl⟩ hQ)
theorem own_natS (pc' : Nat) (Y : own_S Z y bytes maxL ret p l e R s m args below meth c T h locs cells slots) {yc : MethodName} {bc : ByteArray} {mc : Nat} {rc : Option FieldType} {index : Nat} {val : Value} {F : Array Value → Prop} (argsL rest : List Value) (w1 : (Jvm.Cond.methodLink y.cls index yc).before a0 Z = true) (w2 : (Jvm.Cond.static yc).before a0 Z = true) (w3 : (Jvm.Cond.initialized yc.cls).before a0 Z = true) (w4 : (Jvm.Cond.code yc bc mc rc).before a0 Z = true) (hK : (Jvm.Cond.code yc bc mc rc).before args s = true → Back l R p e below s args yc 3 (rest.map fun v => v.category).sum (fun A a' => A.cells ≤ R.cells ∧ A.slots ≤ R.slots ∧ F a') (fun A _ v B => v = some val ∧ B = A)) (hF : F argsL.toArray) (hd : decode bytes pc = .ok (.invokestatic index, 3)) (hy : (yc.cls ≠ "java/lang/invoke/MethodHandle" ∧ yc.cls ≠ "java/lang/invoke/VarHandle")) (hlen : ∀ sig, parseMethodDescriptor yc.desc = some sig → argsL.length = sig.parameters.length) (hst : st = argsL.reverse ++ rest) (hLs : Ls.size = maxL) (hc : cells ≤ R.cells) (hs : slots ≤ R.slots) (hp : pc + 3 = pc') (K : ∀ T', own_S Z y bytes maxL ret p l e R s m args below meth c T' h locs cells slots → own_G p e below E (T'.setTop (mkF m pc' Ls (val :: rest)))) : own_G p e below E (T.setTop (mkF m pc Ls st)) := by
  subst hp
  obtain ⟨T', X', e', st'⟩ := natS Y.X Y.x Y.warm Y.own w1 w2 w3 w4 hy Y.eT hK (g := mkF m pc Ls st) rfl (hLs.trans Y.1.2.2.1.symm) (argsL := argsL) (rest := rest) hlen hst (by show 2 * 0 + _ ≤ _; omega) (Y.d hd) hc hs hF rfl
  exact own_st st' (K T' ⟨Y.1, X', e'⟩)
theorem own_ret (Y : own_S Z y bytes maxL ret p l e R s m args below meth c T h locs cells slots) {w : Value} {t : FieldType} {i : Instr} (hn : narrow t w = w)
    (hi : (i = .ireturn ∧ (t = .int ∨ t = .boolean ∨ t = .byte ∨ t = .char ∨ t = .short) ∧ ∃ z, w = .int z) ∨ (i = .lreturn ∧ t = .long ∧ ∃ z, w = .long z) ∨ (i = .dreturn ∧ t = .double ∧ ∃ z, w = .double z) ∨ (i = .freturn ∧ t = .float ∧ ∃ z, w = .float z) ∨ (i = .areturn ∧ t.isReference = true ∧ w.isRef = true))
    (hret : ret = some t) (hd : decode bytes pc = .ok (i, 1)) (hc : cells ≤ kc) (hs : slots ≤ ks) (hq : Q (some w) h locs) : own_G p e below (own_E s Q kc ks) (T.setTop (mkF m pc Ls (w :: st))) := by
  obtain ⟨⟨hx, hby, hml, hown, hZ, hr0, hlk, hnm⟩, X, eT⟩ := Y
  subst eT
  obtain ⟨fs, hr, hrun, hended, hW, hsame⟩ := X.leave (v := some w) (fun q => by rw [hr0, hret] at q; cases q) hlk
  exact ⟨_, _, retOut X hx (hr0.trans hret) hn hi (hb hby hd) hr, hrun, hended, _, _, rfl, hq, ⟨_, rfl⟩, hW, hsame.mono hc hs⟩
theorem own_retI (Y : own_S Z y bytes maxL ret p l e R s m args below meth c T h locs cells slots) {z : Int32} (hret : ret = some .int) (hd : decode bytes pc = .ok (.ireturn, 1)) (hc : cells ≤ kc) (hs : slots ≤ ks) (hq : Q (some (.int z)) h locs) : own_G p e below (own_E s Q kc ks) (T.setTop (mkF m pc Ls (.int z :: st))) := own_ret Y rfl (Or.inl ⟨rfl, Or.inl rfl, _, rfl⟩) hret hd hc hs hq
theorem own_retL (Y : own_S Z y bytes maxL ret p l e R s m args below meth c T h locs cells slots) {z : Int64} (hret : ret = some .long) (hd : decode bytes pc = .ok (.lreturn, 1)) (hc : cells ≤ kc) (hs : slots ≤ ks) (hq : Q (some (.long z)) h locs) : own_G p e below (own_E s Q kc ks) (T.setTop (mkF m pc Ls (.long z :: st))) := own_ret Y rfl (Or.inr (Or.inl ⟨rfl, rfl, _, rfl⟩)) hret hd hc hs hq
theorem own_retD (Y : own_S Z y bytes maxL ret p l e R s m args below meth c T h locs cells slots) {z : UInt64} (hret : ret = some .double) (hd : decode bytes pc = .ok (.dreturn, 1)) (hc : cells ≤ kc) (hs : slots ≤ ks) (hq : Q (some (.double z)) h locs) : own_G p e below (own_E s Q kc ks) (T.setTop (mkF m pc Ls (.double z :: st))) := own_ret Y rfl (Or.inr (Or.inr (Or.inl ⟨rfl, rfl, _, rfl⟩))) hret hd hc hs hq
theorem own_retA (Y : own_S Z y bytes maxL ret p l e R s m args below meth c T h locs cells slots) {w : Value} {t : FieldType} (hret : ret = some t) (ht : t.isReference = true) (hw : w.isRef = true) (hd : decode bytes pc = .ok (.areturn, 1)) (hc : cells ≤ kc) (hs : slots ≤ ks) (hq : Q (some w) h locs) : own_G p e below (own_E s Q kc ks) (T.setTop (mkF m pc Ls (w :: st))) := own_ret Y (by cases t <;> first | rfl | (cases ht; done)) (Or.inr (Or.inr (Or.inr (Or.inr ⟨rfl, ht, hw⟩)))) hret hd hc hs hq
theorem own_retN (Y : own_S Z y bytes maxL ret p l e R s m args below meth c T h locs cells slots) {z : Int32} {t : FieldType} (hret : ret = some t) (ht : t = .boolean ∨ t = .byte ∨ t = .char ∨ t = .short) (hd : decode bytes pc = .ok (.ireturn, 1)) (hc : cells ≤ kc) (hs : slots ≤ ks) (hq : Q (some (.int (nar t z))) h locs) : own_G p e below (own_E s Q kc ks) (T.setTop (mkF m pc Ls (.int z :: st))) := by
  obtain ⟨⟨hx, hby, hml, hown, hZ, hr0, hlk, hnm⟩, X, eT⟩ := Y
  subst eT
  obtain ⟨fs, hr, hrun, hended, hW, hsame⟩ := X.leave (v := some (.int (nar t z))) (fun q => by rw [hr0, hret] at q; cases q) hlk
  exact ⟨_, _, retN X hx (hr0.trans hret) ht (hb hby hd) hr, hrun, hended, _, _, rfl, hq, ⟨_, rfl⟩, hW, hsame.mono hc hs⟩
theorem own_retV (Y : own_S Z y bytes maxL ret p l e R s m args below meth c T h locs cells slots) (hret : ret = none) (hd : decode bytes pc = .ok (.return_, 1)) (hc : cells ≤ kc) (hs : slots ≤ ks) (hq : Q none h locs) : own_G p e below (own_E s Q kc ks) (T.setTop (mkF m pc Ls [])) := by
  obtain ⟨⟨hx, hby, hml, hown, hZ, hr0, hlk, hnm⟩, X, eT⟩ := Y
  subst eT
  obtain ⟨fs, hr, hrun, hended, hW, hsame⟩ := X.leave (v := none) (fun _ => rfl) hlk
  exact ⟨_, _, X.returnOut hx (hr0.trans hret) (hb hby hd) hr, hrun, hended, _, _, rfl, hq, ⟨_, rfl⟩, hW, hsame.mono hc hs⟩
end Own

theorem own_frs {k : Nat} {locs : List Loc} {a : Addr} {sl : Nat} (N : Fr k locs) (q : k ≤ a) : Fr k (locs ++ [⟨a, sl⟩]) := N.app fun y hy => by cases List.mem_singleton.mp hy; exact q
theorem own_frY {p : Program} {l : Launch} {e : Env} {R : Room} {s : State} {m : MethodId} {args : Array Value} {below : List Frame} {meth : Method} {c : Code} {T : State} {locs : List Loc} {cells slots : Nat} {Z : State} {h : Heap} {y : MethodName} {bytes : ByteArray} {maxL : Nat} {ret : Option FieldType} {k : Nat} {a : Addr} {sl : Nat} (Y : own_S Z y bytes maxL ret p l e R s m args below meth c T h (locs ++ [⟨a, sl⟩]) cells slots) (N : Fr k locs) (q : k ≤ a) : Fr k (locs ++ [⟨a, sl⟩]) := own_frs N q
theorem own_fitR {n : String} {v : Value} (q : v.isRef = true) : narrow (.object n) v = v ∧ fits (.object n) v = true := by cases v <;> first | exact ⟨rfl, rfl⟩ | cases q
theorem own_fitA {t : FieldType} {v : Value} (q : v.isRef = true) : narrow (.array t) v = v ∧ fits (.array t) v = true := by cases v <;> first | exact ⟨rfl, rfl⟩ | cases q
theorem own_keepE {h0 h : Heap} (K : Keep h0 h []) : Ext h0 h := ⟨K.1, fun a c q => K.2.1 a c q nin0⟩
theorem own_keepF {h0 h1 h2 : Heap} {b : Addr} (E : Ext h0 h1) (g : b = h0.size) (K : Keep h1 h2 [b]) : Keep h0 h2 [] := ((Keep.refl h0 []).ext E).trans K (allS (Or.inr (Nat.le_of_eq g.symm)) all0)
theorem own_refCat {v : Value} (q : v.isRef = true) : v.category = 1 := by cases v <;> first | rfl | cases q

def Qv (u : Option Value) (h0 : Heap) (v : Option Value) (h : Heap) (L : List Loc) : Prop := h0 = h ∧ L = [] ∧ v = u
def Qref (h0 : Heap) (v : Option Value) (h : Heap) (L : List Loc) : Prop := h0 = h ∧ L = [] ∧ ∃ a : Addr, v = some (.ref a)
theorem d1_0 : decode method_2_code 0 = .ok (.iload_n 0, 1) := by decide +kernel
theorem d1_1 : decode method_2_code 1 = .ok (.iconst 3, 1) := by decide +kernel
theorem d1_2 : decode method_2_code 2 = .ok (.iand, 1) := by decide +kernel
theorem d1_3 : decode method_2_code 3 = .ok (.istore_n 1, 1) := by decide +kernel
theorem d1_4 : decode method_2_code 4 = .ok (.iload_n 1, 1) := by decide +kernel
theorem d1_5 : decode method_2_code 5 = .ok (.ifCond .ne 7, 3) := by decide +kernel
theorem d1_8 : decode method_2_code 8 = .ok (.getstatic 7, 3) := by decide +kernel
theorem d1_11 : decode method_2_code 11 = .ok (.areturn, 1) := by decide +kernel
theorem d1_12 : decode method_2_code 12 = .ok (.iload_n 1, 1) := by decide +kernel
theorem d1_13 : decode method_2_code 13 = .ok (.iconst 1, 1) := by decide +kernel
theorem d1_14 : decode method_2_code 14 = .ok (.if_icmp .ne 7, 3) := by decide +kernel
theorem d1_17 : decode method_2_code 17 = .ok (.getstatic 13, 3) := by decide +kernel
theorem d1_20 : decode method_2_code 20 = .ok (.areturn, 1) := by decide +kernel
theorem d1_21 : decode method_2_code 21 = .ok (.iload_n 1, 1) := by decide +kernel
theorem d1_22 : decode method_2_code 22 = .ok (.iconst 2, 1) := by decide +kernel
theorem d1_23 : decode method_2_code 23 = .ok (.if_icmp .ne 7, 3) := by decide +kernel
theorem d1_26 : decode method_2_code 26 = .ok (.getstatic 16, 3) := by decide +kernel
theorem d1_29 : decode method_2_code 29 = .ok (.areturn, 1) := by decide +kernel
theorem d1_30 : decode method_2_code 30 = .ok (.getstatic 19, 3) := by decide +kernel
theorem d1_33 : decode method_2_code 33 = .ok (.areturn, 1) := by decide +kernel
theorem pl1 : plainFor (⟨"com/example/leading/leading/LineAsPinLaw", "role", "(I)Lcom/example/leading/leading/Role;"⟩ : MethodName) = true := by first | exact plainFor_of_name (by first | (simp [plainName, overriddenIn]; done) | decide +kernel) | decide +kernel
theorem d2_0 : decode method_3_code 0 = .ok (.iload_n 0, 1) := by decide +kernel
theorem d2_1 : decode method_3_code 1 = .ok (.iconst 3, 1) := by decide +kernel
theorem d2_2 : decode method_3_code 2 = .ok (.iand, 1) := by decide +kernel
theorem d2_3 : decode method_3_code 3 = .ok (.istore_n 1, 1) := by decide +kernel
theorem d2_4 : decode method_3_code 4 = .ok (.iload_n 1, 1) := by decide +kernel
theorem d2_5 : decode method_3_code 5 = .ok (.ifCond .ne 7, 3) := by decide +kernel
theorem d2_8 : decode method_3_code 8 = .ok (.getstatic 22, 3) := by decide +kernel
theorem d2_11 : decode method_3_code 11 = .ok (.areturn, 1) := by decide +kernel
theorem d2_12 : decode method_3_code 12 = .ok (.iload_n 1, 1) := by decide +kernel
theorem d2_13 : decode method_3_code 13 = .ok (.iconst 1, 1) := by decide +kernel
theorem d2_14 : decode method_3_code 14 = .ok (.if_icmp .ne 7, 3) := by decide +kernel
theorem d2_17 : decode method_3_code 17 = .ok (.getstatic 28, 3) := by decide +kernel
theorem d2_20 : decode method_3_code 20 = .ok (.areturn, 1) := by decide +kernel
theorem d2_21 : decode method_3_code 21 = .ok (.iload_n 1, 1) := by decide +kernel
theorem d2_22 : decode method_3_code 22 = .ok (.iconst 2, 1) := by decide +kernel
theorem d2_23 : decode method_3_code 23 = .ok (.if_icmp .ne 7, 3) := by decide +kernel
theorem d2_26 : decode method_3_code 26 = .ok (.getstatic 31, 3) := by decide +kernel
theorem d2_29 : decode method_3_code 29 = .ok (.areturn, 1) := by decide +kernel
theorem d2_30 : decode method_3_code 30 = .ok (.getstatic 34, 3) := by decide +kernel
theorem d2_33 : decode method_3_code 33 = .ok (.areturn, 1) := by decide +kernel
theorem pl2 : plainFor (⟨"com/example/leading/leading/LineAsPinLaw", "dir", "(I)Lcom/example/leading/leading/Direction;"⟩ : MethodName) = true := by first | exact plainFor_of_name (by first | (simp [plainName, overriddenIn]; done) | decide +kernel) | decide +kernel
theorem d3_0 : decode prog_17_method_1_code 0 = .ok (.aload_n 0, 1) := by decide +kernel
theorem d3_1 : decode prog_17_method_1_code 1 = .ok (.invokespecial 1, 3) := by decide +kernel
theorem d3_4 : decode prog_17_method_1_code 4 = .ok (.aload_n 0, 1) := by decide +kernel
theorem d3_5 : decode prog_17_method_1_code 5 = .ok (.aload_n 1, 1) := by decide +kernel
theorem d3_6 : decode prog_17_method_1_code 6 = .ok (.putfield 7, 3) := by decide +kernel
theorem d3_9 : decode prog_17_method_1_code 9 = .ok (.aload_n 0, 1) := by decide +kernel
theorem d3_10 : decode prog_17_method_1_code 10 = .ok (.aload_n 2, 1) := by decide +kernel
theorem d3_11 : decode prog_17_method_1_code 11 = .ok (.putfield 13, 3) := by decide +kernel
theorem d3_14 : decode prog_17_method_1_code 14 = .ok (.aload_n 0, 1) := by decide +kernel
theorem d3_15 : decode prog_17_method_1_code 15 = .ok (.aload_n 3, 1) := by decide +kernel
theorem d3_16 : decode prog_17_method_1_code 16 = .ok (.putfield 17, 3) := by decide +kernel
theorem d3_19 : decode prog_17_method_1_code 19 = .ok (.aload_n 0, 1) := by decide +kernel
theorem d3_20 : decode prog_17_method_1_code 20 = .ok (.aload 4, 2) := by decide +kernel
theorem d3_22 : decode prog_17_method_1_code 22 = .ok (.putfield 21, 3) := by decide +kernel
theorem d3_25 : decode prog_17_method_1_code 25 = .ok (.return_, 1) := by decide +kernel
theorem pl3 : plainFor (⟨"com/example/leading/leading/Line", "<init>", "(Ljava/util/List;Lcom/example/leading/leading/Box;Lcom/example/leading/leading/Direction;Lcom/example/leading/leading/Role;)V"⟩ : MethodName) = true := by first | exact plainFor_of_name (by first | (simp [plainName, overriddenIn]; done) | decide +kernel) | decide +kernel
theorem d4_0 : decode jdk_30_method_1_code 0 = .ok (.aload_n 0, 1) := by decide +kernel
theorem d4_1 : decode jdk_30_method_1_code 1 = .ok (.invokespecial 1, 3) := by decide +kernel
theorem d4_4 : decode jdk_30_method_1_code 4 = .ok (.return_, 1) := by decide +kernel
theorem pl4 : plainFor (⟨"java/lang/Record", "<init>", "()V"⟩ : MethodName) = true := by first | exact plainFor_of_name (by first | (simp [plainName, overriddenIn]; done) | decide +kernel) | decide +kernel
theorem d5_0 : decode prog_17_method_4_code 0 = .ok (.new 8, 3) := by decide +kernel
theorem d5_3 : decode prog_17_method_4_code 3 = .ok (.dup, 1) := by decide +kernel
theorem d5_4 : decode prog_17_method_4_code 4 = .ok (.aload_n 0, 1) := by decide +kernel
theorem d5_5 : decode prog_17_method_4_code 5 = .ok (.getfield 7, 3) := by decide +kernel
theorem d5_8 : decode prog_17_method_4_code 8 = .ok (.aload_n 0, 1) := by decide +kernel
theorem d5_9 : decode prog_17_method_4_code 9 = .ok (.getfield 13, 3) := by decide +kernel
theorem d5_12 : decode prog_17_method_4_code 12 = .ok (.aload_n 0, 1) := by decide +kernel
theorem d5_13 : decode prog_17_method_4_code 13 = .ok (.getfield 17, 3) := by decide +kernel
theorem d5_16 : decode prog_17_method_4_code 16 = .ok (.aload_n 1, 1) := by decide +kernel
theorem d5_17 : decode prog_17_method_4_code 17 = .ok (.invokespecial 56, 3) := by decide +kernel
theorem d5_20 : decode prog_17_method_4_code 20 = .ok (.areturn, 1) := by decide +kernel
theorem pl5 : plainFor (⟨"com/example/leading/leading/Line", "as", "(Lcom/example/leading/leading/Role;)Lcom/example/leading/leading/Line;"⟩ : MethodName) = true := by first | exact plainFor_of_name (by first | (simp [plainName, overriddenIn]; done) | decide +kernel) | decide +kernel
theorem d6_0 : decode jdk_22_method_1_code 0 = .ok (.aload_n 0, 1) := by decide +kernel
theorem d6_1 : decode jdk_22_method_1_code 1 = .ok (.invokespecial 1, 3) := by decide +kernel
theorem d6_4 : decode jdk_22_method_1_code 4 = .ok (.return_, 1) := by decide +kernel
theorem pl6 : plainFor (⟨"java/util/AbstractCollection", "<init>", "()V"⟩ : MethodName) = true := by first | exact plainFor_of_name (by first | (simp [plainName, overriddenIn]; done) | decide +kernel) | decide +kernel
theorem d7_0 : decode jdk_39_method_1_code 0 = .ok (.aload_n 0, 1) := by decide +kernel
theorem d7_1 : decode jdk_39_method_1_code 1 = .ok (.invokespecial 1, 3) := by decide +kernel
theorem d7_4 : decode jdk_39_method_1_code 4 = .ok (.aload_n 0, 1) := by decide +kernel
theorem d7_5 : decode jdk_39_method_1_code 5 = .ok (.iconst 0, 1) := by decide +kernel
theorem d7_6 : decode jdk_39_method_1_code 6 = .ok (.putfield 7, 3) := by decide +kernel
theorem d7_9 : decode jdk_39_method_1_code 9 = .ok (.return_, 1) := by decide +kernel
theorem pl7 : plainFor (⟨"java/util/AbstractList", "<init>", "()V"⟩ : MethodName) = true := by first | exact plainFor_of_name (by first | (simp [plainName, overriddenIn]; done) | decide +kernel) | decide +kernel
theorem d8_0 : decode jdk_38_method_2_code 0 = .ok (.aload_n 0, 1) := by decide +kernel
theorem d8_1 : decode jdk_38_method_2_code 1 = .ok (.invokespecial 1, 3) := by decide +kernel
theorem d8_4 : decode jdk_38_method_2_code 4 = .ok (.aload_n 0, 1) := by decide +kernel
theorem d8_5 : decode jdk_38_method_2_code 5 = .ok (.getstatic 39, 3) := by decide +kernel
theorem d8_8 : decode jdk_38_method_2_code 8 = .ok (.putfield 9, 3) := by decide +kernel
theorem d8_11 : decode jdk_38_method_2_code 11 = .ok (.return_, 1) := by decide +kernel
theorem pl8 : plainFor (⟨"java/util/ArrayList", "<init>", "()V"⟩ : MethodName) = true := by first | exact plainFor_of_name (by first | (simp [plainName, overriddenIn]; done) | decide +kernel) | decide +kernel
theorem pl0 : plainFor x = true := by first | exact plainFor_of_name (by first | (simp [plainName, overriddenIn]; done) | decide +kernel) | decide +kernel
theorem dg0_0 : decode prog_17_method_8_code 0 = .ok (.aload_n 0, 1) := by decide +kernel
theorem dg0_1 : decode prog_17_method_8_code 1 = .ok (.getfield 7, 3) := by decide +kernel
theorem dg0_4 : decode prog_17_method_8_code 4 = .ok (.areturn, 1) := by decide +kernel
theorem plg0 : plainFor (⟨"com/example/leading/leading/Line", "words", "()Ljava/util/List;"⟩ : MethodName) = true := by first | exact plainFor_of_name (by first | (simp [plainName, overriddenIn]; done) | decide +kernel) | decide +kernel
theorem dg1_0 : decode prog_17_method_9_code 0 = .ok (.aload_n 0, 1) := by decide +kernel
theorem dg1_1 : decode prog_17_method_9_code 1 = .ok (.getfield 13, 3) := by decide +kernel
theorem dg1_4 : decode prog_17_method_9_code 4 = .ok (.areturn, 1) := by decide +kernel
theorem plg1 : plainFor (⟨"com/example/leading/leading/Line", "box", "()Lcom/example/leading/leading/Box;"⟩ : MethodName) = true := by first | exact plainFor_of_name (by first | (simp [plainName, overriddenIn]; done) | decide +kernel) | decide +kernel
theorem dg2_0 : decode prog_17_method_10_code 0 = .ok (.aload_n 0, 1) := by decide +kernel
theorem dg2_1 : decode prog_17_method_10_code 1 = .ok (.getfield 17, 3) := by decide +kernel
theorem dg2_4 : decode prog_17_method_10_code 4 = .ok (.areturn, 1) := by decide +kernel
theorem plg2 : plainFor (⟨"com/example/leading/leading/Line", "direction", "()Lcom/example/leading/leading/Direction;"⟩ : MethodName) = true := by first | exact plainFor_of_name (by first | (simp [plainName, overriddenIn]; done) | decide +kernel) | decide +kernel
theorem dg3_0 : decode prog_17_method_11_code 0 = .ok (.aload_n 0, 1) := by decide +kernel
theorem dg3_1 : decode prog_17_method_11_code 1 = .ok (.getfield 21, 3) := by decide +kernel
theorem dg3_4 : decode prog_17_method_11_code 4 = .ok (.areturn, 1) := by decide +kernel
theorem plg3 : plainFor (⟨"com/example/leading/leading/Line", "role", "()Lcom/example/leading/leading/Role;"⟩ : MethodName) = true := by first | exact plainFor_of_name (by first | (simp [plainName, overriddenIn]; done) | decide +kernel) | decide +kernel
theorem pd1 : parseMethodDescriptor "(I)Lcom/example/leading/leading/Role;" = some ⟨[.int], some (.object "com/example/leading/leading/Role")⟩ := by decide +kernel
theorem pd2 : parseMethodDescriptor "(I)Lcom/example/leading/leading/Direction;" = some ⟨[.int], some (.object "com/example/leading/leading/Direction")⟩ := by decide +kernel
theorem pd3 : parseMethodDescriptor "(Ljava/util/List;Lcom/example/leading/leading/Box;Lcom/example/leading/leading/Direction;Lcom/example/leading/leading/Role;)V" = some ⟨[(.object "java/util/List"), (.object "com/example/leading/leading/Box"), (.object "com/example/leading/leading/Direction"), (.object "com/example/leading/leading/Role")], none⟩ := by decide +kernel
theorem pd4 : parseMethodDescriptor "()V" = some ⟨[], none⟩ := by decide +kernel
theorem pd5 : parseMethodDescriptor "(Lcom/example/leading/leading/Role;)Lcom/example/leading/leading/Line;" = some ⟨[(.object "com/example/leading/leading/Role")], some (.object "com/example/leading/leading/Line")⟩ := by decide +kernel
theorem pd6 : parseMethodDescriptor "()V" = some ⟨[], none⟩ := by decide +kernel
theorem pd7 : parseMethodDescriptor "()V" = some ⟨[], none⟩ := by decide +kernel
theorem pd8 : parseMethodDescriptor "()V" = some ⟨[], none⟩ := by decide +kernel
theorem pdg0 : parseMethodDescriptor "()Ljava/util/List;" = some ⟨[], some (.object "java/util/List")⟩ := by decide +kernel
theorem pdg1 : parseMethodDescriptor "()Lcom/example/leading/leading/Box;" = some ⟨[], some (.object "com/example/leading/leading/Box")⟩ := by decide +kernel
theorem pdg2 : parseMethodDescriptor "()Lcom/example/leading/leading/Direction;" = some ⟨[], some (.object "com/example/leading/leading/Direction")⟩ := by decide +kernel
theorem pdg3 : parseMethodDescriptor "()Lcom/example/leading/leading/Role;" = some ⟨[], some (.object "com/example/leading/leading/Role")⟩ := by decide +kernel
set_option maxRecDepth 65536 in
set_option maxHeartbeats 4000000 in
theorem c_role (l : Launch) (Z : State) (a0 : Array Value) (hw : ∀ d ∈ tables_1, d.before a0 Z = true) (n : Int32) (b0 b1 b2 b3 : Addr) (h0 : Heap) (S0 : Sta Z h0 "com/example/leading/leading/Role" "BODY" "Lcom/example/leading/leading/Role;" (.ref b0)) (S1 : Sta Z h0 "com/example/leading/leading/Role" "HEADER" "Lcom/example/leading/leading/Role;" (.ref b1)) (S2 : Sta Z h0 "com/example/leading/leading/Role" "FOOTER" "Lcom/example/leading/leading/Role;" (.ref b2)) (S3 : Sta Z h0 "com/example/leading/leading/Role" "MARGIN" "Lcom/example/leading/leading/Role;" (.ref b3)) : own_M l (⟨"com/example/leading/leading/LineAsPinLaw", "role", "(I)Lcom/example/leading/leading/Role;"⟩ : MethodName) method_2_code 2 (some (.object "com/example/leading/leading/Role")) [] ({ frames := 0, cells := 0, slots := 0, locals := 0 } : Room) Z #[.int n] h0 (Qref h0) := by
  refine own_met pl1 (Lf := #[.val (.int n), .unset]) (fun m => by first | (simp [entryFrame, mkF, argsToLocals, Value.category]; done) | rfl) ?_
  intro p e s m below meth c T Y
  refine own_iloadN 1 Y d1_0 rfl rfl ?_
  refine own_iconst 2 Y (3 : Int32) d1_1 rfl rfl ?_
  refine own_iand 3 Y d1_2 rfl ?_
  obtain ⟨k, ek⟩ : ∃ k : Int32, k = (n &&& (3 : Int32)) := ⟨_, rfl⟩
  rw [← ek]
  refine own_istoreN 4 Y #[.val (.int n), .val (.int k)] d1_3 rfl rfl ?_
  refine own_iloadN 5 Y d1_4 rfl rfl ?_
  refine own_if_ne 12 8 Y d1_5 (by decide) rfl (fun q5 => ?_) (fun q5 => ?_)
  · refine own_iloadN 13 Y d1_12 rfl rfl ?_
    refine own_iconst 14 Y (1 : Int32) d1_13 rfl rfl ?_
    refine own_ic_ne 21 17 Y d1_14 (by decide) rfl (fun q14 => ?_) (fun q14 => ?_)
    · refine own_iloadN 22 Y d1_21 rfl rfl ?_
      refine own_iconst 23 Y (2 : Int32) d1_22 rfl rfl ?_
      refine own_ic_ne 30 26 Y d1_23 (by decide) rfl (fun q23 => ?_) (fun q23 => ?_)
      · refine own_getS 33 Y (host := "") (Or.inl (own_wd hw 33 rfl)) Via.refl S3 d1_30 rfl fun T2 Y1 => ?_
        exact own_retA Y1 rfl rfl rfl d1_33 (by decide) (by decide) ⟨rfl, rfl, _, rfl⟩
      · refine own_getS 29 Y (host := "") (Or.inl (own_wd hw 92 rfl)) Via.refl S2 d1_26 rfl fun T4 Y3 => ?_
        exact own_retA Y3 rfl rfl rfl d1_29 (by decide) (by decide) ⟨rfl, rfl, _, rfl⟩
    · refine own_getS 20 Y (host := "") (Or.inl (own_wd hw 88 rfl)) Via.refl S1 d1_17 rfl fun T6 Y5 => ?_
      exact own_retA Y5 rfl rfl rfl d1_20 (by decide) (by decide) ⟨rfl, rfl, _, rfl⟩
  · refine own_getS 11 Y (host := "") (Or.inl (own_wd hw 30 rfl)) Via.refl S0 d1_8 rfl fun T8 Y7 => ?_
    exact own_retA Y7 rfl rfl rfl d1_11 (by decide) (by decide) ⟨rfl, rfl, _, rfl⟩
set_option maxRecDepth 65536 in
set_option maxHeartbeats 4000000 in
theorem c_dir (l : Launch) (Z : State) (a0 : Array Value) (hw : ∀ d ∈ tables_1, d.before a0 Z = true) (n : Int32) (b0 b1 b2 b3 : Addr) (h0 : Heap) (S0 : Sta Z h0 "com/example/leading/leading/Direction" "RIGHT" "Lcom/example/leading/leading/Direction;" (.ref b0)) (S1 : Sta Z h0 "com/example/leading/leading/Direction" "UP" "Lcom/example/leading/leading/Direction;" (.ref b1)) (S2 : Sta Z h0 "com/example/leading/leading/Direction" "LEFT" "Lcom/example/leading/leading/Direction;" (.ref b2)) (S3 : Sta Z h0 "com/example/leading/leading/Direction" "DOWN" "Lcom/example/leading/leading/Direction;" (.ref b3)) : own_M l (⟨"com/example/leading/leading/LineAsPinLaw", "dir", "(I)Lcom/example/leading/leading/Direction;"⟩ : MethodName) method_3_code 2 (some (.object "com/example/leading/leading/Direction")) [] ({ frames := 0, cells := 0, slots := 0, locals := 0 } : Room) Z #[.int n] h0 (Qref h0) := by
  refine own_met pl2 (Lf := #[.val (.int n), .unset]) (fun m => by first | (simp [entryFrame, mkF, argsToLocals, Value.category]; done) | rfl) ?_
  intro p e s m below meth c T Y
  refine own_iloadN 1 Y d2_0 rfl rfl ?_
  refine own_iconst 2 Y (3 : Int32) d2_1 rfl rfl ?_
  refine own_iand 3 Y d2_2 rfl ?_
  obtain ⟨k, ek⟩ : ∃ k : Int32, k = (n &&& (3 : Int32)) := ⟨_, rfl⟩
  rw [← ek]
  refine own_istoreN 4 Y #[.val (.int n), .val (.int k)] d2_3 rfl rfl ?_
  refine own_iloadN 5 Y d2_4 rfl rfl ?_
  refine own_if_ne 12 8 Y d2_5 (by decide) rfl (fun q5 => ?_) (fun q5 => ?_)
  · refine own_iloadN 13 Y d2_12 rfl rfl ?_
    refine own_iconst 14 Y (1 : Int32) d2_13 rfl rfl ?_
    refine own_ic_ne 21 17 Y d2_14 (by decide) rfl (fun q14 => ?_) (fun q14 => ?_)
    · refine own_iloadN 22 Y d2_21 rfl rfl ?_
      refine own_iconst 23 Y (2 : Int32) d2_22 rfl rfl ?_
      refine own_ic_ne 30 26 Y d2_23 (by decide) rfl (fun q23 => ?_) (fun q23 => ?_)
      · refine own_getS 33 Y (host := "") (Or.inl (own_wd hw 90 rfl)) Via.refl S3 d2_30 rfl fun T2 Y1 => ?_
        exact own_retA Y1 rfl rfl rfl d2_33 (by decide) (by decide) ⟨rfl, rfl, _, rfl⟩
      · refine own_getS 29 Y (host := "") (Or.inl (own_wd hw 38 rfl)) Via.refl S2 d2_26 rfl fun T4 Y3 => ?_
        exact own_retA Y3 rfl rfl rfl d2_29 (by decide) (by decide) ⟨rfl, rfl, _, rfl⟩
    · refine own_getS 20 Y (host := "") (Or.inl (own_wd hw 94 rfl)) Via.refl S1 d2_17 rfl fun T6 Y5 => ?_
      exact own_retA Y5 rfl rfl rfl d2_20 (by decide) (by decide) ⟨rfl, rfl, _, rfl⟩
  · refine own_getS 11 Y (host := "") (Or.inl (own_wd hw 96 rfl)) Via.refl S0 d2_8 rfl fun T8 Y7 => ?_
    exact own_retA Y7 rfl rfl rfl d2_11 (by decide) (by decide) ⟨rfl, rfl, _, rfl⟩
set_option maxRecDepth 65536 in
set_option maxHeartbeats 4000000 in
theorem c_rec (l : Launch) (Z : State) (a0 : Array Value) (hw : ∀ d ∈ tables_1, d.before a0 Z = true) (a : Addr) (h0 : Heap) : own_M l (⟨"java/lang/Record", "<init>", "()V"⟩ : MethodName) jdk_30_method_1_code 1 none [] ({ frames := 1, cells := 0, slots := 0, locals := 12 } : Room) Z #[.ref a] h0 (Qv none h0) := by
  refine own_met pl4 (Lf := #[.val (.ref a)]) (fun m => by first | (simp [entryFrame, mkF, argsToLocals, Value.category]; done) | rfl) ?_
  intro p e s m below meth c T Y
  refine own_aloadN 1 Y d4_0 rfl rfl rfl ?_
  refine own_initO 4 Y (own_wd hw 52 rfl) (own_wd hw 19 rfl) (own_wd hw 20 rfl) d4_1 rfl (by decide) (by decide) rfl fun T2 Y1 => ?_
  exact own_retV Y1 rfl d4_4 (by decide) (by decide) ⟨rfl, rfl, rfl⟩
set_option maxRecDepth 65536 in
set_option maxHeartbeats 4000000 in
theorem c_acol (l : Launch) (Z : State) (a0 : Array Value) (hw : ∀ d ∈ tables_1, d.before a0 Z = true) (a : Addr) (h0 : Heap) : own_M l (⟨"java/util/AbstractCollection", "<init>", "()V"⟩ : MethodName) jdk_22_method_1_code 1 none [] ({ frames := 1, cells := 0, slots := 0, locals := 12 } : Room) Z #[.ref a] h0 (Qv none h0) := by
  refine own_met pl6 (Lf := #[.val (.ref a)]) (fun m => by first | (simp [entryFrame, mkF, argsToLocals, Value.category]; done) | rfl) ?_
  intro p e s m below meth c T Y
  refine own_aloadN 1 Y d6_0 rfl rfl rfl ?_
  refine own_initO 4 Y (own_wd hw 18 rfl) (own_wd hw 19 rfl) (own_wd hw 20 rfl) d6_1 rfl (by decide) (by decide) rfl fun T2 Y1 => ?_
  exact own_retV Y1 rfl d6_4 (by decide) (by decide) ⟨rfl, rfl, rfl⟩
set_option maxRecDepth 65536 in
set_option maxHeartbeats 4000000 in
theorem c_g0 (l : Launch) (Z : State) (a0 : Array Value) (hw : ∀ d ∈ tables_1, d.before a0 Z = true) (a : Addr) (v : Value) (hv : v.isRef = true) (h0 : Heap) (F : Fld Z h0 a "com/example/leading/leading/Line" "words" "Ljava/util/List;" v) : own_M l (⟨"com/example/leading/leading/Line", "words", "()Ljava/util/List;"⟩ : MethodName) prog_17_method_8_code 1 (some (.object "java/util/List")) [] ({ frames := 0, cells := 0, slots := 0, locals := 0 } : Room) Z #[.ref a] h0 (Qv (some v) h0) := by
  refine own_met plg0 (Lf := #[.val (.ref a)]) (fun m => by first | (simp [entryFrame, mkF, argsToLocals, Value.category]; done) | rfl) ?_
  intro p e s m below meth c T Y
  refine own_aloadN 1 Y dg0_0 rfl rfl rfl ?_
  refine own_getF 4 Y (host := "") (Or.inl (own_wd hw 53 rfl)) Via.refl F dg0_1 rfl fun T2 Y1 => ?_
  exact own_retA Y1 rfl rfl hv dg0_4 (by decide) (by decide) ⟨rfl, rfl, rfl⟩
set_option maxRecDepth 65536 in
set_option maxHeartbeats 4000000 in
theorem c_g1 (l : Launch) (Z : State) (a0 : Array Value) (hw : ∀ d ∈ tables_1, d.before a0 Z = true) (a : Addr) (v : Value) (hv : v.isRef = true) (h0 : Heap) (F : Fld Z h0 a "com/example/leading/leading/Line" "box" "Lcom/example/leading/leading/Box;" v) : own_M l (⟨"com/example/leading/leading/Line", "box", "()Lcom/example/leading/leading/Box;"⟩ : MethodName) prog_17_method_9_code 1 (some (.object "com/example/leading/leading/Box")) [] ({ frames := 0, cells := 0, slots := 0, locals := 0 } : Room) Z #[.ref a] h0 (Qv (some v) h0) := by
  refine own_met plg1 (Lf := #[.val (.ref a)]) (fun m => by first | (simp [entryFrame, mkF, argsToLocals, Value.category]; done) | rfl) ?_
  intro p e s m below meth c T Y
  refine own_aloadN 1 Y dg1_0 rfl rfl rfl ?_
  refine own_getF 4 Y (host := "") (Or.inl (own_wd hw 55 rfl)) Via.refl F dg1_1 rfl fun T2 Y1 => ?_
  exact own_retA Y1 rfl rfl hv dg1_4 (by decide) (by decide) ⟨rfl, rfl, rfl⟩
set_option maxRecDepth 65536 in
set_option maxHeartbeats 4000000 in
theorem c_g2 (l : Launch) (Z : State) (a0 : Array Value) (hw : ∀ d ∈ tables_1, d.before a0 Z = true) (a : Addr) (v : Value) (hv : v.isRef = true) (h0 : Heap) (F : Fld Z h0 a "com/example/leading/leading/Line" "direction" "Lcom/example/leading/leading/Direction;" v) : own_M l (⟨"com/example/leading/leading/Line", "direction", "()Lcom/example/leading/leading/Direction;"⟩ : MethodName) prog_17_method_10_code 1 (some (.object "com/example/leading/leading/Direction")) [] ({ frames := 0, cells := 0, slots := 0, locals := 0 } : Room) Z #[.ref a] h0 (Qv (some v) h0) := by
  refine own_met plg2 (Lf := #[.val (.ref a)]) (fun m => by first | (simp [entryFrame, mkF, argsToLocals, Value.category]; done) | rfl) ?_
  intro p e s m below meth c T Y
  refine own_aloadN 1 Y dg2_0 rfl rfl rfl ?_
  refine own_getF 4 Y (host := "") (Or.inl (own_wd hw 57 rfl)) Via.refl F dg2_1 rfl fun T2 Y1 => ?_
  exact own_retA Y1 rfl rfl hv dg2_4 (by decide) (by decide) ⟨rfl, rfl, rfl⟩
set_option maxRecDepth 65536 in
set_option maxHeartbeats 4000000 in
theorem c_g3 (l : Launch) (Z : State) (a0 : Array Value) (hw : ∀ d ∈ tables_1, d.before a0 Z = true) (a : Addr) (v : Value) (hv : v.isRef = true) (h0 : Heap) (F : Fld Z h0 a "com/example/leading/leading/Line" "role" "Lcom/example/leading/leading/Role;" v) : own_M l (⟨"com/example/leading/leading/Line", "role", "()Lcom/example/leading/leading/Role;"⟩ : MethodName) prog_17_method_11_code 1 (some (.object "com/example/leading/leading/Role")) [] ({ frames := 0, cells := 0, slots := 0, locals := 0 } : Room) Z #[.ref a] h0 (Qv (some v) h0) := by
  refine own_met plg3 (Lf := #[.val (.ref a)]) (fun m => by first | (simp [entryFrame, mkF, argsToLocals, Value.category]; done) | rfl) ?_
  intro p e s m below meth c T Y
  refine own_aloadN 1 Y dg3_0 rfl rfl rfl ?_
  refine own_getF 4 Y (host := "") (Or.inl (own_wd hw 59 rfl)) Via.refl F dg3_1 rfl fun T2 Y1 => ?_
  exact own_retA Y1 rfl rfl hv dg3_4 (by decide) (by decide) ⟨rfl, rfl, rfl⟩
def Qc_ini (Z : State) (a : Addr) (v0 : Value) (v1 : Value) (v2 : Value) (v3 : Value) (h0 : Heap) (n0 : Nat) (v : Option Value) (h : Heap) (L : List Loc) : Prop := v = none ∧ Keep h0 h [a] ∧ Fr n0 L ∧ Exa Z h a "com/example/leading/leading/Line" ∧ Fld Z h a "com/example/leading/leading/Line" "words" "Ljava/util/List;" v0 ∧ Fld Z h a "com/example/leading/leading/Line" "box" "Lcom/example/leading/leading/Box;" v1 ∧ Fld Z h a "com/example/leading/leading/Line" "direction" "Lcom/example/leading/leading/Direction;" v2 ∧ Fld Z h a "com/example/leading/leading/Line" "role" "Lcom/example/leading/leading/Role;" v3
set_option maxRecDepth 65536 in
set_option maxHeartbeats 4000000 in
theorem c_ini (l : Launch) (Z : State) (a0 : Array Value) (hw : ∀ d ∈ tables_1, d.before a0 Z = true) (a : Addr) (v0 : Value) (hv0 : v0.isRef = true) (v1 : Value) (hv1 : v1.isRef = true) (v2 : Value) (hv2 : v2.isRef = true) (v3 : Value) (hv3 : v3.isRef = true) (h0 : Heap) (n0 : Nat) (ga : n0 ≤ a) (u0 : Value) (u1 : Value) (u2 : Value) (u3 : Value) (X_a : Exa Z h0 a "com/example/leading/leading/Line") (F_a_words : Fld Z h0 a "com/example/leading/leading/Line" "words" "Ljava/util/List;" u0) (F_a_box : Fld Z h0 a "com/example/leading/leading/Line" "box" "Lcom/example/leading/leading/Box;" u1) (F_a_direction : Fld Z h0 a "com/example/leading/leading/Line" "direction" "Lcom/example/leading/leading/Direction;" u2) (F_a_role : Fld Z h0 a "com/example/leading/leading/Line" "role" "Lcom/example/leading/leading/Role;" u3) : own_M l (⟨"com/example/leading/leading/Line", "<init>", "(Ljava/util/List;Lcom/example/leading/leading/Box;Lcom/example/leading/leading/Direction;Lcom/example/leading/leading/Role;)V"⟩ : MethodName) prog_17_method_1_code 5 none [] ({ frames := 2, cells := 0, slots := 0, locals := 24 } : Room) Z #[.ref a, v0, v1, v2, v3] h0 (Qc_ini Z a v0 v1 v2 v3 h0 n0) := by
  refine own_met pl3 (Lf := #[.val (.ref a), .val v0, .val v1, .val v2, .val v3]) (fun m => by rcases ref_cases hv0 with rfl | ⟨_, rfl⟩ <;> rcases ref_cases hv1 with rfl | ⟨_, rfl⟩ <;> rcases ref_cases hv2 with rfl | ⟨_, rfl⟩ <;> rcases ref_cases hv3 with rfl | ⟨_, rfl⟩ <;> rfl) ?_
  intro p e s m below meth c T Y
  have Kp := Keep.refl h0 [a]
  have N := Fr.nil n0
  refine own_aloadN 1 Y d3_0 rfl rfl rfl ?_
  refine own_callI 4 Y [] [] rfl (own_wd hw 47 rfl) (own_wd hw 48 rfl) (own_wd hw 50 rfl) (own_wd hw 51 rfl) (c_rec l Z a0 hw a h0) d3_1 (by decide) (lenOf pd4 rfl) rfl rfl (by decide) (Nat.le_of_ble_eq_true rfl) (by decide) (by decide) rfl fun v1 T1 h1 L1 Y1 hQ1 => ?_
  obtain ⟨rfl, rfl, rfl⟩ := hQ1
  have N := N.app (Fr.nil n0)
  show own_G p e below _ (T1.setTop (mkF m 4 #[.val (.ref a), .val v0, .val v1, .val v2, .val v3] []))
  refine own_aloadN 5 Y1 d3_4 rfl rfl rfl ?_
  refine own_aloadN 6 Y1 d3_5 rfl hv0 rfl ?_
  refine own_putF 9 Y1 (host := "") (Or.inl (own_wd hw 53 rfl)) Via.refl F_a_words X_a (Or.inr ⟨(own_wd hw 54 rfl), rfl, rfl⟩) (own_wd hw 42 rfl) (ty := (.object "java/util/List")) (by decide) (own_fitR hv0).1 (own_fitR hv0).2 d3_6 rfl fun T2 h2 Y2 W2 => ?_
  have X_a := X_a.wr W2
  have F_a_words := F_a_words.same W2
  have F_a_box := F_a_box.other W2 (Or.inr (slot_ne (Or.inr (own_wd hw 56 rfl)) (Or.inr (own_wd hw 54 rfl)) (by decide) (t := (.object "com/example/leading/leading/Box")) (t' := (.object "java/util/List")) (by decide) (by decide)))
  have F_a_direction := F_a_direction.other W2 (Or.inr (slot_ne (Or.inr (own_wd hw 58 rfl)) (Or.inr (own_wd hw 54 rfl)) (by decide) (t := (.object "com/example/leading/leading/Direction")) (t' := (.object "java/util/List")) (by decide) (by decide)))
  have F_a_role := F_a_role.other W2 (Or.inr (slot_ne (Or.inr (own_wd hw 60 rfl)) (Or.inr (own_wd hw 54 rfl)) (by decide) (t := (.object "com/example/leading/leading/Role")) (t' := (.object "java/util/List")) (by decide) (by decide)))
  have Kp := Kp.wr W2 (Or.inl (List.mem_of_getElem? (i := 0) rfl))
  have N := own_frY Y2 N ga
  refine own_aloadN 10 Y2 d3_9 rfl rfl rfl ?_
  refine own_aloadN 11 Y2 d3_10 rfl hv1 rfl ?_
  refine own_putF 14 Y2 (host := "") (Or.inl (own_wd hw 55 rfl)) Via.refl F_a_box X_a (Or.inr ⟨(own_wd hw 56 rfl), rfl, rfl⟩) (own_wd hw 42 rfl) (ty := (.object "com/example/leading/leading/Box")) (by decide) (own_fitR hv1).1 (own_fitR hv1).2 d3_11 rfl fun T3 h3 Y3 W3 => ?_
  have X_a := X_a.wr W3
  have F_a_words := F_a_words.other W3 (Or.inr (slot_ne (Or.inr (own_wd hw 54 rfl)) (Or.inr (own_wd hw 56 rfl)) (by decide) (t := (.object "java/util/List")) (t' := (.object "com/example/leading/leading/Box")) (by decide) (by decide)))
  have F_a_box := F_a_box.same W3
  have F_a_direction := F_a_direction.other W3 (Or.inr (slot_ne (Or.inr (own_wd hw 58 rfl)) (Or.inr (own_wd hw 56 rfl)) (by decide) (t := (.object "com/example/leading/leading/Direction")) (t' := (.object "com/example/leading/leading/Box")) (by decide) (by decide)))
  have F_a_role := F_a_role.other W3 (Or.inr (slot_ne (Or.inr (own_wd hw 60 rfl)) (Or.inr (own_wd hw 56 rfl)) (by decide) (t := (.object "com/example/leading/leading/Role")) (t' := (.object "com/example/leading/leading/Box")) (by decide) (by decide)))
  have Kp := Kp.wr W3 (Or.inl (List.mem_of_getElem? (i := 0) rfl))
  have N := own_frY Y3 N ga
  refine own_aloadN 15 Y3 d3_14 rfl rfl rfl ?_
  refine own_aloadN 16 Y3 d3_15 rfl hv2 rfl ?_
  refine own_putF 19 Y3 (host := "") (Or.inl (own_wd hw 57 rfl)) Via.refl F_a_direction X_a (Or.inr ⟨(own_wd hw 58 rfl), rfl, rfl⟩) (own_wd hw 42 rfl) (ty := (.object "com/example/leading/leading/Direction")) (by decide) (own_fitR hv2).1 (own_fitR hv2).2 d3_16 rfl fun T4 h4 Y4 W4 => ?_
  have X_a := X_a.wr W4
  have F_a_words := F_a_words.other W4 (Or.inr (slot_ne (Or.inr (own_wd hw 54 rfl)) (Or.inr (own_wd hw 58 rfl)) (by decide) (t := (.object "java/util/List")) (t' := (.object "com/example/leading/leading/Direction")) (by decide) (by decide)))
  have F_a_box := F_a_box.other W4 (Or.inr (slot_ne (Or.inr (own_wd hw 56 rfl)) (Or.inr (own_wd hw 58 rfl)) (by decide) (t := (.object "com/example/leading/leading/Box")) (t' := (.object "com/example/leading/leading/Direction")) (by decide) (by decide)))
  have F_a_direction := F_a_direction.same W4
  have F_a_role := F_a_role.other W4 (Or.inr (slot_ne (Or.inr (own_wd hw 60 rfl)) (Or.inr (own_wd hw 58 rfl)) (by decide) (t := (.object "com/example/leading/leading/Role")) (t' := (.object "com/example/leading/leading/Direction")) (by decide) (by decide)))
  have Kp := Kp.wr W4 (Or.inl (List.mem_of_getElem? (i := 0) rfl))
  have N := own_frY Y4 N ga
  refine own_aloadN 20 Y4 d3_19 rfl rfl rfl ?_
  refine own_aload 22 Y4 d3_20 rfl hv3 rfl ?_
  refine own_putF 25 Y4 (host := "") (Or.inl (own_wd hw 59 rfl)) Via.refl F_a_role X_a (Or.inr ⟨(own_wd hw 60 rfl), rfl, rfl⟩) (own_wd hw 42 rfl) (ty := (.object "com/example/leading/leading/Role")) (by decide) (own_fitR hv3).1 (own_fitR hv3).2 d3_22 rfl fun T5 h5 Y5 W5 => ?_
  have X_a := X_a.wr W5
  have F_a_words := F_a_words.other W5 (Or.inr (slot_ne (Or.inr (own_wd hw 54 rfl)) (Or.inr (own_wd hw 60 rfl)) (by decide) (t := (.object "java/util/List")) (t' := (.object "com/example/leading/leading/Role")) (by decide) (by decide)))
  have F_a_box := F_a_box.other W5 (Or.inr (slot_ne (Or.inr (own_wd hw 56 rfl)) (Or.inr (own_wd hw 60 rfl)) (by decide) (t := (.object "com/example/leading/leading/Box")) (t' := (.object "com/example/leading/leading/Role")) (by decide) (by decide)))
  have F_a_direction := F_a_direction.other W5 (Or.inr (slot_ne (Or.inr (own_wd hw 58 rfl)) (Or.inr (own_wd hw 60 rfl)) (by decide) (t := (.object "com/example/leading/leading/Direction")) (t' := (.object "com/example/leading/leading/Role")) (by decide) (by decide)))
  have F_a_role := F_a_role.same W5
  have Kp := Kp.wr W5 (Or.inl (List.mem_of_getElem? (i := 0) rfl))
  have N := own_frY Y5 N ga
  exact own_retV Y5 rfl d3_25 (by decide) (by decide) ⟨rfl, Kp, N, X_a, F_a_words, F_a_box, F_a_direction, F_a_role⟩
def Qal (Z : State) (a : Addr) (u2 : Value) (h0 : Heap) (n0 : Nat) (v : Option Value) (h : Heap) (L : List Loc) : Prop := v = none ∧ Keep h0 h [a] ∧ Fr n0 L ∧ Exa Z h a "java/util/ArrayList" ∧ Fld Z h a "java/util/AbstractList" "modCount" "I" (.int (0 : Int32)) ∧ Fld Z h a "java/util/ArrayList" "elementData" "[Ljava/lang/Object;" u2
set_option maxRecDepth 65536 in
set_option maxHeartbeats 4000000 in
theorem c_alist (l : Launch) (Z : State) (a0 : Array Value) (hw : ∀ d ∈ tables_1, d.before a0 Z = true) (a : Addr) (h0 : Heap) (n0 : Nat) (ga : n0 ≤ a) (u1 u2 : Value) (X_a : Exa Z h0 a "java/util/ArrayList") (F_a_modCount : Fld Z h0 a "java/util/AbstractList" "modCount" "I" u1) (F_a_elementData : Fld Z h0 a "java/util/ArrayList" "elementData" "[Ljava/lang/Object;" u2) : own_M l (⟨"java/util/AbstractList", "<init>", "()V"⟩ : MethodName) jdk_39_method_1_code 1 none [] ({ frames := 2, cells := 0, slots := 0, locals := 24 } : Room) Z #[.ref a] h0 (Qal Z a u2 h0 n0) := by
  refine own_met pl7 (Lf := #[.val (.ref a)]) (fun m => by first | (simp [entryFrame, mkF, argsToLocals, Value.category]; done) | rfl) ?_
  intro p e s m below meth c T Y
  have Kp := Keep.refl h0 [a]
  have N := Fr.nil n0
  refine own_aloadN 1 Y d7_0 rfl rfl rfl ?_
  refine own_callI 4 Y [] [] rfl (own_wd hw 12 rfl) (own_wd hw 13 rfl) (own_wd hw 16 rfl) (own_wd hw 17 rfl) (c_acol l Z a0 hw a h0) d7_1 (by decide) (lenOf pd6 rfl) rfl rfl (by decide) (Nat.le_of_ble_eq_true rfl) (by decide) (by decide) rfl fun v1 T1 h1 L1 Y1 hQ1 => ?_
  obtain ⟨rfl, rfl, rfl⟩ := hQ1
  have N := N.app (Fr.nil n0)
  show own_G p e below _ (T1.setTop (mkF m 4 #[.val (.ref a)] []))
  refine own_aloadN 5 Y1 d7_4 rfl rfl rfl ?_
  refine own_iconst 6 Y1 (0 : Int32) d7_5 rfl rfl ?_
  refine own_putF 9 Y1 (host := "") (Or.inl (own_wd hw 21 rfl)) Via.refl F_a_modCount X_a (Or.inl (own_wd hw 22 rfl)) (own_wd hw 1 rfl) (ty := .int) (by decide) rfl rfl d7_6 rfl fun T2 h2 Y2 W2 => ?_
  have X_a := X_a.wr W2
  have F_a_modCount := F_a_modCount.same W2
  have F_a_elementData := F_a_elementData.other W2 (Or.inr (slot_ne (Or.inl (own_wd hw 25 rfl)) (Or.inl (own_wd hw 22 rfl)) (by decide) (t := (.array (.object "java/lang/Object"))) (t' := .int) (by decide) (by decide)))
  have Kp := Kp.wr W2 (Or.inl (List.mem_of_getElem? (i := 0) rfl))
  have N := own_frY Y2 N ga
  exact own_retV Y2 rfl d7_9 (by decide) (by decide) ⟨rfl, Kp, N, X_a, F_a_modCount, F_a_elementData⟩
def Qarl (Z : State) (a : Addr) (h0 : Heap) (n0 : Nat) (v : Option Value) (h : Heap) (L : List Loc) : Prop := v = none ∧ Keep h0 h [a] ∧ Fr n0 L
set_option maxRecDepth 65536 in
set_option maxHeartbeats 4000000 in
theorem c_arl (l : Launch) (Z : State) (a0 : Array Value) (hw : ∀ d ∈ tables_1, d.before a0 Z = true) (a : Addr) (h0 : Heap) (n0 : Nat) (ga : n0 ≤ a) (u1 u2 : Value) (X_a : Exa Z h0 a "java/util/ArrayList") (F_a_modCount : Fld Z h0 a "java/util/AbstractList" "modCount" "I" u1) (F_a_elementData : Fld Z h0 a "java/util/ArrayList" "elementData" "[Ljava/lang/Object;" u2) (u : Value) (hu : u.isRef = true) (O : Old Z n0 h0) (Sd : Sta Z Z.heap "java/util/ArrayList" "DEFAULTCAPACITY_EMPTY_ELEMENTDATA" "[Ljava/lang/Object;" u) : own_M l (⟨"java/util/ArrayList", "<init>", "()V"⟩ : MethodName) jdk_38_method_2_code 1 none [] ({ frames := 3, cells := 0, slots := 0, locals := 36 } : Room) Z #[.ref a] h0 (Qarl Z a h0 n0) := by
  refine own_met pl8 (Lf := #[.val (.ref a)]) (fun m => by first | (simp [entryFrame, mkF, argsToLocals, Value.category]; done) | rfl) ?_
  intro p e s m below meth c T Y
  have Kp := Keep.refl h0 [a]
  have N := Fr.nil n0
  refine own_aloadN 1 Y d8_0 rfl rfl rfl ?_
  refine own_callI 4 Y [] [] rfl (own_wd hw 6 rfl) (own_wd hw 7 rfl) (own_wd hw 10 rfl) (own_wd hw 11 rfl) (c_alist l Z a0 hw a _ n0 ga _ _ X_a F_a_modCount F_a_elementData) d8_1 (by decide) (lenOf pd7 rfl) rfl rfl (by decide) (Nat.le_of_ble_eq_true rfl) (by decide) (by decide) rfl fun v1 T1 h1 L1 Y1 hQ1 => ?_
  obtain ⟨rfl, K1, N1, X_a, F_a_modCount, F_a_elementData⟩ := hQ1
  have Kp := Kp.trans K1 (allS (Or.inl (List.mem_of_getElem? (i := 0) rfl)) all0)
  have O := O.keep K1 (allS ga all0)
  have N := N.app N1
  show own_G p e below _ (T1.setTop (mkF m 4 #[.val (.ref a)] []))
  refine own_aloadN 5 Y1 d8_4 rfl rfl rfl ?_
  refine own_getS 8 Y1 (host := "") (Or.inl (own_wd hw 23 rfl)) Via.refl (Sd.ext O.2) d8_5 rfl fun T3 Y2 => ?_
  refine own_putF 11 Y2 (host := "") (Or.inl (own_wd hw 24 rfl)) Via.refl F_a_elementData X_a (Or.inl (own_wd hw 25 rfl)) (own_wd hw 1 rfl) (ty := (.array (.object "java/lang/Object"))) (by decide) (own_fitA hu).1 (own_fitA hu).2 d8_8 rfl fun T4 h4 Y4 W4 => ?_
  have X_a := X_a.wr W4
  have F_a_modCount := F_a_modCount.other W4 (Or.inr (slot_ne (Or.inl (own_wd hw 22 rfl)) (Or.inl (own_wd hw 25 rfl)) (by decide) (t := .int) (t' := (.array (.object "java/lang/Object"))) (by decide) (by decide)))
  have F_a_elementData := F_a_elementData.same W4
  have Kp := Kp.wr W4 (Or.inl (List.mem_of_getElem? (i := 0) rfl))
  have N := own_frY Y4 N ga
  have O := O.wr W4 ga
  exact own_retV Y4 rfl d8_11 (by decide) (by decide) ⟨rfl, Kp, N⟩
def Qas (Z : State) (v0 : Value) (v1 : Value) (v2 : Value) (v3 : Value) (h0 : Heap) (n0 : Nat) (v : Option Value) (h : Heap) (L : List Loc) : Prop := ∃ x : Addr, v = some (.ref x) ∧ h0.size ≤ x ∧ Keep h0 h [] ∧ Fr n0 L ∧ Exa Z h x "com/example/leading/leading/Line" ∧ Fld Z h x "com/example/leading/leading/Line" "words" "Ljava/util/List;" v0 ∧ Fld Z h x "com/example/leading/leading/Line" "box" "Lcom/example/leading/leading/Box;" v1 ∧ Fld Z h x "com/example/leading/leading/Line" "direction" "Lcom/example/leading/leading/Direction;" v2 ∧ Fld Z h x "com/example/leading/leading/Line" "role" "Lcom/example/leading/leading/Role;" v3
set_option maxRecDepth 65536 in
set_option maxHeartbeats 4000000 in
theorem c_as (l : Launch) (Z : State) (a0 : Array Value) (hw : ∀ d ∈ tables_1, d.before a0 Z = true) (a : Addr) (v0 : Value) (hv0 : v0.isRef = true) (v1 : Value) (hv1 : v1.isRef = true) (v2 : Value) (hv2 : v2.isRef = true) (v3 : Value) (hv3 : v3.isRef = true) (h0 : Heap) (n0 : Nat) (Zs : n0 ≤ h0.size) (F_a_words : Fld Z h0 a "com/example/leading/leading/Line" "words" "Ljava/util/List;" v0) (F_a_box : Fld Z h0 a "com/example/leading/leading/Line" "box" "Lcom/example/leading/leading/Box;" v1) (F_a_direction : Fld Z h0 a "com/example/leading/leading/Line" "direction" "Lcom/example/leading/leading/Direction;" v2) : own_M l (⟨"com/example/leading/leading/Line", "as", "(Lcom/example/leading/leading/Role;)Lcom/example/leading/leading/Line;"⟩ : MethodName) prog_17_method_4_code 2 (some (.object "com/example/leading/leading/Line")) [] ({ frames := 3, cells := 1, slots := 4, locals := 60 } : Room) Z #[.ref a, v3] h0 (Qas Z v0 v1 v2 v3 h0 n0) := by
  refine own_met pl5 (Lf := #[.val (.ref a), .val v3]) (fun m => by rcases ref_cases hv3 with rfl | ⟨_, rfl⟩ <;> rfl) ?_
  intro p e s m below meth c T Y
  have Kp := Keep.refl h0 []
  have N := Fr.nil n0
  refine own_newO 3 Y (own_wd hw 66 rfl) (own_wd hw 42 rfl) (own_wd hw 43 rfl) d5_0 (by decide) (by decide) rfl fun T1 h1 x Y1 g_x E1 X_x D1 => ?_
  have ne_a_x : a ≠ x := by rw [g_x]; exact Nat.ne_of_lt F_a_words.lt
  have gk_x := Nat.le_trans Kp.1 (Nat.le_of_eq g_x.symm)
  have gn_x : n0 ≤ x := by rw [g_x]; exact Zs
  have F_a_words := F_a_words.ext E1
  have F_a_box := F_a_box.ext E1
  have F_a_direction := F_a_direction.ext E1
  have Kp := Kp.ext E1
  have Zs := Nat.le_trans Zs E1.1
  have F_x_words := D1 (Or.inr (own_wd hw 54 rfl)) (ty := (.object "java/util/List")) (by decide)
  have F_x_box := D1 (Or.inr (own_wd hw 56 rfl)) (ty := (.object "com/example/leading/leading/Box")) (by decide)
  have F_x_direction := D1 (Or.inr (own_wd hw 58 rfl)) (ty := (.object "com/example/leading/leading/Direction")) (by decide)
  have F_x_role := D1 (Or.inr (own_wd hw 60 rfl)) (ty := (.object "com/example/leading/leading/Role")) (by decide)
  refine own_dup 4 Y1 d5_3 rfl rfl ?_
  refine own_aloadN 5 Y1 d5_4 rfl rfl rfl ?_
  refine own_getF 8 Y1 (host := "") (Or.inl (own_wd hw 53 rfl)) Via.refl F_a_words d5_5 rfl fun T3 Y2 => ?_
  refine own_aloadN 9 Y2 d5_8 rfl rfl rfl ?_
  refine own_getF 12 Y2 (host := "") (Or.inl (own_wd hw 55 rfl)) Via.refl F_a_box d5_9 rfl fun T5 Y4 => ?_
  refine own_aloadN 13 Y4 d5_12 rfl rfl rfl ?_
  refine own_getF 16 Y4 (host := "") (Or.inl (own_wd hw 57 rfl)) Via.refl F_a_direction d5_13 rfl fun T7 Y6 => ?_
  refine own_aloadN 17 Y6 d5_16 rfl hv3 rfl ?_
  refine own_callI 20 Y6 [v0, v1, v2, v3] [(.ref x)] rfl (own_wd hw 67 rfl) (own_wd hw 45 rfl) (own_wd hw 43 rfl) (own_wd hw 46 rfl) (c_ini l Z a0 hw x v0 hv0 v1 hv1 v2 hv2 v3 hv3 _ n0 gn_x _ _ _ _ X_x F_x_words F_x_box F_x_direction F_x_role) d5_17 (by decide) (lenOf pd3 rfl) rfl rfl (by decide) (Nat.le_of_ble_eq_true rfl) (by decide) (by decide) rfl fun v8 T8 h8 L8 Y8 hQ8 => ?_
  obtain ⟨rfl, K8, N8, G8, G8_0, G8_1, G8_2, G8_3⟩ := hQ8
  have F_a_words := F_a_words.keep K8 (ninS ne_a_x nin0)
  have F_a_box := F_a_box.keep K8 (ninS ne_a_x nin0)
  have F_a_direction := F_a_direction.keep K8 (ninS ne_a_x nin0)
  have Kp := Kp.trans K8 (allS (Or.inr gk_x) all0)
  have N := N.app N8
  have Zs := Nat.le_trans Zs K8.1
  have X_x := G8
  have F_x_words := G8_0
  have F_x_box := G8_1
  have F_x_direction := G8_2
  have F_x_role := G8_3
  show own_G p e below _ (T8.setTop (mkF m 20 #[.val (.ref a), .val v3] [(.ref x)]))
  exact own_retA Y8 rfl rfl rfl d5_20 (by decide) (by decide) ⟨x, rfl, gk_x, Kp, N, X_x, F_x_words, F_x_box, F_x_direction, F_x_role⟩
def Q0 (n0 : Nat) (v : Option Value) (h : Heap) (L : List Loc) : Prop := v = some (.int 1) ∧ Fr n0 L
set_option maxRecDepth 65536 in
set_option maxHeartbeats 4000000 in
theorem c_law (l : Launch) (Z : State) (a0 : Array Value) (hw : ∀ d ∈ tables_1, d.before a0 Z = true) (x0 x1 x2 : Int32) (br0 br1 br2 br3 bd0 bd1 bd2 bd3 : Addr) (h0 : Heap) (n0 : Nat) (Zs : n0 ≤ h0.size) (O : Old Z n0 h0) (u : Value) (hu : u.isRef = true) (Sd : Sta Z Z.heap "java/util/ArrayList" "DEFAULTCAPACITY_EMPTY_ELEMENTDATA" "[Ljava/lang/Object;" u) (Sr0 : Sta Z Z.heap "com/example/leading/leading/Role" "BODY" "Lcom/example/leading/leading/Role;" (.ref br0)) (Sr1 : Sta Z Z.heap "com/example/leading/leading/Role" "HEADER" "Lcom/example/leading/leading/Role;" (.ref br1)) (Sr2 : Sta Z Z.heap "com/example/leading/leading/Role" "FOOTER" "Lcom/example/leading/leading/Role;" (.ref br2)) (Sr3 : Sta Z Z.heap "com/example/leading/leading/Role" "MARGIN" "Lcom/example/leading/leading/Role;" (.ref br3)) (Sd0 : Sta Z Z.heap "com/example/leading/leading/Direction" "RIGHT" "Lcom/example/leading/leading/Direction;" (.ref bd0)) (Sd1 : Sta Z Z.heap "com/example/leading/leading/Direction" "UP" "Lcom/example/leading/leading/Direction;" (.ref bd1)) (Sd2 : Sta Z Z.heap "com/example/leading/leading/Direction" "LEFT" "Lcom/example/leading/leading/Direction;" (.ref bd2)) (Sd3 : Sta Z Z.heap "com/example/leading/leading/Direction" "DOWN" "Lcom/example/leading/leading/Direction;" (.ref bd3)) : own_M l x code maxLocals ret tables_1 room_1 Z #[.int x0, .int x1, .int x2] h0 (Q0 n0) := by
  refine own_met pl0 (Lf := #[.val (.int x0), .val (.int x1), .val (.int x2), .unset, .unset, .unset, .unset, .unset, .unset]) (fun m => by first | (simp [entryFrame, mkF, argsToLocals, Value.category, maxLocals]; done) | rfl) ?_
  intro p e s m below meth c T Y
  have N := Fr.nil n0
  refine own_newO 3 Y (own_wd hw 0 rfl) (own_wd hw 1 rfl) (own_wd hw 2 rfl) at_0 (by decide) (by decide) rfl fun T1 h1 w Y1 g_w E1 X_w D1 => ?_
  have gn_w : n0 ≤ w := by rw [g_w]; exact Zs
  have Zs := Nat.le_trans Zs E1.1
  have O := O.ext E1
  have F_w_modCount := D1 (Or.inl (own_wd hw 22 rfl)) (ty := .int) (by decide)
  have F_w_elementData := D1 (Or.inl (own_wd hw 25 rfl)) (ty := (.array (.object "java/lang/Object"))) (by decide)
  refine own_dup 4 Y1 at_3 rfl rfl ?_
  refine own_callI 7 Y1 [] [(.ref w)] rfl (own_wd hw 3 rfl) (own_wd hw 4 rfl) (own_wd hw 2 rfl) (own_wd hw 5 rfl) (c_arl l Z a0 hw w _ n0 gn_w _ _ X_w F_w_modCount F_w_elementData u hu O Sd) at_4 (by decide) (lenOf pd8 rfl) rfl rfl (by decide) (Nat.le_of_ble_eq_true rfl) (by decide) (by decide) rfl fun v2 T2 h2 L2 Y2 hQ2 => ?_
  obtain ⟨rfl, K2, N2⟩ := hQ2
  have N := N.app N2
  have Zs := Nat.le_trans Zs K2.1
  have O := O.keep K2 (allS gn_w all0)
  show own_G p e below _ (T2.setTop (mkF m 7 #[.val (.int x0), .val (.int x1), .val (.int x2), .unset, .unset, .unset, .unset, .unset, .unset] [(.ref w)]))
  refine own_astoreN 8 Y2 #[.val (.int x0), .val (.int x1), .val (.int x2), .val (.ref w), .unset, .unset, .unset, .unset, .unset] at_7 rfl rfl rfl ?_
  refine own_iloadN 9 Y2 at_8 rfl rfl ?_
  refine own_callS 12 Y2 [(.int x0)] [] (own_wd hw 26 rfl) (own_wd hw 27 rfl) (own_wd hw 28 rfl) (own_wd hw 29 rfl) (c_role l Z a0 hw x0 _ _ _ _ _ (Sr0.ext O.2) (Sr1.ext O.2) (Sr2.ext O.2) (Sr3.ext O.2)) at_9 (by decide) (lenOf pd1 rfl) rfl rfl (by decide) (Nat.le_of_ble_eq_true rfl) (by decide) (by decide) rfl fun v3 T3 h3 L3 Y3 hQ3 => ?_
  obtain ⟨rfl, rfl, before, rfl⟩ := hQ3
  have N := N.app (Fr.nil n0)
  show own_G p e below _ (T3.setTop (mkF m 12 #[.val (.int x0), .val (.int x1), .val (.int x2), .val (.ref w), .unset, .unset, .unset, .unset, .unset] [(.ref before)]))
  refine own_astore 14 Y3 #[.val (.int x0), .val (.int x1), .val (.int x2), .val (.ref w), .val (.ref before), .unset, .unset, .unset, .unset] at_12 rfl rfl rfl ?_
  refine own_iloadN 15 Y3 at_14 rfl rfl ?_
  refine own_callS 18 Y3 [(.int x1)] [] (own_wd hw 26 rfl) (own_wd hw 27 rfl) (own_wd hw 28 rfl) (own_wd hw 29 rfl) (c_role l Z a0 hw x1 _ _ _ _ _ (Sr0.ext O.2) (Sr1.ext O.2) (Sr2.ext O.2) (Sr3.ext O.2)) at_15 (by decide) (lenOf pd1 rfl) rfl rfl (by decide) (Nat.le_of_ble_eq_true rfl) (by decide) (by decide) rfl fun v4 T4 h4 L4 Y4 hQ4 => ?_
  obtain ⟨rfl, rfl, given, rfl⟩ := hQ4
  have N := N.app (Fr.nil n0)
  show own_G p e below _ (T4.setTop (mkF m 18 #[.val (.int x0), .val (.int x1), .val (.int x2), .val (.ref w), .val (.ref before), .unset, .unset, .unset, .unset] [(.ref given)]))
  refine own_astore 20 Y4 #[.val (.int x0), .val (.int x1), .val (.int x2), .val (.ref w), .val (.ref before), .val (.ref given), .unset, .unset, .unset] at_18 rfl rfl rfl ?_
  refine own_iloadN 21 Y4 at_20 rfl rfl ?_
  refine own_callS 24 Y4 [(.int x2)] [] (own_wd hw 35 rfl) (own_wd hw 36 rfl) (own_wd hw 28 rfl) (own_wd hw 37 rfl) (c_dir l Z a0 hw x2 _ _ _ _ _ (Sd0.ext O.2) (Sd1.ext O.2) (Sd2.ext O.2) (Sd3.ext O.2)) at_21 (by decide) (lenOf pd2 rfl) rfl rfl (by decide) (Nat.le_of_ble_eq_true rfl) (by decide) (by decide) rfl fun v5 T5 h5 L5 Y5 hQ5 => ?_
  obtain ⟨rfl, rfl, direc, rfl⟩ := hQ5
  have N := N.app (Fr.nil n0)
  show own_G p e below _ (T5.setTop (mkF m 24 #[.val (.int x0), .val (.int x1), .val (.int x2), .val (.ref w), .val (.ref before), .val (.ref given), .unset, .unset, .unset] [(.ref direc)]))
  refine own_astore 26 Y5 #[.val (.int x0), .val (.int x1), .val (.int x2), .val (.ref w), .val (.ref before), .val (.ref given), .val (.ref direc), .unset, .unset] at_24 rfl rfl rfl ?_
  refine own_newO 29 Y5 (own_wd hw 41 rfl) (own_wd hw 42 rfl) (own_wd hw 43 rfl) at_26 (by decide) (by decide) rfl fun T6 h6 o Y6 g_o E6 X_o D6 => ?_
  have gn_o : n0 ≤ o := by rw [g_o]; exact Zs
  have Zs := Nat.le_trans Zs E6.1
  have O := O.ext E6
  have F_o_words := D6 (Or.inr (own_wd hw 54 rfl)) (ty := (.object "java/util/List")) (by decide)
  have F_o_box := D6 (Or.inr (own_wd hw 56 rfl)) (ty := (.object "com/example/leading/leading/Box")) (by decide)
  have F_o_direction := D6 (Or.inr (own_wd hw 58 rfl)) (ty := (.object "com/example/leading/leading/Direction")) (by decide)
  have F_o_role := D6 (Or.inr (own_wd hw 60 rfl)) (ty := (.object "com/example/leading/leading/Role")) (by decide)
  refine own_dup 30 Y6 at_29 rfl rfl ?_
  refine own_aloadN 31 Y6 at_30 rfl rfl rfl ?_
  refine own_aconst_null 32 Y6 at_31 rfl ?_
  refine own_aload 34 Y6 at_32 rfl rfl rfl ?_
  refine own_aload 36 Y6 at_34 rfl rfl rfl ?_
  refine own_callI 39 Y6 [(.ref w), .null, (.ref direc), (.ref before)] [(.ref o)] rfl (own_wd hw 44 rfl) (own_wd hw 45 rfl) (own_wd hw 43 rfl) (own_wd hw 46 rfl) (c_ini l Z a0 hw o (.ref w) rfl .null rfl (.ref direc) rfl (.ref before) rfl _ n0 gn_o _ _ _ _ X_o F_o_words F_o_box F_o_direction F_o_role) at_36 (by decide) (lenOf pd3 rfl) rfl rfl (by decide) (Nat.le_of_ble_eq_true rfl) (by decide) (by decide) rfl fun v7 T7 h7 L7 Y7 hQ7 => ?_
  obtain ⟨rfl, K7, N7, G7, G7_0, G7_1, G7_2, G7_3⟩ := hQ7
  have N := N.app N7
  have Zs := Nat.le_trans Zs K7.1
  have O := O.keep K7 (allS gn_o all0)
  have X_o := G7
  have F_o_words := G7_0
  have F_o_box := G7_1
  have F_o_direction := G7_2
  have F_o_role := G7_3
  show own_G p e below _ (T7.setTop (mkF m 39 #[.val (.int x0), .val (.int x1), .val (.int x2), .val (.ref w), .val (.ref before), .val (.ref given), .val (.ref direc), .unset, .unset] [(.ref o)]))
  refine own_astore 41 Y7 #[.val (.int x0), .val (.int x1), .val (.int x2), .val (.ref w), .val (.ref before), .val (.ref given), .val (.ref direc), .val (.ref o), .unset] at_39 rfl rfl rfl ?_
  refine own_aload 43 Y7 at_41 rfl rfl rfl ?_
  refine own_aload 45 Y7 at_43 rfl rfl rfl ?_
  refine own_callV 48 Y7 [(.ref given)] [] X_o (own_wd hw 61 rfl) (own_wd hw 62 rfl) (notFace_of_selects (args := #[]) (mvT Y7.warm (own_wd hw 64 rfl))) (own_wd hw 64 rfl) (own_wd hw 63 rfl) (own_wd hw 43 rfl) (own_wd hw 65 rfl) (c_as l Z a0 hw o (.ref w) rfl .null rfl (.ref direc) rfl (.ref given) rfl _ n0 Zs F_o_words F_o_box F_o_direction) at_45 (by decide) (lenOf pd5 rfl) rfl rfl (by decide) (Nat.le_of_ble_eq_true rfl) (by decide) (by decide) rfl fun v8 T8 h8 L8 Y8 hQ8 => ?_
  obtain ⟨x, rfl, gx, K8, N8, X_x, F_x_words, F_x_box, F_x_direction, F_x_role⟩ := hQ8
  have N := N.app N8
  have Zs := Nat.le_trans Zs K8.1
  have O := O.keep K8 all0
  have X_o := X_o.keep K8
  have F_o_words := F_o_words.keep K8 nin0
  have F_o_box := F_o_box.keep K8 nin0
  have F_o_direction := F_o_direction.keep K8 nin0
  have F_o_role := F_o_role.keep K8 nin0
  show own_G p e below _ (T8.setTop (mkF m 48 #[.val (.int x0), .val (.int x1), .val (.int x2), .val (.ref w), .val (.ref before), .val (.ref given), .val (.ref direc), .val (.ref o), .unset] [(.ref x)]))
  refine own_astore 50 Y8 #[.val (.int x0), .val (.int x1), .val (.int x2), .val (.ref w), .val (.ref before), .val (.ref given), .val (.ref direc), .val (.ref o), .val (.ref x)] at_48 rfl rfl rfl ?_
  refine own_aload 52 Y8 at_50 rfl rfl rfl ?_
  refine own_ifnonnullT 57 Y8 at_52 (by decide) ?_
  refine own_aload 59 Y8 at_57 rfl rfl rfl ?_
  refine own_callV 62 Y8 [] [] X_x (own_wd hw 68 rfl) (own_wd hw 69 rfl) (notFace_of_selects (args := #[]) (mvT Y8.warm (own_wd hw 71 rfl))) (own_wd hw 71 rfl) (own_wd hw 70 rfl) (own_wd hw 43 rfl) (own_wd hw 72 rfl) (c_g3 l Z a0 hw x (.ref given) rfl _ F_x_role) at_59 (by decide) (lenOf pdg3 rfl) rfl rfl (by decide) (Nat.le_of_ble_eq_true rfl) (by decide) (by decide) rfl fun v9 T9 h9 L9 Y9 hQ9 => ?_
  obtain ⟨rfl, rfl, rfl⟩ := hQ9
  have N := N.app (Fr.nil n0)
  show own_G p e below _ (T9.setTop (mkF m 62 #[.val (.int x0), .val (.int x1), .val (.int x2), .val (.ref w), .val (.ref before), .val (.ref given), .val (.ref direc), .val (.ref o), .val (.ref x)] [(.ref given)]))
  refine own_aload 64 Y9 at_62 rfl rfl rfl ?_
  refine own_acmp 67 true Y9 at_64 rfl rfl (decide_eq_true rfl) (by decide) (by decide) ?_
  refine own_aload 69 Y9 at_67 rfl rfl rfl ?_
  refine own_callV 72 Y9 [] [] X_x (own_wd hw 73 rfl) (own_wd hw 74 rfl) (notFace_of_selects (args := #[]) (mvT Y9.warm (own_wd hw 76 rfl))) (own_wd hw 76 rfl) (own_wd hw 75 rfl) (own_wd hw 43 rfl) (own_wd hw 77 rfl) (c_g0 l Z a0 hw x (.ref w) rfl _ F_x_words) at_69 (by decide) (lenOf pdg0 rfl) rfl rfl (by decide) (Nat.le_of_ble_eq_true rfl) (by decide) (by decide) rfl fun v10 T10 h10 L10 Y10 hQ10 => ?_
  obtain ⟨rfl, rfl, rfl⟩ := hQ10
  have N := N.app (Fr.nil n0)
  show own_G p e below _ (T10.setTop (mkF m 72 #[.val (.int x0), .val (.int x1), .val (.int x2), .val (.ref w), .val (.ref before), .val (.ref given), .val (.ref direc), .val (.ref o), .val (.ref x)] [(.ref w)]))
  refine own_aloadN 73 Y10 at_72 rfl rfl rfl ?_
  refine own_acmp 76 true Y10 at_73 rfl rfl (decide_eq_true rfl) (by decide) (by decide) ?_
  refine own_aload 78 Y10 at_76 rfl rfl rfl ?_
  refine own_callV 81 Y10 [] [] X_x (own_wd hw 78 rfl) (own_wd hw 79 rfl) (notFace_of_selects (args := #[]) (mvT Y10.warm (own_wd hw 81 rfl))) (own_wd hw 81 rfl) (own_wd hw 80 rfl) (own_wd hw 43 rfl) (own_wd hw 82 rfl) (c_g1 l Z a0 hw x .null rfl _ F_x_box) at_78 (by decide) (lenOf pdg1 rfl) rfl rfl (by decide) (Nat.le_of_ble_eq_true rfl) (by decide) (by decide) rfl fun v11 T11 h11 L11 Y11 hQ11 => ?_
  obtain ⟨rfl, rfl, rfl⟩ := hQ11
  have N := N.app (Fr.nil n0)
  show own_G p e below _ (T11.setTop (mkF m 81 #[.val (.int x0), .val (.int x1), .val (.int x2), .val (.ref w), .val (.ref before), .val (.ref given), .val (.ref direc), .val (.ref o), .val (.ref x)] [.null]))
  refine own_ifnonnullF 84 Y11 at_81 rfl ?_
  refine own_aload 86 Y11 at_84 rfl rfl rfl ?_
  refine own_callV 89 Y11 [] [] X_x (own_wd hw 83 rfl) (own_wd hw 84 rfl) (notFace_of_selects (args := #[]) (mvT Y11.warm (own_wd hw 86 rfl))) (own_wd hw 86 rfl) (own_wd hw 85 rfl) (own_wd hw 43 rfl) (own_wd hw 87 rfl) (c_g2 l Z a0 hw x (.ref direc) rfl _ F_x_direction) at_86 (by decide) (lenOf pdg2 rfl) rfl rfl (by decide) (Nat.le_of_ble_eq_true rfl) (by decide) (by decide) rfl fun v12 T12 h12 L12 Y12 hQ12 => ?_
  obtain ⟨rfl, rfl, rfl⟩ := hQ12
  have N := N.app (Fr.nil n0)
  show own_G p e below _ (T12.setTop (mkF m 89 #[.val (.int x0), .val (.int x1), .val (.int x2), .val (.ref w), .val (.ref before), .val (.ref given), .val (.ref direc), .val (.ref o), .val (.ref x)] [(.ref direc)]))
  refine own_aload 91 Y12 at_89 rfl rfl rfl ?_
  refine own_acmp 94 true Y12 at_91 rfl rfl (decide_eq_true rfl) (by decide) (by decide) ?_
  refine own_aload 96 Y12 at_94 rfl rfl rfl ?_
  refine own_callV 99 Y12 [] [] X_o (own_wd hw 68 rfl) (own_wd hw 69 rfl) (notFace_of_selects (args := #[]) (mvT Y12.warm (own_wd hw 71 rfl))) (own_wd hw 71 rfl) (own_wd hw 70 rfl) (own_wd hw 43 rfl) (own_wd hw 72 rfl) (c_g3 l Z a0 hw o (.ref before) rfl _ F_o_role) at_96 (by decide) (lenOf pdg3 rfl) rfl rfl (by decide) (Nat.le_of_ble_eq_true rfl) (by decide) (by decide) rfl fun v13 T13 h13 L13 Y13 hQ13 => ?_
  obtain ⟨rfl, rfl, rfl⟩ := hQ13
  have N := N.app (Fr.nil n0)
  show own_G p e below _ (T13.setTop (mkF m 99 #[.val (.int x0), .val (.int x1), .val (.int x2), .val (.ref w), .val (.ref before), .val (.ref given), .val (.ref direc), .val (.ref o), .val (.ref x)] [(.ref before)]))
  refine own_aload 101 Y13 at_99 rfl rfl rfl ?_
  refine own_acmp 104 true Y13 at_101 rfl rfl (decide_eq_true rfl) (by decide) (by decide) ?_
  refine own_aload 106 Y13 at_104 rfl rfl rfl ?_
  refine own_callV 109 Y13 [] [] X_o (own_wd hw 73 rfl) (own_wd hw 74 rfl) (notFace_of_selects (args := #[]) (mvT Y13.warm (own_wd hw 76 rfl))) (own_wd hw 76 rfl) (own_wd hw 75 rfl) (own_wd hw 43 rfl) (own_wd hw 77 rfl) (c_g0 l Z a0 hw o (.ref w) rfl _ F_o_words) at_106 (by decide) (lenOf pdg0 rfl) rfl rfl (by decide) (Nat.le_of_ble_eq_true rfl) (by decide) (by decide) rfl fun v14 T14 h14 L14 Y14 hQ14 => ?_
  obtain ⟨rfl, rfl, rfl⟩ := hQ14
  have N := N.app (Fr.nil n0)
  show own_G p e below _ (T14.setTop (mkF m 109 #[.val (.int x0), .val (.int x1), .val (.int x2), .val (.ref w), .val (.ref before), .val (.ref given), .val (.ref direc), .val (.ref o), .val (.ref x)] [(.ref w)]))
  refine own_aloadN 110 Y14 at_109 rfl rfl rfl ?_
  refine own_acmp 113 true Y14 at_110 rfl rfl (decide_eq_true rfl) (by decide) (by decide) ?_
  refine own_aload 115 Y14 at_113 rfl rfl rfl ?_
  refine own_callV 118 Y14 [] [] X_o (own_wd hw 78 rfl) (own_wd hw 79 rfl) (notFace_of_selects (args := #[]) (mvT Y14.warm (own_wd hw 81 rfl))) (own_wd hw 81 rfl) (own_wd hw 80 rfl) (own_wd hw 43 rfl) (own_wd hw 82 rfl) (c_g1 l Z a0 hw o .null rfl _ F_o_box) at_115 (by decide) (lenOf pdg1 rfl) rfl rfl (by decide) (Nat.le_of_ble_eq_true rfl) (by decide) (by decide) rfl fun v15 T15 h15 L15 Y15 hQ15 => ?_
  obtain ⟨rfl, rfl, rfl⟩ := hQ15
  have N := N.app (Fr.nil n0)
  show own_G p e below _ (T15.setTop (mkF m 118 #[.val (.int x0), .val (.int x1), .val (.int x2), .val (.ref w), .val (.ref before), .val (.ref given), .val (.ref direc), .val (.ref o), .val (.ref x)] [.null]))
  refine own_ifnonnullF 121 Y15 at_118 rfl ?_
  refine own_aload 123 Y15 at_121 rfl rfl rfl ?_
  refine own_callV 126 Y15 [] [] X_o (own_wd hw 83 rfl) (own_wd hw 84 rfl) (notFace_of_selects (args := #[]) (mvT Y15.warm (own_wd hw 86 rfl))) (own_wd hw 86 rfl) (own_wd hw 85 rfl) (own_wd hw 43 rfl) (own_wd hw 87 rfl) (c_g2 l Z a0 hw o (.ref direc) rfl _ F_o_direction) at_123 (by decide) (lenOf pdg2 rfl) rfl rfl (by decide) (Nat.le_of_ble_eq_true rfl) (by decide) (by decide) rfl fun v16 T16 h16 L16 Y16 hQ16 => ?_
  obtain ⟨rfl, rfl, rfl⟩ := hQ16
  have N := N.app (Fr.nil n0)
  show own_G p e below _ (T16.setTop (mkF m 126 #[.val (.int x0), .val (.int x1), .val (.int x2), .val (.ref w), .val (.ref before), .val (.ref given), .val (.ref direc), .val (.ref o), .val (.ref x)] [(.ref direc)]))
  refine own_aload 128 Y16 at_126 rfl rfl rfl ?_
  refine own_acmp 131 true Y16 at_128 rfl rfl (decide_eq_true rfl) (by decide) (by decide) ?_
  refine own_iconst 132 Y16 (1 : Int32) at_131 rfl rfl ?_
  refine own_goto 136 Y16 at_132 (by decide) ?_
  exact own_retN Y16 (t := .boolean) rfl (by simp) at_136 (by decide) (by decide) ⟨rfl, N⟩
set_option maxRecDepth 65536 in
set_option maxHeartbeats 40000000 in
theorem comes_1 {Post : Tables → Env → Array Value → State → Outcome → State → Prop} (hpost : ∀ tb e args s v u, (limb_1_1.after args s (.returned v) u = true ∧ limb_1_2.after args s (.returned v) u = true ∧ True) → FrameEnd s (.returned v) u (Jvm.fieldLocs frame_1_writes args s ++ Jvm.arrayLocs frame_1_arrays args s ++ Jvm.staticLocs frame_1_statics s) 16 128 → Post tb e args s (.returned v) u) :
    ArmFor flags0 classFile x code maxLocals ret World_1 tables_1 room_1 Calls_1 rest_1 Pre_1 Post := by
  intro l hfl _ _ p e ha hc hk s m args below hf hA hF happ hP
  obtain ⟨hcalls, hrest, hpre⟩ := hP
  obtain ⟨-, -, -, hnamed, -, -, -, hat⟩ := (Spec.applies_iff hf).mp happ
  obtain ⟨hg, hn⟩ := and_e (Cond.before_iff.mp (show (Jvm.Cond.and given_1 narrow_1).before args s = true from hpre))
  obtain ⟨g0, hg⟩ := and_e hg
  obtain ⟨g1, hg⟩ := and_e hg
  obtain ⟨g2, hg⟩ := and_e hg
  have g3 := hg
  obtain ⟨w0, w1, w2, rfl⟩ : ∃ w0 w1 w2 : Value, args = #[w0, w1, w2] := by
    have hs : args.size = 3 := by simpa [Cond.value, given_1] using g0
    obtain ⟨L⟩ := args
    match L, hs with
    | [w0, w1, w2], _ => exact ⟨w0, w1, w2, rfl⟩
  have hw := fun d (hd : d ∈ tables_1) => atoms_spec (ws := Jvm.Cond.code x code maxLocals ret :: tables_1) hat d (List.mem_cons_of_mem _ hd)
  have hfit : Fit s := fun {y c} hc i hi => by
    obtain ⟨ha, rfl⟩ := Array.getElem?_eq_some_iff.mp hc
    have q := List.all_eq_true.mp ((Array.all_eq_true_iff_forall_mem.mp hF) _ (Array.getElem_mem ha)) i (List.mem_range.mpr hi)
    simpa [Array.getElem?_eq_getElem hi] using q
  obtain ⟨hsets, hown0⟩ := atoms_of _ (rest_1_c_eq ▸ (show rest_1_c.before _ s = true from hrest))
  have hr0 := Cond.before_iff.mp hown0
  obtain ⟨i0, ei0⟩ := is_v g1
  obtain rfl : w0 = (.int i0) := Option.some.inj ei0
  obtain ⟨i1, ei1⟩ := is_v g2
  obtain rfl : w1 = (.int i1) := Option.some.inj ei1
  obtain ⟨i2, ei2⟩ := is_v g3
  obtain rfl : w2 = (.int i2) := Option.some.inj ei2
  obtain ⟨n0, hn⟩ := and_e hn
  obtain ⟨n1, hn⟩ := and_e hn
  obtain ⟨n2, hn⟩ := and_e hn
  obtain ⟨n3, hn⟩ := and_e hn
  obtain ⟨n4, hn⟩ := and_e hn
  obtain ⟨n5, hn⟩ := and_e hn
  obtain ⟨n6, hn⟩ := and_e hn
  have n7 := hn
  obtain ⟨a_Role_BODY, ev_Role_BODY⟩ := exa_v n0
  have S_Role_BODY : Sta s s.heap "com/example/leading/leading/Role" "BODY" "Lcom/example/leading/leading/Role;" (.ref a_Role_BODY) := Sta.start ev_Role_BODY (Or.inr ⟨(own_wd hw 31 rfl), (own_wd hw 32 rfl)⟩)
  have E_Role_BODY : Exa s s.heap a_Role_BODY "com/example/leading/leading/Role" := Exa.start ev_Role_BODY n0
  obtain ⟨a_Role_MARGIN, ev_Role_MARGIN⟩ := exa_v n1
  have S_Role_MARGIN : Sta s s.heap "com/example/leading/leading/Role" "MARGIN" "Lcom/example/leading/leading/Role;" (.ref a_Role_MARGIN) := Sta.start ev_Role_MARGIN (Or.inr ⟨(own_wd hw 31 rfl), (own_wd hw 34 rfl)⟩)
  have E_Role_MARGIN : Exa s s.heap a_Role_MARGIN "com/example/leading/leading/Role" := Exa.start ev_Role_MARGIN n1
  obtain ⟨a_Direction_LEFT, ev_Direction_LEFT⟩ := exa_v n2
  have S_Direction_LEFT : Sta s s.heap "com/example/leading/leading/Direction" "LEFT" "Lcom/example/leading/leading/Direction;" (.ref a_Direction_LEFT) := Sta.start ev_Direction_LEFT (Or.inr ⟨(own_wd hw 39 rfl), (own_wd hw 40 rfl)⟩)
  have E_Direction_LEFT : Exa s s.heap a_Direction_LEFT "com/example/leading/leading/Direction" := Exa.start ev_Direction_LEFT n2
  obtain ⟨a_Role_HEADER, ev_Role_HEADER⟩ := exa_v n3
  have S_Role_HEADER : Sta s s.heap "com/example/leading/leading/Role" "HEADER" "Lcom/example/leading/leading/Role;" (.ref a_Role_HEADER) := Sta.start ev_Role_HEADER (Or.inr ⟨(own_wd hw 31 rfl), (own_wd hw 89 rfl)⟩)
  have E_Role_HEADER : Exa s s.heap a_Role_HEADER "com/example/leading/leading/Role" := Exa.start ev_Role_HEADER n3
  obtain ⟨a_Direction_DOWN, ev_Direction_DOWN⟩ := exa_v n4
  have S_Direction_DOWN : Sta s s.heap "com/example/leading/leading/Direction" "DOWN" "Lcom/example/leading/leading/Direction;" (.ref a_Direction_DOWN) := Sta.start ev_Direction_DOWN (Or.inr ⟨(own_wd hw 39 rfl), (own_wd hw 91 rfl)⟩)
  have E_Direction_DOWN : Exa s s.heap a_Direction_DOWN "com/example/leading/leading/Direction" := Exa.start ev_Direction_DOWN n4
  obtain ⟨a_Role_FOOTER, ev_Role_FOOTER⟩ := exa_v n5
  have S_Role_FOOTER : Sta s s.heap "com/example/leading/leading/Role" "FOOTER" "Lcom/example/leading/leading/Role;" (.ref a_Role_FOOTER) := Sta.start ev_Role_FOOTER (Or.inr ⟨(own_wd hw 31 rfl), (own_wd hw 93 rfl)⟩)
  have E_Role_FOOTER : Exa s s.heap a_Role_FOOTER "com/example/leading/leading/Role" := Exa.start ev_Role_FOOTER n5
  obtain ⟨a_Direction_UP, ev_Direction_UP⟩ := exa_v n6
  have S_Direction_UP : Sta s s.heap "com/example/leading/leading/Direction" "UP" "Lcom/example/leading/leading/Direction;" (.ref a_Direction_UP) := Sta.start ev_Direction_UP (Or.inr ⟨(own_wd hw 39 rfl), (own_wd hw 95 rfl)⟩)
  have E_Direction_UP : Exa s s.heap a_Direction_UP "com/example/leading/leading/Direction" := Exa.start ev_Direction_UP n6
  obtain ⟨a_Direction_RIGHT, ev_Direction_RIGHT⟩ := exa_v n7
  have S_Direction_RIGHT : Sta s s.heap "com/example/leading/leading/Direction" "RIGHT" "Lcom/example/leading/leading/Direction;" (.ref a_Direction_RIGHT) := Sta.start ev_Direction_RIGHT (Or.inr ⟨(own_wd hw 39 rfl), (own_wd hw 97 rfl)⟩)
  have E_Direction_RIGHT : Exa s s.heap a_Direction_RIGHT "com/example/leading/leading/Direction" := Exa.start ev_Direction_RIGHT n7
  obtain ⟨ad, evd⟩ := exa_v (Cond.before_iff.mp (hsets _ (List.mem_of_getElem? (i := 7) rfl)))
  have Sd : Sta s s.heap "java/util/ArrayList" "DEFAULTCAPACITY_EMPTY_ELEMENTDATA" "[Ljava/lang/Object;" (.ref ad) := Sta.start evd (Or.inr ⟨(own_wd hw 2 rfl), hsets _ (List.mem_of_getElem? (i := 2) rfl)⟩)
  obtain ⟨n, o, h1, h2, h3, _, L, rfl, ⟨rfl, N⟩, hq⟩ := (c_law l s _ hw i0 i1 i2 a_Role_BODY a_Role_HEADER a_Role_FOOTER a_Role_MARGIN a_Direction_RIGHT a_Direction_UP a_Direction_LEFT a_Direction_DOWN s.heap s.heap.size (Nat.le_refl _) (Old.start s) (.ref ad) rfl Sd S_Role_BODY S_Role_HEADER S_Role_FOOTER S_Role_MARGIN S_Direction_RIGHT S_Direction_UP S_Direction_LEFT S_Direction_DOWN) p e ha hc hk s m _ below hf ((Spec.applies_iff_loose hf).mp happ).1 ⟨rfl, State.Warmed39.refl s, rfl⟩ trivial
  refine ⟨n, _, h1, h2, h3, hpost _ _ _ _ _ _ ⟨Cond.after_iff.mpr rfl, Cond.after_iff.mpr (eq_i res_at (Term.int_eval (1)) rfl), trivial⟩ ⟨hq.1, hq.2.1, (hq.2.2.sift fun y hy => Or.inr (N y hy)).mono (by decide) (by decide)⟩⟩
theorem main_1_1 : Claimed_1_1 := comes_1 fun _ _ _ _ _ _ h hF => ⟨h.1, hF⟩
theorem main_1_2 : Claimed_1_2 := comes_1 fun _ _ _ _ _ _ h hF => ⟨h.2.1, hF⟩
end Jvm.Pilot.@@N@@
namespace Jvm.Pilot.@@N@@
open Jvm Jvm.ClassFile Sem Op Lib Jvm.Free Jvm.Stand Jvm.Pilot.@@N@@.Jvm.D
/-! MADE BY PROGRAM (witnessworld.py) out of the Statement's table words and the real class files: 24 classes; the members and pool entries that the words name. The judged class is class 1, her method 3. -/
namespace start1
open Jvm.ClassFile
def u (s : String) : CpInfo := .utf8 (stringToUtf16 s)
/-- a pool by its gaps: so many unusable entries, then the entry; so many at the end -/
def gap : Nat → List CpInfo → List CpInfo
  | 0, r => r
  | n + 1, r => .unusable :: gap n r
def poolList (es : List (Nat × CpInfo)) (last : Nat) : List CpInfo := es.foldr (fun e r => gap e.1 (e.2 :: r)) (gap last [])
def pool (es : List (Nat × CpInfo)) (last : Nat) : Array CpInfo := ⟨poolList es last⟩
def fileOf (pool : Array CpInfo) (this : Nat) (attrs : Array Attribute := #[]) (ms : Array MethodInfo := #[]) (fl : Nat := 33) (sup : Nat := 0) (ifs : Array Nat := #[]) (fds : Array FieldInfo := #[]) : ClassFile where
  minorVersion := 0
  majorVersion := 65
  constantPool := pool
  accessFlags := fl
  thisClass := this
  superClass := sup
  interfaces := ifs
  fields := fds
  methods := ms
  attributes := attrs
def plain (name : String) (sup : Option ClassId) : Class where
  name := name
  kind := .ordinary
  loader := none
  accessFlags := 33
  super := sup
  interfaces := #[]
  cf := none
  fields := #[]
  methods := #[]
  instanceTypes := #[]
  staticTypes := #[]
  resolved := #[]
  callSites := []
  init := .initialized
  statics := none
  mirror := none

def pool0 : Array CpInfo := pool [(5, u "<init>"), (0, u "()V"), (1, .class_ 10), (1, u "java/lang/Object")] 113

def k0c0 : Code := { maxStack := 0, maxLocals := 1, code := object_method_1_code, exceptionTable := #[], attributes := #[] }
def k0m0 : Method := { name := "<init>", desc := "()V", sig := { parameters := [], returnType := none }, accessFlags := 1, code := some k0c0 }
/-- java/lang/Object -/
def k0 : Class := { plain "java/lang/Object" none with
  accessFlags := 33
  interfaces := #[]
  cf := some (fileOf pool0 8 #[] #[{ accessFlags := 1, nameIndex := 5, descriptorIndex := 6, attributes := #[] }] 33 0 #[] #[])
  fields := #[]
  methods := #[k0m0]
  instanceTypes := #[]
  staticTypes := #[]
  resolved := Array.replicate 124 none
  statics := none }

def pool1 : Array CpInfo := pool [(2, .class_ 4), (0, .nameAndType 5 6), (0, u "java/lang/Object"), (0, u "<init>"), (0, u "()V"), (0, .fieldref 8 9), (0, .class_ 10), (0, .nameAndType 11 12), (0, u "com/example/leading/leading/Role"), (0, u "BODY"), (0, u "Lcom/example/leading/leading/Role;"), (0, .fieldref 8 14), (0, .nameAndType 15 12), (0, u "HEADER"), (0, .fieldref 8 17), (0, .nameAndType 18 12), (0, u "FOOTER"), (0, .fieldref 8 20), (0, .nameAndType 21 12), (0, u "MARGIN"), (0, .fieldref 23 24), (0, .class_ 25), (0, .nameAndType 26 27), (0, u "com/example/leading/leading/Direction"), (0, u "RIGHT"), (0, u "Lcom/example/leading/leading/Direction;"), (0, .fieldref 23 29), (0, .nameAndType 30 27), (0, u "UP"), (0, .fieldref 23 32), (0, .nameAndType 33 27), (0, u "LEFT"), (0, .fieldref 23 35), (0, .nameAndType 36 27), (0, u "DOWN"), (0, .class_ 38), (0, u "java/util/ArrayList"), (0, .methodref 37 3), (0, .methodref 41 42), (0, .class_ 43), (0, .nameAndType 44 45), (0, u "com/example/leading/leading/LineAsPinLaw"), (0, u "role"), (0, u "(I)Lcom/example/leading/leading/Role;"), (0, .methodref 41 47), (0, .nameAndType 48 49), (0, u "dir"), (0, u "(I)Lcom/example/leading/leading/Direction;"), (0, .class_ 51), (0, u "com/example/leading/leading/Line"), (0, .methodref 50 53), (0, .nameAndType 5 54), (0, u "(Ljava/util/List;Lcom/example/leading/leading/Box;Lcom/example/leading/leading/Direction;Lcom/example/leading/leading/Role;)V"), (0, .methodref 50 56), (0, .nameAndType 57 58), (0, u "as"), (0, u "(Lcom/example/leading/leading/Role;)Lcom/example/leading/leading/Line;"), (0, .methodref 50 60), (0, .nameAndType 44 61), (0, u "()Lcom/example/leading/leading/Role;"), (0, .methodref 50 63), (0, .nameAndType 64 65), (0, u "words"), (0, u "()Ljava/util/List;"), (0, .methodref 50 67), (0, .nameAndType 68 69), (0, u "box"), (0, u "()Lcom/example/leading/leading/Box;"), (0, .methodref 50 71), (0, .nameAndType 72 73), (0, u "direction"), (0, u "()Lcom/example/leading/leading/Direction;"), (3, u "law"), (0, u "(III)Z")] 4

def k1m0 : Method := { name := "<init>", desc := "()V", sig := { parameters := [], returnType := none }, accessFlags := 1, code := none }
def k1c1 : Code := { maxStack := 2, maxLocals := 2, code := method_2_code, exceptionTable := #[], attributes := #[] }
def k1m1 : Method := { name := "role", desc := "(I)Lcom/example/leading/leading/Role;", sig := { parameters := [.int], returnType := some (.object "com/example/leading/leading/Role") }, accessFlags := 10, code := some k1c1 }
def k1c2 : Code := { maxStack := 2, maxLocals := 2, code := method_3_code, exceptionTable := #[], attributes := #[] }
def k1m2 : Method := { name := "dir", desc := "(I)Lcom/example/leading/leading/Direction;", sig := { parameters := [.int], returnType := some (.object "com/example/leading/leading/Direction") }, accessFlags := 10, code := some k1c2 }
def k1c3 : Code := { maxStack := 6, maxLocals := 9, code := code, exceptionTable := #[], attributes := #[] }
def k1m3 : Method := { name := "law", desc := "(III)Z", sig := { parameters := [.int, .int, .int], returnType := some .boolean }, accessFlags := 9, code := some k1c3 }
/-- com/example/leading/leading/LineAsPinLaw -/
def k1 : Class := { plain "com/example/leading/leading/LineAsPinLaw" (some 0) with
  accessFlags := 49
  interfaces := #[]
  cf := some (fileOf pool1 41 #[] #[{ accessFlags := 1, nameIndex := 5, descriptorIndex := 6, attributes := #[] }, { accessFlags := 10, nameIndex := 44, descriptorIndex := 45, attributes := #[] }, { accessFlags := 10, nameIndex := 48, descriptorIndex := 49, attributes := #[] }, { accessFlags := 9, nameIndex := 77, descriptorIndex := 78, attributes := #[] }] 49 2 #[] #[])
  fields := #[]
  methods := #[k1m0, k1m1, k1m2, k1m3]
  instanceTypes := #[]
  staticTypes := #[]
  resolved := Array.replicate 83 none
  statics := none }

def pool2 : Array CpInfo := pool [(8, .class_ 10), (1, u "java/lang/Iterable"), (24, .class_ 36), (0, u "java/lang/Object")] 25

/-- java/lang/Iterable -/
def k2 : Class := { plain "java/lang/Iterable" (some 0) with
  accessFlags := 1537
  interfaces := #[]
  cf := some (fileOf pool2 8 #[] #[] 1537 35 #[] #[])
  fields := #[]
  methods := #[]
  instanceTypes := #[]
  staticTypes := #[]
  resolved := Array.replicate 62 none
  statics := none }

def pool3 : Array CpInfo := pool [(10, .class_ 12), (1, u "java/util/Collection"), (47, .class_ 61), (0, u "java/lang/Object"), (0, .class_ 63), (0, u "java/lang/Iterable")] 51

/-- java/util/Collection -/
def k3 : Class := { plain "java/util/Collection" (some 0) with
  accessFlags := 1537
  interfaces := #[2]
  cf := some (fileOf pool3 10 #[] #[] 1537 60 #[62] #[])
  fields := #[]
  methods := #[]
  instanceTypes := #[]
  staticTypes := #[]
  resolved := Array.replicate 115 none
  statics := none }

def pool4 : Array CpInfo := pool [(1, .methodref 2 3), (0, .class_ 4), (0, .nameAndType 5 6), (0, u "java/lang/Object"), (0, u "<init>"), (0, u "()V"), (1, .class_ 10), (1, u "java/util/AbstractCollection"), (66, .class_ 78), (0, u "java/util/Collection")] 81

def k4c0 : Code := { maxStack := 1, maxLocals := 1, code := jdk_22_method_1_code, exceptionTable := #[], attributes := #[] }
def k4m0 : Method := { name := "<init>", desc := "()V", sig := { parameters := [], returnType := none }, accessFlags := 4, code := some k4c0 }
/-- java/util/AbstractCollection -/
def k4 : Class := { plain "java/util/AbstractCollection" (some 0) with
  accessFlags := 1057
  interfaces := #[3]
  cf := some (fileOf pool4 8 #[] #[{ accessFlags := 4, nameIndex := 5, descriptorIndex := 6, attributes := #[] }] 1057 2 #[77] #[])
  fields := #[]
  methods := #[k4m0]
  instanceTypes := #[]
  staticTypes := #[]
  resolved := Array.replicate 160 none
  statics := none }

def pool5 : Array CpInfo := pool [(8, .class_ 10), (1, u "java/util/SequencedCollection"), (15, .class_ 27), (0, u "java/lang/Object"), (0, .class_ 29), (0, u "java/util/Collection")] 27

/-- java/util/SequencedCollection -/
def k5 : Class := { plain "java/util/SequencedCollection" (some 0) with
  accessFlags := 1537
  interfaces := #[3]
  cf := some (fileOf pool5 8 #[] #[] 1537 26 #[28] #[])
  fields := #[]
  methods := #[]
  instanceTypes := #[]
  staticTypes := #[]
  resolved := Array.replicate 57 none
  statics := none }

def pool6 : Array CpInfo := pool [(8, .class_ 10), (1, u "java/util/List"), (92, .class_ 104), (0, u "java/lang/Object"), (15, .class_ 121), (0, u "java/util/SequencedCollection")] 129

/-- java/util/List -/
def k6 : Class := { plain "java/util/List" (some 0) with
  accessFlags := 1537
  interfaces := #[5]
  cf := some (fileOf pool6 8 #[] #[] 1537 103 #[120] #[])
  fields := #[]
  methods := #[]
  instanceTypes := #[]
  staticTypes := #[]
  resolved := Array.replicate 251 none
  statics := none }

def pool7 : Array CpInfo := pool [(1, .methodref 2 3), (0, .class_ 4), (0, .nameAndType 5 6), (0, u "java/util/AbstractCollection"), (0, u "<init>"), (0, u "()V"), (0, .fieldref 8 9), (0, .class_ 10), (0, .nameAndType 11 12), (0, u "java/util/AbstractList"), (0, u "modCount"), (0, u "I"), (64, .class_ 78), (0, u "java/util/AbstractList$Itr"), (3, .class_ 83), (0, u "java/util/AbstractList$ListItr"), (9, .class_ 94), (0, u "java/util/AbstractList$RandomAccessSubList"), (3, .class_ 99), (0, u "java/util/AbstractList$SubList"), (33, .class_ 134), (0, u "java/util/List"), (73, .class_ 209), (0, u "java/util/AbstractList$SubList$1"), (0, .class_ 211), (0, u "java/util/AbstractList$RandomAccessSpliterator")] 6

def k7c0 : Code := { maxStack := 2, maxLocals := 1, code := jdk_39_method_1_code, exceptionTable := #[], attributes := #[] }
def k7m0 : Method := { name := "<init>", desc := "()V", sig := { parameters := [], returnType := none }, accessFlags := 4, code := some k7c0 }
/-- java/util/AbstractList -/
def k7 : Class := { plain "java/util/AbstractList" (some 4) with
  accessFlags := 1057
  interfaces := #[6]
  cf := some (fileOf pool7 8 #[.nestMembers #[93, 98, 208, 210, 82, 77]] #[{ accessFlags := 4, nameIndex := 5, descriptorIndex := 6, attributes := #[] }] 1057 2 #[133] #[{ accessFlags := 132, nameIndex := 11, descriptorIndex := 12, attributes := #[] }])
  fields := #[{ name := "modCount", type := .int, accessFlags := 132, slot := 0, constantValue := 0 }]
  methods := #[k7m0]
  instanceTypes := #[.int]
  staticTypes := #[]
  resolved := Array.replicate 218 none
  statics := none }

def pool8 : Array CpInfo := pool [(1, .class_ 2), (0, u "java/util/RandomAccess"), (0, .class_ 4), (0, u "java/lang/Object")] 2

/-- java/util/RandomAccess -/
def k8 : Class := { plain "java/util/RandomAccess" (some 0) with
  accessFlags := 1537
  interfaces := #[]
  cf := some (fileOf pool8 1 #[] #[] 1537 3 #[] #[])
  fields := #[]
  methods := #[]
  instanceTypes := #[]
  staticTypes := #[]
  resolved := Array.replicate 7 none
  statics := none }

def pool9 : Array CpInfo := pool [(1, .class_ 2), (0, u "java/lang/Cloneable"), (0, .class_ 4), (0, u "java/lang/Object")] 2

/-- java/lang/Cloneable -/
def k9 : Class := { plain "java/lang/Cloneable" (some 0) with
  accessFlags := 1537
  interfaces := #[]
  cf := some (fileOf pool9 1 #[] #[] 1537 3 #[] #[])
  fields := #[]
  methods := #[]
  instanceTypes := #[]
  staticTypes := #[]
  resolved := Array.replicate 7 none
  statics := none }

def pool10 : Array CpInfo := pool [(1, .class_ 2), (0, u "java/io/Serializable"), (0, .class_ 4), (0, u "java/lang/Object")] 2

/-- java/io/Serializable -/
def k10 : Class := { plain "java/io/Serializable" (some 0) with
  accessFlags := 1537
  interfaces := #[]
  cf := some (fileOf pool10 1 #[] #[] 1537 3 #[] #[])
  fields := #[]
  methods := #[]
  instanceTypes := #[]
  staticTypes := #[]
  resolved := Array.replicate 7 none
  statics := none }

def pool11 : Array CpInfo := pool [(1, .methodref 2 3), (0, .class_ 4), (0, .nameAndType 5 6), (0, u "java/util/AbstractList"), (0, u "<init>"), (0, u "()V"), (2, .fieldref 10 11), (0, .class_ 12), (0, .nameAndType 13 14), (0, u "java/util/ArrayList"), (0, u "elementData"), (0, u "[Ljava/lang/Object;"), (2, u "EMPTY_ELEMENTDATA"), (21, .fieldref 10 40), (0, .nameAndType 41 14), (0, u "DEFAULTCAPACITY_EMPTY_ELEMENTDATA"), (8, u "size"), (0, u "I"), (96, .class_ 149), (0, u "java/util/List"), (112, .class_ 263), (0, u "java/util/ArrayList$ListItr"), (3, .class_ 268), (0, u "java/util/ArrayList$Itr"), (7, .class_ 277), (0, u "java/util/ArrayList$SubList"), (12, .class_ 291), (0, u "java/util/ArrayList$ArrayListSpliterator"), (37, .class_ 330), (0, u "java/util/RandomAccess"), (0, .class_ 332), (0, u "java/lang/Cloneable"), (0, .class_ 334), (0, u "java/io/Serializable"), (0, u "serialVersionUID"), (0, u "J"), (3, u "DEFAULT_CAPACITY"), (159, .class_ 501), (0, u "java/util/ArrayList$SubList$2"), (0, .class_ 503), (0, u "java/util/ArrayList$SubList$1")] 5

def k11c0 : Code := { maxStack := 2, maxLocals := 1, code := jdk_38_method_2_code, exceptionTable := #[], attributes := #[] }
def k11m0 : Method := { name := "<init>", desc := "()V", sig := { parameters := [], returnType := none }, accessFlags := 1, code := some k11c0 }
/-- java/util/ArrayList -/
def k11 : Class := { plain "java/util/ArrayList" (some 7) with
  accessFlags := 33
  interfaces := #[6, 8, 9, 10]
  cf := some (fileOf pool11 10 #[.nestMembers #[290, 276, 500, 502, 262, 267]] #[{ accessFlags := 1, nameIndex := 5, descriptorIndex := 6, attributes := #[] }] 33 2 #[148, 329, 331, 333] #[{ accessFlags := 26, nameIndex := 335, descriptorIndex := 336, attributes := #[] }, { accessFlags := 26, nameIndex := 340, descriptorIndex := 51, attributes := #[] }, { accessFlags := 26, nameIndex := 17, descriptorIndex := 14, attributes := #[] }, { accessFlags := 26, nameIndex := 41, descriptorIndex := 14, attributes := #[] }, { accessFlags := 128, nameIndex := 13, descriptorIndex := 14, attributes := #[] }, { accessFlags := 2, nameIndex := 50, descriptorIndex := 51, attributes := #[] }])
  fields := #[{ name := "serialVersionUID", type := .long, accessFlags := 26, slot := 0, constantValue := 0 }, { name := "DEFAULT_CAPACITY", type := .int, accessFlags := 26, slot := 1, constantValue := 0 }, { name := "EMPTY_ELEMENTDATA", type := (.array (.object "java/lang/Object")), accessFlags := 26, slot := 2, constantValue := 0 }, { name := "DEFAULTCAPACITY_EMPTY_ELEMENTDATA", type := (.array (.object "java/lang/Object")), accessFlags := 26, slot := 3, constantValue := 0 }, { name := "elementData", type := (.array (.object "java/lang/Object")), accessFlags := 128, slot := 1, constantValue := 0 }, { name := "size", type := .int, accessFlags := 2, slot := 2, constantValue := 0 }]
  methods := #[k11m0]
  instanceTypes := #[.int, (.array (.object "java/lang/Object")), .int]
  staticTypes := #[.long, .int, (.array (.object "java/lang/Object")), (.array (.object "java/lang/Object"))]
  resolved := Array.replicate 509 none
  statics := some 0 }

def pool12 : Array CpInfo := pool [(1, .class_ 2), (0, u "java/lang/constant/Constable"), (0, .class_ 4), (0, u "java/lang/Object")] 6

/-- java/lang/constant/Constable -/
def k12 : Class := { plain "java/lang/constant/Constable" (some 0) with
  accessFlags := 1537
  interfaces := #[]
  cf := some (fileOf pool12 1 #[] #[] 1537 3 #[] #[])
  fields := #[]
  methods := #[]
  instanceTypes := #[]
  staticTypes := #[]
  resolved := Array.replicate 11 none
  statics := none }

def pool13 : Array CpInfo := pool [(1, .class_ 2), (0, u "java/lang/Comparable"), (0, .class_ 4), (0, u "java/lang/Object")] 7

/-- java/lang/Comparable -/
def k13 : Class := { plain "java/lang/Comparable" (some 0) with
  accessFlags := 1537
  interfaces := #[]
  cf := some (fileOf pool13 1 #[] #[] 1537 3 #[] #[])
  fields := #[]
  methods := #[]
  instanceTypes := #[]
  staticTypes := #[]
  resolved := Array.replicate 12 none
  statics := none }

def pool14 : Array CpInfo := pool [(2, .class_ 4), (1, u "java/lang/Enum"), (0, u "name"), (0, u "Ljava/lang/String;"), (2, u "ordinal"), (0, u "I"), (1, .class_ 14), (1, u "java/lang/Object"), (4, u "hash"), (86, .class_ 108), (1, u "java/lang/Enum$EnumDesc"), (2, .class_ 112), (0, u "java/lang/constant/Constable"), (0, .class_ 114), (0, u "java/lang/Comparable"), (0, .class_ 116), (0, u "java/io/Serializable")] 87

/-- java/lang/Enum -/
def k14 : Class := { plain "java/lang/Enum" (some 0) with
  accessFlags := 1057
  interfaces := #[12, 13, 10]
  cf := some (fileOf pool14 2 #[.nestMembers #[106]] #[] 1057 12 #[111, 113, 115] #[{ accessFlags := 18, nameIndex := 5, descriptorIndex := 6, attributes := #[] }, { accessFlags := 18, nameIndex := 9, descriptorIndex := 10, attributes := #[] }, { accessFlags := 2, nameIndex := 19, descriptorIndex := 10, attributes := #[] }])
  fields := #[{ name := "name", type := (.object "java/lang/String"), accessFlags := 18, slot := 0, constantValue := 0 }, { name := "ordinal", type := .int, accessFlags := 18, slot := 1, constantValue := 0 }, { name := "hash", type := .int, accessFlags := 2, slot := 2, constantValue := 0 }]
  methods := #[]
  instanceTypes := #[(.object "java/lang/String"), .int, .int]
  staticTypes := #[]
  resolved := Array.replicate 204 none
  statics := none }

def pool15 : Array CpInfo := pool [(1, .class_ 2), (0, u "com/example/leading/leading/Role"), (2, u "BODY"), (0, u "Lcom/example/leading/leading/Role;"), (2, u "HEADER"), (2, u "FOOTER"), (2, u "MARGIN"), (2, u "$VALUES"), (0, u "[Lcom/example/leading/leading/Role;"), (6, .class_ 28), (1, u "java/lang/Enum")] 43

/-- com/example/leading/leading/Role -/
def k15 : Class := { plain "com/example/leading/leading/Role" (some 14) with
  accessFlags := 16432
  interfaces := #[]
  cf := some (fileOf pool15 1 #[] #[] 16432 26 #[] #[{ accessFlags := 16409, nameIndex := 5, descriptorIndex := 6, attributes := #[] }, { accessFlags := 16409, nameIndex := 9, descriptorIndex := 6, attributes := #[] }, { accessFlags := 16409, nameIndex := 12, descriptorIndex := 6, attributes := #[] }, { accessFlags := 16409, nameIndex := 15, descriptorIndex := 6, attributes := #[] }, { accessFlags := 4122, nameIndex := 18, descriptorIndex := 19, attributes := #[] }])
  fields := #[{ name := "BODY", type := (.object "com/example/leading/leading/Role"), accessFlags := 16409, slot := 0, constantValue := 0 }, { name := "HEADER", type := (.object "com/example/leading/leading/Role"), accessFlags := 16409, slot := 1, constantValue := 0 }, { name := "FOOTER", type := (.object "com/example/leading/leading/Role"), accessFlags := 16409, slot := 2, constantValue := 0 }, { name := "MARGIN", type := (.object "com/example/leading/leading/Role"), accessFlags := 16409, slot := 3, constantValue := 0 }, { name := "$VALUES", type := (.array (.object "com/example/leading/leading/Role")), accessFlags := 4122, slot := 4, constantValue := 0 }]
  methods := #[]
  instanceTypes := #[(.object "java/lang/String"), .int, .int]
  staticTypes := #[(.object "com/example/leading/leading/Role"), (.object "com/example/leading/leading/Role"), (.object "com/example/leading/leading/Role"), (.object "com/example/leading/leading/Role"), (.array (.object "com/example/leading/leading/Role"))]
  resolved := Array.replicate 72 none
  statics := some 1 }

def pool16 : Array CpInfo := pool [(1, .class_ 2), (0, u "com/example/leading/leading/Direction"), (2, u "RIGHT"), (0, u "Lcom/example/leading/leading/Direction;"), (2, u "UP"), (2, u "LEFT"), (2, u "DOWN"), (2, u "$VALUES"), (0, u "[Lcom/example/leading/leading/Direction;"), (6, .class_ 28), (1, u "java/lang/Enum")] 65

/-- com/example/leading/leading/Direction -/
def k16 : Class := { plain "com/example/leading/leading/Direction" (some 14) with
  accessFlags := 16432
  interfaces := #[]
  cf := some (fileOf pool16 1 #[] #[] 16432 26 #[] #[{ accessFlags := 16409, nameIndex := 5, descriptorIndex := 6, attributes := #[] }, { accessFlags := 16409, nameIndex := 9, descriptorIndex := 6, attributes := #[] }, { accessFlags := 16409, nameIndex := 12, descriptorIndex := 6, attributes := #[] }, { accessFlags := 16409, nameIndex := 15, descriptorIndex := 6, attributes := #[] }, { accessFlags := 4122, nameIndex := 18, descriptorIndex := 19, attributes := #[] }])
  fields := #[{ name := "RIGHT", type := (.object "com/example/leading/leading/Direction"), accessFlags := 16409, slot := 0, constantValue := 0 }, { name := "UP", type := (.object "com/example/leading/leading/Direction"), accessFlags := 16409, slot := 1, constantValue := 0 }, { name := "LEFT", type := (.object "com/example/leading/leading/Direction"), accessFlags := 16409, slot := 2, constantValue := 0 }, { name := "DOWN", type := (.object "com/example/leading/leading/Direction"), accessFlags := 16409, slot := 3, constantValue := 0 }, { name := "$VALUES", type := (.array (.object "com/example/leading/leading/Direction")), accessFlags := 4122, slot := 4, constantValue := 0 }]
  methods := #[]
  instanceTypes := #[(.object "java/lang/String"), .int, .int]
  staticTypes := #[(.object "com/example/leading/leading/Direction"), (.object "com/example/leading/leading/Direction"), (.object "com/example/leading/leading/Direction"), (.object "com/example/leading/leading/Direction"), (.array (.object "com/example/leading/leading/Direction"))]
  resolved := Array.replicate 94 none
  statics := some 2 }

def pool17 : Array CpInfo := pool [(1, .methodref 2 3), (0, .class_ 4), (0, .nameAndType 5 6), (0, u "java/lang/Object"), (0, u "<init>"), (0, u "()V"), (0, .class_ 8), (0, u "java/lang/Record")] 13

def k17c0 : Code := { maxStack := 1, maxLocals := 1, code := jdk_30_method_1_code, exceptionTable := #[], attributes := #[] }
def k17m0 : Method := { name := "<init>", desc := "()V", sig := { parameters := [], returnType := none }, accessFlags := 4, code := some k17c0 }
/-- java/lang/Record -/
def k17 : Class := { plain "java/lang/Record" (some 0) with
  accessFlags := 1057
  interfaces := #[]
  cf := some (fileOf pool17 7 #[] #[{ accessFlags := 4, nameIndex := 5, descriptorIndex := 6, attributes := #[] }] 1057 2 #[] #[])
  fields := #[]
  methods := #[k17m0]
  instanceTypes := #[]
  staticTypes := #[]
  resolved := Array.replicate 22 none
  statics := none }

def pool18 : Array CpInfo := pool [(1, .methodref 2 3), (0, .class_ 4), (0, .nameAndType 5 6), (0, u "java/lang/Record"), (0, u "<init>"), (0, u "()V"), (0, .fieldref 8 9), (0, .class_ 10), (0, .nameAndType 11 12), (0, u "com/example/leading/leading/Line"), (0, u "words"), (0, u "Ljava/util/List;"), (0, .fieldref 8 14), (0, .nameAndType 15 16), (0, u "box"), (0, u "Lcom/example/leading/leading/Box;"), (0, .fieldref 8 18), (0, .nameAndType 19 20), (0, u "direction"), (0, u "Lcom/example/leading/leading/Direction;"), (0, .fieldref 8 22), (0, .nameAndType 23 24), (0, u "role"), (0, u "Lcom/example/leading/leading/Role;"), (10, u "()Lcom/example/leading/leading/Box;"), (20, .methodref 8 57), (0, .nameAndType 5 58), (0, u "(Ljava/util/List;Lcom/example/leading/leading/Box;Lcom/example/leading/leading/Direction;Lcom/example/leading/leading/Role;)V"), (41, u "as"), (0, u "(Lcom/example/leading/leading/Role;)Lcom/example/leading/leading/Line;"), (2, u "()Ljava/util/List;"), (1, u "()Lcom/example/leading/leading/Direction;"), (0, u "()Lcom/example/leading/leading/Role;")] 23

def k18c0 : Code := { maxStack := 2, maxLocals := 5, code := prog_17_method_1_code, exceptionTable := #[], attributes := #[] }
def k18m0 : Method := { name := "<init>", desc := "(Ljava/util/List;Lcom/example/leading/leading/Box;Lcom/example/leading/leading/Direction;Lcom/example/leading/leading/Role;)V", sig := { parameters := [(.object "java/util/List"), (.object "com/example/leading/leading/Box"), (.object "com/example/leading/leading/Direction"), (.object "com/example/leading/leading/Role")], returnType := none }, accessFlags := 0, code := some k18c0 }
def k18c1 : Code := { maxStack := 6, maxLocals := 2, code := prog_17_method_4_code, exceptionTable := #[], attributes := #[] }
def k18m1 : Method := { name := "as", desc := "(Lcom/example/leading/leading/Role;)Lcom/example/leading/leading/Line;", sig := { parameters := [(.object "com/example/leading/leading/Role")], returnType := some (.object "com/example/leading/leading/Line") }, accessFlags := 0, code := some k18c1 }
def k18c2 : Code := { maxStack := 1, maxLocals := 1, code := prog_17_method_8_code, exceptionTable := #[], attributes := #[] }
def k18m2 : Method := { name := "words", desc := "()Ljava/util/List;", sig := { parameters := [], returnType := some (.object "java/util/List") }, accessFlags := 1, code := some k18c2 }
def k18c3 : Code := { maxStack := 1, maxLocals := 1, code := prog_17_method_9_code, exceptionTable := #[], attributes := #[] }
def k18m3 : Method := { name := "box", desc := "()Lcom/example/leading/leading/Box;", sig := { parameters := [], returnType := some (.object "com/example/leading/leading/Box") }, accessFlags := 1, code := some k18c3 }
def k18c4 : Code := { maxStack := 1, maxLocals := 1, code := prog_17_method_10_code, exceptionTable := #[], attributes := #[] }
def k18m4 : Method := { name := "direction", desc := "()Lcom/example/leading/leading/Direction;", sig := { parameters := [], returnType := some (.object "com/example/leading/leading/Direction") }, accessFlags := 1, code := some k18c4 }
def k18c5 : Code := { maxStack := 1, maxLocals := 1, code := prog_17_method_11_code, exceptionTable := #[], attributes := #[] }
def k18m5 : Method := { name := "role", desc := "()Lcom/example/leading/leading/Role;", sig := { parameters := [], returnType := some (.object "com/example/leading/leading/Role") }, accessFlags := 1, code := some k18c5 }
/-- com/example/leading/leading/Line -/
def k18 : Class := { plain "com/example/leading/leading/Line" (some 17) with
  accessFlags := 48
  interfaces := #[]
  cf := some (fileOf pool18 8 #[] #[{ accessFlags := 0, nameIndex := 5, descriptorIndex := 58, attributes := #[] }, { accessFlags := 0, nameIndex := 100, descriptorIndex := 101, attributes := #[] }, { accessFlags := 1, nameIndex := 11, descriptorIndex := 104, attributes := #[] }, { accessFlags := 1, nameIndex := 15, descriptorIndex := 35, attributes := #[] }, { accessFlags := 1, nameIndex := 19, descriptorIndex := 106, attributes := #[] }, { accessFlags := 1, nameIndex := 23, descriptorIndex := 107, attributes := #[] }] 48 2 #[] #[{ accessFlags := 18, nameIndex := 11, descriptorIndex := 12, attributes := #[] }, { accessFlags := 18, nameIndex := 15, descriptorIndex := 16, attributes := #[] }, { accessFlags := 18, nameIndex := 19, descriptorIndex := 20, attributes := #[] }, { accessFlags := 18, nameIndex := 23, descriptorIndex := 24, attributes := #[] }])
  fields := #[{ name := "words", type := (.object "java/util/List"), accessFlags := 18, slot := 0, constantValue := 0 }, { name := "box", type := (.object "com/example/leading/leading/Box"), accessFlags := 18, slot := 1, constantValue := 0 }, { name := "direction", type := (.object "com/example/leading/leading/Direction"), accessFlags := 18, slot := 2, constantValue := 0 }, { name := "role", type := (.object "com/example/leading/leading/Role"), accessFlags := 18, slot := 3, constantValue := 0 }]
  methods := #[k18m0, k18m1, k18m2, k18m3, k18m4, k18m5]
  instanceTypes := #[(.object "java/util/List"), (.object "com/example/leading/leading/Box"), (.object "com/example/leading/leading/Direction"), (.object "com/example/leading/leading/Role")]
  staticTypes := #[]
  resolved := Array.replicate 131 none
  statics := none }

/-- the primitive byte -/
def k19 : Class := { plain "byte" none with kind := .primitive 'B', accessFlags := 0x411 }
/-- [B -/
def k20 : Class := { plain "[B" (some 0) with kind := .array 19 .byte, interfaces := #[9, 10], accessFlags := 1041 }

/-- the primitive int -/
def k21 : Class := { plain "int" none with kind := .primitive 'I', accessFlags := 0x411 }
/-- [I -/
def k22 : Class := { plain "[I" (some 0) with kind := .array 21 .int, interfaces := #[9, 10], accessFlags := 1041 }

/-- [Ljava/lang/Object; -/
def k23 : Class := { plain "[Ljava/lang/Object;" (some 0) with kind := .array 0 (.object "java/lang/Object"), interfaces := #[9, 10], accessFlags := 1041 }

def heap : Heap := #[{ cls := 11, slots := #[.long 0, .int 0, .ref 11, .ref 12], vm := .statics 11 },
  { cls := 15, slots := #[.ref 3, .ref 6, .ref 8, .ref 4, .null], vm := .statics 15 },
  { cls := 16, slots := #[.ref 10, .ref 9, .ref 5, .ref 7, .null], vm := .statics 16 },
  { cls := 15, slots := #[.null, .int 0, .int 0], vm := .none },
  { cls := 15, slots := #[.null, .int 0, .int 0], vm := .none },
  { cls := 16, slots := #[.null, .int 0, .int 0], vm := .none },
  { cls := 15, slots := #[.null, .int 0, .int 0], vm := .none },
  { cls := 16, slots := #[.null, .int 0, .int 0], vm := .none },
  { cls := 15, slots := #[.null, .int 0, .int 0], vm := .none },
  { cls := 16, slots := #[.null, .int 0, .int 0], vm := .none },
  { cls := 16, slots := #[.null, .int 0, .int 0], vm := .none },
  { cls := 23, slots := #[], vm := .none },
  { cls := 23, slots := #[], vm := .none }]
def classes : Array Class := #[k0, k1, k2, k3, k4, k5, k6, k7, k8, k9, k10, k11, k12, k13, k14, k15, k16, k17, k18, k19, k20, k21, k22, k23]
def interned : List (Array UInt16 × Addr) := []
def slotsUsed : Nat := 38
def theMethod : MethodId := ⟨1, 3⟩
def args0 : Array Value := #[.int 5, .int 6, .int 3]
def aboutOver (below : List Frame) : State where
  vm := { classes := classes, interned := interned.toArray }
  heap := heap
  slotsUsed := slotsUsed
  threads := #[{ frames := .invoking theMethod args0 :: below }]
def below0 : List Frame := [.native { method := ⟨0, 0⟩, args := #[] }]
def about1 : State := aboutOver below0
def p0 : Program := .bare "" "" ""
def e0 : Env := launch0.env 0 0 0
theorem w_frames : about1.frames = Frame.invoking theMethod args0 :: below0 := rfl
set_option maxRecDepth 65536 in
theorem w_args : argsFit about1.vm theMethod args0 = true := by decide +kernel
set_option maxRecDepth 65536 in
theorem w_heap : heapFits about1 = true := by decide +kernel
set_option maxRecDepth 65536 in
theorem w_runnable : about1.curStatus? = some .runnable := by decide +kernel
set_option maxRecDepth 65536 in
theorem w_alone : about1.alone = true := by decide +kernel
set_option maxRecDepth 65536 in
theorem w_named : about1.methodNamed? x = some theMethod := by decide +kernel
set_option maxRecDepth 65536 in
theorem w_hears : about1.hears theMethod below0 = true := by decide +kernel
set_option maxRecDepth 65536 in
theorem w_ripe : about1.ripe theMethod args0 below0 = true := by decide +kernel
theorem w_running : about1.status = .running := rfl
set_option maxRecDepth 65536 in
theorem w_room : about1.hasRoom e0.platform room_1 = true :=
  launch0.hasRoom_least _ room_1 (by decide +kernel) (by decide +kernel) (by decide +kernel) (by decide +kernel) (by decide +kernel) (by decide +kernel)
theorem allAtoms_all (ts : List Jvm.Cond) (a : Array Jvm.Value) (st : Jvm.State) : (allAtoms ts).before a st = ts.all (fun c => c.before a st) := by
  induction ts with
  | nil => rfl
  | cons c t ih =>
    show (Jvm.Cond.and c (allAtoms t)).before a st = _
    rw [Jvm.Cond.before_and, ih, List.all_cons]
def words1 : List Jvm.Cond := Jvm.Cond.code x code maxLocals ret :: tables_1
/-- a 'code' word, met by the world's own term for the bytes: nothing is compared byte by byte -/
theorem code_word {y : MethodName} {bytes : ByteArray} {mx : Nat} {rt : Option FieldType} {a : Array Value} {s : State} {m : MethodId} {meth : Method} {c : Code} (h1 : s.methodNamed? y = some m) (h2 : s.vm.method? m = some meth) (h3 : meth.code = some c) (h4 : c.code = bytes)
    (h5 : (c.maxLocals == mx && c.exceptionTable.isEmpty && decide (c.maxStack ≤ mostOperands) && decide (meth.sig.returnType = rt) && !meth.locks && decide (parseMethodDescriptor y.desc = some meth.sig)) = true) : (Jvm.Cond.code y bytes mx rt).before a s = true := by
  simp only [Bool.and_eq_true, beq_iff_eq, Bool.not_eq_true', decide_eq_true_eq] at h5
  obtain ⟨⟨⟨⟨⟨g1, g2⟩, g3⟩, g4⟩, g5⟩, g6⟩ := h5
  simp [Cond.before, Cond.holds, Cond.value, h1, h2, h3, h4, g1, g2, g3, g4, g5, g6]
def isCode : Jvm.Cond → Bool
  | .code _ _ _ _ => true
  | _ => false
theorem all_split {L : List Jvm.Cond} {P : Jvm.Cond → Bool} (h1 : L.all (fun c => isCode c || P c) = true) (h2 : ∀ c ∈ L.filter isCode, P c = true) : L.all P = true := by
  refine List.all_eq_true.mpr fun c hc => ?_
  have h := List.all_eq_true.mp h1 c hc
  rcases Bool.eq_false_or_eq_true (isCode c) with hi | hi
  · exact h2 c (List.mem_filter.mpr ⟨hc, hi⟩)
  · simpa [hi] using h
set_option maxRecDepth 65536 in
theorem w_c0 : (Jvm.Cond.code x code maxLocals ret).before args0 about1 = true := code_word (m := ⟨1, 3⟩) (meth := k1m3) (c := k1c3) (by decide +kernel) rfl rfl rfl (by decide +kernel)
set_option maxRecDepth 65536 in
theorem w_c1 : (Jvm.Cond.code ({ cls := "java/util/ArrayList", name := "<init>", desc := "()V" } : Jvm.MethodName) jdk_38_method_2_code (1 : Nat) (Option.none : Option Jvm.ClassFile.FieldType)).before args0 about1 = true := code_word (m := ⟨11, 0⟩) (meth := k11m0) (c := k11c0) (by decide +kernel) rfl rfl rfl (by decide +kernel)
set_option maxRecDepth 65536 in
theorem w_c2 : (Jvm.Cond.code ({ cls := "java/util/AbstractList", name := "<init>", desc := "()V" } : Jvm.MethodName) jdk_39_method_1_code (1 : Nat) (Option.none : Option Jvm.ClassFile.FieldType)).before args0 about1 = true := code_word (m := ⟨7, 0⟩) (meth := k7m0) (c := k7c0) (by decide +kernel) rfl rfl rfl (by decide +kernel)
set_option maxRecDepth 65536 in
theorem w_c3 : (Jvm.Cond.code ({ cls := "java/util/AbstractCollection", name := "<init>", desc := "()V" } : Jvm.MethodName) jdk_22_method_1_code (1 : Nat) (Option.none : Option Jvm.ClassFile.FieldType)).before args0 about1 = true := code_word (m := ⟨4, 0⟩) (meth := k4m0) (c := k4c0) (by decide +kernel) rfl rfl rfl (by decide +kernel)
set_option maxRecDepth 65536 in
theorem w_c4 : (Jvm.Cond.code ({ cls := "java/lang/Object", name := "<init>", desc := "()V" } : Jvm.MethodName) object_method_1_code (1 : Nat) (Option.none : Option Jvm.ClassFile.FieldType)).before args0 about1 = true := code_word (m := ⟨0, 0⟩) (meth := k0m0) (c := k0c0) (by decide +kernel) rfl rfl rfl (by decide +kernel)
set_option maxRecDepth 65536 in
theorem w_c5 : (Jvm.Cond.code ({ cls := "com/example/leading/leading/LineAsPinLaw", name := "role", desc := "(I)Lcom/example/leading/leading/Role;" } : Jvm.MethodName) method_2_code (2 : Nat) (Option.some (Jvm.ClassFile.FieldType.object "com/example/leading/leading/Role"))).before args0 about1 = true := code_word (m := ⟨1, 1⟩) (meth := k1m1) (c := k1c1) (by decide +kernel) rfl rfl rfl (by decide +kernel)
set_option maxRecDepth 65536 in
theorem w_c6 : (Jvm.Cond.code ({ cls := "com/example/leading/leading/LineAsPinLaw", name := "dir", desc := "(I)Lcom/example/leading/leading/Direction;" } : Jvm.MethodName) method_3_code (2 : Nat) (Option.some (Jvm.ClassFile.FieldType.object "com/example/leading/leading/Direction"))).before args0 about1 = true := code_word (m := ⟨1, 2⟩) (meth := k1m2) (c := k1c2) (by decide +kernel) rfl rfl rfl (by decide +kernel)
set_option maxRecDepth 65536 in
theorem w_c7 : (Jvm.Cond.code ({ cls := "com/example/leading/leading/Line", name := "<init>", desc := "(Ljava/util/List;Lcom/example/leading/leading/Box;Lcom/example/leading/leading/Direction;Lcom/example/leading/leading/Role;)V" } : Jvm.MethodName) prog_17_method_1_code (5 : Nat) (Option.none : Option Jvm.ClassFile.FieldType)).before args0 about1 = true := code_word (m := ⟨18, 0⟩) (meth := k18m0) (c := k18c0) (by decide +kernel) rfl rfl rfl (by decide +kernel)
set_option maxRecDepth 65536 in
theorem w_c8 : (Jvm.Cond.code ({ cls := "java/lang/Record", name := "<init>", desc := "()V" } : Jvm.MethodName) jdk_30_method_1_code (1 : Nat) (Option.none : Option Jvm.ClassFile.FieldType)).before args0 about1 = true := code_word (m := ⟨17, 0⟩) (meth := k17m0) (c := k17c0) (by decide +kernel) rfl rfl rfl (by decide +kernel)
set_option maxRecDepth 65536 in
theorem w_c9 : (Jvm.Cond.code ({ cls := "com/example/leading/leading/Line", name := "as", desc := "(Lcom/example/leading/leading/Role;)Lcom/example/leading/leading/Line;" } : Jvm.MethodName) prog_17_method_4_code (2 : Nat) (Option.some (Jvm.ClassFile.FieldType.object "com/example/leading/leading/Line"))).before args0 about1 = true := code_word (m := ⟨18, 1⟩) (meth := k18m1) (c := k18c1) (by decide +kernel) rfl rfl rfl (by decide +kernel)
set_option maxRecDepth 65536 in
theorem w_c10 : (Jvm.Cond.code ({ cls := "com/example/leading/leading/Line", name := "role", desc := "()Lcom/example/leading/leading/Role;" } : Jvm.MethodName) prog_17_method_11_code (1 : Nat) (Option.some (Jvm.ClassFile.FieldType.object "com/example/leading/leading/Role"))).before args0 about1 = true := code_word (m := ⟨18, 5⟩) (meth := k18m5) (c := k18c5) (by decide +kernel) rfl rfl rfl (by decide +kernel)
set_option maxRecDepth 65536 in
theorem w_c11 : (Jvm.Cond.code ({ cls := "com/example/leading/leading/Line", name := "words", desc := "()Ljava/util/List;" } : Jvm.MethodName) prog_17_method_8_code (1 : Nat) (Option.some (Jvm.ClassFile.FieldType.object "java/util/List"))).before args0 about1 = true := code_word (m := ⟨18, 2⟩) (meth := k18m2) (c := k18c2) (by decide +kernel) rfl rfl rfl (by decide +kernel)
set_option maxRecDepth 65536 in
theorem w_c12 : (Jvm.Cond.code ({ cls := "com/example/leading/leading/Line", name := "box", desc := "()Lcom/example/leading/leading/Box;" } : Jvm.MethodName) prog_17_method_9_code (1 : Nat) (Option.some (Jvm.ClassFile.FieldType.object "com/example/leading/leading/Box"))).before args0 about1 = true := code_word (m := ⟨18, 3⟩) (meth := k18m3) (c := k18c3) (by decide +kernel) rfl rfl rfl (by decide +kernel)
set_option maxRecDepth 65536 in
theorem w_c13 : (Jvm.Cond.code ({ cls := "com/example/leading/leading/Line", name := "direction", desc := "()Lcom/example/leading/leading/Direction;" } : Jvm.MethodName) prog_17_method_10_code (1 : Nat) (Option.some (Jvm.ClassFile.FieldType.object "com/example/leading/leading/Direction"))).before args0 about1 = true := code_word (m := ⟨18, 4⟩) (meth := k18m4) (c := k18c4) (by decide +kernel) rfl rfl rfl (by decide +kernel)
def codes1 : List Jvm.Cond := [Jvm.Cond.code x code maxLocals ret, Jvm.Cond.code ({ cls := "java/util/ArrayList", name := "<init>", desc := "()V" } : Jvm.MethodName) jdk_38_method_2_code (1 : Nat) (Option.none : Option Jvm.ClassFile.FieldType), Jvm.Cond.code ({ cls := "java/util/AbstractList", name := "<init>", desc := "()V" } : Jvm.MethodName) jdk_39_method_1_code (1 : Nat) (Option.none : Option Jvm.ClassFile.FieldType), Jvm.Cond.code ({ cls := "java/util/AbstractCollection", name := "<init>", desc := "()V" } : Jvm.MethodName) jdk_22_method_1_code (1 : Nat) (Option.none : Option Jvm.ClassFile.FieldType), Jvm.Cond.code ({ cls := "java/lang/Object", name := "<init>", desc := "()V" } : Jvm.MethodName) object_method_1_code (1 : Nat) (Option.none : Option Jvm.ClassFile.FieldType), Jvm.Cond.code ({ cls := "com/example/leading/leading/LineAsPinLaw", name := "role", desc := "(I)Lcom/example/leading/leading/Role;" } : Jvm.MethodName) method_2_code (2 : Nat) (Option.some (Jvm.ClassFile.FieldType.object "com/example/leading/leading/Role")), Jvm.Cond.code ({ cls := "com/example/leading/leading/LineAsPinLaw", name := "dir", desc := "(I)Lcom/example/leading/leading/Direction;" } : Jvm.MethodName) method_3_code (2 : Nat) (Option.some (Jvm.ClassFile.FieldType.object "com/example/leading/leading/Direction")), Jvm.Cond.code ({ cls := "com/example/leading/leading/Line", name := "<init>", desc := "(Ljava/util/List;Lcom/example/leading/leading/Box;Lcom/example/leading/leading/Direction;Lcom/example/leading/leading/Role;)V" } : Jvm.MethodName) prog_17_method_1_code (5 : Nat) (Option.none : Option Jvm.ClassFile.FieldType), Jvm.Cond.code ({ cls := "java/lang/Record", name := "<init>", desc := "()V" } : Jvm.MethodName) jdk_30_method_1_code (1 : Nat) (Option.none : Option Jvm.ClassFile.FieldType), Jvm.Cond.code ({ cls := "com/example/leading/leading/Line", name := "as", desc := "(Lcom/example/leading/leading/Role;)Lcom/example/leading/leading/Line;" } : Jvm.MethodName) prog_17_method_4_code (2 : Nat) (Option.some (Jvm.ClassFile.FieldType.object "com/example/leading/leading/Line")), Jvm.Cond.code ({ cls := "com/example/leading/leading/Line", name := "role", desc := "()Lcom/example/leading/leading/Role;" } : Jvm.MethodName) prog_17_method_11_code (1 : Nat) (Option.some (Jvm.ClassFile.FieldType.object "com/example/leading/leading/Role")), Jvm.Cond.code ({ cls := "com/example/leading/leading/Line", name := "words", desc := "()Ljava/util/List;" } : Jvm.MethodName) prog_17_method_8_code (1 : Nat) (Option.some (Jvm.ClassFile.FieldType.object "java/util/List")), Jvm.Cond.code ({ cls := "com/example/leading/leading/Line", name := "box", desc := "()Lcom/example/leading/leading/Box;" } : Jvm.MethodName) prog_17_method_9_code (1 : Nat) (Option.some (Jvm.ClassFile.FieldType.object "com/example/leading/leading/Box")), Jvm.Cond.code ({ cls := "com/example/leading/leading/Line", name := "direction", desc := "()Lcom/example/leading/leading/Direction;" } : Jvm.MethodName) prog_17_method_10_code (1 : Nat) (Option.some (Jvm.ClassFile.FieldType.object "com/example/leading/leading/Direction"))]
set_option maxRecDepth 65536 in
theorem codes_eq : words1.filter isCode = codes1 := rfl
theorem w_codes : ∀ c ∈ words1.filter isCode, c.before args0 about1 = true := by
  rw [codes_eq]
  intro c hc
  simp only [codes1, List.mem_cons, List.not_mem_nil, or_false] at hc
  rcases hc with rfl | rfl | rfl | rfl | rfl | rfl | rfl | rfl | rfl | rfl | rfl | rfl | rfl | rfl
  · exact w_c0
  · exact w_c1
  · exact w_c2
  · exact w_c3
  · exact w_c4
  · exact w_c5
  · exact w_c6
  · exact w_c7
  · exact w_c8
  · exact w_c9
  · exact w_c10
  · exact w_c11
  · exact w_c12
  · exact w_c13
set_option maxRecDepth 65536 in
theorem w_t1 : (words1.take 24).all (fun c => isCode c || c.before args0 about1) = true := by decide +kernel
set_option maxRecDepth 65536 in
theorem w_t2 : ((words1.drop 24).take 24).all (fun c => isCode c || c.before args0 about1) = true := by decide +kernel
set_option maxRecDepth 65536 in
theorem w_t3 : (((words1.drop 24).drop 24).take 24).all (fun c => isCode c || c.before args0 about1) = true := by decide +kernel
set_option maxRecDepth 65536 in
theorem w_t4 : ((((words1.drop 24).drop 24).drop 24).take 24).all (fun c => isCode c || c.before args0 about1) = true := by decide +kernel
set_option maxRecDepth 65536 in
theorem w_t5 : ((((words1.drop 24).drop 24).drop 24).drop 24).all (fun c => isCode c || c.before args0 about1) = true := by decide +kernel
theorem w_tables : (allAtoms (Jvm.Cond.code x code maxLocals ret :: tables_1)).before args0 about1 = true := by
  rw [allAtoms_all]
  show words1.all (fun c => c.before args0 about1) = true
  refine all_split ?_ w_codes
  rw [← List.take_append_drop 24 words1, List.all_append, w_t1, ← List.take_append_drop 24 (words1.drop 24), List.all_append, w_t2, ← List.take_append_drop 24 ((words1.drop 24).drop 24), List.all_append, w_t3, ← List.take_append_drop 24 (((words1.drop 24).drop 24).drop 24), List.all_append, w_t4, w_t5]
  rfl
set_option maxRecDepth 65536 in
theorem w_rest : rest_1_c.before args0 about1 = true := by decide +kernel
set_option maxRecDepth 65536 in
theorem w_case : (Jvm.Cond.and given_1 narrow_1).before args0 about1 = true := by decide +kernel
theorem w_applies : (headSpec (Jvm.Cond.code x code maxLocals ret :: tables_1) room_1).applies x e0.platform about1 = true :=
  (Spec.applies_iff w_frames).mpr ⟨w_running, w_runnable, w_alone, w_named, w_hears, w_ripe, w_room, w_tables⟩
theorem atStart : AtStart classFile x code maxLocals ret World_1 tables_1 room_1 Calls_1 rest_1 Pre_1 launch0 p0 e0 about1 theMethod args0 below0 :=
  ⟨lists_1, trivial, launch0.admits_env _ _ _, launch0.least_env, fairChoices_fair.cas, fairChoices_fair.clock, w_frames, w_args, w_heap, w_applies, trivial, w_rest, w_case⟩
end start1
theorem witness_1 : WitnessClaimed_1 := ⟨start1.p0, start1.e0, start1.about1, start1.theMethod, start1.args0, start1.below0, start1.atStart⟩
end Jvm.Pilot.@@N@@
