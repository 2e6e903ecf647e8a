import JvmDerived
import JvmDerived.Pilot.@@N@@Statement
import JvmDerived.Pilot.@@N@@Code
set_option linter.unusedVariables false
set_option linter.unusedSimpArgs false
namespace Jvm.Own
open Sem ClassFile Op Lib Jvm.Stand Jvm.Free Jvm.LawKit Jvm.RoadKit
/-- from here the run comes back, and F says how -/
def Go (p : Program) (e : Env) (below : List Frame) (m : MethodId) (F : Outcome → State → Prop) (T : State) (pc : Nat) (ls : Array Slot) (st : List Value) : Prop :=
  ∃ V o, Steps p.tables e below (T.setTop (mkF m pc ls st)) V ∧ V.status = .running ∧ Ended V below o ∧ F o V
def Fini (s : State) (rc rs : Nat) (Q : Option Value → Heap → List Loc → Prop) (o : Outcome) (V : State) : Prop := ∃ v L, o = .returned v ∧ Q v V.heap L ∧ FrameEnd s o V L rc rs
abbrev Ctr (l : Launch) (Z : State) (y : MethodName) (bytes : ByteArray) (maxL : Nat) (ret : Option FieldType) (ws : List Cond) (rm : Room) (as' : Array Value) (h : Heap) (Q : Option Value → Heap → List Loc → Prop) : Prop :=
  MetFree l y (head1 (Cond.code y bytes maxL ret :: ws) rm) (fun a U => a = as' ∧ Z.Warmed39 U.vm ∧ U.heap = h) (fun _ _ _ _ _ => True) (fun _ U o U' => ∃ v L, o = .returned v ∧ Q v U'.heap L ∧ FrameEnd U o U' L rm.cells rm.slots)
theorem enter {l : Launch} {Z : State} {y : MethodName} {bytes : ByteArray} {maxL : Nat} {ret : Option FieldType} {ws : List Cond} {rm : Room} {as' : Array Value} {h : Heap} {Q : Option Value → Heap → List Loc → Prop} (hpn : plainFor y = true)
    (body : ∀ (p : Program) (e : Env) (s : State) (m : MethodId) (below : List Frame) (meth : Method) (c : Code) (T : State), Stand p l e rm s m as' below meth c T [] 0 0 → p.tables.exec = Jvm.exec → c.code = bytes → c.maxLocals = maxL → meth.sig.returnType = ret → meth.locks = false → Z.Warmed39 s.vm → s.vm.findClass y.cls = some m.cls → meth.name = y.name → T.heap = h →
      ∃ V o, Steps p.tables e below (T.setTop (entryFrame m as' maxL)) V ∧ V.status = .running ∧ Ended V below o ∧ Fini s rm.cells rm.slots Q o V) : Ctr l Z y bytes maxL ret ws rm as' h Q := by
  refine MetFree.of_bodySF hpn hisR ?_
  intro p e s m args below meth c s₁ Bd hml0 hP hK
  obtain ⟨rfl, hZ, hh⟩ := hP
  exact body p e s m below meth c s₁ (Stand.of_body Bd) Bd.exec Bd.bytes hml0 Bd.returns Bd.notSynchronized hZ (findClass_of_methodNamed Bd.named) (name_of_methodNamed Bd.named Bd.method).1 (by rw [← hh, Bd.state]; rfl)
theorem goIn {p : Program} {e : Env} {below : List Frame} {m : MethodId} {F : Outcome → State → Prop} {T : State} {as' : Array Value} {n : Nat} {ls : Array Slot} (q : entryFrame m as' n = mkF m 0 ls []) (k : Go p e below m F T 0 ls []) :
    ∃ V o, Steps p.tables e below (T.setTop (entryFrame m as' n)) V ∧ V.status = .running ∧ Ended V below o ∧ F o V := by rw [q]; exact k
def Wk (p : Program) (below : List Frame) (m : MethodId) (c : Code) (b : ByteArray) (T : State) : Prop := At T m c below ∧ p.tables.exec = Jvm.exec ∧ c.code = b
theorem Go.of {p : Program} {e : Env} {below : List Frame} {m : MethodId} {F : Outcome → State → Prop} {T T' : State} {pc pc' : Nat} {ls ls' : Array Slot} {st st' : List Value} (k : Go p e below m F T' pc' ls' st')
    (q : ∀ t, Steps p.tables e below (T'.setTop (mkF m pc' ls' st')) t → Steps p.tables e below (T.setTop (mkF m pc ls st)) t) : Go p e below m F T pc ls st := by
  obtain ⟨V, o, h1, h2⟩ := k
  exact ⟨V, o, q V h1, h2⟩
section Plain
variable {p : Program} {l : Launch} {e : Env} {R : Room} {s : State} {m : MethodId} {args : Array Value} {below : List Frame} {meth : Method} {c : Code} {T : State} {locs : List Loc} {cells slots : Nat} {Z : State} {a0 : Array Value} {h : Heap} {b : ByteArray} {F : Outcome → State → Prop} {pc pc' : Nat} {ls : Array Slot} {rest : List Value}
theorem wk (X : Stand p l e R s m args below meth c T locs cells slots) (hx : p.tables.exec = Jvm.exec) (hby : c.code = b) : Wk p below m c b T := ⟨X.here, hx, hby⟩
theorem s_iconst {i : Int} {v : Int32} (A : Wk p below m c b T) (hd : decode b pc = .ok (.iconst i, 1)) (hp : pc + 1 = pc') (hv : Int32.ofInt i = v) (k : Go p e below m F T pc' ls (.int v :: rest)) : Go p e below m F T pc ls rest := by
  subst hp hv
  exact k.of fun t k => XS.iconst A.1 A.2.1 rfl (hb A.2.2 hd) k
theorem s_bipush {i : Int} {v : Int32} (A : Wk p below m c b T) (hd : decode b pc = .ok (.bipush i, 2)) (hp : pc + 2 = pc') (hv : (Int8.ofInt i).toInt32 = v) (k : Go p e below m F T pc' ls (.int v :: rest)) : Go p e below m F T pc ls rest := by
  subst hp hv
  exact k.of fun t k => XS.bipush A.1 A.2.1 rfl (hb A.2.2 hd) k
theorem s_sipush {i : Int} {v : Int32} (A : Wk p below m c b T) (hd : decode b pc = .ok (.sipush i, 3)) (hp : pc + 3 = pc') (hv : (Int16.ofInt i).toInt32 = v) (k : Go p e below m F T pc' ls (.int v :: rest)) : Go p e below m F T pc ls rest := by
  subst hp hv
  exact k.of fun t k => XS.sipush A.1 A.2.1 rfl (hb A.2.2 hd) k
theorem s_lconst {i : Fin 2} {v : Int64} (A : Wk p below m c b T) (hd : decode b pc = .ok (.lconst i, 1)) (hp : pc + 1 = pc') (hv : Int64.ofNat i = v) (k : Go p e below m F T pc' ls (.long v :: rest)) : Go p e below m F T pc ls rest := by
  subst hp hv
  exact k.of fun t k => XT.lconst A.1 A.2.1 rfl (hb A.2.2 hd) k
theorem s_dconst0 {v : UInt64} (A : Wk p below m c b T) (hd : decode b pc = .ok (.dconst 0, 1)) (hp : pc + 1 = pc') (hv : FP.dconst0 = v) (k : Go p e below m F T pc' ls (.double v :: rest)) : Go p e below m F T pc ls rest := by
  subst hp hv
  exact k.of fun t k => XS.dconst0 A.1 A.2.1 rfl (hb A.2.2 hd) rfl k
theorem s_dconst1 {v : UInt64} (A : Wk p below m c b T) (hd : decode b pc = .ok (.dconst 1, 1)) (hp : pc + 1 = pc') (hv : FP.dconst1 = v) (k : Go p e below m F T pc' ls (.double v :: rest)) : Go p e below m F T pc ls rest := by
  subst hp hv
  exact k.of fun t k => XS.dconst1 A.1 A.2.1 rfl (hb A.2.2 hd) rfl k
theorem s_aconstNull  (A : Wk p below m c b T) (hd : decode b pc = .ok (.aconst_null, 1)) (hp : pc + 1 = pc')  (k : Go p e below m F T pc' ls (.null :: rest)) : Go p e below m F T pc ls rest := by
  subst hp
  exact k.of fun t k => XS.aconstNull A.1 A.2.1 rfl (hb A.2.2 hd) k
theorem s_iloadN {i : Fin 4} {v : Int32} (A : Wk p below m c b T) (hd : decode b pc = .ok (.iload_n i, 1)) (hp : pc + 1 = pc') (hl : ls[i.val]? = some (.val (.int v))) (k : Go p e below m F T pc' ls (.int v :: rest)) : Go p e below m F T pc ls rest := by
  subst hp
  exact k.of fun t k => XS.iloadN A.1 A.2.1 rfl (hb A.2.2 hd) hl k
theorem s_iload {i : Nat} {v : Int32} (A : Wk p below m c b T) (hd : decode b pc = .ok (.iload i, 2)) (hp : pc + 2 = pc') (hl : ls[i]? = some (.val (.int v))) (k : Go p e below m F T pc' ls (.int v :: rest)) : Go p e below m F T pc ls rest := by
  subst hp
  exact k.of fun t k => XS.iload A.1 A.2.1 rfl (hb A.2.2 hd) hl k
theorem s_lloadN {i : Fin 4} {v : Int64} (A : Wk p below m c b T) (hd : decode b pc = .ok (.lload_n i, 1)) (hp : pc + 1 = pc') (hl : ls[i.val]? = some (.val (.long v))) (k : Go p e below m F T pc' ls (.long v :: rest)) : Go p e below m F T pc ls rest := by
  subst hp
  exact k.of fun t k => XT.lloadN A.1 A.2.1 rfl (hb A.2.2 hd) hl k
theorem s_lload {i : Nat} {v : Int64} (A : Wk p below m c b T) (hd : decode b pc = .ok (.lload i, 2)) (hp : pc + 2 = pc') (hl : ls[i]? = some (.val (.long v))) (k : Go p e below m F T pc' ls (.long v :: rest)) : Go p e below m F T pc ls rest := by
  subst hp
  exact k.of fun t k => XT.lload A.1 A.2.1 rfl (hb A.2.2 hd) hl k
theorem s_dloadN {i : Fin 4} {v : UInt64} (A : Wk p below m c b T) (hd : decode b pc = .ok (.dload_n i, 1)) (hp : pc + 1 = pc') (hl : ls[i.val]? = some (.val (.double v))) (k : Go p e below m F T pc' ls (.double v :: rest)) : Go p e below m F T pc ls rest := by
  subst hp
  exact k.of fun t k => XS.dloadN A.1 A.2.1 rfl (hb A.2.2 hd) hl k
theorem s_dload {i : Nat} {v : UInt64} (A : Wk p below m c b T) (hd : decode b pc = .ok (.dload i, 2)) (hp : pc + 2 = pc') (hl : ls[i]? = some (.val (.double v))) (k : Go p e below m F T pc' ls (.double v :: rest)) : Go p e below m F T pc ls rest := by
  subst hp
  exact k.of fun t k => XS.dload A.1 A.2.1 rfl (hb A.2.2 hd) hl k
theorem s_aloadN {i : Fin 4} {v : Value} (A : Wk p below m c b T) (hd : decode b pc = .ok (.aload_n i, 1)) (hp : pc + 1 = pc') (hl : ls[i.val]? = some (.val v)) (hv : v.isRef = true) (k : Go p e below m F T pc' ls (v :: rest)) : Go p e below m F T pc ls rest := by
  subst hp
  exact k.of fun t k => XS.aloadN A.1 A.2.1 rfl (hb A.2.2 hd) hl hv k
theorem s_aload {i : Nat} {v : Value} (A : Wk p below m c b T) (hd : decode b pc = .ok (.aload i, 2)) (hp : pc + 2 = pc') (hl : ls[i]? = some (.val v)) (hv : v.isRef = true) (k : Go p e below m F T pc' ls (v :: rest)) : Go p e below m F T pc ls rest := by
  subst hp
  exact k.of fun t k => XS.aload A.1 A.2.1 rfl (hb A.2.2 hd) hl hv k
theorem s_istoreN {i : Fin 4} {v : Int32} {ls' : Array Slot} (A : Wk p below m c b T) (hd : decode b pc = .ok (.istore_n i, 1)) (hp : pc + 1 = pc') (hl : storeLocals ls i.val (.int v) = some ls') (k : Go p e below m F T pc' ls' rest) : Go p e below m F T pc ls (.int v :: rest) := by
  subst hp
  exact k.of fun t k => XS.istoreN A.1 A.2.1 rfl (hb A.2.2 hd) rfl hl k
theorem s_istore {i : Nat} {v : Int32} {ls' : Array Slot} (A : Wk p below m c b T) (hd : decode b pc = .ok (.istore i, 2)) (hp : pc + 2 = pc') (hl : storeLocals ls i (.int v) = some ls') (k : Go p e below m F T pc' ls' rest) : Go p e below m F T pc ls (.int v :: rest) := by
  subst hp
  exact k.of fun t k => XS.istore A.1 A.2.1 rfl (hb A.2.2 hd) rfl hl k
theorem s_lstoreN {i : Fin 4} {v : Int64} {ls' : Array Slot} (A : Wk p below m c b T) (hd : decode b pc = .ok (.lstore_n i, 1)) (hp : pc + 1 = pc') (hl : storeLocals ls i.val (.long v) = some ls') (k : Go p e below m F T pc' ls' rest) : Go p e below m F T pc ls (.long v :: rest) := by
  subst hp
  exact k.of fun t k => XT.lstoreN A.1 A.2.1 rfl (hb A.2.2 hd) rfl hl k
theorem s_lstore {i : Nat} {v : Int64} {ls' : Array Slot} (A : Wk p below m c b T) (hd : decode b pc = .ok (.lstore i, 2)) (hp : pc + 2 = pc') (hl : storeLocals ls i (.long v) = some ls') (k : Go p e below m F T pc' ls' rest) : Go p e below m F T pc ls (.long v :: rest) := by
  subst hp
  exact k.of fun t k => XT.lstore A.1 A.2.1 rfl (hb A.2.2 hd) rfl hl k
theorem s_dstoreN {i : Fin 4} {v : UInt64} {ls' : Array Slot} (A : Wk p below m c b T) (hd : decode b pc = .ok (.dstore_n i, 1)) (hp : pc + 1 = pc') (hl : storeLocals ls i.val (.double v) = some ls') (k : Go p e below m F T pc' ls' rest) : Go p e below m F T pc ls (.double v :: rest) := by
  subst hp
  exact k.of fun t k => XS.dstoreN A.1 A.2.1 rfl (hb A.2.2 hd) rfl hl k
theorem s_dstore {i : Nat} {v : UInt64} {ls' : Array Slot} (A : Wk p below m c b T) (hd : decode b pc = .ok (.dstore i, 2)) (hp : pc + 2 = pc') (hl : storeLocals ls i (.double v) = some ls') (k : Go p e below m F T pc' ls' rest) : Go p e below m F T pc ls (.double v :: rest) := by
  subst hp
  exact k.of fun t k => XS.dstore A.1 A.2.1 rfl (hb A.2.2 hd) rfl hl k
theorem s_astoreN {i : Fin 4} {v : Value} {ls' : Array Slot} (A : Wk p below m c b T) (hd : decode b pc = .ok (.astore_n i, 1)) (hp : pc + 1 = pc') (hv : v.isRef = true) (hl : storeLocals ls i.val v = some ls') (k : Go p e below m F T pc' ls' rest) : Go p e below m F T pc ls (v :: rest) := by
  subst hp
  exact k.of fun t k => XS.astoreN A.1 A.2.1 rfl (hb A.2.2 hd) rfl hv hl k
theorem s_astore {i : Nat} {v : Value} {ls' : Array Slot} (A : Wk p below m c b T) (hd : decode b pc = .ok (.astore i, 2)) (hp : pc + 2 = pc') (hv : v.isRef = true) (hl : storeLocals ls i v = some ls') (k : Go p e below m F T pc' ls' rest) : Go p e below m F T pc ls (v :: rest) := by
  subst hp
  exact k.of fun t k => XS.astore A.1 A.2.1 rfl (hb A.2.2 hd) rfl hv hl k
theorem s_iinc {i : Nat} {cst : Int} {x v : Int32} {ls' : Array Slot} (A : Wk p below m c b T) (hd : decode b pc = .ok (.iinc i cst, 3)) (hp : pc + 3 = pc') (hl : ls[i]? = some (.val (.int x))) (hv : x + Int32.ofInt cst = v) (hl' : storeLocals ls i (.int v) = some ls') (k : Go p e below m F T pc' ls' rest) : Go p e below m F T pc ls rest := by
  subst hp hv
  exact k.of fun t k => XS.iinc A.1 A.2.1 rfl (hb A.2.2 hd) hl hl' k
theorem s_iadd {x y v : Int32} (A : Wk p below m c b T) (hd : decode b pc = .ok (.iadd, 1)) (hp : pc + 1 = pc') (hv : x + y = v) (k : Go p e below m F T pc' ls (.int v :: rest)) : Go p e below m F T pc ls (.int y :: .int x :: rest) := by
  subst hp hv
  exact k.of fun t k => XS.iadd A.1 A.2.1 rfl (hb A.2.2 hd) rfl k
theorem s_isub {x y v : Int32} (A : Wk p below m c b T) (hd : decode b pc = .ok (.isub, 1)) (hp : pc + 1 = pc') (hv : x - y = v) (k : Go p e below m F T pc' ls (.int v :: rest)) : Go p e below m F T pc ls (.int y :: .int x :: rest) := by
  subst hp hv
  exact k.of fun t k => XS.isub A.1 A.2.1 rfl (hb A.2.2 hd) rfl k
theorem s_imul {x y v : Int32} (A : Wk p below m c b T) (hd : decode b pc = .ok (.imul, 1)) (hp : pc + 1 = pc') (hv : x * y = v) (k : Go p e below m F T pc' ls (.int v :: rest)) : Go p e below m F T pc ls (.int y :: .int x :: rest) := by
  subst hp hv
  exact k.of fun t k => XS.imul A.1 A.2.1 rfl (hb A.2.2 hd) rfl k
theorem s_iand {x y v : Int32} (A : Wk p below m c b T) (hd : decode b pc = .ok (.iand, 1)) (hp : pc + 1 = pc') (hv : x &&& y = v) (k : Go p e below m F T pc' ls (.int v :: rest)) : Go p e below m F T pc ls (.int y :: .int x :: rest) := by
  subst hp hv
  exact k.of fun t k => XS.iand A.1 A.2.1 rfl (hb A.2.2 hd) rfl k
theorem s_ior {x y v : Int32} (A : Wk p below m c b T) (hd : decode b pc = .ok (.ior, 1)) (hp : pc + 1 = pc') (hv : x ||| y = v) (k : Go p e below m F T pc' ls (.int v :: rest)) : Go p e below m F T pc ls (.int y :: .int x :: rest) := by
  subst hp hv
  exact k.of fun t k => XT.ior A.1 A.2.1 rfl (hb A.2.2 hd) rfl k
theorem s_ixor {x y v : Int32} (A : Wk p below m c b T) (hd : decode b pc = .ok (.ixor, 1)) (hp : pc + 1 = pc') (hv : x ^^^ y = v) (k : Go p e below m F T pc' ls (.int v :: rest)) : Go p e below m F T pc ls (.int y :: .int x :: rest) := by
  subst hp hv
  exact k.of fun t k => XT.ixor A.1 A.2.1 rfl (hb A.2.2 hd) rfl k
theorem s_idiv {x y v : Int32} (A : Wk p below m c b T) (hd : decode b pc = .ok (.idiv, 1)) (hp : pc + 1 = pc') (hy : y ≠ 0) (hv : x / y = v) (k : Go p e below m F T pc' ls (.int v :: rest)) : Go p e below m F T pc ls (.int y :: .int x :: rest) := by
  subst hp hv
  exact k.of fun t k => XS.idiv A.1 A.2.1 rfl (hb A.2.2 hd) rfl hy k
theorem s_irem {x y v : Int32} (A : Wk p below m c b T) (hd : decode b pc = .ok (.irem, 1)) (hp : pc + 1 = pc') (hy : y ≠ 0) (hv : x - (x / y) * y = v) (k : Go p e below m F T pc' ls (.int v :: rest)) : Go p e below m F T pc ls (.int y :: .int x :: rest) := by
  subst hp hv
  exact k.of fun t k => XS.irem A.1 A.2.1 rfl (hb A.2.2 hd) rfl hy k
theorem s_ladd {x y v : Int64} (A : Wk p below m c b T) (hd : decode b pc = .ok (.ladd, 1)) (hp : pc + 1 = pc') (hv : x + y = v) (k : Go p e below m F T pc' ls (.long v :: rest)) : Go p e below m F T pc ls (.long y :: .long x :: rest) := by
  subst hp hv
  exact k.of fun t k => XT.ladd A.1 A.2.1 rfl (hb A.2.2 hd) rfl k
theorem s_lsub {x y v : Int64} (A : Wk p below m c b T) (hd : decode b pc = .ok (.lsub, 1)) (hp : pc + 1 = pc') (hv : x - y = v) (k : Go p e below m F T pc' ls (.long v :: rest)) : Go p e below m F T pc ls (.long y :: .long x :: rest) := by
  subst hp hv
  exact k.of fun t k => XT.lsub A.1 A.2.1 rfl (hb A.2.2 hd) rfl k
theorem s_lmul {x y v : Int64} (A : Wk p below m c b T) (hd : decode b pc = .ok (.lmul, 1)) (hp : pc + 1 = pc') (hv : x * y = v) (k : Go p e below m F T pc' ls (.long v :: rest)) : Go p e below m F T pc ls (.long y :: .long x :: rest) := by
  subst hp hv
  exact k.of fun t k => XT.lmul A.1 A.2.1 rfl (hb A.2.2 hd) rfl k
theorem s_land {x y v : Int64} (A : Wk p below m c b T) (hd : decode b pc = .ok (.land, 1)) (hp : pc + 1 = pc') (hv : x &&& y = v) (k : Go p e below m F T pc' ls (.long v :: rest)) : Go p e below m F T pc ls (.long y :: .long x :: rest) := by
  subst hp hv
  exact k.of fun t k => XT.land A.1 A.2.1 rfl (hb A.2.2 hd) rfl k
theorem s_lor {x y v : Int64} (A : Wk p below m c b T) (hd : decode b pc = .ok (.lor, 1)) (hp : pc + 1 = pc') (hv : x ||| y = v) (k : Go p e below m F T pc' ls (.long v :: rest)) : Go p e below m F T pc ls (.long y :: .long x :: rest) := by
  subst hp hv
  exact k.of fun t k => XT.lor A.1 A.2.1 rfl (hb A.2.2 hd) rfl k
theorem s_lxor {x y v : Int64} (A : Wk p below m c b T) (hd : decode b pc = .ok (.lxor, 1)) (hp : pc + 1 = pc') (hv : x ^^^ y = v) (k : Go p e below m F T pc' ls (.long v :: rest)) : Go p e below m F T pc ls (.long y :: .long x :: rest) := by
  subst hp hv
  exact k.of fun t k => XT.lxor A.1 A.2.1 rfl (hb A.2.2 hd) rfl k
theorem s_ldiv {x y v : Int64} (A : Wk p below m c b T) (hd : decode b pc = .ok (.ldiv, 1)) (hp : pc + 1 = pc') (hy : y ≠ 0) (hv : x / y = v) (k : Go p e below m F T pc' ls (.long v :: rest)) : Go p e below m F T pc ls (.long y :: .long x :: rest) := by
  subst hp hv
  exact k.of fun t k => XT.ldiv A.1 A.2.1 rfl (hb A.2.2 hd) rfl hy k
theorem s_lrem {x y v : Int64} (A : Wk p below m c b T) (hd : decode b pc = .ok (.lrem, 1)) (hp : pc + 1 = pc') (hy : y ≠ 0) (hv : x - (x / y) * y = v) (k : Go p e below m F T pc' ls (.long v :: rest)) : Go p e below m F T pc ls (.long y :: .long x :: rest) := by
  subst hp hv
  exact k.of fun t k => XT.lrem A.1 A.2.1 rfl (hb A.2.2 hd) rfl hy k
theorem s_ishl {x v : Int32} {y : Int32} (A : Wk p below m c b T) (hd : decode b pc = .ok (.ishl, 1)) (hp : pc + 1 = pc') (hv : x <<< (y &&& 31) = v) (k : Go p e below m F T pc' ls (.int v :: rest)) : Go p e below m F T pc ls (.int y :: .int x :: rest) := by
  subst hp hv
  exact k.of fun t k => XT.ishl A.1 A.2.1 rfl (hb A.2.2 hd) rfl k
theorem s_ishr {x v : Int32} {y : Int32} (A : Wk p below m c b T) (hd : decode b pc = .ok (.ishr, 1)) (hp : pc + 1 = pc') (hv : x >>> (y &&& 31) = v) (k : Go p e below m F T pc' ls (.int v :: rest)) : Go p e below m F T pc ls (.int y :: .int x :: rest) := by
  subst hp hv
  exact k.of fun t k => XT.ishr A.1 A.2.1 rfl (hb A.2.2 hd) rfl k
theorem s_iushr {x v : Int32} {y : Int32} (A : Wk p below m c b T) (hd : decode b pc = .ok (.iushr, 1)) (hp : pc + 1 = pc') (hv : XT.ushr x y = v) (k : Go p e below m F T pc' ls (.int v :: rest)) : Go p e below m F T pc ls (.int y :: .int x :: rest) := by
  subst hp hv
  exact k.of fun t k => XT.iushr A.1 A.2.1 rfl (hb A.2.2 hd) rfl k
theorem s_lshl {x v : Int64} {y : Int32} (A : Wk p below m c b T) (hd : decode b pc = .ok (.lshl, 1)) (hp : pc + 1 = pc') (hv : x <<< (y.toInt64 &&& 63) = v) (k : Go p e below m F T pc' ls (.long v :: rest)) : Go p e below m F T pc ls (.int y :: .long x :: rest) := by
  subst hp hv
  exact k.of fun t k => XT.lshl A.1 A.2.1 rfl (hb A.2.2 hd) rfl k
theorem s_lshr {x v : Int64} {y : Int32} (A : Wk p below m c b T) (hd : decode b pc = .ok (.lshr, 1)) (hp : pc + 1 = pc') (hv : x >>> (y.toInt64 &&& 63) = v) (k : Go p e below m F T pc' ls (.long v :: rest)) : Go p e below m F T pc ls (.int y :: .long x :: rest) := by
  subst hp hv
  exact k.of fun t k => XT.lshr A.1 A.2.1 rfl (hb A.2.2 hd) rfl k
theorem s_lushr {x v : Int64} {y : Int32} (A : Wk p below m c b T) (hd : decode b pc = .ok (.lushr, 1)) (hp : pc + 1 = pc') (hv : XT.ushrL x y = v) (k : Go p e below m F T pc' ls (.long v :: rest)) : Go p e below m F T pc ls (.int y :: .long x :: rest) := by
  subst hp hv
  exact k.of fun t k => XT.lushr A.1 A.2.1 rfl (hb A.2.2 hd) rfl k
theorem s_i2b {x v : Int32} (A : Wk p below m c b T) (hd : decode b pc = .ok (.i2b, 1)) (hp : pc + 1 = pc') (hv : x.toInt8.toInt32 = v) (k : Go p e below m F T pc' ls (.int v :: rest)) : Go p e below m F T pc ls (.int x :: rest) := by
  subst hp hv
  exact k.of fun t k => XT.i2b A.1 A.2.1 rfl (hb A.2.2 hd) rfl k
theorem s_i2c {x v : Int32} (A : Wk p below m c b T) (hd : decode b pc = .ok (.i2c, 1)) (hp : pc + 1 = pc') (hv : x.toUInt32.toUInt16.toUInt32.toInt32 = v) (k : Go p e below m F T pc' ls (.int v :: rest)) : Go p e below m F T pc ls (.int x :: rest) := by
  subst hp hv
  exact k.of fun t k => XT.i2c A.1 A.2.1 rfl (hb A.2.2 hd) rfl k
theorem s_i2s {x v : Int32} (A : Wk p below m c b T) (hd : decode b pc = .ok (.i2s, 1)) (hp : pc + 1 = pc') (hv : x.toInt16.toInt32 = v) (k : Go p e below m F T pc' ls (.int v :: rest)) : Go p e below m F T pc ls (.int x :: rest) := by
  subst hp hv
  exact k.of fun t k => XT.i2s A.1 A.2.1 rfl (hb A.2.2 hd) rfl k
theorem s_lneg {x v : Int64} (A : Wk p below m c b T) (hd : decode b pc = .ok (.lneg, 1)) (hp : pc + 1 = pc') (hv : -x = v) (k : Go p e below m F T pc' ls (.long v :: rest)) : Go p e below m F T pc ls (.long x :: rest) := by
  subst hp hv
  exact k.of fun t k => XT.lneg A.1 A.2.1 rfl (hb A.2.2 hd) rfl k
theorem s_dupX1 {x y : Value} (A : Wk p below m c b T) (hd : decode b pc = .ok (.dup_x1, 1)) (hp : pc + 1 = pc') (hc : x.category = 1) (hc' : y.category = 1) (k : Go p e below m F T pc' ls (x :: y :: x :: rest)) : Go p e below m F T pc ls (x :: y :: rest) := by
  subst hp
  exact k.of fun t k => XT.dupX1 A.1 A.2.1 rfl (hb A.2.2 hd) rfl hc hc' k
theorem s_dup2 {x y : Value} (A : Wk p below m c b T) (hd : decode b pc = .ok (.dup2, 1)) (hp : pc + 1 = pc') (hc : x.category = 1) (hc' : y.category = 1) (k : Go p e below m F T pc' ls (x :: y :: x :: y :: rest)) : Go p e below m F T pc ls (x :: y :: rest) := by
  subst hp
  exact k.of fun t k => XT.dup2 A.1 A.2.1 rfl (hb A.2.2 hd) rfl hc hc' k
theorem s_i2l {x : Int32} {v : Int64} (A : Wk p below m c b T) (hd : decode b pc = .ok (.i2l, 1)) (hp : pc + 1 = pc') (hv : x.toInt64 = v) (k : Go p e below m F T pc' ls (.long v :: rest)) : Go p e below m F T pc ls (.int x :: rest) := by
  subst hp hv
  exact k.of fun t k => XT.i2l A.1 A.2.1 rfl (hb A.2.2 hd) rfl k
theorem s_l2i {x : Int64} {v : Int32} (A : Wk p below m c b T) (hd : decode b pc = .ok (.l2i, 1)) (hp : pc + 1 = pc') (hv : x.toInt32 = v) (k : Go p e below m F T pc' ls (.int v :: rest)) : Go p e below m F T pc ls (.long x :: rest) := by
  subst hp hv
  exact k.of fun t k => XT.l2i A.1 A.2.1 rfl (hb A.2.2 hd) rfl k
theorem s_ineg {x v : Int32} (A : Wk p below m c b T) (hd : decode b pc = .ok (.ineg, 1)) (hp : pc + 1 = pc') (hv : -x = v) (k : Go p e below m F T pc' ls (.int v :: rest)) : Go p e below m F T pc ls (.int x :: rest) := by
  subst hp hv
  exact k.of fun t k => XS.ineg A.1 A.2.1 rfl (hb A.2.2 hd) rfl k
theorem s_i2d {x : Int32} {v : UInt64} (A : Wk p below m c b T) (hd : decode b pc = .ok (.i2d, 1)) (hp : pc + 1 = pc') (hv : FP.i2d x = v) (k : Go p e below m F T pc' ls (.double v :: rest)) : Go p e below m F T pc ls (.int x :: rest) := by
  subst hp hv
  exact k.of fun t k => XS.i2dS A.1 A.2.1 rfl (hb A.2.2 hd) rfl rfl k
theorem s_l2d {x : Int64} {v : UInt64} (A : Wk p below m c b T) (hd : decode b pc = .ok (.l2d, 1)) (hp : pc + 1 = pc') (hv : FP.l2d x = v) (k : Go p e below m F T pc' ls (.double v :: rest)) : Go p e below m F T pc ls (.long x :: rest) := by
  subst hp hv
  exact k.of fun t k => XS.l2dS A.1 A.2.1 rfl (hb A.2.2 hd) rfl rfl k
theorem s_dneg {x v : UInt64} (A : Wk p below m c b T) (hd : decode b pc = .ok (.dneg, 1)) (hp : pc + 1 = pc') (hv : FP.dneg x = v) (k : Go p e below m F T pc' ls (.double v :: rest)) : Go p e below m F T pc ls (.double x :: rest) := by
  subst hp hv
  exact k.of fun t k => XS.dnegS A.1 A.2.1 rfl (hb A.2.2 hd) rfl rfl k
theorem s_dadd {x y v : UInt64} (A : Wk p below m c b T) (hd : decode b pc = .ok (.dadd, 1)) (hp : pc + 1 = pc') (hv : FP.dadd x y = v) (hn : Jvm.Free.Fl.NoNaN64 v) (k : Go p e below m F T pc' ls (.double v :: rest)) : Go p e below m F T pc ls (.double y :: .double x :: rest) := by
  subst hp hv
  exact k.of fun t k => XS.daddS A.1 A.2.1 rfl (hb A.2.2 hd) rfl hn rfl k
theorem s_dsub {x y v : UInt64} (A : Wk p below m c b T) (hd : decode b pc = .ok (.dsub, 1)) (hp : pc + 1 = pc') (hv : FP.dsub x y = v) (hn : Jvm.Free.Fl.NoNaN64 v) (k : Go p e below m F T pc' ls (.double v :: rest)) : Go p e below m F T pc ls (.double y :: .double x :: rest) := by
  subst hp hv
  exact k.of fun t k => XS.dsubS A.1 A.2.1 rfl (hb A.2.2 hd) rfl hn rfl k
theorem s_dmul {x y v : UInt64} (A : Wk p below m c b T) (hd : decode b pc = .ok (.dmul, 1)) (hp : pc + 1 = pc') (hv : FP.dmul x y = v) (hn : Jvm.Free.Fl.NoNaN64 v) (k : Go p e below m F T pc' ls (.double v :: rest)) : Go p e below m F T pc ls (.double y :: .double x :: rest) := by
  subst hp hv
  exact k.of fun t k => XS.dmulS A.1 A.2.1 rfl (hb A.2.2 hd) rfl hn rfl k
theorem s_ddiv {x y v : UInt64} (A : Wk p below m c b T) (hd : decode b pc = .ok (.ddiv, 1)) (hp : pc + 1 = pc') (hv : FP.ddiv x y = v) (hn : Jvm.Free.Fl.NoNaN64 v) (k : Go p e below m F T pc' ls (.double v :: rest)) : Go p e below m F T pc ls (.double y :: .double x :: rest) := by
  subst hp hv
  exact k.of fun t k => XS.ddivS A.1 A.2.1 rfl (hb A.2.2 hd) rfl hn rfl k
theorem s_dcmp {o : CmpOp} {x y : UInt64} {v : Int32} (A : Wk p below m c b T) (hd : decode b pc = .ok (.dcmp o, 1)) (hp : pc + 1 = pc') (hv : cmpValue (FP.dcmp x y) o = v) (k : Go p e below m F T pc' ls (.int v :: rest)) : Go p e below m F T pc ls (.double y :: .double x :: rest) := by
  subst hp hv
  exact k.of fun t k => XS.dcmpS A.1 A.2.1 rfl (hb A.2.2 hd) rfl rfl k
theorem s_lcmp {x y : Int64} {v : Int32} (A : Wk p below m c b T) (hd : decode b pc = .ok (.lcmp, 1)) (hp : pc + 1 = pc') (hv : XT.cmpL x y = v) (k : Go p e below m F T pc' ls (.int v :: rest)) : Go p e below m F T pc ls (.long y :: .long x :: rest) := by
  subst hp hv
  exact k.of fun t k => XT.lcmp A.1 A.2.1 rfl (hb A.2.2 hd) rfl k
theorem s_dup {x : Value} (A : Wk p below m c b T) (hd : decode b pc = .ok (.dup, 1)) (hp : pc + 1 = pc') (hc : x.category = 1) (k : Go p e below m F T pc' ls (x :: x :: rest)) : Go p e below m F T pc ls (x :: rest) := by
  subst hp
  exact k.of fun t k => XS.dup A.1 A.2.1 rfl (hb A.2.2 hd) rfl hc k
theorem s_pop {x : Value} (A : Wk p below m c b T) (hd : decode b pc = .ok (.pop, 1)) (hp : pc + 1 = pc') (hc : x.category = 1) (k : Go p e below m F T pc' ls rest) : Go p e below m F T pc ls (x :: rest) := by
  subst hp
  exact k.of fun t k => XT.pop A.1 A.2.1 rfl (hb A.2.2 hd) rfl hc k
theorem s_goto {o : Int} (A : Wk p below m c b T) (hd : decode b pc = .ok (.goto o, 3)) (ho : 0 ≤ (pc : Int) + o) (hp : ((pc : Int) + o).toNat = pc') {st : List Value} (k : Go p e below m F T pc' ls st) : Go p e below m F T pc ls st := by
  exact k.of fun t k => XS.goto A.1 A.2.1 rfl rfl (hb A.2.2 hd) ho hp k
theorem n32_lt {x y : Int32} (h : ¬ x < y) : x ≥ y := Int32.not_lt.mp h
theorem n32_le {x y : Int32} (h : ¬ x ≤ y) : x > y := Int32.not_le.mp h
theorem s_ifeq {o : Int} {pY pN : Nat} {x : Int32} (A : Wk p below m c b T) (hd : decode b pc = .ok (.ifCond .eq o, 3)) (ho : 0 ≤ (pc : Int) + o) (hY : ((pc : Int) + o).toNat = pY) (hN : pc + 3 = pN) (kY : x = 0 → Go p e below m F T pY ls rest) (kN : x ≠ 0 → Go p e below m F T pN ls rest) : Go p e below m F T pc ls (.int x :: rest) := by
  subst hN
  cases q : ifCond.holds .eq x with
  | true => exact (kY (beq_iff_eq.mp q)).of fun t k => XS.ifYes A.1 A.2.1 rfl rfl (hb A.2.2 hd) rfl q ho hY k
  | false => exact (kN (beq_eq_false_iff_ne.mp q)).of fun t k => XS.ifNo A.1 A.2.1 rfl (hb A.2.2 hd) rfl q k
theorem s_ifne {o : Int} {pY pN : Nat} {x : Int32} (A : Wk p below m c b T) (hd : decode b pc = .ok (.ifCond .ne o, 3)) (ho : 0 ≤ (pc : Int) + o) (hY : ((pc : Int) + o).toNat = pY) (hN : pc + 3 = pN) (kY : x ≠ 0 → Go p e below m F T pY ls rest) (kN : x = 0 → Go p e below m F T pN ls rest) : Go p e below m F T pc ls (.int x :: rest) := by
  subst hN
  cases q : ifCond.holds .ne x with
  | true => exact (kY (bne_iff_ne.mp q)).of fun t k => XS.ifYes A.1 A.2.1 rfl rfl (hb A.2.2 hd) rfl q ho hY k
  | false => exact (kN (bne_eq_false_iff_eq.mp q)).of fun t k => XS.ifNo A.1 A.2.1 rfl (hb A.2.2 hd) rfl q k
theorem s_iflt {o : Int} {pY pN : Nat} {x : Int32} (A : Wk p below m c b T) (hd : decode b pc = .ok (.ifCond .lt o, 3)) (ho : 0 ≤ (pc : Int) + o) (hY : ((pc : Int) + o).toNat = pY) (hN : pc + 3 = pN) (kY : x < 0 → Go p e below m F T pY ls rest) (kN : x ≥ 0 → Go p e below m F T pN ls rest) : Go p e below m F T pc ls (.int x :: rest) := by
  subst hN
  cases q : ifCond.holds .lt x with
  | true => exact (kY (of_decide_eq_true q)).of fun t k => XS.ifYes A.1 A.2.1 rfl rfl (hb A.2.2 hd) rfl q ho hY k
  | false => exact (kN (n32_lt (of_decide_eq_false q))).of fun t k => XS.ifNo A.1 A.2.1 rfl (hb A.2.2 hd) rfl q k
theorem s_ifge {o : Int} {pY pN : Nat} {x : Int32} (A : Wk p below m c b T) (hd : decode b pc = .ok (.ifCond .ge o, 3)) (ho : 0 ≤ (pc : Int) + o) (hY : ((pc : Int) + o).toNat = pY) (hN : pc + 3 = pN) (kY : x ≥ 0 → Go p e below m F T pY ls rest) (kN : x < 0 → Go p e below m F T pN ls rest) : Go p e below m F T pc ls (.int x :: rest) := by
  subst hN
  cases q : ifCond.holds .ge x with
  | true => exact (kY (of_decide_eq_true q)).of fun t k => XS.ifYes A.1 A.2.1 rfl rfl (hb A.2.2 hd) rfl q ho hY k
  | false => exact (kN (n32_le (of_decide_eq_false q))).of fun t k => XS.ifNo A.1 A.2.1 rfl (hb A.2.2 hd) rfl q k
theorem s_ifgt {o : Int} {pY pN : Nat} {x : Int32} (A : Wk p below m c b T) (hd : decode b pc = .ok (.ifCond .gt o, 3)) (ho : 0 ≤ (pc : Int) + o) (hY : ((pc : Int) + o).toNat = pY) (hN : pc + 3 = pN) (kY : x > 0 → Go p e below m F T pY ls rest) (kN : x ≤ 0 → Go p e below m F T pN ls rest) : Go p e below m F T pc ls (.int x :: rest) := by
  subst hN
  cases q : ifCond.holds .gt x with
  | true => exact (kY (of_decide_eq_true q)).of fun t k => XS.ifYes A.1 A.2.1 rfl rfl (hb A.2.2 hd) rfl q ho hY k
  | false => exact (kN (n32_lt (of_decide_eq_false q))).of fun t k => XS.ifNo A.1 A.2.1 rfl (hb A.2.2 hd) rfl q k
theorem s_ifle {o : Int} {pY pN : Nat} {x : Int32} (A : Wk p below m c b T) (hd : decode b pc = .ok (.ifCond .le o, 3)) (ho : 0 ≤ (pc : Int) + o) (hY : ((pc : Int) + o).toNat = pY) (hN : pc + 3 = pN) (kY : x ≤ 0 → Go p e below m F T pY ls rest) (kN : x > 0 → Go p e below m F T pN ls rest) : Go p e below m F T pc ls (.int x :: rest) := by
  subst hN
  cases q : ifCond.holds .le x with
  | true => exact (kY (of_decide_eq_true q)).of fun t k => XS.ifYes A.1 A.2.1 rfl rfl (hb A.2.2 hd) rfl q ho hY k
  | false => exact (kN (n32_le (of_decide_eq_false q))).of fun t k => XS.ifNo A.1 A.2.1 rfl (hb A.2.2 hd) rfl q k
theorem s_icmpeq {o : Int} {pY pN : Nat} {x y : Int32} (A : Wk p below m c b T) (hd : decode b pc = .ok (.if_icmp .eq o, 3)) (ho : 0 ≤ (pc : Int) + o) (hY : ((pc : Int) + o).toNat = pY) (hN : pc + 3 = pN) (kY : x = y → Go p e below m F T pY ls rest) (kN : x ≠ y → Go p e below m F T pN ls rest) : Go p e below m F T pc ls (.int y :: .int x :: rest) := by
  subst hN
  cases q : if_icmp.holds .eq x y with
  | true => exact (kY (beq_iff_eq.mp q)).of fun t k => XS.icmpYes A.1 A.2.1 rfl rfl (hb A.2.2 hd) rfl q ho hY k
  | false => exact (kN (beq_eq_false_iff_ne.mp q)).of fun t k => XS.icmpNo A.1 A.2.1 rfl (hb A.2.2 hd) rfl q k
theorem s_icmpne {o : Int} {pY pN : Nat} {x y : Int32} (A : Wk p below m c b T) (hd : decode b pc = .ok (.if_icmp .ne o, 3)) (ho : 0 ≤ (pc : Int) + o) (hY : ((pc : Int) + o).toNat = pY) (hN : pc + 3 = pN) (kY : x ≠ y → Go p e below m F T pY ls rest) (kN : x = y → Go p e below m F T pN ls rest) : Go p e below m F T pc ls (.int y :: .int x :: rest) := by
  subst hN
  cases q : if_icmp.holds .ne x y with
  | true => exact (kY (bne_iff_ne.mp q)).of fun t k => XS.icmpYes A.1 A.2.1 rfl rfl (hb A.2.2 hd) rfl q ho hY k
  | false => exact (kN (bne_eq_false_iff_eq.mp q)).of fun t k => XS.icmpNo A.1 A.2.1 rfl (hb A.2.2 hd) rfl q k
theorem s_icmplt {o : Int} {pY pN : Nat} {x y : Int32} (A : Wk p below m c b T) (hd : decode b pc = .ok (.if_icmp .lt o, 3)) (ho : 0 ≤ (pc : Int) + o) (hY : ((pc : Int) + o).toNat = pY) (hN : pc + 3 = pN) (kY : x < y → Go p e below m F T pY ls rest) (kN : x ≥ y → Go p e below m F T pN ls rest) : Go p e below m F T pc ls (.int y :: .int x :: rest) := by
  subst hN
  cases q : if_icmp.holds .lt x y with
  | true => exact (kY (of_decide_eq_true q)).of fun t k => XS.icmpYes A.1 A.2.1 rfl rfl (hb A.2.2 hd) rfl q ho hY k
  | false => exact (kN (n32_lt (of_decide_eq_false q))).of fun t k => XS.icmpNo A.1 A.2.1 rfl (hb A.2.2 hd) rfl q k
theorem s_icmpge {o : Int} {pY pN : Nat} {x y : Int32} (A : Wk p below m c b T) (hd : decode b pc = .ok (.if_icmp .ge o, 3)) (ho : 0 ≤ (pc : Int) + o) (hY : ((pc : Int) + o).toNat = pY) (hN : pc + 3 = pN) (kY : x ≥ y → Go p e below m F T pY ls rest) (kN : x < y → Go p e below m F T pN ls rest) : Go p e below m F T pc ls (.int y :: .int x :: rest) := by
  subst hN
  cases q : if_icmp.holds .ge x y with
  | true => exact (kY (of_decide_eq_true q)).of fun t k => XS.icmpYes A.1 A.2.1 rfl rfl (hb A.2.2 hd) rfl q ho hY k
  | false => exact (kN (n32_le (of_decide_eq_false q))).of fun t k => XS.icmpNo A.1 A.2.1 rfl (hb A.2.2 hd) rfl q k
theorem s_icmpgt {o : Int} {pY pN : Nat} {x y : Int32} (A : Wk p below m c b T) (hd : decode b pc = .ok (.if_icmp .gt o, 3)) (ho : 0 ≤ (pc : Int) + o) (hY : ((pc : Int) + o).toNat = pY) (hN : pc + 3 = pN) (kY : x > y → Go p e below m F T pY ls rest) (kN : x ≤ y → Go p e below m F T pN ls rest) : Go p e below m F T pc ls (.int y :: .int x :: rest) := by
  subst hN
  cases q : if_icmp.holds .gt x y with
  | true => exact (kY (of_decide_eq_true q)).of fun t k => XS.icmpYes A.1 A.2.1 rfl rfl (hb A.2.2 hd) rfl q ho hY k
  | false => exact (kN (n32_lt (of_decide_eq_false q))).of fun t k => XS.icmpNo A.1 A.2.1 rfl (hb A.2.2 hd) rfl q k
theorem s_icmple {o : Int} {pY pN : Nat} {x y : Int32} (A : Wk p below m c b T) (hd : decode b pc = .ok (.if_icmp .le o, 3)) (ho : 0 ≤ (pc : Int) + o) (hY : ((pc : Int) + o).toNat = pY) (hN : pc + 3 = pN) (kY : x ≤ y → Go p e below m F T pY ls rest) (kN : x > y → Go p e below m F T pN ls rest) : Go p e below m F T pc ls (.int y :: .int x :: rest) := by
  subst hN
  cases q : if_icmp.holds .le x y with
  | true => exact (kY (of_decide_eq_true q)).of fun t k => XS.icmpYes A.1 A.2.1 rfl rfl (hb A.2.2 hd) rfl q ho hY k
  | false => exact (kN (n32_le (of_decide_eq_false q))).of fun t k => XS.icmpNo A.1 A.2.1 rfl (hb A.2.2 hd) rfl q k
theorem s_nonnullY {o : Int} {a : Addr} (A : Wk p below m c b T) (hd : decode b pc = .ok (.ifnonnull o, 3)) (ho : 0 ≤ (pc : Int) + o) (hp : ((pc : Int) + o).toNat = pc') (k : Go p e below m F T pc' ls rest) : Go p e below m F T pc ls (.ref a :: rest) := by
  exact k.of fun t k => XT.ifnonnullYes A.1 A.2.1 rfl rfl (hb A.2.2 hd) rfl ho hp k
theorem s_acmpeq {o : Int} {pY pN : Nat} {x y : Value} (A : Wk p below m c b T) (hx' : x.isRef = true) (hy' : y.isRef = true) (hd : decode b pc = .ok (.if_acmp .eq o, 3)) (ho : 0 ≤ (pc : Int) + o) (hY : ((pc : Int) + o).toNat = pY) (hN : pc + 3 = pN) (kY : x = y → Go p e below m F T pY ls rest) (kN : x ≠ y → Go p e below m F T pN ls rest) : Go p e below m F T pc ls (y :: x :: rest) := by
  subst hN
  by_cases q : x = y
  · exact (kY q).of fun t k => XT.acmpYes A.1 A.2.1 rfl rfl (hb A.2.2 hd) rfl hx' hy' (decide_eq_true q) ho hY k
  · exact (kN q).of fun t k => XT.acmpNo A.1 A.2.1 rfl (hb A.2.2 hd) rfl hx' hy' (decide_eq_false q) k
theorem s_acmpne {o : Int} {pY pN : Nat} {x y : Value} (A : Wk p below m c b T) (hx' : x.isRef = true) (hy' : y.isRef = true) (hd : decode b pc = .ok (.if_acmp .ne o, 3)) (ho : 0 ≤ (pc : Int) + o) (hY : ((pc : Int) + o).toNat = pY) (hN : pc + 3 = pN) (kY : x ≠ y → Go p e below m F T pY ls rest) (kN : x = y → Go p e below m F T pN ls rest) : Go p e below m F T pc ls (y :: x :: rest) := by
  subst hN
  by_cases q : x = y
  · exact (kN q).of fun t k => XT.acmpNo A.1 A.2.1 rfl (hb A.2.2 hd) rfl hx' hy' (decide_eq_false (fun r => r q)) k
  · exact (kY q).of fun t k => XT.acmpYes A.1 A.2.1 rfl rfl (hb A.2.2 hd) rfl hx' hy' (decide_eq_true q) ho hY k
theorem s_tsw {dflt low high : Int} {offs : Array Int} {len : Nat} {o : Int} {i : Int32} (A : Wk p below m c b T) (hd : decode b pc = .ok (.tableswitch dflt low high offs, len)) (hin : ¬ (i.toInt < low ∨ i.toInt > high)) (hoff : offs[(i.toInt - low).toNat]? = some o) (ho : 0 ≤ (pc : Int) + o) (hp : ((pc : Int) + o).toNat = pc') (k : Go p e below m F T pc' ls rest) : Go p e below m F T pc ls (.int i :: rest) := by
  exact k.of fun t k => XS.tswIn A.1 A.2.1 rfl rfl (hb A.2.2 hd) rfl hin hoff ho hp k
end Plain
section Heap
variable {p : Program} {l : Launch} {e : Env} {R : Room} {s : State} {m : MethodId} {args : Array Value} {below : List Frame} {meth : Method} {c : Code} {T : State} {locs : List Loc} {cells slots : Nat} {Z : State} {a0 : Array Value} {h : Heap} {b : ByteArray} {F : Outcome → State → Prop} {pc pc' : Nat} {ls : Array Slot} {rest : List Value}
theorem g_ldcI (X : Stand p l e R s m args below meth c T locs cells slots) (hx : p.tables.exec = Jvm.exec) (hZ : Z.Warmed39 s.vm) {own : String} {i : Nat} {v : Int32} (hown : s.vm.findClass own = some m.cls) (w : (Cond.constant own i v).before a0 Z = true) (hd : decode c.code pc = .ok (.ldc i, 2)) (hp : pc + 2 = pc') (k : Go p e below m F T pc' ls (.int v :: rest)) : Go p e below m F T pc ls rest := by
  subst hp
  exact k.of fun t k => X.ldcInt hx hown (mvT hZ w) (g := mkF m pc ls rest) rfl hd t k
theorem g_ldcwI (X : Stand p l e R s m args below meth c T locs cells slots) (hx : p.tables.exec = Jvm.exec) (hZ : Z.Warmed39 s.vm) {own : String} {i : Nat} {v : Int32} (hown : s.vm.findClass own = some m.cls) (w : (Cond.constant own i v).before a0 Z = true) (hd : decode c.code pc = .ok (.ldc_w i, 3)) (hp : pc + 3 = pc') (k : Go p e below m F T pc' ls (.int v :: rest)) : Go p e below m F T pc ls rest := by
  subst hp
  exact k.of fun t k => X.ldcwInt hx hown (mvT hZ w) (g := mkF m pc ls rest) rfl hd t k
theorem g_ldcJ (X : Stand p l e R s m args below meth c T locs cells slots) (hx : p.tables.exec = Jvm.exec) (hZ : Z.Warmed39 s.vm) {own : String} {i : Nat} {v : Int64} (hown : s.vm.findClass own = some m.cls) (w : (Cond.constantLong own i v).before a0 Z = true) (hd : decode c.code pc = .ok (.ldc2_w i, 3)) (hp : pc + 3 = pc') (k : Go p e below m F T pc' ls (.long v :: rest)) : Go p e below m F T pc ls rest := by
  subst hp
  exact k.of fun t k => X.ldc2Long hx hown (mvT hZ w) (g := mkF m pc ls rest) rfl hd t k
theorem g_ldcD (X : Stand p l e R s m args below meth c T locs cells slots) (hx : p.tables.exec = Jvm.exec) (hZ : Z.Warmed39 s.vm) {own : String} {i : Nat} {v : UInt64} (hown : s.vm.findClass own = some m.cls) (w : (Cond.constantDouble own i v).before a0 Z = true) (hd : decode c.code pc = .ok (.ldc2_w i, 3)) (hp : pc + 3 = pc') (k : Go p e below m F T pc' ls (.double v :: rest)) : Go p e below m F T pc ls rest := by
  subst hp
  exact k.of fun t k => X.ldc2DoubleC hx hown (mvT hZ w) (g := mkF m pc ls rest) rfl hd t k
theorem g_getF (X : Stand p l e R s m args below meth c T locs cells slots) (hx : p.tables.exec = Jvm.exec) (hZ : Z.Warmed39 s.vm) {own R0 O n d : String} {i : Nat} (hown : s.vm.findClass own = some m.cls) (w : (Cond.fieldLink own i R0 n d).before a0 Z = true) (via : Via Z R0 O n d) (eT : T.heap = h) {a : Addr} {v : Value} (F0 : Fld Z h a O n d v) (hd : decode c.code pc = .ok (.getfield i, 3)) (hp : pc + 3 = pc') (k : ∀ T', Stand p l e R s m args below meth c T' locs cells slots → T'.heap = h → Go p e below m F T' pc' ls (v :: rest)) : Go p e below m F T pc ls (.ref a :: rest) := by
  subst hp
  obtain ⟨T', X', e', st⟩ := getF X hx hZ hown (host := "") (Or.inl w) via eT F0 (g := mkF m pc ls (.ref a :: rest)) rfl rfl hd
  exact (k T' X' e').of st
theorem g_getFN (X : Stand p l e R s m args below meth c T locs cells slots) (hx : p.tables.exec = Jvm.exec) (hZ : Z.Warmed39 s.vm) {own R0 O n d host : String} {i : Nat} (hown : s.vm.findClass own = some m.cls) (w : (Cond.fieldLinkNest own i R0 n d host).before a0 Z = true) (via : Via Z R0 O n d) (eT : T.heap = h) {a : Addr} {v : Value} (F0 : Fld Z h a O n d v) (hd : decode c.code pc = .ok (.getfield i, 3)) (hp : pc + 3 = pc') (k : ∀ T', Stand p l e R s m args below meth c T' locs cells slots → T'.heap = h → Go p e below m F T' pc' ls (v :: rest)) : Go p e below m F T pc ls (.ref a :: rest) := by
  subst hp
  obtain ⟨T', X', e', st⟩ := getF X hx hZ hown (host := host) (Or.inr w) via eT F0 (g := mkF m pc ls (.ref a :: rest)) rfl rfl hd
  exact (k T' X' e').of st
theorem g_putF (X : Stand p l e R s m args below meth c T locs cells slots) (hx : p.tables.exec = Jvm.exec) (hZ : Z.Warmed39 s.vm) {own R0 O n d C : String} {i kk : Nat} {ty : FieldType} (hown : s.vm.findClass own = some m.cls) (w : (Cond.fieldLink own i R0 n d).before a0 Z = true) (via : Via Z R0 O n d) (eT : T.heap = h) {a : Addr} {v old : Value} (F0 : Fld Z h a O n d old) (E : Exa Z h a C) (L : (Cond.lays C O n d).before a0 Z = true ∨ ((Cond.laysFinal C O n d).before a0 Z = true ∧ own = O ∧ meth.name = "<init>")) (wi : (Cond.instantiable C kk).before a0 Z = true) (hty : parseFieldDescriptor d = some ty) (hn : narrow ty v = v) (hf : fits ty v = true) (hd : decode c.code pc = .ok (.putfield i, 3)) (hp : pc + 3 = pc') (k : ∀ T' h', Stand p l e R s m args below meth c T' (locs ++ [⟨a, RoadKit.slotOf Z O n d⟩]) cells slots → T'.heap = h' → Wr h h' a (RoadKit.slotOf Z O n d) v → Go p e below m F T' pc' ls rest) : Go p e below m F T pc ls (v :: .ref a :: rest) := by
  subst hp
  obtain ⟨T', h', X', e', W', st⟩ := putF X hx hZ hown (host := "") (Or.inl w) via eT F0 E L wi hty hn hf (g := mkF m pc ls (v :: .ref a :: rest)) rfl rfl hd
  exact (k T' h' X' e' W').of st
theorem g_getS (X : Stand p l e R s m args below meth c T locs cells slots) (hx : p.tables.exec = Jvm.exec) (hZ : Z.Warmed39 s.vm) {own R0 O n d : String} {i : Nat} (hown : s.vm.findClass own = some m.cls) (w : (Cond.fieldLink own i R0 n d).before a0 Z = true) (via : Via Z R0 O n d) (eT : T.heap = h) {v : Value} (F0 : Sta Z h O n d v) (hd : decode c.code pc = .ok (.getstatic i, 3)) (hp : pc + 3 = pc') (k : ∀ T', Stand p l e R s m args below meth c T' locs cells slots → T'.heap = h → Go p e below m F T' pc' ls (v :: rest)) : Go p e below m F T pc ls rest := by
  subst hp
  obtain ⟨T', X', e', st⟩ := getS X hx hZ hown (host := "") w via eT F0 (g := mkF m pc ls rest) rfl hd
  exact (k T' X' e').of st
theorem g_new (X : Stand p l e R s m args below meth c T locs cells slots) (hx : p.tables.exec = Jvm.exec) (hZ : Z.Warmed39 s.vm) {own C : String} {i n : Nat} (hown : s.vm.findClass own = some m.cls) (w : (Cond.classLink own i C).before a0 Z = true) (wi : (Cond.instantiable C n).before a0 Z = true) (wz : (Cond.initialized C).before a0 Z = true) (eT : T.heap = h) (hd : decode c.code pc = .ok (.new i, 3)) (hp : pc + 3 = pc') (hc : cells + 1 ≤ R.cells) (hl : slots + n ≤ R.slots) (k : ∀ T' h' a, Stand p l e R s m args below meth c T' locs (cells + 1) (slots + n) → T'.heap = h' → Ext h h' → a = h.size → Exa Z h' a C → (∀ {O nm d : String} {ty : FieldType}, Laid Z a0 C O nm d → parseFieldDescriptor d = some ty → Fld Z h' a O nm d (defaultValue ty)) → Go p e below m F T' pc' ls (.ref a :: rest)) : Go p e below m F T pc ls rest := by
  subst hp
  obtain ⟨T', h', X', e', E', A', D', -, st⟩ := newO X hx hZ hown w wi wz eT (g := mkF m pc ls rest) rfl hd hc hl
  exact (k T' h' _ X' e' E' rfl A' D').of st
theorem g_initO (X : Stand p l e R s m args below meth c T locs cells slots) (hx : p.tables.exec = Jvm.exec) (hZ : Z.Warmed39 s.vm) {own : String} {i : Nat} (hown : s.vm.findClass own = some m.cls) (w1 : (Cond.methodLink own i Lib.objectInit).before a0 Z = true) (w2 : (Cond.instanceMethod Lib.objectInit).before a0 Z = true) (w3 : (Cond.code Lib.objectInit ⟨#[0xb1]⟩ 1 none).before a0 Z = true) (eT : T.heap = h) (hsize : ls.size = c.maxLocals) {a : Addr} (hd : decode c.code pc = .ok (.invokespecial i, 3)) (hp : pc + 3 = pc') (hf : 1 ≤ R.frames) {W : Nat} (hW : 2 * 0 + (rest.map fun v => v.category).sum ≤ W) (hl : W + 12 ≤ R.locals) (k : ∀ T', Stand p l e R s m args below meth c T' locs cells slots → T'.heap = h → Go p e below m F T' pc' ls rest) : Go p e below m F T pc ls (.ref a :: rest) := by
  subst hp
  obtain ⟨T', X', e', st⟩ := initO X hx hZ hown w1 w2 w3 eT (g := mkF m pc ls (.ref a :: rest)) rfl hsize rfl hd hf hW hl
  exact (k T' X' e').of st
theorem g_static (X : Stand p l e R s m args below meth c T locs cells slots) (hx : p.tables.exec = Jvm.exec) (hZ : Z.Warmed39 s.vm) {own : String} {i : Nat} {y : MethodName} {bytes : ByteArray} {maxL : Nat} {ret : Option FieldType} {rm : Room} {Q : Option Value → Heap → List Loc → Prop} (hown : s.vm.findClass own = some m.cls) (w1 : (Cond.methodLink own i y).before a0 Z = true) (w2 : (Cond.static y).before a0 Z = true) (w3 : (Cond.initialized y.cls).before a0 Z = true) (w4 : (Cond.code y bytes maxL ret).before a0 Z = true) (hy : y.cls ≠ "java/lang/invoke/MethodHandle" ∧ y.cls ≠ "java/lang/invoke/VarHandle")
    {argsL st : List Value} {ps : List FieldType} {rt : Option FieldType} (hM : Ctr l Z y bytes maxL ret [] rm argsL.toArray h Q) (hpd : parseMethodDescriptor y.desc = some ⟨ps, rt⟩) (hlen : argsL.length = ps.length) (hst : st = argsL.reverse ++ rest) (hd : decode c.code pc = .ok (.invokestatic i, 3)) (eT : T.heap = h) (hsize : ls.size = c.maxLocals) (hp : pc + 3 = pc') (hf : rm.frames + 1 ≤ R.frames) {W : Nat} (hW : 2 * 0 + (rest.map fun v => v.category).sum ≤ W) (hl : W + (maxL + 11) + rm.locals ≤ R.locals) (hc : cells + rm.cells ≤ R.cells) (hs : slots + rm.slots ≤ R.slots)
    (k : ∀ v T' L, Stand p l e R s m args below meth c T' (locs ++ L) (cells + rm.cells) (slots + rm.slots) → Q v T'.heap L → Go p e below m F T' pc' ls (v.toList ++ rest)) : Go p e below m F T pc ls st := by
  subst hp hst
  obtain ⟨v, _, ⟨T', L', k', n'⟩, -, X', ⟨L, hQ, l1, l2, l3⟩, stp⟩ := Jvm.LawKit.callS X hx (y := y) hown (mvT hZ w1) (mvT hZ w2) (mvT hZ w3) (mvT hZ w4) hy (backOf (W := W) hM hZ w4 w3 hf hl) (g := mkF m pc ls (argsL.reverse ++ rest)) rfl hsize (argsL := argsL) (rest := rest) (lenOf hpd hlen) rfl hW hd (fun _ _ => ⟨rfl, eT, hc, hs⟩)
  dsimp only [Pt.U, Pt.locs, Pt.cells, Pt.slots] at X' l1 l2 l3 stp hQ
  subst l1 l2 l3
  exact (k v T' L X' hQ).of stp
theorem g_special (X : Stand p l e R s m args below meth c T locs cells slots) (hx : p.tables.exec = Jvm.exec) (hZ : Z.Warmed39 s.vm) {own : String} {i : Nat} {y : MethodName} {bytes : ByteArray} {maxL : Nat} {rm : Room} {Q : Option Value → Heap → List Loc → Prop} (hy1 : y.name = "<init>") (hown : s.vm.findClass own = some m.cls) (w1 : (Cond.methodLink own i y).before a0 Z = true) (w2 : (Cond.instanceMethod y).before a0 Z = true) (w3 : (Cond.initialized y.cls).before a0 Z = true) (w4 : (Cond.code y bytes maxL none).before a0 Z = true) (hy : y.cls ≠ "java/lang/invoke/MethodHandle" ∧ y.cls ≠ "java/lang/invoke/VarHandle")
    {a : Addr} {argsL st : List Value} {ps : List FieldType} {rt : Option FieldType} (hM : Ctr l Z y bytes maxL none [] rm (.ref a :: argsL).toArray h Q) (hpd : parseMethodDescriptor y.desc = some ⟨ps, rt⟩) (hlen : argsL.length = ps.length) (hst : st = argsL.reverse ++ .ref a :: rest) (hd : decode c.code pc = .ok (.invokespecial i, 3)) (eT : T.heap = h) (hsize : ls.size = c.maxLocals) (hp : pc + 3 = pc') (hf : rm.frames + 1 ≤ R.frames) {W : Nat} (hW : 2 * 0 + (rest.map fun v => v.category).sum ≤ W) (hl : W + (maxL + 11) + rm.locals ≤ R.locals) (hc : cells + rm.cells ≤ R.cells) (hs : slots + rm.slots ≤ R.slots)
    (k : ∀ v T' L, Stand p l e R s m args below meth c T' (locs ++ L) (cells + rm.cells) (slots + rm.slots) → Q v T'.heap L → Go p e below m F T' pc' ls (v.toList ++ rest)) : Go p e below m F T pc ls st := by
  subst hp hst
  obtain ⟨v, _, ⟨T', L', k', n'⟩, -, X', ⟨L, hQ, l1, l2, l3⟩, stp⟩ := X.specialBack hx (y := y) hy1 hown (mvT hZ w1) (mvT hZ w2) (mvT hZ w4) hy (backOf (W := W) hM hZ w4 w3 hf hl) (g := mkF m pc ls (argsL.reverse ++ .ref a :: rest)) rfl hsize (Steps.refl _) (a := a) (argsL := argsL) (rest := rest) (lenOf hpd hlen) rfl hW hd (fun _ _ => ⟨rfl, eT, hc, hs⟩)
  dsimp only [Pt.U, Pt.locs, Pt.cells, Pt.slots] at X' l1 l2 l3 stp hQ
  subst l1 l2 l3
  exact (k v T' L X' hQ).of fun t q => stp.trans q
theorem g_virtual (X : Stand p l e R s m args below meth c T locs cells slots) (hx : p.tables.exec = Jvm.exec) (hZ : Z.Warmed39 s.vm) {own C : String} {i : Nat} {y : MethodName} {bytes : ByteArray} {maxL : Nat} {ret : Option FieldType} {rm : Room} {Q : Option Value → Heap → List Loc → Prop} (hown : s.vm.findClass own = some m.cls) (w1 : (Cond.methodLink own i y).before a0 Z = true) (w2 : (Cond.declares y).before a0 Z = true) (w5 : (Cond.selects C y y).before a0 Z = true) (w6 : (Cond.instanceMethod y).before a0 Z = true) (w3 : (Cond.initialized y.cls).before a0 Z = true) (w4 : (Cond.code y bytes maxL ret).before a0 Z = true) (hy : y.cls ≠ "java/lang/invoke/MethodHandle" ∧ y.cls ≠ "java/lang/invoke/VarHandle")
    {a : Addr} (Ea : Exa Z h a C) {argsL st : List Value} {ps : List FieldType} {rt : Option FieldType} (hM : Ctr l Z y bytes maxL ret [] rm (.ref a :: argsL).toArray h Q) (hpd : parseMethodDescriptor y.desc = some ⟨ps, rt⟩) (hlen : argsL.length = ps.length) (hst : st = argsL.reverse ++ .ref a :: rest) (hd : decode c.code pc = .ok (.invokevirtual i, 3)) (eT : T.heap = h) (hsize : ls.size = c.maxLocals) (hp : pc + 3 = pc') (hf : rm.frames + 1 ≤ R.frames) {W : Nat} (hW : 2 * 0 + (rest.map fun v => v.category).sum ≤ W) (hl : W + (maxL + 11) + rm.locals ≤ R.locals) (hc : cells + rm.cells ≤ R.cells) (hs : slots + rm.slots ≤ R.slots)
    (k : ∀ v T' L, Stand p l e R s m args below meth c T' (locs ++ L) (cells + rm.cells) (slots + rm.slots) → Q v T'.heap L → Go p e below m F T' pc' ls (v.toList ++ rest)) : Go p e below m F T pc ls st := by
  subst hp hst
  obtain ⟨cq, kq, qa, qb, qc⟩ := isOf hZ eT Ea
  obtain ⟨v, _, ⟨T', L', k', n'⟩, -, X', ⟨L, hQ, l1, l2, l3⟩, stp⟩ := X.virtualBack hx (y := y) (z := y) hown (mvT hZ w1) (mvT hZ w2) (notFace_of_selects (args := #[]) (mvT hZ w5)) (mvT hZ w5) (mvT hZ w6) hy (backOf (W := W) hM hZ w4 w3 hf hl) qa qc (g := mkF m pc ls (argsL.reverse ++ .ref a :: rest)) rfl hsize (Steps.refl _) (argsL := argsL) (rest := rest) (lenOf hpd hlen) rfl hW hd (fun _ _ => ⟨rfl, eT, hc, hs⟩)
  dsimp only [Pt.U, Pt.locs, Pt.cells, Pt.slots] at X' l1 l2 l3 stp hQ
  subst l1 l2 l3
  exact (k v T' L X' hQ).of fun t q => stp.trans q
theorem g_virtualUp (X : Stand p l e R s m args below meth c T locs cells slots) (hx : p.tables.exec = Jvm.exec) (hZ : Z.Warmed39 s.vm) {own C owner : String} {i : Nat} {x y : MethodName} {bytes : ByteArray} {maxL : Nat} {ret : Option FieldType} {rm : Room} {Q : Option Value → Heap → List Loc → Prop} (hown : s.vm.findClass own = some m.cls) (w1 : (Cond.methodLink own i x).before a0 Z = true) (w7 : (Cond.sameMethod x.cls owner x.name x.desc).before a0 Z = true) (w2 : (Cond.declares ⟨owner, x.name, x.desc⟩).before a0 Z = true) (ho : owner ≠ "java/lang/invoke/MethodHandle" ∧ owner ≠ "java/lang/invoke/VarHandle") (w5 : (Cond.selects C x y).before a0 Z = true) (w6 : (Cond.instanceMethod y).before a0 Z = true) (w3 : (Cond.initialized y.cls).before a0 Z = true) (w4 : (Cond.code y bytes maxL ret).before a0 Z = true)
    {a : Addr} (Ea : Exa Z h a C) {argsL st : List Value} {ps : List FieldType} {rt : Option FieldType} (hM : Ctr l Z y bytes maxL ret [] rm (.ref a :: argsL).toArray h Q) (hpd : parseMethodDescriptor x.desc = some ⟨ps, rt⟩) (hlen : argsL.length = ps.length) (hst : st = argsL.reverse ++ .ref a :: rest) (hd : decode c.code pc = .ok (.invokevirtual i, 3)) (eT : T.heap = h) (hsize : ls.size = c.maxLocals) (hp : pc + 3 = pc') (hf : rm.frames + 1 ≤ R.frames) {W : Nat} (hW : 2 * 0 + (rest.map fun v => v.category).sum ≤ W) (hl : W + (maxL + 11) + rm.locals ≤ R.locals) (hc : cells + rm.cells ≤ R.cells) (hs : slots + rm.slots ≤ R.slots)
    (k : ∀ v T' L, Stand p l e R s m args below meth c T' (locs ++ L) (cells + rm.cells) (slots + rm.slots) → Q v T'.heap L → Go p e below m F T' pc' ls (v.toList ++ rest)) : Go p e below m F T pc ls st := by
  subst hp hst
  obtain ⟨cq, kq, qa, qb, qc⟩ := isOf hZ eT Ea
  obtain ⟨v, _, ⟨T', L', k', n'⟩, -, X', ⟨L, hQ, l1, l2, l3⟩, stp⟩ := X.virtualBackUp hx (x := x) (y := y) (owner := owner) hown (mvT hZ w1) (mvT hZ w7) (mvT hZ w2) ho (mvT hZ w5) (mvT hZ w6) (backOf (W := W) hM hZ w4 w3 hf hl) qa qc (g := mkF m pc ls (argsL.reverse ++ .ref a :: rest)) rfl hsize (Steps.refl _) (argsL := argsL) (rest := rest) (lenOf hpd hlen) rfl hW hd (fun _ _ => ⟨rfl, eT, hc, hs⟩)
  dsimp only [Pt.U, Pt.locs, Pt.cells, Pt.slots] at X' l1 l2 l3 stp hQ
  subst l1 l2 l3
  exact (k v T' L X' hQ).of fun t q => stp.trans q
theorem g_retV (X : Stand p l e R s m args below meth c T locs cells slots) (hx : p.tables.exec = Jvm.exec) {Q : Option Value → Heap → List Loc → Prop} {rc rs : Nat} (hlk : meth.locks = false) (hret : meth.sig.returnType = none) (hd : decode c.code pc = .ok (.return_, 1)) (hQ : Q none T.heap locs) (hc : cells ≤ rc) (hs : slots ≤ rs) : Go p e below m (Fini s rc rs Q) T pc ls [] := by
  obtain ⟨fs, hr, hrun, hended, hW, hsame⟩ := X.leave (v := none) (fun _ => rfl)
  exact ⟨_, _, X.returnOut hx hret hd hr, hrun, hended, _, _, rfl, hQ, ⟨_, rfl⟩, hW, hsame.mono hc hs⟩
theorem g_ret (X : Stand p l e R s m args below meth c T locs cells slots) (hx : p.tables.exec = Jvm.exec) {Q : Option Value → Heap → List Loc → Prop} {rc rs : Nat} (hlk : meth.locks = false) {t : FieldType} {w : Value} {i : Instr} (hret : meth.sig.returnType = some t) (hn : narrow t w = w)
    (hi : (i = .ireturn ∧ (t = .int ∨ t = .boolean ∨ t = .byte ∨ t = .char ∨ t = .short) ∧ ∃ z, w = .int z) ∨ (i = .lreturn ∧ t = .long ∧ ∃ z, w = .long z) ∨ (i = .dreturn ∧ t = .double ∧ ∃ z, w = .double z) ∨ (i = .freturn ∧ t = .float ∧ ∃ z, w = .float z) ∨ (i = .areturn ∧ t.isReference = true ∧ w.isRef = true))
    (hd : decode c.code pc = .ok (i, 1)) (hQ : Q (some w) T.heap locs) (hc : cells ≤ rc) (hs : slots ≤ rs) : Go p e below m (Fini s rc rs Q) T pc ls (w :: rest) := by
  obtain ⟨fs, hr, hrun, hended, hW, hsame⟩ := X.leave (v := some w) (fun h => by rw [hret] at h; cases h)
  exact ⟨_, _, retOut X hx hret hn hi hd hr, hrun, hended, _, _, rfl, hQ, ⟨_, rfl⟩, hW, hsame.mono hc hs⟩
theorem g_retZ (X : Stand p l e R s m args below meth c T locs cells slots) (hx : p.tables.exec = Jvm.exec) {Q : Option Value → Heap → List Loc → Prop} {rc rs : Nat} (hlk : meth.locks = false) {z : Int32} (hret : meth.sig.returnType = some .boolean) (hz : z = 0 ∨ z = 1) (hd : decode c.code pc = .ok (.ireturn, 1)) (hQ : Q (some (.int z)) T.heap locs) (hc : cells ≤ rc) (hs : slots ≤ rs) : Go p e below m (Fini s rc rs Q) T pc ls (.int z :: rest) :=
  g_ret X hx hlk hret (by rcases hz with rfl | rfl <;> rfl) (Or.inl ⟨rfl, Or.inr (Or.inl rfl), _, rfl⟩) hd hQ hc hs
theorem g_retI (X : Stand p l e R s m args below meth c T locs cells slots) (hx : p.tables.exec = Jvm.exec) {Q : Option Value → Heap → List Loc → Prop} {rc rs : Nat} (hlk : meth.locks = false) {z : Int32} (hret : meth.sig.returnType = some .int) (hd : decode c.code pc = .ok (.ireturn, 1)) (hQ : Q (some (.int z)) T.heap locs) (hc : cells ≤ rc) (hs : slots ≤ rs) : Go p e below m (Fini s rc rs Q) T pc ls (.int z :: rest) :=
  g_ret X hx hlk hret rfl (Or.inl ⟨rfl, Or.inl rfl, _, rfl⟩) hd hQ hc hs
theorem g_retJ (X : Stand p l e R s m args below meth c T locs cells slots) (hx : p.tables.exec = Jvm.exec) {Q : Option Value → Heap → List Loc → Prop} {rc rs : Nat} (hlk : meth.locks = false) {z : Int64} (hret : meth.sig.returnType = some .long) (hd : decode c.code pc = .ok (.lreturn, 1)) (hQ : Q (some (.long z)) T.heap locs) (hc : cells ≤ rc) (hs : slots ≤ rs) : Go p e below m (Fini s rc rs Q) T pc ls (.long z :: rest) :=
  g_ret X hx hlk hret rfl (Or.inr (Or.inl ⟨rfl, rfl, _, rfl⟩)) hd hQ hc hs
theorem g_retD (X : Stand p l e R s m args below meth c T locs cells slots) (hx : p.tables.exec = Jvm.exec) {Q : Option Value → Heap → List Loc → Prop} {rc rs : Nat} (hlk : meth.locks = false) {z : UInt64} (hret : meth.sig.returnType = some .double) (hd : decode c.code pc = .ok (.dreturn, 1)) (hQ : Q (some (.double z)) T.heap locs) (hc : cells ≤ rc) (hs : slots ≤ rs) : Go p e below m (Fini s rc rs Q) T pc ls (.double z :: rest) :=
  g_ret X hx hlk hret rfl (Or.inr (Or.inr (Or.inl ⟨rfl, rfl, _, rfl⟩))) hd hQ hc hs
theorem g_retA (X : Stand p l e R s m args below meth c T locs cells slots) (hx : p.tables.exec = Jvm.exec) {Q : Option Value → Heap → List Loc → Prop} {rc rs : Nat} (hlk : meth.locks = false) {t : FieldType} {w : Value} (hret : meth.sig.returnType = some t) (ht : t.isReference = true) (hw : w.isRef = true) (hn : narrow t w = w) (hd : decode c.code pc = .ok (.areturn, 1)) (hQ : Q (some w) T.heap locs) (hc : cells ≤ rc) (hs : slots ≤ rs) : Go p e below m (Fini s rc rs Q) T pc ls (w :: rest) :=
  g_ret X hx hlk hret hn (Or.inr (Or.inr (Or.inr (Or.inr ⟨rfl, ht, hw⟩)))) hd hQ hc hs
end Heap
end Jvm.Own
namespace Jvm.Own
open Sem ClassFile Op Lib Jvm.Free
/-! comparisons as whole numbers -/
def cmpI (n m : Int) : Int32 := if n < m then -1 else if n = m then 0 else 1
theorem cmpI_eq {n m : Int} (h : cmpI n m = 0) : n = m := by
  unfold cmpI at h
  by_cases a : n < m
  · rw [if_pos a] at h; exact absurd h (by decide)
  · by_cases b : n = m
    · exact b
    · rw [if_neg a, if_neg b] at h; exact absurd h (by decide)
theorem cmpI_ne {n m : Int} (h : cmpI n m ≠ 0) : n ≠ m := by
  intro b; subst b; exact h (by unfold cmpI; rw [if_neg (by omega), if_pos rfl])
theorem cmpI_lt {n m : Int} (h : cmpI n m < 0) : n < m := by
  unfold cmpI at h
  by_cases a : n < m
  · exact a
  · by_cases b : n = m
    · rw [if_neg a, if_pos b] at h; exact absurd h (by decide)
    · rw [if_neg a, if_neg b] at h; exact absurd h (by decide)
theorem cmpI_ge {n m : Int} (h : cmpI n m ≥ 0) : m ≤ n := by
  by_cases a : n < m
  · unfold cmpI at h; rw [if_pos a] at h; exact absurd h (by decide)
  · omega
theorem cmpI_gt {n m : Int} (h : cmpI n m > 0) : m < n := by
  by_cases a : n < m
  · unfold cmpI at h; rw [if_pos a] at h; exact absurd h (by decide)
  · by_cases b : n = m
    · unfold cmpI at h; rw [if_neg a, if_pos b] at h; exact absurd h (by decide)
    · omega
theorem cmpI_le {n m : Int} (h : cmpI n m ≤ 0) : n ≤ m := by
  by_cases a : n < m
  · omega
  · by_cases b : n = m
    · omega
    · unfold cmpI at h; rw [if_neg a, if_neg b] at h; exact absurd h (by decide)
theorem cmpI_some (n m : Int) (o : CmpOp) : cmpValue (some (compare n m)) o = cmpI n m := by
  unfold cmpI
  rw [Jvm.FP.Core.compare_ite]
  by_cases a : n < m
  · rw [if_pos a, if_pos a]; cases o <;> rfl
  · by_cases b : n = m
    · rw [if_neg a, if_pos b, if_neg a, if_pos b]; cases o <;> rfl
    · rw [if_neg a, if_neg b, if_neg a, if_neg b]; cases o <;> rfl
theorem cmpL_I (x y : Int64) : XT.cmpL x y = cmpI x.toInt y.toInt := by
  unfold XT.cmpL cmpI
  by_cases a : y < x
  · have a' := Int64.lt_iff_toInt_lt.mp a
    rw [if_pos a, if_neg (by omega), if_neg (by omega)]
  · have a' : ¬ y.toInt < x.toInt := fun q => a (Int64.lt_iff_toInt_lt.mpr q)
    by_cases b : x = y
    · subst b; rw [if_neg a, if_pos rfl, if_neg (by omega), if_pos rfl]
    · have b' : x.toInt ≠ y.toInt := fun q => b (Int64.toInt_inj.mp q)
      rw [if_neg a, if_neg b, if_pos (by omega)]
theorem i_eq {x y : Int32} (h : x = y) : x.toInt = y.toInt := by rw [h]
theorem i_ne {x y : Int32} (h : x ≠ y) : x.toInt ≠ y.toInt := fun q => h (Int32.toInt_inj.mp q)
theorem i_lt {x y : Int32} (h : x < y) : x.toInt < y.toInt := Int32.lt_iff_toInt_lt.mp h
theorem i_ge {x y : Int32} (h : x ≥ y) : y.toInt ≤ x.toInt := Int32.le_iff_toInt_le.mp h
theorem i_gt {x y : Int32} (h : x > y) : y.toInt < x.toInt := Int32.lt_iff_toInt_lt.mp h
theorem i_le {x y : Int32} (h : x ≤ y) : x.toInt ≤ y.toInt := Int32.le_iff_toInt_le.mp h
theorem iz_eq {x : Int32} (h : x = 0) : x.toInt = 0 := by rw [h]; rfl
theorem iz_ne {x : Int32} (h : x ≠ 0) : x.toInt ≠ 0 := fun q => h (Int32.toInt_inj.mp q)
theorem iz_lt {x : Int32} (h : x < 0) : x.toInt < 0 := Int32.lt_iff_toInt_lt.mp h
theorem iz_ge {x : Int32} (h : x ≥ 0) : 0 ≤ x.toInt := Int32.le_iff_toInt_le.mp h
theorem iz_gt {x : Int32} (h : x > 0) : 0 < x.toInt := Int32.lt_iff_toInt_lt.mp h
theorem iz_le {x : Int32} (h : x ≤ 0) : x.toInt ≤ 0 := Int32.le_iff_toInt_le.mp h
theorem cmpL_ex {x y : Int64} {n m : Int} (hx : x.toInt = n) (hy : y.toInt = m) : XT.cmpL x y = cmpI n m := by rw [cmpL_I, hx, hy]
theorem small32 {y : Int32} (h : y.toBitVec.toNat < 2147483648) : y.toInt = (y.toBitVec.toNat : Int) := by
  have : y.toInt = y.toBitVec.toInt := rfl
  rw [this, BitVec.toInt_eq_toNat_cond, if_pos (by omega)]
theorem nn32 {y : Int32} (h : 0 ≤ y.toInt) : y.toBitVec.toNat < 2147483648 := by
  have e : y.toInt = y.toBitVec.toInt := rfl
  rw [e, BitVec.toInt_eq_toNat_cond] at h
  by_cases q : 2 * y.toBitVec.toNat < 2 ^ 32
  · omega
  · rw [if_neg q] at h; have := y.toBitVec.isLt; omega
theorem iand_b (x y : Int32) {M : Int} (h0 : 0 ≤ y.toInt) (hM : y.toInt ≤ M) : 0 ≤ (x &&& y).toInt ∧ (x &&& y).toInt ≤ M := by
  have h1 := nn32 h0
  have e : (x &&& y).toBitVec.toNat = x.toBitVec.toNat &&& y.toBitVec.toNat := by simp [Int32.toBitVec_and, BitVec.toNat_and]
  have hle : (x &&& y).toBitVec.toNat ≤ y.toBitVec.toNat := by rw [e]; exact Nat.and_le_right
  have e1 := small32 (y := x &&& y) (by omega)
  have e2 := small32 h1
  omega
theorem small64 {y : Int64} (h : y.toBitVec.toNat < 9223372036854775808) : y.toInt = (y.toBitVec.toNat : Int) := by
  have : y.toInt = y.toBitVec.toInt := rfl
  rw [this, BitVec.toInt_eq_toNat_cond, if_pos (by omega)]
theorem nn64 {y : Int64} (h : 0 ≤ y.toInt) : y.toBitVec.toNat < 9223372036854775808 := by
  have e : y.toInt = y.toBitVec.toInt := rfl
  rw [e, BitVec.toInt_eq_toNat_cond] at h
  by_cases q : 2 * y.toBitVec.toNat < 2 ^ 64
  · omega
  · rw [if_neg q] at h; have := y.toBitVec.isLt; omega
theorem land_b (x y : Int64) {M : Int} (h0 : 0 ≤ y.toInt) (hM : y.toInt ≤ M) : 0 ≤ (x &&& y).toInt ∧ (x &&& y).toInt ≤ M := by
  have h1 := nn64 h0
  have e : (x &&& y).toBitVec.toNat = x.toBitVec.toNat &&& y.toBitVec.toNat := by simp [Int64.toBitVec_and, BitVec.toNat_and]
  have hle : (x &&& y).toBitVec.toNat ≤ y.toBitVec.toNat := by rw [e]; exact Nat.and_le_right
  have e1 := small64 (y := x &&& y) (by omega)
  have e2 := small64 h1
  omega
theorem i32b (v : Int32) : -2147483648 ≤ v.toInt ∧ v.toInt < 2147483648 := ⟨v.le_toInt, v.toInt_lt⟩
theorem i64b (v : Int64) : -9223372036854775808 ≤ v.toInt ∧ v.toInt < 9223372036854775808 := ⟨v.le_toInt, v.toInt_lt⟩
theorem iadd_ex {x y : Int32} {n m : Int} (hx : x.toInt = n) (hy : y.toInt = m) (h : -2147483648 ≤ n + m ∧ n + m < 2147483648) : (x + y).toInt = n + m := by
  rw [Int32.toInt_add, hx, hy]; exact Int.bmod_eq_of_le (by omega) (by omega)
theorem isub_ex {x y : Int32} {n m : Int} (hx : x.toInt = n) (hy : y.toInt = m) (h : -2147483648 ≤ n - m ∧ n - m < 2147483648) : (x - y).toInt = n - m := by
  rw [Int32.toInt_sub, hx, hy]; exact Int.bmod_eq_of_le (by omega) (by omega)
theorem imul_ex {x y : Int32} {n m : Int} (hx : x.toInt = n) (hy : y.toInt = m) (h : -2147483648 ≤ n * m ∧ n * m < 2147483648) : (x * y).toInt = n * m := by
  rw [Int32.toInt_mul, hx, hy]; exact Int.bmod_eq_of_le (by omega) (by omega)
theorem ladd_ex {x y : Int64} {n m : Int} (hx : x.toInt = n) (hy : y.toInt = m) (h : -9223372036854775808 ≤ n + m ∧ n + m < 9223372036854775808) : (x + y).toInt = n + m := by
  rw [Int64.toInt_add, hx, hy]; exact Int.bmod_eq_of_le (by omega) (by omega)
theorem lsub_ex {x y : Int64} {n m : Int} (hx : x.toInt = n) (hy : y.toInt = m) (h : -9223372036854775808 ≤ n - m ∧ n - m < 9223372036854775808) : (x - y).toInt = n - m := by
  rw [Int64.toInt_sub, hx, hy]; exact Int.bmod_eq_of_le (by omega) (by omega)
theorem lmul_ex {x y : Int64} {n m : Int} (hx : x.toInt = n) (hy : y.toInt = m) (h : -9223372036854775808 ≤ n * m ∧ n * m < 9223372036854775808) : (x * y).toInt = n * m := by
  rw [Int64.toInt_mul, hx, hy]; exact Int.bmod_eq_of_le (by omega) (by omega)
theorem i2l_ex {x : Int32} {n : Int} (hx : x.toInt = n) : x.toInt64.toInt = n := by rw [Int32.toInt_toInt64, hx]
theorem pinI {args : Array Value} {s : State} {C n d K O f : String} {k : Int32} (hx : (Cond.exactly (Term.static C n d) K).value args s none s [] = some true) (he : (Cond.eq (Term.field (Term.static C n d) O f "I") (Term.int k)).value args s none s [] = some true) (hi : (Cond.initialized C).before args s = true) (hl : (Cond.laysStatic C n d).before args s = true) : ∃ r, RoadKit.Sta s s.heap C n d (.ref r) ∧ RoadKit.Exa s s.heap r K ∧ RoadKit.Fld s s.heap r O f "I" (.int k) := by
  obtain ⟨r, hr⟩ := RoadKit.exa_v hx
  refine ⟨r, RoadKit.Sta.start hr (Or.inr ⟨hi, hl⟩), RoadKit.Exa.start hr hx, ?_⟩
  obtain ⟨x, y, h1, h2, h3, h4⟩ := RoadKit.cmp_v (Or.inl he)
  rw [RoadKit.fld_at hr] at h1
  obtain rfl : Value.int k = y := Option.some.inj ((Term.int_eval k).symm.trans h2)
  obtain ⟨z, rfl⟩ := h4
  have q := RoadKit.gotT (Cond.eq_ints ((RoadKit.fld_at hr).trans h1) (Term.int_eval k)) he
  subst q
  exact RoadKit.Fld.start h1
theorem pinD {args : Array Value} {s : State} {C n d K O f : String} {k : Int64} (hx : (Cond.exactly (Term.static C n d) K).value args s none s [] = some true) (he : (Cond.eq (Term.field (Term.static C n d) O f "D") (Term.op1 .bitsD (Term.long k))).value args s none s [] = some true) (hi : (Cond.initialized C).before args s = true) (hl : (Cond.laysStatic C n d).before args s = true) : ∃ r, RoadKit.Sta s s.heap C n d (.ref r) ∧ RoadKit.Exa s s.heap r K ∧ RoadKit.Fld s s.heap r O f "D" (.double k.toUInt64) := by
  obtain ⟨r, hr⟩ := RoadKit.exa_v hx
  refine ⟨r, RoadKit.Sta.start hr (Or.inr ⟨hi, hl⟩), RoadKit.Exa.start hr hx, ?_⟩
  obtain ⟨x, y, h1, h2, h3, h4⟩ := RoadKit.cmp_v (Or.inl he)
  have h5 : (Term.op1 .bitsD (Term.long k)).eval args s none [] s = some (.double k.toUInt64) := RoadKit.op1_f (RoadKit.long_at k)
  obtain rfl : Value.double k.toUInt64 = y := Option.some.inj (h5.symm.trans h2)
  obtain ⟨z, rfl⟩ := h4
  have q : z = k.toUInt64 := by simpa [Cond.value, h1, h5] using he
  subst q
  rw [RoadKit.fld_at hr] at h1
  exact RoadKit.Fld.start h1
end Jvm.Own
namespace Jvm.Own
open Jvm.FP.Core
/-! doubles by their values: zval in units of 2^-1074 -/
/-! plain arithmetic, with the unit as a letter -/
theorem ar_mul {a b J K N M O : Nat} (hm : a * J = N * O) (gm : b * K = M * O) : a * b * (J * K) = N * M * (O * O) := by
  calc a * b * (J * K) = (a * J) * (b * K) := by ac_rfl
    _ = N * O * (M * O) := by rw [hm, gm]
    _ = _ := by ac_rfl
theorem ar_z {ab JK NM O z : Nat} (hp : 0 < JK) (q : ab * JK = NM * (O * O)) (hz : z * JK = NM * O) : ab = z * O := by
  apply Nat.eq_of_mul_eq_mul_right hp
  calc ab * JK = NM * O * O := by rw [q]; ac_rfl
    _ = z * JK * O := by rw [hz]
    _ = _ := by ac_rfl
theorem ar_i {X Y J K N M O s : Int} (hO : O ≠ 0) (hx : X * J = N * O) (hy : Y * K = M * O) (hs : s * O = X * Y) : s * (J * K) = N * M * O := by
  apply Int.eq_of_mul_eq_mul_right hO
  calc s * (J * K) * O = s * O * (J * K) := by ac_rfl
    _ = (X * J) * (Y * K) := by rw [hs]; ac_rfl
    _ = N * M * O * O := by rw [hx, hy]; ac_rfl
theorem ar_d {x y z J K I N M W O : Nat} (hp : 0 < J * K * I) (hx : x * J = N * O) (hy : y * K = M * O) (hz : z * I = W * O) (hw : N * K * I = W * M * J) : x * O = z * y := by
  apply Nat.eq_of_mul_eq_mul_right hp
  calc x * O * (J * K * I) = (x * J) * O * (K * I) := by ac_rfl
    _ = (N * K * I) * (O * O) := by rw [hx]; ac_rfl
    _ = (W * O) * (M * O) * J := by rw [hw]; ac_rfl
    _ = (z * I) * (y * K) * J := by rw [hz, hy]
    _ = _ := by ac_rfl
theorem ar_q {q X Y J K I N M W O : Int} (hY : Y ≠ 0) (hJ : J ≠ 0) (hK : K ≠ 0) (hx : X * J = N * O) (hy : Y * K = M * O) (hs : q * Y = X * O) (hw : N * K * I = W * M * J) : q * I = W * O := by
  apply Int.eq_of_mul_eq_mul_right hY
  apply Int.eq_of_mul_eq_mul_right hJ
  apply Int.eq_of_mul_eq_mul_right hK
  calc q * I * Y * J * K = (q * Y) * I * J * K := by ac_rfl
    _ = (X * J) * K * I * O := by rw [hs]; ac_rfl
    _ = (N * K * I) * O * O := by rw [hx]; ac_rfl
    _ = W * (M * O) * J * O := by rw [hw]; ac_rfl
    _ = W * O * Y * J * K := by rw [← hy]; ac_rfl
theorem ar_p {c d P Q X Y W : Nat} (e : P * Q = X * Y * W) : c * d * P * Q = c * X * (d * Y) * 1 * W := by
  rw [Nat.mul_assoc (c * d), e]; ac_rfl
theorem ar_up {X J K N O : Int} (h : X * J = N * O) : X * (J * K) = N * K * O := by
  calc X * (J * K) = X * J * K := by ac_rfl
    _ = N * O * K := by rw [h]
    _ = _ := by ac_rfl
abbrev rr (s : Bool) (A B : Nat) : Datum := roundRatio b64 s A B 0
theorem one_pow : one64 = 2 ^ 1074 := rfl
theorem one_ne : (one64 : Int) ≠ 0 := by have := one64_pos; omega
theorem fin_u {x : UInt64} {s : Bool} {c : Nat} {q : Int} (h : val64 x = .fin s c q) : sgn (val64 x) = s ∧ zmag b64 (val64 x) = c * 2 ^ (q + 1074).toNat ∧ -1074 ≤ q := by
  have hf := val64_fits x
  rw [h] at hf ⊢
  have h2 := hf.2.1
  rw [qmin_b64] at h2
  refine ⟨rfl, ?_, h2⟩
  show inUnits c q b64.qmin = _
  rw [qmin_b64]
  show c * 2 ^ (q - -1074).toNat = _
  rw [show q - -1074 = q + 1074 by omega]
theorem zv_eq (x : UInt64) : zval b64 (val64 x) = signed (sgn (val64 x)) (zmag b64 (val64 x)) := rfl
theorem ddiv_rr {x y : UInt64} (hx : DFin x) (hy : DFin y) (hz : zmag b64 (val64 y) ≠ 0) : val64 (ddiv x y) = rr (sgn (val64 x) != sgn (val64 y)) (zmag b64 (val64 x)) (zmag b64 (val64 y)) := by
  obtain ⟨s, c, q, ex⟩ := hx
  obtain ⟨t, d, r, ey⟩ := hy
  obtain ⟨h1, h2, h3⟩ := fin_u ex
  obtain ⟨g1, g2, g3⟩ := fin_u ey
  rw [g2] at hz
  have hd : d ≠ 0 := fun k => hz (by rw [k, Nat.zero_mul])
  rw [val64_ddiv, h1, h2, g1, g2, ex, ey]
  show (if d = 0 then _ else roundRatio b64 (s != t) c d (q - r)) = _
  rw [if_neg hd]
  refine roundRatio_congr (Nat.pos_of_ne_zero hd) (Nat.pos_of_ne_zero hz) ?_
  have e : 2 ^ (r + 1074).toNat * 2 ^ (q - r - 0).toNat = 2 ^ (q + 1074).toNat * 2 ^ (0 - (q - r)).toNat := by
    rw [← Nat.pow_add, ← Nat.pow_add]
    congr 1
    omega
  calc c * (d * 2 ^ (r + 1074).toNat) * 2 ^ (q - r - 0).toNat = c * d * (2 ^ (r + 1074).toNat * 2 ^ (q - r - 0).toNat) := by ac_rfl
    _ = c * d * (2 ^ (q + 1074).toNat * 2 ^ (0 - (q - r)).toNat) := by rw [e]
    _ = c * 2 ^ (q + 1074).toNat * d * 2 ^ (0 - (q - r)).toNat := by ac_rfl
theorem dmul_rr {x y : UInt64} (hx : DFin x) (hy : DFin y) : val64 (dmul x y) = rr (sgn (val64 x) != sgn (val64 y)) (zmag b64 (val64 x) * zmag b64 (val64 y)) (2 ^ 2148) := by
  obtain ⟨s, c, q, ex⟩ := hx
  obtain ⟨t, d, r, ey⟩ := hy
  obtain ⟨h1, h2, h3⟩ := fin_u ex
  obtain ⟨g1, g2, g3⟩ := fin_u ey
  rw [val64_dmul, h1, h2, g1, g2, ex, ey]
  show roundRatio b64 (s != t) (c * d) 1 (q + r) = _
  refine roundRatio_congr Nat.one_pos (Nat.two_pow_pos _) ?_
  have e : 2 ^ 2148 * 2 ^ (q + r - 0).toNat = 2 ^ (q + 1074).toNat * 2 ^ (r + 1074).toNat * 2 ^ (0 - (q + r)).toNat := by
    rw [← Nat.pow_add, ← Nat.pow_add, ← Nat.pow_add]
    congr 1
    omega
  exact ar_p e
theorem sum_rr {X Y : Datum} (fx : FP.Core.fits b64 X) (fy : FP.Core.fits b64 Y) (hx : ∃ s c q, X = .fin s c q) (hy : ∃ s c q, Y = .fin s c q) : ∃ sg, round b64 (exactSum X Y) = rr sg (zval b64 X + zval b64 Y).natAbs one64 ∧ signed sg (zval b64 X + zval b64 Y).natAbs = zval b64 X + zval b64 Y := by
  obtain ⟨s, c, q, rfl⟩ := hx
  obtain ⟨t, d, r, rfl⟩ := hy
  obtain ⟨sg, n, e, e1, e2, e3⟩ := sum_units fx fy
  have e4 : (zval b64 (.fin s c q) + zval b64 (.fin t d r)).natAbs = inUnits n e b64.qmin := by rw [← e3, natAbs_signed]
  refine ⟨sg, ?_, by rw [e4, e3]⟩
  rw [e4, e1]
  show roundRatio b64 sg n 1 e = _
  refine roundRatio_congr Nat.one_pos one64_pos ?_
  rw [qmin_b64] at e2 ⊢
  show n * one64 * 2 ^ (e - 0).toNat = n * 2 ^ (e - -1074).toNat * 1 * 2 ^ (0 - e).toNat
  rw [one_pow, Nat.mul_assoc, ← Nat.pow_add, Nat.mul_one, Nat.mul_assoc n, ← Nat.pow_add]
  congr 2
  omega
theorem dadd_rr {x y : UInt64} (hx : DFin x) (hy : DFin y) : ∃ sg, val64 (dadd x y) = rr sg (zval b64 (val64 x) + zval b64 (val64 y)).natAbs one64 ∧ signed sg (zval b64 (val64 x) + zval b64 (val64 y)).natAbs = zval b64 (val64 x) + zval b64 (val64 y) := by
  obtain ⟨sg, h1, h2⟩ := sum_rr (val64_fits x) (val64_fits y) hx hy
  exact ⟨sg, by rw [val64_dadd, h1], h2⟩
theorem dsub_rr {x y : UInt64} (hx : DFin x) (hy : DFin y) : ∃ sg, val64 (dsub x y) = rr sg (zval b64 (val64 x) - zval b64 (val64 y)).natAbs one64 ∧ signed sg (zval b64 (val64 x) - zval b64 (val64 y)).natAbs = zval b64 (val64 x) - zval b64 (val64 y) := by
  obtain ⟨t, d, r, ey⟩ := hy
  obtain ⟨sg, h1, h2⟩ := sum_rr (val64_fits x) (negate_fits (val64_fits y)) hx ⟨!t, d, r, by rw [ey]; rfl⟩
  rw [zval_negate, ← Int.sub_eq_add_neg] at h1 h2
  exact ⟨sg, by rw [val64_dsub, h1], h2⟩
/-- a whole number of units that a double holds -/
def Rep (z : Nat) : Prop := ∃ V : Datum, FP.Core.fits b64 V ∧ (∃ s c q, V = .fin s c q) ∧ zmag b64 V = z
theorem rep_pow {n k : Nat} (hn : n < 2 ^ 53) (hk : k ≤ 2045) : Rep (n * 2 ^ k) := by
  obtain ⟨c', q', h1, h2⟩ := round_exact good_b64 false (c := n) (q := (k : Int) - 1074) (by exact hn) (by rw [qmin_b64]; omega) (by show (k : Int) - 1074 ≤ 971; omega)
  refine ⟨.fin false c' q', by rw [← h1]; exact round_fits good_b64 _, ⟨_, _, _, rfl⟩, ?_⟩
  show inUnits c' q' b64.qmin = _
  rw [h2, qmin_b64]
  show n * 2 ^ ((k : Int) - 1074 - -1074).toNat = _
  congr 2
  omega
theorem rep_pow' {n k : Nat} (hn : n ≤ 2 ^ 53) (hk : k ≤ 2044) : Rep (n * 2 ^ k) := by
  by_cases h : n < 2 ^ 53
  · exact rep_pow h (by omega)
  · have e : n * 2 ^ k = 2 ^ 52 * 2 ^ (k + 1) := by
      rw [show n = 2 ^ 53 by omega, ← Nat.pow_add, ← Nat.pow_add]; congr 1; omega
    rw [e]; exact rep_pow (by decide) (by omega)
theorem rep_val {x : UInt64} (h : DFin x) : Rep (zmag b64 (val64 x)) := ⟨_, val64_fits x, h, rfl⟩
theorem in_u (A : Nat) : inUnits A 0 b64.qmin = A * one64 := by rw [qmin_b64]; rfl
theorem rr_le {s : Bool} {A B z : Nat} (hB : 0 < B) (hz : Rep z) (h : A * one64 ≤ z * B) : zmag b64 (rr s A B) ≤ z := by
  obtain ⟨V, f, ⟨t, c, q, rfl⟩, rfl⟩ := hz
  refine zmag_roundRatio_le good_b64 hB f (by intro k; cases k) (Int.le_refl _) (by rw [qmin_b64]; omega) ?_
  rw [in_u, Int.sub_self]
  simpa using h
theorem rr_ge {s : Bool} {A B z : Nat} (hB : 0 < B) (hz : Rep z) (h : z * B ≤ A * one64) : z ≤ zmag b64 (rr s A B) := by
  obtain ⟨V, f, ⟨t, c, q, rfl⟩, rfl⟩ := hz
  refine zmag_roundRatio_ge good_b64 hB f (Int.le_refl _) (by rw [qmin_b64]; omega) ?_
  rw [in_u, Int.sub_self]
  simpa using h
theorem rep_top {z : Nat} (hz : Rep z) : z < b64.tails * 2 ^ (b64.exps - 2) := by
  obtain ⟨V, f, ⟨t, c, q, rfl⟩, rfl⟩ := hz
  exact zmag_lt_top good_b64 f
theorem rr_fin {s : Bool} {A B z : Nat} (hz : Rep z) (h : zmag b64 (rr s A B) ≤ z) : ∃ c q, rr s A B = .fin s c q := by
  rcases roundRatio_cases b64 s A B 0 with k | k
  · exact k
  · rw [show rr s A B = .inf s from k] at h
    have := rep_top hz
    have e : zmag b64 (.inf s) = b64.tails * 2 ^ (b64.exps - 2) := rfl
    rw [e] at h
    exact absurd this (Nat.not_lt.mpr h)
theorem rr_sgn (s : Bool) (A B : Nat) : sgn (rr s A B) = s := sgn_roundRatio b64 s A B 0
theorem of_rr {x : UInt64} {s : Bool} {A B z : Nat} (hx : val64 x = rr s A B) (hB : 0 < B) (hz : Rep z) (h : A * one64 = z * B) : DFin x ∧ zval b64 (val64 x) = signed s z := by
  have h1 := rr_le (s := s) hB hz (Nat.le_of_eq h)
  have h2 := rr_ge (s := s) hB hz (Nat.le_of_eq h.symm)
  obtain ⟨c, q, e⟩ := rr_fin hz h1
  refine ⟨⟨s, c, q, by rw [hx, e]⟩, ?_⟩
  rw [zv_eq, hx, rr_sgn, Nat.le_antisymm h1 h2]
/-- the double is n / 2^j -/
def Dy (n : Int) (j : Nat) (x : UInt64) : Prop := DFin x ∧ zval b64 (val64 x) * ((2 ^ j : Nat) : Int) = n * (one64 : Int)
theorem p2_ne (j : Nat) : ((2 ^ j : Nat) : Int) ≠ 0 := by have := Nat.two_pow_pos j; omega
theorem Dy.mag {n : Int} {j : Nat} {x : UInt64} (h : Dy n j x) : zmag b64 (val64 x) * 2 ^ j = n.natAbs * one64 := by
  have := congrArg Int.natAbs h.2
  rw [Int.natAbs_mul, Int.natAbs_mul, zv_eq, natAbs_signed, Int.natAbs_natCast, Int.natAbs_natCast] at this
  exact this
theorem Dy.noNaN {n : Int} {j : Nat} {x : UInt64} (h : Dy n j x) : Jvm.Free.Fl.NoNaN64 x := (Jvm.Free.Fl.fin64_core.mpr h.1).noNaN
theorem rep_dy {N z j : Nat} (hn : N ≤ 2 ^ 53) (hj : j ≤ 1074) (h : z * 2 ^ j = N * one64) : Rep z := by
  have e : z = N * 2 ^ (1074 - j) := by
    apply Nat.eq_of_mul_eq_mul_right (Nat.two_pow_pos j)
    rw [h, one_pow, Nat.mul_assoc, ← Nat.pow_add]
    congr 2; omega
  rw [e]; exact rep_pow' hn (by omega)
theorem Dy.of_int {n : Int} {x : UInt64} (h : DInt n x) : Dy n 0 x := by
  refine ⟨?_, ?_⟩
  · unfold DInt at h
    cases e : val64 x with
    | nan => rw [e] at h; exact h.elim
    | inf s => rw [e] at h; exact h.elim
    | fin s c q => exact ⟨s, c, q, e⟩
  · rw [DInt_zval h]; simp
theorem Dy.i2d (v : Int32) : Dy v.toInt 0 (FP.i2d v) := Dy.of_int (i2d_int v)
theorem Dy.l2d {v : Int64} (h : v.toInt.natAbs ≤ 2 ^ 53) : Dy v.toInt 0 (FP.l2d v) := Dy.of_int (l2d_int h)
theorem Dy.up {n : Int} {j : Nat} {x : UInt64} (h : Dy n j x) (k : Nat) : Dy (n * ((2 ^ k : Nat) : Int)) (j + k) x := by
  refine ⟨h.1, ?_⟩
  rw [Nat.pow_add, Int.natCast_mul]
  exact ar_up h.2
theorem Dy.cmp {n m : Int} {j : Nat} {x y : UInt64} (h : Dy n j x) (g : Dy m j y) : FP.dcmp x y = some (compare n m) := by
  have hp : (0 : Int) < ((2 ^ j : Nat) : Int) := by have := Nat.two_pow_pos j; omega
  have ho : (0 : Int) < (one64 : Int) := by have := one64_pos; omega
  rw [show FP.dcmp x y = _ from dcmp_zval h.1.ne_nan g.1.ne_nan, ← compare_mul_pos _ _ _ hp, h.2, g.2, compare_mul_pos _ _ _ ho]
theorem Dy.add {n m : Int} {j : Nat} {x y : UInt64} (h : Dy n j x) (g : Dy m j y) (hb : (n + m).natAbs ≤ 2 ^ 53) (hj : j ≤ 1074) : Dy (n + m) j (FP.dadd x y) := by
  obtain ⟨sg, e1, e2⟩ := dadd_rr h.1 g.1
  have e : (zval b64 (val64 x) + zval b64 (val64 y)) * ((2 ^ j : Nat) : Int) = (n + m) * (one64 : Int) := by rw [Int.add_mul, Int.add_mul, h.2, g.2]
  have e' := congrArg Int.natAbs e
  rw [Int.natAbs_mul, Int.natAbs_mul, Int.natAbs_natCast, Int.natAbs_natCast] at e'
  obtain ⟨d1, d2⟩ := of_rr (x := FP.dadd x y) e1 one64_pos (rep_dy hb hj e') rfl
  exact ⟨d1, by rw [d2, e2, e]⟩
theorem Dy.sub {n m : Int} {j : Nat} {x y : UInt64} (h : Dy n j x) (g : Dy m j y) (hb : (n - m).natAbs ≤ 2 ^ 53) (hj : j ≤ 1074) : Dy (n - m) j (FP.dsub x y) := by
  obtain ⟨sg, e1, e2⟩ := dsub_rr h.1 g.1
  have e : (zval b64 (val64 x) - zval b64 (val64 y)) * ((2 ^ j : Nat) : Int) = (n - m) * (one64 : Int) := by rw [Int.sub_mul, Int.sub_mul, h.2, g.2]
  have e' := congrArg Int.natAbs e
  rw [Int.natAbs_mul, Int.natAbs_mul, Int.natAbs_natCast, Int.natAbs_natCast] at e'
  obtain ⟨d1, d2⟩ := of_rr (x := FP.dsub x y) e1 one64_pos (rep_dy hb hj e') rfl
  exact ⟨d1, by rw [d2, e2, e]⟩
theorem one_sq : one64 * one64 = 2 ^ 2148 := by rw [one_pow, ← Nat.pow_add]
theorem Dy.mul {n m : Int} {j k : Nat} {x y : UInt64} (h : Dy n j x) (g : Dy m k y) (hb : (n * m).natAbs ≤ 2 ^ 53) (hj : j + k ≤ 1074) : Dy (n * m) (j + k) (FP.dmul x y) := by
  have e1 := dmul_rr h.1 g.1
  have q1 := ar_mul h.mag g.mag
  rw [← Nat.pow_add, ← Int.natAbs_mul] at q1
  obtain ⟨z, hz⟩ : ∃ z, z = (n * m).natAbs * 2 ^ (1074 - (j + k)) := ⟨_, rfl⟩
  have hz1 : z * 2 ^ (j + k) = (n * m).natAbs * one64 := by
    rw [hz, one_pow, Nat.mul_assoc, ← Nat.pow_add]; congr 2; omega
  have hz2 := ar_z (Nat.two_pow_pos (j + k)) q1 hz1
  have hR : Rep z := by rw [hz]; exact rep_pow' hb (by omega)
  obtain ⟨d1, d2⟩ := of_rr (x := FP.dmul x y) e1 (Nat.two_pow_pos _) hR (by rw [hz2, Nat.mul_assoc, one_sq])
  refine ⟨d1, ?_⟩
  have hs : signed (sgn (val64 x) != sgn (val64 y)) z * (one64 : Int) = zval b64 (val64 x) * zval b64 (val64 y) := by rw [← signed_mul, ← hz2, signed_xor, zv_eq, zv_eq]
  rw [d2, Nat.pow_add, Int.natCast_mul]
  exact ar_i one_ne h.2 g.2 hs
theorem zm_ne {n : Int} {j : Nat} {x : UInt64} (h : Dy n j x) (hn : n ≠ 0) : zmag b64 (val64 x) ≠ 0 := by
  intro k
  have := h.mag
  rw [k, Nat.zero_mul] at this
  have h1 : n.natAbs * one64 ≠ 0 := Nat.mul_ne_zero (by omega) (by have := one64_pos; omega)
  exact h1 this.symm
theorem signed_div (s t : Bool) (a b : Nat) : signed (s != t) a * signed t b = signed s (a * b) := by rw [← signed_xor]; congr 1; cases s <;> cases t <;> rfl
theorem Dy.div {n m w : Int} {j k i : Nat} {x y : UInt64} (h : Dy n j x) (g : Dy m k y) (hm0 : m ≠ 0) (hw : n * ((2 ^ k : Nat) : Int) * ((2 ^ i : Nat) : Int) = w * m * ((2 ^ j : Nat) : Int)) (hb : w.natAbs ≤ 2 ^ 53) (hi : i ≤ 1074) : Dy w i (FP.ddiv x y) := by
  have hz0 := zm_ne g hm0
  have e1 := ddiv_rr h.1 g.1 hz0
  obtain ⟨z, hz⟩ : ∃ z, z = w.natAbs * 2 ^ (1074 - i) := ⟨_, rfl⟩
  have hz1 : z * 2 ^ i = w.natAbs * one64 := by
    rw [hz, one_pow, Nat.mul_assoc, ← Nat.pow_add]; congr 2; omega
  have hw' := congrArg Int.natAbs hw
  simp only [Int.natAbs_mul, Int.natAbs_natCast] at hw'
  have hz2 := ar_d (Nat.mul_pos (Nat.mul_pos (Nat.two_pow_pos j) (Nat.two_pow_pos k)) (Nat.two_pow_pos i)) h.mag g.mag hz1 hw'
  have hR : Rep z := by rw [hz]; exact rep_pow' hb (by omega)
  obtain ⟨d1, d2⟩ := of_rr (x := FP.ddiv x y) e1 (Nat.pos_of_ne_zero hz0) hR hz2
  refine ⟨d1, ?_⟩
  have hs : zval b64 (val64 (FP.ddiv x y)) * zval b64 (val64 y) = zval b64 (val64 x) * (one64 : Int) := by
    rw [d2, zv_eq y, signed_div, ← hz2, signed_mul, zv_eq x]
  have hy0 : zval b64 (val64 y) ≠ 0 := by
    intro q; rw [zv_eq, signed_eq_zero] at q; exact hz0 q
  exact ar_q hy0 (p2_ne j) (p2_ne k) h.2 g.2 hs hw
end Jvm.Own
namespace Jvm.Own
open Jvm.FP.Core Sem ClassFile Op Lib Jvm.Free
theorem Dy.to {n n' : Int} {j j' : Nat} {x : UInt64} (h : Dy n j x) (k : Nat) (hj : j + k = j') (hn : n * ((2 ^ k : Nat) : Int) = n') : Dy n' j' x := by subst hj hn; exact h.up k
theorem Dy.cl {n m : Int} {j : Nat} {x y : UInt64} (h : Dy n j x) (g : Dy m j y) (o : CmpOp) : cmpValue (FP.dcmp x y) o = cmpI n m := by rw [h.cmp g, cmpI_some]
theorem Dy.lit {n : Int} {j : Nat} {x : UInt64} (h1 : x.toNat % 2 ^ 63 < 9218868437227405312) (h2 : zval b64 (val64 x) * ((2 ^ j : Nat) : Int) = n * (one64 : Int)) : Dy n j x := ⟨(fin_bits x).mpr h1, h2⟩
theorem Dy.i2d' {v : Int32} {n : Int} (h : v.toInt = n) : Dy n 0 (FP.i2d v) := h ▸ Dy.i2d v
theorem Dy.l2d' {v : Int64} {n : Int} (h : v.toInt = n) (hb : n.natAbs ≤ 2 ^ 53) : Dy n 0 (FP.l2d v) := by subst h; exact Dy.l2d hb
end Jvm.Own
namespace Jvm.Own
open Jvm.FP.Core Sem ClassFile Op Lib Jvm.Free
/-! the quotient, rounded: between what stands around it -/
abbrev zv (x : UInt64) : Int := zval b64 (val64 x)
theorem Zc {x y : UInt64} (hx : DFin x) (hy : DFin y) (o : CmpOp) : cmpValue (FP.dcmp x y) o = cmpI (zv x) (zv y) := by
  rw [show FP.dcmp x y = _ from dcmp_zval hx.ne_nan hy.ne_nan, cmpI_some]
theorem Dy.same {n : Int} {j : Nat} {x y : UInt64} (h : Dy n j x) (g : Dy n j y) : zv x = zv y := by
  apply Int.eq_of_mul_eq_mul_right (p2_ne j)
  rw [h.2, g.2]
theorem sg_le (s : Bool) (z : Nat) : signed s z ≤ (z : Int) := by cases s <;> simp [signed] <;> omega
theorem sg_ge (s : Bool) (z : Nat) : -(z : Int) ≤ signed s z := by cases s <;> simp [signed] <;> omega
theorem sg_nn {s : Bool} {z : Nat} (h : 0 ≤ signed s z) : signed s z = (z : Int) := by
  cases s
  · rfl
  · have e : signed true z = -(z : Int) := rfl
    rw [e] at h ⊢; omega
theorem sg_np {s : Bool} {z : Nat} (h : signed s z ≤ 0) : signed s z = -(z : Int) := by
  cases s
  · have e : signed false z = (z : Int) := rfl
    rw [e] at h ⊢; omega
  · rfl
theorem Dy.nn {n : Int} {j : Nat} {x : UInt64} (h : Dy n j x) (hn : 0 ≤ n) : 0 ≤ zv x := by
  have hp : (0 : Int) < ((2 ^ j : Nat) : Int) := by have := Nat.two_pow_pos j; omega
  have e : zv x * ((2 ^ j : Nat) : Int) = n * (one64 : Int) := h.2
  have q : 0 ≤ zv x * ((2 ^ j : Nat) : Int) := by rw [e]; exact Int.mul_nonneg hn (Int.natCast_nonneg _)
  exact Int.nonneg_of_mul_nonneg_left q hp
theorem Dy.np {n : Int} {j : Nat} {x : UInt64} (h : Dy n j x) (hn : n ≤ 0) : zv x ≤ 0 := by
  have hp : (0 : Int) < ((2 ^ j : Nat) : Int) := by have := Nat.two_pow_pos j; omega
  have e : zv x * ((2 ^ j : Nat) : Int) = n * (one64 : Int) := h.2
  have q : 0 ≤ -zv x * ((2 ^ j : Nat) : Int) := by
    rw [Int.neg_mul, e, ← Int.neg_mul]; exact Int.mul_nonneg (by omega) (Int.natCast_nonneg _)
  have := Int.nonneg_of_mul_nonneg_left q hp
  omega
theorem Dy.pos_sgn {n : Int} {j : Nat} {x : UInt64} (h : Dy n j x) (hn : 0 < n) : sgn (val64 x) = false := by
  have h0 := h.nn (by omega)
  have hz := zm_ne h (by omega)
  rw [show zv x = signed (sgn (val64 x)) (zmag b64 (val64 x)) from rfl] at h0
  cases e : sgn (val64 x)
  · rfl
  · rw [e] at h0
    have e2 : signed true (zmag b64 (val64 x)) = -(zmag b64 (val64 x) : Int) := rfl
    rw [e2] at h0; omega
theorem zmul_le {a b A B c d P : Nat} (hP : 0 < P) (h1 : a * P = A) (h2 : b * P = B) (h : A ≤ B) : a ≤ b := by
  subst h1 h2; exact Nat.le_of_mul_le_mul_right h hP
/-- the magnitude of x / y against V's -/
theorem ar_le {x y V I K J N M v O : Nat} (hp : 0 < I * K * J) (hx : x * I = N * O) (hy : y * K = M * O) (hV : V * J = v * O) (h : N * K * J ≤ v * M * I) : x * O ≤ V * y := by
  apply Nat.le_of_mul_le_mul_right (c := I * K * J) _ hp
  calc x * O * (I * K * J) = (x * I) * (O * (K * J)) := by ac_rfl
    _ = (N * K * J) * (O * O) := by rw [hx]; ac_rfl
    _ ≤ (v * M * I) * (O * O) := Nat.mul_le_mul_right _ h
    _ = (v * O) * (M * O) * I := by ac_rfl
    _ = (V * J) * (y * K) * I := by rw [hV, hy]
    _ = V * y * (I * K * J) := by ac_rfl
theorem ar_ge {x y V I K J N M v O : Nat} (hp : 0 < I * K * J) (hx : x * I = N * O) (hy : y * K = M * O) (hV : V * J = v * O) (h : v * M * I ≤ N * K * J) : V * y ≤ x * O := by
  apply Nat.le_of_mul_le_mul_right (c := I * K * J) _ hp
  calc V * y * (I * K * J) = (V * J) * (y * K) * I := by ac_rfl
    _ = (v * O) * (M * O) * I := by rw [hV, hy]
    _ = (v * M * I) * (O * O) := by ac_rfl
    _ ≤ (N * K * J) * (O * O) := Nat.mul_le_mul_right _ h
    _ = (x * I) * (O * (K * J)) := by rw [hx]; ac_rfl
    _ = x * O * (I * K * J) := by ac_rfl
theorem p3_pos (i k j : Nat) : 0 < 2 ^ i * 2 ^ k * 2 ^ j := Nat.mul_pos (Nat.mul_pos (Nat.two_pow_pos i) (Nat.two_pow_pos k)) (Nat.two_pow_pos j)
theorem mag_le_of {n m v : Int} {i k j : Nat} {x y V : UInt64} (hx : Dy n i x) (hy : Dy m k y) (hV : Dy v j V) (h : n.natAbs * 2 ^ k * 2 ^ j ≤ v.natAbs * m.natAbs * 2 ^ i) : zmag b64 (val64 x) * one64 ≤ zmag b64 (val64 V) * zmag b64 (val64 y) := ar_le (p3_pos i k j) hx.mag hy.mag hV.mag h
theorem mag_ge_of {n m v : Int} {i k j : Nat} {x y V : UInt64} (hx : Dy n i x) (hy : Dy m k y) (hV : Dy v j V) (h : v.natAbs * m.natAbs * 2 ^ i ≤ n.natAbs * 2 ^ k * 2 ^ j) : zmag b64 (val64 V) * zmag b64 (val64 y) ≤ zmag b64 (val64 x) * one64 := ar_ge (p3_pos i k j) hx.mag hy.mag hV.mag h
theorem zv_div {n m : Int} {i k : Nat} {x y : UInt64} (hx : Dy n i x) (hy : Dy m k y) (hm : 0 < m) : zv (FP.ddiv x y) = signed (sgn (val64 x)) (zmag b64 (rr (sgn (val64 x)) (zmag b64 (val64 x)) (zmag b64 (val64 y)))) ∧ val64 (FP.ddiv x y) = rr (sgn (val64 x)) (zmag b64 (val64 x)) (zmag b64 (val64 y)) := by
  have e := ddiv_rr hx.1 hy.1 (zm_ne hy (by omega))
  rw [hy.pos_sgn hm] at e
  have es : (sgn (val64 x) != false) = sgn (val64 x) := by cases sgn (val64 x) <;> rfl
  rw [es] at e
  refine ⟨?_, e⟩
  show signed (sgn (val64 (ddiv x y))) (zmag b64 (val64 (ddiv x y))) = _
  rw [e, rr_sgn]
theorem rr_zero (s : Bool) (B : Nat) : zmag b64 (rr s 0 B) = 0 := by
  show zmag b64 (roundRatio b64 s 0 B 0) = 0
  unfold roundRatio
  rw [if_pos rfl]
  show 0 * _ = 0
  rw [Nat.zero_mul]
theorem Dy.neg_sgn {n : Int} {j : Nat} {x : UInt64} (h : Dy n j x) (hn : n < 0) : sgn (val64 x) = true := by
  have h0 := h.np (by omega)
  have hz := zm_ne h (by omega)
  rw [show zv x = signed (sgn (val64 x)) (zmag b64 (val64 x)) from rfl] at h0
  cases e : sgn (val64 x)
  · rw [e] at h0
    have e2 : signed false (zmag b64 (val64 x)) = (zmag b64 (val64 x) : Int) := rfl
    rw [e2] at h0; omega
  · rfl
theorem nat_le_of {n m v : Int} {P Q R : Nat} (hn : 0 ≤ n) (hm : 0 < m) (hv : 0 ≤ v) (h : n * (P : Int) * (Q : Int) ≤ v * m * (R : Int)) : n.natAbs * P * Q ≤ v.natAbs * m.natAbs * R := by
  apply Int.ofNat_le.mp
  simp only [Int.natCast_mul, Int.natAbs_of_nonneg hn, Int.natAbs_of_nonneg hv, Int.natAbs_of_nonneg (Int.le_of_lt hm)]
  exact h
theorem nat_ge_of {n m v : Int} {P Q R : Nat} (hn : 0 ≤ n) (hm : 0 < m) (hv : 0 ≤ v) (h : v * m * (R : Int) ≤ n * (P : Int) * (Q : Int)) : v.natAbs * m.natAbs * R ≤ n.natAbs * P * Q := by
  apply Int.ofNat_le.mp
  simp only [Int.natCast_mul, Int.natAbs_of_nonneg hn, Int.natAbs_of_nonneg hv, Int.natAbs_of_nonneg (Int.le_of_lt hm)]
  exact h
theorem neg_side {n m v P Q R : Int} (h : n * P * Q ≤ v * m * R) : (-v) * m * R ≤ (-n) * P * Q := by
  rw [Int.neg_mul, Int.neg_mul, Int.neg_mul, Int.neg_mul]; omega
theorem neg_side' {n m v P Q R : Int} (h : v * m * R ≤ n * P * Q) : (-n) * P * Q ≤ (-v) * m * R := by
  rw [Int.neg_mul, Int.neg_mul, Int.neg_mul, Int.neg_mul]; omega
theorem p2_pos (k : Nat) : (0 : Int) < ((2 ^ k : Nat) : Int) := by have := Nat.two_pow_pos k; omega
theorem div_le {n m v : Int} {i k j : Nat} {x y V : UInt64} (hx : Dy n i x) (hy : Dy m k y) (hm : 0 < m) (hV : Dy v j V) (h : n * ((2 ^ k : Nat) : Int) * ((2 ^ j : Nat) : Int) ≤ v * m * ((2 ^ i : Nat) : Int)) : zv (FP.ddiv x y) ≤ zv V := by
  obtain ⟨e, -⟩ := zv_div hx hy hm
  have hz : 0 < zmag b64 (val64 y) := Nat.pos_of_ne_zero (zm_ne hy (by omega))
  have pk := p2_pos k; have pj := p2_pos j; have pi := p2_pos i
  rw [e]
  by_cases hn : 0 ≤ n
  · have hv : 0 ≤ v := by
      have q : 0 ≤ v * m * ((2 ^ i : Nat) : Int) := Int.le_trans (Int.mul_nonneg (Int.mul_nonneg hn (Int.le_of_lt pk)) (Int.le_of_lt pj)) h
      exact Int.nonneg_of_mul_nonneg_left (Int.nonneg_of_mul_nonneg_left q pi) hm
    have hr := rr_le (s := sgn (val64 x)) hz (rep_val hV.1) (mag_le_of hx hy hV (nat_le_of hn hm hv h))
    have h0 := hV.nn hv
    rw [show zv V = signed (sgn (val64 V)) (zmag b64 (val64 V)) from rfl] at h0 ⊢
    rw [sg_nn h0]
    exact Int.le_trans (sg_le _ _) (Int.ofNat_le.mpr hr)
  · have hn' : n < 0 := by omega
    rw [hx.neg_sgn hn']
    by_cases hv : 0 ≤ v
    · have h0 := hV.nn hv
      have : signed true (zmag b64 (rr true (zmag b64 (val64 x)) (zmag b64 (val64 y)))) ≤ 0 := by
        show -((zmag b64 (rr true (zmag b64 (val64 x)) (zmag b64 (val64 y))) : Nat) : Int) ≤ 0
        omega
      omega
    · have h2 := neg_side h
      have h3 := nat_ge_of (n := -n) (v := -v) (by omega) hm (by omega) h2
      rw [Int.natAbs_neg, Int.natAbs_neg] at h3
      have hr := rr_ge (s := true) hz (rep_val hV.1) (mag_ge_of hx hy hV h3)
      have h0 := hV.np (by omega)
      rw [show zv V = signed (sgn (val64 V)) (zmag b64 (val64 V)) from rfl] at h0 ⊢
      rw [sg_np h0]
      show -((zmag b64 (rr true (zmag b64 (val64 x)) (zmag b64 (val64 y))) : Nat) : Int) ≤ _
      omega
theorem div_ge {n m v : Int} {i k j : Nat} {x y V : UInt64} (hx : Dy n i x) (hy : Dy m k y) (hm : 0 < m) (hV : Dy v j V) (h : v * m * ((2 ^ i : Nat) : Int) ≤ n * ((2 ^ k : Nat) : Int) * ((2 ^ j : Nat) : Int)) : zv V ≤ zv (FP.ddiv x y) := by
  obtain ⟨e, -⟩ := zv_div hx hy hm
  have hz : 0 < zmag b64 (val64 y) := Nat.pos_of_ne_zero (zm_ne hy (by omega))
  have pk := p2_pos k; have pj := p2_pos j; have pi := p2_pos i
  rw [e]
  by_cases hn : n ≤ 0
  · have hv : v ≤ 0 := by
      have q : 0 ≤ (-v) * m * ((2 ^ i : Nat) : Int) := Int.le_trans (Int.mul_nonneg (Int.mul_nonneg (by omega : 0 ≤ -n) (Int.le_of_lt pk)) (Int.le_of_lt pj)) (neg_side' h)
      have := Int.nonneg_of_mul_nonneg_left (Int.nonneg_of_mul_nonneg_left q pi) hm
      omega
    have h3 := nat_le_of (n := -n) (v := -v) (by omega) hm (by omega) (neg_side' h)
    rw [Int.natAbs_neg, Int.natAbs_neg] at h3
    have hr := rr_le (s := sgn (val64 x)) hz (rep_val hV.1) (mag_le_of hx hy hV h3)
    have h0 := hV.np hv
    rw [show zv V = signed (sgn (val64 V)) (zmag b64 (val64 V)) from rfl] at h0 ⊢
    rw [sg_np h0]
    exact Int.le_trans (Int.neg_le_neg (Int.ofNat_le.mpr hr)) (sg_ge _ _)
  · have hn' : 0 < n := by omega
    rw [hx.pos_sgn hn']
    by_cases hv : v ≤ 0
    · have h0 := hV.np hv
      have : 0 ≤ signed false (zmag b64 (rr false (zmag b64 (val64 x)) (zmag b64 (val64 y)))) := by
        show 0 ≤ ((zmag b64 (rr false (zmag b64 (val64 x)) (zmag b64 (val64 y))) : Nat) : Int)
        omega
      omega
    · have h3 := nat_ge_of (by omega) hm (by omega) h
      have hr := rr_ge (s := false) hz (rep_val hV.1) (mag_ge_of hx hy hV h3)
      have h0 := hV.nn (by omega)
      rw [show zv V = signed (sgn (val64 V)) (zmag b64 (val64 V)) from rfl] at h0 ⊢
      rw [sg_nn h0]
      show _ ≤ ((zmag b64 (rr false (zmag b64 (val64 x)) (zmag b64 (val64 y))) : Nat) : Int)
      omega
theorem div_fin {n m v : Int} {i k j : Nat} {x y V : UInt64} (hx : Dy n i x) (hy : Dy m k y) (hm : 0 < m) (hV : Dy v j V) (h : n.natAbs * 2 ^ k * 2 ^ j ≤ v.natAbs * m.natAbs * 2 ^ i) : DFin (FP.ddiv x y) := by
  obtain ⟨-, e⟩ := zv_div hx hy hm
  have hz : 0 < zmag b64 (val64 y) := Nat.pos_of_ne_zero (zm_ne hy (by omega))
  obtain ⟨c, q, r⟩ := rr_fin (rep_val hV.1) (rr_le (s := sgn (val64 x)) hz (rep_val hV.1) (mag_le_of hx hy hV h))
  exact ⟨_, c, q, by rw [show val64 (FP.ddiv x y) = _ from e, r]⟩
theorem DFin.nn64 {x : UInt64} (h : DFin x) : Jvm.Free.Fl.NoNaN64 x := (Jvm.Free.Fl.fin64_core.mpr h).noNaN
/-- a quotient of whole numbers that are small: it is finite -/
theorem div_whole {n m : Int} {x y : UInt64} (hx : Dy n 0 x) (hy : Dy m 0 y) (hm : 0 < m) : DFin (FP.ddiv x y) := by
  refine div_fin hx hy hm hx ?_
  have : 1 ≤ m.natAbs := by omega
  simp only [Nat.pow_zero, Nat.mul_one]
  exact Nat.le_mul_of_pos_right _ (by omega)
end Jvm.Own
namespace Jvm.Pilot.@@N@@
open Jvm Jvm.ClassFile Sem Op Lib Jvm.Free Jvm.Stand Jvm.LawKit Jvm.RoadKit Bundle Jvm.Own Jvm.Pilot.@@N@@.Jvm.D
open Jvm.FP.Core in
theorem own_h : Dy 100000 0 (4681608360884174848 : UInt64) := Dy.lit (by decide) (by decide +kernel)
theorem own_t0 : FP.dsub (4596373779694328218 : UInt64) (4557750909289998844 : UInt64) = (4596355765295818736 : UInt64) := by decide +kernel
theorem own_T0 : Dy (449234062830207) 51 (4596355765295818736 : UInt64) := Dy.lit (by decide) (by decide +kernel)
theorem own_P0 : Dy (7187745005283311) 55 (4596355765295818735 : UInt64) := Dy.lit (by decide) (by decide +kernel)
theorem own_pt0 : zv (4596355765295818735 : UInt64) < zv (4596355765295818736 : UInt64) := by decide +kernel
theorem own_lo0 {k : Int32} {x y t : UInt64} (hy : FP.i2d k = y) (hx : FP.ddiv y (4681608360884174848 : UInt64) = x) (h : k.toInt < 19950) (ht : t = (4596355765295818736 : UInt64)) : zv x < zv t := by
  subst hy hx ht
  refine Int.lt_of_le_of_lt (div_le (Dy.i2d k) own_h (by decide) own_P0 ?_) own_pt0
  have e1 : ((2 ^ 0 : Nat) : Int) = 1 := by decide
  have e2 : ((2 ^ 55 : Nat) : Int) = 36028797018963968 := by decide +kernel
  rw [e1, e2]; omega
theorem own_hi0 {k : Int32} {x y t : UInt64} (hy : FP.i2d k = y) (hx : FP.ddiv y (4681608360884174848 : UInt64) = x) (h : 19951 ≤ k.toInt) (ht : t = (4596355765295818736 : UInt64)) : zv t ≤ zv x := by
  subst hy hx ht
  refine div_ge (Dy.i2d k) own_h (by decide) own_T0 ?_
  have e1 : ((2 ^ 0 : Nat) : Int) = 1 := by decide
  have e2 : ((2 ^ 51 : Nat) : Int) = 2251799813685248 := by decide +kernel
  rw [e1, e2]; omega
theorem own_t2 : FP.dsub (4598175219545276416 : UInt64) (4557750909289998844 : UInt64) = (4598157205146766934 : UInt64) := by decide +kernel
theorem own_T2 : Dy (4494592428115755) 54 (4598157205146766934 : UInt64) := Dy.lit (by decide) (by decide +kernel)
theorem own_P2 : Dy (8989184856231509) 55 (4598157205146766933 : UInt64) := Dy.lit (by decide) (by decide +kernel)
theorem own_pt2 : zv (4598157205146766933 : UInt64) < zv (4598157205146766934 : UInt64) := by decide +kernel
theorem own_lo2 {k : Int32} {x y t : UInt64} (hy : FP.i2d k = y) (hx : FP.ddiv y (4681608360884174848 : UInt64) = x) (h : k.toInt < 24950) (ht : t = (4598157205146766934 : UInt64)) : zv x < zv t := by
  subst hy hx ht
  refine Int.lt_of_le_of_lt (div_le (Dy.i2d k) own_h (by decide) own_P2 ?_) own_pt2
  have e1 : ((2 ^ 0 : Nat) : Int) = 1 := by decide
  have e2 : ((2 ^ 55 : Nat) : Int) = 36028797018963968 := by decide +kernel
  rw [e1, e2]; omega
theorem own_hi2 {k : Int32} {x y t : UInt64} (hy : FP.i2d k = y) (hx : FP.ddiv y (4681608360884174848 : UInt64) = x) (h : 24951 ≤ k.toInt) (ht : t = (4598157205146766934 : UInt64)) : zv t ≤ zv x := by
  subst hy hx ht
  refine div_ge (Dy.i2d k) own_h (by decide) own_T2 ?_
  have e1 : ((2 ^ 0 : Nat) : Int) = 1 := by decide
  have e2 : ((2 ^ 54 : Nat) : Int) = 18014398509481984 := by decide +kernel
  rw [e1, e2]; omega
theorem own_t3 : FP.dsub (4590068740216009523 : UInt64) (4557750909289998844 : UInt64) = (4590032711418990559 : UInt64) := by decide +kernel
theorem own_T3 : Dy (5368290755825631) 56 (4590032711418990559 : UInt64) := Dy.lit (by decide) (by decide +kernel)
theorem own_P3 : Dy (2684145377912815) 55 (4590032711418990558 : UInt64) := Dy.lit (by decide) (by decide +kernel)
theorem own_pt3 : zv (4590032711418990558 : UInt64) < zv (4590032711418990559 : UInt64) := by decide +kernel
theorem own_lo3 {k : Int32} {x y t : UInt64} (hy : FP.i2d k = y) (hx : FP.ddiv y (4681608360884174848 : UInt64) = x) (h : k.toInt < 7450) (ht : t = (4590032711418990559 : UInt64)) : zv x < zv t := by
  subst hy hx ht
  refine Int.lt_of_le_of_lt (div_le (Dy.i2d k) own_h (by decide) own_P3 ?_) own_pt3
  have e1 : ((2 ^ 0 : Nat) : Int) = 1 := by decide
  have e2 : ((2 ^ 55 : Nat) : Int) = 36028797018963968 := by decide +kernel
  rw [e1, e2]; omega
theorem own_hi3 {k : Int32} {x y t : UInt64} (hy : FP.i2d k = y) (hx : FP.ddiv y (4681608360884174848 : UInt64) = x) (h : 7451 ≤ k.toInt) (ht : t = (4590032711418990559 : UInt64)) : zv t ≤ zv x := by
  subst hy hx ht
  refine div_ge (Dy.i2d k) own_h (by decide) own_T3 ?_
  have e1 : ((2 ^ 0 : Nat) : Int) = 1 := by decide
  have e2 : ((2 ^ 56 : Nat) : Int) = 72057594037927936 := by decide +kernel
  rw [e1, e2]; omega
theorem own_t4 : FP.dsub (0 : UInt64) (4557750909289998844 : UInt64) = (13781122946144774652 : UInt64) := by decide +kernel
theorem own_T4 : Dy (-1152921504606847) 61 (13781122946144774652 : UInt64) := Dy.lit (by decide) (by decide +kernel)
theorem own_P4 : Dy (-4611686018427389) 63 (13781122946144774653 : UInt64) := Dy.lit (by decide) (by decide +kernel)
theorem own_pt4 : zv (13781122946144774653 : UInt64) < zv (13781122946144774652 : UInt64) := by decide +kernel
theorem own_lo4 {k : Int32} {x y t : UInt64} (hy : FP.i2d k = y) (hx : FP.ddiv y (4681608360884174848 : UInt64) = x) (h : k.toInt < -50) (ht : t = (13781122946144774652 : UInt64)) : zv x < zv t := by
  subst hy hx ht
  refine Int.lt_of_le_of_lt (div_le (Dy.i2d k) own_h (by decide) own_P4 ?_) own_pt4
  have e1 : ((2 ^ 0 : Nat) : Int) = 1 := by decide
  have e2 : ((2 ^ 63 : Nat) : Int) = 9223372036854775808 := by decide +kernel
  rw [e1, e2]; omega
theorem own_hi4 {k : Int32} {x y t : UInt64} (hy : FP.i2d k = y) (hx : FP.ddiv y (4681608360884174848 : UInt64) = x) (h : -49 ≤ k.toInt) (ht : t = (13781122946144774652 : UInt64)) : zv t ≤ zv x := by
  subst hy hx ht
  refine div_ge (Dy.i2d k) own_h (by decide) own_T4 ?_
  have e1 : ((2 ^ 0 : Nat) : Int) = 1 := by decide
  have e2 : ((2 ^ 61 : Nat) : Int) = 2305843009213693952 := by decide +kernel
  rw [e1, e2]; omega
theorem own_eq4 {k : Int32} {x y t : UInt64} (hy : FP.i2d k = y) (hx : FP.ddiv y (4681608360884174848 : UInt64) = x) (h : k.toInt = -50) (ht : t = (13781122946144774652 : UInt64)) : zv t ≤ zv x := by
  obtain rfl : k = -50 := Int32.toInt_inj.mp h
  subst hy hx ht
  decide +kernel
theorem pd_0 : parseMethodDescriptor "(D)Z" = some ⟨[.double], some .boolean⟩ := by decide +kernel
theorem own_lit4557750909289998844 : Dy (1152921504606847) 61 (4557750909289998844 : UInt64) := Dy.lit (by decide) (by decide +kernel)
theorem own_lit4681608360884174848 : Dy (100000) 0 (4681608360884174848 : UInt64) := Dy.lit (by decide) (by decide +kernel)
theorem pn_1 : plainFor (⟨"com/example/landsmith/landsmith/ManufacturingRules$Rule", "breachedBy", "(D)Z"⟩ : MethodName) = true := by decide +kernel
theorem pn_0 : plainFor x = true := by decide +kernel
theorem d1_0 : decode prog_34_method_5_code 0 = .ok (.dload_n 1, 1) := by decide +kernel
theorem d1_1 : decode prog_34_method_5_code 1 = .ok (.aload_n 0, 1) := by decide +kernel
theorem d1_2 : decode prog_34_method_5_code 2 = .ok (.getfield 40, 3) := by decide +kernel
theorem d1_5 : decode prog_34_method_5_code 5 = .ok (.ldc2_w 44, 3) := by decide +kernel
theorem d1_8 : decode prog_34_method_5_code 8 = .ok (.dsub, 1) := by decide +kernel
theorem d1_9 : decode prog_34_method_5_code 9 = .ok (.dcmp .g, 1) := by decide +kernel
theorem d1_10 : decode prog_34_method_5_code 10 = .ok (.ifCond .ge 7, 3) := by decide +kernel
theorem d1_13 : decode prog_34_method_5_code 13 = .ok (.iconst 1, 1) := by decide +kernel
theorem d1_14 : decode prog_34_method_5_code 14 = .ok (.goto 4, 3) := by decide +kernel
theorem d1_17 : decode prog_34_method_5_code 17 = .ok (.iconst 0, 1) := by decide +kernel
theorem d1_18 : decode prog_34_method_5_code 18 = .ok (.ireturn, 1) := by decide +kernel
theorem ef_c_br (m : MethodId) (x0 : Addr) (x1 : UInt64) : entryFrame m #[(.ref x0), (.double x1)] 3 = mkF m 0 #[.val (.ref x0), .val (.double x1), .second] [] := by first | (simp [entryFrame, mkF, argsToLocals, Value.category, maxLocals]; done) | rfl
set_option maxRecDepth 65536 in
set_option maxHeartbeats 40000000 in
theorem c_br (l : Launch) (Z : State) (a0 : Array Value) (hw : ∀ d ∈ tables_1, d.before a0 Z = true) (ws : List Jvm.Cond) (a : Addr) (x le t : UInt64) (h0 : Heap) (n0 : Nat) (Z0 : n0 ≤ h0.size) (Fl : Fld Z h0 a "com/example/landsmith/landsmith/ManufacturingRules$Rule" "least" "D" (.double le)) (ht : FP.dsub le (4557750909289998844 : UInt64) = t) (ft : Jvm.FP.Core.DFin t) (fx : Jvm.FP.Core.DFin x) :
    Ctr l Z (⟨"com/example/landsmith/landsmith/ManufacturingRules$Rule", "breachedBy", "(D)Z"⟩ : MethodName) prog_34_method_5_code 3 (some .boolean) ws ({ frames := 0, cells := 0, slots := 0, locals := 0 } : Room) #[(.ref a), (.double x)] h0 (fun v h L => ∃ z : Int32, v = some (.int z) ∧ (z.toInt = 1 ∧ zv x < zv t ∨ z.toInt = 0 ∧ zv t ≤ zv x) ∧ Fr n0 L ∧ h = h0) := by
  refine enter pn_1 ?_
  intro p e s m below meth c T0 X0 hx hby hml hret hlk hZ hown hnm e0
  have A0 := wk X0 hx hby
  have N0 := Fr.nil n0
  refine goIn (ef_c_br m a x) ?_
  show Go p e below m (Fini s 0 0 (fun v h L => ∃ z : Int32, v = some (.int z) ∧ (z.toInt = 1 ∧ zv x < zv t ∨ z.toInt = 0 ∧ zv t ≤ zv x) ∧ Fr n0 L ∧ h = h0)) T0 0 #[.val (.ref a), .val (.double x), .second] []
  refine s_dloadN A0 d1_0 (pc' := 1) rfl rfl ?_
  refine s_aloadN A0 d1_1 (pc' := 2) rfl rfl rfl ?_
  refine g_getF X0 hx hZ hown (hw _ (List.mem_of_getElem? (i := 10) rfl)) Via.refl e0 Fl (hb hby d1_2) (pc' := 5) rfl ?_
  intro T1 X1 e1
  have A1 := wk X1 hx hby
  refine g_ldcD X1 hx hZ (v := (4557750909289998844 : UInt64)) hown (hw _ (List.mem_of_getElem? (i := 12) rfl)) (hb hby d1_5) (pc' := 8) rfl ?_
  refine s_dsub A1 d1_8 (pc' := 9) rfl ht (DFin.nn64 ft) ?_
  refine s_dcmp A1 d1_9 (pc' := 10) rfl (Zc fx ft .g) ?_
  refine s_ifge A1 d1_10 (pY := 17) (pN := 13) (by decide) (by decide) rfl ?_ ?_
  · intro c10
    replace c10 := cmpI_ge c10
    refine s_iconst A1 d1_17 (pc' := 18) rfl (v := (0 : Int32)) (by decide) ?_
    exact g_retZ X1 hx hlk hret (by decide) (hb hby d1_18) ⟨_, rfl, Or.inr ⟨by decide, by omega⟩, N0, e1⟩ (by decide) (by decide)
  · intro c10
    replace c10 := cmpI_lt c10
    refine s_iconst A1 d1_13 (pc' := 14) rfl (v := (1 : Int32)) (by decide) ?_
    refine s_goto A1 d1_14 (pc' := 18) (by decide) (by decide) ?_
    exact g_retZ X1 hx hlk hret (by decide) (hb hby d1_18) ⟨_, rfl, Or.inl ⟨by decide, by omega⟩, N0, e1⟩ (by decide) (by decide)
theorem ef_c_law (m : MethodId) (x0 : Int32) (x1 : Int32) : entryFrame m #[(.int x0), (.int x1)] maxLocals = mkF m 0 #[.val (.int x0), .val (.int x1), .unset, .unset, .unset, .unset, .unset, .unset, .unset] [] := by first | (simp [entryFrame, mkF, argsToLocals, Value.category, maxLocals]; done) | rfl
set_option maxRecDepth 65536 in
set_option maxHeartbeats 40000000 in
theorem c_law (l : Launch) (Z : State) (a0 : Array Value) (hw : ∀ d ∈ tables_1, d.before a0 Z = true) (ws : List Jvm.Cond) (p0 p1 : Int32) (r0 r1 r2 r3 r4 : Addr) (h0 : Heap) (n0 : Nat) (Z0 : n0 ≤ h0.size) (S0 : Sta Z h0 "com/example/landsmith/landsmith/ManufacturingRules$Rule" "LAND_TO_LAND" "Lcom/example/landsmith/landsmith/ManufacturingRules$Rule;" (.ref r0)) (E0 : Exa Z h0 r0 "com/example/landsmith/landsmith/ManufacturingRules$Rule") (F0 : Fld Z h0 r0 "com/example/landsmith/landsmith/ManufacturingRules$Rule" "least" "D" (.double 4596373779694328218)) (S1 : Sta Z h0 "com/example/landsmith/landsmith/ManufacturingRules$Rule" "LAND_TO_THERMAL" "Lcom/example/landsmith/landsmith/ManufacturingRules$Rule;" (.ref r1)) (E1 : Exa Z h0 r1 "com/example/landsmith/landsmith/ManufacturingRules$Rule") (F1 : Fld Z h0 r1 "com/example/landsmith/landsmith/ManufacturingRules$Rule" "least" "D" (.double 4596373779694328218)) (S2 : Sta Z h0 "com/example/landsmith/landsmith/ManufacturingRules$Rule" "SILK_TO_LAND" "Lcom/example/landsmith/landsmith/ManufacturingRules$Rule;" (.ref r2)) (E2 : Exa Z h0 r2 "com/example/landsmith/landsmith/ManufacturingRules$Rule") (F2 : Fld Z h0 r2 "com/example/landsmith/landsmith/ManufacturingRules$Rule" "least" "D" (.double 4598175219545276416)) (S3 : Sta Z h0 "com/example/landsmith/landsmith/ManufacturingRules$Rule" "MASK_WEB" "Lcom/example/landsmith/landsmith/ManufacturingRules$Rule;" (.ref r3)) (E3 : Exa Z h0 r3 "com/example/landsmith/landsmith/ManufacturingRules$Rule") (F3 : Fld Z h0 r3 "com/example/landsmith/landsmith/ManufacturingRules$Rule" "least" "D" (.double 4590068740216009523)) (S4 : Sta Z h0 "com/example/landsmith/landsmith/ManufacturingRules$Rule" "COURTYARD" "Lcom/example/landsmith/landsmith/ManufacturingRules$Rule;" (.ref r4)) (E4 : Exa Z h0 r4 "com/example/landsmith/landsmith/ManufacturingRules$Rule") (F4 : Fld Z h0 r4 "com/example/landsmith/landsmith/ManufacturingRules$Rule" "least" "D" (.double 0)) :
    Ctr l Z x code maxLocals ret ws room_1 #[(.int p0), (.int p1)] h0 (fun v h L => v = some (.int 1) ∧ Fr n0 L) := by
  refine enter pn_0 ?_
  intro p e s m below meth c T0 X0 hx hby hml hret hlk hZ hown hnm e0
  have A0 := wk X0 hx hby
  have N0 := Fr.nil n0
  refine goIn (ef_c_law m p0 p1) ?_
  show Go p e below m (Fini s room_1.cells room_1.slots (fun v h L => v = some (.int 1) ∧ Fr n0 L)) T0 0 #[.val (.int p0), .val (.int p1), .unset, .unset, .unset, .unset, .unset, .unset, .unset] []
  have b0 := i32b p0
  have b1 := i32b p1
  refine s_iloadN A0 at_0 (pc' := 1) rfl rfl ?_
  refine g_ldcI X0 hx hZ (v := (2147483647 : Int32)) hown (hw _ (List.mem_of_getElem? (i := 0) rfl)) (hb hby at_1) (pc' := 3) rfl ?_
  obtain ⟨z1, hz1⟩ : ∃ v : Int32, (p0 &&& (2147483647 : Int32)) = v := ⟨_, rfl⟩
  have q1 : 0 ≤ z1.toInt ∧ z1.toInt ≤ 2147483647 := hz1 ▸ iand_b (M := 2147483647) p0 (2147483647 : Int32) (by decide) (by decide)
  refine s_iand A0 at_3 (pc' := 4) rfl hz1 ?_
  refine s_iconst A0 at_4 (pc' := 5) rfl (v := (5 : Int32)) (by decide) ?_
  obtain ⟨z2, hz2⟩ : ∃ v : Int32, (z1 - (z1 / (5 : Int32)) * (5 : Int32)) = v := ⟨_, rfl⟩
  refine s_irem A0 at_5 (pc' := 6) rfl (by decide) hz2 ?_
  refine s_istoreN A0 at_6 (pc' := 7) rfl (ls' := #[.val (.int p0), .val (.int p1), .val (.int z2), .unset, .unset, .unset, .unset, .unset, .unset]) rfl ?_
  refine s_iloadN A0 at_7 (pc' := 8) rfl rfl ?_
  refine s_ifne A0 at_8 (pY := 23) (pN := 11) (by decide) (by decide) rfl ?_ ?_
  · intro c8
    replace c8 := iz_ne c8
    refine s_iloadN A0 at_23 (pc' := 24) rfl rfl ?_
    refine s_iconst A0 at_24 (pc' := 25) rfl (v := (1 : Int32)) (by decide) ?_
    refine s_icmpne A0 at_25 (pY := 40) (pN := 28) (by decide) (by decide) rfl ?_ ?_
    · intro c25
      replace c25 := i_ne c25
      rw [show (1 : Int32).toInt = 1 from by decide] at c25
      refine s_iloadN A0 at_40 (pc' := 41) rfl rfl ?_
      refine s_iconst A0 at_41 (pc' := 42) rfl (v := (2 : Int32)) (by decide) ?_
      refine s_icmpne A0 at_42 (pY := 57) (pN := 45) (by decide) (by decide) rfl ?_ ?_
      · intro c42
        replace c42 := i_ne c42
        rw [show (2 : Int32).toInt = 2 from by decide] at c42
        refine s_iloadN A0 at_57 (pc' := 58) rfl rfl ?_
        refine s_iconst A0 at_58 (pc' := 59) rfl (v := (3 : Int32)) (by decide) ?_
        refine s_icmpne A0 at_59 (pY := 74) (pN := 62) (by decide) (by decide) rfl ?_ ?_
        · intro c59
          replace c59 := i_ne c59
          rw [show (3 : Int32).toInt = 3 from by decide] at c59
          refine g_getS X0 hx hZ hown (hw _ (List.mem_of_getElem? (i := 13) rfl)) Via.refl e0 S4 (hb hby at_74) (pc' := 77) rfl ?_
          intro T3 X3 e3
          have A3 := wk X3 hx hby
          refine s_astoreN A3 at_77 (pc' := 78) rfl (ls' := #[.val (.int p0), .val (.int p1), .val (.int z2), .val (.ref r4), .unset, .unset, .unset, .unset, .unset]) rfl rfl ?_
          refine s_iconst A3 at_78 (pc' := 79) rfl (v := (0 : Int32)) (by decide) ?_
          refine s_istore A3 at_79 (pc' := 81) rfl (ls' := #[.val (.int p0), .val (.int p1), .val (.int z2), .val (.ref r4), .val (.int (0 : Int32)), .unset, .unset, .unset, .unset]) rfl ?_
          refine s_iload A3 at_81 (pc' := 83) rfl rfl ?_
          refine s_bipush A3 at_83 (pc' := 85) rfl (v := (50 : Int32)) (by decide) ?_
          refine s_isub A3 at_85 (pc' := 86) rfl (v := (-50 : Int32)) (by decide) ?_
          refine s_istore A3 at_86 (pc' := 88) rfl (ls' := #[.val (.int p0), .val (.int p1), .val (.int z2), .val (.ref r4), .val (.int (0 : Int32)), .val (.int (-50 : Int32)), .unset, .unset, .unset]) rfl ?_
          refine s_iloadN A3 at_88 (pc' := 89) rfl rfl ?_
          refine s_iload A3 at_89 (pc' := 91) rfl rfl ?_
          refine s_icmpne A3 at_91 (pY := 101) (pN := 94) (by decide) (by decide) rfl ?_ ?_
          · intro c91
            replace c91 := i_ne c91
            rw [show (-50 : Int32).toInt = -50 from by decide] at c91
            refine s_iloadN A3 at_101 (pc' := 102) rfl rfl ?_
            obtain ⟨z4, hz4⟩ : ∃ v : UInt64, FP.i2d p1 = v := ⟨_, rfl⟩
            have q4 : Dy p1.toInt 0 z4 := hz4 ▸ Dy.i2d' (n := p1.toInt) rfl
            refine s_i2d A3 at_102 (pc' := 103) rfl hz4 ?_
            refine g_ldcD X3 hx hZ (v := (4681608360884174848 : UInt64)) hown (hw _ (List.mem_of_getElem? (i := 4) rfl)) (hb hby at_103) (pc' := 106) rfl ?_
            obtain ⟨z5, hz5⟩ : ∃ v : UInt64, (FP.ddiv z4 (4681608360884174848 : UInt64)) = v := ⟨_, rfl⟩
            have q5 : Jvm.FP.Core.DFin z5 := hz5 ▸ div_whole q4 own_lit4681608360884174848 (by omega)
            refine s_ddiv A3 at_106 (pc' := 107) rfl hz5 (DFin.nn64 q5) ?_
            refine s_dstore A3 at_107 (pc' := 109) rfl (ls' := #[.val (.int p0), .val (.int p1), .val (.int z2), .val (.ref r4), .val (.int (0 : Int32)), .val (.int (-50 : Int32)), .val (.double z5), .second, .unset]) rfl ?_
            refine s_iloadN A3 at_109 (pc' := 110) rfl rfl ?_
            refine s_iload A3 at_110 (pc' := 112) rfl rfl ?_
            refine s_icmpge A3 at_112 (pY := 119) (pN := 115) (by decide) (by decide) rfl ?_ ?_
            · intro c112
              replace c112 := i_ge c112
              rw [show (-50 : Int32).toInt = -50 from by decide] at c112
              refine s_iconst A3 at_119 (pc' := 120) rfl (v := (0 : Int32)) (by decide) ?_
              refine s_istore A3 at_120 (pc' := 122) rfl (ls' := #[.val (.int p0), .val (.int p1), .val (.int z2), .val (.ref r4), .val (.int (0 : Int32)), .val (.int (-50 : Int32)), .val (.double z5), .second, .val (.int (0 : Int32))]) rfl ?_
              refine s_aloadN A3 at_122 (pc' := 123) rfl rfl rfl ?_
              refine s_dload A3 at_123 (pc' := 125) rfl rfl ?_
              obtain ⟨tq, htq⟩ : ∃ t : UInt64, t = (13781122946144774652 : UInt64) := ⟨_, rfl⟩
              have u1 := fun h => own_lo4 hz4 hz5 h htq
              have u2 := fun h => own_hi4 hz4 hz5 h htq
              have u3 := fun h => own_eq4 hz4 hz5 h htq
              refine g_virtual X3 hx hZ (y := (⟨"com/example/landsmith/landsmith/ManufacturingRules$Rule", "breachedBy", "(D)Z"⟩ : MethodName)) hown (hw _ (List.mem_of_getElem? (i := 5) rfl)) (hw _ (List.mem_of_getElem? (i := 6) rfl)) (hw _ (List.mem_of_getElem? (i := 8) rfl)) (hw _ (List.mem_of_getElem? (i := 7) rfl)) (hw _ (List.mem_of_getElem? (i := 2) rfl)) (hw _ (List.mem_of_getElem? (i := 9) rfl)) (by decide) E4 (argsL := [(.double z5)]) (rest := []) (c_br l Z a0 hw [] r4 z5 0 tq h0 n0 Z0 F4 (own_t4.trans htq.symm) (by rw [htq]; exact own_T4.1) q5) pd_0 rfl rfl (hb hby at_125) e3 (by rw [hml]; rfl) (pc' := 128) rfl (by decide) (W := 0) (Nat.le_of_eq rfl) (by decide) (by decide) (by decide) ?_
              intro v6 T6 L6 X6 hQ6
              have A6 := wk X6 hx hby
              have e6 : T6.heap = T6.heap := rfl
              obtain ⟨z6, rfl, q6, N6, hh6⟩ := hQ6
              have e6 : T6.heap = h0 := hh6
              show Go p e below m (Fini s room_1.cells room_1.slots (fun v h L => v = some (.int 1) ∧ Fr n0 L)) T6 128 #[.val (.int p0), .val (.int p1), .val (.int z2), .val (.ref r4), .val (.int (0 : Int32)), .val (.int (-50 : Int32)), .val (.double z5), .second, .val (.int (0 : Int32))] [(.int z6)]
              refine s_iload A6 at_128 (pc' := 130) rfl rfl ?_
              refine s_icmpne A6 at_130 (pY := 137) (pN := 133) (by decide) (by decide) rfl ?_ ?_
              · intro c130
                replace c130 := i_ne c130
                rw [show (0 : Int32).toInt = 0 from by decide] at c130
                refine s_iconst A6 at_137 (pc' := 138) rfl (v := (0 : Int32)) (by decide) ?_
                exfalso; omega
              · intro c130
                replace c130 := i_eq c130
                rw [show (0 : Int32).toInt = 0 from by decide] at c130
                refine s_iconst A6 at_133 (pc' := 134) rfl (v := (1 : Int32)) (by decide) ?_
                refine s_goto A6 at_134 (pc' := 138) (by decide) (by decide) ?_
                exact g_retZ X6 hx hlk hret (by decide) (hb hby at_138) ⟨rfl, (Fr.app N0 N6)⟩ (by decide) (by decide)
            · intro c112
              replace c112 := i_lt c112
              rw [show (-50 : Int32).toInt = -50 from by decide] at c112
              refine s_iconst A3 at_115 (pc' := 116) rfl (v := (1 : Int32)) (by decide) ?_
              refine s_goto A3 at_116 (pc' := 120) (by decide) (by decide) ?_
              refine s_istore A3 at_120 (pc' := 122) rfl (ls' := #[.val (.int p0), .val (.int p1), .val (.int z2), .val (.ref r4), .val (.int (0 : Int32)), .val (.int (-50 : Int32)), .val (.double z5), .second, .val (.int (1 : Int32))]) rfl ?_
              refine s_aloadN A3 at_122 (pc' := 123) rfl rfl rfl ?_
              refine s_dload A3 at_123 (pc' := 125) rfl rfl ?_
              obtain ⟨tq, htq⟩ : ∃ t : UInt64, t = (13781122946144774652 : UInt64) := ⟨_, rfl⟩
              have u1 := fun h => own_lo4 hz4 hz5 h htq
              have u2 := fun h => own_hi4 hz4 hz5 h htq
              have u3 := fun h => own_eq4 hz4 hz5 h htq
              refine g_virtual X3 hx hZ (y := (⟨"com/example/landsmith/landsmith/ManufacturingRules$Rule", "breachedBy", "(D)Z"⟩ : MethodName)) hown (hw _ (List.mem_of_getElem? (i := 5) rfl)) (hw _ (List.mem_of_getElem? (i := 6) rfl)) (hw _ (List.mem_of_getElem? (i := 8) rfl)) (hw _ (List.mem_of_getElem? (i := 7) rfl)) (hw _ (List.mem_of_getElem? (i := 2) rfl)) (hw _ (List.mem_of_getElem? (i := 9) rfl)) (by decide) E4 (argsL := [(.double z5)]) (rest := []) (c_br l Z a0 hw [] r4 z5 0 tq h0 n0 Z0 F4 (own_t4.trans htq.symm) (by rw [htq]; exact own_T4.1) q5) pd_0 rfl rfl (hb hby at_125) e3 (by rw [hml]; rfl) (pc' := 128) rfl (by decide) (W := 0) (Nat.le_of_eq rfl) (by decide) (by decide) (by decide) ?_
              intro v7 T7 L7 X7 hQ7
              have A7 := wk X7 hx hby
              have e7 : T7.heap = T7.heap := rfl
              obtain ⟨z7, rfl, q7, N7, hh7⟩ := hQ7
              have e7 : T7.heap = h0 := hh7
              show Go p e below m (Fini s room_1.cells room_1.slots (fun v h L => v = some (.int 1) ∧ Fr n0 L)) T7 128 #[.val (.int p0), .val (.int p1), .val (.int z2), .val (.ref r4), .val (.int (0 : Int32)), .val (.int (-50 : Int32)), .val (.double z5), .second, .val (.int (1 : Int32))] [(.int z7)]
              refine s_iload A7 at_128 (pc' := 130) rfl rfl ?_
              refine s_icmpne A7 at_130 (pY := 137) (pN := 133) (by decide) (by decide) rfl ?_ ?_
              · intro c130
                replace c130 := i_ne c130
                rw [show (1 : Int32).toInt = 1 from by decide] at c130
                refine s_iconst A7 at_137 (pc' := 138) rfl (v := (0 : Int32)) (by decide) ?_
                exfalso; omega
              · intro c130
                replace c130 := i_eq c130
                rw [show (1 : Int32).toInt = 1 from by decide] at c130
                refine s_iconst A7 at_133 (pc' := 134) rfl (v := (1 : Int32)) (by decide) ?_
                refine s_goto A7 at_134 (pc' := 138) (by decide) (by decide) ?_
                exact g_retZ X7 hx hlk hret (by decide) (hb hby at_138) ⟨rfl, (Fr.app N0 N7)⟩ (by decide) (by decide)
          · intro c91
            replace c91 := i_eq c91
            rw [show (-50 : Int32).toInt = -50 from by decide] at c91
            refine s_iloadN A3 at_94 (pc' := 95) rfl rfl ?_
            refine s_iconst A3 at_95 (pc' := 96) rfl (v := (4 : Int32)) (by decide) ?_
            refine s_icmpeq A3 at_96 (pY := 101) (pN := 99) (by decide) (by decide) rfl ?_ ?_
            · intro c96
              replace c96 := i_eq c96
              rw [show (4 : Int32).toInt = 4 from by decide] at c96
              refine s_iloadN A3 at_101 (pc' := 102) rfl rfl ?_
              obtain ⟨z8, hz8⟩ : ∃ v : UInt64, FP.i2d p1 = v := ⟨_, rfl⟩
              have q8 : Dy p1.toInt 0 z8 := hz8 ▸ Dy.i2d' (n := p1.toInt) rfl
              refine s_i2d A3 at_102 (pc' := 103) rfl hz8 ?_
              refine g_ldcD X3 hx hZ (v := (4681608360884174848 : UInt64)) hown (hw _ (List.mem_of_getElem? (i := 4) rfl)) (hb hby at_103) (pc' := 106) rfl ?_
              obtain ⟨z9, hz9⟩ : ∃ v : UInt64, (FP.ddiv z8 (4681608360884174848 : UInt64)) = v := ⟨_, rfl⟩
              have q9 : Jvm.FP.Core.DFin z9 := hz9 ▸ div_whole q8 own_lit4681608360884174848 (by omega)
              refine s_ddiv A3 at_106 (pc' := 107) rfl hz9 (DFin.nn64 q9) ?_
              refine s_dstore A3 at_107 (pc' := 109) rfl (ls' := #[.val (.int p0), .val (.int p1), .val (.int z2), .val (.ref r4), .val (.int (0 : Int32)), .val (.int (-50 : Int32)), .val (.double z9), .second, .unset]) rfl ?_
              refine s_iloadN A3 at_109 (pc' := 110) rfl rfl ?_
              refine s_iload A3 at_110 (pc' := 112) rfl rfl ?_
              refine s_icmpge A3 at_112 (pY := 119) (pN := 115) (by decide) (by decide) rfl ?_ ?_
              · intro c112
                replace c112 := i_ge c112
                rw [show (-50 : Int32).toInt = -50 from by decide] at c112
                refine s_iconst A3 at_119 (pc' := 120) rfl (v := (0 : Int32)) (by decide) ?_
                refine s_istore A3 at_120 (pc' := 122) rfl (ls' := #[.val (.int p0), .val (.int p1), .val (.int z2), .val (.ref r4), .val (.int (0 : Int32)), .val (.int (-50 : Int32)), .val (.double z9), .second, .val (.int (0 : Int32))]) rfl ?_
                refine s_aloadN A3 at_122 (pc' := 123) rfl rfl rfl ?_
                refine s_dload A3 at_123 (pc' := 125) rfl rfl ?_
                obtain ⟨tq, htq⟩ : ∃ t : UInt64, t = (13781122946144774652 : UInt64) := ⟨_, rfl⟩
                have u1 := fun h => own_lo4 hz8 hz9 h htq
                have u2 := fun h => own_hi4 hz8 hz9 h htq
                have u3 := fun h => own_eq4 hz8 hz9 h htq
                refine g_virtual X3 hx hZ (y := (⟨"com/example/landsmith/landsmith/ManufacturingRules$Rule", "breachedBy", "(D)Z"⟩ : MethodName)) hown (hw _ (List.mem_of_getElem? (i := 5) rfl)) (hw _ (List.mem_of_getElem? (i := 6) rfl)) (hw _ (List.mem_of_getElem? (i := 8) rfl)) (hw _ (List.mem_of_getElem? (i := 7) rfl)) (hw _ (List.mem_of_getElem? (i := 2) rfl)) (hw _ (List.mem_of_getElem? (i := 9) rfl)) (by decide) E4 (argsL := [(.double z9)]) (rest := []) (c_br l Z a0 hw [] r4 z9 0 tq h0 n0 Z0 F4 (own_t4.trans htq.symm) (by rw [htq]; exact own_T4.1) q9) pd_0 rfl rfl (hb hby at_125) e3 (by rw [hml]; rfl) (pc' := 128) rfl (by decide) (W := 0) (Nat.le_of_eq rfl) (by decide) (by decide) (by decide) ?_
                intro v10 T10 L10 X10 hQ10
                have A10 := wk X10 hx hby
                have e10 : T10.heap = T10.heap := rfl
                obtain ⟨z10, rfl, q10, N10, hh10⟩ := hQ10
                have e10 : T10.heap = h0 := hh10
                show Go p e below m (Fini s room_1.cells room_1.slots (fun v h L => v = some (.int 1) ∧ Fr n0 L)) T10 128 #[.val (.int p0), .val (.int p1), .val (.int z2), .val (.ref r4), .val (.int (0 : Int32)), .val (.int (-50 : Int32)), .val (.double z9), .second, .val (.int (0 : Int32))] [(.int z10)]
                refine s_iload A10 at_128 (pc' := 130) rfl rfl ?_
                refine s_icmpne A10 at_130 (pY := 137) (pN := 133) (by decide) (by decide) rfl ?_ ?_
                · intro c130
                  replace c130 := i_ne c130
                  rw [show (0 : Int32).toInt = 0 from by decide] at c130
                  refine s_iconst A10 at_137 (pc' := 138) rfl (v := (0 : Int32)) (by decide) ?_
                  exfalso; omega
                · intro c130
                  replace c130 := i_eq c130
                  rw [show (0 : Int32).toInt = 0 from by decide] at c130
                  refine s_iconst A10 at_133 (pc' := 134) rfl (v := (1 : Int32)) (by decide) ?_
                  refine s_goto A10 at_134 (pc' := 138) (by decide) (by decide) ?_
                  exact g_retZ X10 hx hlk hret (by decide) (hb hby at_138) ⟨rfl, (Fr.app N0 N10)⟩ (by decide) (by decide)
              · intro c112
                replace c112 := i_lt c112
                rw [show (-50 : Int32).toInt = -50 from by decide] at c112
                refine s_iconst A3 at_115 (pc' := 116) rfl (v := (1 : Int32)) (by decide) ?_
                refine s_goto A3 at_116 (pc' := 120) (by decide) (by decide) ?_
                refine s_istore A3 at_120 (pc' := 122) rfl (ls' := #[.val (.int p0), .val (.int p1), .val (.int z2), .val (.ref r4), .val (.int (0 : Int32)), .val (.int (-50 : Int32)), .val (.double z9), .second, .val (.int (1 : Int32))]) rfl ?_
                refine s_aloadN A3 at_122 (pc' := 123) rfl rfl rfl ?_
                refine s_dload A3 at_123 (pc' := 125) rfl rfl ?_
                obtain ⟨tq, htq⟩ : ∃ t : UInt64, t = (13781122946144774652 : UInt64) := ⟨_, rfl⟩
                have u1 := fun h => own_lo4 hz8 hz9 h htq
                have u2 := fun h => own_hi4 hz8 hz9 h htq
                have u3 := fun h => own_eq4 hz8 hz9 h htq
                refine g_virtual X3 hx hZ (y := (⟨"com/example/landsmith/landsmith/ManufacturingRules$Rule", "breachedBy", "(D)Z"⟩ : MethodName)) hown (hw _ (List.mem_of_getElem? (i := 5) rfl)) (hw _ (List.mem_of_getElem? (i := 6) rfl)) (hw _ (List.mem_of_getElem? (i := 8) rfl)) (hw _ (List.mem_of_getElem? (i := 7) rfl)) (hw _ (List.mem_of_getElem? (i := 2) rfl)) (hw _ (List.mem_of_getElem? (i := 9) rfl)) (by decide) E4 (argsL := [(.double z9)]) (rest := []) (c_br l Z a0 hw [] r4 z9 0 tq h0 n0 Z0 F4 (own_t4.trans htq.symm) (by rw [htq]; exact own_T4.1) q9) pd_0 rfl rfl (hb hby at_125) e3 (by rw [hml]; rfl) (pc' := 128) rfl (by decide) (W := 0) (Nat.le_of_eq rfl) (by decide) (by decide) (by decide) ?_
                intro v11 T11 L11 X11 hQ11
                have A11 := wk X11 hx hby
                have e11 : T11.heap = T11.heap := rfl
                obtain ⟨z11, rfl, q11, N11, hh11⟩ := hQ11
                have e11 : T11.heap = h0 := hh11
                show Go p e below m (Fini s room_1.cells room_1.slots (fun v h L => v = some (.int 1) ∧ Fr n0 L)) T11 128 #[.val (.int p0), .val (.int p1), .val (.int z2), .val (.ref r4), .val (.int (0 : Int32)), .val (.int (-50 : Int32)), .val (.double z9), .second, .val (.int (1 : Int32))] [(.int z11)]
                refine s_iload A11 at_128 (pc' := 130) rfl rfl ?_
                refine s_icmpne A11 at_130 (pY := 137) (pN := 133) (by decide) (by decide) rfl ?_ ?_
                · intro c130
                  replace c130 := i_ne c130
                  rw [show (1 : Int32).toInt = 1 from by decide] at c130
                  refine s_iconst A11 at_137 (pc' := 138) rfl (v := (0 : Int32)) (by decide) ?_
                  exfalso; omega
                · intro c130
                  replace c130 := i_eq c130
                  rw [show (1 : Int32).toInt = 1 from by decide] at c130
                  refine s_iconst A11 at_133 (pc' := 134) rfl (v := (1 : Int32)) (by decide) ?_
                  refine s_goto A11 at_134 (pc' := 138) (by decide) (by decide) ?_
                  exact g_retZ X11 hx hlk hret (by decide) (hb hby at_138) ⟨rfl, (Fr.app N0 N11)⟩ (by decide) (by decide)
            · intro c96
              replace c96 := i_ne c96
              rw [show (4 : Int32).toInt = 4 from by decide] at c96
              refine s_iconst A3 at_99 (pc' := 100) rfl (v := (1 : Int32)) (by decide) ?_
              exact g_retZ X3 hx hlk hret (by decide) (hb hby at_100) ⟨rfl, N0⟩ (by decide) (by decide)
        · intro c59
          replace c59 := i_eq c59
          rw [show (3 : Int32).toInt = 3 from by decide] at c59
          refine g_getS X0 hx hZ hown (hw _ (List.mem_of_getElem? (i := 15) rfl)) Via.refl e0 S3 (hb hby at_62) (pc' := 65) rfl ?_
          intro T12 X12 e12
          have A12 := wk X12 hx hby
          refine s_astoreN A12 at_65 (pc' := 66) rfl (ls' := #[.val (.int p0), .val (.int p1), .val (.int z2), .val (.ref r3), .unset, .unset, .unset, .unset, .unset]) rfl rfl ?_
          refine s_sipush A12 at_66 (pc' := 69) rfl (v := (7500 : Int32)) (by decide) ?_
          refine s_istore A12 at_69 (pc' := 71) rfl (ls' := #[.val (.int p0), .val (.int p1), .val (.int z2), .val (.ref r3), .val (.int (7500 : Int32)), .unset, .unset, .unset, .unset]) rfl ?_
          refine s_goto A12 at_71 (pc' := 81) (by decide) (by decide) ?_
          refine s_iload A12 at_81 (pc' := 83) rfl rfl ?_
          refine s_bipush A12 at_83 (pc' := 85) rfl (v := (50 : Int32)) (by decide) ?_
          refine s_isub A12 at_85 (pc' := 86) rfl (v := (7450 : Int32)) (by decide) ?_
          refine s_istore A12 at_86 (pc' := 88) rfl (ls' := #[.val (.int p0), .val (.int p1), .val (.int z2), .val (.ref r3), .val (.int (7500 : Int32)), .val (.int (7450 : Int32)), .unset, .unset, .unset]) rfl ?_
          refine s_iloadN A12 at_88 (pc' := 89) rfl rfl ?_
          refine s_iload A12 at_89 (pc' := 91) rfl rfl ?_
          refine s_icmpne A12 at_91 (pY := 101) (pN := 94) (by decide) (by decide) rfl ?_ ?_
          · intro c91
            replace c91 := i_ne c91
            rw [show (7450 : Int32).toInt = 7450 from by decide] at c91
            refine s_iloadN A12 at_101 (pc' := 102) rfl rfl ?_
            obtain ⟨z13, hz13⟩ : ∃ v : UInt64, FP.i2d p1 = v := ⟨_, rfl⟩
            have q13 : Dy p1.toInt 0 z13 := hz13 ▸ Dy.i2d' (n := p1.toInt) rfl
            refine s_i2d A12 at_102 (pc' := 103) rfl hz13 ?_
            refine g_ldcD X12 hx hZ (v := (4681608360884174848 : UInt64)) hown (hw _ (List.mem_of_getElem? (i := 4) rfl)) (hb hby at_103) (pc' := 106) rfl ?_
            obtain ⟨z14, hz14⟩ : ∃ v : UInt64, (FP.ddiv z13 (4681608360884174848 : UInt64)) = v := ⟨_, rfl⟩
            have q14 : Jvm.FP.Core.DFin z14 := hz14 ▸ div_whole q13 own_lit4681608360884174848 (by omega)
            refine s_ddiv A12 at_106 (pc' := 107) rfl hz14 (DFin.nn64 q14) ?_
            refine s_dstore A12 at_107 (pc' := 109) rfl (ls' := #[.val (.int p0), .val (.int p1), .val (.int z2), .val (.ref r3), .val (.int (7500 : Int32)), .val (.int (7450 : Int32)), .val (.double z14), .second, .unset]) rfl ?_
            refine s_iloadN A12 at_109 (pc' := 110) rfl rfl ?_
            refine s_iload A12 at_110 (pc' := 112) rfl rfl ?_
            refine s_icmpge A12 at_112 (pY := 119) (pN := 115) (by decide) (by decide) rfl ?_ ?_
            · intro c112
              replace c112 := i_ge c112
              rw [show (7450 : Int32).toInt = 7450 from by decide] at c112
              refine s_iconst A12 at_119 (pc' := 120) rfl (v := (0 : Int32)) (by decide) ?_
              refine s_istore A12 at_120 (pc' := 122) rfl (ls' := #[.val (.int p0), .val (.int p1), .val (.int z2), .val (.ref r3), .val (.int (7500 : Int32)), .val (.int (7450 : Int32)), .val (.double z14), .second, .val (.int (0 : Int32))]) rfl ?_
              refine s_aloadN A12 at_122 (pc' := 123) rfl rfl rfl ?_
              refine s_dload A12 at_123 (pc' := 125) rfl rfl ?_
              obtain ⟨tq, htq⟩ : ∃ t : UInt64, t = (4590032711418990559 : UInt64) := ⟨_, rfl⟩
              have u1 := fun h => own_lo3 hz13 hz14 h htq
              have u2 := fun h => own_hi3 hz13 hz14 h htq
              refine g_virtual X12 hx hZ (y := (⟨"com/example/landsmith/landsmith/ManufacturingRules$Rule", "breachedBy", "(D)Z"⟩ : MethodName)) hown (hw _ (List.mem_of_getElem? (i := 5) rfl)) (hw _ (List.mem_of_getElem? (i := 6) rfl)) (hw _ (List.mem_of_getElem? (i := 8) rfl)) (hw _ (List.mem_of_getElem? (i := 7) rfl)) (hw _ (List.mem_of_getElem? (i := 2) rfl)) (hw _ (List.mem_of_getElem? (i := 9) rfl)) (by decide) E3 (argsL := [(.double z14)]) (rest := []) (c_br l Z a0 hw [] r3 z14 4590068740216009523 tq h0 n0 Z0 F3 (own_t3.trans htq.symm) (by rw [htq]; exact own_T3.1) q14) pd_0 rfl rfl (hb hby at_125) e12 (by rw [hml]; rfl) (pc' := 128) rfl (by decide) (W := 0) (Nat.le_of_eq rfl) (by decide) (by decide) (by decide) ?_
              intro v15 T15 L15 X15 hQ15
              have A15 := wk X15 hx hby
              have e15 : T15.heap = T15.heap := rfl
              obtain ⟨z15, rfl, q15, N15, hh15⟩ := hQ15
              have e15 : T15.heap = h0 := hh15
              show Go p e below m (Fini s room_1.cells room_1.slots (fun v h L => v = some (.int 1) ∧ Fr n0 L)) T15 128 #[.val (.int p0), .val (.int p1), .val (.int z2), .val (.ref r3), .val (.int (7500 : Int32)), .val (.int (7450 : Int32)), .val (.double z14), .second, .val (.int (0 : Int32))] [(.int z15)]
              refine s_iload A15 at_128 (pc' := 130) rfl rfl ?_
              refine s_icmpne A15 at_130 (pY := 137) (pN := 133) (by decide) (by decide) rfl ?_ ?_
              · intro c130
                replace c130 := i_ne c130
                rw [show (0 : Int32).toInt = 0 from by decide] at c130
                refine s_iconst A15 at_137 (pc' := 138) rfl (v := (0 : Int32)) (by decide) ?_
                exfalso; omega
              · intro c130
                replace c130 := i_eq c130
                rw [show (0 : Int32).toInt = 0 from by decide] at c130
                refine s_iconst A15 at_133 (pc' := 134) rfl (v := (1 : Int32)) (by decide) ?_
                refine s_goto A15 at_134 (pc' := 138) (by decide) (by decide) ?_
                exact g_retZ X15 hx hlk hret (by decide) (hb hby at_138) ⟨rfl, (Fr.app N0 N15)⟩ (by decide) (by decide)
            · intro c112
              replace c112 := i_lt c112
              rw [show (7450 : Int32).toInt = 7450 from by decide] at c112
              refine s_iconst A12 at_115 (pc' := 116) rfl (v := (1 : Int32)) (by decide) ?_
              refine s_goto A12 at_116 (pc' := 120) (by decide) (by decide) ?_
              refine s_istore A12 at_120 (pc' := 122) rfl (ls' := #[.val (.int p0), .val (.int p1), .val (.int z2), .val (.ref r3), .val (.int (7500 : Int32)), .val (.int (7450 : Int32)), .val (.double z14), .second, .val (.int (1 : Int32))]) rfl ?_
              refine s_aloadN A12 at_122 (pc' := 123) rfl rfl rfl ?_
              refine s_dload A12 at_123 (pc' := 125) rfl rfl ?_
              obtain ⟨tq, htq⟩ : ∃ t : UInt64, t = (4590032711418990559 : UInt64) := ⟨_, rfl⟩
              have u1 := fun h => own_lo3 hz13 hz14 h htq
              have u2 := fun h => own_hi3 hz13 hz14 h htq
              refine g_virtual X12 hx hZ (y := (⟨"com/example/landsmith/landsmith/ManufacturingRules$Rule", "breachedBy", "(D)Z"⟩ : MethodName)) hown (hw _ (List.mem_of_getElem? (i := 5) rfl)) (hw _ (List.mem_of_getElem? (i := 6) rfl)) (hw _ (List.mem_of_getElem? (i := 8) rfl)) (hw _ (List.mem_of_getElem? (i := 7) rfl)) (hw _ (List.mem_of_getElem? (i := 2) rfl)) (hw _ (List.mem_of_getElem? (i := 9) rfl)) (by decide) E3 (argsL := [(.double z14)]) (rest := []) (c_br l Z a0 hw [] r3 z14 4590068740216009523 tq h0 n0 Z0 F3 (own_t3.trans htq.symm) (by rw [htq]; exact own_T3.1) q14) pd_0 rfl rfl (hb hby at_125) e12 (by rw [hml]; rfl) (pc' := 128) rfl (by decide) (W := 0) (Nat.le_of_eq rfl) (by decide) (by decide) (by decide) ?_
              intro v16 T16 L16 X16 hQ16
              have A16 := wk X16 hx hby
              have e16 : T16.heap = T16.heap := rfl
              obtain ⟨z16, rfl, q16, N16, hh16⟩ := hQ16
              have e16 : T16.heap = h0 := hh16
              show Go p e below m (Fini s room_1.cells room_1.slots (fun v h L => v = some (.int 1) ∧ Fr n0 L)) T16 128 #[.val (.int p0), .val (.int p1), .val (.int z2), .val (.ref r3), .val (.int (7500 : Int32)), .val (.int (7450 : Int32)), .val (.double z14), .second, .val (.int (1 : Int32))] [(.int z16)]
              refine s_iload A16 at_128 (pc' := 130) rfl rfl ?_
              refine s_icmpne A16 at_130 (pY := 137) (pN := 133) (by decide) (by decide) rfl ?_ ?_
              · intro c130
                replace c130 := i_ne c130
                rw [show (1 : Int32).toInt = 1 from by decide] at c130
                refine s_iconst A16 at_137 (pc' := 138) rfl (v := (0 : Int32)) (by decide) ?_
                exfalso; omega
              · intro c130
                replace c130 := i_eq c130
                rw [show (1 : Int32).toInt = 1 from by decide] at c130
                refine s_iconst A16 at_133 (pc' := 134) rfl (v := (1 : Int32)) (by decide) ?_
                refine s_goto A16 at_134 (pc' := 138) (by decide) (by decide) ?_
                exact g_retZ X16 hx hlk hret (by decide) (hb hby at_138) ⟨rfl, (Fr.app N0 N16)⟩ (by decide) (by decide)
          · intro c91
            replace c91 := i_eq c91
            rw [show (7450 : Int32).toInt = 7450 from by decide] at c91
            refine s_iloadN A12 at_94 (pc' := 95) rfl rfl ?_
            refine s_iconst A12 at_95 (pc' := 96) rfl (v := (4 : Int32)) (by decide) ?_
            refine s_icmpeq A12 at_96 (pY := 101) (pN := 99) (by decide) (by decide) rfl ?_ ?_
            · intro c96
              replace c96 := i_eq c96
              rw [show (4 : Int32).toInt = 4 from by decide] at c96
              refine s_iloadN A12 at_101 (pc' := 102) rfl rfl ?_
              obtain ⟨z17, hz17⟩ : ∃ v : UInt64, FP.i2d p1 = v := ⟨_, rfl⟩
              have q17 : Dy p1.toInt 0 z17 := hz17 ▸ Dy.i2d' (n := p1.toInt) rfl
              refine s_i2d A12 at_102 (pc' := 103) rfl hz17 ?_
              refine g_ldcD X12 hx hZ (v := (4681608360884174848 : UInt64)) hown (hw _ (List.mem_of_getElem? (i := 4) rfl)) (hb hby at_103) (pc' := 106) rfl ?_
              obtain ⟨z18, hz18⟩ : ∃ v : UInt64, (FP.ddiv z17 (4681608360884174848 : UInt64)) = v := ⟨_, rfl⟩
              have q18 : Jvm.FP.Core.DFin z18 := hz18 ▸ div_whole q17 own_lit4681608360884174848 (by omega)
              refine s_ddiv A12 at_106 (pc' := 107) rfl hz18 (DFin.nn64 q18) ?_
              refine s_dstore A12 at_107 (pc' := 109) rfl (ls' := #[.val (.int p0), .val (.int p1), .val (.int z2), .val (.ref r3), .val (.int (7500 : Int32)), .val (.int (7450 : Int32)), .val (.double z18), .second, .unset]) rfl ?_
              refine s_iloadN A12 at_109 (pc' := 110) rfl rfl ?_
              refine s_iload A12 at_110 (pc' := 112) rfl rfl ?_
              refine s_icmpge A12 at_112 (pY := 119) (pN := 115) (by decide) (by decide) rfl ?_ ?_
              · intro c112
                replace c112 := i_ge c112
                rw [show (7450 : Int32).toInt = 7450 from by decide] at c112
                refine s_iconst A12 at_119 (pc' := 120) rfl (v := (0 : Int32)) (by decide) ?_
                refine s_istore A12 at_120 (pc' := 122) rfl (ls' := #[.val (.int p0), .val (.int p1), .val (.int z2), .val (.ref r3), .val (.int (7500 : Int32)), .val (.int (7450 : Int32)), .val (.double z18), .second, .val (.int (0 : Int32))]) rfl ?_
                refine s_aloadN A12 at_122 (pc' := 123) rfl rfl rfl ?_
                refine s_dload A12 at_123 (pc' := 125) rfl rfl ?_
                obtain ⟨tq, htq⟩ : ∃ t : UInt64, t = (4590032711418990559 : UInt64) := ⟨_, rfl⟩
                have u1 := fun h => own_lo3 hz17 hz18 h htq
                have u2 := fun h => own_hi3 hz17 hz18 h htq
                refine g_virtual X12 hx hZ (y := (⟨"com/example/landsmith/landsmith/ManufacturingRules$Rule", "breachedBy", "(D)Z"⟩ : MethodName)) hown (hw _ (List.mem_of_getElem? (i := 5) rfl)) (hw _ (List.mem_of_getElem? (i := 6) rfl)) (hw _ (List.mem_of_getElem? (i := 8) rfl)) (hw _ (List.mem_of_getElem? (i := 7) rfl)) (hw _ (List.mem_of_getElem? (i := 2) rfl)) (hw _ (List.mem_of_getElem? (i := 9) rfl)) (by decide) E3 (argsL := [(.double z18)]) (rest := []) (c_br l Z a0 hw [] r3 z18 4590068740216009523 tq h0 n0 Z0 F3 (own_t3.trans htq.symm) (by rw [htq]; exact own_T3.1) q18) pd_0 rfl rfl (hb hby at_125) e12 (by rw [hml]; rfl) (pc' := 128) rfl (by decide) (W := 0) (Nat.le_of_eq rfl) (by decide) (by decide) (by decide) ?_
                intro v19 T19 L19 X19 hQ19
                have A19 := wk X19 hx hby
                have e19 : T19.heap = T19.heap := rfl
                obtain ⟨z19, rfl, q19, N19, hh19⟩ := hQ19
                have e19 : T19.heap = h0 := hh19
                show Go p e below m (Fini s room_1.cells room_1.slots (fun v h L => v = some (.int 1) ∧ Fr n0 L)) T19 128 #[.val (.int p0), .val (.int p1), .val (.int z2), .val (.ref r3), .val (.int (7500 : Int32)), .val (.int (7450 : Int32)), .val (.double z18), .second, .val (.int (0 : Int32))] [(.int z19)]
                refine s_iload A19 at_128 (pc' := 130) rfl rfl ?_
                refine s_icmpne A19 at_130 (pY := 137) (pN := 133) (by decide) (by decide) rfl ?_ ?_
                · intro c130
                  replace c130 := i_ne c130
                  rw [show (0 : Int32).toInt = 0 from by decide] at c130
                  refine s_iconst A19 at_137 (pc' := 138) rfl (v := (0 : Int32)) (by decide) ?_
                  exfalso; omega
                · intro c130
                  replace c130 := i_eq c130
                  rw [show (0 : Int32).toInt = 0 from by decide] at c130
                  refine s_iconst A19 at_133 (pc' := 134) rfl (v := (1 : Int32)) (by decide) ?_
                  refine s_goto A19 at_134 (pc' := 138) (by decide) (by decide) ?_
                  exact g_retZ X19 hx hlk hret (by decide) (hb hby at_138) ⟨rfl, (Fr.app N0 N19)⟩ (by decide) (by decide)
              · intro c112
                replace c112 := i_lt c112
                rw [show (7450 : Int32).toInt = 7450 from by decide] at c112
                refine s_iconst A12 at_115 (pc' := 116) rfl (v := (1 : Int32)) (by decide) ?_
                refine s_goto A12 at_116 (pc' := 120) (by decide) (by decide) ?_
                refine s_istore A12 at_120 (pc' := 122) rfl (ls' := #[.val (.int p0), .val (.int p1), .val (.int z2), .val (.ref r3), .val (.int (7500 : Int32)), .val (.int (7450 : Int32)), .val (.double z18), .second, .val (.int (1 : Int32))]) rfl ?_
                refine s_aloadN A12 at_122 (pc' := 123) rfl rfl rfl ?_
                refine s_dload A12 at_123 (pc' := 125) rfl rfl ?_
                obtain ⟨tq, htq⟩ : ∃ t : UInt64, t = (4590032711418990559 : UInt64) := ⟨_, rfl⟩
                have u1 := fun h => own_lo3 hz17 hz18 h htq
                have u2 := fun h => own_hi3 hz17 hz18 h htq
                refine g_virtual X12 hx hZ (y := (⟨"com/example/landsmith/landsmith/ManufacturingRules$Rule", "breachedBy", "(D)Z"⟩ : MethodName)) hown (hw _ (List.mem_of_getElem? (i := 5) rfl)) (hw _ (List.mem_of_getElem? (i := 6) rfl)) (hw _ (List.mem_of_getElem? (i := 8) rfl)) (hw _ (List.mem_of_getElem? (i := 7) rfl)) (hw _ (List.mem_of_getElem? (i := 2) rfl)) (hw _ (List.mem_of_getElem? (i := 9) rfl)) (by decide) E3 (argsL := [(.double z18)]) (rest := []) (c_br l Z a0 hw [] r3 z18 4590068740216009523 tq h0 n0 Z0 F3 (own_t3.trans htq.symm) (by rw [htq]; exact own_T3.1) q18) pd_0 rfl rfl (hb hby at_125) e12 (by rw [hml]; rfl) (pc' := 128) rfl (by decide) (W := 0) (Nat.le_of_eq rfl) (by decide) (by decide) (by decide) ?_
                intro v20 T20 L20 X20 hQ20
                have A20 := wk X20 hx hby
                have e20 : T20.heap = T20.heap := rfl
                obtain ⟨z20, rfl, q20, N20, hh20⟩ := hQ20
                have e20 : T20.heap = h0 := hh20
                show Go p e below m (Fini s room_1.cells room_1.slots (fun v h L => v = some (.int 1) ∧ Fr n0 L)) T20 128 #[.val (.int p0), .val (.int p1), .val (.int z2), .val (.ref r3), .val (.int (7500 : Int32)), .val (.int (7450 : Int32)), .val (.double z18), .second, .val (.int (1 : Int32))] [(.int z20)]
                refine s_iload A20 at_128 (pc' := 130) rfl rfl ?_
                refine s_icmpne A20 at_130 (pY := 137) (pN := 133) (by decide) (by decide) rfl ?_ ?_
                · intro c130
                  replace c130 := i_ne c130
                  rw [show (1 : Int32).toInt = 1 from by decide] at c130
                  refine s_iconst A20 at_137 (pc' := 138) rfl (v := (0 : Int32)) (by decide) ?_
                  exfalso; omega
                · intro c130
                  replace c130 := i_eq c130
                  rw [show (1 : Int32).toInt = 1 from by decide] at c130
                  refine s_iconst A20 at_133 (pc' := 134) rfl (v := (1 : Int32)) (by decide) ?_
                  refine s_goto A20 at_134 (pc' := 138) (by decide) (by decide) ?_
                  exact g_retZ X20 hx hlk hret (by decide) (hb hby at_138) ⟨rfl, (Fr.app N0 N20)⟩ (by decide) (by decide)
            · intro c96
              replace c96 := i_ne c96
              rw [show (4 : Int32).toInt = 4 from by decide] at c96
              refine s_iconst A12 at_99 (pc' := 100) rfl (v := (1 : Int32)) (by decide) ?_
              exact g_retZ X12 hx hlk hret (by decide) (hb hby at_100) ⟨rfl, N0⟩ (by decide) (by decide)
      · intro c42
        replace c42 := i_eq c42
        rw [show (2 : Int32).toInt = 2 from by decide] at c42
        refine g_getS X0 hx hZ hown (hw _ (List.mem_of_getElem? (i := 19) rfl)) Via.refl e0 S2 (hb hby at_45) (pc' := 48) rfl ?_
        intro T21 X21 e21
        have A21 := wk X21 hx hby
        refine s_astoreN A21 at_48 (pc' := 49) rfl (ls' := #[.val (.int p0), .val (.int p1), .val (.int z2), .val (.ref r2), .unset, .unset, .unset, .unset, .unset]) rfl rfl ?_
        refine s_sipush A21 at_49 (pc' := 52) rfl (v := (25000 : Int32)) (by decide) ?_
        refine s_istore A21 at_52 (pc' := 54) rfl (ls' := #[.val (.int p0), .val (.int p1), .val (.int z2), .val (.ref r2), .val (.int (25000 : Int32)), .unset, .unset, .unset, .unset]) rfl ?_
        refine s_goto A21 at_54 (pc' := 81) (by decide) (by decide) ?_
        refine s_iload A21 at_81 (pc' := 83) rfl rfl ?_
        refine s_bipush A21 at_83 (pc' := 85) rfl (v := (50 : Int32)) (by decide) ?_
        refine s_isub A21 at_85 (pc' := 86) rfl (v := (24950 : Int32)) (by decide) ?_
        refine s_istore A21 at_86 (pc' := 88) rfl (ls' := #[.val (.int p0), .val (.int p1), .val (.int z2), .val (.ref r2), .val (.int (25000 : Int32)), .val (.int (24950 : Int32)), .unset, .unset, .unset]) rfl ?_
        refine s_iloadN A21 at_88 (pc' := 89) rfl rfl ?_
        refine s_iload A21 at_89 (pc' := 91) rfl rfl ?_
        refine s_icmpne A21 at_91 (pY := 101) (pN := 94) (by decide) (by decide) rfl ?_ ?_
        · intro c91
          replace c91 := i_ne c91
          rw [show (24950 : Int32).toInt = 24950 from by decide] at c91
          refine s_iloadN A21 at_101 (pc' := 102) rfl rfl ?_
          obtain ⟨z22, hz22⟩ : ∃ v : UInt64, FP.i2d p1 = v := ⟨_, rfl⟩
          have q22 : Dy p1.toInt 0 z22 := hz22 ▸ Dy.i2d' (n := p1.toInt) rfl
          refine s_i2d A21 at_102 (pc' := 103) rfl hz22 ?_
          refine g_ldcD X21 hx hZ (v := (4681608360884174848 : UInt64)) hown (hw _ (List.mem_of_getElem? (i := 4) rfl)) (hb hby at_103) (pc' := 106) rfl ?_
          obtain ⟨z23, hz23⟩ : ∃ v : UInt64, (FP.ddiv z22 (4681608360884174848 : UInt64)) = v := ⟨_, rfl⟩
          have q23 : Jvm.FP.Core.DFin z23 := hz23 ▸ div_whole q22 own_lit4681608360884174848 (by omega)
          refine s_ddiv A21 at_106 (pc' := 107) rfl hz23 (DFin.nn64 q23) ?_
          refine s_dstore A21 at_107 (pc' := 109) rfl (ls' := #[.val (.int p0), .val (.int p1), .val (.int z2), .val (.ref r2), .val (.int (25000 : Int32)), .val (.int (24950 : Int32)), .val (.double z23), .second, .unset]) rfl ?_
          refine s_iloadN A21 at_109 (pc' := 110) rfl rfl ?_
          refine s_iload A21 at_110 (pc' := 112) rfl rfl ?_
          refine s_icmpge A21 at_112 (pY := 119) (pN := 115) (by decide) (by decide) rfl ?_ ?_
          · intro c112
            replace c112 := i_ge c112
            rw [show (24950 : Int32).toInt = 24950 from by decide] at c112
            refine s_iconst A21 at_119 (pc' := 120) rfl (v := (0 : Int32)) (by decide) ?_
            refine s_istore A21 at_120 (pc' := 122) rfl (ls' := #[.val (.int p0), .val (.int p1), .val (.int z2), .val (.ref r2), .val (.int (25000 : Int32)), .val (.int (24950 : Int32)), .val (.double z23), .second, .val (.int (0 : Int32))]) rfl ?_
            refine s_aloadN A21 at_122 (pc' := 123) rfl rfl rfl ?_
            refine s_dload A21 at_123 (pc' := 125) rfl rfl ?_
            obtain ⟨tq, htq⟩ : ∃ t : UInt64, t = (4598157205146766934 : UInt64) := ⟨_, rfl⟩
            have u1 := fun h => own_lo2 hz22 hz23 h htq
            have u2 := fun h => own_hi2 hz22 hz23 h htq
            refine g_virtual X21 hx hZ (y := (⟨"com/example/landsmith/landsmith/ManufacturingRules$Rule", "breachedBy", "(D)Z"⟩ : MethodName)) hown (hw _ (List.mem_of_getElem? (i := 5) rfl)) (hw _ (List.mem_of_getElem? (i := 6) rfl)) (hw _ (List.mem_of_getElem? (i := 8) rfl)) (hw _ (List.mem_of_getElem? (i := 7) rfl)) (hw _ (List.mem_of_getElem? (i := 2) rfl)) (hw _ (List.mem_of_getElem? (i := 9) rfl)) (by decide) E2 (argsL := [(.double z23)]) (rest := []) (c_br l Z a0 hw [] r2 z23 4598175219545276416 tq h0 n0 Z0 F2 (own_t2.trans htq.symm) (by rw [htq]; exact own_T2.1) q23) pd_0 rfl rfl (hb hby at_125) e21 (by rw [hml]; rfl) (pc' := 128) rfl (by decide) (W := 0) (Nat.le_of_eq rfl) (by decide) (by decide) (by decide) ?_
            intro v24 T24 L24 X24 hQ24
            have A24 := wk X24 hx hby
            have e24 : T24.heap = T24.heap := rfl
            obtain ⟨z24, rfl, q24, N24, hh24⟩ := hQ24
            have e24 : T24.heap = h0 := hh24
            show Go p e below m (Fini s room_1.cells room_1.slots (fun v h L => v = some (.int 1) ∧ Fr n0 L)) T24 128 #[.val (.int p0), .val (.int p1), .val (.int z2), .val (.ref r2), .val (.int (25000 : Int32)), .val (.int (24950 : Int32)), .val (.double z23), .second, .val (.int (0 : Int32))] [(.int z24)]
            refine s_iload A24 at_128 (pc' := 130) rfl rfl ?_
            refine s_icmpne A24 at_130 (pY := 137) (pN := 133) (by decide) (by decide) rfl ?_ ?_
            · intro c130
              replace c130 := i_ne c130
              rw [show (0 : Int32).toInt = 0 from by decide] at c130
              refine s_iconst A24 at_137 (pc' := 138) rfl (v := (0 : Int32)) (by decide) ?_
              exfalso; omega
            · intro c130
              replace c130 := i_eq c130
              rw [show (0 : Int32).toInt = 0 from by decide] at c130
              refine s_iconst A24 at_133 (pc' := 134) rfl (v := (1 : Int32)) (by decide) ?_
              refine s_goto A24 at_134 (pc' := 138) (by decide) (by decide) ?_
              exact g_retZ X24 hx hlk hret (by decide) (hb hby at_138) ⟨rfl, (Fr.app N0 N24)⟩ (by decide) (by decide)
          · intro c112
            replace c112 := i_lt c112
            rw [show (24950 : Int32).toInt = 24950 from by decide] at c112
            refine s_iconst A21 at_115 (pc' := 116) rfl (v := (1 : Int32)) (by decide) ?_
            refine s_goto A21 at_116 (pc' := 120) (by decide) (by decide) ?_
            refine s_istore A21 at_120 (pc' := 122) rfl (ls' := #[.val (.int p0), .val (.int p1), .val (.int z2), .val (.ref r2), .val (.int (25000 : Int32)), .val (.int (24950 : Int32)), .val (.double z23), .second, .val (.int (1 : Int32))]) rfl ?_
            refine s_aloadN A21 at_122 (pc' := 123) rfl rfl rfl ?_
            refine s_dload A21 at_123 (pc' := 125) rfl rfl ?_
            obtain ⟨tq, htq⟩ : ∃ t : UInt64, t = (4598157205146766934 : UInt64) := ⟨_, rfl⟩
            have u1 := fun h => own_lo2 hz22 hz23 h htq
            have u2 := fun h => own_hi2 hz22 hz23 h htq
            refine g_virtual X21 hx hZ (y := (⟨"com/example/landsmith/landsmith/ManufacturingRules$Rule", "breachedBy", "(D)Z"⟩ : MethodName)) hown (hw _ (List.mem_of_getElem? (i := 5) rfl)) (hw _ (List.mem_of_getElem? (i := 6) rfl)) (hw _ (List.mem_of_getElem? (i := 8) rfl)) (hw _ (List.mem_of_getElem? (i := 7) rfl)) (hw _ (List.mem_of_getElem? (i := 2) rfl)) (hw _ (List.mem_of_getElem? (i := 9) rfl)) (by decide) E2 (argsL := [(.double z23)]) (rest := []) (c_br l Z a0 hw [] r2 z23 4598175219545276416 tq h0 n0 Z0 F2 (own_t2.trans htq.symm) (by rw [htq]; exact own_T2.1) q23) pd_0 rfl rfl (hb hby at_125) e21 (by rw [hml]; rfl) (pc' := 128) rfl (by decide) (W := 0) (Nat.le_of_eq rfl) (by decide) (by decide) (by decide) ?_
            intro v25 T25 L25 X25 hQ25
            have A25 := wk X25 hx hby
            have e25 : T25.heap = T25.heap := rfl
            obtain ⟨z25, rfl, q25, N25, hh25⟩ := hQ25
            have e25 : T25.heap = h0 := hh25
            show Go p e below m (Fini s room_1.cells room_1.slots (fun v h L => v = some (.int 1) ∧ Fr n0 L)) T25 128 #[.val (.int p0), .val (.int p1), .val (.int z2), .val (.ref r2), .val (.int (25000 : Int32)), .val (.int (24950 : Int32)), .val (.double z23), .second, .val (.int (1 : Int32))] [(.int z25)]
            refine s_iload A25 at_128 (pc' := 130) rfl rfl ?_
            refine s_icmpne A25 at_130 (pY := 137) (pN := 133) (by decide) (by decide) rfl ?_ ?_
            · intro c130
              replace c130 := i_ne c130
              rw [show (1 : Int32).toInt = 1 from by decide] at c130
              refine s_iconst A25 at_137 (pc' := 138) rfl (v := (0 : Int32)) (by decide) ?_
              exfalso; omega
            · intro c130
              replace c130 := i_eq c130
              rw [show (1 : Int32).toInt = 1 from by decide] at c130
              refine s_iconst A25 at_133 (pc' := 134) rfl (v := (1 : Int32)) (by decide) ?_
              refine s_goto A25 at_134 (pc' := 138) (by decide) (by decide) ?_
              exact g_retZ X25 hx hlk hret (by decide) (hb hby at_138) ⟨rfl, (Fr.app N0 N25)⟩ (by decide) (by decide)
        · intro c91
          replace c91 := i_eq c91
          rw [show (24950 : Int32).toInt = 24950 from by decide] at c91
          refine s_iloadN A21 at_94 (pc' := 95) rfl rfl ?_
          refine s_iconst A21 at_95 (pc' := 96) rfl (v := (4 : Int32)) (by decide) ?_
          refine s_icmpeq A21 at_96 (pY := 101) (pN := 99) (by decide) (by decide) rfl ?_ ?_
          · intro c96
            replace c96 := i_eq c96
            rw [show (4 : Int32).toInt = 4 from by decide] at c96
            refine s_iloadN A21 at_101 (pc' := 102) rfl rfl ?_
            obtain ⟨z26, hz26⟩ : ∃ v : UInt64, FP.i2d p1 = v := ⟨_, rfl⟩
            have q26 : Dy p1.toInt 0 z26 := hz26 ▸ Dy.i2d' (n := p1.toInt) rfl
            refine s_i2d A21 at_102 (pc' := 103) rfl hz26 ?_
            refine g_ldcD X21 hx hZ (v := (4681608360884174848 : UInt64)) hown (hw _ (List.mem_of_getElem? (i := 4) rfl)) (hb hby at_103) (pc' := 106) rfl ?_
            obtain ⟨z27, hz27⟩ : ∃ v : UInt64, (FP.ddiv z26 (4681608360884174848 : UInt64)) = v := ⟨_, rfl⟩
            have q27 : Jvm.FP.Core.DFin z27 := hz27 ▸ div_whole q26 own_lit4681608360884174848 (by omega)
            refine s_ddiv A21 at_106 (pc' := 107) rfl hz27 (DFin.nn64 q27) ?_
            refine s_dstore A21 at_107 (pc' := 109) rfl (ls' := #[.val (.int p0), .val (.int p1), .val (.int z2), .val (.ref r2), .val (.int (25000 : Int32)), .val (.int (24950 : Int32)), .val (.double z27), .second, .unset]) rfl ?_
            refine s_iloadN A21 at_109 (pc' := 110) rfl rfl ?_
            refine s_iload A21 at_110 (pc' := 112) rfl rfl ?_
            refine s_icmpge A21 at_112 (pY := 119) (pN := 115) (by decide) (by decide) rfl ?_ ?_
            · intro c112
              replace c112 := i_ge c112
              rw [show (24950 : Int32).toInt = 24950 from by decide] at c112
              refine s_iconst A21 at_119 (pc' := 120) rfl (v := (0 : Int32)) (by decide) ?_
              refine s_istore A21 at_120 (pc' := 122) rfl (ls' := #[.val (.int p0), .val (.int p1), .val (.int z2), .val (.ref r2), .val (.int (25000 : Int32)), .val (.int (24950 : Int32)), .val (.double z27), .second, .val (.int (0 : Int32))]) rfl ?_
              refine s_aloadN A21 at_122 (pc' := 123) rfl rfl rfl ?_
              refine s_dload A21 at_123 (pc' := 125) rfl rfl ?_
              obtain ⟨tq, htq⟩ : ∃ t : UInt64, t = (4598157205146766934 : UInt64) := ⟨_, rfl⟩
              have u1 := fun h => own_lo2 hz26 hz27 h htq
              have u2 := fun h => own_hi2 hz26 hz27 h htq
              refine g_virtual X21 hx hZ (y := (⟨"com/example/landsmith/landsmith/ManufacturingRules$Rule", "breachedBy", "(D)Z"⟩ : MethodName)) hown (hw _ (List.mem_of_getElem? (i := 5) rfl)) (hw _ (List.mem_of_getElem? (i := 6) rfl)) (hw _ (List.mem_of_getElem? (i := 8) rfl)) (hw _ (List.mem_of_getElem? (i := 7) rfl)) (hw _ (List.mem_of_getElem? (i := 2) rfl)) (hw _ (List.mem_of_getElem? (i := 9) rfl)) (by decide) E2 (argsL := [(.double z27)]) (rest := []) (c_br l Z a0 hw [] r2 z27 4598175219545276416 tq h0 n0 Z0 F2 (own_t2.trans htq.symm) (by rw [htq]; exact own_T2.1) q27) pd_0 rfl rfl (hb hby at_125) e21 (by rw [hml]; rfl) (pc' := 128) rfl (by decide) (W := 0) (Nat.le_of_eq rfl) (by decide) (by decide) (by decide) ?_
              intro v28 T28 L28 X28 hQ28
              have A28 := wk X28 hx hby
              have e28 : T28.heap = T28.heap := rfl
              obtain ⟨z28, rfl, q28, N28, hh28⟩ := hQ28
              have e28 : T28.heap = h0 := hh28
              show Go p e below m (Fini s room_1.cells room_1.slots (fun v h L => v = some (.int 1) ∧ Fr n0 L)) T28 128 #[.val (.int p0), .val (.int p1), .val (.int z2), .val (.ref r2), .val (.int (25000 : Int32)), .val (.int (24950 : Int32)), .val (.double z27), .second, .val (.int (0 : Int32))] [(.int z28)]
              refine s_iload A28 at_128 (pc' := 130) rfl rfl ?_
              refine s_icmpne A28 at_130 (pY := 137) (pN := 133) (by decide) (by decide) rfl ?_ ?_
              · intro c130
                replace c130 := i_ne c130
                rw [show (0 : Int32).toInt = 0 from by decide] at c130
                refine s_iconst A28 at_137 (pc' := 138) rfl (v := (0 : Int32)) (by decide) ?_
                exfalso; omega
              · intro c130
                replace c130 := i_eq c130
                rw [show (0 : Int32).toInt = 0 from by decide] at c130
                refine s_iconst A28 at_133 (pc' := 134) rfl (v := (1 : Int32)) (by decide) ?_
                refine s_goto A28 at_134 (pc' := 138) (by decide) (by decide) ?_
                exact g_retZ X28 hx hlk hret (by decide) (hb hby at_138) ⟨rfl, (Fr.app N0 N28)⟩ (by decide) (by decide)
            · intro c112
              replace c112 := i_lt c112
              rw [show (24950 : Int32).toInt = 24950 from by decide] at c112
              refine s_iconst A21 at_115 (pc' := 116) rfl (v := (1 : Int32)) (by decide) ?_
              refine s_goto A21 at_116 (pc' := 120) (by decide) (by decide) ?_
              refine s_istore A21 at_120 (pc' := 122) rfl (ls' := #[.val (.int p0), .val (.int p1), .val (.int z2), .val (.ref r2), .val (.int (25000 : Int32)), .val (.int (24950 : Int32)), .val (.double z27), .second, .val (.int (1 : Int32))]) rfl ?_
              refine s_aloadN A21 at_122 (pc' := 123) rfl rfl rfl ?_
              refine s_dload A21 at_123 (pc' := 125) rfl rfl ?_
              obtain ⟨tq, htq⟩ : ∃ t : UInt64, t = (4598157205146766934 : UInt64) := ⟨_, rfl⟩
              have u1 := fun h => own_lo2 hz26 hz27 h htq
              have u2 := fun h => own_hi2 hz26 hz27 h htq
              refine g_virtual X21 hx hZ (y := (⟨"com/example/landsmith/landsmith/ManufacturingRules$Rule", "breachedBy", "(D)Z"⟩ : MethodName)) hown (hw _ (List.mem_of_getElem? (i := 5) rfl)) (hw _ (List.mem_of_getElem? (i := 6) rfl)) (hw _ (List.mem_of_getElem? (i := 8) rfl)) (hw _ (List.mem_of_getElem? (i := 7) rfl)) (hw _ (List.mem_of_getElem? (i := 2) rfl)) (hw _ (List.mem_of_getElem? (i := 9) rfl)) (by decide) E2 (argsL := [(.double z27)]) (rest := []) (c_br l Z a0 hw [] r2 z27 4598175219545276416 tq h0 n0 Z0 F2 (own_t2.trans htq.symm) (by rw [htq]; exact own_T2.1) q27) pd_0 rfl rfl (hb hby at_125) e21 (by rw [hml]; rfl) (pc' := 128) rfl (by decide) (W := 0) (Nat.le_of_eq rfl) (by decide) (by decide) (by decide) ?_
              intro v29 T29 L29 X29 hQ29
              have A29 := wk X29 hx hby
              have e29 : T29.heap = T29.heap := rfl
              obtain ⟨z29, rfl, q29, N29, hh29⟩ := hQ29
              have e29 : T29.heap = h0 := hh29
              show Go p e below m (Fini s room_1.cells room_1.slots (fun v h L => v = some (.int 1) ∧ Fr n0 L)) T29 128 #[.val (.int p0), .val (.int p1), .val (.int z2), .val (.ref r2), .val (.int (25000 : Int32)), .val (.int (24950 : Int32)), .val (.double z27), .second, .val (.int (1 : Int32))] [(.int z29)]
              refine s_iload A29 at_128 (pc' := 130) rfl rfl ?_
              refine s_icmpne A29 at_130 (pY := 137) (pN := 133) (by decide) (by decide) rfl ?_ ?_
              · intro c130
                replace c130 := i_ne c130
                rw [show (1 : Int32).toInt = 1 from by decide] at c130
                refine s_iconst A29 at_137 (pc' := 138) rfl (v := (0 : Int32)) (by decide) ?_
                exfalso; omega
              · intro c130
                replace c130 := i_eq c130
                rw [show (1 : Int32).toInt = 1 from by decide] at c130
                refine s_iconst A29 at_133 (pc' := 134) rfl (v := (1 : Int32)) (by decide) ?_
                refine s_goto A29 at_134 (pc' := 138) (by decide) (by decide) ?_
                exact g_retZ X29 hx hlk hret (by decide) (hb hby at_138) ⟨rfl, (Fr.app N0 N29)⟩ (by decide) (by decide)
          · intro c96
            replace c96 := i_ne c96
            rw [show (4 : Int32).toInt = 4 from by decide] at c96
            refine s_iconst A21 at_99 (pc' := 100) rfl (v := (1 : Int32)) (by decide) ?_
            exact g_retZ X21 hx hlk hret (by decide) (hb hby at_100) ⟨rfl, N0⟩ (by decide) (by decide)
    · intro c25
      replace c25 := i_eq c25
      rw [show (1 : Int32).toInt = 1 from by decide] at c25
      refine g_getS X0 hx hZ hown (hw _ (List.mem_of_getElem? (i := 17) rfl)) Via.refl e0 S1 (hb hby at_28) (pc' := 31) rfl ?_
      intro T30 X30 e30
      have A30 := wk X30 hx hby
      refine s_astoreN A30 at_31 (pc' := 32) rfl (ls' := #[.val (.int p0), .val (.int p1), .val (.int z2), .val (.ref r1), .unset, .unset, .unset, .unset, .unset]) rfl rfl ?_
      refine s_sipush A30 at_32 (pc' := 35) rfl (v := (20000 : Int32)) (by decide) ?_
      refine s_istore A30 at_35 (pc' := 37) rfl (ls' := #[.val (.int p0), .val (.int p1), .val (.int z2), .val (.ref r1), .val (.int (20000 : Int32)), .unset, .unset, .unset, .unset]) rfl ?_
      refine s_goto A30 at_37 (pc' := 81) (by decide) (by decide) ?_
      refine s_iload A30 at_81 (pc' := 83) rfl rfl ?_
      refine s_bipush A30 at_83 (pc' := 85) rfl (v := (50 : Int32)) (by decide) ?_
      refine s_isub A30 at_85 (pc' := 86) rfl (v := (19950 : Int32)) (by decide) ?_
      refine s_istore A30 at_86 (pc' := 88) rfl (ls' := #[.val (.int p0), .val (.int p1), .val (.int z2), .val (.ref r1), .val (.int (20000 : Int32)), .val (.int (19950 : Int32)), .unset, .unset, .unset]) rfl ?_
      refine s_iloadN A30 at_88 (pc' := 89) rfl rfl ?_
      refine s_iload A30 at_89 (pc' := 91) rfl rfl ?_
      refine s_icmpne A30 at_91 (pY := 101) (pN := 94) (by decide) (by decide) rfl ?_ ?_
      · intro c91
        replace c91 := i_ne c91
        rw [show (19950 : Int32).toInt = 19950 from by decide] at c91
        refine s_iloadN A30 at_101 (pc' := 102) rfl rfl ?_
        obtain ⟨z31, hz31⟩ : ∃ v : UInt64, FP.i2d p1 = v := ⟨_, rfl⟩
        have q31 : Dy p1.toInt 0 z31 := hz31 ▸ Dy.i2d' (n := p1.toInt) rfl
        refine s_i2d A30 at_102 (pc' := 103) rfl hz31 ?_
        refine g_ldcD X30 hx hZ (v := (4681608360884174848 : UInt64)) hown (hw _ (List.mem_of_getElem? (i := 4) rfl)) (hb hby at_103) (pc' := 106) rfl ?_
        obtain ⟨z32, hz32⟩ : ∃ v : UInt64, (FP.ddiv z31 (4681608360884174848 : UInt64)) = v := ⟨_, rfl⟩
        have q32 : Jvm.FP.Core.DFin z32 := hz32 ▸ div_whole q31 own_lit4681608360884174848 (by omega)
        refine s_ddiv A30 at_106 (pc' := 107) rfl hz32 (DFin.nn64 q32) ?_
        refine s_dstore A30 at_107 (pc' := 109) rfl (ls' := #[.val (.int p0), .val (.int p1), .val (.int z2), .val (.ref r1), .val (.int (20000 : Int32)), .val (.int (19950 : Int32)), .val (.double z32), .second, .unset]) rfl ?_
        refine s_iloadN A30 at_109 (pc' := 110) rfl rfl ?_
        refine s_iload A30 at_110 (pc' := 112) rfl rfl ?_
        refine s_icmpge A30 at_112 (pY := 119) (pN := 115) (by decide) (by decide) rfl ?_ ?_
        · intro c112
          replace c112 := i_ge c112
          rw [show (19950 : Int32).toInt = 19950 from by decide] at c112
          refine s_iconst A30 at_119 (pc' := 120) rfl (v := (0 : Int32)) (by decide) ?_
          refine s_istore A30 at_120 (pc' := 122) rfl (ls' := #[.val (.int p0), .val (.int p1), .val (.int z2), .val (.ref r1), .val (.int (20000 : Int32)), .val (.int (19950 : Int32)), .val (.double z32), .second, .val (.int (0 : Int32))]) rfl ?_
          refine s_aloadN A30 at_122 (pc' := 123) rfl rfl rfl ?_
          refine s_dload A30 at_123 (pc' := 125) rfl rfl ?_
          obtain ⟨tq, htq⟩ : ∃ t : UInt64, t = (4596355765295818736 : UInt64) := ⟨_, rfl⟩
          have u1 := fun h => own_lo0 hz31 hz32 h htq
          have u2 := fun h => own_hi0 hz31 hz32 h htq
          refine g_virtual X30 hx hZ (y := (⟨"com/example/landsmith/landsmith/ManufacturingRules$Rule", "breachedBy", "(D)Z"⟩ : MethodName)) hown (hw _ (List.mem_of_getElem? (i := 5) rfl)) (hw _ (List.mem_of_getElem? (i := 6) rfl)) (hw _ (List.mem_of_getElem? (i := 8) rfl)) (hw _ (List.mem_of_getElem? (i := 7) rfl)) (hw _ (List.mem_of_getElem? (i := 2) rfl)) (hw _ (List.mem_of_getElem? (i := 9) rfl)) (by decide) E1 (argsL := [(.double z32)]) (rest := []) (c_br l Z a0 hw [] r1 z32 4596373779694328218 tq h0 n0 Z0 F1 (own_t0.trans htq.symm) (by rw [htq]; exact own_T0.1) q32) pd_0 rfl rfl (hb hby at_125) e30 (by rw [hml]; rfl) (pc' := 128) rfl (by decide) (W := 0) (Nat.le_of_eq rfl) (by decide) (by decide) (by decide) ?_
          intro v33 T33 L33 X33 hQ33
          have A33 := wk X33 hx hby
          have e33 : T33.heap = T33.heap := rfl
          obtain ⟨z33, rfl, q33, N33, hh33⟩ := hQ33
          have e33 : T33.heap = h0 := hh33
          show Go p e below m (Fini s room_1.cells room_1.slots (fun v h L => v = some (.int 1) ∧ Fr n0 L)) T33 128 #[.val (.int p0), .val (.int p1), .val (.int z2), .val (.ref r1), .val (.int (20000 : Int32)), .val (.int (19950 : Int32)), .val (.double z32), .second, .val (.int (0 : Int32))] [(.int z33)]
          refine s_iload A33 at_128 (pc' := 130) rfl rfl ?_
          refine s_icmpne A33 at_130 (pY := 137) (pN := 133) (by decide) (by decide) rfl ?_ ?_
          · intro c130
            replace c130 := i_ne c130
            rw [show (0 : Int32).toInt = 0 from by decide] at c130
            refine s_iconst A33 at_137 (pc' := 138) rfl (v := (0 : Int32)) (by decide) ?_
            exfalso; omega
          · intro c130
            replace c130 := i_eq c130
            rw [show (0 : Int32).toInt = 0 from by decide] at c130
            refine s_iconst A33 at_133 (pc' := 134) rfl (v := (1 : Int32)) (by decide) ?_
            refine s_goto A33 at_134 (pc' := 138) (by decide) (by decide) ?_
            exact g_retZ X33 hx hlk hret (by decide) (hb hby at_138) ⟨rfl, (Fr.app N0 N33)⟩ (by decide) (by decide)
        · intro c112
          replace c112 := i_lt c112
          rw [show (19950 : Int32).toInt = 19950 from by decide] at c112
          refine s_iconst A30 at_115 (pc' := 116) rfl (v := (1 : Int32)) (by decide) ?_
          refine s_goto A30 at_116 (pc' := 120) (by decide) (by decide) ?_
          refine s_istore A30 at_120 (pc' := 122) rfl (ls' := #[.val (.int p0), .val (.int p1), .val (.int z2), .val (.ref r1), .val (.int (20000 : Int32)), .val (.int (19950 : Int32)), .val (.double z32), .second, .val (.int (1 : Int32))]) rfl ?_
          refine s_aloadN A30 at_122 (pc' := 123) rfl rfl rfl ?_
          refine s_dload A30 at_123 (pc' := 125) rfl rfl ?_
          obtain ⟨tq, htq⟩ : ∃ t : UInt64, t = (4596355765295818736 : UInt64) := ⟨_, rfl⟩
          have u1 := fun h => own_lo0 hz31 hz32 h htq
          have u2 := fun h => own_hi0 hz31 hz32 h htq
          refine g_virtual X30 hx hZ (y := (⟨"com/example/landsmith/landsmith/ManufacturingRules$Rule", "breachedBy", "(D)Z"⟩ : MethodName)) hown (hw _ (List.mem_of_getElem? (i := 5) rfl)) (hw _ (List.mem_of_getElem? (i := 6) rfl)) (hw _ (List.mem_of_getElem? (i := 8) rfl)) (hw _ (List.mem_of_getElem? (i := 7) rfl)) (hw _ (List.mem_of_getElem? (i := 2) rfl)) (hw _ (List.mem_of_getElem? (i := 9) rfl)) (by decide) E1 (argsL := [(.double z32)]) (rest := []) (c_br l Z a0 hw [] r1 z32 4596373779694328218 tq h0 n0 Z0 F1 (own_t0.trans htq.symm) (by rw [htq]; exact own_T0.1) q32) pd_0 rfl rfl (hb hby at_125) e30 (by rw [hml]; rfl) (pc' := 128) rfl (by decide) (W := 0) (Nat.le_of_eq rfl) (by decide) (by decide) (by decide) ?_
          intro v34 T34 L34 X34 hQ34
          have A34 := wk X34 hx hby
          have e34 : T34.heap = T34.heap := rfl
          obtain ⟨z34, rfl, q34, N34, hh34⟩ := hQ34
          have e34 : T34.heap = h0 := hh34
          show Go p e below m (Fini s room_1.cells room_1.slots (fun v h L => v = some (.int 1) ∧ Fr n0 L)) T34 128 #[.val (.int p0), .val (.int p1), .val (.int z2), .val (.ref r1), .val (.int (20000 : Int32)), .val (.int (19950 : Int32)), .val (.double z32), .second, .val (.int (1 : Int32))] [(.int z34)]
          refine s_iload A34 at_128 (pc' := 130) rfl rfl ?_
          refine s_icmpne A34 at_130 (pY := 137) (pN := 133) (by decide) (by decide) rfl ?_ ?_
          · intro c130
            replace c130 := i_ne c130
            rw [show (1 : Int32).toInt = 1 from by decide] at c130
            refine s_iconst A34 at_137 (pc' := 138) rfl (v := (0 : Int32)) (by decide) ?_
            exfalso; omega
          · intro c130
            replace c130 := i_eq c130
            rw [show (1 : Int32).toInt = 1 from by decide] at c130
            refine s_iconst A34 at_133 (pc' := 134) rfl (v := (1 : Int32)) (by decide) ?_
            refine s_goto A34 at_134 (pc' := 138) (by decide) (by decide) ?_
            exact g_retZ X34 hx hlk hret (by decide) (hb hby at_138) ⟨rfl, (Fr.app N0 N34)⟩ (by decide) (by decide)
      · intro c91
        replace c91 := i_eq c91
        rw [show (19950 : Int32).toInt = 19950 from by decide] at c91
        refine s_iloadN A30 at_94 (pc' := 95) rfl rfl ?_
        refine s_iconst A30 at_95 (pc' := 96) rfl (v := (4 : Int32)) (by decide) ?_
        refine s_icmpeq A30 at_96 (pY := 101) (pN := 99) (by decide) (by decide) rfl ?_ ?_
        · intro c96
          replace c96 := i_eq c96
          rw [show (4 : Int32).toInt = 4 from by decide] at c96
          refine s_iloadN A30 at_101 (pc' := 102) rfl rfl ?_
          obtain ⟨z35, hz35⟩ : ∃ v : UInt64, FP.i2d p1 = v := ⟨_, rfl⟩
          have q35 : Dy p1.toInt 0 z35 := hz35 ▸ Dy.i2d' (n := p1.toInt) rfl
          refine s_i2d A30 at_102 (pc' := 103) rfl hz35 ?_
          refine g_ldcD X30 hx hZ (v := (4681608360884174848 : UInt64)) hown (hw _ (List.mem_of_getElem? (i := 4) rfl)) (hb hby at_103) (pc' := 106) rfl ?_
          obtain ⟨z36, hz36⟩ : ∃ v : UInt64, (FP.ddiv z35 (4681608360884174848 : UInt64)) = v := ⟨_, rfl⟩
          have q36 : Jvm.FP.Core.DFin z36 := hz36 ▸ div_whole q35 own_lit4681608360884174848 (by omega)
          refine s_ddiv A30 at_106 (pc' := 107) rfl hz36 (DFin.nn64 q36) ?_
          refine s_dstore A30 at_107 (pc' := 109) rfl (ls' := #[.val (.int p0), .val (.int p1), .val (.int z2), .val (.ref r1), .val (.int (20000 : Int32)), .val (.int (19950 : Int32)), .val (.double z36), .second, .unset]) rfl ?_
          refine s_iloadN A30 at_109 (pc' := 110) rfl rfl ?_
          refine s_iload A30 at_110 (pc' := 112) rfl rfl ?_
          refine s_icmpge A30 at_112 (pY := 119) (pN := 115) (by decide) (by decide) rfl ?_ ?_
          · intro c112
            replace c112 := i_ge c112
            rw [show (19950 : Int32).toInt = 19950 from by decide] at c112
            refine s_iconst A30 at_119 (pc' := 120) rfl (v := (0 : Int32)) (by decide) ?_
            refine s_istore A30 at_120 (pc' := 122) rfl (ls' := #[.val (.int p0), .val (.int p1), .val (.int z2), .val (.ref r1), .val (.int (20000 : Int32)), .val (.int (19950 : Int32)), .val (.double z36), .second, .val (.int (0 : Int32))]) rfl ?_
            refine s_aloadN A30 at_122 (pc' := 123) rfl rfl rfl ?_
            refine s_dload A30 at_123 (pc' := 125) rfl rfl ?_
            obtain ⟨tq, htq⟩ : ∃ t : UInt64, t = (4596355765295818736 : UInt64) := ⟨_, rfl⟩
            have u1 := fun h => own_lo0 hz35 hz36 h htq
            have u2 := fun h => own_hi0 hz35 hz36 h htq
            refine g_virtual X30 hx hZ (y := (⟨"com/example/landsmith/landsmith/ManufacturingRules$Rule", "breachedBy", "(D)Z"⟩ : MethodName)) hown (hw _ (List.mem_of_getElem? (i := 5) rfl)) (hw _ (List.mem_of_getElem? (i := 6) rfl)) (hw _ (List.mem_of_getElem? (i := 8) rfl)) (hw _ (List.mem_of_getElem? (i := 7) rfl)) (hw _ (List.mem_of_getElem? (i := 2) rfl)) (hw _ (List.mem_of_getElem? (i := 9) rfl)) (by decide) E1 (argsL := [(.double z36)]) (rest := []) (c_br l Z a0 hw [] r1 z36 4596373779694328218 tq h0 n0 Z0 F1 (own_t0.trans htq.symm) (by rw [htq]; exact own_T0.1) q36) pd_0 rfl rfl (hb hby at_125) e30 (by rw [hml]; rfl) (pc' := 128) rfl (by decide) (W := 0) (Nat.le_of_eq rfl) (by decide) (by decide) (by decide) ?_
            intro v37 T37 L37 X37 hQ37
            have A37 := wk X37 hx hby
            have e37 : T37.heap = T37.heap := rfl
            obtain ⟨z37, rfl, q37, N37, hh37⟩ := hQ37
            have e37 : T37.heap = h0 := hh37
            show Go p e below m (Fini s room_1.cells room_1.slots (fun v h L => v = some (.int 1) ∧ Fr n0 L)) T37 128 #[.val (.int p0), .val (.int p1), .val (.int z2), .val (.ref r1), .val (.int (20000 : Int32)), .val (.int (19950 : Int32)), .val (.double z36), .second, .val (.int (0 : Int32))] [(.int z37)]
            refine s_iload A37 at_128 (pc' := 130) rfl rfl ?_
            refine s_icmpne A37 at_130 (pY := 137) (pN := 133) (by decide) (by decide) rfl ?_ ?_
            · intro c130
              replace c130 := i_ne c130
              rw [show (0 : Int32).toInt = 0 from by decide] at c130
              refine s_iconst A37 at_137 (pc' := 138) rfl (v := (0 : Int32)) (by decide) ?_
              exfalso; omega
            · intro c130
              replace c130 := i_eq c130
              rw [show (0 : Int32).toInt = 0 from by decide] at c130
              refine s_iconst A37 at_133 (pc' := 134) rfl (v := (1 : Int32)) (by decide) ?_
              refine s_goto A37 at_134 (pc' := 138) (by decide) (by decide) ?_
              exact g_retZ X37 hx hlk hret (by decide) (hb hby at_138) ⟨rfl, (Fr.app N0 N37)⟩ (by decide) (by decide)
          · intro c112
            replace c112 := i_lt c112
            rw [show (19950 : Int32).toInt = 19950 from by decide] at c112
            refine s_iconst A30 at_115 (pc' := 116) rfl (v := (1 : Int32)) (by decide) ?_
            refine s_goto A30 at_116 (pc' := 120) (by decide) (by decide) ?_
            refine s_istore A30 at_120 (pc' := 122) rfl (ls' := #[.val (.int p0), .val (.int p1), .val (.int z2), .val (.ref r1), .val (.int (20000 : Int32)), .val (.int (19950 : Int32)), .val (.double z36), .second, .val (.int (1 : Int32))]) rfl ?_
            refine s_aloadN A30 at_122 (pc' := 123) rfl rfl rfl ?_
            refine s_dload A30 at_123 (pc' := 125) rfl rfl ?_
            obtain ⟨tq, htq⟩ : ∃ t : UInt64, t = (4596355765295818736 : UInt64) := ⟨_, rfl⟩
            have u1 := fun h => own_lo0 hz35 hz36 h htq
            have u2 := fun h => own_hi0 hz35 hz36 h htq
            refine g_virtual X30 hx hZ (y := (⟨"com/example/landsmith/landsmith/ManufacturingRules$Rule", "breachedBy", "(D)Z"⟩ : MethodName)) hown (hw _ (List.mem_of_getElem? (i := 5) rfl)) (hw _ (List.mem_of_getElem? (i := 6) rfl)) (hw _ (List.mem_of_getElem? (i := 8) rfl)) (hw _ (List.mem_of_getElem? (i := 7) rfl)) (hw _ (List.mem_of_getElem? (i := 2) rfl)) (hw _ (List.mem_of_getElem? (i := 9) rfl)) (by decide) E1 (argsL := [(.double z36)]) (rest := []) (c_br l Z a0 hw [] r1 z36 4596373779694328218 tq h0 n0 Z0 F1 (own_t0.trans htq.symm) (by rw [htq]; exact own_T0.1) q36) pd_0 rfl rfl (hb hby at_125) e30 (by rw [hml]; rfl) (pc' := 128) rfl (by decide) (W := 0) (Nat.le_of_eq rfl) (by decide) (by decide) (by decide) ?_
            intro v38 T38 L38 X38 hQ38
            have A38 := wk X38 hx hby
            have e38 : T38.heap = T38.heap := rfl
            obtain ⟨z38, rfl, q38, N38, hh38⟩ := hQ38
            have e38 : T38.heap = h0 := hh38
            show Go p e below m (Fini s room_1.cells room_1.slots (fun v h L => v = some (.int 1) ∧ Fr n0 L)) T38 128 #[.val (.int p0), .val (.int p1), .val (.int z2), .val (.ref r1), .val (.int (20000 : Int32)), .val (.int (19950 : Int32)), .val (.double z36), .second, .val (.int (1 : Int32))] [(.int z38)]
            refine s_iload A38 at_128 (pc' := 130) rfl rfl ?_
            refine s_icmpne A38 at_130 (pY := 137) (pN := 133) (by decide) (by decide) rfl ?_ ?_
            · intro c130
              replace c130 := i_ne c130
              rw [show (1 : Int32).toInt = 1 from by decide] at c130
              refine s_iconst A38 at_137 (pc' := 138) rfl (v := (0 : Int32)) (by decide) ?_
              exfalso; omega
            · intro c130
              replace c130 := i_eq c130
              rw [show (1 : Int32).toInt = 1 from by decide] at c130
              refine s_iconst A38 at_133 (pc' := 134) rfl (v := (1 : Int32)) (by decide) ?_
              refine s_goto A38 at_134 (pc' := 138) (by decide) (by decide) ?_
              exact g_retZ X38 hx hlk hret (by decide) (hb hby at_138) ⟨rfl, (Fr.app N0 N38)⟩ (by decide) (by decide)
        · intro c96
          replace c96 := i_ne c96
          rw [show (4 : Int32).toInt = 4 from by decide] at c96
          refine s_iconst A30 at_99 (pc' := 100) rfl (v := (1 : Int32)) (by decide) ?_
          exact g_retZ X30 hx hlk hret (by decide) (hb hby at_100) ⟨rfl, N0⟩ (by decide) (by decide)
  · intro c8
    replace c8 := iz_eq c8
    refine g_getS X0 hx hZ hown (hw _ (List.mem_of_getElem? (i := 1) rfl)) Via.refl e0 S0 (hb hby at_11) (pc' := 14) rfl ?_
    intro T39 X39 e39
    have A39 := wk X39 hx hby
    refine s_astoreN A39 at_14 (pc' := 15) rfl (ls' := #[.val (.int p0), .val (.int p1), .val (.int z2), .val (.ref r0), .unset, .unset, .unset, .unset, .unset]) rfl rfl ?_
    refine s_sipush A39 at_15 (pc' := 18) rfl (v := (20000 : Int32)) (by decide) ?_
    refine s_istore A39 at_18 (pc' := 20) rfl (ls' := #[.val (.int p0), .val (.int p1), .val (.int z2), .val (.ref r0), .val (.int (20000 : Int32)), .unset, .unset, .unset, .unset]) rfl ?_
    refine s_goto A39 at_20 (pc' := 81) (by decide) (by decide) ?_
    refine s_iload A39 at_81 (pc' := 83) rfl rfl ?_
    refine s_bipush A39 at_83 (pc' := 85) rfl (v := (50 : Int32)) (by decide) ?_
    refine s_isub A39 at_85 (pc' := 86) rfl (v := (19950 : Int32)) (by decide) ?_
    refine s_istore A39 at_86 (pc' := 88) rfl (ls' := #[.val (.int p0), .val (.int p1), .val (.int z2), .val (.ref r0), .val (.int (20000 : Int32)), .val (.int (19950 : Int32)), .unset, .unset, .unset]) rfl ?_
    refine s_iloadN A39 at_88 (pc' := 89) rfl rfl ?_
    refine s_iload A39 at_89 (pc' := 91) rfl rfl ?_
    refine s_icmpne A39 at_91 (pY := 101) (pN := 94) (by decide) (by decide) rfl ?_ ?_
    · intro c91
      replace c91 := i_ne c91
      rw [show (19950 : Int32).toInt = 19950 from by decide] at c91
      refine s_iloadN A39 at_101 (pc' := 102) rfl rfl ?_
      obtain ⟨z40, hz40⟩ : ∃ v : UInt64, FP.i2d p1 = v := ⟨_, rfl⟩
      have q40 : Dy p1.toInt 0 z40 := hz40 ▸ Dy.i2d' (n := p1.toInt) rfl
      refine s_i2d A39 at_102 (pc' := 103) rfl hz40 ?_
      refine g_ldcD X39 hx hZ (v := (4681608360884174848 : UInt64)) hown (hw _ (List.mem_of_getElem? (i := 4) rfl)) (hb hby at_103) (pc' := 106) rfl ?_
      obtain ⟨z41, hz41⟩ : ∃ v : UInt64, (FP.ddiv z40 (4681608360884174848 : UInt64)) = v := ⟨_, rfl⟩
      have q41 : Jvm.FP.Core.DFin z41 := hz41 ▸ div_whole q40 own_lit4681608360884174848 (by omega)
      refine s_ddiv A39 at_106 (pc' := 107) rfl hz41 (DFin.nn64 q41) ?_
      refine s_dstore A39 at_107 (pc' := 109) rfl (ls' := #[.val (.int p0), .val (.int p1), .val (.int z2), .val (.ref r0), .val (.int (20000 : Int32)), .val (.int (19950 : Int32)), .val (.double z41), .second, .unset]) rfl ?_
      refine s_iloadN A39 at_109 (pc' := 110) rfl rfl ?_
      refine s_iload A39 at_110 (pc' := 112) rfl rfl ?_
      refine s_icmpge A39 at_112 (pY := 119) (pN := 115) (by decide) (by decide) rfl ?_ ?_
      · intro c112
        replace c112 := i_ge c112
        rw [show (19950 : Int32).toInt = 19950 from by decide] at c112
        refine s_iconst A39 at_119 (pc' := 120) rfl (v := (0 : Int32)) (by decide) ?_
        refine s_istore A39 at_120 (pc' := 122) rfl (ls' := #[.val (.int p0), .val (.int p1), .val (.int z2), .val (.ref r0), .val (.int (20000 : Int32)), .val (.int (19950 : Int32)), .val (.double z41), .second, .val (.int (0 : Int32))]) rfl ?_
        refine s_aloadN A39 at_122 (pc' := 123) rfl rfl rfl ?_
        refine s_dload A39 at_123 (pc' := 125) rfl rfl ?_
        obtain ⟨tq, htq⟩ : ∃ t : UInt64, t = (4596355765295818736 : UInt64) := ⟨_, rfl⟩
        have u1 := fun h => own_lo0 hz40 hz41 h htq
        have u2 := fun h => own_hi0 hz40 hz41 h htq
        refine g_virtual X39 hx hZ (y := (⟨"com/example/landsmith/landsmith/ManufacturingRules$Rule", "breachedBy", "(D)Z"⟩ : MethodName)) hown (hw _ (List.mem_of_getElem? (i := 5) rfl)) (hw _ (List.mem_of_getElem? (i := 6) rfl)) (hw _ (List.mem_of_getElem? (i := 8) rfl)) (hw _ (List.mem_of_getElem? (i := 7) rfl)) (hw _ (List.mem_of_getElem? (i := 2) rfl)) (hw _ (List.mem_of_getElem? (i := 9) rfl)) (by decide) E0 (argsL := [(.double z41)]) (rest := []) (c_br l Z a0 hw [] r0 z41 4596373779694328218 tq h0 n0 Z0 F0 (own_t0.trans htq.symm) (by rw [htq]; exact own_T0.1) q41) pd_0 rfl rfl (hb hby at_125) e39 (by rw [hml]; rfl) (pc' := 128) rfl (by decide) (W := 0) (Nat.le_of_eq rfl) (by decide) (by decide) (by decide) ?_
        intro v42 T42 L42 X42 hQ42
        have A42 := wk X42 hx hby
        have e42 : T42.heap = T42.heap := rfl
        obtain ⟨z42, rfl, q42, N42, hh42⟩ := hQ42
        have e42 : T42.heap = h0 := hh42
        show Go p e below m (Fini s room_1.cells room_1.slots (fun v h L => v = some (.int 1) ∧ Fr n0 L)) T42 128 #[.val (.int p0), .val (.int p1), .val (.int z2), .val (.ref r0), .val (.int (20000 : Int32)), .val (.int (19950 : Int32)), .val (.double z41), .second, .val (.int (0 : Int32))] [(.int z42)]
        refine s_iload A42 at_128 (pc' := 130) rfl rfl ?_
        refine s_icmpne A42 at_130 (pY := 137) (pN := 133) (by decide) (by decide) rfl ?_ ?_
        · intro c130
          replace c130 := i_ne c130
          rw [show (0 : Int32).toInt = 0 from by decide] at c130
          refine s_iconst A42 at_137 (pc' := 138) rfl (v := (0 : Int32)) (by decide) ?_
          exfalso; omega
        · intro c130
          replace c130 := i_eq c130
          rw [show (0 : Int32).toInt = 0 from by decide] at c130
          refine s_iconst A42 at_133 (pc' := 134) rfl (v := (1 : Int32)) (by decide) ?_
          refine s_goto A42 at_134 (pc' := 138) (by decide) (by decide) ?_
          exact g_retZ X42 hx hlk hret (by decide) (hb hby at_138) ⟨rfl, (Fr.app N0 N42)⟩ (by decide) (by decide)
      · intro c112
        replace c112 := i_lt c112
        rw [show (19950 : Int32).toInt = 19950 from by decide] at c112
        refine s_iconst A39 at_115 (pc' := 116) rfl (v := (1 : Int32)) (by decide) ?_
        refine s_goto A39 at_116 (pc' := 120) (by decide) (by decide) ?_
        refine s_istore A39 at_120 (pc' := 122) rfl (ls' := #[.val (.int p0), .val (.int p1), .val (.int z2), .val (.ref r0), .val (.int (20000 : Int32)), .val (.int (19950 : Int32)), .val (.double z41), .second, .val (.int (1 : Int32))]) rfl ?_
        refine s_aloadN A39 at_122 (pc' := 123) rfl rfl rfl ?_
        refine s_dload A39 at_123 (pc' := 125) rfl rfl ?_
        obtain ⟨tq, htq⟩ : ∃ t : UInt64, t = (4596355765295818736 : UInt64) := ⟨_, rfl⟩
        have u1 := fun h => own_lo0 hz40 hz41 h htq
        have u2 := fun h => own_hi0 hz40 hz41 h htq
        refine g_virtual X39 hx hZ (y := (⟨"com/example/landsmith/landsmith/ManufacturingRules$Rule", "breachedBy", "(D)Z"⟩ : MethodName)) hown (hw _ (List.mem_of_getElem? (i := 5) rfl)) (hw _ (List.mem_of_getElem? (i := 6) rfl)) (hw _ (List.mem_of_getElem? (i := 8) rfl)) (hw _ (List.mem_of_getElem? (i := 7) rfl)) (hw _ (List.mem_of_getElem? (i := 2) rfl)) (hw _ (List.mem_of_getElem? (i := 9) rfl)) (by decide) E0 (argsL := [(.double z41)]) (rest := []) (c_br l Z a0 hw [] r0 z41 4596373779694328218 tq h0 n0 Z0 F0 (own_t0.trans htq.symm) (by rw [htq]; exact own_T0.1) q41) pd_0 rfl rfl (hb hby at_125) e39 (by rw [hml]; rfl) (pc' := 128) rfl (by decide) (W := 0) (Nat.le_of_eq rfl) (by decide) (by decide) (by decide) ?_
        intro v43 T43 L43 X43 hQ43
        have A43 := wk X43 hx hby
        have e43 : T43.heap = T43.heap := rfl
        obtain ⟨z43, rfl, q43, N43, hh43⟩ := hQ43
        have e43 : T43.heap = h0 := hh43
        show Go p e below m (Fini s room_1.cells room_1.slots (fun v h L => v = some (.int 1) ∧ Fr n0 L)) T43 128 #[.val (.int p0), .val (.int p1), .val (.int z2), .val (.ref r0), .val (.int (20000 : Int32)), .val (.int (19950 : Int32)), .val (.double z41), .second, .val (.int (1 : Int32))] [(.int z43)]
        refine s_iload A43 at_128 (pc' := 130) rfl rfl ?_
        refine s_icmpne A43 at_130 (pY := 137) (pN := 133) (by decide) (by decide) rfl ?_ ?_
        · intro c130
          replace c130 := i_ne c130
          rw [show (1 : Int32).toInt = 1 from by decide] at c130
          refine s_iconst A43 at_137 (pc' := 138) rfl (v := (0 : Int32)) (by decide) ?_
          exfalso; omega
        · intro c130
          replace c130 := i_eq c130
          rw [show (1 : Int32).toInt = 1 from by decide] at c130
          refine s_iconst A43 at_133 (pc' := 134) rfl (v := (1 : Int32)) (by decide) ?_
          refine s_goto A43 at_134 (pc' := 138) (by decide) (by decide) ?_
          exact g_retZ X43 hx hlk hret (by decide) (hb hby at_138) ⟨rfl, (Fr.app N0 N43)⟩ (by decide) (by decide)
    · intro c91
      replace c91 := i_eq c91
      rw [show (19950 : Int32).toInt = 19950 from by decide] at c91
      refine s_iloadN A39 at_94 (pc' := 95) rfl rfl ?_
      refine s_iconst A39 at_95 (pc' := 96) rfl (v := (4 : Int32)) (by decide) ?_
      refine s_icmpeq A39 at_96 (pY := 101) (pN := 99) (by decide) (by decide) rfl ?_ ?_
      · intro c96
        replace c96 := i_eq c96
        rw [show (4 : Int32).toInt = 4 from by decide] at c96
        refine s_iloadN A39 at_101 (pc' := 102) rfl rfl ?_
        obtain ⟨z44, hz44⟩ : ∃ v : UInt64, FP.i2d p1 = v := ⟨_, rfl⟩
        have q44 : Dy p1.toInt 0 z44 := hz44 ▸ Dy.i2d' (n := p1.toInt) rfl
        refine s_i2d A39 at_102 (pc' := 103) rfl hz44 ?_
        refine g_ldcD X39 hx hZ (v := (4681608360884174848 : UInt64)) hown (hw _ (List.mem_of_getElem? (i := 4) rfl)) (hb hby at_103) (pc' := 106) rfl ?_
        obtain ⟨z45, hz45⟩ : ∃ v : UInt64, (FP.ddiv z44 (4681608360884174848 : UInt64)) = v := ⟨_, rfl⟩
        have q45 : Jvm.FP.Core.DFin z45 := hz45 ▸ div_whole q44 own_lit4681608360884174848 (by omega)
        refine s_ddiv A39 at_106 (pc' := 107) rfl hz45 (DFin.nn64 q45) ?_
        refine s_dstore A39 at_107 (pc' := 109) rfl (ls' := #[.val (.int p0), .val (.int p1), .val (.int z2), .val (.ref r0), .val (.int (20000 : Int32)), .val (.int (19950 : Int32)), .val (.double z45), .second, .unset]) rfl ?_
        refine s_iloadN A39 at_109 (pc' := 110) rfl rfl ?_
        refine s_iload A39 at_110 (pc' := 112) rfl rfl ?_
        refine s_icmpge A39 at_112 (pY := 119) (pN := 115) (by decide) (by decide) rfl ?_ ?_
        · intro c112
          replace c112 := i_ge c112
          rw [show (19950 : Int32).toInt = 19950 from by decide] at c112
          refine s_iconst A39 at_119 (pc' := 120) rfl (v := (0 : Int32)) (by decide) ?_
          refine s_istore A39 at_120 (pc' := 122) rfl (ls' := #[.val (.int p0), .val (.int p1), .val (.int z2), .val (.ref r0), .val (.int (20000 : Int32)), .val (.int (19950 : Int32)), .val (.double z45), .second, .val (.int (0 : Int32))]) rfl ?_
          refine s_aloadN A39 at_122 (pc' := 123) rfl rfl rfl ?_
          refine s_dload A39 at_123 (pc' := 125) rfl rfl ?_
          obtain ⟨tq, htq⟩ : ∃ t : UInt64, t = (4596355765295818736 : UInt64) := ⟨_, rfl⟩
          have u1 := fun h => own_lo0 hz44 hz45 h htq
          have u2 := fun h => own_hi0 hz44 hz45 h htq
          refine g_virtual X39 hx hZ (y := (⟨"com/example/landsmith/landsmith/ManufacturingRules$Rule", "breachedBy", "(D)Z"⟩ : MethodName)) hown (hw _ (List.mem_of_getElem? (i := 5) rfl)) (hw _ (List.mem_of_getElem? (i := 6) rfl)) (hw _ (List.mem_of_getElem? (i := 8) rfl)) (hw _ (List.mem_of_getElem? (i := 7) rfl)) (hw _ (List.mem_of_getElem? (i := 2) rfl)) (hw _ (List.mem_of_getElem? (i := 9) rfl)) (by decide) E0 (argsL := [(.double z45)]) (rest := []) (c_br l Z a0 hw [] r0 z45 4596373779694328218 tq h0 n0 Z0 F0 (own_t0.trans htq.symm) (by rw [htq]; exact own_T0.1) q45) pd_0 rfl rfl (hb hby at_125) e39 (by rw [hml]; rfl) (pc' := 128) rfl (by decide) (W := 0) (Nat.le_of_eq rfl) (by decide) (by decide) (by decide) ?_
          intro v46 T46 L46 X46 hQ46
          have A46 := wk X46 hx hby
          have e46 : T46.heap = T46.heap := rfl
          obtain ⟨z46, rfl, q46, N46, hh46⟩ := hQ46
          have e46 : T46.heap = h0 := hh46
          show Go p e below m (Fini s room_1.cells room_1.slots (fun v h L => v = some (.int 1) ∧ Fr n0 L)) T46 128 #[.val (.int p0), .val (.int p1), .val (.int z2), .val (.ref r0), .val (.int (20000 : Int32)), .val (.int (19950 : Int32)), .val (.double z45), .second, .val (.int (0 : Int32))] [(.int z46)]
          refine s_iload A46 at_128 (pc' := 130) rfl rfl ?_
          refine s_icmpne A46 at_130 (pY := 137) (pN := 133) (by decide) (by decide) rfl ?_ ?_
          · intro c130
            replace c130 := i_ne c130
            rw [show (0 : Int32).toInt = 0 from by decide] at c130
            refine s_iconst A46 at_137 (pc' := 138) rfl (v := (0 : Int32)) (by decide) ?_
            exfalso; omega
          · intro c130
            replace c130 := i_eq c130
            rw [show (0 : Int32).toInt = 0 from by decide] at c130
            refine s_iconst A46 at_133 (pc' := 134) rfl (v := (1 : Int32)) (by decide) ?_
            refine s_goto A46 at_134 (pc' := 138) (by decide) (by decide) ?_
            exact g_retZ X46 hx hlk hret (by decide) (hb hby at_138) ⟨rfl, (Fr.app N0 N46)⟩ (by decide) (by decide)
        · intro c112
          replace c112 := i_lt c112
          rw [show (19950 : Int32).toInt = 19950 from by decide] at c112
          refine s_iconst A39 at_115 (pc' := 116) rfl (v := (1 : Int32)) (by decide) ?_
          refine s_goto A39 at_116 (pc' := 120) (by decide) (by decide) ?_
          refine s_istore A39 at_120 (pc' := 122) rfl (ls' := #[.val (.int p0), .val (.int p1), .val (.int z2), .val (.ref r0), .val (.int (20000 : Int32)), .val (.int (19950 : Int32)), .val (.double z45), .second, .val (.int (1 : Int32))]) rfl ?_
          refine s_aloadN A39 at_122 (pc' := 123) rfl rfl rfl ?_
          refine s_dload A39 at_123 (pc' := 125) rfl rfl ?_
          obtain ⟨tq, htq⟩ : ∃ t : UInt64, t = (4596355765295818736 : UInt64) := ⟨_, rfl⟩
          have u1 := fun h => own_lo0 hz44 hz45 h htq
          have u2 := fun h => own_hi0 hz44 hz45 h htq
          refine g_virtual X39 hx hZ (y := (⟨"com/example/landsmith/landsmith/ManufacturingRules$Rule", "breachedBy", "(D)Z"⟩ : MethodName)) hown (hw _ (List.mem_of_getElem? (i := 5) rfl)) (hw _ (List.mem_of_getElem? (i := 6) rfl)) (hw _ (List.mem_of_getElem? (i := 8) rfl)) (hw _ (List.mem_of_getElem? (i := 7) rfl)) (hw _ (List.mem_of_getElem? (i := 2) rfl)) (hw _ (List.mem_of_getElem? (i := 9) rfl)) (by decide) E0 (argsL := [(.double z45)]) (rest := []) (c_br l Z a0 hw [] r0 z45 4596373779694328218 tq h0 n0 Z0 F0 (own_t0.trans htq.symm) (by rw [htq]; exact own_T0.1) q45) pd_0 rfl rfl (hb hby at_125) e39 (by rw [hml]; rfl) (pc' := 128) rfl (by decide) (W := 0) (Nat.le_of_eq rfl) (by decide) (by decide) (by decide) ?_
          intro v47 T47 L47 X47 hQ47
          have A47 := wk X47 hx hby
          have e47 : T47.heap = T47.heap := rfl
          obtain ⟨z47, rfl, q47, N47, hh47⟩ := hQ47
          have e47 : T47.heap = h0 := hh47
          show Go p e below m (Fini s room_1.cells room_1.slots (fun v h L => v = some (.int 1) ∧ Fr n0 L)) T47 128 #[.val (.int p0), .val (.int p1), .val (.int z2), .val (.ref r0), .val (.int (20000 : Int32)), .val (.int (19950 : Int32)), .val (.double z45), .second, .val (.int (1 : Int32))] [(.int z47)]
          refine s_iload A47 at_128 (pc' := 130) rfl rfl ?_
          refine s_icmpne A47 at_130 (pY := 137) (pN := 133) (by decide) (by decide) rfl ?_ ?_
          · intro c130
            replace c130 := i_ne c130
            rw [show (1 : Int32).toInt = 1 from by decide] at c130
            refine s_iconst A47 at_137 (pc' := 138) rfl (v := (0 : Int32)) (by decide) ?_
            exfalso; omega
          · intro c130
            replace c130 := i_eq c130
            rw [show (1 : Int32).toInt = 1 from by decide] at c130
            refine s_iconst A47 at_133 (pc' := 134) rfl (v := (1 : Int32)) (by decide) ?_
            refine s_goto A47 at_134 (pc' := 138) (by decide) (by decide) ?_
            exact g_retZ X47 hx hlk hret (by decide) (hb hby at_138) ⟨rfl, (Fr.app N0 N47)⟩ (by decide) (by decide)
      · intro c96
        replace c96 := i_ne c96
        rw [show (4 : Int32).toInt = 4 from by decide] at c96
        refine s_iconst A39 at_99 (pc' := 100) rfl (v := (1 : Int32)) (by decide) ?_
        exact g_retZ X39 hx hlk hret (by decide) (hb hby at_100) ⟨rfl, N0⟩ (by decide) (by decide)
set_option maxRecDepth 65536 in
set_option maxHeartbeats 40000000 in
theorem comes_1 {Post : Tables → Env → Array Value → State → Outcome → State → Prop} (hpost : ∀ tb e args s v u, (limb_1_1.after args s (.returned v) u = true ∧ limb_1_2.after args s (.returned v) u = true ∧ True) → FrameEnd s (.returned v) u (Jvm.fieldLocs frame_1_writes args s ++ Jvm.arrayLocs frame_1_arrays args s ++ Jvm.staticLocs frame_1_statics s) 0 0 → Post tb e args s (.returned v) u) :
    ArmFor flags0 classFile x code maxLocals ret World_1 tables_1 room_1 Calls_1 rest_1 Pre_1 Post := by
  intro l hfl _ _ p e ha hc hk s m args below hf hA hF happ hP
  obtain ⟨hcalls, hrest, hpre⟩ := hP
  obtain ⟨-, -, -, hnamed, -, -, -, hat⟩ := (Spec.applies_iff hf).mp happ
  obtain ⟨hg, hn⟩ := and_e (Cond.before_iff.mp (show (Jvm.Cond.and given_1 narrow_1).before args s = true from hpre))
  obtain ⟨h1, g0⟩ := and_e hg
  obtain ⟨w0, w1, rfl⟩ : ∃ w0 w1 : Value, args = #[w0, w1] := by
    have hs : args.size = 2 := by simpa [Cond.value, given_1] using h1
    obtain ⟨L⟩ := args
    match L, hs with
    | [w0, w1], _ => exact ⟨w0, w1, rfl⟩
  have hw := fun d (hd : d ∈ tables_1) => atoms_spec (ws := Jvm.Cond.code x code maxLocals ret :: tables_1) hat d (List.mem_cons_of_mem _ hd)
  have hfit : Fit s := fun {y c} hc i hi => by
    obtain ⟨ha, rfl⟩ := Array.getElem?_eq_some_iff.mp hc
    have q := List.all_eq_true.mp ((Array.all_eq_true_iff_forall_mem.mp hF) _ (Array.getElem_mem ha)) i (List.mem_range.mpr hi)
    simpa [Array.getElem?_eq_getElem hi] using q
  obtain ⟨k0, g1⟩ := and_e g0
  obtain ⟨i0, j0⟩ := is_v k0
  obtain rfl : w0 = (.int i0) := Option.some.inj j0
  obtain ⟨i1, j1⟩ := is_v g1
  obtain rfl : w1 = (.int i1) := Option.some.inj j1
  obtain ⟨x0, hn0a⟩ := and_e hn
  obtain ⟨f0, hn0b⟩ := and_e hn0a
  obtain ⟨r0, S0, E0, F0⟩ := pinD x0 f0 (hw _ (List.mem_of_getElem? (i := 2) rfl)) (hw _ (List.mem_of_getElem? (i := 3) rfl))
  obtain ⟨x1, hn1a⟩ := and_e hn0b
  obtain ⟨f1, hn1b⟩ := and_e hn1a
  obtain ⟨r4, S4, E4, F4⟩ := pinD x1 f1 (hw _ (List.mem_of_getElem? (i := 2) rfl)) (hw _ (List.mem_of_getElem? (i := 14) rfl))
  obtain ⟨x2, hn2a⟩ := and_e hn1b
  obtain ⟨f2, hn2b⟩ := and_e hn2a
  obtain ⟨r3, S3, E3, F3⟩ := pinD x2 f2 (hw _ (List.mem_of_getElem? (i := 2) rfl)) (hw _ (List.mem_of_getElem? (i := 16) rfl))
  obtain ⟨x3, hn3a⟩ := and_e hn2b
  obtain ⟨f3, hn3b⟩ := and_e hn3a
  obtain ⟨r1, S1, E1, F1⟩ := pinD x3 f3 (hw _ (List.mem_of_getElem? (i := 2) rfl)) (hw _ (List.mem_of_getElem? (i := 18) rfl))
  obtain ⟨x4, hn4a⟩ := and_e hn3b
  obtain ⟨r2, S2, E2, F2⟩ := pinD x4 hn4a (hw _ (List.mem_of_getElem? (i := 2) rfl)) (hw _ (List.mem_of_getElem? (i := 20) rfl))
  obtain ⟨n, o, r1, r2, r3, _, L, rfl, ⟨rfl, N⟩, hq⟩ := c_law l s _ hw tables_1 i0 i1 r0 r1 r2 r3 r4 s.heap s.heap.size (Nat.le_refl _) S0 E0 F0 S1 E1 F1 S2 E2 F2 S3 E3 F3 S4 E4 F4 p e ha hc hk s m _ below hf ((Spec.applies_iff_loose hf).mp happ).1 ⟨rfl, State.Warmed39.refl s, rfl⟩ trivial
  refine ⟨n, _, r1, r2, r3, hpost _ _ _ _ _ _ ⟨Cond.after_iff.mpr rfl, Cond.after_iff.mpr (eq_i res_at (Term.int_eval (1)) rfl), trivial⟩ ⟨hq.1, hq.2.1, (hq.2.2.sift fun y hy => Or.inr (N y hy)).mono (by decide) (by decide)⟩⟩
theorem main_1_1 : Claimed_1_1 := comes_1 fun _ _ _ _ _ _ h hF => ⟨h.1, hF⟩
theorem main_1_2 : Claimed_1_2 := comes_1 fun _ _ _ _ _ _ h hF => ⟨h.2.1, hF⟩
end Jvm.Pilot.@@N@@
namespace Jvm.Pilot.@@N@@
open Jvm Jvm.ClassFile Sem Op Lib Jvm.Free Jvm.Stand Jvm.Pilot.@@N@@.Jvm.D
/-! MADE BY PROGRAM (witnessworld.py) out of the Statement's table words and the real class files: 12 classes; the members and pool entries that the words name. The judged class is class 1, her method 1. -/
namespace start1
open Jvm.ClassFile
def u (s : String) : CpInfo := .utf8 (stringToUtf16 s)
/-- a pool by its gaps: so many unusable entries, then the entry; so many at the end -/
def gap : Nat → List CpInfo → List CpInfo
  | 0, r => r
  | n + 1, r => .unusable :: gap n r
def poolList (es : List (Nat × CpInfo)) (last : Nat) : List CpInfo := es.foldr (fun e r => gap e.1 (e.2 :: r)) (gap last [])
def pool (es : List (Nat × CpInfo)) (last : Nat) : Array CpInfo := ⟨poolList es last⟩
def fileOf (pool : Array CpInfo) (this : Nat) (attrs : Array Attribute := #[]) (ms : Array MethodInfo := #[]) (fl : Nat := 33) (sup : Nat := 0) (ifs : Array Nat := #[]) (fds : Array FieldInfo := #[]) : ClassFile where
  minorVersion := 0
  majorVersion := 65
  constantPool := pool
  accessFlags := fl
  thisClass := this
  superClass := sup
  interfaces := ifs
  fields := fds
  methods := ms
  attributes := attrs
def plain (name : String) (sup : Option ClassId) : Class where
  name := name
  kind := .ordinary
  loader := none
  accessFlags := 33
  super := sup
  interfaces := #[]
  cf := none
  fields := #[]
  methods := #[]
  instanceTypes := #[]
  staticTypes := #[]
  resolved := #[]
  callSites := []
  init := .initialized
  statics := none
  mirror := none

def pool0 : Array CpInfo := pool [(5, u "<init>"), (0, u "()V"), (1, .class_ 10), (1, u "java/lang/Object")] 113

def k0m0 : Method := { name := "<init>", desc := "()V", sig := { parameters := [], returnType := none }, accessFlags := 1, code := none }
/-- java/lang/Object -/
def k0 : Class := { plain "java/lang/Object" none with
  accessFlags := 33
  interfaces := #[]
  cf := some (fileOf pool0 8 #[] #[{ accessFlags := 1, nameIndex := 5, descriptorIndex := 6, attributes := #[] }] 33 0 #[] #[])
  fields := #[]
  methods := #[k0m0]
  instanceTypes := #[]
  staticTypes := #[]
  resolved := Array.replicate 124 none
  statics := none }

def pool1 : Array CpInfo := pool [(2, .class_ 4), (1, u "java/lang/Object"), (0, u "<init>"), (0, u "()V"), (0, .integer 2147483647), (0, .fieldref 9 10), (0, .class_ 11), (0, .nameAndType 12 13), (0, u "com/example/landsmith/landsmith/ManufacturingRules$Rule"), (0, u "LAND_TO_LAND"), (0, u "Lcom/example/landsmith/landsmith/ManufacturingRules$Rule;"), (0, .fieldref 9 15), (0, .nameAndType 16 13), (0, u "LAND_TO_THERMAL"), (0, .fieldref 9 18), (0, .nameAndType 19 13), (0, u "SILK_TO_LAND"), (0, .fieldref 9 21), (0, .nameAndType 22 13), (0, u "MASK_WEB"), (0, .fieldref 9 24), (0, .nameAndType 25 13), (0, u "COURTYARD"), (0, .double 4681608360884174848), (1, .methodref 9 29), (0, .nameAndType 30 31), (0, u "breachedBy"), (0, u "(D)Z"), (0, .class_ 33), (0, u "com/example/landsmith/landsmith/RuleBreachedByPinLaw"), (2, u "law"), (0, u "(II)Z")] 7

def k1m0 : Method := { name := "<init>", desc := "()V", sig := { parameters := [], returnType := none }, accessFlags := 1, code := none }
def k1c1 : Code := { maxStack := 4, maxLocals := 9, code := code, exceptionTable := #[], attributes := #[] }
def k1m1 : Method := { name := "law", desc := "(II)Z", sig := { parameters := [.int, .int], returnType := some .boolean }, accessFlags := 9, code := some k1c1 }
/-- com/example/landsmith/landsmith/RuleBreachedByPinLaw -/
def k1 : Class := { plain "com/example/landsmith/landsmith/RuleBreachedByPinLaw" (some 0) with
  accessFlags := 49
  interfaces := #[]
  cf := some (fileOf pool1 32 #[] #[{ accessFlags := 1, nameIndex := 5, descriptorIndex := 6, attributes := #[] }, { accessFlags := 9, nameIndex := 36, descriptorIndex := 37, attributes := #[] }] 49 2 #[] #[])
  fields := #[]
  methods := #[k1m0, k1m1]
  instanceTypes := #[]
  staticTypes := #[]
  resolved := Array.replicate 45 none
  statics := none }

def pool2 : Array CpInfo := pool [(1, .class_ 2), (0, u "java/lang/constant/Constable"), (0, .class_ 4), (0, u "java/lang/Object")] 6

/-- java/lang/constant/Constable -/
def k2 : Class := { plain "java/lang/constant/Constable" (some 0) with
  accessFlags := 1537
  interfaces := #[]
  cf := some (fileOf pool2 1 #[] #[] 1537 3 #[] #[])
  fields := #[]
  methods := #[]
  instanceTypes := #[]
  staticTypes := #[]
  resolved := Array.replicate 11 none
  statics := none }

def pool3 : Array CpInfo := pool [(1, .class_ 2), (0, u "java/lang/Comparable"), (0, .class_ 4), (0, u "java/lang/Object")] 7

/-- java/lang/Comparable -/
def k3 : Class := { plain "java/lang/Comparable" (some 0) with
  accessFlags := 1537
  interfaces := #[]
  cf := some (fileOf pool3 1 #[] #[] 1537 3 #[] #[])
  fields := #[]
  methods := #[]
  instanceTypes := #[]
  staticTypes := #[]
  resolved := Array.replicate 12 none
  statics := none }

def pool4 : Array CpInfo := pool [(1, .class_ 2), (0, u "java/io/Serializable"), (0, .class_ 4), (0, u "java/lang/Object")] 2

/-- java/io/Serializable -/
def k4 : Class := { plain "java/io/Serializable" (some 0) with
  accessFlags := 1537
  interfaces := #[]
  cf := some (fileOf pool4 1 #[] #[] 1537 3 #[] #[])
  fields := #[]
  methods := #[]
  instanceTypes := #[]
  staticTypes := #[]
  resolved := Array.replicate 7 none
  statics := none }

def pool5 : Array CpInfo := pool [(2, .class_ 4), (1, u "java/lang/Enum"), (0, u "name"), (0, u "Ljava/lang/String;"), (2, u "ordinal"), (0, u "I"), (1, .class_ 14), (1, u "java/lang/Object"), (4, u "hash"), (86, .class_ 108), (1, u "java/lang/Enum$EnumDesc"), (2, .class_ 112), (0, u "java/lang/constant/Constable"), (0, .class_ 114), (0, u "java/lang/Comparable"), (0, .class_ 116), (0, u "java/io/Serializable")] 87

/-- java/lang/Enum -/
def k5 : Class := { plain "java/lang/Enum" (some 0) with
  accessFlags := 1057
  interfaces := #[2, 3, 4]
  cf := some (fileOf pool5 2 #[.nestMembers #[106]] #[] 1057 12 #[111, 113, 115] #[{ accessFlags := 18, nameIndex := 5, descriptorIndex := 6, attributes := #[] }, { accessFlags := 18, nameIndex := 9, descriptorIndex := 10, attributes := #[] }, { accessFlags := 2, nameIndex := 19, descriptorIndex := 10, attributes := #[] }])
  fields := #[{ name := "name", type := (.object "java/lang/String"), accessFlags := 18, slot := 0, constantValue := 0 }, { name := "ordinal", type := .int, accessFlags := 18, slot := 1, constantValue := 0 }, { name := "hash", type := .int, accessFlags := 2, slot := 2, constantValue := 0 }]
  methods := #[]
  instanceTypes := #[(.object "java/lang/String"), .int, .int]
  staticTypes := #[]
  resolved := Array.replicate 204 none
  statics := none }

def pool6 : Array CpInfo := pool [(1, .class_ 2), (0, u "com/example/landsmith/landsmith/ManufacturingRules"), (0, .class_ 4), (0, u "com/example/landsmith/landsmith/ManufacturingRules$Rule"), (2, u "LAND_TO_LAND"), (0, u "Lcom/example/landsmith/landsmith/ManufacturingRules$Rule;"), (2, u "LAND_TO_THERMAL"), (2, u "SILK_TO_LAND"), (2, u "MASK_WEB"), (2, u "COURTYARD"), (2, u "$VALUES"), (0, u "[Lcom/example/landsmith/landsmith/ManufacturingRules$Rule;"), (6, .class_ 33), (1, u "java/lang/Enum"), (6, .fieldref 3 41), (0, .nameAndType 42 43), (0, u "least"), (0, u "D"), (0, .double 4557750909289998844), (27, u "breachedBy"), (0, u "(D)Z")] 9

def k6c0 : Code := { maxStack := 6, maxLocals := 3, code := prog_34_method_5_code, exceptionTable := #[], attributes := #[] }
def k6m0 : Method := { name := "breachedBy", desc := "(D)Z", sig := { parameters := [.double], returnType := some .boolean }, accessFlags := 0, code := some k6c0 }
/-- com/example/landsmith/landsmith/ManufacturingRules$Rule -/
def k6 : Class := { plain "com/example/landsmith/landsmith/ManufacturingRules$Rule" (some 5) with
  accessFlags := 16432
  interfaces := #[]
  cf := some (fileOf pool6 3 #[.nestHost 1] #[{ accessFlags := 0, nameIndex := 72, descriptorIndex := 73, attributes := #[] }] 16432 31 #[] #[{ accessFlags := 16409, nameIndex := 7, descriptorIndex := 8, attributes := #[] }, { accessFlags := 16409, nameIndex := 11, descriptorIndex := 8, attributes := #[] }, { accessFlags := 16409, nameIndex := 14, descriptorIndex := 8, attributes := #[] }, { accessFlags := 16409, nameIndex := 17, descriptorIndex := 8, attributes := #[] }, { accessFlags := 16409, nameIndex := 20, descriptorIndex := 8, attributes := #[] }, { accessFlags := 18, nameIndex := 42, descriptorIndex := 43, attributes := #[] }, { accessFlags := 4122, nameIndex := 23, descriptorIndex := 24, attributes := #[] }])
  fields := #[{ name := "LAND_TO_LAND", type := (.object "com/example/landsmith/landsmith/ManufacturingRules$Rule"), accessFlags := 16409, slot := 0, constantValue := 0 }, { name := "LAND_TO_THERMAL", type := (.object "com/example/landsmith/landsmith/ManufacturingRules$Rule"), accessFlags := 16409, slot := 1, constantValue := 0 }, { name := "SILK_TO_LAND", type := (.object "com/example/landsmith/landsmith/ManufacturingRules$Rule"), accessFlags := 16409, slot := 2, constantValue := 0 }, { name := "MASK_WEB", type := (.object "com/example/landsmith/landsmith/ManufacturingRules$Rule"), accessFlags := 16409, slot := 3, constantValue := 0 }, { name := "COURTYARD", type := (.object "com/example/landsmith/landsmith/ManufacturingRules$Rule"), accessFlags := 16409, slot := 4, constantValue := 0 }, { name := "least", type := .double, accessFlags := 18, slot := 3, constantValue := 0 }, { name := "$VALUES", type := (.array (.object "com/example/landsmith/landsmith/ManufacturingRules$Rule")), accessFlags := 4122, slot := 5, constantValue := 0 }]
  methods := #[k6m0]
  instanceTypes := #[(.object "java/lang/String"), .int, .int, .double]
  staticTypes := #[(.object "com/example/landsmith/landsmith/ManufacturingRules$Rule"), (.object "com/example/landsmith/landsmith/ManufacturingRules$Rule"), (.object "com/example/landsmith/landsmith/ManufacturingRules$Rule"), (.object "com/example/landsmith/landsmith/ManufacturingRules$Rule"), (.object "com/example/landsmith/landsmith/ManufacturingRules$Rule"), (.array (.object "com/example/landsmith/landsmith/ManufacturingRules$Rule"))]
  resolved := Array.replicate 83 none
  statics := some 0 }

def pool7 : Array CpInfo := pool [(1, u "java/lang/Cloneable"), (0, .class_ 1), (0, u "java/lang/Object"), (0, .class_ 3)] 3

/-- java/lang/Cloneable -/
def k7 : Class := { plain "java/lang/Cloneable" (some 0) with
  accessFlags := 1537
  interfaces := #[]
  cf := some (fileOf pool7 2 #[] #[] 1537 4 #[] #[])
  fields := #[]
  methods := #[]
  instanceTypes := #[]
  staticTypes := #[]
  resolved := Array.replicate 8 none
  statics := none }

/-- the primitive byte -/
def k8 : Class := { plain "byte" none with kind := .primitive 'B', accessFlags := 0x411 }
/-- [B -/
def k9 : Class := { plain "[B" (some 0) with kind := .array 8 .byte, interfaces := #[7, 4], accessFlags := 1041 }

/-- the primitive int -/
def k10 : Class := { plain "int" none with kind := .primitive 'I', accessFlags := 0x411 }
/-- [I -/
def k11 : Class := { plain "[I" (some 0) with kind := .array 10 .int, interfaces := #[7, 4], accessFlags := 1041 }

def heap : Heap := #[{ cls := 6, slots := #[.ref 1, .ref 2, .ref 3, .ref 4, .ref 5, .null], vm := .statics 6 },
  { cls := 6, slots := #[.null, .int 0, .int 0, .double 4596373779694328218], vm := .none },
  { cls := 6, slots := #[.null, .int 1, .int 0, .double 4596373779694328218], vm := .none },
  { cls := 6, slots := #[.null, .int 2, .int 0, .double 4598175219545276416], vm := .none },
  { cls := 6, slots := #[.null, .int 3, .int 0, .double 4590068740216009523], vm := .none },
  { cls := 6, slots := #[.null, .int 4, .int 0, .double 0], vm := .none }]
def classes : Array Class := #[k0, k1, k2, k3, k4, k5, k6, k7, k8, k9, k10, k11]
def interned : List (Array UInt16 × Addr) := []
def slotsUsed : Nat := 26
def theMethod : MethodId := ⟨1, 1⟩
def args0 : Array Value := #[.int 1, .int 2]
def aboutOver (below : List Frame) : State where
  vm := { classes := classes, interned := interned.toArray }
  heap := heap
  slotsUsed := slotsUsed
  threads := #[{ frames := .invoking theMethod args0 :: below }]
def below0 : List Frame := [.native { method := ⟨0, 0⟩, args := #[] }]
def about1 : State := aboutOver below0
def p0 : Program := .bare "" "" ""
def e0 : Env := launch0.env 0 0 0
theorem w_frames : about1.frames = Frame.invoking theMethod args0 :: below0 := rfl
set_option maxRecDepth 65536 in
theorem w_args : argsFit about1.vm theMethod args0 = true := by decide +kernel
set_option maxRecDepth 65536 in
theorem w_heap : heapFits about1 = true := by decide +kernel
set_option maxRecDepth 65536 in
theorem w_runnable : about1.curStatus? = some .runnable := by decide +kernel
set_option maxRecDepth 65536 in
theorem w_alone : about1.alone = true := by decide +kernel
set_option maxRecDepth 65536 in
theorem w_named : about1.methodNamed? x = some theMethod := by decide +kernel
set_option maxRecDepth 65536 in
theorem w_hears : about1.hears theMethod below0 = true := by decide +kernel
set_option maxRecDepth 65536 in
theorem w_ripe : about1.ripe theMethod args0 below0 = true := by decide +kernel
theorem w_running : about1.status = .running := rfl
set_option maxRecDepth 65536 in
theorem w_room : about1.hasRoom e0.platform room_1 = true :=
  launch0.hasRoom_least _ room_1 (by decide +kernel) (by decide +kernel) (by decide +kernel) (by decide +kernel) (by decide +kernel) (by decide +kernel)
theorem allAtoms_all (ts : List Jvm.Cond) (a : Array Jvm.Value) (st : Jvm.State) : (allAtoms ts).before a st = ts.all (fun c => c.before a st) := by
  induction ts with
  | nil => rfl
  | cons c t ih =>
    show (Jvm.Cond.and c (allAtoms t)).before a st = _
    rw [Jvm.Cond.before_and, ih, List.all_cons]
def words1 : List Jvm.Cond := Jvm.Cond.code x code maxLocals ret :: tables_1
/-- a 'code' word, met by the world's own term for the bytes: nothing is compared byte by byte -/
theorem code_word {y : MethodName} {bytes : ByteArray} {mx : Nat} {rt : Option FieldType} {a : Array Value} {s : State} {m : MethodId} {meth : Method} {c : Code} (h1 : s.methodNamed? y = some m) (h2 : s.vm.method? m = some meth) (h3 : meth.code = some c) (h4 : c.code = bytes)
    (h5 : (c.maxLocals == mx && c.exceptionTable.isEmpty && decide (c.maxStack ≤ mostOperands) && decide (meth.sig.returnType = rt) && !meth.locks && decide (parseMethodDescriptor y.desc = some meth.sig)) = true) : (Jvm.Cond.code y bytes mx rt).before a s = true := by
  simp only [Bool.and_eq_true, beq_iff_eq, Bool.not_eq_true', decide_eq_true_eq] at h5
  obtain ⟨⟨⟨⟨⟨g1, g2⟩, g3⟩, g4⟩, g5⟩, g6⟩ := h5
  simp [Cond.before, Cond.holds, Cond.value, h1, h2, h3, h4, g1, g2, g3, g4, g5, g6]
def isCode : Jvm.Cond → Bool
  | .code _ _ _ _ => true
  | _ => false
theorem all_split {L : List Jvm.Cond} {P : Jvm.Cond → Bool} (h1 : L.all (fun c => isCode c || P c) = true) (h2 : ∀ c ∈ L.filter isCode, P c = true) : L.all P = true := by
  refine List.all_eq_true.mpr fun c hc => ?_
  have h := List.all_eq_true.mp h1 c hc
  rcases Bool.eq_false_or_eq_true (isCode c) with hi | hi
  · exact h2 c (List.mem_filter.mpr ⟨hc, hi⟩)
  · simpa [hi] using h
set_option maxRecDepth 65536 in
theorem w_c0 : (Jvm.Cond.code x code maxLocals ret).before args0 about1 = true := code_word (m := ⟨1, 1⟩) (meth := k1m1) (c := k1c1) (by decide +kernel) rfl rfl rfl (by decide +kernel)
set_option maxRecDepth 65536 in
theorem w_c1 : (Jvm.Cond.code ({ cls := "com/example/landsmith/landsmith/ManufacturingRules$Rule", name := "breachedBy", desc := "(D)Z" } : Jvm.MethodName) prog_34_method_5_code (3 : Nat) (Option.some Jvm.ClassFile.FieldType.boolean)).before args0 about1 = true := code_word (m := ⟨6, 0⟩) (meth := k6m0) (c := k6c0) (by decide +kernel) rfl rfl rfl (by decide +kernel)
def codes1 : List Jvm.Cond := [Jvm.Cond.code x code maxLocals ret, Jvm.Cond.code ({ cls := "com/example/landsmith/landsmith/ManufacturingRules$Rule", name := "breachedBy", desc := "(D)Z" } : Jvm.MethodName) prog_34_method_5_code (3 : Nat) (Option.some Jvm.ClassFile.FieldType.boolean)]
set_option maxRecDepth 65536 in
theorem codes_eq : words1.filter isCode = codes1 := rfl
theorem w_codes : ∀ c ∈ words1.filter isCode, c.before args0 about1 = true := by
  rw [codes_eq]
  intro c hc
  simp only [codes1, List.mem_cons, List.not_mem_nil, or_false] at hc
  rcases hc with rfl | rfl
  · exact w_c0
  · exact w_c1
set_option maxRecDepth 65536 in
theorem w_t1 : words1.all (fun c => isCode c || c.before args0 about1) = true := by decide +kernel
theorem w_tables : (allAtoms (Jvm.Cond.code x code maxLocals ret :: tables_1)).before args0 about1 = true := by
  rw [allAtoms_all]
  show words1.all (fun c => c.before args0 about1) = true
  refine all_split ?_ w_codes
  rw [w_t1]
set_option maxRecDepth 65536 in
theorem w_case : (Jvm.Cond.and given_1 narrow_1).before args0 about1 = true := by decide +kernel
theorem w_applies : (headSpec (Jvm.Cond.code x code maxLocals ret :: tables_1) room_1).applies x e0.platform about1 = true :=
  (Spec.applies_iff w_frames).mpr ⟨w_running, w_runnable, w_alone, w_named, w_hears, w_ripe, w_room, w_tables⟩
theorem atStart : AtStart classFile x code maxLocals ret World_1 tables_1 room_1 Calls_1 rest_1 Pre_1 launch0 p0 e0 about1 theMethod args0 below0 :=
  ⟨lists_1, trivial, launch0.admits_env _ _ _, launch0.least_env, fairChoices_fair.cas, fairChoices_fair.clock, w_frames, w_args, w_heap, w_applies, trivial, trivial, w_case⟩
end start1
theorem witness_1 : WitnessClaimed_1 := ⟨start1.p0, start1.e0, start1.about1, start1.theMethod, start1.args0, start1.below0, start1.atStart⟩
end Jvm.Pilot.@@N@@
