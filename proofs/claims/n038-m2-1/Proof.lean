import JvmDerived
import JvmDerived.Pilot.@@N@@Statement
import JvmDerived.Pilot.@@N@@Code
set_option linter.unusedVariables false
set_option linter.unusedSimpArgs false
namespace Jvm.Own
open Sem ClassFile Op Lib Jvm.Stand Jvm.Free Jvm.LawKit Jvm.RoadKit
/-- from here the run comes back, and F says how -/
def Go (p : Program) (e : Env) (below : List Frame) (m : MethodId) (F : Outcome → State → Prop) (T : State) (pc : Nat) (ls : Array Slot) (st : List Value) : Prop :=
  ∃ V o, Steps p.tables e below (T.setTop (mkF m pc ls st)) V ∧ V.status = .running ∧ Ended V below o ∧ F o V
def Fini (s : State) (rc rs : Nat) (Q : Option Value → Heap → List Loc → Prop) (o : Outcome) (V : State) : Prop := ∃ v L, o = .returned v ∧ Q v V.heap L ∧ FrameEnd s o V L rc rs
abbrev Ctr (l : Launch) (Z : State) (y : MethodName) (bytes : ByteArray) (maxL : Nat) (ret : Option FieldType) (ws : List Cond) (rm : Room) (as' : Array Value) (h : Heap) (Q : Option Value → Heap → List Loc → Prop) : Prop :=
  MetFree l y (head1 (Cond.code y bytes maxL ret :: ws) rm) (fun a U => a = as' ∧ Z.Warmed39 U.vm ∧ U.heap = h) (fun _ _ _ _ _ => True) (fun _ U o U' => ∃ v L, o = .returned v ∧ Q v U'.heap L ∧ FrameEnd U o U' L rm.cells rm.slots)
theorem enter {l : Launch} {Z : State} {y : MethodName} {bytes : ByteArray} {maxL : Nat} {ret : Option FieldType} {ws : List Cond} {rm : Room} {as' : Array Value} {h : Heap} {Q : Option Value → Heap → List Loc → Prop} (hpn : plainFor y = true)
    (body : ∀ (p : Program) (e : Env) (s : State) (m : MethodId) (below : List Frame) (meth : Method) (c : Code) (T : State), Stand p l e rm s m as' below meth c T [] 0 0 → p.tables.exec = Jvm.exec → c.code = bytes → c.maxLocals = maxL → meth.sig.returnType = ret → meth.locks = false → Z.Warmed39 s.vm → s.vm.findClass y.cls = some m.cls → meth.name = y.name → T.heap = h →
      ∃ V o, Steps p.tables e below (T.setTop (entryFrame m as' maxL)) V ∧ V.status = .running ∧ Ended V below o ∧ Fini s rm.cells rm.slots Q o V) : Ctr l Z y bytes maxL ret ws rm as' h Q := by
  refine MetFree.of_bodySF hpn hisR ?_
  intro p e s m args below meth c s₁ Bd hml0 hP hK
  obtain ⟨rfl, hZ, hh⟩ := hP
  exact body p e s m below meth c s₁ (Stand.of_body Bd) Bd.exec Bd.bytes hml0 Bd.returns Bd.notSynchronized hZ (findClass_of_methodNamed Bd.named) (name_of_methodNamed Bd.named Bd.method).1 (by rw [← hh, Bd.state]; rfl)
theorem goIn {p : Program} {e : Env} {below : List Frame} {m : MethodId} {F : Outcome → State → Prop} {T : State} {as' : Array Value} {n : Nat} {ls : Array Slot} (q : entryFrame m as' n = mkF m 0 ls []) (k : Go p e below m F T 0 ls []) :
    ∃ V o, Steps p.tables e below (T.setTop (entryFrame m as' n)) V ∧ V.status = .running ∧ Ended V below o ∧ F o V := by rw [q]; exact k
def Wk (p : Program) (below : List Frame) (m : MethodId) (c : Code) (b : ByteArray) (T : State) : Prop := At T m c below ∧ p.tables.exec = Jvm.exec ∧ c.code = b
theorem Go.of {p : Program} {e : Env} {below : List Frame} {m : MethodId} {F : Outcome → State → Prop} {T T' : State} {pc pc' : Nat} {ls ls' : Array Slot} {st st' : List Value} (k : Go p e below m F T' pc' ls' st')
    (q : ∀ t, Steps p.tables e below (T'.setTop (mkF m pc' ls' st')) t → Steps p.tables e below (T.setTop (mkF m pc ls st)) t) : Go p e below m F T pc ls st := by
  obtain ⟨V, o, h1, h2⟩ := k
  exact ⟨V, o, q V h1, h2⟩
section Plain
variable {p : Program} {l : Launch} {e : Env} {R : Room} {s : State} {m : MethodId} {args : Array Value} {below : List Frame} {meth : Method} {c : Code} {T : State} {locs : List Loc} {cells slots : Nat} {Z : State} {a0 : Array Value} {h : Heap} {b : ByteArray} {F : Outcome → State → Prop} {pc pc' : Nat} {ls : Array Slot} {rest : List Value}
theorem wk (X : Stand p l e R s m args below meth c T locs cells slots) (hx : p.tables.exec = Jvm.exec) (hby : c.code = b) : Wk p below m c b T := ⟨X.here, hx, hby⟩
theorem s_iconst {i : Int} {v : Int32} (A : Wk p below m c b T) (hd : decode b pc = .ok (.iconst i, 1)) (hp : pc + 1 = pc') (hv : Int32.ofInt i = v) (k : Go p e below m F T pc' ls (.int v :: rest)) : Go p e below m F T pc ls rest := by
  subst hp hv
  exact k.of fun t k => XS.iconst A.1 A.2.1 rfl (hb A.2.2 hd) k
theorem s_bipush {i : Int} {v : Int32} (A : Wk p below m c b T) (hd : decode b pc = .ok (.bipush i, 2)) (hp : pc + 2 = pc') (hv : (Int8.ofInt i).toInt32 = v) (k : Go p e below m F T pc' ls (.int v :: rest)) : Go p e below m F T pc ls rest := by
  subst hp hv
  exact k.of fun t k => XS.bipush A.1 A.2.1 rfl (hb A.2.2 hd) k
theorem s_sipush {i : Int} {v : Int32} (A : Wk p below m c b T) (hd : decode b pc = .ok (.sipush i, 3)) (hp : pc + 3 = pc') (hv : (Int16.ofInt i).toInt32 = v) (k : Go p e below m F T pc' ls (.int v :: rest)) : Go p e below m F T pc ls rest := by
  subst hp hv
  exact k.of fun t k => XS.sipush A.1 A.2.1 rfl (hb A.2.2 hd) k
theorem s_lconst {i : Fin 2} {v : Int64} (A : Wk p below m c b T) (hd : decode b pc = .ok (.lconst i, 1)) (hp : pc + 1 = pc') (hv : Int64.ofNat i = v) (k : Go p e below m F T pc' ls (.long v :: rest)) : Go p e below m F T pc ls rest := by
  subst hp hv
  exact k.of fun t k => XT.lconst A.1 A.2.1 rfl (hb A.2.2 hd) k
theorem s_dconst0 {v : UInt64} (A : Wk p below m c b T) (hd : decode b pc = .ok (.dconst 0, 1)) (hp : pc + 1 = pc') (hv : FP.dconst0 = v) (k : Go p e below m F T pc' ls (.double v :: rest)) : Go p e below m F T pc ls rest := by
  subst hp hv
  exact k.of fun t k => XS.dconst0 A.1 A.2.1 rfl (hb A.2.2 hd) rfl k
theorem s_dconst1 {v : UInt64} (A : Wk p below m c b T) (hd : decode b pc = .ok (.dconst 1, 1)) (hp : pc + 1 = pc') (hv : FP.dconst1 = v) (k : Go p e below m F T pc' ls (.double v :: rest)) : Go p e below m F T pc ls rest := by
  subst hp hv
  exact k.of fun t k => XS.dconst1 A.1 A.2.1 rfl (hb A.2.2 hd) rfl k
theorem s_aconstNull  (A : Wk p below m c b T) (hd : decode b pc = .ok (.aconst_null, 1)) (hp : pc + 1 = pc')  (k : Go p e below m F T pc' ls (.null :: rest)) : Go p e below m F T pc ls rest := by
  subst hp
  exact k.of fun t k => XS.aconstNull A.1 A.2.1 rfl (hb A.2.2 hd) k
theorem s_iloadN {i : Fin 4} {v : Int32} (A : Wk p below m c b T) (hd : decode b pc = .ok (.iload_n i, 1)) (hp : pc + 1 = pc') (hl : ls[i.val]? = some (.val (.int v))) (k : Go p e below m F T pc' ls (.int v :: rest)) : Go p e below m F T pc ls rest := by
  subst hp
  exact k.of fun t k => XS.iloadN A.1 A.2.1 rfl (hb A.2.2 hd) hl k
theorem s_iload {i : Nat} {v : Int32} (A : Wk p below m c b T) (hd : decode b pc = .ok (.iload i, 2)) (hp : pc + 2 = pc') (hl : ls[i]? = some (.val (.int v))) (k : Go p e below m F T pc' ls (.int v :: rest)) : Go p e below m F T pc ls rest := by
  subst hp
  exact k.of fun t k => XS.iload A.1 A.2.1 rfl (hb A.2.2 hd) hl k
theorem s_lloadN {i : Fin 4} {v : Int64} (A : Wk p below m c b T) (hd : decode b pc = .ok (.lload_n i, 1)) (hp : pc + 1 = pc') (hl : ls[i.val]? = some (.val (.long v))) (k : Go p e below m F T pc' ls (.long v :: rest)) : Go p e below m F T pc ls rest := by
  subst hp
  exact k.of fun t k => XT.lloadN A.1 A.2.1 rfl (hb A.2.2 hd) hl k
theorem s_lload {i : Nat} {v : Int64} (A : Wk p below m c b T) (hd : decode b pc = .ok (.lload i, 2)) (hp : pc + 2 = pc') (hl : ls[i]? = some (.val (.long v))) (k : Go p e below m F T pc' ls (.long v :: rest)) : Go p e below m F T pc ls rest := by
  subst hp
  exact k.of fun t k => XT.lload A.1 A.2.1 rfl (hb A.2.2 hd) hl k
theorem s_dloadN {i : Fin 4} {v : UInt64} (A : Wk p below m c b T) (hd : decode b pc = .ok (.dload_n i, 1)) (hp : pc + 1 = pc') (hl : ls[i.val]? = some (.val (.double v))) (k : Go p e below m F T pc' ls (.double v :: rest)) : Go p e below m F T pc ls rest := by
  subst hp
  exact k.of fun t k => XS.dloadN A.1 A.2.1 rfl (hb A.2.2 hd) hl k
theorem s_dload {i : Nat} {v : UInt64} (A : Wk p below m c b T) (hd : decode b pc = .ok (.dload i, 2)) (hp : pc + 2 = pc') (hl : ls[i]? = some (.val (.double v))) (k : Go p e below m F T pc' ls (.double v :: rest)) : Go p e below m F T pc ls rest := by
  subst hp
  exact k.of fun t k => XS.dload A.1 A.2.1 rfl (hb A.2.2 hd) hl k
theorem s_aloadN {i : Fin 4} {v : Value} (A : Wk p below m c b T) (hd : decode b pc = .ok (.aload_n i, 1)) (hp : pc + 1 = pc') (hl : ls[i.val]? = some (.val v)) (hv : v.isRef = true) (k : Go p e below m F T pc' ls (v :: rest)) : Go p e below m F T pc ls rest := by
  subst hp
  exact k.of fun t k => XS.aloadN A.1 A.2.1 rfl (hb A.2.2 hd) hl hv k
theorem s_aload {i : Nat} {v : Value} (A : Wk p below m c b T) (hd : decode b pc = .ok (.aload i, 2)) (hp : pc + 2 = pc') (hl : ls[i]? = some (.val v)) (hv : v.isRef = true) (k : Go p e below m F T pc' ls (v :: rest)) : Go p e below m F T pc ls rest := by
  subst hp
  exact k.of fun t k => XS.aload A.1 A.2.1 rfl (hb A.2.2 hd) hl hv k
theorem s_istoreN {i : Fin 4} {v : Int32} {ls' : Array Slot} (A : Wk p below m c b T) (hd : decode b pc = .ok (.istore_n i, 1)) (hp : pc + 1 = pc') (hl : storeLocals ls i.val (.int v) = some ls') (k : Go p e below m F T pc' ls' rest) : Go p e below m F T pc ls (.int v :: rest) := by
  subst hp
  exact k.of fun t k => XS.istoreN A.1 A.2.1 rfl (hb A.2.2 hd) rfl hl k
theorem s_istore {i : Nat} {v : Int32} {ls' : Array Slot} (A : Wk p below m c b T) (hd : decode b pc = .ok (.istore i, 2)) (hp : pc + 2 = pc') (hl : storeLocals ls i (.int v) = some ls') (k : Go p e below m F T pc' ls' rest) : Go p e below m F T pc ls (.int v :: rest) := by
  subst hp
  exact k.of fun t k => XS.istore A.1 A.2.1 rfl (hb A.2.2 hd) rfl hl k
theorem s_lstoreN {i : Fin 4} {v : Int64} {ls' : Array Slot} (A : Wk p below m c b T) (hd : decode b pc = .ok (.lstore_n i, 1)) (hp : pc + 1 = pc') (hl : storeLocals ls i.val (.long v) = some ls') (k : Go p e below m F T pc' ls' rest) : Go p e below m F T pc ls (.long v :: rest) := by
  subst hp
  exact k.of fun t k => XT.lstoreN A.1 A.2.1 rfl (hb A.2.2 hd) rfl hl k
theorem s_lstore {i : Nat} {v : Int64} {ls' : Array Slot} (A : Wk p below m c b T) (hd : decode b pc = .ok (.lstore i, 2)) (hp : pc + 2 = pc') (hl : storeLocals ls i (.long v) = some ls') (k : Go p e below m F T pc' ls' rest) : Go p e below m F T pc ls (.long v :: rest) := by
  subst hp
  exact k.of fun t k => XT.lstore A.1 A.2.1 rfl (hb A.2.2 hd) rfl hl k
theorem s_dstoreN {i : Fin 4} {v : UInt64} {ls' : Array Slot} (A : Wk p below m c b T) (hd : decode b pc = .ok (.dstore_n i, 1)) (hp : pc + 1 = pc') (hl : storeLocals ls i.val (.double v) = some ls') (k : Go p e below m F T pc' ls' rest) : Go p e below m F T pc ls (.double v :: rest) := by
  subst hp
  exact k.of fun t k => XS.dstoreN A.1 A.2.1 rfl (hb A.2.2 hd) rfl hl k
theorem s_dstore {i : Nat} {v : UInt64} {ls' : Array Slot} (A : Wk p below m c b T) (hd : decode b pc = .ok (.dstore i, 2)) (hp : pc + 2 = pc') (hl : storeLocals ls i (.double v) = some ls') (k : Go p e below m F T pc' ls' rest) : Go p e below m F T pc ls (.double v :: rest) := by
  subst hp
  exact k.of fun t k => XS.dstore A.1 A.2.1 rfl (hb A.2.2 hd) rfl hl k
theorem s_astoreN {i : Fin 4} {v : Value} {ls' : Array Slot} (A : Wk p below m c b T) (hd : decode b pc = .ok (.astore_n i, 1)) (hp : pc + 1 = pc') (hv : v.isRef = true) (hl : storeLocals ls i.val v = some ls') (k : Go p e below m F T pc' ls' rest) : Go p e below m F T pc ls (v :: rest) := by
  subst hp
  exact k.of fun t k => XS.astoreN A.1 A.2.1 rfl (hb A.2.2 hd) rfl hv hl k
theorem s_astore {i : Nat} {v : Value} {ls' : Array Slot} (A : Wk p below m c b T) (hd : decode b pc = .ok (.astore i, 2)) (hp : pc + 2 = pc') (hv : v.isRef = true) (hl : storeLocals ls i v = some ls') (k : Go p e below m F T pc' ls' rest) : Go p e below m F T pc ls (v :: rest) := by
  subst hp
  exact k.of fun t k => XS.astore A.1 A.2.1 rfl (hb A.2.2 hd) rfl hv hl k
theorem s_iinc {i : Nat} {cst : Int} {x v : Int32} {ls' : Array Slot} (A : Wk p below m c b T) (hd : decode b pc = .ok (.iinc i cst, 3)) (hp : pc + 3 = pc') (hl : ls[i]? = some (.val (.int x))) (hv : x + Int32.ofInt cst = v) (hl' : storeLocals ls i (.int v) = some ls') (k : Go p e below m F T pc' ls' rest) : Go p e below m F T pc ls rest := by
  subst hp hv
  exact k.of fun t k => XS.iinc A.1 A.2.1 rfl (hb A.2.2 hd) hl hl' k
theorem s_iadd {x y v : Int32} (A : Wk p below m c b T) (hd : decode b pc = .ok (.iadd, 1)) (hp : pc + 1 = pc') (hv : x + y = v) (k : Go p e below m F T pc' ls (.int v :: rest)) : Go p e below m F T pc ls (.int y :: .int x :: rest) := by
  subst hp hv
  exact k.of fun t k => XS.iadd A.1 A.2.1 rfl (hb A.2.2 hd) rfl k
theorem s_isub {x y v : Int32} (A : Wk p below m c b T) (hd : decode b pc = .ok (.isub, 1)) (hp : pc + 1 = pc') (hv : x - y = v) (k : Go p e below m F T pc' ls (.int v :: rest)) : Go p e below m F T pc ls (.int y :: .int x :: rest) := by
  subst hp hv
  exact k.of fun t k => XS.isub A.1 A.2.1 rfl (hb A.2.2 hd) rfl k
theorem s_imul {x y v : Int32} (A : Wk p below m c b T) (hd : decode b pc = .ok (.imul, 1)) (hp : pc + 1 = pc') (hv : x * y = v) (k : Go p e below m F T pc' ls (.int v :: rest)) : Go p e below m F T pc ls (.int y :: .int x :: rest) := by
  subst hp hv
  exact k.of fun t k => XS.imul A.1 A.2.1 rfl (hb A.2.2 hd) rfl k
theorem s_iand {x y v : Int32} (A : Wk p below m c b T) (hd : decode b pc = .ok (.iand, 1)) (hp : pc + 1 = pc') (hv : x &&& y = v) (k : Go p e below m F T pc' ls (.int v :: rest)) : Go p e below m F T pc ls (.int y :: .int x :: rest) := by
  subst hp hv
  exact k.of fun t k => XS.iand A.1 A.2.1 rfl (hb A.2.2 hd) rfl k
theorem s_ior {x y v : Int32} (A : Wk p below m c b T) (hd : decode b pc = .ok (.ior, 1)) (hp : pc + 1 = pc') (hv : x ||| y = v) (k : Go p e below m F T pc' ls (.int v :: rest)) : Go p e below m F T pc ls (.int y :: .int x :: rest) := by
  subst hp hv
  exact k.of fun t k => XT.ior A.1 A.2.1 rfl (hb A.2.2 hd) rfl k
theorem s_ixor {x y v : Int32} (A : Wk p below m c b T) (hd : decode b pc = .ok (.ixor, 1)) (hp : pc + 1 = pc') (hv : x ^^^ y = v) (k : Go p e below m F T pc' ls (.int v :: rest)) : Go p e below m F T pc ls (.int y :: .int x :: rest) := by
  subst hp hv
  exact k.of fun t k => XT.ixor A.1 A.2.1 rfl (hb A.2.2 hd) rfl k
theorem s_idiv {x y v : Int32} (A : Wk p below m c b T) (hd : decode b pc = .ok (.idiv, 1)) (hp : pc + 1 = pc') (hy : y ≠ 0) (hv : x / y = v) (k : Go p e below m F T pc' ls (.int v :: rest)) : Go p e below m F T pc ls (.int y :: .int x :: rest) := by
  subst hp hv
  exact k.of fun t k => XS.idiv A.1 A.2.1 rfl (hb A.2.2 hd) rfl hy k
theorem s_irem {x y v : Int32} (A : Wk p below m c b T) (hd : decode b pc = .ok (.irem, 1)) (hp : pc + 1 = pc') (hy : y ≠ 0) (hv : x - (x / y) * y = v) (k : Go p e below m F T pc' ls (.int v :: rest)) : Go p e below m F T pc ls (.int y :: .int x :: rest) := by
  subst hp hv
  exact k.of fun t k => XS.irem A.1 A.2.1 rfl (hb A.2.2 hd) rfl hy k
theorem s_ladd {x y v : Int64} (A : Wk p below m c b T) (hd : decode b pc = .ok (.ladd, 1)) (hp : pc + 1 = pc') (hv : x + y = v) (k : Go p e below m F T pc' ls (.long v :: rest)) : Go p e below m F T pc ls (.long y :: .long x :: rest) := by
  subst hp hv
  exact k.of fun t k => XT.ladd A.1 A.2.1 rfl (hb A.2.2 hd) rfl k
theorem s_lsub {x y v : Int64} (A : Wk p below m c b T) (hd : decode b pc = .ok (.lsub, 1)) (hp : pc + 1 = pc') (hv : x - y = v) (k : Go p e below m F T pc' ls (.long v :: rest)) : Go p e below m F T pc ls (.long y :: .long x :: rest) := by
  subst hp hv
  exact k.of fun t k => XT.lsub A.1 A.2.1 rfl (hb A.2.2 hd) rfl k
theorem s_lmul {x y v : Int64} (A : Wk p below m c b T) (hd : decode b pc = .ok (.lmul, 1)) (hp : pc + 1 = pc') (hv : x * y = v) (k : Go p e below m F T pc' ls (.long v :: rest)) : Go p e below m F T pc ls (.long y :: .long x :: rest) := by
  subst hp hv
  exact k.of fun t k => XT.lmul A.1 A.2.1 rfl (hb A.2.2 hd) rfl k
theorem s_land {x y v : Int64} (A : Wk p below m c b T) (hd : decode b pc = .ok (.land, 1)) (hp : pc + 1 = pc') (hv : x &&& y = v) (k : Go p e below m F T pc' ls (.long v :: rest)) : Go p e below m F T pc ls (.long y :: .long x :: rest) := by
  subst hp hv
  exact k.of fun t k => XT.land A.1 A.2.1 rfl (hb A.2.2 hd) rfl k
theorem s_lor {x y v : Int64} (A : Wk p below m c b T) (hd : decode b pc = .ok (.lor, 1)) (hp : pc + 1 = pc') (hv : x ||| y = v) (k : Go p e below m F T pc' ls (.long v :: rest)) : Go p e below m F T pc ls (.long y :: .long x :: rest) := by
  subst hp hv
  exact k.of fun t k => XT.lor A.1 A.2.1 rfl (hb A.2.2 hd) rfl k
theorem s_lxor {x y v : Int64} (A : Wk p below m c b T) (hd : decode b pc = .ok (.lxor, 1)) (hp : pc + 1 = pc') (hv : x ^^^ y = v) (k : Go p e below m F T pc' ls (.long v :: rest)) : Go p e below m F T pc ls (.long y :: .long x :: rest) := by
  subst hp hv
  exact k.of fun t k => XT.lxor A.1 A.2.1 rfl (hb A.2.2 hd) rfl k
theorem s_ldiv {x y v : Int64} (A : Wk p below m c b T) (hd : decode b pc = .ok (.ldiv, 1)) (hp : pc + 1 = pc') (hy : y ≠ 0) (hv : x / y = v) (k : Go p e below m F T pc' ls (.long v :: rest)) : Go p e below m F T pc ls (.long y :: .long x :: rest) := by
  subst hp hv
  exact k.of fun t k => XT.ldiv A.1 A.2.1 rfl (hb A.2.2 hd) rfl hy k
theorem s_lrem {x y v : Int64} (A : Wk p below m c b T) (hd : decode b pc = .ok (.lrem, 1)) (hp : pc + 1 = pc') (hy : y ≠ 0) (hv : x - (x / y) * y = v) (k : Go p e below m F T pc' ls (.long v :: rest)) : Go p e below m F T pc ls (.long y :: .long x :: rest) := by
  subst hp hv
  exact k.of fun t k => XT.lrem A.1 A.2.1 rfl (hb A.2.2 hd) rfl hy k
theorem s_ishl {x v : Int32} {y : Int32} (A : Wk p below m c b T) (hd : decode b pc = .ok (.ishl, 1)) (hp : pc + 1 = pc') (hv : x <<< (y &&& 31) = v) (k : Go p e below m F T pc' ls (.int v :: rest)) : Go p e below m F T pc ls (.int y :: .int x :: rest) := by
  subst hp hv
  exact k.of fun t k => XT.ishl A.1 A.2.1 rfl (hb A.2.2 hd) rfl k
theorem s_ishr {x v : Int32} {y : Int32} (A : Wk p below m c b T) (hd : decode b pc = .ok (.ishr, 1)) (hp : pc + 1 = pc') (hv : x >>> (y &&& 31) = v) (k : Go p e below m F T pc' ls (.int v :: rest)) : Go p e below m F T pc ls (.int y :: .int x :: rest) := by
  subst hp hv
  exact k.of fun t k => XT.ishr A.1 A.2.1 rfl (hb A.2.2 hd) rfl k
theorem s_iushr {x v : Int32} {y : Int32} (A : Wk p below m c b T) (hd : decode b pc = .ok (.iushr, 1)) (hp : pc + 1 = pc') (hv : XT.ushr x y = v) (k : Go p e below m F T pc' ls (.int v :: rest)) : Go p e below m F T pc ls (.int y :: .int x :: rest) := by
  subst hp hv
  exact k.of fun t k => XT.iushr A.1 A.2.1 rfl (hb A.2.2 hd) rfl k
theorem s_lshl {x v : Int64} {y : Int32} (A : Wk p below m c b T) (hd : decode b pc = .ok (.lshl, 1)) (hp : pc + 1 = pc') (hv : x <<< (y.toInt64 &&& 63) = v) (k : Go p e below m F T pc' ls (.long v :: rest)) : Go p e below m F T pc ls (.int y :: .long x :: rest) := by
  subst hp hv
  exact k.of fun t k => XT.lshl A.1 A.2.1 rfl (hb A.2.2 hd) rfl k
theorem s_lshr {x v : Int64} {y : Int32} (A : Wk p below m c b T) (hd : decode b pc = .ok (.lshr, 1)) (hp : pc + 1 = pc') (hv : x >>> (y.toInt64 &&& 63) = v) (k : Go p e below m F T pc' ls (.long v :: rest)) : Go p e below m F T pc ls (.int y :: .long x :: rest) := by
  subst hp hv
  exact k.of fun t k => XT.lshr A.1 A.2.1 rfl (hb A.2.2 hd) rfl k
theorem s_lushr {x v : Int64} {y : Int32} (A : Wk p below m c b T) (hd : decode b pc = .ok (.lushr, 1)) (hp : pc + 1 = pc') (hv : XT.ushrL x y = v) (k : Go p e below m F T pc' ls (.long v :: rest)) : Go p e below m F T pc ls (.int y :: .long x :: rest) := by
  subst hp hv
  exact k.of fun t k => XT.lushr A.1 A.2.1 rfl (hb A.2.2 hd) rfl k
theorem s_i2b {x v : Int32} (A : Wk p below m c b T) (hd : decode b pc = .ok (.i2b, 1)) (hp : pc + 1 = pc') (hv : x.toInt8.toInt32 = v) (k : Go p e below m F T pc' ls (.int v :: rest)) : Go p e below m F T pc ls (.int x :: rest) := by
  subst hp hv
  exact k.of fun t k => XT.i2b A.1 A.2.1 rfl (hb A.2.2 hd) rfl k
theorem s_i2c {x v : Int32} (A : Wk p below m c b T) (hd : decode b pc = .ok (.i2c, 1)) (hp : pc + 1 = pc') (hv : x.toUInt32.toUInt16.toUInt32.toInt32 = v) (k : Go p e below m F T pc' ls (.int v :: rest)) : Go p e below m F T pc ls (.int x :: rest) := by
  subst hp hv
  exact k.of fun t k => XT.i2c A.1 A.2.1 rfl (hb A.2.2 hd) rfl k
theorem s_i2s {x v : Int32} (A : Wk p below m c b T) (hd : decode b pc = .ok (.i2s, 1)) (hp : pc + 1 = pc') (hv : x.toInt16.toInt32 = v) (k : Go p e below m F T pc' ls (.int v :: rest)) : Go p e below m F T pc ls (.int x :: rest) := by
  subst hp hv
  exact k.of fun t k => XT.i2s A.1 A.2.1 rfl (hb A.2.2 hd) rfl k
theorem s_lneg {x v : Int64} (A : Wk p below m c b T) (hd : decode b pc = .ok (.lneg, 1)) (hp : pc + 1 = pc') (hv : -x = v) (k : Go p e below m F T pc' ls (.long v :: rest)) : Go p e below m F T pc ls (.long x :: rest) := by
  subst hp hv
  exact k.of fun t k => XT.lneg A.1 A.2.1 rfl (hb A.2.2 hd) rfl k
theorem s_dupX1 {x y : Value} (A : Wk p below m c b T) (hd : decode b pc = .ok (.dup_x1, 1)) (hp : pc + 1 = pc') (hc : x.category = 1) (hc' : y.category = 1) (k : Go p e below m F T pc' ls (x :: y :: x :: rest)) : Go p e below m F T pc ls (x :: y :: rest) := by
  subst hp
  exact k.of fun t k => XT.dupX1 A.1 A.2.1 rfl (hb A.2.2 hd) rfl hc hc' k
theorem s_dup2 {x y : Value} (A : Wk p below m c b T) (hd : decode b pc = .ok (.dup2, 1)) (hp : pc + 1 = pc') (hc : x.category = 1) (hc' : y.category = 1) (k : Go p e below m F T pc' ls (x :: y :: x :: y :: rest)) : Go p e below m F T pc ls (x :: y :: rest) := by
  subst hp
  exact k.of fun t k => XT.dup2 A.1 A.2.1 rfl (hb A.2.2 hd) rfl hc hc' k
theorem s_i2l {x : Int32} {v : Int64} (A : Wk p below m c b T) (hd : decode b pc = .ok (.i2l, 1)) (hp : pc + 1 = pc') (hv : x.toInt64 = v) (k : Go p e below m F T pc' ls (.long v :: rest)) : Go p e below m F T pc ls (.int x :: rest) := by
  subst hp hv
  exact k.of fun t k => XT.i2l A.1 A.2.1 rfl (hb A.2.2 hd) rfl k
theorem s_l2i {x : Int64} {v : Int32} (A : Wk p below m c b T) (hd : decode b pc = .ok (.l2i, 1)) (hp : pc + 1 = pc') (hv : x.toInt32 = v) (k : Go p e below m F T pc' ls (.int v :: rest)) : Go p e below m F T pc ls (.long x :: rest) := by
  subst hp hv
  exact k.of fun t k => XT.l2i A.1 A.2.1 rfl (hb A.2.2 hd) rfl k
theorem s_ineg {x v : Int32} (A : Wk p below m c b T) (hd : decode b pc = .ok (.ineg, 1)) (hp : pc + 1 = pc') (hv : -x = v) (k : Go p e below m F T pc' ls (.int v :: rest)) : Go p e below m F T pc ls (.int x :: rest) := by
  subst hp hv
  exact k.of fun t k => XS.ineg A.1 A.2.1 rfl (hb A.2.2 hd) rfl k
theorem s_i2d {x : Int32} {v : UInt64} (A : Wk p below m c b T) (hd : decode b pc = .ok (.i2d, 1)) (hp : pc + 1 = pc') (hv : FP.i2d x = v) (k : Go p e below m F T pc' ls (.double v :: rest)) : Go p e below m F T pc ls (.int x :: rest) := by
  subst hp hv
  exact k.of fun t k => XS.i2dS A.1 A.2.1 rfl (hb A.2.2 hd) rfl rfl k
theorem s_l2d {x : Int64} {v : UInt64} (A : Wk p below m c b T) (hd : decode b pc = .ok (.l2d, 1)) (hp : pc + 1 = pc') (hv : FP.l2d x = v) (k : Go p e below m F T pc' ls (.double v :: rest)) : Go p e below m F T pc ls (.long x :: rest) := by
  subst hp hv
  exact k.of fun t k => XS.l2dS A.1 A.2.1 rfl (hb A.2.2 hd) rfl rfl k
theorem s_dneg {x v : UInt64} (A : Wk p below m c b T) (hd : decode b pc = .ok (.dneg, 1)) (hp : pc + 1 = pc') (hv : FP.dneg x = v) (k : Go p e below m F T pc' ls (.double v :: rest)) : Go p e below m F T pc ls (.double x :: rest) := by
  subst hp hv
  exact k.of fun t k => XS.dnegS A.1 A.2.1 rfl (hb A.2.2 hd) rfl rfl k
theorem s_dadd {x y v : UInt64} (A : Wk p below m c b T) (hd : decode b pc = .ok (.dadd, 1)) (hp : pc + 1 = pc') (hv : FP.dadd x y = v) (hn : Jvm.Free.Fl.NoNaN64 v) (k : Go p e below m F T pc' ls (.double v :: rest)) : Go p e below m F T pc ls (.double y :: .double x :: rest) := by
  subst hp hv
  exact k.of fun t k => XS.daddS A.1 A.2.1 rfl (hb A.2.2 hd) rfl hn rfl k
theorem s_dsub {x y v : UInt64} (A : Wk p below m c b T) (hd : decode b pc = .ok (.dsub, 1)) (hp : pc + 1 = pc') (hv : FP.dsub x y = v) (hn : Jvm.Free.Fl.NoNaN64 v) (k : Go p e below m F T pc' ls (.double v :: rest)) : Go p e below m F T pc ls (.double y :: .double x :: rest) := by
  subst hp hv
  exact k.of fun t k => XS.dsubS A.1 A.2.1 rfl (hb A.2.2 hd) rfl hn rfl k
theorem s_dmul {x y v : UInt64} (A : Wk p below m c b T) (hd : decode b pc = .ok (.dmul, 1)) (hp : pc + 1 = pc') (hv : FP.dmul x y = v) (hn : Jvm.Free.Fl.NoNaN64 v) (k : Go p e below m F T pc' ls (.double v :: rest)) : Go p e below m F T pc ls (.double y :: .double x :: rest) := by
  subst hp hv
  exact k.of fun t k => XS.dmulS A.1 A.2.1 rfl (hb A.2.2 hd) rfl hn rfl k
theorem s_ddiv {x y v : UInt64} (A : Wk p below m c b T) (hd : decode b pc = .ok (.ddiv, 1)) (hp : pc + 1 = pc') (hv : FP.ddiv x y = v) (hn : Jvm.Free.Fl.NoNaN64 v) (k : Go p e below m F T pc' ls (.double v :: rest)) : Go p e below m F T pc ls (.double y :: .double x :: rest) := by
  subst hp hv
  exact k.of fun t k => XS.ddivS A.1 A.2.1 rfl (hb A.2.2 hd) rfl hn rfl k
theorem s_dcmp {o : CmpOp} {x y : UInt64} {v : Int32} (A : Wk p below m c b T) (hd : decode b pc = .ok (.dcmp o, 1)) (hp : pc + 1 = pc') (hv : cmpValue (FP.dcmp x y) o = v) (k : Go p e below m F T pc' ls (.int v :: rest)) : Go p e below m F T pc ls (.double y :: .double x :: rest) := by
  subst hp hv
  exact k.of fun t k => XS.dcmpS A.1 A.2.1 rfl (hb A.2.2 hd) rfl rfl k
theorem s_lcmp {x y : Int64} {v : Int32} (A : Wk p below m c b T) (hd : decode b pc = .ok (.lcmp, 1)) (hp : pc + 1 = pc') (hv : XT.cmpL x y = v) (k : Go p e below m F T pc' ls (.int v :: rest)) : Go p e below m F T pc ls (.long y :: .long x :: rest) := by
  subst hp hv
  exact k.of fun t k => XT.lcmp A.1 A.2.1 rfl (hb A.2.2 hd) rfl k
theorem s_dup {x : Value} (A : Wk p below m c b T) (hd : decode b pc = .ok (.dup, 1)) (hp : pc + 1 = pc') (hc : x.category = 1) (k : Go p e below m F T pc' ls (x :: x :: rest)) : Go p e below m F T pc ls (x :: rest) := by
  subst hp
  exact k.of fun t k => XS.dup A.1 A.2.1 rfl (hb A.2.2 hd) rfl hc k
theorem s_pop {x : Value} (A : Wk p below m c b T) (hd : decode b pc = .ok (.pop, 1)) (hp : pc + 1 = pc') (hc : x.category = 1) (k : Go p e below m F T pc' ls rest) : Go p e below m F T pc ls (x :: rest) := by
  subst hp
  exact k.of fun t k => XT.pop A.1 A.2.1 rfl (hb A.2.2 hd) rfl hc k
theorem s_goto {o : Int} (A : Wk p below m c b T) (hd : decode b pc = .ok (.goto o, 3)) (ho : 0 ≤ (pc : Int) + o) (hp : ((pc : Int) + o).toNat = pc') {st : List Value} (k : Go p e below m F T pc' ls st) : Go p e below m F T pc ls st := by
  exact k.of fun t k => XS.goto A.1 A.2.1 rfl rfl (hb A.2.2 hd) ho hp k
theorem n32_lt {x y : Int32} (h : ¬ x < y) : x ≥ y := Int32.not_lt.mp h
theorem n32_le {x y : Int32} (h : ¬ x ≤ y) : x > y := Int32.not_le.mp h
theorem s_ifeq {o : Int} {pY pN : Nat} {x : Int32} (A : Wk p below m c b T) (hd : decode b pc = .ok (.ifCond .eq o, 3)) (ho : 0 ≤ (pc : Int) + o) (hY : ((pc : Int) + o).toNat = pY) (hN : pc + 3 = pN) (kY : x = 0 → Go p e below m F T pY ls rest) (kN : x ≠ 0 → Go p e below m F T pN ls rest) : Go p e below m F T pc ls (.int x :: rest) := by
  subst hN
  cases q : ifCond.holds .eq x with
  | true => exact (kY (beq_iff_eq.mp q)).of fun t k => XS.ifYes A.1 A.2.1 rfl rfl (hb A.2.2 hd) rfl q ho hY k
  | false => exact (kN (beq_eq_false_iff_ne.mp q)).of fun t k => XS.ifNo A.1 A.2.1 rfl (hb A.2.2 hd) rfl q k
theorem s_ifne {o : Int} {pY pN : Nat} {x : Int32} (A : Wk p below m c b T) (hd : decode b pc = .ok (.ifCond .ne o, 3)) (ho : 0 ≤ (pc : Int) + o) (hY : ((pc : Int) + o).toNat = pY) (hN : pc + 3 = pN) (kY : x ≠ 0 → Go p e below m F T pY ls rest) (kN : x = 0 → Go p e below m F T pN ls rest) : Go p e below m F T pc ls (.int x :: rest) := by
  subst hN
  cases q : ifCond.holds .ne x with
  | true => exact (kY (bne_iff_ne.mp q)).of fun t k => XS.ifYes A.1 A.2.1 rfl rfl (hb A.2.2 hd) rfl q ho hY k
  | false => exact (kN (bne_eq_false_iff_eq.mp q)).of fun t k => XS.ifNo A.1 A.2.1 rfl (hb A.2.2 hd) rfl q k
theorem s_iflt {o : Int} {pY pN : Nat} {x : Int32} (A : Wk p below m c b T) (hd : decode b pc = .ok (.ifCond .lt o, 3)) (ho : 0 ≤ (pc : Int) + o) (hY : ((pc : Int) + o).toNat = pY) (hN : pc + 3 = pN) (kY : x < 0 → Go p e below m F T pY ls rest) (kN : x ≥ 0 → Go p e below m F T pN ls rest) : Go p e below m F T pc ls (.int x :: rest) := by
  subst hN
  cases q : ifCond.holds .lt x with
  | true => exact (kY (of_decide_eq_true q)).of fun t k => XS.ifYes A.1 A.2.1 rfl rfl (hb A.2.2 hd) rfl q ho hY k
  | false => exact (kN (n32_lt (of_decide_eq_false q))).of fun t k => XS.ifNo A.1 A.2.1 rfl (hb A.2.2 hd) rfl q k
theorem s_ifge {o : Int} {pY pN : Nat} {x : Int32} (A : Wk p below m c b T) (hd : decode b pc = .ok (.ifCond .ge o, 3)) (ho : 0 ≤ (pc : Int) + o) (hY : ((pc : Int) + o).toNat = pY) (hN : pc + 3 = pN) (kY : x ≥ 0 → Go p e below m F T pY ls rest) (kN : x < 0 → Go p e below m F T pN ls rest) : Go p e below m F T pc ls (.int x :: rest) := by
  subst hN
  cases q : ifCond.holds .ge x with
  | true => exact (kY (of_decide_eq_true q)).of fun t k => XS.ifYes A.1 A.2.1 rfl rfl (hb A.2.2 hd) rfl q ho hY k
  | false => exact (kN (n32_le (of_decide_eq_false q))).of fun t k => XS.ifNo A.1 A.2.1 rfl (hb A.2.2 hd) rfl q k
theorem s_ifgt {o : Int} {pY pN : Nat} {x : Int32} (A : Wk p below m c b T) (hd : decode b pc = .ok (.ifCond .gt o, 3)) (ho : 0 ≤ (pc : Int) + o) (hY : ((pc : Int) + o).toNat = pY) (hN : pc + 3 = pN) (kY : x > 0 → Go p e below m F T pY ls rest) (kN : x ≤ 0 → Go p e below m F T pN ls rest) : Go p e below m F T pc ls (.int x :: rest) := by
  subst hN
  cases q : ifCond.holds .gt x with
  | true => exact (kY (of_decide_eq_true q)).of fun t k => XS.ifYes A.1 A.2.1 rfl rfl (hb A.2.2 hd) rfl q ho hY k
  | false => exact (kN (n32_lt (of_decide_eq_false q))).of fun t k => XS.ifNo A.1 A.2.1 rfl (hb A.2.2 hd) rfl q k
theorem s_ifle {o : Int} {pY pN : Nat} {x : Int32} (A : Wk p below m c b T) (hd : decode b pc = .ok (.ifCond .le o, 3)) (ho : 0 ≤ (pc : Int) + o) (hY : ((pc : Int) + o).toNat = pY) (hN : pc + 3 = pN) (kY : x ≤ 0 → Go p e below m F T pY ls rest) (kN : x > 0 → Go p e below m F T pN ls rest) : Go p e below m F T pc ls (.int x :: rest) := by
  subst hN
  cases q : ifCond.holds .le x with
  | true => exact (kY (of_decide_eq_true q)).of fun t k => XS.ifYes A.1 A.2.1 rfl rfl (hb A.2.2 hd) rfl q ho hY k
  | false => exact (kN (n32_le (of_decide_eq_false q))).of fun t k => XS.ifNo A.1 A.2.1 rfl (hb A.2.2 hd) rfl q k
theorem s_icmpeq {o : Int} {pY pN : Nat} {x y : Int32} (A : Wk p below m c b T) (hd : decode b pc = .ok (.if_icmp .eq o, 3)) (ho : 0 ≤ (pc : Int) + o) (hY : ((pc : Int) + o).toNat = pY) (hN : pc + 3 = pN) (kY : x = y → Go p e below m F T pY ls rest) (kN : x ≠ y → Go p e below m F T pN ls rest) : Go p e below m F T pc ls (.int y :: .int x :: rest) := by
  subst hN
  cases q : if_icmp.holds .eq x y with
  | true => exact (kY (beq_iff_eq.mp q)).of fun t k => XS.icmpYes A.1 A.2.1 rfl rfl (hb A.2.2 hd) rfl q ho hY k
  | false => exact (kN (beq_eq_false_iff_ne.mp q)).of fun t k => XS.icmpNo A.1 A.2.1 rfl (hb A.2.2 hd) rfl q k
theorem s_icmpne {o : Int} {pY pN : Nat} {x y : Int32} (A : Wk p below m c b T) (hd : decode b pc = .ok (.if_icmp .ne o, 3)) (ho : 0 ≤ (pc : Int) + o) (hY : ((pc : Int) + o).toNat = pY) (hN : pc + 3 = pN) (kY : x ≠ y → Go p e below m F T pY ls rest) (kN : x = y → Go p e below m F T pN ls rest) : Go p e below m F T pc ls (.int y :: .int x :: rest) := by
  subst hN
  cases q : if_icmp.holds .ne x y with
  | true => exact (kY (bne_iff_ne.mp q)).of fun t k => XS.icmpYes A.1 A.2.1 rfl rfl (hb A.2.2 hd) rfl q ho hY k
  | false => exact (kN (bne_eq_false_iff_eq.mp q)).of fun t k => XS.icmpNo A.1 A.2.1 rfl (hb A.2.2 hd) rfl q k
theorem s_icmplt {o : Int} {pY pN : Nat} {x y : Int32} (A : Wk p below m c b T) (hd : decode b pc = .ok (.if_icmp .lt o, 3)) (ho : 0 ≤ (pc : Int) + o) (hY : ((pc : Int) + o).toNat = pY) (hN : pc + 3 = pN) (kY : x < y → Go p e below m F T pY ls rest) (kN : x ≥ y → Go p e below m F T pN ls rest) : Go p e below m F T pc ls (.int y :: .int x :: rest) := by
  subst hN
  cases q : if_icmp.holds .lt x y with
  | true => exact (kY (of_decide_eq_true q)).of fun t k => XS.icmpYes A.1 A.2.1 rfl rfl (hb A.2.2 hd) rfl q ho hY k
  | false => exact (kN (n32_lt (of_decide_eq_false q))).of fun t k => XS.icmpNo A.1 A.2.1 rfl (hb A.2.2 hd) rfl q k
theorem s_icmpge {o : Int} {pY pN : Nat} {x y : Int32} (A : Wk p below m c b T) (hd : decode b pc = .ok (.if_icmp .ge o, 3)) (ho : 0 ≤ (pc : Int) + o) (hY : ((pc : Int) + o).toNat = pY) (hN : pc + 3 = pN) (kY : x ≥ y → Go p e below m F T pY ls rest) (kN : x < y → Go p e below m F T pN ls rest) : Go p e below m F T pc ls (.int y :: .int x :: rest) := by
  subst hN
  cases q : if_icmp.holds .ge x y with
  | true => exact (kY (of_decide_eq_true q)).of fun t k => XS.icmpYes A.1 A.2.1 rfl rfl (hb A.2.2 hd) rfl q ho hY k
  | false => exact (kN (n32_le (of_decide_eq_false q))).of fun t k => XS.icmpNo A.1 A.2.1 rfl (hb A.2.2 hd) rfl q k
theorem s_icmpgt {o : Int} {pY pN : Nat} {x y : Int32} (A : Wk p below m c b T) (hd : decode b pc = .ok (.if_icmp .gt o, 3)) (ho : 0 ≤ (pc : Int) + o) (hY : ((pc : Int) + o).toNat = pY) (hN : pc + 3 = pN) (kY : x > y → Go p e below m F T pY ls rest) (kN : x ≤ y → Go p e below m F T pN ls rest) : Go p e below m F T pc ls (.int y :: .int x :: rest) := by
  subst hN
  cases q : if_icmp.holds .gt x y with
  | true => exact (kY (of_decide_eq_true q)).of fun t k => XS.icmpYes A.1 A.2.1 rfl rfl (hb A.2.2 hd) rfl q ho hY k
  | false => exact (kN (n32_lt (of_decide_eq_false q))).of fun t k => XS.icmpNo A.1 A.2.1 rfl (hb A.2.2 hd) rfl q k
theorem s_icmple {o : Int} {pY pN : Nat} {x y : Int32} (A : Wk p below m c b T) (hd : decode b pc = .ok (.if_icmp .le o, 3)) (ho : 0 ≤ (pc : Int) + o) (hY : ((pc : Int) + o).toNat = pY) (hN : pc + 3 = pN) (kY : x ≤ y → Go p e below m F T pY ls rest) (kN : x > y → Go p e below m F T pN ls rest) : Go p e below m F T pc ls (.int y :: .int x :: rest) := by
  subst hN
  cases q : if_icmp.holds .le x y with
  | true => exact (kY (of_decide_eq_true q)).of fun t k => XS.icmpYes A.1 A.2.1 rfl rfl (hb A.2.2 hd) rfl q ho hY k
  | false => exact (kN (n32_le (of_decide_eq_false q))).of fun t k => XS.icmpNo A.1 A.2.1 rfl (hb A.2.2 hd) rfl q k
theorem s_nonnullY {o : Int} {a : Addr} (A : Wk p below m c b T) (hd : decode b pc = .ok (.ifnonnull o, 3)) (ho : 0 ≤ (pc : Int) + o) (hp : ((pc : Int) + o).toNat = pc') (k : Go p e below m F T pc' ls rest) : Go p e below m F T pc ls (.ref a :: rest) := by
  exact k.of fun t k => XT.ifnonnullYes A.1 A.2.1 rfl rfl (hb A.2.2 hd) rfl ho hp k
theorem s_acmpeq {o : Int} {pY pN : Nat} {x y : Value} (A : Wk p below m c b T) (hx' : x.isRef = true) (hy' : y.isRef = true) (hd : decode b pc = .ok (.if_acmp .eq o, 3)) (ho : 0 ≤ (pc : Int) + o) (hY : ((pc : Int) + o).toNat = pY) (hN : pc + 3 = pN) (kY : x = y → Go p e below m F T pY ls rest) (kN : x ≠ y → Go p e below m F T pN ls rest) : Go p e below m F T pc ls (y :: x :: rest) := by
  subst hN
  by_cases q : x = y
  · exact (kY q).of fun t k => XT.acmpYes A.1 A.2.1 rfl rfl (hb A.2.2 hd) rfl hx' hy' (decide_eq_true q) ho hY k
  · exact (kN q).of fun t k => XT.acmpNo A.1 A.2.1 rfl (hb A.2.2 hd) rfl hx' hy' (decide_eq_false q) k
theorem s_acmpne {o : Int} {pY pN : Nat} {x y : Value} (A : Wk p below m c b T) (hx' : x.isRef = true) (hy' : y.isRef = true) (hd : decode b pc = .ok (.if_acmp .ne o, 3)) (ho : 0 ≤ (pc : Int) + o) (hY : ((pc : Int) + o).toNat = pY) (hN : pc + 3 = pN) (kY : x ≠ y → Go p e below m F T pY ls rest) (kN : x = y → Go p e below m F T pN ls rest) : Go p e below m F T pc ls (y :: x :: rest) := by
  subst hN
  by_cases q : x = y
  · exact (kN q).of fun t k => XT.acmpNo A.1 A.2.1 rfl (hb A.2.2 hd) rfl hx' hy' (decide_eq_false (fun r => r q)) k
  · exact (kY q).of fun t k => XT.acmpYes A.1 A.2.1 rfl rfl (hb A.2.2 hd) rfl hx' hy' (decide_eq_true q) ho hY k
theorem s_tsw {dflt low high : Int} {offs : Array Int} {len : Nat} {o : Int} {i : Int32} (A : Wk p below m c b T) (hd : decode b pc = .ok (.tableswitch dflt low high offs, len)) (hin : ¬ (i.toInt < low ∨ i.toInt > high)) (hoff : offs[(i.toInt - low).toNat]? = some o) (ho : 0 ≤ (pc : Int) + o) (hp : ((pc : Int) + o).toNat = pc') (k : Go p e below m F T pc' ls rest) : Go p e below m F T pc ls (.int i :: rest) := by
  exact k.of fun t k => XS.tswIn A.1 A.2.1 rfl rfl (hb A.2.2 hd) rfl hin hoff ho hp k
end Plain
section Heap
variable {p : Program} {l : Launch} {e : Env} {R : Room} {s : State} {m : MethodId} {args : Array Value} {below : List Frame} {meth : Method} {c : Code} {T : State} {locs : List Loc} {cells slots : Nat} {Z : State} {a0 : Array Value} {h : Heap} {b : ByteArray} {F : Outcome → State → Prop} {pc pc' : Nat} {ls : Array Slot} {rest : List Value}
theorem g_ldcI (X : Stand p l e R s m args below meth c T locs cells slots) (hx : p.tables.exec = Jvm.exec) (hZ : Z.Warmed39 s.vm) {own : String} {i : Nat} {v : Int32} (hown : s.vm.findClass own = some m.cls) (w : (Cond.constant own i v).before a0 Z = true) (hd : decode c.code pc = .ok (.ldc i, 2)) (hp : pc + 2 = pc') (k : Go p e below m F T pc' ls (.int v :: rest)) : Go p e below m F T pc ls rest := by
  subst hp
  exact k.of fun t k => X.ldcInt hx hown (mvT hZ w) (g := mkF m pc ls rest) rfl hd t k
theorem g_ldcwI (X : Stand p l e R s m args below meth c T locs cells slots) (hx : p.tables.exec = Jvm.exec) (hZ : Z.Warmed39 s.vm) {own : String} {i : Nat} {v : Int32} (hown : s.vm.findClass own = some m.cls) (w : (Cond.constant own i v).before a0 Z = true) (hd : decode c.code pc = .ok (.ldc_w i, 3)) (hp : pc + 3 = pc') (k : Go p e below m F T pc' ls (.int v :: rest)) : Go p e below m F T pc ls rest := by
  subst hp
  exact k.of fun t k => X.ldcwInt hx hown (mvT hZ w) (g := mkF m pc ls rest) rfl hd t k
theorem g_ldcJ (X : Stand p l e R s m args below meth c T locs cells slots) (hx : p.tables.exec = Jvm.exec) (hZ : Z.Warmed39 s.vm) {own : String} {i : Nat} {v : Int64} (hown : s.vm.findClass own = some m.cls) (w : (Cond.constantLong own i v).before a0 Z = true) (hd : decode c.code pc = .ok (.ldc2_w i, 3)) (hp : pc + 3 = pc') (k : Go p e below m F T pc' ls (.long v :: rest)) : Go p e below m F T pc ls rest := by
  subst hp
  exact k.of fun t k => X.ldc2Long hx hown (mvT hZ w) (g := mkF m pc ls rest) rfl hd t k
theorem g_ldcD (X : Stand p l e R s m args below meth c T locs cells slots) (hx : p.tables.exec = Jvm.exec) (hZ : Z.Warmed39 s.vm) {own : String} {i : Nat} {v : UInt64} (hown : s.vm.findClass own = some m.cls) (w : (Cond.constantDouble own i v).before a0 Z = true) (hd : decode c.code pc = .ok (.ldc2_w i, 3)) (hp : pc + 3 = pc') (k : Go p e below m F T pc' ls (.double v :: rest)) : Go p e below m F T pc ls rest := by
  subst hp
  exact k.of fun t k => X.ldc2DoubleC hx hown (mvT hZ w) (g := mkF m pc ls rest) rfl hd t k
theorem g_getF (X : Stand p l e R s m args below meth c T locs cells slots) (hx : p.tables.exec = Jvm.exec) (hZ : Z.Warmed39 s.vm) {own R0 O n d : String} {i : Nat} (hown : s.vm.findClass own = some m.cls) (w : (Cond.fieldLink own i R0 n d).before a0 Z = true) (via : Via Z R0 O n d) (eT : T.heap = h) {a : Addr} {v : Value} (F0 : Fld Z h a O n d v) (hd : decode c.code pc = .ok (.getfield i, 3)) (hp : pc + 3 = pc') (k : ∀ T', Stand p l e R s m args below meth c T' locs cells slots → T'.heap = h → Go p e below m F T' pc' ls (v :: rest)) : Go p e below m F T pc ls (.ref a :: rest) := by
  subst hp
  obtain ⟨T', X', e', st⟩ := getF X hx hZ hown (host := "") (Or.inl w) via eT F0 (g := mkF m pc ls (.ref a :: rest)) rfl rfl hd
  exact (k T' X' e').of st
theorem g_getFN (X : Stand p l e R s m args below meth c T locs cells slots) (hx : p.tables.exec = Jvm.exec) (hZ : Z.Warmed39 s.vm) {own R0 O n d host : String} {i : Nat} (hown : s.vm.findClass own = some m.cls) (w : (Cond.fieldLinkNest own i R0 n d host).before a0 Z = true) (via : Via Z R0 O n d) (eT : T.heap = h) {a : Addr} {v : Value} (F0 : Fld Z h a O n d v) (hd : decode c.code pc = .ok (.getfield i, 3)) (hp : pc + 3 = pc') (k : ∀ T', Stand p l e R s m args below meth c T' locs cells slots → T'.heap = h → Go p e below m F T' pc' ls (v :: rest)) : Go p e below m F T pc ls (.ref a :: rest) := by
  subst hp
  obtain ⟨T', X', e', st⟩ := getF X hx hZ hown (host := host) (Or.inr w) via eT F0 (g := mkF m pc ls (.ref a :: rest)) rfl rfl hd
  exact (k T' X' e').of st
theorem g_putF (X : Stand p l e R s m args below meth c T locs cells slots) (hx : p.tables.exec = Jvm.exec) (hZ : Z.Warmed39 s.vm) {own R0 O n d C : String} {i kk : Nat} {ty : FieldType} (hown : s.vm.findClass own = some m.cls) (w : (Cond.fieldLink own i R0 n d).before a0 Z = true) (via : Via Z R0 O n d) (eT : T.heap = h) {a : Addr} {v old : Value} (F0 : Fld Z h a O n d old) (E : Exa Z h a C) (L : (Cond.lays C O n d).before a0 Z = true ∨ ((Cond.laysFinal C O n d).before a0 Z = true ∧ own = O ∧ meth.name = "<init>")) (wi : (Cond.instantiable C kk).before a0 Z = true) (hty : parseFieldDescriptor d = some ty) (hn : narrow ty v = v) (hf : fits ty v = true) (hd : decode c.code pc = .ok (.putfield i, 3)) (hp : pc + 3 = pc') (k : ∀ T' h', Stand p l e R s m args below meth c T' (locs ++ [⟨a, RoadKit.slotOf Z O n d⟩]) cells slots → T'.heap = h' → Wr h h' a (RoadKit.slotOf Z O n d) v → Go p e below m F T' pc' ls rest) : Go p e below m F T pc ls (v :: .ref a :: rest) := by
  subst hp
  obtain ⟨T', h', X', e', W', st⟩ := putF X hx hZ hown (host := "") (Or.inl w) via eT F0 E L wi hty hn hf (g := mkF m pc ls (v :: .ref a :: rest)) rfl rfl hd
  exact (k T' h' X' e' W').of st
theorem g_getS (X : Stand p l e R s m args below meth c T locs cells slots) (hx : p.tables.exec = Jvm.exec) (hZ : Z.Warmed39 s.vm) {own R0 O n d : String} {i : Nat} (hown : s.vm.findClass own = some m.cls) (w : (Cond.fieldLink own i R0 n d).before a0 Z = true) (via : Via Z R0 O n d) (eT : T.heap = h) {v : Value} (F0 : Sta Z h O n d v) (hd : decode c.code pc = .ok (.getstatic i, 3)) (hp : pc + 3 = pc') (k : ∀ T', Stand p l e R s m args below meth c T' locs cells slots → T'.heap = h → Go p e below m F T' pc' ls (v :: rest)) : Go p e below m F T pc ls rest := by
  subst hp
  obtain ⟨T', X', e', st⟩ := getS X hx hZ hown (host := "") w via eT F0 (g := mkF m pc ls rest) rfl hd
  exact (k T' X' e').of st
theorem g_new (X : Stand p l e R s m args below meth c T locs cells slots) (hx : p.tables.exec = Jvm.exec) (hZ : Z.Warmed39 s.vm) {own C : String} {i n : Nat} (hown : s.vm.findClass own = some m.cls) (w : (Cond.classLink own i C).before a0 Z = true) (wi : (Cond.instantiable C n).before a0 Z = true) (wz : (Cond.initialized C).before a0 Z = true) (eT : T.heap = h) (hd : decode c.code pc = .ok (.new i, 3)) (hp : pc + 3 = pc') (hc : cells + 1 ≤ R.cells) (hl : slots + n ≤ R.slots) (k : ∀ T' h' a, Stand p l e R s m args below meth c T' locs (cells + 1) (slots + n) → T'.heap = h' → Ext h h' → a = h.size → Exa Z h' a C → (∀ {O nm d : String} {ty : FieldType}, Laid Z a0 C O nm d → parseFieldDescriptor d = some ty → Fld Z h' a O nm d (defaultValue ty)) → Go p e below m F T' pc' ls (.ref a :: rest)) : Go p e below m F T pc ls rest := by
  subst hp
  obtain ⟨T', h', X', e', E', A', D', -, st⟩ := newO X hx hZ hown w wi wz eT (g := mkF m pc ls rest) rfl hd hc hl
  exact (k T' h' _ X' e' E' rfl A' D').of st
theorem g_initO (X : Stand p l e R s m args below meth c T locs cells slots) (hx : p.tables.exec = Jvm.exec) (hZ : Z.Warmed39 s.vm) {own : String} {i : Nat} (hown : s.vm.findClass own = some m.cls) (w1 : (Cond.methodLink own i Lib.objectInit).before a0 Z = true) (w2 : (Cond.instanceMethod Lib.objectInit).before a0 Z = true) (w3 : (Cond.code Lib.objectInit ⟨#[0xb1]⟩ 1 none).before a0 Z = true) (eT : T.heap = h) (hsize : ls.size = c.maxLocals) {a : Addr} (hd : decode c.code pc = .ok (.invokespecial i, 3)) (hp : pc + 3 = pc') (hf : 1 ≤ R.frames) {W : Nat} (hW : 2 * 0 + (rest.map fun v => v.category).sum ≤ W) (hl : W + 12 ≤ R.locals) (k : ∀ T', Stand p l e R s m args below meth c T' locs cells slots → T'.heap = h → Go p e below m F T' pc' ls rest) : Go p e below m F T pc ls (.ref a :: rest) := by
  subst hp
  obtain ⟨T', X', e', st⟩ := initO X hx hZ hown w1 w2 w3 eT (g := mkF m pc ls (.ref a :: rest)) rfl hsize rfl hd hf hW hl
  exact (k T' X' e').of st
theorem g_static (X : Stand p l e R s m args below meth c T locs cells slots) (hx : p.tables.exec = Jvm.exec) (hZ : Z.Warmed39 s.vm) {own : String} {i : Nat} {y : MethodName} {bytes : ByteArray} {maxL : Nat} {ret : Option FieldType} {rm : Room} {Q : Option Value → Heap → List Loc → Prop} (hown : s.vm.findClass own = some m.cls) (w1 : (Cond.methodLink own i y).before a0 Z = true) (w2 : (Cond.static y).before a0 Z = true) (w3 : (Cond.initialized y.cls).before a0 Z = true) (w4 : (Cond.code y bytes maxL ret).before a0 Z = true) (hy : y.cls ≠ "java/lang/invoke/MethodHandle" ∧ y.cls ≠ "java/lang/invoke/VarHandle")
    {argsL st : List Value} {ps : List FieldType} {rt : Option FieldType} (hM : Ctr l Z y bytes maxL ret [] rm argsL.toArray h Q) (hpd : parseMethodDescriptor y.desc = some ⟨ps, rt⟩) (hlen : argsL.length = ps.length) (hst : st = argsL.reverse ++ rest) (hd : decode c.code pc = .ok (.invokestatic i, 3)) (eT : T.heap = h) (hsize : ls.size = c.maxLocals) (hp : pc + 3 = pc') (hf : rm.frames + 1 ≤ R.frames) {W : Nat} (hW : 2 * 0 + (rest.map fun v => v.category).sum ≤ W) (hl : W + (maxL + 11) + rm.locals ≤ R.locals) (hc : cells + rm.cells ≤ R.cells) (hs : slots + rm.slots ≤ R.slots)
    (k : ∀ v T' L, Stand p l e R s m args below meth c T' (locs ++ L) (cells + rm.cells) (slots + rm.slots) → Q v T'.heap L → Go p e below m F T' pc' ls (v.toList ++ rest)) : Go p e below m F T pc ls st := by
  subst hp hst
  obtain ⟨v, _, ⟨T', L', k', n'⟩, -, X', ⟨L, hQ, l1, l2, l3⟩, stp⟩ := Jvm.LawKit.callS X hx (y := y) hown (mvT hZ w1) (mvT hZ w2) (mvT hZ w3) (mvT hZ w4) hy (backOf (W := W) hM hZ w4 w3 hf hl) (g := mkF m pc ls (argsL.reverse ++ rest)) rfl hsize (argsL := argsL) (rest := rest) (lenOf hpd hlen) rfl hW hd (fun _ _ => ⟨rfl, eT, hc, hs⟩)
  dsimp only [Pt.U, Pt.locs, Pt.cells, Pt.slots] at X' l1 l2 l3 stp hQ
  subst l1 l2 l3
  exact (k v T' L X' hQ).of stp
theorem g_special (X : Stand p l e R s m args below meth c T locs cells slots) (hx : p.tables.exec = Jvm.exec) (hZ : Z.Warmed39 s.vm) {own : String} {i : Nat} {y : MethodName} {bytes : ByteArray} {maxL : Nat} {rm : Room} {Q : Option Value → Heap → List Loc → Prop} (hy1 : y.name = "<init>") (hown : s.vm.findClass own = some m.cls) (w1 : (Cond.methodLink own i y).before a0 Z = true) (w2 : (Cond.instanceMethod y).before a0 Z = true) (w3 : (Cond.initialized y.cls).before a0 Z = true) (w4 : (Cond.code y bytes maxL none).before a0 Z = true) (hy : y.cls ≠ "java/lang/invoke/MethodHandle" ∧ y.cls ≠ "java/lang/invoke/VarHandle")
    {a : Addr} {argsL st : List Value} {ps : List FieldType} {rt : Option FieldType} (hM : Ctr l Z y bytes maxL none [] rm (.ref a :: argsL).toArray h Q) (hpd : parseMethodDescriptor y.desc = some ⟨ps, rt⟩) (hlen : argsL.length = ps.length) (hst : st = argsL.reverse ++ .ref a :: rest) (hd : decode c.code pc = .ok (.invokespecial i, 3)) (eT : T.heap = h) (hsize : ls.size = c.maxLocals) (hp : pc + 3 = pc') (hf : rm.frames + 1 ≤ R.frames) {W : Nat} (hW : 2 * 0 + (rest.map fun v => v.category).sum ≤ W) (hl : W + (maxL + 11) + rm.locals ≤ R.locals) (hc : cells + rm.cells ≤ R.cells) (hs : slots + rm.slots ≤ R.slots)
    (k : ∀ v T' L, Stand p l e R s m args below meth c T' (locs ++ L) (cells + rm.cells) (slots + rm.slots) → Q v T'.heap L → Go p e below m F T' pc' ls (v.toList ++ rest)) : Go p e below m F T pc ls st := by
  subst hp hst
  obtain ⟨v, _, ⟨T', L', k', n'⟩, -, X', ⟨L, hQ, l1, l2, l3⟩, stp⟩ := X.specialBack hx (y := y) hy1 hown (mvT hZ w1) (mvT hZ w2) (mvT hZ w4) hy (backOf (W := W) hM hZ w4 w3 hf hl) (g := mkF m pc ls (argsL.reverse ++ .ref a :: rest)) rfl hsize (Steps.refl _) (a := a) (argsL := argsL) (rest := rest) (lenOf hpd hlen) rfl hW hd (fun _ _ => ⟨rfl, eT, hc, hs⟩)
  dsimp only [Pt.U, Pt.locs, Pt.cells, Pt.slots] at X' l1 l2 l3 stp hQ
  subst l1 l2 l3
  exact (k v T' L X' hQ).of fun t q => stp.trans q
theorem g_virtual (X : Stand p l e R s m args below meth c T locs cells slots) (hx : p.tables.exec = Jvm.exec) (hZ : Z.Warmed39 s.vm) {own C : String} {i : Nat} {y : MethodName} {bytes : ByteArray} {maxL : Nat} {ret : Option FieldType} {rm : Room} {Q : Option Value → Heap → List Loc → Prop} (hown : s.vm.findClass own = some m.cls) (w1 : (Cond.methodLink own i y).before a0 Z = true) (w2 : (Cond.declares y).before a0 Z = true) (w5 : (Cond.selects C y y).before a0 Z = true) (w6 : (Cond.instanceMethod y).before a0 Z = true) (w3 : (Cond.initialized y.cls).before a0 Z = true) (w4 : (Cond.code y bytes maxL ret).before a0 Z = true) (hy : y.cls ≠ "java/lang/invoke/MethodHandle" ∧ y.cls ≠ "java/lang/invoke/VarHandle")
    {a : Addr} (Ea : Exa Z h a C) {argsL st : List Value} {ps : List FieldType} {rt : Option FieldType} (hM : Ctr l Z y bytes maxL ret [] rm (.ref a :: argsL).toArray h Q) (hpd : parseMethodDescriptor y.desc = some ⟨ps, rt⟩) (hlen : argsL.length = ps.length) (hst : st = argsL.reverse ++ .ref a :: rest) (hd : decode c.code pc = .ok (.invokevirtual i, 3)) (eT : T.heap = h) (hsize : ls.size = c.maxLocals) (hp : pc + 3 = pc') (hf : rm.frames + 1 ≤ R.frames) {W : Nat} (hW : 2 * 0 + (rest.map fun v => v.category).sum ≤ W) (hl : W + (maxL + 11) + rm.locals ≤ R.locals) (hc : cells + rm.cells ≤ R.cells) (hs : slots + rm.slots ≤ R.slots)
    (k : ∀ v T' L, Stand p l e R s m args below meth c T' (locs ++ L) (cells + rm.cells) (slots + rm.slots) → Q v T'.heap L → Go p e below m F T' pc' ls (v.toList ++ rest)) : Go p e below m F T pc ls st := by
  subst hp hst
  obtain ⟨cq, kq, qa, qb, qc⟩ := isOf hZ eT Ea
  obtain ⟨v, _, ⟨T', L', k', n'⟩, -, X', ⟨L, hQ, l1, l2, l3⟩, stp⟩ := X.virtualBack hx (y := y) (z := y) hown (mvT hZ w1) (mvT hZ w2) (notFace_of_selects (args := #[]) (mvT hZ w5)) (mvT hZ w5) (mvT hZ w6) hy (backOf (W := W) hM hZ w4 w3 hf hl) qa qc (g := mkF m pc ls (argsL.reverse ++ .ref a :: rest)) rfl hsize (Steps.refl _) (argsL := argsL) (rest := rest) (lenOf hpd hlen) rfl hW hd (fun _ _ => ⟨rfl, eT, hc, hs⟩)
  dsimp only [Pt.U, Pt.locs, Pt.cells, Pt.slots] at X' l1 l2 l3 stp hQ
  subst l1 l2 l3
  exact (k v T' L X' hQ).of fun t q => stp.trans q
theorem g_virtualUp (X : Stand p l e R s m args below meth c T locs cells slots) (hx : p.tables.exec = Jvm.exec) (hZ : Z.Warmed39 s.vm) {own C owner : String} {i : Nat} {x y : MethodName} {bytes : ByteArray} {maxL : Nat} {ret : Option FieldType} {rm : Room} {Q : Option Value → Heap → List Loc → Prop} (hown : s.vm.findClass own = some m.cls) (w1 : (Cond.methodLink own i x).before a0 Z = true) (w7 : (Cond.sameMethod x.cls owner x.name x.desc).before a0 Z = true) (w2 : (Cond.declares ⟨owner, x.name, x.desc⟩).before a0 Z = true) (ho : owner ≠ "java/lang/invoke/MethodHandle" ∧ owner ≠ "java/lang/invoke/VarHandle") (w5 : (Cond.selects C x y).before a0 Z = true) (w6 : (Cond.instanceMethod y).before a0 Z = true) (w3 : (Cond.initialized y.cls).before a0 Z = true) (w4 : (Cond.code y bytes maxL ret).before a0 Z = true)
    {a : Addr} (Ea : Exa Z h a C) {argsL st : List Value} {ps : List FieldType} {rt : Option FieldType} (hM : Ctr l Z y bytes maxL ret [] rm (.ref a :: argsL).toArray h Q) (hpd : parseMethodDescriptor x.desc = some ⟨ps, rt⟩) (hlen : argsL.length = ps.length) (hst : st = argsL.reverse ++ .ref a :: rest) (hd : decode c.code pc = .ok (.invokevirtual i, 3)) (eT : T.heap = h) (hsize : ls.size = c.maxLocals) (hp : pc + 3 = pc') (hf : rm.frames + 1 ≤ R.frames) {W : Nat} (hW : 2 * 0 + (rest.map fun v => v.category).sum ≤ W) (hl : W + (maxL + 11) + rm.locals ≤ R.locals) (hc : cells + rm.cells ≤ R.cells) (hs : slots + rm.slots ≤ R.slots)
    (k : ∀ v T' L, Stand p l e R s m args below meth c T' (locs ++ L) (cells + rm.cells) (slots + rm.slots) → Q v T'.heap L → Go p e below m F T' pc' ls (v.toList ++ rest)) : Go p e below m F T pc ls st := by
  subst hp hst
  obtain ⟨cq, kq, qa, qb, qc⟩ := isOf hZ eT Ea
  obtain ⟨v, _, ⟨T', L', k', n'⟩, -, X', ⟨L, hQ, l1, l2, l3⟩, stp⟩ := X.virtualBackUp hx (x := x) (y := y) (owner := owner) hown (mvT hZ w1) (mvT hZ w7) (mvT hZ w2) ho (mvT hZ w5) (mvT hZ w6) (backOf (W := W) hM hZ w4 w3 hf hl) qa qc (g := mkF m pc ls (argsL.reverse ++ .ref a :: rest)) rfl hsize (Steps.refl _) (argsL := argsL) (rest := rest) (lenOf hpd hlen) rfl hW hd (fun _ _ => ⟨rfl, eT, hc, hs⟩)
  dsimp only [Pt.U, Pt.locs, Pt.cells, Pt.slots] at X' l1 l2 l3 stp hQ
  subst l1 l2 l3
  exact (k v T' L X' hQ).of fun t q => stp.trans q
theorem g_retV (X : Stand p l e R s m args below meth c T locs cells slots) (hx : p.tables.exec = Jvm.exec) {Q : Option Value → Heap → List Loc → Prop} {rc rs : Nat} (hlk : meth.locks = false) (hret : meth.sig.returnType = none) (hd : decode c.code pc = .ok (.return_, 1)) (hQ : Q none T.heap locs) (hc : cells ≤ rc) (hs : slots ≤ rs) : Go p e below m (Fini s rc rs Q) T pc ls [] := by
  obtain ⟨fs, hr, hrun, hended, hW, hsame⟩ := X.leave (v := none) (fun _ => rfl)
  exact ⟨_, _, X.returnOut hx hret hd hr, hrun, hended, _, _, rfl, hQ, ⟨_, rfl⟩, hW, hsame.mono hc hs⟩
theorem g_ret (X : Stand p l e R s m args below meth c T locs cells slots) (hx : p.tables.exec = Jvm.exec) {Q : Option Value → Heap → List Loc → Prop} {rc rs : Nat} (hlk : meth.locks = false) {t : FieldType} {w : Value} {i : Instr} (hret : meth.sig.returnType = some t) (hn : narrow t w = w)
    (hi : (i = .ireturn ∧ (t = .int ∨ t = .boolean ∨ t = .byte ∨ t = .char ∨ t = .short) ∧ ∃ z, w = .int z) ∨ (i = .lreturn ∧ t = .long ∧ ∃ z, w = .long z) ∨ (i = .dreturn ∧ t = .double ∧ ∃ z, w = .double z) ∨ (i = .freturn ∧ t = .float ∧ ∃ z, w = .float z) ∨ (i = .areturn ∧ t.isReference = true ∧ w.isRef = true))
    (hd : decode c.code pc = .ok (i, 1)) (hQ : Q (some w) T.heap locs) (hc : cells ≤ rc) (hs : slots ≤ rs) : Go p e below m (Fini s rc rs Q) T pc ls (w :: rest) := by
  obtain ⟨fs, hr, hrun, hended, hW, hsame⟩ := X.leave (v := some w) (fun h => by rw [hret] at h; cases h)
  exact ⟨_, _, retOut X hx hret hn hi hd hr, hrun, hended, _, _, rfl, hQ, ⟨_, rfl⟩, hW, hsame.mono hc hs⟩
theorem g_retZ (X : Stand p l e R s m args below meth c T locs cells slots) (hx : p.tables.exec = Jvm.exec) {Q : Option Value → Heap → List Loc → Prop} {rc rs : Nat} (hlk : meth.locks = false) {z : Int32} (hret : meth.sig.returnType = some .boolean) (hz : z = 0 ∨ z = 1) (hd : decode c.code pc = .ok (.ireturn, 1)) (hQ : Q (some (.int z)) T.heap locs) (hc : cells ≤ rc) (hs : slots ≤ rs) : Go p e below m (Fini s rc rs Q) T pc ls (.int z :: rest) :=
  g_ret X hx hlk hret (by rcases hz with rfl | rfl <;> rfl) (Or.inl ⟨rfl, Or.inr (Or.inl rfl), _, rfl⟩) hd hQ hc hs
theorem g_retI (X : Stand p l e R s m args below meth c T locs cells slots) (hx : p.tables.exec = Jvm.exec) {Q : Option Value → Heap → List Loc → Prop} {rc rs : Nat} (hlk : meth.locks = false) {z : Int32} (hret : meth.sig.returnType = some .int) (hd : decode c.code pc = .ok (.ireturn, 1)) (hQ : Q (some (.int z)) T.heap locs) (hc : cells ≤ rc) (hs : slots ≤ rs) : Go p e below m (Fini s rc rs Q) T pc ls (.int z :: rest) :=
  g_ret X hx hlk hret rfl (Or.inl ⟨rfl, Or.inl rfl, _, rfl⟩) hd hQ hc hs
theorem g_retJ (X : Stand p l e R s m args below meth c T locs cells slots) (hx : p.tables.exec = Jvm.exec) {Q : Option Value → Heap → List Loc → Prop} {rc rs : Nat} (hlk : meth.locks = false) {z : Int64} (hret : meth.sig.returnType = some .long) (hd : decode c.code pc = .ok (.lreturn, 1)) (hQ : Q (some (.long z)) T.heap locs) (hc : cells ≤ rc) (hs : slots ≤ rs) : Go p e below m (Fini s rc rs Q) T pc ls (.long z :: rest) :=
  g_ret X hx hlk hret rfl (Or.inr (Or.inl ⟨rfl, rfl, _, rfl⟩)) hd hQ hc hs
theorem g_retD (X : Stand p l e R s m args below meth c T locs cells slots) (hx : p.tables.exec = Jvm.exec) {Q : Option Value → Heap → List Loc → Prop} {rc rs : Nat} (hlk : meth.locks = false) {z : UInt64} (hret : meth.sig.returnType = some .double) (hd : decode c.code pc = .ok (.dreturn, 1)) (hQ : Q (some (.double z)) T.heap locs) (hc : cells ≤ rc) (hs : slots ≤ rs) : Go p e below m (Fini s rc rs Q) T pc ls (.double z :: rest) :=
  g_ret X hx hlk hret rfl (Or.inr (Or.inr (Or.inl ⟨rfl, rfl, _, rfl⟩))) hd hQ hc hs
theorem g_retA (X : Stand p l e R s m args below meth c T locs cells slots) (hx : p.tables.exec = Jvm.exec) {Q : Option Value → Heap → List Loc → Prop} {rc rs : Nat} (hlk : meth.locks = false) {t : FieldType} {w : Value} (hret : meth.sig.returnType = some t) (ht : t.isReference = true) (hw : w.isRef = true) (hn : narrow t w = w) (hd : decode c.code pc = .ok (.areturn, 1)) (hQ : Q (some w) T.heap locs) (hc : cells ≤ rc) (hs : slots ≤ rs) : Go p e below m (Fini s rc rs Q) T pc ls (w :: rest) :=
  g_ret X hx hlk hret hn (Or.inr (Or.inr (Or.inr (Or.inr ⟨rfl, ht, hw⟩)))) hd hQ hc hs
end Heap
end Jvm.Own
namespace Jvm.Own
open Sem ClassFile Op Lib Jvm.Free
/-! comparisons as whole numbers -/
def cmpI (n m : Int) : Int32 := if n < m then -1 else if n = m then 0 else 1
theorem cmpI_eq {n m : Int} (h : cmpI n m = 0) : n = m := by
  unfold cmpI at h
  by_cases a : n < m
  · rw [if_pos a] at h; exact absurd h (by decide)
  · by_cases b : n = m
    · exact b
    · rw [if_neg a, if_neg b] at h; exact absurd h (by decide)
theorem cmpI_ne {n m : Int} (h : cmpI n m ≠ 0) : n ≠ m := by
  intro b; subst b; exact h (by unfold cmpI; rw [if_neg (by omega), if_pos rfl])
theorem cmpI_lt {n m : Int} (h : cmpI n m < 0) : n < m := by
  unfold cmpI at h
  by_cases a : n < m
  · exact a
  · by_cases b : n = m
    · rw [if_neg a, if_pos b] at h; exact absurd h (by decide)
    · rw [if_neg a, if_neg b] at h; exact absurd h (by decide)
theorem cmpI_ge {n m : Int} (h : cmpI n m ≥ 0) : m ≤ n := by
  by_cases a : n < m
  · unfold cmpI at h; rw [if_pos a] at h; exact absurd h (by decide)
  · omega
theorem cmpI_gt {n m : Int} (h : cmpI n m > 0) : m < n := by
  by_cases a : n < m
  · unfold cmpI at h; rw [if_pos a] at h; exact absurd h (by decide)
  · by_cases b : n = m
    · unfold cmpI at h; rw [if_neg a, if_pos b] at h; exact absurd h (by decide)
    · omega
theorem cmpI_le {n m : Int} (h : cmpI n m ≤ 0) : n ≤ m := by
  by_cases a : n < m
  · omega
  · by_cases b : n = m
    · omega
    · unfold cmpI at h; rw [if_neg a, if_neg b] at h; exact absurd h (by decide)
theorem cmpI_some (n m : Int) (o : CmpOp) : cmpValue (some (compare n m)) o = cmpI n m := by
  unfold cmpI
  rw [Jvm.FP.Core.compare_ite]
  by_cases a : n < m
  · rw [if_pos a, if_pos a]; cases o <;> rfl
  · by_cases b : n = m
    · rw [if_neg a, if_pos b, if_neg a, if_pos b]; cases o <;> rfl
    · rw [if_neg a, if_neg b, if_neg a, if_neg b]; cases o <;> rfl
theorem cmpL_I (x y : Int64) : XT.cmpL x y = cmpI x.toInt y.toInt := by
  unfold XT.cmpL cmpI
  by_cases a : y < x
  · have a' := Int64.lt_iff_toInt_lt.mp a
    rw [if_pos a, if_neg (by omega), if_neg (by omega)]
  · have a' : ¬ y.toInt < x.toInt := fun q => a (Int64.lt_iff_toInt_lt.mpr q)
    by_cases b : x = y
    · subst b; rw [if_neg a, if_pos rfl, if_neg (by omega), if_pos rfl]
    · have b' : x.toInt ≠ y.toInt := fun q => b (Int64.toInt_inj.mp q)
      rw [if_neg a, if_neg b, if_pos (by omega)]
theorem i_eq {x y : Int32} (h : x = y) : x.toInt = y.toInt := by rw [h]
theorem i_ne {x y : Int32} (h : x ≠ y) : x.toInt ≠ y.toInt := fun q => h (Int32.toInt_inj.mp q)
theorem i_lt {x y : Int32} (h : x < y) : x.toInt < y.toInt := Int32.lt_iff_toInt_lt.mp h
theorem i_ge {x y : Int32} (h : x ≥ y) : y.toInt ≤ x.toInt := Int32.le_iff_toInt_le.mp h
theorem i_gt {x y : Int32} (h : x > y) : y.toInt < x.toInt := Int32.lt_iff_toInt_lt.mp h
theorem i_le {x y : Int32} (h : x ≤ y) : x.toInt ≤ y.toInt := Int32.le_iff_toInt_le.mp h
theorem iz_eq {x : Int32} (h : x = 0) : x.toInt = 0 := by rw [h]; rfl
theorem iz_ne {x : Int32} (h : x ≠ 0) : x.toInt ≠ 0 := fun q => h (Int32.toInt_inj.mp q)
theorem iz_lt {x : Int32} (h : x < 0) : x.toInt < 0 := Int32.lt_iff_toInt_lt.mp h
theorem iz_ge {x : Int32} (h : x ≥ 0) : 0 ≤ x.toInt := Int32.le_iff_toInt_le.mp h
theorem iz_gt {x : Int32} (h : x > 0) : 0 < x.toInt := Int32.lt_iff_toInt_lt.mp h
theorem iz_le {x : Int32} (h : x ≤ 0) : x.toInt ≤ 0 := Int32.le_iff_toInt_le.mp h
theorem cmpL_ex {x y : Int64} {n m : Int} (hx : x.toInt = n) (hy : y.toInt = m) : XT.cmpL x y = cmpI n m := by rw [cmpL_I, hx, hy]
theorem small32 {y : Int32} (h : y.toBitVec.toNat < 2147483648) : y.toInt = (y.toBitVec.toNat : Int) := by
  have : y.toInt = y.toBitVec.toInt := rfl
  rw [this, BitVec.toInt_eq_toNat_cond, if_pos (by omega)]
theorem nn32 {y : Int32} (h : 0 ≤ y.toInt) : y.toBitVec.toNat < 2147483648 := by
  have e : y.toInt = y.toBitVec.toInt := rfl
  rw [e, BitVec.toInt_eq_toNat_cond] at h
  by_cases q : 2 * y.toBitVec.toNat < 2 ^ 32
  · omega
  · rw [if_neg q] at h; have := y.toBitVec.isLt; omega
theorem iand_b (x y : Int32) {M : Int} (h0 : 0 ≤ y.toInt) (hM : y.toInt ≤ M) : 0 ≤ (x &&& y).toInt ∧ (x &&& y).toInt ≤ M := by
  have h1 := nn32 h0
  have e : (x &&& y).toBitVec.toNat = x.toBitVec.toNat &&& y.toBitVec.toNat := by simp [Int32.toBitVec_and, BitVec.toNat_and]
  have hle : (x &&& y).toBitVec.toNat ≤ y.toBitVec.toNat := by rw [e]; exact Nat.and_le_right
  have e1 := small32 (y := x &&& y) (by omega)
  have e2 := small32 h1
  omega
theorem small64 {y : Int64} (h : y.toBitVec.toNat < 9223372036854775808) : y.toInt = (y.toBitVec.toNat : Int) := by
  have : y.toInt = y.toBitVec.toInt := rfl
  rw [this, BitVec.toInt_eq_toNat_cond, if_pos (by omega)]
theorem nn64 {y : Int64} (h : 0 ≤ y.toInt) : y.toBitVec.toNat < 9223372036854775808 := by
  have e : y.toInt = y.toBitVec.toInt := rfl
  rw [e, BitVec.toInt_eq_toNat_cond] at h
  by_cases q : 2 * y.toBitVec.toNat < 2 ^ 64
  · omega
  · rw [if_neg q] at h; have := y.toBitVec.isLt; omega
theorem land_b (x y : Int64) {M : Int} (h0 : 0 ≤ y.toInt) (hM : y.toInt ≤ M) : 0 ≤ (x &&& y).toInt ∧ (x &&& y).toInt ≤ M := by
  have h1 := nn64 h0
  have e : (x &&& y).toBitVec.toNat = x.toBitVec.toNat &&& y.toBitVec.toNat := by simp [Int64.toBitVec_and, BitVec.toNat_and]
  have hle : (x &&& y).toBitVec.toNat ≤ y.toBitVec.toNat := by rw [e]; exact Nat.and_le_right
  have e1 := small64 (y := x &&& y) (by omega)
  have e2 := small64 h1
  omega
theorem i32b (v : Int32) : -2147483648 ≤ v.toInt ∧ v.toInt < 2147483648 := ⟨v.le_toInt, v.toInt_lt⟩
theorem i64b (v : Int64) : -9223372036854775808 ≤ v.toInt ∧ v.toInt < 9223372036854775808 := ⟨v.le_toInt, v.toInt_lt⟩
theorem iadd_ex {x y : Int32} {n m : Int} (hx : x.toInt = n) (hy : y.toInt = m) (h : -2147483648 ≤ n + m ∧ n + m < 2147483648) : (x + y).toInt = n + m := by
  rw [Int32.toInt_add, hx, hy]; exact Int.bmod_eq_of_le (by omega) (by omega)
theorem isub_ex {x y : Int32} {n m : Int} (hx : x.toInt = n) (hy : y.toInt = m) (h : -2147483648 ≤ n - m ∧ n - m < 2147483648) : (x - y).toInt = n - m := by
  rw [Int32.toInt_sub, hx, hy]; exact Int.bmod_eq_of_le (by omega) (by omega)
theorem imul_ex {x y : Int32} {n m : Int} (hx : x.toInt = n) (hy : y.toInt = m) (h : -2147483648 ≤ n * m ∧ n * m < 2147483648) : (x * y).toInt = n * m := by
  rw [Int32.toInt_mul, hx, hy]; exact Int.bmod_eq_of_le (by omega) (by omega)
theorem ladd_ex {x y : Int64} {n m : Int} (hx : x.toInt = n) (hy : y.toInt = m) (h : -9223372036854775808 ≤ n + m ∧ n + m < 9223372036854775808) : (x + y).toInt = n + m := by
  rw [Int64.toInt_add, hx, hy]; exact Int.bmod_eq_of_le (by omega) (by omega)
theorem lsub_ex {x y : Int64} {n m : Int} (hx : x.toInt = n) (hy : y.toInt = m) (h : -9223372036854775808 ≤ n - m ∧ n - m < 9223372036854775808) : (x - y).toInt = n - m := by
  rw [Int64.toInt_sub, hx, hy]; exact Int.bmod_eq_of_le (by omega) (by omega)
theorem lmul_ex {x y : Int64} {n m : Int} (hx : x.toInt = n) (hy : y.toInt = m) (h : -9223372036854775808 ≤ n * m ∧ n * m < 9223372036854775808) : (x * y).toInt = n * m := by
  rw [Int64.toInt_mul, hx, hy]; exact Int.bmod_eq_of_le (by omega) (by omega)
theorem i2l_ex {x : Int32} {n : Int} (hx : x.toInt = n) : x.toInt64.toInt = n := by rw [Int32.toInt_toInt64, hx]
theorem pinI {args : Array Value} {s : State} {C n d K O f : String} {k : Int32} (hx : (Cond.exactly (Term.static C n d) K).value args s none s [] = some true) (he : (Cond.eq (Term.field (Term.static C n d) O f "I") (Term.int k)).value args s none s [] = some true) (hi : (Cond.initialized C).before args s = true) (hl : (Cond.laysStatic C n d).before args s = true) : ∃ r, RoadKit.Sta s s.heap C n d (.ref r) ∧ RoadKit.Exa s s.heap r K ∧ RoadKit.Fld s s.heap r O f "I" (.int k) := by
  obtain ⟨r, hr⟩ := RoadKit.exa_v hx
  refine ⟨r, RoadKit.Sta.start hr (Or.inr ⟨hi, hl⟩), RoadKit.Exa.start hr hx, ?_⟩
  obtain ⟨x, y, h1, h2, h3, h4⟩ := RoadKit.cmp_v (Or.inl he)
  rw [RoadKit.fld_at hr] at h1
  obtain rfl : Value.int k = y := Option.some.inj ((Term.int_eval k).symm.trans h2)
  obtain ⟨z, rfl⟩ := h4
  have q := RoadKit.gotT (Cond.eq_ints ((RoadKit.fld_at hr).trans h1) (Term.int_eval k)) he
  subst q
  exact RoadKit.Fld.start h1
theorem pinD {args : Array Value} {s : State} {C n d K O f : String} {k : Int64} (hx : (Cond.exactly (Term.static C n d) K).value args s none s [] = some true) (he : (Cond.eq (Term.field (Term.static C n d) O f "D") (Term.op1 .bitsD (Term.long k))).value args s none s [] = some true) (hi : (Cond.initialized C).before args s = true) (hl : (Cond.laysStatic C n d).before args s = true) : ∃ r, RoadKit.Sta s s.heap C n d (.ref r) ∧ RoadKit.Exa s s.heap r K ∧ RoadKit.Fld s s.heap r O f "D" (.double k.toUInt64) := by
  obtain ⟨r, hr⟩ := RoadKit.exa_v hx
  refine ⟨r, RoadKit.Sta.start hr (Or.inr ⟨hi, hl⟩), RoadKit.Exa.start hr hx, ?_⟩
  obtain ⟨x, y, h1, h2, h3, h4⟩ := RoadKit.cmp_v (Or.inl he)
  have h5 : (Term.op1 .bitsD (Term.long k)).eval args s none [] s = some (.double k.toUInt64) := RoadKit.op1_f (RoadKit.long_at k)
  obtain rfl : Value.double k.toUInt64 = y := Option.some.inj (h5.symm.trans h2)
  obtain ⟨z, rfl⟩ := h4
  have q : z = k.toUInt64 := by simpa [Cond.value, h1, h5] using he
  subst q
  rw [RoadKit.fld_at hr] at h1
  exact RoadKit.Fld.start h1
end Jvm.Own
namespace Jvm.Own
open Jvm.FP.Core
/-! doubles by their values: zval in units of 2^-1074 -/
/-! plain arithmetic, with the unit as a letter -/
theorem ar_mul {a b J K N M O : Nat} (hm : a * J = N * O) (gm : b * K = M * O) : a * b * (J * K) = N * M * (O * O) := by
  calc a * b * (J * K) = (a * J) * (b * K) := by ac_rfl
    _ = N * O * (M * O) := by rw [hm, gm]
    _ = _ := by ac_rfl
theorem ar_z {ab JK NM O z : Nat} (hp : 0 < JK) (q : ab * JK = NM * (O * O)) (hz : z * JK = NM * O) : ab = z * O := by
  apply Nat.eq_of_mul_eq_mul_right hp
  calc ab * JK = NM * O * O := by rw [q]; ac_rfl
    _ = z * JK * O := by rw [hz]
    _ = _ := by ac_rfl
theorem ar_i {X Y J K N M O s : Int} (hO : O ≠ 0) (hx : X * J = N * O) (hy : Y * K = M * O) (hs : s * O = X * Y) : s * (J * K) = N * M * O := by
  apply Int.eq_of_mul_eq_mul_right hO
  calc s * (J * K) * O = s * O * (J * K) := by ac_rfl
    _ = (X * J) * (Y * K) := by rw [hs]; ac_rfl
    _ = N * M * O * O := by rw [hx, hy]; ac_rfl
theorem ar_d {x y z J K I N M W O : Nat} (hp : 0 < J * K * I) (hx : x * J = N * O) (hy : y * K = M * O) (hz : z * I = W * O) (hw : N * K * I = W * M * J) : x * O = z * y := by
  apply Nat.eq_of_mul_eq_mul_right hp
  calc x * O * (J * K * I) = (x * J) * O * (K * I) := by ac_rfl
    _ = (N * K * I) * (O * O) := by rw [hx]; ac_rfl
    _ = (W * O) * (M * O) * J := by rw [hw]; ac_rfl
    _ = (z * I) * (y * K) * J := by rw [hz, hy]
    _ = _ := by ac_rfl
theorem ar_q {q X Y J K I N M W O : Int} (hY : Y ≠ 0) (hJ : J ≠ 0) (hK : K ≠ 0) (hx : X * J = N * O) (hy : Y * K = M * O) (hs : q * Y = X * O) (hw : N * K * I = W * M * J) : q * I = W * O := by
  apply Int.eq_of_mul_eq_mul_right hY
  apply Int.eq_of_mul_eq_mul_right hJ
  apply Int.eq_of_mul_eq_mul_right hK
  calc q * I * Y * J * K = (q * Y) * I * J * K := by ac_rfl
    _ = (X * J) * K * I * O := by rw [hs]; ac_rfl
    _ = (N * K * I) * O * O := by rw [hx]; ac_rfl
    _ = W * (M * O) * J * O := by rw [hw]; ac_rfl
    _ = W * O * Y * J * K := by rw [← hy]; ac_rfl
theorem ar_p {c d P Q X Y W : Nat} (e : P * Q = X * Y * W) : c * d * P * Q = c * X * (d * Y) * 1 * W := by
  rw [Nat.mul_assoc (c * d), e]; ac_rfl
theorem ar_up {X J K N O : Int} (h : X * J = N * O) : X * (J * K) = N * K * O := by
  calc X * (J * K) = X * J * K := by ac_rfl
    _ = N * O * K := by rw [h]
    _ = _ := by ac_rfl
abbrev rr (s : Bool) (A B : Nat) : Datum := roundRatio b64 s A B 0
theorem one_pow : one64 = 2 ^ 1074 := rfl
theorem one_ne : (one64 : Int) ≠ 0 := by have := one64_pos; omega
theorem fin_u {x : UInt64} {s : Bool} {c : Nat} {q : Int} (h : val64 x = .fin s c q) : sgn (val64 x) = s ∧ zmag b64 (val64 x) = c * 2 ^ (q + 1074).toNat ∧ -1074 ≤ q := by
  have hf := val64_fits x
  rw [h] at hf ⊢
  have h2 := hf.2.1
  rw [qmin_b64] at h2
  refine ⟨rfl, ?_, h2⟩
  show inUnits c q b64.qmin = _
  rw [qmin_b64]
  show c * 2 ^ (q - -1074).toNat = _
  rw [show q - -1074 = q + 1074 by omega]
theorem zv_eq (x : UInt64) : zval b64 (val64 x) = signed (sgn (val64 x)) (zmag b64 (val64 x)) := rfl
theorem ddiv_rr {x y : UInt64} (hx : DFin x) (hy : DFin y) (hz : zmag b64 (val64 y) ≠ 0) : val64 (ddiv x y) = rr (sgn (val64 x) != sgn (val64 y)) (zmag b64 (val64 x)) (zmag b64 (val64 y)) := by
  obtain ⟨s, c, q, ex⟩ := hx
  obtain ⟨t, d, r, ey⟩ := hy
  obtain ⟨h1, h2, h3⟩ := fin_u ex
  obtain ⟨g1, g2, g3⟩ := fin_u ey
  rw [g2] at hz
  have hd : d ≠ 0 := fun k => hz (by rw [k, Nat.zero_mul])
  rw [val64_ddiv, h1, h2, g1, g2, ex, ey]
  show (if d = 0 then _ else roundRatio b64 (s != t) c d (q - r)) = _
  rw [if_neg hd]
  refine roundRatio_congr (Nat.pos_of_ne_zero hd) (Nat.pos_of_ne_zero hz) ?_
  have e : 2 ^ (r + 1074).toNat * 2 ^ (q - r - 0).toNat = 2 ^ (q + 1074).toNat * 2 ^ (0 - (q - r)).toNat := by
    rw [← Nat.pow_add, ← Nat.pow_add]
    congr 1
    omega
  calc c * (d * 2 ^ (r + 1074).toNat) * 2 ^ (q - r - 0).toNat = c * d * (2 ^ (r + 1074).toNat * 2 ^ (q - r - 0).toNat) := by ac_rfl
    _ = c * d * (2 ^ (q + 1074).toNat * 2 ^ (0 - (q - r)).toNat) := by rw [e]
    _ = c * 2 ^ (q + 1074).toNat * d * 2 ^ (0 - (q - r)).toNat := by ac_rfl
theorem dmul_rr {x y : UInt64} (hx : DFin x) (hy : DFin y) : val64 (dmul x y) = rr (sgn (val64 x) != sgn (val64 y)) (zmag b64 (val64 x) * zmag b64 (val64 y)) (2 ^ 2148) := by
  obtain ⟨s, c, q, ex⟩ := hx
  obtain ⟨t, d, r, ey⟩ := hy
  obtain ⟨h1, h2, h3⟩ := fin_u ex
  obtain ⟨g1, g2, g3⟩ := fin_u ey
  rw [val64_dmul, h1, h2, g1, g2, ex, ey]
  show roundRatio b64 (s != t) (c * d) 1 (q + r) = _
  refine roundRatio_congr Nat.one_pos (Nat.two_pow_pos _) ?_
  have e : 2 ^ 2148 * 2 ^ (q + r - 0).toNat = 2 ^ (q + 1074).toNat * 2 ^ (r + 1074).toNat * 2 ^ (0 - (q + r)).toNat := by
    rw [← Nat.pow_add, ← Nat.pow_add, ← Nat.pow_add]
    congr 1
    omega
  exact ar_p e
theorem sum_rr {X Y : Datum} (fx : FP.Core.fits b64 X) (fy : FP.Core.fits b64 Y) (hx : ∃ s c q, X = .fin s c q) (hy : ∃ s c q, Y = .fin s c q) : ∃ sg, round b64 (exactSum X Y) = rr sg (zval b64 X + zval b64 Y).natAbs one64 ∧ signed sg (zval b64 X + zval b64 Y).natAbs = zval b64 X + zval b64 Y := by
  obtain ⟨s, c, q, rfl⟩ := hx
  obtain ⟨t, d, r, rfl⟩ := hy
  obtain ⟨sg, n, e, e1, e2, e3⟩ := sum_units fx fy
  have e4 : (zval b64 (.fin s c q) + zval b64 (.fin t d r)).natAbs = inUnits n e b64.qmin := by rw [← e3, natAbs_signed]
  refine ⟨sg, ?_, by rw [e4, e3]⟩
  rw [e4, e1]
  show roundRatio b64 sg n 1 e = _
  refine roundRatio_congr Nat.one_pos one64_pos ?_
  rw [qmin_b64] at e2 ⊢
  show n * one64 * 2 ^ (e - 0).toNat = n * 2 ^ (e - -1074).toNat * 1 * 2 ^ (0 - e).toNat
  rw [one_pow, Nat.mul_assoc, ← Nat.pow_add, Nat.mul_one, Nat.mul_assoc n, ← Nat.pow_add]
  congr 2
  omega
theorem dadd_rr {x y : UInt64} (hx : DFin x) (hy : DFin y) : ∃ sg, val64 (dadd x y) = rr sg (zval b64 (val64 x) + zval b64 (val64 y)).natAbs one64 ∧ signed sg (zval b64 (val64 x) + zval b64 (val64 y)).natAbs = zval b64 (val64 x) + zval b64 (val64 y) := by
  obtain ⟨sg, h1, h2⟩ := sum_rr (val64_fits x) (val64_fits y) hx hy
  exact ⟨sg, by rw [val64_dadd, h1], h2⟩
theorem dsub_rr {x y : UInt64} (hx : DFin x) (hy : DFin y) : ∃ sg, val64 (dsub x y) = rr sg (zval b64 (val64 x) - zval b64 (val64 y)).natAbs one64 ∧ signed sg (zval b64 (val64 x) - zval b64 (val64 y)).natAbs = zval b64 (val64 x) - zval b64 (val64 y) := by
  obtain ⟨t, d, r, ey⟩ := hy
  obtain ⟨sg, h1, h2⟩ := sum_rr (val64_fits x) (negate_fits (val64_fits y)) hx ⟨!t, d, r, by rw [ey]; rfl⟩
  rw [zval_negate, ← Int.sub_eq_add_neg] at h1 h2
  exact ⟨sg, by rw [val64_dsub, h1], h2⟩
/-- a whole number of units that a double holds -/
def Rep (z : Nat) : Prop := ∃ V : Datum, FP.Core.fits b64 V ∧ (∃ s c q, V = .fin s c q) ∧ zmag b64 V = z
theorem rep_pow {n k : Nat} (hn : n < 2 ^ 53) (hk : k ≤ 2045) : Rep (n * 2 ^ k) := by
  obtain ⟨c', q', h1, h2⟩ := round_exact good_b64 false (c := n) (q := (k : Int) - 1074) (by exact hn) (by rw [qmin_b64]; omega) (by show (k : Int) - 1074 ≤ 971; omega)
  refine ⟨.fin false c' q', by rw [← h1]; exact round_fits good_b64 _, ⟨_, _, _, rfl⟩, ?_⟩
  show inUnits c' q' b64.qmin = _
  rw [h2, qmin_b64]
  show n * 2 ^ ((k : Int) - 1074 - -1074).toNat = _
  congr 2
  omega
theorem rep_pow' {n k : Nat} (hn : n ≤ 2 ^ 53) (hk : k ≤ 2044) : Rep (n * 2 ^ k) := by
  by_cases h : n < 2 ^ 53
  · exact rep_pow h (by omega)
  · have e : n * 2 ^ k = 2 ^ 52 * 2 ^ (k + 1) := by
      rw [show n = 2 ^ 53 by omega, ← Nat.pow_add, ← Nat.pow_add]; congr 1; omega
    rw [e]; exact rep_pow (by decide) (by omega)
theorem rep_val {x : UInt64} (h : DFin x) : Rep (zmag b64 (val64 x)) := ⟨_, val64_fits x, h, rfl⟩
theorem in_u (A : Nat) : inUnits A 0 b64.qmin = A * one64 := by rw [qmin_b64]; rfl
theorem rr_le {s : Bool} {A B z : Nat} (hB : 0 < B) (hz : Rep z) (h : A * one64 ≤ z * B) : zmag b64 (rr s A B) ≤ z := by
  obtain ⟨V, f, ⟨t, c, q, rfl⟩, rfl⟩ := hz
  refine zmag_roundRatio_le good_b64 hB f (by intro k; cases k) (Int.le_refl _) (by rw [qmin_b64]; omega) ?_
  rw [in_u, Int.sub_self]
  simpa using h
theorem rr_ge {s : Bool} {A B z : Nat} (hB : 0 < B) (hz : Rep z) (h : z * B ≤ A * one64) : z ≤ zmag b64 (rr s A B) := by
  obtain ⟨V, f, ⟨t, c, q, rfl⟩, rfl⟩ := hz
  refine zmag_roundRatio_ge good_b64 hB f (Int.le_refl _) (by rw [qmin_b64]; omega) ?_
  rw [in_u, Int.sub_self]
  simpa using h
theorem rep_top {z : Nat} (hz : Rep z) : z < b64.tails * 2 ^ (b64.exps - 2) := by
  obtain ⟨V, f, ⟨t, c, q, rfl⟩, rfl⟩ := hz
  exact zmag_lt_top good_b64 f
theorem rr_fin {s : Bool} {A B z : Nat} (hz : Rep z) (h : zmag b64 (rr s A B) ≤ z) : ∃ c q, rr s A B = .fin s c q := by
  rcases roundRatio_cases b64 s A B 0 with k | k
  · exact k
  · rw [show rr s A B = .inf s from k] at h
    have := rep_top hz
    have e : zmag b64 (.inf s) = b64.tails * 2 ^ (b64.exps - 2) := rfl
    rw [e] at h
    exact absurd this (Nat.not_lt.mpr h)
theorem rr_sgn (s : Bool) (A B : Nat) : sgn (rr s A B) = s := sgn_roundRatio b64 s A B 0
theorem of_rr {x : UInt64} {s : Bool} {A B z : Nat} (hx : val64 x = rr s A B) (hB : 0 < B) (hz : Rep z) (h : A * one64 = z * B) : DFin x ∧ zval b64 (val64 x) = signed s z := by
  have h1 := rr_le (s := s) hB hz (Nat.le_of_eq h)
  have h2 := rr_ge (s := s) hB hz (Nat.le_of_eq h.symm)
  obtain ⟨c, q, e⟩ := rr_fin hz h1
  refine ⟨⟨s, c, q, by rw [hx, e]⟩, ?_⟩
  rw [zv_eq, hx, rr_sgn, Nat.le_antisymm h1 h2]
/-- the double is n / 2^j -/
def Dy (n : Int) (j : Nat) (x : UInt64) : Prop := DFin x ∧ zval b64 (val64 x) * ((2 ^ j : Nat) : Int) = n * (one64 : Int)
theorem p2_ne (j : Nat) : ((2 ^ j : Nat) : Int) ≠ 0 := by have := Nat.two_pow_pos j; omega
theorem Dy.mag {n : Int} {j : Nat} {x : UInt64} (h : Dy n j x) : zmag b64 (val64 x) * 2 ^ j = n.natAbs * one64 := by
  have := congrArg Int.natAbs h.2
  rw [Int.natAbs_mul, Int.natAbs_mul, zv_eq, natAbs_signed, Int.natAbs_natCast, Int.natAbs_natCast] at this
  exact this
theorem Dy.noNaN {n : Int} {j : Nat} {x : UInt64} (h : Dy n j x) : Jvm.Free.Fl.NoNaN64 x := (Jvm.Free.Fl.fin64_core.mpr h.1).noNaN
theorem rep_dy {N z j : Nat} (hn : N ≤ 2 ^ 53) (hj : j ≤ 1074) (h : z * 2 ^ j = N * one64) : Rep z := by
  have e : z = N * 2 ^ (1074 - j) := by
    apply Nat.eq_of_mul_eq_mul_right (Nat.two_pow_pos j)
    rw [h, one_pow, Nat.mul_assoc, ← Nat.pow_add]
    congr 2; omega
  rw [e]; exact rep_pow' hn (by omega)
theorem Dy.of_int {n : Int} {x : UInt64} (h : DInt n x) : Dy n 0 x := by
  refine ⟨?_, ?_⟩
  · unfold DInt at h
    cases e : val64 x with
    | nan => rw [e] at h; exact h.elim
    | inf s => rw [e] at h; exact h.elim
    | fin s c q => exact ⟨s, c, q, e⟩
  · rw [DInt_zval h]; simp
theorem Dy.i2d (v : Int32) : Dy v.toInt 0 (FP.i2d v) := Dy.of_int (i2d_int v)
theorem Dy.l2d {v : Int64} (h : v.toInt.natAbs ≤ 2 ^ 53) : Dy v.toInt 0 (FP.l2d v) := Dy.of_int (l2d_int h)
theorem Dy.up {n : Int} {j : Nat} {x : UInt64} (h : Dy n j x) (k : Nat) : Dy (n * ((2 ^ k : Nat) : Int)) (j + k) x := by
  refine ⟨h.1, ?_⟩
  rw [Nat.pow_add, Int.natCast_mul]
  exact ar_up h.2
theorem Dy.cmp {n m : Int} {j : Nat} {x y : UInt64} (h : Dy n j x) (g : Dy m j y) : FP.dcmp x y = some (compare n m) := by
  have hp : (0 : Int) < ((2 ^ j : Nat) : Int) := by have := Nat.two_pow_pos j; omega
  have ho : (0 : Int) < (one64 : Int) := by have := one64_pos; omega
  rw [show FP.dcmp x y = _ from dcmp_zval h.1.ne_nan g.1.ne_nan, ← compare_mul_pos _ _ _ hp, h.2, g.2, compare_mul_pos _ _ _ ho]
theorem Dy.add {n m : Int} {j : Nat} {x y : UInt64} (h : Dy n j x) (g : Dy m j y) (hb : (n + m).natAbs ≤ 2 ^ 53) (hj : j ≤ 1074) : Dy (n + m) j (FP.dadd x y) := by
  obtain ⟨sg, e1, e2⟩ := dadd_rr h.1 g.1
  have e : (zval b64 (val64 x) + zval b64 (val64 y)) * ((2 ^ j : Nat) : Int) = (n + m) * (one64 : Int) := by rw [Int.add_mul, Int.add_mul, h.2, g.2]
  have e' := congrArg Int.natAbs e
  rw [Int.natAbs_mul, Int.natAbs_mul, Int.natAbs_natCast, Int.natAbs_natCast] at e'
  obtain ⟨d1, d2⟩ := of_rr (x := FP.dadd x y) e1 one64_pos (rep_dy hb hj e') rfl
  exact ⟨d1, by rw [d2, e2, e]⟩
theorem Dy.sub {n m : Int} {j : Nat} {x y : UInt64} (h : Dy n j x) (g : Dy m j y) (hb : (n - m).natAbs ≤ 2 ^ 53) (hj : j ≤ 1074) : Dy (n - m) j (FP.dsub x y) := by
  obtain ⟨sg, e1, e2⟩ := dsub_rr h.1 g.1
  have e : (zval b64 (val64 x) - zval b64 (val64 y)) * ((2 ^ j : Nat) : Int) = (n - m) * (one64 : Int) := by rw [Int.sub_mul, Int.sub_mul, h.2, g.2]
  have e' := congrArg Int.natAbs e
  rw [Int.natAbs_mul, Int.natAbs_mul, Int.natAbs_natCast, Int.natAbs_natCast] at e'
  obtain ⟨d1, d2⟩ := of_rr (x := FP.dsub x y) e1 one64_pos (rep_dy hb hj e') rfl
  exact ⟨d1, by rw [d2, e2, e]⟩
theorem one_sq : one64 * one64 = 2 ^ 2148 := by rw [one_pow, ← Nat.pow_add]
theorem Dy.mul {n m : Int} {j k : Nat} {x y : UInt64} (h : Dy n j x) (g : Dy m k y) (hb : (n * m).natAbs ≤ 2 ^ 53) (hj : j + k ≤ 1074) : Dy (n * m) (j + k) (FP.dmul x y) := by
  have e1 := dmul_rr h.1 g.1
  have q1 := ar_mul h.mag g.mag
  rw [← Nat.pow_add, ← Int.natAbs_mul] at q1
  obtain ⟨z, hz⟩ : ∃ z, z = (n * m).natAbs * 2 ^ (1074 - (j + k)) := ⟨_, rfl⟩
  have hz1 : z * 2 ^ (j + k) = (n * m).natAbs * one64 := by
    rw [hz, one_pow, Nat.mul_assoc, ← Nat.pow_add]; congr 2; omega
  have hz2 := ar_z (Nat.two_pow_pos (j + k)) q1 hz1
  have hR : Rep z := by rw [hz]; exact rep_pow' hb (by omega)
  obtain ⟨d1, d2⟩ := of_rr (x := FP.dmul x y) e1 (Nat.two_pow_pos _) hR (by rw [hz2, Nat.mul_assoc, one_sq])
  refine ⟨d1, ?_⟩
  have hs : signed (sgn (val64 x) != sgn (val64 y)) z * (one64 : Int) = zval b64 (val64 x) * zval b64 (val64 y) := by rw [← signed_mul, ← hz2, signed_xor, zv_eq, zv_eq]
  rw [d2, Nat.pow_add, Int.natCast_mul]
  exact ar_i one_ne h.2 g.2 hs
theorem zm_ne {n : Int} {j : Nat} {x : UInt64} (h : Dy n j x) (hn : n ≠ 0) : zmag b64 (val64 x) ≠ 0 := by
  intro k
  have := h.mag
  rw [k, Nat.zero_mul] at this
  have h1 : n.natAbs * one64 ≠ 0 := Nat.mul_ne_zero (by omega) (by have := one64_pos; omega)
  exact h1 this.symm
theorem signed_div (s t : Bool) (a b : Nat) : signed (s != t) a * signed t b = signed s (a * b) := by rw [← signed_xor]; congr 1; cases s <;> cases t <;> rfl
theorem Dy.div {n m w : Int} {j k i : Nat} {x y : UInt64} (h : Dy n j x) (g : Dy m k y) (hm0 : m ≠ 0) (hw : n * ((2 ^ k : Nat) : Int) * ((2 ^ i : Nat) : Int) = w * m * ((2 ^ j : Nat) : Int)) (hb : w.natAbs ≤ 2 ^ 53) (hi : i ≤ 1074) : Dy w i (FP.ddiv x y) := by
  have hz0 := zm_ne g hm0
  have e1 := ddiv_rr h.1 g.1 hz0
  obtain ⟨z, hz⟩ : ∃ z, z = w.natAbs * 2 ^ (1074 - i) := ⟨_, rfl⟩
  have hz1 : z * 2 ^ i = w.natAbs * one64 := by
    rw [hz, one_pow, Nat.mul_assoc, ← Nat.pow_add]; congr 2; omega
  have hw' := congrArg Int.natAbs hw
  simp only [Int.natAbs_mul, Int.natAbs_natCast] at hw'
  have hz2 := ar_d (Nat.mul_pos (Nat.mul_pos (Nat.two_pow_pos j) (Nat.two_pow_pos k)) (Nat.two_pow_pos i)) h.mag g.mag hz1 hw'
  have hR : Rep z := by rw [hz]; exact rep_pow' hb (by omega)
  obtain ⟨d1, d2⟩ := of_rr (x := FP.ddiv x y) e1 (Nat.pos_of_ne_zero hz0) hR hz2
  refine ⟨d1, ?_⟩
  have hs : zval b64 (val64 (FP.ddiv x y)) * zval b64 (val64 y) = zval b64 (val64 x) * (one64 : Int) := by
    rw [d2, zv_eq y, signed_div, ← hz2, signed_mul, zv_eq x]
  have hy0 : zval b64 (val64 y) ≠ 0 := by
    intro q; rw [zv_eq, signed_eq_zero] at q; exact hz0 q
  exact ar_q hy0 (p2_ne j) (p2_ne k) h.2 g.2 hs hw
end Jvm.Own
namespace Jvm.Own
open Jvm.FP.Core Sem ClassFile Op Lib Jvm.Free
theorem Dy.to {n n' : Int} {j j' : Nat} {x : UInt64} (h : Dy n j x) (k : Nat) (hj : j + k = j') (hn : n * ((2 ^ k : Nat) : Int) = n') : Dy n' j' x := by subst hj hn; exact h.up k
theorem Dy.cl {n m : Int} {j : Nat} {x y : UInt64} (h : Dy n j x) (g : Dy m j y) (o : CmpOp) : cmpValue (FP.dcmp x y) o = cmpI n m := by rw [h.cmp g, cmpI_some]
theorem Dy.lit {n : Int} {j : Nat} {x : UInt64} (h1 : x.toNat % 2 ^ 63 < 9218868437227405312) (h2 : zval b64 (val64 x) * ((2 ^ j : Nat) : Int) = n * (one64 : Int)) : Dy n j x := ⟨(fin_bits x).mpr h1, h2⟩
theorem Dy.i2d' {v : Int32} {n : Int} (h : v.toInt = n) : Dy n 0 (FP.i2d v) := h ▸ Dy.i2d v
theorem Dy.l2d' {v : Int64} {n : Int} (h : v.toInt = n) (hb : n.natAbs ≤ 2 ^ 53) : Dy n 0 (FP.l2d v) := by subst h; exact Dy.l2d hb
end Jvm.Own
namespace Jvm.Pilot.@@N@@
open Jvm Jvm.ClassFile Sem Op Lib Jvm.Free Jvm.Stand Jvm.LawKit Jvm.RoadKit Bundle Jvm.Own Jvm.Pilot.@@N@@.Jvm.D
theorem pd_0 : parseMethodDescriptor "()V" = some ⟨[], none⟩ := by decide +kernel
theorem pd_1 : parseMethodDescriptor "(II)I" = some ⟨[.int, .int], some .int⟩ := by decide +kernel
theorem pd_2 : parseMethodDescriptor "(DDDD)V" = some ⟨[.double, .double, .double, .double], none⟩ := by decide +kernel
theorem pd_3 : parseMethodDescriptor "(DDDD)Z" = some ⟨[.double, .double, .double, .double], some .boolean⟩ := by decide +kernel
theorem pn_4 : plainFor (⟨"java/lang/Record", "<init>", "()V"⟩ : MethodName) = true := by decide +kernel
theorem pn_3 : plainFor (⟨"com/example/alluvia/alluvia/store/Region$Rectangle", "<init>", "(DDDD)V"⟩ : MethodName) = true := by decide +kernel
theorem pn_6 : plainFor (⟨"com/example/alluvia/alluvia/store/Region$Rectangle", "meets", "(DDDD)Z"⟩ : MethodName) = true := by decide +kernel
theorem pn_1 : plainFor (⟨"java/lang/Math", "min", "(II)I"⟩ : MethodName) = true := by decide +kernel
theorem pn_2 : plainFor (⟨"java/lang/Math", "max", "(II)I"⟩ : MethodName) = true := by decide +kernel
theorem pn_0 : plainFor x = true := by decide +kernel
theorem d4_0 : decode jdk_30_method_1_code 0 = .ok (.aload_n 0, 1) := by decide +kernel
theorem d4_1 : decode jdk_30_method_1_code 1 = .ok (.invokespecial 1, 3) := by decide +kernel
theorem d4_4 : decode jdk_30_method_1_code 4 = .ok (.return_, 1) := by decide +kernel
theorem ef_c_rec (m : MethodId) (x0 : Addr) : entryFrame m #[(.ref x0)] 1 = mkF m 0 #[.val (.ref x0)] [] := by first | (simp [entryFrame, mkF, argsToLocals, Value.category, maxLocals]; done) | rfl
set_option maxRecDepth 65536 in
set_option maxHeartbeats 40000000 in
theorem c_rec (l : Launch) (Z : State) (a0 : Array Value) (hw : ∀ d ∈ tables_1, d.before a0 Z = true) (ws : List Jvm.Cond) (a : Addr) (h0 : Heap) (n0 : Nat) (Z0 : n0 ≤ h0.size)  :
    Ctr l Z (⟨"java/lang/Record", "<init>", "()V"⟩ : MethodName) jdk_30_method_1_code 1 none ws ({ frames := 1, cells := 0, slots := 0, locals := 12 } : Room) #[(.ref a)] h0 (fun v h L => v = none ∧ Fr n0 L ∧ h = h0) := by
  refine enter pn_4 ?_
  intro p e s m below meth c T0 X0 hx hby hml hret hlk hZ hown hnm e0
  have A0 := wk X0 hx hby
  have N0 := Fr.nil n0
  refine goIn (ef_c_rec m a) ?_
  show Go p e below m (Fini s 0 0 (fun v h L => v = none ∧ Fr n0 L ∧ h = h0)) T0 0 #[.val (.ref a)] []
  refine s_aloadN A0 d4_0 (pc' := 1) rfl rfl rfl ?_
  refine g_initO X0 hx hZ hown (hw _ (List.mem_of_getElem? (i := 18) rfl)) (hw _ (List.mem_of_getElem? (i := 19) rfl)) (hw _ (List.mem_of_getElem? (i := 20) rfl)) e0 (by rw [hml]; rfl) (hb hby d4_1) (pc' := 4) rfl (by decide) (W := 0) (Nat.le_of_eq rfl) (by decide) ?_
  intro T1 X1 e1
  have A1 := wk X1 hx hby
  exact g_retV X1 hx hlk hret (hb hby d4_4) ⟨rfl, N0, e1⟩ (by decide) (by decide)
theorem d3_0 : decode prog_69_method_1_code 0 = .ok (.aload_n 0, 1) := by decide +kernel
theorem d3_1 : decode prog_69_method_1_code 1 = .ok (.invokespecial 1, 3) := by decide +kernel
theorem d3_4 : decode prog_69_method_1_code 4 = .ok (.aload_n 0, 1) := by decide +kernel
theorem d3_5 : decode prog_69_method_1_code 5 = .ok (.dload_n 1, 1) := by decide +kernel
theorem d3_6 : decode prog_69_method_1_code 6 = .ok (.putfield 7, 3) := by decide +kernel
theorem d3_9 : decode prog_69_method_1_code 9 = .ok (.aload_n 0, 1) := by decide +kernel
theorem d3_10 : decode prog_69_method_1_code 10 = .ok (.dload_n 3, 1) := by decide +kernel
theorem d3_11 : decode prog_69_method_1_code 11 = .ok (.putfield 13, 3) := by decide +kernel
theorem d3_14 : decode prog_69_method_1_code 14 = .ok (.aload_n 0, 1) := by decide +kernel
theorem d3_15 : decode prog_69_method_1_code 15 = .ok (.dload 5, 2) := by decide +kernel
theorem d3_17 : decode prog_69_method_1_code 17 = .ok (.putfield 16, 3) := by decide +kernel
theorem d3_20 : decode prog_69_method_1_code 20 = .ok (.aload_n 0, 1) := by decide +kernel
theorem d3_21 : decode prog_69_method_1_code 21 = .ok (.dload 7, 2) := by decide +kernel
theorem d3_23 : decode prog_69_method_1_code 23 = .ok (.putfield 19, 3) := by decide +kernel
theorem d3_26 : decode prog_69_method_1_code 26 = .ok (.return_, 1) := by decide +kernel
theorem ef_c_new (m : MethodId) (x0 : Addr) (x1 : UInt64) (x2 : UInt64) (x3 : UInt64) (x4 : UInt64) : entryFrame m #[(.ref x0), (.double x1), (.double x2), (.double x3), (.double x4)] 9 = mkF m 0 #[.val (.ref x0), .val (.double x1), .second, .val (.double x2), .second, .val (.double x3), .second, .val (.double x4), .second] [] := by first | (simp [entryFrame, mkF, argsToLocals, Value.category, maxLocals]; done) | rfl
set_option maxRecDepth 65536 in
set_option maxHeartbeats 40000000 in
theorem c_new (l : Launch) (Z : State) (a0 : Array Value) (hw : ∀ d ∈ tables_1, d.before a0 Z = true) (ws : List Jvm.Cond) (a : Addr) (q0 : UInt64) (q1 : UInt64) (q2 : UInt64) (q3 : UInt64) (h0 : Heap) (n0 : Nat) (Z0 : n0 ≤ h0.size) (Ea : Exa Z h0 a "com/example/alluvia/alluvia/store/Region$Rectangle") (ga : n0 ≤ a) (F0 : Fld Z h0 a "com/example/alluvia/alluvia/store/Region$Rectangle" "minX" "D" (.double 0)) (F1 : Fld Z h0 a "com/example/alluvia/alluvia/store/Region$Rectangle" "minY" "D" (.double 0)) (F2 : Fld Z h0 a "com/example/alluvia/alluvia/store/Region$Rectangle" "maxX" "D" (.double 0)) (F3 : Fld Z h0 a "com/example/alluvia/alluvia/store/Region$Rectangle" "maxY" "D" (.double 0)) :
    Ctr l Z (⟨"com/example/alluvia/alluvia/store/Region$Rectangle", "<init>", "(DDDD)V"⟩ : MethodName) prog_69_method_1_code 9 none ws ({ frames := 2, cells := 0, slots := 0, locals := 24 } : Room) #[(.ref a), (.double q0), (.double q1), (.double q2), (.double q3)] h0 (fun v h L => v = none ∧ Fr n0 L ∧ Keep h0 h [a] ∧ Exa Z h a "com/example/alluvia/alluvia/store/Region$Rectangle" ∧ Fld Z h a "com/example/alluvia/alluvia/store/Region$Rectangle" "minX" "D" (.double q0) ∧ Fld Z h a "com/example/alluvia/alluvia/store/Region$Rectangle" "minY" "D" (.double q1) ∧ Fld Z h a "com/example/alluvia/alluvia/store/Region$Rectangle" "maxX" "D" (.double q2) ∧ Fld Z h a "com/example/alluvia/alluvia/store/Region$Rectangle" "maxY" "D" (.double q3)) := by
  refine enter pn_3 ?_
  intro p e s m below meth c T0 X0 hx hby hml hret hlk hZ hown hnm e0
  have A0 := wk X0 hx hby
  have N0 := Fr.nil n0
  refine goIn (ef_c_new m a q0 q1 q2 q3) ?_
  show Go p e below m (Fini s 0 0 (fun v h L => v = none ∧ Fr n0 L ∧ Keep h0 h [a] ∧ Exa Z h a "com/example/alluvia/alluvia/store/Region$Rectangle" ∧ Fld Z h a "com/example/alluvia/alluvia/store/Region$Rectangle" "minX" "D" (.double q0) ∧ Fld Z h a "com/example/alluvia/alluvia/store/Region$Rectangle" "minY" "D" (.double q1) ∧ Fld Z h a "com/example/alluvia/alluvia/store/Region$Rectangle" "maxX" "D" (.double q2) ∧ Fld Z h a "com/example/alluvia/alluvia/store/Region$Rectangle" "maxY" "D" (.double q3))) T0 0 #[.val (.ref a), .val (.double q0), .second, .val (.double q1), .second, .val (.double q2), .second, .val (.double q3), .second] []
  refine s_aloadN A0 d3_0 (pc' := 1) rfl rfl rfl ?_
  refine g_special X0 hx hZ (y := (⟨"java/lang/Record", "<init>", "()V"⟩ : MethodName)) rfl hown (hw _ (List.mem_of_getElem? (i := 13) rfl)) (hw _ (List.mem_of_getElem? (i := 14) rfl)) (hw _ (List.mem_of_getElem? (i := 16) rfl)) (hw _ (List.mem_of_getElem? (i := 17) rfl)) (by decide) (a := a) (argsL := []) (rest := []) (c_rec l Z a0 hw [] a h0 n0 Z0) pd_0 rfl rfl (hb hby d3_1) e0 (by rw [hml]; rfl) (pc' := 4) rfl (by decide) (W := 0) (Nat.le_of_eq rfl) (by decide) (by decide) (by decide) ?_
  intro v1 T1 L1 X1 hQ1
  have A1 := wk X1 hx hby
  have e1 : T1.heap = T1.heap := rfl
  obtain ⟨rfl, N1, hh1⟩ := hQ1
  have e1 : T1.heap = h0 := hh1
  have NF := Fr.app N0 N1
  show Go p e below m (Fini s 0 0 (fun v h L => v = none ∧ Fr n0 L ∧ Keep h0 h [a] ∧ Exa Z h a "com/example/alluvia/alluvia/store/Region$Rectangle" ∧ Fld Z h a "com/example/alluvia/alluvia/store/Region$Rectangle" "minX" "D" (.double q0) ∧ Fld Z h a "com/example/alluvia/alluvia/store/Region$Rectangle" "minY" "D" (.double q1) ∧ Fld Z h a "com/example/alluvia/alluvia/store/Region$Rectangle" "maxX" "D" (.double q2) ∧ Fld Z h a "com/example/alluvia/alluvia/store/Region$Rectangle" "maxY" "D" (.double q3))) T1 4 #[.val (.ref a), .val (.double q0), .second, .val (.double q1), .second, .val (.double q2), .second, .val (.double q3), .second] []
  refine s_aloadN A1 d3_4 (pc' := 5) rfl rfl rfl ?_
  refine s_dloadN A1 d3_5 (pc' := 6) rfl rfl ?_
  refine g_putF X1 hx hZ hown (hw _ (List.mem_of_getElem? (i := 21) rfl)) Via.refl e1 F0 Ea (Or.inr ⟨(hw _ (List.mem_of_getElem? (i := 22) rfl)), rfl, hnm⟩) (hw _ (List.mem_of_getElem? (i := 8) rfl)) (ty := .double) (by decide) rfl rfl (hb hby d3_6) (pc' := 9) rfl ?_
  intro T2 h2 X2 e2 W2
  have A2 := wk X2 hx hby
  have N2 := Fr.snoc X2 NF ga
  have K2 := Keep.wr (ws := [a]) (Keep.refl _ _) W2 (Or.inl (List.mem_of_getElem? (i := 0) rfl))
  have Ea2 := Exa.wr W2 Ea
  have F2_0 := Fld.same W2 F0
  have F2_1 := Fld.other W2 F1 (Or.inr (slot_ne (Or.inr (hw _ (List.mem_of_getElem? (i := 24) rfl))) (Or.inr (hw _ (List.mem_of_getElem? (i := 22) rfl))) (by decide) (t := .double) (by decide) (t' := .double) (by decide)))
  have F2_2 := Fld.other W2 F2 (Or.inr (slot_ne (Or.inr (hw _ (List.mem_of_getElem? (i := 26) rfl))) (Or.inr (hw _ (List.mem_of_getElem? (i := 22) rfl))) (by decide) (t := .double) (by decide) (t' := .double) (by decide)))
  have F2_3 := Fld.other W2 F3 (Or.inr (slot_ne (Or.inr (hw _ (List.mem_of_getElem? (i := 28) rfl))) (Or.inr (hw _ (List.mem_of_getElem? (i := 22) rfl))) (by decide) (t := .double) (by decide) (t' := .double) (by decide)))
  refine s_aloadN A2 d3_9 (pc' := 10) rfl rfl rfl ?_
  refine s_dloadN A2 d3_10 (pc' := 11) rfl rfl ?_
  refine g_putF X2 hx hZ hown (hw _ (List.mem_of_getElem? (i := 23) rfl)) Via.refl e2 F2_1 Ea2 (Or.inr ⟨(hw _ (List.mem_of_getElem? (i := 24) rfl)), rfl, hnm⟩) (hw _ (List.mem_of_getElem? (i := 8) rfl)) (ty := .double) (by decide) rfl rfl (hb hby d3_11) (pc' := 14) rfl ?_
  intro T3 h3 X3 e3 W3
  have A3 := wk X3 hx hby
  have N3 := Fr.snoc X3 N2 ga
  have K3 := Keep.wr (ws := [a]) K2 W3 (Or.inl (List.mem_of_getElem? (i := 0) rfl))
  have Ea3 := Exa.wr W3 Ea2
  have F3_0 := Fld.other W3 F2_0 (Or.inr (slot_ne (Or.inr (hw _ (List.mem_of_getElem? (i := 22) rfl))) (Or.inr (hw _ (List.mem_of_getElem? (i := 24) rfl))) (by decide) (t := .double) (by decide) (t' := .double) (by decide)))
  have F3_1 := Fld.same W3 F2_1
  have F3_2 := Fld.other W3 F2_2 (Or.inr (slot_ne (Or.inr (hw _ (List.mem_of_getElem? (i := 26) rfl))) (Or.inr (hw _ (List.mem_of_getElem? (i := 24) rfl))) (by decide) (t := .double) (by decide) (t' := .double) (by decide)))
  have F3_3 := Fld.other W3 F2_3 (Or.inr (slot_ne (Or.inr (hw _ (List.mem_of_getElem? (i := 28) rfl))) (Or.inr (hw _ (List.mem_of_getElem? (i := 24) rfl))) (by decide) (t := .double) (by decide) (t' := .double) (by decide)))
  refine s_aloadN A3 d3_14 (pc' := 15) rfl rfl rfl ?_
  refine s_dload A3 d3_15 (pc' := 17) rfl rfl ?_
  refine g_putF X3 hx hZ hown (hw _ (List.mem_of_getElem? (i := 25) rfl)) Via.refl e3 F3_2 Ea3 (Or.inr ⟨(hw _ (List.mem_of_getElem? (i := 26) rfl)), rfl, hnm⟩) (hw _ (List.mem_of_getElem? (i := 8) rfl)) (ty := .double) (by decide) rfl rfl (hb hby d3_17) (pc' := 20) rfl ?_
  intro T4 h4 X4 e4 W4
  have A4 := wk X4 hx hby
  have N4 := Fr.snoc X4 N3 ga
  have K4 := Keep.wr (ws := [a]) K3 W4 (Or.inl (List.mem_of_getElem? (i := 0) rfl))
  have Ea4 := Exa.wr W4 Ea3
  have F4_0 := Fld.other W4 F3_0 (Or.inr (slot_ne (Or.inr (hw _ (List.mem_of_getElem? (i := 22) rfl))) (Or.inr (hw _ (List.mem_of_getElem? (i := 26) rfl))) (by decide) (t := .double) (by decide) (t' := .double) (by decide)))
  have F4_1 := Fld.other W4 F3_1 (Or.inr (slot_ne (Or.inr (hw _ (List.mem_of_getElem? (i := 24) rfl))) (Or.inr (hw _ (List.mem_of_getElem? (i := 26) rfl))) (by decide) (t := .double) (by decide) (t' := .double) (by decide)))
  have F4_2 := Fld.same W4 F3_2
  have F4_3 := Fld.other W4 F3_3 (Or.inr (slot_ne (Or.inr (hw _ (List.mem_of_getElem? (i := 28) rfl))) (Or.inr (hw _ (List.mem_of_getElem? (i := 26) rfl))) (by decide) (t := .double) (by decide) (t' := .double) (by decide)))
  refine s_aloadN A4 d3_20 (pc' := 21) rfl rfl rfl ?_
  refine s_dload A4 d3_21 (pc' := 23) rfl rfl ?_
  refine g_putF X4 hx hZ hown (hw _ (List.mem_of_getElem? (i := 27) rfl)) Via.refl e4 F4_3 Ea4 (Or.inr ⟨(hw _ (List.mem_of_getElem? (i := 28) rfl)), rfl, hnm⟩) (hw _ (List.mem_of_getElem? (i := 8) rfl)) (ty := .double) (by decide) rfl rfl (hb hby d3_23) (pc' := 26) rfl ?_
  intro T5 h5 X5 e5 W5
  have A5 := wk X5 hx hby
  have N5 := Fr.snoc X5 N4 ga
  have K5 := Keep.wr (ws := [a]) K4 W5 (Or.inl (List.mem_of_getElem? (i := 0) rfl))
  have Ea5 := Exa.wr W5 Ea4
  have F5_0 := Fld.other W5 F4_0 (Or.inr (slot_ne (Or.inr (hw _ (List.mem_of_getElem? (i := 22) rfl))) (Or.inr (hw _ (List.mem_of_getElem? (i := 28) rfl))) (by decide) (t := .double) (by decide) (t' := .double) (by decide)))
  have F5_1 := Fld.other W5 F4_1 (Or.inr (slot_ne (Or.inr (hw _ (List.mem_of_getElem? (i := 24) rfl))) (Or.inr (hw _ (List.mem_of_getElem? (i := 28) rfl))) (by decide) (t := .double) (by decide) (t' := .double) (by decide)))
  have F5_2 := Fld.other W5 F4_2 (Or.inr (slot_ne (Or.inr (hw _ (List.mem_of_getElem? (i := 26) rfl))) (Or.inr (hw _ (List.mem_of_getElem? (i := 28) rfl))) (by decide) (t := .double) (by decide) (t' := .double) (by decide)))
  have F5_3 := Fld.same W5 F4_3
  exact g_retV X5 hx hlk hret (hb hby d3_26) (by rw [e5]; exact ⟨rfl, N5, K5, Ea5, F5_0, F5_1, F5_2, F5_3⟩) (by decide) (by decide)
theorem d6_0 : decode prog_69_method_4_code 0 = .ok (.aload_n 0, 1) := by decide +kernel
theorem d6_1 : decode prog_69_method_4_code 1 = .ok (.getfield 7, 3) := by decide +kernel
theorem d6_4 : decode prog_69_method_4_code 4 = .ok (.dload 5, 2) := by decide +kernel
theorem d6_6 : decode prog_69_method_4_code 6 = .ok (.dcmp .g, 1) := by decide +kernel
theorem d6_7 : decode prog_69_method_4_code 7 = .ok (.ifCond .gt 35, 3) := by decide +kernel
theorem d6_10 : decode prog_69_method_4_code 10 = .ok (.dload_n 1, 1) := by decide +kernel
theorem d6_11 : decode prog_69_method_4_code 11 = .ok (.aload_n 0, 1) := by decide +kernel
theorem d6_12 : decode prog_69_method_4_code 12 = .ok (.getfield 16, 3) := by decide +kernel
theorem d6_15 : decode prog_69_method_4_code 15 = .ok (.dcmp .g, 1) := by decide +kernel
theorem d6_16 : decode prog_69_method_4_code 16 = .ok (.ifCond .gt 26, 3) := by decide +kernel
theorem d6_19 : decode prog_69_method_4_code 19 = .ok (.aload_n 0, 1) := by decide +kernel
theorem d6_20 : decode prog_69_method_4_code 20 = .ok (.getfield 13, 3) := by decide +kernel
theorem d6_23 : decode prog_69_method_4_code 23 = .ok (.dload 7, 2) := by decide +kernel
theorem d6_25 : decode prog_69_method_4_code 25 = .ok (.dcmp .g, 1) := by decide +kernel
theorem d6_26 : decode prog_69_method_4_code 26 = .ok (.ifCond .gt 16, 3) := by decide +kernel
theorem d6_29 : decode prog_69_method_4_code 29 = .ok (.dload_n 3, 1) := by decide +kernel
theorem d6_30 : decode prog_69_method_4_code 30 = .ok (.aload_n 0, 1) := by decide +kernel
theorem d6_31 : decode prog_69_method_4_code 31 = .ok (.getfield 19, 3) := by decide +kernel
theorem d6_34 : decode prog_69_method_4_code 34 = .ok (.dcmp .g, 1) := by decide +kernel
theorem d6_35 : decode prog_69_method_4_code 35 = .ok (.ifCond .gt 7, 3) := by decide +kernel
theorem d6_38 : decode prog_69_method_4_code 38 = .ok (.iconst 1, 1) := by decide +kernel
theorem d6_39 : decode prog_69_method_4_code 39 = .ok (.goto 4, 3) := by decide +kernel
theorem d6_42 : decode prog_69_method_4_code 42 = .ok (.iconst 0, 1) := by decide +kernel
theorem d6_43 : decode prog_69_method_4_code 43 = .ok (.ireturn, 1) := by decide +kernel
theorem ef_c_meets (m : MethodId) (x0 : Addr) (x1 : UInt64) (x2 : UInt64) (x3 : UInt64) (x4 : UInt64) : entryFrame m #[(.ref x0), (.double x1), (.double x2), (.double x3), (.double x4)] 9 = mkF m 0 #[.val (.ref x0), .val (.double x1), .second, .val (.double x2), .second, .val (.double x3), .second, .val (.double x4), .second] [] := by first | (simp [entryFrame, mkF, argsToLocals, Value.category, maxLocals]; done) | rfl
set_option maxRecDepth 65536 in
set_option maxHeartbeats 40000000 in
theorem c_meets (l : Launch) (Z : State) (a0 : Array Value) (hw : ∀ d ∈ tables_1, d.before a0 Z = true) (ws : List Jvm.Cond) (a : Addr) (d0 d1 d2 d3 x0 x1 x2 x3 : UInt64) (m0 m1 m2 m3 u0 u1 u2 u3 : Int) (h0 : Heap) (n0 : Nat) (Z0 : n0 ≤ h0.size) (F0 : Fld Z h0 a "com/example/alluvia/alluvia/store/Region$Rectangle" "minX" "D" (.double d0)) (F1 : Fld Z h0 a "com/example/alluvia/alluvia/store/Region$Rectangle" "minY" "D" (.double d1)) (F2 : Fld Z h0 a "com/example/alluvia/alluvia/store/Region$Rectangle" "maxX" "D" (.double d2)) (F3 : Fld Z h0 a "com/example/alluvia/alluvia/store/Region$Rectangle" "maxY" "D" (.double d3)) (D0 : Dy m0 0 d0) (D1 : Dy m1 0 d1) (D2 : Dy m2 0 d2) (D3 : Dy m3 0 d3) (U0 : Dy u0 0 x0) (U1 : Dy u1 0 x1) (U2 : Dy u2 0 x2) (U3 : Dy u3 0 x3) (Bm0 : -2147483648 ≤ m0 ∧ m0 < 2147483648) (Bm1 : -2147483648 ≤ m1 ∧ m1 < 2147483648) (Bm2 : -2147483648 ≤ m2 ∧ m2 < 2147483648) (Bm3 : -2147483648 ≤ m3 ∧ m3 < 2147483648) (Bu0 : -2147483648 ≤ u0 ∧ u0 < 2147483648) (Bu1 : -2147483648 ≤ u1 ∧ u1 < 2147483648) (Bu2 : -2147483648 ≤ u2 ∧ u2 < 2147483648) (Bu3 : -2147483648 ≤ u3 ∧ u3 < 2147483648) :
    Ctr l Z (⟨"com/example/alluvia/alluvia/store/Region$Rectangle", "meets", "(DDDD)Z"⟩ : MethodName) prog_69_method_4_code 9 (some .boolean) ws ({ frames := 0, cells := 0, slots := 0, locals := 0 } : Room) #[(.ref a), (.double x0), (.double x1), (.double x2), (.double x3)] h0 (fun v h L => ∃ z : Int32, v = some (.int z) ∧ (z.toInt = 1 ∧ (m0 ≤ u2 ∧ u0 ≤ m2 ∧ m1 ≤ u3 ∧ u1 ≤ m3) ∨ z.toInt = 0 ∧ ¬ (m0 ≤ u2 ∧ u0 ≤ m2 ∧ m1 ≤ u3 ∧ u1 ≤ m3)) ∧ Fr n0 L ∧ h = h0) := by
  refine enter pn_6 ?_
  intro p e s m below meth c T0 X0 hx hby hml hret hlk hZ hown hnm e0
  have A0 := wk X0 hx hby
  have N0 := Fr.nil n0
  refine goIn (ef_c_meets m a x0 x1 x2 x3) ?_
  show Go p e below m (Fini s 0 0 (fun v h L => ∃ z : Int32, v = some (.int z) ∧ (z.toInt = 1 ∧ (m0 ≤ u2 ∧ u0 ≤ m2 ∧ m1 ≤ u3 ∧ u1 ≤ m3) ∨ z.toInt = 0 ∧ ¬ (m0 ≤ u2 ∧ u0 ≤ m2 ∧ m1 ≤ u3 ∧ u1 ≤ m3)) ∧ Fr n0 L ∧ h = h0)) T0 0 #[.val (.ref a), .val (.double x0), .second, .val (.double x1), .second, .val (.double x2), .second, .val (.double x3), .second] []
  refine s_aloadN A0 d6_0 (pc' := 1) rfl rfl rfl ?_
  refine g_getF X0 hx hZ hown (hw _ (List.mem_of_getElem? (i := 21) rfl)) Via.refl e0 F0 (hb hby d6_1) (pc' := 4) rfl ?_
  intro T1 X1 e1
  have A1 := wk X1 hx hby
  refine s_dload A1 d6_4 (pc' := 6) rfl rfl ?_
  refine s_dcmp A1 d6_6 (pc' := 7) rfl (Dy.cl D0 U2 .g) ?_
  refine s_ifgt A1 d6_7 (pY := 42) (pN := 10) (by decide) (by decide) rfl ?_ ?_
  · intro c7
    replace c7 := cmpI_gt c7
    refine s_iconst A1 d6_42 (pc' := 43) rfl (v := (0 : Int32)) (by decide) ?_
    exact g_retZ X1 hx hlk hret (by decide) (hb hby d6_43) ⟨_, rfl, Or.inr ⟨by decide, by omega⟩, N0, e1⟩ (by decide) (by decide)
  · intro c7
    replace c7 := cmpI_le c7
    refine s_dloadN A1 d6_10 (pc' := 11) rfl rfl ?_
    refine s_aloadN A1 d6_11 (pc' := 12) rfl rfl rfl ?_
    refine g_getF X1 hx hZ hown (hw _ (List.mem_of_getElem? (i := 25) rfl)) Via.refl e1 F2 (hb hby d6_12) (pc' := 15) rfl ?_
    intro T2 X2 e2
    have A2 := wk X2 hx hby
    refine s_dcmp A2 d6_15 (pc' := 16) rfl (Dy.cl U0 D2 .g) ?_
    refine s_ifgt A2 d6_16 (pY := 42) (pN := 19) (by decide) (by decide) rfl ?_ ?_
    · intro c16
      replace c16 := cmpI_gt c16
      refine s_iconst A2 d6_42 (pc' := 43) rfl (v := (0 : Int32)) (by decide) ?_
      exact g_retZ X2 hx hlk hret (by decide) (hb hby d6_43) ⟨_, rfl, Or.inr ⟨by decide, by omega⟩, N0, e2⟩ (by decide) (by decide)
    · intro c16
      replace c16 := cmpI_le c16
      refine s_aloadN A2 d6_19 (pc' := 20) rfl rfl rfl ?_
      refine g_getF X2 hx hZ hown (hw _ (List.mem_of_getElem? (i := 23) rfl)) Via.refl e2 F1 (hb hby d6_20) (pc' := 23) rfl ?_
      intro T3 X3 e3
      have A3 := wk X3 hx hby
      refine s_dload A3 d6_23 (pc' := 25) rfl rfl ?_
      refine s_dcmp A3 d6_25 (pc' := 26) rfl (Dy.cl D1 U3 .g) ?_
      refine s_ifgt A3 d6_26 (pY := 42) (pN := 29) (by decide) (by decide) rfl ?_ ?_
      · intro c26
        replace c26 := cmpI_gt c26
        refine s_iconst A3 d6_42 (pc' := 43) rfl (v := (0 : Int32)) (by decide) ?_
        exact g_retZ X3 hx hlk hret (by decide) (hb hby d6_43) ⟨_, rfl, Or.inr ⟨by decide, by omega⟩, N0, e3⟩ (by decide) (by decide)
      · intro c26
        replace c26 := cmpI_le c26
        refine s_dloadN A3 d6_29 (pc' := 30) rfl rfl ?_
        refine s_aloadN A3 d6_30 (pc' := 31) rfl rfl rfl ?_
        refine g_getF X3 hx hZ hown (hw _ (List.mem_of_getElem? (i := 27) rfl)) Via.refl e3 F3 (hb hby d6_31) (pc' := 34) rfl ?_
        intro T4 X4 e4
        have A4 := wk X4 hx hby
        refine s_dcmp A4 d6_34 (pc' := 35) rfl (Dy.cl U1 D3 .g) ?_
        refine s_ifgt A4 d6_35 (pY := 42) (pN := 38) (by decide) (by decide) rfl ?_ ?_
        · intro c35
          replace c35 := cmpI_gt c35
          refine s_iconst A4 d6_42 (pc' := 43) rfl (v := (0 : Int32)) (by decide) ?_
          exact g_retZ X4 hx hlk hret (by decide) (hb hby d6_43) ⟨_, rfl, Or.inr ⟨by decide, by omega⟩, N0, e4⟩ (by decide) (by decide)
        · intro c35
          replace c35 := cmpI_le c35
          refine s_iconst A4 d6_38 (pc' := 39) rfl (v := (1 : Int32)) (by decide) ?_
          refine s_goto A4 d6_39 (pc' := 43) (by decide) (by decide) ?_
          exact g_retZ X4 hx hlk hret (by decide) (hb hby d6_43) ⟨_, rfl, Or.inl ⟨by decide, by omega⟩, N0, e4⟩ (by decide) (by decide)
theorem d1_0 : decode jdk_29_method_69_code 0 = .ok (.iload_n 0, 1) := by decide +kernel
theorem d1_1 : decode jdk_29_method_69_code 1 = .ok (.iload_n 1, 1) := by decide +kernel
theorem d1_2 : decode jdk_29_method_69_code 2 = .ok (.if_icmp .gt 7, 3) := by decide +kernel
theorem d1_5 : decode jdk_29_method_69_code 5 = .ok (.iload_n 0, 1) := by decide +kernel
theorem d1_6 : decode jdk_29_method_69_code 6 = .ok (.goto 4, 3) := by decide +kernel
theorem d1_9 : decode jdk_29_method_69_code 9 = .ok (.iload_n 1, 1) := by decide +kernel
theorem d1_10 : decode jdk_29_method_69_code 10 = .ok (.ireturn, 1) := by decide +kernel
theorem ef_c_minI (m : MethodId) (x0 : Int32) (x1 : Int32) : entryFrame m #[(.int x0), (.int x1)] 2 = mkF m 0 #[.val (.int x0), .val (.int x1)] [] := by first | (simp [entryFrame, mkF, argsToLocals, Value.category, maxLocals]; done) | rfl
set_option maxRecDepth 65536 in
set_option maxHeartbeats 40000000 in
theorem c_minI (l : Launch) (Z : State) (a0 : Array Value) (hw : ∀ d ∈ tables_1, d.before a0 Z = true) (ws : List Jvm.Cond) (x y : Int32) (h0 : Heap) (n0 : Nat) (Z0 : n0 ≤ h0.size)  :
    Ctr l Z (⟨"java/lang/Math", "min", "(II)I"⟩ : MethodName) jdk_29_method_69_code 2 (some .int) ws ({ frames := 0, cells := 0, slots := 0, locals := 0 } : Room) #[(.int x), (.int y)] h0 (fun v h L => ∃ z : Int32, v = some (.int z) ∧ z.toInt = min x.toInt y.toInt ∧ Fr n0 L ∧ h = h0) := by
  refine enter pn_1 ?_
  intro p e s m below meth c T0 X0 hx hby hml hret hlk hZ hown hnm e0
  have A0 := wk X0 hx hby
  have N0 := Fr.nil n0
  refine goIn (ef_c_minI m x y) ?_
  show Go p e below m (Fini s 0 0 (fun v h L => ∃ z : Int32, v = some (.int z) ∧ z.toInt = min x.toInt y.toInt ∧ Fr n0 L ∧ h = h0)) T0 0 #[.val (.int x), .val (.int y)] []
  refine s_iloadN A0 d1_0 (pc' := 1) rfl rfl ?_
  refine s_iloadN A0 d1_1 (pc' := 2) rfl rfl ?_
  refine s_icmpgt A0 d1_2 (pY := 9) (pN := 5) (by decide) (by decide) rfl ?_ ?_
  · intro c2
    replace c2 := i_gt c2
    refine s_iloadN A0 d1_9 (pc' := 10) rfl rfl ?_
    exact g_retI X0 hx hlk hret (hb hby d1_10) ⟨_, rfl, by omega, N0, e0⟩ (by decide) (by decide)
  · intro c2
    replace c2 := i_le c2
    refine s_iloadN A0 d1_5 (pc' := 6) rfl rfl ?_
    refine s_goto A0 d1_6 (pc' := 10) (by decide) (by decide) ?_
    exact g_retI X0 hx hlk hret (hb hby d1_10) ⟨_, rfl, by omega, N0, e0⟩ (by decide) (by decide)
theorem d2_0 : decode jdk_29_method_65_code 0 = .ok (.iload_n 0, 1) := by decide +kernel
theorem d2_1 : decode jdk_29_method_65_code 1 = .ok (.iload_n 1, 1) := by decide +kernel
theorem d2_2 : decode jdk_29_method_65_code 2 = .ok (.if_icmp .lt 7, 3) := by decide +kernel
theorem d2_5 : decode jdk_29_method_65_code 5 = .ok (.iload_n 0, 1) := by decide +kernel
theorem d2_6 : decode jdk_29_method_65_code 6 = .ok (.goto 4, 3) := by decide +kernel
theorem d2_9 : decode jdk_29_method_65_code 9 = .ok (.iload_n 1, 1) := by decide +kernel
theorem d2_10 : decode jdk_29_method_65_code 10 = .ok (.ireturn, 1) := by decide +kernel
theorem ef_c_maxI (m : MethodId) (x0 : Int32) (x1 : Int32) : entryFrame m #[(.int x0), (.int x1)] 2 = mkF m 0 #[.val (.int x0), .val (.int x1)] [] := by first | (simp [entryFrame, mkF, argsToLocals, Value.category, maxLocals]; done) | rfl
set_option maxRecDepth 65536 in
set_option maxHeartbeats 40000000 in
theorem c_maxI (l : Launch) (Z : State) (a0 : Array Value) (hw : ∀ d ∈ tables_1, d.before a0 Z = true) (ws : List Jvm.Cond) (x y : Int32) (h0 : Heap) (n0 : Nat) (Z0 : n0 ≤ h0.size)  :
    Ctr l Z (⟨"java/lang/Math", "max", "(II)I"⟩ : MethodName) jdk_29_method_65_code 2 (some .int) ws ({ frames := 0, cells := 0, slots := 0, locals := 0 } : Room) #[(.int x), (.int y)] h0 (fun v h L => ∃ z : Int32, v = some (.int z) ∧ z.toInt = max x.toInt y.toInt ∧ Fr n0 L ∧ h = h0) := by
  refine enter pn_2 ?_
  intro p e s m below meth c T0 X0 hx hby hml hret hlk hZ hown hnm e0
  have A0 := wk X0 hx hby
  have N0 := Fr.nil n0
  refine goIn (ef_c_maxI m x y) ?_
  show Go p e below m (Fini s 0 0 (fun v h L => ∃ z : Int32, v = some (.int z) ∧ z.toInt = max x.toInt y.toInt ∧ Fr n0 L ∧ h = h0)) T0 0 #[.val (.int x), .val (.int y)] []
  refine s_iloadN A0 d2_0 (pc' := 1) rfl rfl ?_
  refine s_iloadN A0 d2_1 (pc' := 2) rfl rfl ?_
  refine s_icmplt A0 d2_2 (pY := 9) (pN := 5) (by decide) (by decide) rfl ?_ ?_
  · intro c2
    replace c2 := i_lt c2
    refine s_iloadN A0 d2_9 (pc' := 10) rfl rfl ?_
    exact g_retI X0 hx hlk hret (hb hby d2_10) ⟨_, rfl, by omega, N0, e0⟩ (by decide) (by decide)
  · intro c2
    replace c2 := i_ge c2
    refine s_iloadN A0 d2_5 (pc' := 6) rfl rfl ?_
    refine s_goto A0 d2_6 (pc' := 10) (by decide) (by decide) ?_
    exact g_retI X0 hx hlk hret (hb hby d2_10) ⟨_, rfl, by omega, N0, e0⟩ (by decide) (by decide)
theorem ef_c_law (m : MethodId) (x0 : Int64) (x1 : Int64) (x2 : Int64) (x3 : Int64) : entryFrame m #[(.long x0), (.long x1), (.long x2), (.long x3)] maxLocals = mkF m 0 #[.val (.long x0), .second, .val (.long x1), .second, .val (.long x2), .second, .val (.long x3), .second, .unset, .unset, .unset, .unset, .unset, .unset, .unset, .unset, .unset, .unset, .unset, .unset, .unset, .unset, .unset, .unset, .unset, .unset, .unset, .unset, .unset] [] := by first | (simp [entryFrame, mkF, argsToLocals, Value.category, maxLocals]; done) | rfl
set_option maxRecDepth 65536 in
set_option maxHeartbeats 40000000 in
theorem c_law (l : Launch) (Z : State) (a0 : Array Value) (hw : ∀ d ∈ tables_1, d.before a0 Z = true) (ws : List Jvm.Cond) (p0 : Int64) (p1 : Int64) (p2 : Int64) (p3 : Int64) (h0 : Heap) (n0 : Nat) (Z0 : n0 ≤ h0.size)  :
    Ctr l Z x code maxLocals ret ws room_1 #[(.long p0), (.long p1), (.long p2), (.long p3)] h0 (fun v h L => v = some (.int 1) ∧ Fr n0 L) := by
  refine enter pn_0 ?_
  intro p e s m below meth c T0 X0 hx hby hml hret hlk hZ hown hnm e0
  have A0 := wk X0 hx hby
  have N0 := Fr.nil n0
  refine goIn (ef_c_law m p0 p1 p2 p3) ?_
  show Go p e below m (Fini s room_1.cells room_1.slots (fun v h L => v = some (.int 1) ∧ Fr n0 L)) T0 0 #[.val (.long p0), .second, .val (.long p1), .second, .val (.long p2), .second, .val (.long p3), .second, .unset, .unset, .unset, .unset, .unset, .unset, .unset, .unset, .unset, .unset, .unset, .unset, .unset, .unset, .unset, .unset, .unset, .unset, .unset, .unset, .unset] []
  refine s_lloadN A0 at_0 (pc' := 1) rfl rfl ?_
  obtain ⟨z1, hz1⟩ : ∃ v : Int32, p0.toInt32 = v := ⟨_, rfl⟩
  have b1 := i32b z1
  refine s_l2i A0 at_1 (pc' := 2) rfl hz1 ?_
  refine s_istore A0 at_2 (pc' := 4) rfl (ls' := #[.val (.long p0), .second, .val (.long p1), .second, .val (.long p2), .second, .val (.long p3), .second, .val (.int z1), .unset, .unset, .unset, .unset, .unset, .unset, .unset, .unset, .unset, .unset, .unset, .unset, .unset, .unset, .unset, .unset, .unset, .unset, .unset, .unset]) rfl ?_
  refine s_lloadN A0 at_4 (pc' := 5) rfl rfl ?_
  refine s_bipush A0 at_5 (pc' := 7) rfl (v := (32 : Int32)) (by decide) ?_
  refine s_lushr A0 at_7 (pc' := 8) rfl rfl ?_
  obtain ⟨z2, hz2⟩ : ∃ v : Int32, (XT.ushrL p0 (32 : Int32)).toInt32 = v := ⟨_, rfl⟩
  have b2 := i32b z2
  refine s_l2i A0 at_8 (pc' := 9) rfl hz2 ?_
  refine s_istore A0 at_9 (pc' := 11) rfl (ls' := #[.val (.long p0), .second, .val (.long p1), .second, .val (.long p2), .second, .val (.long p3), .second, .val (.int z1), .val (.int z2), .unset, .unset, .unset, .unset, .unset, .unset, .unset, .unset, .unset, .unset, .unset, .unset, .unset, .unset, .unset, .unset, .unset, .unset, .unset]) rfl ?_
  refine s_lloadN A0 at_11 (pc' := 12) rfl rfl ?_
  obtain ⟨z3, hz3⟩ : ∃ v : Int32, p1.toInt32 = v := ⟨_, rfl⟩
  have b3 := i32b z3
  refine s_l2i A0 at_12 (pc' := 13) rfl hz3 ?_
  refine s_istore A0 at_13 (pc' := 15) rfl (ls' := #[.val (.long p0), .second, .val (.long p1), .second, .val (.long p2), .second, .val (.long p3), .second, .val (.int z1), .val (.int z2), .val (.int z3), .unset, .unset, .unset, .unset, .unset, .unset, .unset, .unset, .unset, .unset, .unset, .unset, .unset, .unset, .unset, .unset, .unset, .unset]) rfl ?_
  refine s_lloadN A0 at_15 (pc' := 16) rfl rfl ?_
  refine s_bipush A0 at_16 (pc' := 18) rfl (v := (32 : Int32)) (by decide) ?_
  refine s_lushr A0 at_18 (pc' := 19) rfl rfl ?_
  obtain ⟨z4, hz4⟩ : ∃ v : Int32, (XT.ushrL p1 (32 : Int32)).toInt32 = v := ⟨_, rfl⟩
  have b4 := i32b z4
  refine s_l2i A0 at_19 (pc' := 20) rfl hz4 ?_
  refine s_istore A0 at_20 (pc' := 22) rfl (ls' := #[.val (.long p0), .second, .val (.long p1), .second, .val (.long p2), .second, .val (.long p3), .second, .val (.int z1), .val (.int z2), .val (.int z3), .val (.int z4), .unset, .unset, .unset, .unset, .unset, .unset, .unset, .unset, .unset, .unset, .unset, .unset, .unset, .unset, .unset, .unset, .unset]) rfl ?_
  refine s_lload A0 at_22 (pc' := 24) rfl rfl ?_
  obtain ⟨z5, hz5⟩ : ∃ v : Int32, p2.toInt32 = v := ⟨_, rfl⟩
  have b5 := i32b z5
  refine s_l2i A0 at_24 (pc' := 25) rfl hz5 ?_
  refine s_istore A0 at_25 (pc' := 27) rfl (ls' := #[.val (.long p0), .second, .val (.long p1), .second, .val (.long p2), .second, .val (.long p3), .second, .val (.int z1), .val (.int z2), .val (.int z3), .val (.int z4), .val (.int z5), .unset, .unset, .unset, .unset, .unset, .unset, .unset, .unset, .unset, .unset, .unset, .unset, .unset, .unset, .unset, .unset]) rfl ?_
  refine s_lload A0 at_27 (pc' := 29) rfl rfl ?_
  refine s_bipush A0 at_29 (pc' := 31) rfl (v := (32 : Int32)) (by decide) ?_
  refine s_lushr A0 at_31 (pc' := 32) rfl rfl ?_
  obtain ⟨z6, hz6⟩ : ∃ v : Int32, (XT.ushrL p2 (32 : Int32)).toInt32 = v := ⟨_, rfl⟩
  have b6 := i32b z6
  refine s_l2i A0 at_32 (pc' := 33) rfl hz6 ?_
  refine s_istore A0 at_33 (pc' := 35) rfl (ls' := #[.val (.long p0), .second, .val (.long p1), .second, .val (.long p2), .second, .val (.long p3), .second, .val (.int z1), .val (.int z2), .val (.int z3), .val (.int z4), .val (.int z5), .val (.int z6), .unset, .unset, .unset, .unset, .unset, .unset, .unset, .unset, .unset, .unset, .unset, .unset, .unset, .unset, .unset]) rfl ?_
  refine s_lload A0 at_35 (pc' := 37) rfl rfl ?_
  obtain ⟨z7, hz7⟩ : ∃ v : Int32, p3.toInt32 = v := ⟨_, rfl⟩
  have b7 := i32b z7
  refine s_l2i A0 at_37 (pc' := 38) rfl hz7 ?_
  refine s_istore A0 at_38 (pc' := 40) rfl (ls' := #[.val (.long p0), .second, .val (.long p1), .second, .val (.long p2), .second, .val (.long p3), .second, .val (.int z1), .val (.int z2), .val (.int z3), .val (.int z4), .val (.int z5), .val (.int z6), .val (.int z7), .unset, .unset, .unset, .unset, .unset, .unset, .unset, .unset, .unset, .unset, .unset, .unset, .unset, .unset]) rfl ?_
  refine s_lload A0 at_40 (pc' := 42) rfl rfl ?_
  refine s_bipush A0 at_42 (pc' := 44) rfl (v := (32 : Int32)) (by decide) ?_
  refine s_lushr A0 at_44 (pc' := 45) rfl rfl ?_
  obtain ⟨z8, hz8⟩ : ∃ v : Int32, (XT.ushrL p3 (32 : Int32)).toInt32 = v := ⟨_, rfl⟩
  have b8 := i32b z8
  refine s_l2i A0 at_45 (pc' := 46) rfl hz8 ?_
  refine s_istore A0 at_46 (pc' := 48) rfl (ls' := #[.val (.long p0), .second, .val (.long p1), .second, .val (.long p2), .second, .val (.long p3), .second, .val (.int z1), .val (.int z2), .val (.int z3), .val (.int z4), .val (.int z5), .val (.int z6), .val (.int z7), .val (.int z8), .unset, .unset, .unset, .unset, .unset, .unset, .unset, .unset, .unset, .unset, .unset, .unset, .unset]) rfl ?_
  refine s_iload A0 at_48 (pc' := 50) rfl rfl ?_
  refine s_iload A0 at_50 (pc' := 52) rfl rfl ?_
  refine g_static X0 hx hZ (y := (⟨"java/lang/Math", "min", "(II)I"⟩ : MethodName)) hown (hw _ (List.mem_of_getElem? (i := 0) rfl)) (hw _ (List.mem_of_getElem? (i := 1) rfl)) (hw _ (List.mem_of_getElem? (i := 2) rfl)) (hw _ (List.mem_of_getElem? (i := 3) rfl)) (by decide) (argsL := [(.int z1), (.int z2)]) (rest := []) (c_minI l Z a0 hw [] z1 z2 h0 n0 Z0) pd_1 rfl rfl (hb hby at_52) e0 (by rw [hml]; rfl) (pc' := 55) rfl (by decide) (W := 0) (Nat.le_of_eq rfl) (by decide) (by decide) (by decide) ?_
  intro v9 T9 L9 X9 hQ9
  have A9 := wk X9 hx hby
  have e9 : T9.heap = T9.heap := rfl
  obtain ⟨z9, rfl, q9, N9, hh9⟩ := hQ9
  have e9 : T9.heap = h0 := hh9
  show Go p e below m (Fini s room_1.cells room_1.slots (fun v h L => v = some (.int 1) ∧ Fr n0 L)) T9 55 #[.val (.long p0), .second, .val (.long p1), .second, .val (.long p2), .second, .val (.long p3), .second, .val (.int z1), .val (.int z2), .val (.int z3), .val (.int z4), .val (.int z5), .val (.int z6), .val (.int z7), .val (.int z8), .unset, .unset, .unset, .unset, .unset, .unset, .unset, .unset, .unset, .unset, .unset, .unset, .unset] [(.int z9)]
  refine s_istore A9 at_55 (pc' := 57) rfl (ls' := #[.val (.long p0), .second, .val (.long p1), .second, .val (.long p2), .second, .val (.long p3), .second, .val (.int z1), .val (.int z2), .val (.int z3), .val (.int z4), .val (.int z5), .val (.int z6), .val (.int z7), .val (.int z8), .val (.int z9), .unset, .unset, .unset, .unset, .unset, .unset, .unset, .unset, .unset, .unset, .unset, .unset]) rfl ?_
  refine s_iload A9 at_57 (pc' := 59) rfl rfl ?_
  refine s_iload A9 at_59 (pc' := 61) rfl rfl ?_
  refine g_static X9 hx hZ (y := (⟨"java/lang/Math", "max", "(II)I"⟩ : MethodName)) hown (hw _ (List.mem_of_getElem? (i := 4) rfl)) (hw _ (List.mem_of_getElem? (i := 5) rfl)) (hw _ (List.mem_of_getElem? (i := 2) rfl)) (hw _ (List.mem_of_getElem? (i := 6) rfl)) (by decide) (argsL := [(.int z1), (.int z2)]) (rest := []) (c_maxI l Z a0 hw [] z1 z2 h0 n0 Z0) pd_1 rfl rfl (hb hby at_61) e9 (by rw [hml]; rfl) (pc' := 64) rfl (by decide) (W := 0) (Nat.le_of_eq rfl) (by decide) (by decide) (by decide) ?_
  intro v10 T10 L10 X10 hQ10
  have A10 := wk X10 hx hby
  have e10 : T10.heap = T10.heap := rfl
  obtain ⟨z10, rfl, q10, N10, hh10⟩ := hQ10
  have e10 : T10.heap = h0 := hh10
  show Go p e below m (Fini s room_1.cells room_1.slots (fun v h L => v = some (.int 1) ∧ Fr n0 L)) T10 64 #[.val (.long p0), .second, .val (.long p1), .second, .val (.long p2), .second, .val (.long p3), .second, .val (.int z1), .val (.int z2), .val (.int z3), .val (.int z4), .val (.int z5), .val (.int z6), .val (.int z7), .val (.int z8), .val (.int z9), .unset, .unset, .unset, .unset, .unset, .unset, .unset, .unset, .unset, .unset, .unset, .unset] [(.int z10)]
  refine s_istore A10 at_64 (pc' := 66) rfl (ls' := #[.val (.long p0), .second, .val (.long p1), .second, .val (.long p2), .second, .val (.long p3), .second, .val (.int z1), .val (.int z2), .val (.int z3), .val (.int z4), .val (.int z5), .val (.int z6), .val (.int z7), .val (.int z8), .val (.int z9), .val (.int z10), .unset, .unset, .unset, .unset, .unset, .unset, .unset, .unset, .unset, .unset, .unset]) rfl ?_
  refine s_iload A10 at_66 (pc' := 68) rfl rfl ?_
  refine s_iload A10 at_68 (pc' := 70) rfl rfl ?_
  refine g_static X10 hx hZ (y := (⟨"java/lang/Math", "min", "(II)I"⟩ : MethodName)) hown (hw _ (List.mem_of_getElem? (i := 0) rfl)) (hw _ (List.mem_of_getElem? (i := 1) rfl)) (hw _ (List.mem_of_getElem? (i := 2) rfl)) (hw _ (List.mem_of_getElem? (i := 3) rfl)) (by decide) (argsL := [(.int z3), (.int z4)]) (rest := []) (c_minI l Z a0 hw [] z3 z4 h0 n0 Z0) pd_1 rfl rfl (hb hby at_70) e10 (by rw [hml]; rfl) (pc' := 73) rfl (by decide) (W := 0) (Nat.le_of_eq rfl) (by decide) (by decide) (by decide) ?_
  intro v11 T11 L11 X11 hQ11
  have A11 := wk X11 hx hby
  have e11 : T11.heap = T11.heap := rfl
  obtain ⟨z11, rfl, q11, N11, hh11⟩ := hQ11
  have e11 : T11.heap = h0 := hh11
  show Go p e below m (Fini s room_1.cells room_1.slots (fun v h L => v = some (.int 1) ∧ Fr n0 L)) T11 73 #[.val (.long p0), .second, .val (.long p1), .second, .val (.long p2), .second, .val (.long p3), .second, .val (.int z1), .val (.int z2), .val (.int z3), .val (.int z4), .val (.int z5), .val (.int z6), .val (.int z7), .val (.int z8), .val (.int z9), .val (.int z10), .unset, .unset, .unset, .unset, .unset, .unset, .unset, .unset, .unset, .unset, .unset] [(.int z11)]
  refine s_istore A11 at_73 (pc' := 75) rfl (ls' := #[.val (.long p0), .second, .val (.long p1), .second, .val (.long p2), .second, .val (.long p3), .second, .val (.int z1), .val (.int z2), .val (.int z3), .val (.int z4), .val (.int z5), .val (.int z6), .val (.int z7), .val (.int z8), .val (.int z9), .val (.int z10), .val (.int z11), .unset, .unset, .unset, .unset, .unset, .unset, .unset, .unset, .unset, .unset]) rfl ?_
  refine s_iload A11 at_75 (pc' := 77) rfl rfl ?_
  refine s_iload A11 at_77 (pc' := 79) rfl rfl ?_
  refine g_static X11 hx hZ (y := (⟨"java/lang/Math", "max", "(II)I"⟩ : MethodName)) hown (hw _ (List.mem_of_getElem? (i := 4) rfl)) (hw _ (List.mem_of_getElem? (i := 5) rfl)) (hw _ (List.mem_of_getElem? (i := 2) rfl)) (hw _ (List.mem_of_getElem? (i := 6) rfl)) (by decide) (argsL := [(.int z3), (.int z4)]) (rest := []) (c_maxI l Z a0 hw [] z3 z4 h0 n0 Z0) pd_1 rfl rfl (hb hby at_79) e11 (by rw [hml]; rfl) (pc' := 82) rfl (by decide) (W := 0) (Nat.le_of_eq rfl) (by decide) (by decide) (by decide) ?_
  intro v12 T12 L12 X12 hQ12
  have A12 := wk X12 hx hby
  have e12 : T12.heap = T12.heap := rfl
  obtain ⟨z12, rfl, q12, N12, hh12⟩ := hQ12
  have e12 : T12.heap = h0 := hh12
  show Go p e below m (Fini s room_1.cells room_1.slots (fun v h L => v = some (.int 1) ∧ Fr n0 L)) T12 82 #[.val (.long p0), .second, .val (.long p1), .second, .val (.long p2), .second, .val (.long p3), .second, .val (.int z1), .val (.int z2), .val (.int z3), .val (.int z4), .val (.int z5), .val (.int z6), .val (.int z7), .val (.int z8), .val (.int z9), .val (.int z10), .val (.int z11), .unset, .unset, .unset, .unset, .unset, .unset, .unset, .unset, .unset, .unset] [(.int z12)]
  refine s_istore A12 at_82 (pc' := 84) rfl (ls' := #[.val (.long p0), .second, .val (.long p1), .second, .val (.long p2), .second, .val (.long p3), .second, .val (.int z1), .val (.int z2), .val (.int z3), .val (.int z4), .val (.int z5), .val (.int z6), .val (.int z7), .val (.int z8), .val (.int z9), .val (.int z10), .val (.int z11), .val (.int z12), .unset, .unset, .unset, .unset, .unset, .unset, .unset, .unset, .unset]) rfl ?_
  refine s_iload A12 at_84 (pc' := 86) rfl rfl ?_
  refine s_iload A12 at_86 (pc' := 88) rfl rfl ?_
  refine g_static X12 hx hZ (y := (⟨"java/lang/Math", "min", "(II)I"⟩ : MethodName)) hown (hw _ (List.mem_of_getElem? (i := 0) rfl)) (hw _ (List.mem_of_getElem? (i := 1) rfl)) (hw _ (List.mem_of_getElem? (i := 2) rfl)) (hw _ (List.mem_of_getElem? (i := 3) rfl)) (by decide) (argsL := [(.int z5), (.int z6)]) (rest := []) (c_minI l Z a0 hw [] z5 z6 h0 n0 Z0) pd_1 rfl rfl (hb hby at_88) e12 (by rw [hml]; rfl) (pc' := 91) rfl (by decide) (W := 0) (Nat.le_of_eq rfl) (by decide) (by decide) (by decide) ?_
  intro v13 T13 L13 X13 hQ13
  have A13 := wk X13 hx hby
  have e13 : T13.heap = T13.heap := rfl
  obtain ⟨z13, rfl, q13, N13, hh13⟩ := hQ13
  have e13 : T13.heap = h0 := hh13
  show Go p e below m (Fini s room_1.cells room_1.slots (fun v h L => v = some (.int 1) ∧ Fr n0 L)) T13 91 #[.val (.long p0), .second, .val (.long p1), .second, .val (.long p2), .second, .val (.long p3), .second, .val (.int z1), .val (.int z2), .val (.int z3), .val (.int z4), .val (.int z5), .val (.int z6), .val (.int z7), .val (.int z8), .val (.int z9), .val (.int z10), .val (.int z11), .val (.int z12), .unset, .unset, .unset, .unset, .unset, .unset, .unset, .unset, .unset] [(.int z13)]
  refine s_istore A13 at_91 (pc' := 93) rfl (ls' := #[.val (.long p0), .second, .val (.long p1), .second, .val (.long p2), .second, .val (.long p3), .second, .val (.int z1), .val (.int z2), .val (.int z3), .val (.int z4), .val (.int z5), .val (.int z6), .val (.int z7), .val (.int z8), .val (.int z9), .val (.int z10), .val (.int z11), .val (.int z12), .val (.int z13), .unset, .unset, .unset, .unset, .unset, .unset, .unset, .unset]) rfl ?_
  refine s_iload A13 at_93 (pc' := 95) rfl rfl ?_
  refine s_iload A13 at_95 (pc' := 97) rfl rfl ?_
  refine g_static X13 hx hZ (y := (⟨"java/lang/Math", "max", "(II)I"⟩ : MethodName)) hown (hw _ (List.mem_of_getElem? (i := 4) rfl)) (hw _ (List.mem_of_getElem? (i := 5) rfl)) (hw _ (List.mem_of_getElem? (i := 2) rfl)) (hw _ (List.mem_of_getElem? (i := 6) rfl)) (by decide) (argsL := [(.int z5), (.int z6)]) (rest := []) (c_maxI l Z a0 hw [] z5 z6 h0 n0 Z0) pd_1 rfl rfl (hb hby at_97) e13 (by rw [hml]; rfl) (pc' := 100) rfl (by decide) (W := 0) (Nat.le_of_eq rfl) (by decide) (by decide) (by decide) ?_
  intro v14 T14 L14 X14 hQ14
  have A14 := wk X14 hx hby
  have e14 : T14.heap = T14.heap := rfl
  obtain ⟨z14, rfl, q14, N14, hh14⟩ := hQ14
  have e14 : T14.heap = h0 := hh14
  show Go p e below m (Fini s room_1.cells room_1.slots (fun v h L => v = some (.int 1) ∧ Fr n0 L)) T14 100 #[.val (.long p0), .second, .val (.long p1), .second, .val (.long p2), .second, .val (.long p3), .second, .val (.int z1), .val (.int z2), .val (.int z3), .val (.int z4), .val (.int z5), .val (.int z6), .val (.int z7), .val (.int z8), .val (.int z9), .val (.int z10), .val (.int z11), .val (.int z12), .val (.int z13), .unset, .unset, .unset, .unset, .unset, .unset, .unset, .unset] [(.int z14)]
  refine s_istore A14 at_100 (pc' := 102) rfl (ls' := #[.val (.long p0), .second, .val (.long p1), .second, .val (.long p2), .second, .val (.long p3), .second, .val (.int z1), .val (.int z2), .val (.int z3), .val (.int z4), .val (.int z5), .val (.int z6), .val (.int z7), .val (.int z8), .val (.int z9), .val (.int z10), .val (.int z11), .val (.int z12), .val (.int z13), .val (.int z14), .unset, .unset, .unset, .unset, .unset, .unset, .unset]) rfl ?_
  refine s_iload A14 at_102 (pc' := 104) rfl rfl ?_
  refine s_iload A14 at_104 (pc' := 106) rfl rfl ?_
  refine g_static X14 hx hZ (y := (⟨"java/lang/Math", "min", "(II)I"⟩ : MethodName)) hown (hw _ (List.mem_of_getElem? (i := 0) rfl)) (hw _ (List.mem_of_getElem? (i := 1) rfl)) (hw _ (List.mem_of_getElem? (i := 2) rfl)) (hw _ (List.mem_of_getElem? (i := 3) rfl)) (by decide) (argsL := [(.int z7), (.int z8)]) (rest := []) (c_minI l Z a0 hw [] z7 z8 h0 n0 Z0) pd_1 rfl rfl (hb hby at_106) e14 (by rw [hml]; rfl) (pc' := 109) rfl (by decide) (W := 0) (Nat.le_of_eq rfl) (by decide) (by decide) (by decide) ?_
  intro v15 T15 L15 X15 hQ15
  have A15 := wk X15 hx hby
  have e15 : T15.heap = T15.heap := rfl
  obtain ⟨z15, rfl, q15, N15, hh15⟩ := hQ15
  have e15 : T15.heap = h0 := hh15
  show Go p e below m (Fini s room_1.cells room_1.slots (fun v h L => v = some (.int 1) ∧ Fr n0 L)) T15 109 #[.val (.long p0), .second, .val (.long p1), .second, .val (.long p2), .second, .val (.long p3), .second, .val (.int z1), .val (.int z2), .val (.int z3), .val (.int z4), .val (.int z5), .val (.int z6), .val (.int z7), .val (.int z8), .val (.int z9), .val (.int z10), .val (.int z11), .val (.int z12), .val (.int z13), .val (.int z14), .unset, .unset, .unset, .unset, .unset, .unset, .unset] [(.int z15)]
  refine s_istore A15 at_109 (pc' := 111) rfl (ls' := #[.val (.long p0), .second, .val (.long p1), .second, .val (.long p2), .second, .val (.long p3), .second, .val (.int z1), .val (.int z2), .val (.int z3), .val (.int z4), .val (.int z5), .val (.int z6), .val (.int z7), .val (.int z8), .val (.int z9), .val (.int z10), .val (.int z11), .val (.int z12), .val (.int z13), .val (.int z14), .val (.int z15), .unset, .unset, .unset, .unset, .unset, .unset]) rfl ?_
  refine s_iload A15 at_111 (pc' := 113) rfl rfl ?_
  refine s_iload A15 at_113 (pc' := 115) rfl rfl ?_
  refine g_static X15 hx hZ (y := (⟨"java/lang/Math", "max", "(II)I"⟩ : MethodName)) hown (hw _ (List.mem_of_getElem? (i := 4) rfl)) (hw _ (List.mem_of_getElem? (i := 5) rfl)) (hw _ (List.mem_of_getElem? (i := 2) rfl)) (hw _ (List.mem_of_getElem? (i := 6) rfl)) (by decide) (argsL := [(.int z7), (.int z8)]) (rest := []) (c_maxI l Z a0 hw [] z7 z8 h0 n0 Z0) pd_1 rfl rfl (hb hby at_115) e15 (by rw [hml]; rfl) (pc' := 118) rfl (by decide) (W := 0) (Nat.le_of_eq rfl) (by decide) (by decide) (by decide) ?_
  intro v16 T16 L16 X16 hQ16
  have A16 := wk X16 hx hby
  have e16 : T16.heap = T16.heap := rfl
  obtain ⟨z16, rfl, q16, N16, hh16⟩ := hQ16
  have e16 : T16.heap = h0 := hh16
  show Go p e below m (Fini s room_1.cells room_1.slots (fun v h L => v = some (.int 1) ∧ Fr n0 L)) T16 118 #[.val (.long p0), .second, .val (.long p1), .second, .val (.long p2), .second, .val (.long p3), .second, .val (.int z1), .val (.int z2), .val (.int z3), .val (.int z4), .val (.int z5), .val (.int z6), .val (.int z7), .val (.int z8), .val (.int z9), .val (.int z10), .val (.int z11), .val (.int z12), .val (.int z13), .val (.int z14), .val (.int z15), .unset, .unset, .unset, .unset, .unset, .unset] [(.int z16)]
  refine s_istore A16 at_118 (pc' := 120) rfl (ls' := #[.val (.long p0), .second, .val (.long p1), .second, .val (.long p2), .second, .val (.long p3), .second, .val (.int z1), .val (.int z2), .val (.int z3), .val (.int z4), .val (.int z5), .val (.int z6), .val (.int z7), .val (.int z8), .val (.int z9), .val (.int z10), .val (.int z11), .val (.int z12), .val (.int z13), .val (.int z14), .val (.int z15), .val (.int z16), .unset, .unset, .unset, .unset, .unset]) rfl ?_
  refine g_new X16 hx hZ hown (hw _ (List.mem_of_getElem? (i := 7) rfl)) (hw _ (List.mem_of_getElem? (i := 8) rfl)) (hw _ (List.mem_of_getElem? (i := 9) rfl)) e16 (hb hby at_120) (pc' := 123) rfl (by decide) (by decide) ?_
  intro T17 h17 a17 X17 e17 E17 ga17 Ex17 D17
  have A17 := wk X17 hx hby
  have Z17 : n0 ≤ h17.size := Nat.le_trans Z0 E17.1
  have F17f0 : Fld Z h17 a17 "com/example/alluvia/alluvia/store/Region$Rectangle" "minX" "D" (.double 0) := D17 (Or.inr (hw _ (List.mem_of_getElem? (i := 22) rfl))) (ty := .double) (by decide)
  have F17f1 : Fld Z h17 a17 "com/example/alluvia/alluvia/store/Region$Rectangle" "minY" "D" (.double 0) := D17 (Or.inr (hw _ (List.mem_of_getElem? (i := 24) rfl))) (ty := .double) (by decide)
  have F17f2 : Fld Z h17 a17 "com/example/alluvia/alluvia/store/Region$Rectangle" "maxX" "D" (.double 0) := D17 (Or.inr (hw _ (List.mem_of_getElem? (i := 26) rfl))) (ty := .double) (by decide)
  have F17f3 : Fld Z h17 a17 "com/example/alluvia/alluvia/store/Region$Rectangle" "maxY" "D" (.double 0) := D17 (Or.inr (hw _ (List.mem_of_getElem? (i := 28) rfl))) (ty := .double) (by decide)
  refine s_dup A17 at_123 (pc' := 124) rfl rfl ?_
  refine s_iload A17 at_124 (pc' := 126) rfl rfl ?_
  obtain ⟨z18, hz18⟩ : ∃ v : UInt64, FP.i2d z9 = v := ⟨_, rfl⟩
  have q18 : Dy z9.toInt 0 z18 := hz18 ▸ Dy.i2d' (n := z9.toInt) rfl
  refine s_i2d A17 at_126 (pc' := 127) rfl hz18 ?_
  refine s_iload A17 at_127 (pc' := 129) rfl rfl ?_
  obtain ⟨z19, hz19⟩ : ∃ v : UInt64, FP.i2d z11 = v := ⟨_, rfl⟩
  have q19 : Dy z11.toInt 0 z19 := hz19 ▸ Dy.i2d' (n := z11.toInt) rfl
  refine s_i2d A17 at_129 (pc' := 130) rfl hz19 ?_
  refine s_iload A17 at_130 (pc' := 132) rfl rfl ?_
  obtain ⟨z20, hz20⟩ : ∃ v : UInt64, FP.i2d z10 = v := ⟨_, rfl⟩
  have q20 : Dy z10.toInt 0 z20 := hz20 ▸ Dy.i2d' (n := z10.toInt) rfl
  refine s_i2d A17 at_132 (pc' := 133) rfl hz20 ?_
  refine s_iload A17 at_133 (pc' := 135) rfl rfl ?_
  obtain ⟨z21, hz21⟩ : ∃ v : UInt64, FP.i2d z12 = v := ⟨_, rfl⟩
  have q21 : Dy z12.toInt 0 z21 := hz21 ▸ Dy.i2d' (n := z12.toInt) rfl
  refine s_i2d A17 at_135 (pc' := 136) rfl hz21 ?_
  refine g_special X17 hx hZ (y := (⟨"com/example/alluvia/alluvia/store/Region$Rectangle", "<init>", "(DDDD)V"⟩ : MethodName)) rfl hown (hw _ (List.mem_of_getElem? (i := 10) rfl)) (hw _ (List.mem_of_getElem? (i := 11) rfl)) (hw _ (List.mem_of_getElem? (i := 9) rfl)) (hw _ (List.mem_of_getElem? (i := 12) rfl)) (by decide) (a := a17) (argsL := [(.double z18), (.double z19), (.double z20), (.double z21)]) (rest := [(.ref a17)]) (c_new l Z a0 hw [] a17 z18 z19 z20 z21 h17 n0 Z17 Ex17 (by omega) F17f0 F17f1 F17f2 F17f3) pd_2 rfl rfl (hb hby at_136) e17 (by rw [hml]; rfl) (pc' := 139) rfl (by decide) (W := 1) (Nat.le_of_eq rfl) (by decide) (by decide) (by decide) ?_
  intro v22 T22 L22 X22 hQ22
  have A22 := wk X22 hx hby
  have e22 : T22.heap = T22.heap := rfl
  obtain ⟨rfl, N22, K22, Ea22, F220, F221, F222, F223⟩ := hQ22
  have Z22 : n0 ≤ T22.heap.size := Nat.le_trans Z17 K22.1
  show Go p e below m (Fini s room_1.cells room_1.slots (fun v h L => v = some (.int 1) ∧ Fr n0 L)) T22 139 #[.val (.long p0), .second, .val (.long p1), .second, .val (.long p2), .second, .val (.long p3), .second, .val (.int z1), .val (.int z2), .val (.int z3), .val (.int z4), .val (.int z5), .val (.int z6), .val (.int z7), .val (.int z8), .val (.int z9), .val (.int z10), .val (.int z11), .val (.int z12), .val (.int z13), .val (.int z14), .val (.int z15), .val (.int z16), .unset, .unset, .unset, .unset, .unset] [(.ref a17)]
  refine s_astore A22 at_139 (pc' := 141) rfl (ls' := #[.val (.long p0), .second, .val (.long p1), .second, .val (.long p2), .second, .val (.long p3), .second, .val (.int z1), .val (.int z2), .val (.int z3), .val (.int z4), .val (.int z5), .val (.int z6), .val (.int z7), .val (.int z8), .val (.int z9), .val (.int z10), .val (.int z11), .val (.int z12), .val (.int z13), .val (.int z14), .val (.int z15), .val (.int z16), .val (.ref a17), .unset, .unset, .unset, .unset]) rfl rfl ?_
  refine s_aload A22 at_141 (pc' := 143) rfl rfl rfl ?_
  refine s_iload A22 at_143 (pc' := 145) rfl rfl ?_
  obtain ⟨z23, hz23⟩ : ∃ v : UInt64, FP.i2d z13 = v := ⟨_, rfl⟩
  have q23 : Dy z13.toInt 0 z23 := hz23 ▸ Dy.i2d' (n := z13.toInt) rfl
  refine s_i2d A22 at_145 (pc' := 146) rfl hz23 ?_
  refine s_iload A22 at_146 (pc' := 148) rfl rfl ?_
  obtain ⟨z24, hz24⟩ : ∃ v : UInt64, FP.i2d z15 = v := ⟨_, rfl⟩
  have q24 : Dy z15.toInt 0 z24 := hz24 ▸ Dy.i2d' (n := z15.toInt) rfl
  refine s_i2d A22 at_148 (pc' := 149) rfl hz24 ?_
  refine s_iload A22 at_149 (pc' := 151) rfl rfl ?_
  obtain ⟨z25, hz25⟩ : ∃ v : UInt64, FP.i2d z14 = v := ⟨_, rfl⟩
  have q25 : Dy z14.toInt 0 z25 := hz25 ▸ Dy.i2d' (n := z14.toInt) rfl
  refine s_i2d A22 at_151 (pc' := 152) rfl hz25 ?_
  refine s_iload A22 at_152 (pc' := 154) rfl rfl ?_
  obtain ⟨z26, hz26⟩ : ∃ v : UInt64, FP.i2d z16 = v := ⟨_, rfl⟩
  have q26 : Dy z16.toInt 0 z26 := hz26 ▸ Dy.i2d' (n := z16.toInt) rfl
  refine s_i2d A22 at_154 (pc' := 155) rfl hz26 ?_
  refine g_virtual X22 hx hZ (y := (⟨"com/example/alluvia/alluvia/store/Region$Rectangle", "meets", "(DDDD)Z"⟩ : MethodName)) hown (hw _ (List.mem_of_getElem? (i := 29) rfl)) (hw _ (List.mem_of_getElem? (i := 30) rfl)) (hw _ (List.mem_of_getElem? (i := 32) rfl)) (hw _ (List.mem_of_getElem? (i := 31) rfl)) (hw _ (List.mem_of_getElem? (i := 9) rfl)) (hw _ (List.mem_of_getElem? (i := 33) rfl)) (by decide) Ea22 (argsL := [(.double z23), (.double z24), (.double z25), (.double z26)]) (rest := []) (c_meets l Z a0 hw [] a17 z18 z19 z20 z21 z23 z24 z25 z26 z9.toInt z11.toInt z10.toInt z12.toInt z13.toInt z15.toInt z14.toInt z16.toInt T22.heap n0 Z22 F220 F221 F222 F223 q18 q19 q20 q21 q23 q24 q25 q26 (by omega) (by omega) (by omega) (by omega) (by omega) (by omega) (by omega) (by omega)) pd_3 rfl rfl (hb hby at_155) e22 (by rw [hml]; rfl) (pc' := 158) rfl (by decide) (W := 0) (Nat.le_of_eq rfl) (by decide) (by decide) (by decide) ?_
  intro v27 T27 L27 X27 hQ27
  have A27 := wk X27 hx hby
  have e27 : T27.heap = T27.heap := rfl
  obtain ⟨z27, rfl, q27, N27, hh27⟩ := hQ27
  have e27 : T27.heap = T22.heap := hh27
  show Go p e below m (Fini s room_1.cells room_1.slots (fun v h L => v = some (.int 1) ∧ Fr n0 L)) T27 158 #[.val (.long p0), .second, .val (.long p1), .second, .val (.long p2), .second, .val (.long p3), .second, .val (.int z1), .val (.int z2), .val (.int z3), .val (.int z4), .val (.int z5), .val (.int z6), .val (.int z7), .val (.int z8), .val (.int z9), .val (.int z10), .val (.int z11), .val (.int z12), .val (.int z13), .val (.int z14), .val (.int z15), .val (.int z16), .val (.ref a17), .unset, .unset, .unset, .unset] [(.int z27)]
  refine s_istore A27 at_158 (pc' := 160) rfl (ls' := #[.val (.long p0), .second, .val (.long p1), .second, .val (.long p2), .second, .val (.long p3), .second, .val (.int z1), .val (.int z2), .val (.int z3), .val (.int z4), .val (.int z5), .val (.int z6), .val (.int z7), .val (.int z8), .val (.int z9), .val (.int z10), .val (.int z11), .val (.int z12), .val (.int z13), .val (.int z14), .val (.int z15), .val (.int z16), .val (.ref a17), .val (.int z27), .unset, .unset, .unset]) rfl ?_
  refine s_iload A27 at_160 (pc' := 162) rfl rfl ?_
  refine s_iload A27 at_162 (pc' := 164) rfl rfl ?_
  refine g_static X27 hx hZ (y := (⟨"java/lang/Math", "max", "(II)I"⟩ : MethodName)) hown (hw _ (List.mem_of_getElem? (i := 4) rfl)) (hw _ (List.mem_of_getElem? (i := 5) rfl)) (hw _ (List.mem_of_getElem? (i := 2) rfl)) (hw _ (List.mem_of_getElem? (i := 6) rfl)) (by decide) (argsL := [(.int z9), (.int z13)]) (rest := []) (c_maxI l Z a0 hw [] z9 z13 T22.heap n0 Z22) pd_1 rfl rfl (hb hby at_164) e27 (by rw [hml]; rfl) (pc' := 167) rfl (by decide) (W := 0) (Nat.le_of_eq rfl) (by decide) (by decide) (by decide) ?_
  intro v28 T28 L28 X28 hQ28
  have A28 := wk X28 hx hby
  have e28 : T28.heap = T28.heap := rfl
  obtain ⟨z28, rfl, q28, N28, hh28⟩ := hQ28
  have e28 : T28.heap = T22.heap := hh28
  show Go p e below m (Fini s room_1.cells room_1.slots (fun v h L => v = some (.int 1) ∧ Fr n0 L)) T28 167 #[.val (.long p0), .second, .val (.long p1), .second, .val (.long p2), .second, .val (.long p3), .second, .val (.int z1), .val (.int z2), .val (.int z3), .val (.int z4), .val (.int z5), .val (.int z6), .val (.int z7), .val (.int z8), .val (.int z9), .val (.int z10), .val (.int z11), .val (.int z12), .val (.int z13), .val (.int z14), .val (.int z15), .val (.int z16), .val (.ref a17), .val (.int z27), .unset, .unset, .unset] [(.int z28)]
  refine s_istore A28 at_167 (pc' := 169) rfl (ls' := #[.val (.long p0), .second, .val (.long p1), .second, .val (.long p2), .second, .val (.long p3), .second, .val (.int z1), .val (.int z2), .val (.int z3), .val (.int z4), .val (.int z5), .val (.int z6), .val (.int z7), .val (.int z8), .val (.int z9), .val (.int z10), .val (.int z11), .val (.int z12), .val (.int z13), .val (.int z14), .val (.int z15), .val (.int z16), .val (.ref a17), .val (.int z27), .val (.int z28), .unset, .unset]) rfl ?_
  refine s_iload A28 at_169 (pc' := 171) rfl rfl ?_
  refine s_iload A28 at_171 (pc' := 173) rfl rfl ?_
  refine g_static X28 hx hZ (y := (⟨"java/lang/Math", "max", "(II)I"⟩ : MethodName)) hown (hw _ (List.mem_of_getElem? (i := 4) rfl)) (hw _ (List.mem_of_getElem? (i := 5) rfl)) (hw _ (List.mem_of_getElem? (i := 2) rfl)) (hw _ (List.mem_of_getElem? (i := 6) rfl)) (by decide) (argsL := [(.int z11), (.int z15)]) (rest := []) (c_maxI l Z a0 hw [] z11 z15 T22.heap n0 Z22) pd_1 rfl rfl (hb hby at_173) e28 (by rw [hml]; rfl) (pc' := 176) rfl (by decide) (W := 0) (Nat.le_of_eq rfl) (by decide) (by decide) (by decide) ?_
  intro v29 T29 L29 X29 hQ29
  have A29 := wk X29 hx hby
  have e29 : T29.heap = T29.heap := rfl
  obtain ⟨z29, rfl, q29, N29, hh29⟩ := hQ29
  have e29 : T29.heap = T22.heap := hh29
  show Go p e below m (Fini s room_1.cells room_1.slots (fun v h L => v = some (.int 1) ∧ Fr n0 L)) T29 176 #[.val (.long p0), .second, .val (.long p1), .second, .val (.long p2), .second, .val (.long p3), .second, .val (.int z1), .val (.int z2), .val (.int z3), .val (.int z4), .val (.int z5), .val (.int z6), .val (.int z7), .val (.int z8), .val (.int z9), .val (.int z10), .val (.int z11), .val (.int z12), .val (.int z13), .val (.int z14), .val (.int z15), .val (.int z16), .val (.ref a17), .val (.int z27), .val (.int z28), .unset, .unset] [(.int z29)]
  refine s_istore A29 at_176 (pc' := 178) rfl (ls' := #[.val (.long p0), .second, .val (.long p1), .second, .val (.long p2), .second, .val (.long p3), .second, .val (.int z1), .val (.int z2), .val (.int z3), .val (.int z4), .val (.int z5), .val (.int z6), .val (.int z7), .val (.int z8), .val (.int z9), .val (.int z10), .val (.int z11), .val (.int z12), .val (.int z13), .val (.int z14), .val (.int z15), .val (.int z16), .val (.ref a17), .val (.int z27), .val (.int z28), .val (.int z29), .unset]) rfl ?_
  refine s_iload A29 at_178 (pc' := 180) rfl rfl ?_
  refine s_iload A29 at_180 (pc' := 182) rfl rfl ?_
  refine s_iload A29 at_182 (pc' := 184) rfl rfl ?_
  refine g_static X29 hx hZ (y := (⟨"java/lang/Math", "min", "(II)I"⟩ : MethodName)) hown (hw _ (List.mem_of_getElem? (i := 0) rfl)) (hw _ (List.mem_of_getElem? (i := 1) rfl)) (hw _ (List.mem_of_getElem? (i := 2) rfl)) (hw _ (List.mem_of_getElem? (i := 3) rfl)) (by decide) (argsL := [(.int z10), (.int z14)]) (rest := [(.int z28)]) (c_minI l Z a0 hw [] z10 z14 T22.heap n0 Z22) pd_1 rfl rfl (hb hby at_184) e29 (by rw [hml]; rfl) (pc' := 187) rfl (by decide) (W := 1) (Nat.le_of_eq rfl) (by decide) (by decide) (by decide) ?_
  intro v30 T30 L30 X30 hQ30
  have A30 := wk X30 hx hby
  have e30 : T30.heap = T30.heap := rfl
  obtain ⟨z30, rfl, q30, N30, hh30⟩ := hQ30
  have e30 : T30.heap = T22.heap := hh30
  show Go p e below m (Fini s room_1.cells room_1.slots (fun v h L => v = some (.int 1) ∧ Fr n0 L)) T30 187 #[.val (.long p0), .second, .val (.long p1), .second, .val (.long p2), .second, .val (.long p3), .second, .val (.int z1), .val (.int z2), .val (.int z3), .val (.int z4), .val (.int z5), .val (.int z6), .val (.int z7), .val (.int z8), .val (.int z9), .val (.int z10), .val (.int z11), .val (.int z12), .val (.int z13), .val (.int z14), .val (.int z15), .val (.int z16), .val (.ref a17), .val (.int z27), .val (.int z28), .val (.int z29), .unset] [(.int z30), (.int z28)]
  refine s_icmpgt A30 at_187 (pY := 206) (pN := 190) (by decide) (by decide) rfl ?_ ?_
  · intro c187
    replace c187 := i_gt c187
    refine s_iconst A30 at_206 (pc' := 207) rfl (v := (0 : Int32)) (by decide) ?_
    refine s_istore A30 at_207 (pc' := 209) rfl (ls' := #[.val (.long p0), .second, .val (.long p1), .second, .val (.long p2), .second, .val (.long p3), .second, .val (.int z1), .val (.int z2), .val (.int z3), .val (.int z4), .val (.int z5), .val (.int z6), .val (.int z7), .val (.int z8), .val (.int z9), .val (.int z10), .val (.int z11), .val (.int z12), .val (.int z13), .val (.int z14), .val (.int z15), .val (.int z16), .val (.ref a17), .val (.int z27), .val (.int z28), .val (.int z29), .val (.int (0 : Int32))]) rfl ?_
    refine s_iload A30 at_209 (pc' := 211) rfl rfl ?_
    refine s_iload A30 at_211 (pc' := 213) rfl rfl ?_
    refine s_icmpne A30 at_213 (pY := 220) (pN := 216) (by decide) (by decide) rfl ?_ ?_
    · intro c213
      replace c213 := i_ne c213
      rw [show (0 : Int32).toInt = 0 from by decide] at c213
      refine s_iconst A30 at_220 (pc' := 221) rfl (v := (0 : Int32)) (by decide) ?_
      exfalso; omega
    · intro c213
      replace c213 := i_eq c213
      rw [show (0 : Int32).toInt = 0 from by decide] at c213
      refine s_iconst A30 at_216 (pc' := 217) rfl (v := (1 : Int32)) (by decide) ?_
      refine s_goto A30 at_217 (pc' := 221) (by decide) (by decide) ?_
      exact g_retZ X30 hx hlk hret (by decide) (hb hby at_221) ⟨rfl, (Fr.app (Fr.app (Fr.app (Fr.app (Fr.app (Fr.app (Fr.app (Fr.app (Fr.app (Fr.app (Fr.app (Fr.app (Fr.app N0 N9) N10) N11) N12) N13) N14) N15) N16) N22) N27) N28) N29) N30)⟩ (by decide) (by decide)
  · intro c187
    replace c187 := i_le c187
    refine s_iload A30 at_190 (pc' := 192) rfl rfl ?_
    refine s_iload A30 at_192 (pc' := 194) rfl rfl ?_
    refine s_iload A30 at_194 (pc' := 196) rfl rfl ?_
    refine g_static X30 hx hZ (y := (⟨"java/lang/Math", "min", "(II)I"⟩ : MethodName)) hown (hw _ (List.mem_of_getElem? (i := 0) rfl)) (hw _ (List.mem_of_getElem? (i := 1) rfl)) (hw _ (List.mem_of_getElem? (i := 2) rfl)) (hw _ (List.mem_of_getElem? (i := 3) rfl)) (by decide) (argsL := [(.int z12), (.int z16)]) (rest := [(.int z29)]) (c_minI l Z a0 hw [] z12 z16 T22.heap n0 Z22) pd_1 rfl rfl (hb hby at_196) e30 (by rw [hml]; rfl) (pc' := 199) rfl (by decide) (W := 1) (Nat.le_of_eq rfl) (by decide) (by decide) (by decide) ?_
    intro v31 T31 L31 X31 hQ31
    have A31 := wk X31 hx hby
    have e31 : T31.heap = T31.heap := rfl
    obtain ⟨z31, rfl, q31, N31, hh31⟩ := hQ31
    have e31 : T31.heap = T22.heap := hh31
    show Go p e below m (Fini s room_1.cells room_1.slots (fun v h L => v = some (.int 1) ∧ Fr n0 L)) T31 199 #[.val (.long p0), .second, .val (.long p1), .second, .val (.long p2), .second, .val (.long p3), .second, .val (.int z1), .val (.int z2), .val (.int z3), .val (.int z4), .val (.int z5), .val (.int z6), .val (.int z7), .val (.int z8), .val (.int z9), .val (.int z10), .val (.int z11), .val (.int z12), .val (.int z13), .val (.int z14), .val (.int z15), .val (.int z16), .val (.ref a17), .val (.int z27), .val (.int z28), .val (.int z29), .unset] [(.int z31), (.int z29)]
    refine s_icmpgt A31 at_199 (pY := 206) (pN := 202) (by decide) (by decide) rfl ?_ ?_
    · intro c199
      replace c199 := i_gt c199
      refine s_iconst A31 at_206 (pc' := 207) rfl (v := (0 : Int32)) (by decide) ?_
      refine s_istore A31 at_207 (pc' := 209) rfl (ls' := #[.val (.long p0), .second, .val (.long p1), .second, .val (.long p2), .second, .val (.long p3), .second, .val (.int z1), .val (.int z2), .val (.int z3), .val (.int z4), .val (.int z5), .val (.int z6), .val (.int z7), .val (.int z8), .val (.int z9), .val (.int z10), .val (.int z11), .val (.int z12), .val (.int z13), .val (.int z14), .val (.int z15), .val (.int z16), .val (.ref a17), .val (.int z27), .val (.int z28), .val (.int z29), .val (.int (0 : Int32))]) rfl ?_
      refine s_iload A31 at_209 (pc' := 211) rfl rfl ?_
      refine s_iload A31 at_211 (pc' := 213) rfl rfl ?_
      refine s_icmpne A31 at_213 (pY := 220) (pN := 216) (by decide) (by decide) rfl ?_ ?_
      · intro c213
        replace c213 := i_ne c213
        rw [show (0 : Int32).toInt = 0 from by decide] at c213
        refine s_iconst A31 at_220 (pc' := 221) rfl (v := (0 : Int32)) (by decide) ?_
        exfalso; omega
      · intro c213
        replace c213 := i_eq c213
        rw [show (0 : Int32).toInt = 0 from by decide] at c213
        refine s_iconst A31 at_216 (pc' := 217) rfl (v := (1 : Int32)) (by decide) ?_
        refine s_goto A31 at_217 (pc' := 221) (by decide) (by decide) ?_
        exact g_retZ X31 hx hlk hret (by decide) (hb hby at_221) ⟨rfl, (Fr.app (Fr.app (Fr.app (Fr.app (Fr.app (Fr.app (Fr.app (Fr.app (Fr.app (Fr.app (Fr.app (Fr.app (Fr.app (Fr.app N0 N9) N10) N11) N12) N13) N14) N15) N16) N22) N27) N28) N29) N30) N31)⟩ (by decide) (by decide)
    · intro c199
      replace c199 := i_le c199
      refine s_iconst A31 at_202 (pc' := 203) rfl (v := (1 : Int32)) (by decide) ?_
      refine s_goto A31 at_203 (pc' := 207) (by decide) (by decide) ?_
      refine s_istore A31 at_207 (pc' := 209) rfl (ls' := #[.val (.long p0), .second, .val (.long p1), .second, .val (.long p2), .second, .val (.long p3), .second, .val (.int z1), .val (.int z2), .val (.int z3), .val (.int z4), .val (.int z5), .val (.int z6), .val (.int z7), .val (.int z8), .val (.int z9), .val (.int z10), .val (.int z11), .val (.int z12), .val (.int z13), .val (.int z14), .val (.int z15), .val (.int z16), .val (.ref a17), .val (.int z27), .val (.int z28), .val (.int z29), .val (.int (1 : Int32))]) rfl ?_
      refine s_iload A31 at_209 (pc' := 211) rfl rfl ?_
      refine s_iload A31 at_211 (pc' := 213) rfl rfl ?_
      refine s_icmpne A31 at_213 (pY := 220) (pN := 216) (by decide) (by decide) rfl ?_ ?_
      · intro c213
        replace c213 := i_ne c213
        rw [show (1 : Int32).toInt = 1 from by decide] at c213
        refine s_iconst A31 at_220 (pc' := 221) rfl (v := (0 : Int32)) (by decide) ?_
        exfalso; omega
      · intro c213
        replace c213 := i_eq c213
        rw [show (1 : Int32).toInt = 1 from by decide] at c213
        refine s_iconst A31 at_216 (pc' := 217) rfl (v := (1 : Int32)) (by decide) ?_
        refine s_goto A31 at_217 (pc' := 221) (by decide) (by decide) ?_
        exact g_retZ X31 hx hlk hret (by decide) (hb hby at_221) ⟨rfl, (Fr.app (Fr.app (Fr.app (Fr.app (Fr.app (Fr.app (Fr.app (Fr.app (Fr.app (Fr.app (Fr.app (Fr.app (Fr.app (Fr.app N0 N9) N10) N11) N12) N13) N14) N15) N16) N22) N27) N28) N29) N30) N31)⟩ (by decide) (by decide)
set_option maxRecDepth 65536 in
set_option maxHeartbeats 40000000 in
theorem comes_1 {Post : Tables → Env → Array Value → State → Outcome → State → Prop} (hpost : ∀ tb e args s v u, (limb_1_1.after args s (.returned v) u = true ∧ limb_1_2.after args s (.returned v) u = true ∧ True) → FrameEnd s (.returned v) u (Jvm.fieldLocs frame_1_writes args s ++ Jvm.arrayLocs frame_1_arrays args s ++ Jvm.staticLocs frame_1_statics s) 16 128 → Post tb e args s (.returned v) u) :
    ArmFor flags0 classFile x code maxLocals ret World_1 tables_1 room_1 Calls_1 rest_1 Pre_1 Post := by
  intro l hfl _ _ p e ha hc hk s m args below hf hA hF happ hP
  obtain ⟨hcalls, hrest, hpre⟩ := hP
  obtain ⟨-, -, -, hnamed, -, -, -, hat⟩ := (Spec.applies_iff hf).mp happ
  obtain ⟨hg, hn⟩ := and_e (Cond.before_iff.mp (show (Jvm.Cond.and given_1 narrow_1).before args s = true from hpre))
  obtain ⟨h1, g0⟩ := and_e hg
  obtain ⟨w0, w1, w2, w3, rfl⟩ : ∃ w0 w1 w2 w3 : Value, args = #[w0, w1, w2, w3] := by
    have hs : args.size = 4 := by simpa [Cond.value, given_1] using h1
    obtain ⟨L⟩ := args
    match L, hs with
    | [w0, w1, w2, w3], _ => exact ⟨w0, w1, w2, w3, rfl⟩
  have hw := fun d (hd : d ∈ tables_1) => atoms_spec (ws := Jvm.Cond.code x code maxLocals ret :: tables_1) hat d (List.mem_cons_of_mem _ hd)
  have hfit : Fit s := fun {y c} hc i hi => by
    obtain ⟨ha, rfl⟩ := Array.getElem?_eq_some_iff.mp hc
    have q := List.all_eq_true.mp ((Array.all_eq_true_iff_forall_mem.mp hF) _ (Array.getElem_mem ha)) i (List.mem_range.mpr hi)
    simpa [Array.getElem?_eq_getElem hi] using q
  obtain ⟨k0, g1⟩ := and_e g0
  obtain ⟨i0, j0⟩ := isL_v k0
  obtain rfl : w0 = (.long i0) := Option.some.inj j0
  obtain ⟨k1, g2⟩ := and_e g1
  obtain ⟨i1, j1⟩ := isL_v k1
  obtain rfl : w1 = (.long i1) := Option.some.inj j1
  obtain ⟨k2, g3⟩ := and_e g2
  obtain ⟨i2, j2⟩ := isL_v k2
  obtain rfl : w2 = (.long i2) := Option.some.inj j2
  obtain ⟨i3, j3⟩ := isL_v g3
  obtain rfl : w3 = (.long i3) := Option.some.inj j3
  obtain ⟨n, o, r1, r2, r3, _, L, rfl, ⟨rfl, N⟩, hq⟩ := c_law l s _ hw tables_1 i0 i1 i2 i3 s.heap s.heap.size (Nat.le_refl _)  p e ha hc hk s m _ below hf ((Spec.applies_iff_loose hf).mp happ).1 ⟨rfl, State.Warmed39.refl s, rfl⟩ trivial
  refine ⟨n, _, r1, r2, r3, hpost _ _ _ _ _ _ ⟨Cond.after_iff.mpr rfl, Cond.after_iff.mpr (eq_i res_at (Term.int_eval (1)) rfl), trivial⟩ ⟨hq.1, hq.2.1, (hq.2.2.sift fun y hy => Or.inr (N y hy)).mono (by decide) (by decide)⟩⟩
theorem main_1_1 : Claimed_1_1 := comes_1 fun _ _ _ _ _ _ h hF => ⟨h.1, hF⟩
theorem main_1_2 : Claimed_1_2 := comes_1 fun _ _ _ _ _ _ h hF => ⟨h.2.1, hF⟩
end Jvm.Pilot.@@N@@
namespace Jvm.Pilot.@@N@@
open Jvm Jvm.ClassFile Sem Op Lib Jvm.Free Jvm.Stand Jvm.Pilot.@@N@@.Jvm.D
/-! MADE BY PROGRAM (witnessworld.py) out of the Statement's table words and the real class files: 12 classes; the members and pool entries that the words name. The judged class is class 1, her method 1. -/
namespace start1
open Jvm.ClassFile
def u (s : String) : CpInfo := .utf8 (stringToUtf16 s)
/-- a pool by its gaps: so many unusable entries, then the entry; so many at the end -/
def gap : Nat → List CpInfo → List CpInfo
  | 0, r => r
  | n + 1, r => .unusable :: gap n r
def poolList (es : List (Nat × CpInfo)) (last : Nat) : List CpInfo := es.foldr (fun e r => gap e.1 (e.2 :: r)) (gap last [])
def pool (es : List (Nat × CpInfo)) (last : Nat) : Array CpInfo := ⟨poolList es last⟩
def fileOf (pool : Array CpInfo) (this : Nat) (attrs : Array Attribute := #[]) (ms : Array MethodInfo := #[]) (fl : Nat := 33) (sup : Nat := 0) (ifs : Array Nat := #[]) (fds : Array FieldInfo := #[]) : ClassFile where
  minorVersion := 0
  majorVersion := 65
  constantPool := pool
  accessFlags := fl
  thisClass := this
  superClass := sup
  interfaces := ifs
  fields := fds
  methods := ms
  attributes := attrs
def plain (name : String) (sup : Option ClassId) : Class where
  name := name
  kind := .ordinary
  loader := none
  accessFlags := 33
  super := sup
  interfaces := #[]
  cf := none
  fields := #[]
  methods := #[]
  instanceTypes := #[]
  staticTypes := #[]
  resolved := #[]
  callSites := []
  init := .initialized
  statics := none
  mirror := none

def pool0 : Array CpInfo := pool [(5, u "<init>"), (0, u "()V"), (1, .class_ 10), (1, u "java/lang/Object")] 113

def k0c0 : Code := { maxStack := 0, maxLocals := 1, code := object_method_1_code, exceptionTable := #[], attributes := #[] }
def k0m0 : Method := { name := "<init>", desc := "()V", sig := { parameters := [], returnType := none }, accessFlags := 1, code := some k0c0 }
/-- java/lang/Object -/
def k0 : Class := { plain "java/lang/Object" none with
  accessFlags := 33
  interfaces := #[]
  cf := some (fileOf pool0 8 #[] #[{ accessFlags := 1, nameIndex := 5, descriptorIndex := 6, attributes := #[] }] 33 0 #[] #[])
  fields := #[]
  methods := #[k0m0]
  instanceTypes := #[]
  staticTypes := #[]
  resolved := Array.replicate 124 none
  statics := none }

def pool1 : Array CpInfo := pool [(2, .class_ 4), (1, u "java/lang/Object"), (0, u "<init>"), (0, u "()V"), (0, .methodref 8 9), (0, .class_ 10), (0, .nameAndType 11 12), (0, u "java/lang/Math"), (0, u "min"), (0, u "(II)I"), (0, .methodref 8 14), (0, .nameAndType 15 12), (0, u "max"), (0, .class_ 17), (0, u "com/example/alluvia/alluvia/store/Region$Rectangle"), (0, .methodref 16 19), (0, .nameAndType 5 20), (0, u "(DDDD)V"), (0, .methodref 16 22), (0, .nameAndType 23 24), (0, u "meets"), (0, u "(DDDD)Z"), (0, .class_ 26), (0, u "com/example/alluvia/alluvia/store/RectangleMeetsPinLaw"), (2, u "law"), (0, u "(JJJJ)Z")] 7

def k1m0 : Method := { name := "<init>", desc := "()V", sig := { parameters := [], returnType := none }, accessFlags := 1, code := none }
def k1c1 : Code := { maxStack := 10, maxLocals := 29, code := code, exceptionTable := #[], attributes := #[] }
def k1m1 : Method := { name := "law", desc := "(JJJJ)Z", sig := { parameters := [.long, .long, .long, .long], returnType := some .boolean }, accessFlags := 9, code := some k1c1 }
/-- com/example/alluvia/alluvia/store/RectangleMeetsPinLaw -/
def k1 : Class := { plain "com/example/alluvia/alluvia/store/RectangleMeetsPinLaw" (some 0) with
  accessFlags := 49
  interfaces := #[]
  cf := some (fileOf pool1 25 #[] #[{ accessFlags := 1, nameIndex := 5, descriptorIndex := 6, attributes := #[] }, { accessFlags := 9, nameIndex := 29, descriptorIndex := 30, attributes := #[] }] 49 2 #[] #[])
  fields := #[]
  methods := #[k1m0, k1m1]
  instanceTypes := #[]
  staticTypes := #[]
  resolved := Array.replicate 38 none
  statics := none }

def pool2 : Array CpInfo := pool [(1, .class_ 2), (0, u "java/lang/Math"), (1, .class_ 6), (1, u "java/lang/Object"), (0, u "<init>"), (0, u "()V"), (89, .class_ 100), (1, u "java/lang/Math$RandomNumberGeneratorHolder"), (71, u "negativeZeroFloatBits"), (0, u "J"), (2, u "negativeZeroDoubleBits"), (21, u "max"), (2, u "min"), (43, u "$assertionsDisabled"), (0, u "Z"), (88, u "(II)I"), (2, u "twoToTheDoubleScaleDown"), (0, u "D"), (4, u "twoToTheDoubleScaleUp"), (9, u "E"), (3, u "PI"), (2, u "TAU"), (2, u "DEGREES_TO_RADIANS"), (0, u "RADIANS_TO_DEGREES")] 94

def k2m0 : Method := { name := "<init>", desc := "()V", sig := { parameters := [], returnType := none }, accessFlags := 2, code := none }
def k2c1 : Code := { maxStack := 2, maxLocals := 2, code := jdk_29_method_65_code, exceptionTable := #[], attributes := #[] }
def k2m1 : Method := { name := "max", desc := "(II)I", sig := { parameters := [.int, .int], returnType := some .int }, accessFlags := 9, code := some k2c1 }
def k2c2 : Code := { maxStack := 2, maxLocals := 2, code := jdk_29_method_69_code, exceptionTable := #[], attributes := #[] }
def k2m2 : Method := { name := "min", desc := "(II)I", sig := { parameters := [.int, .int], returnType := some .int }, accessFlags := 9, code := some k2c2 }
/-- java/lang/Math -/
def k2 : Class := { plain "java/lang/Math" (some 0) with
  accessFlags := 49
  interfaces := #[]
  cf := some (fileOf pool2 1 #[.nestMembers #[98]] #[{ accessFlags := 2, nameIndex := 7, descriptorIndex := 8, attributes := #[] }, { accessFlags := 9, nameIndex := 198, descriptorIndex := 335, attributes := #[] }, { accessFlags := 9, nameIndex := 201, descriptorIndex := 335, attributes := #[] }] 49 4 #[] #[{ accessFlags := 25, nameIndex := 354, descriptorIndex := 339, attributes := #[] }, { accessFlags := 25, nameIndex := 358, descriptorIndex := 339, attributes := #[] }, { accessFlags := 25, nameIndex := 361, descriptorIndex := 339, attributes := #[] }, { accessFlags := 26, nameIndex := 364, descriptorIndex := 339, attributes := #[] }, { accessFlags := 26, nameIndex := 365, descriptorIndex := 339, attributes := #[] }, { accessFlags := 26, nameIndex := 172, descriptorIndex := 173, attributes := #[] }, { accessFlags := 26, nameIndex := 176, descriptorIndex := 173, attributes := #[] }, { accessFlags := 8, nameIndex := 344, descriptorIndex := 339, attributes := #[] }, { accessFlags := 8, nameIndex := 338, descriptorIndex := 339, attributes := #[] }, { accessFlags := 4120, nameIndex := 245, descriptorIndex := 246, attributes := #[] }])
  fields := #[{ name := "E", type := .double, accessFlags := 25, slot := 0, constantValue := 0 }, { name := "PI", type := .double, accessFlags := 25, slot := 1, constantValue := 0 }, { name := "TAU", type := .double, accessFlags := 25, slot := 2, constantValue := 0 }, { name := "DEGREES_TO_RADIANS", type := .double, accessFlags := 26, slot := 3, constantValue := 0 }, { name := "RADIANS_TO_DEGREES", type := .double, accessFlags := 26, slot := 4, constantValue := 0 }, { name := "negativeZeroFloatBits", type := .long, accessFlags := 26, slot := 5, constantValue := 0 }, { name := "negativeZeroDoubleBits", type := .long, accessFlags := 26, slot := 6, constantValue := 0 }, { name := "twoToTheDoubleScaleUp", type := .double, accessFlags := 8, slot := 7, constantValue := 0 }, { name := "twoToTheDoubleScaleDown", type := .double, accessFlags := 8, slot := 8, constantValue := 0 }, { name := "$assertionsDisabled", type := .boolean, accessFlags := 4120, slot := 9, constantValue := 0 }]
  methods := #[k2m0, k2m1, k2m2]
  instanceTypes := #[]
  staticTypes := #[.double, .double, .double, .double, .double, .long, .long, .double, .double, .boolean]
  resolved := Array.replicate 460 none
  statics := none }

def pool3 : Array CpInfo := pool [(1, .methodref 2 3), (0, .class_ 4), (0, .nameAndType 5 6), (0, u "java/lang/Object"), (0, u "<init>"), (0, u "()V"), (0, .class_ 8), (0, u "java/lang/Record")] 13

def k3c0 : Code := { maxStack := 1, maxLocals := 1, code := jdk_30_method_1_code, exceptionTable := #[], attributes := #[] }
def k3m0 : Method := { name := "<init>", desc := "()V", sig := { parameters := [], returnType := none }, accessFlags := 4, code := some k3c0 }
/-- java/lang/Record -/
def k3 : Class := { plain "java/lang/Record" (some 0) with
  accessFlags := 1057
  interfaces := #[]
  cf := some (fileOf pool3 7 #[] #[{ accessFlags := 4, nameIndex := 5, descriptorIndex := 6, attributes := #[] }] 1057 2 #[] #[])
  fields := #[]
  methods := #[k3m0]
  instanceTypes := #[]
  staticTypes := #[]
  resolved := Array.replicate 22 none
  statics := none }

def pool4 : Array CpInfo := pool [(1, .class_ 2), (0, u "com/example/alluvia/alluvia/store/Region"), (0, .class_ 4), (0, u "java/lang/Object"), (7, .class_ 13), (0, u "com/example/alluvia/alluvia/store/Region$Rectangle"), (0, .class_ 15), (0, u "com/example/alluvia/alluvia/store/Region$Around")] 4

/-- com/example/alluvia/alluvia/store/Region -/
def k4 : Class := { plain "com/example/alluvia/alluvia/store/Region" (some 0) with
  accessFlags := 1537
  interfaces := #[]
  cf := some (fileOf pool4 1 #[.nestMembers #[12, 14]] #[] 1537 3 #[] #[])
  fields := #[]
  methods := #[]
  instanceTypes := #[]
  staticTypes := #[]
  resolved := Array.replicate 20 none
  statics := none }

def pool5 : Array CpInfo := pool [(1, .methodref 2 3), (0, .class_ 4), (0, .nameAndType 5 6), (0, u "java/lang/Record"), (0, u "<init>"), (0, u "()V"), (0, .fieldref 8 9), (0, .class_ 10), (0, .nameAndType 11 12), (0, u "com/example/alluvia/alluvia/store/Region$Rectangle"), (0, u "minX"), (0, u "D"), (0, .fieldref 8 14), (0, .nameAndType 15 12), (0, u "minY"), (0, .fieldref 8 17), (0, .nameAndType 18 12), (0, u "maxX"), (0, .fieldref 8 20), (0, .nameAndType 21 12), (0, u "maxY"), (2, u "(DDDD)V"), (12, .class_ 38), (0, u "com/example/alluvia/alluvia/store/Region"), (8, u "meets"), (0, u "(DDDD)Z")] 29

def k5c0 : Code := { maxStack := 3, maxLocals := 9, code := prog_69_method_1_code, exceptionTable := #[], attributes := #[] }
def k5m0 : Method := { name := "<init>", desc := "(DDDD)V", sig := { parameters := [.double, .double, .double, .double], returnType := none }, accessFlags := 1, code := some k5c0 }
def k5c1 : Code := { maxStack := 4, maxLocals := 9, code := prog_69_method_4_code, exceptionTable := #[], attributes := #[] }
def k5m1 : Method := { name := "meets", desc := "(DDDD)Z", sig := { parameters := [.double, .double, .double, .double], returnType := some .boolean }, accessFlags := 1, code := some k5c1 }
/-- com/example/alluvia/alluvia/store/Region$Rectangle -/
def k5 : Class := { plain "com/example/alluvia/alluvia/store/Region$Rectangle" (some 3) with
  accessFlags := 49
  interfaces := #[4]
  cf := some (fileOf pool5 8 #[.nestHost 37] #[{ accessFlags := 1, nameIndex := 5, descriptorIndex := 24, attributes := #[] }, { accessFlags := 1, nameIndex := 47, descriptorIndex := 48, attributes := #[] }] 49 2 #[37] #[{ accessFlags := 18, nameIndex := 11, descriptorIndex := 12, attributes := #[] }, { accessFlags := 18, nameIndex := 15, descriptorIndex := 12, attributes := #[] }, { accessFlags := 18, nameIndex := 18, descriptorIndex := 12, attributes := #[] }, { accessFlags := 18, nameIndex := 21, descriptorIndex := 12, attributes := #[] }])
  fields := #[{ name := "minX", type := .double, accessFlags := 18, slot := 0, constantValue := 0 }, { name := "minY", type := .double, accessFlags := 18, slot := 1, constantValue := 0 }, { name := "maxX", type := .double, accessFlags := 18, slot := 2, constantValue := 0 }, { name := "maxY", type := .double, accessFlags := 18, slot := 3, constantValue := 0 }]
  methods := #[k5m0, k5m1]
  instanceTypes := #[.double, .double, .double, .double]
  staticTypes := #[]
  resolved := Array.replicate 78 none
  statics := none }

def pool6 : Array CpInfo := pool [(1, u "java/lang/Cloneable"), (0, .class_ 1), (0, u "java/lang/Object"), (0, .class_ 3)] 3

/-- java/lang/Cloneable -/
def k6 : Class := { plain "java/lang/Cloneable" (some 0) with
  accessFlags := 1537
  interfaces := #[]
  cf := some (fileOf pool6 2 #[] #[] 1537 4 #[] #[])
  fields := #[]
  methods := #[]
  instanceTypes := #[]
  staticTypes := #[]
  resolved := Array.replicate 8 none
  statics := none }

def pool7 : Array CpInfo := pool [(1, u "java/io/Serializable"), (0, .class_ 1), (0, u "java/lang/Object"), (0, .class_ 3)] 3

/-- java/io/Serializable -/
def k7 : Class := { plain "java/io/Serializable" (some 0) with
  accessFlags := 1537
  interfaces := #[]
  cf := some (fileOf pool7 2 #[] #[] 1537 4 #[] #[])
  fields := #[]
  methods := #[]
  instanceTypes := #[]
  staticTypes := #[]
  resolved := Array.replicate 8 none
  statics := none }

/-- the primitive byte -/
def k8 : Class := { plain "byte" none with kind := .primitive 'B', accessFlags := 0x411 }
/-- [B -/
def k9 : Class := { plain "[B" (some 0) with kind := .array 8 .byte, interfaces := #[6, 7], accessFlags := 1041 }

/-- the primitive int -/
def k10 : Class := { plain "int" none with kind := .primitive 'I', accessFlags := 0x411 }
/-- [I -/
def k11 : Class := { plain "[I" (some 0) with kind := .array 10 .int, interfaces := #[6, 7], accessFlags := 1041 }

def heap : Heap := #[]
def classes : Array Class := #[k0, k1, k2, k3, k4, k5, k6, k7, k8, k9, k10, k11]
def interned : List (Array UInt16 × Addr) := []
def slotsUsed : Nat := 0
def theMethod : MethodId := ⟨1, 1⟩
def args0 : Array Value := #[.long 1, .long 2, .long 3, .long 4]
def aboutOver (below : List Frame) : State where
  vm := { classes := classes, interned := interned.toArray }
  heap := heap
  slotsUsed := slotsUsed
  threads := #[{ frames := .invoking theMethod args0 :: below }]
def below0 : List Frame := [.native { method := ⟨0, 0⟩, args := #[] }]
def about1 : State := aboutOver below0
def p0 : Program := .bare "" "" ""
def e0 : Env := launch0.env 0 0 0
theorem w_frames : about1.frames = Frame.invoking theMethod args0 :: below0 := rfl
set_option maxRecDepth 65536 in
theorem w_args : argsFit about1.vm theMethod args0 = true := by decide +kernel
set_option maxRecDepth 65536 in
theorem w_heap : heapFits about1 = true := by decide +kernel
set_option maxRecDepth 65536 in
theorem w_runnable : about1.curStatus? = some .runnable := by decide +kernel
set_option maxRecDepth 65536 in
theorem w_alone : about1.alone = true := by decide +kernel
set_option maxRecDepth 65536 in
theorem w_named : about1.methodNamed? x = some theMethod := by decide +kernel
set_option maxRecDepth 65536 in
theorem w_hears : about1.hears theMethod below0 = true := by decide +kernel
set_option maxRecDepth 65536 in
theorem w_ripe : about1.ripe theMethod args0 below0 = true := by decide +kernel
theorem w_running : about1.status = .running := rfl
set_option maxRecDepth 65536 in
theorem w_room : about1.hasRoom e0.platform room_1 = true :=
  launch0.hasRoom_least _ room_1 (by decide +kernel) (by decide +kernel) (by decide +kernel) (by decide +kernel) (by decide +kernel) (by decide +kernel)
theorem allAtoms_all (ts : List Jvm.Cond) (a : Array Jvm.Value) (st : Jvm.State) : (allAtoms ts).before a st = ts.all (fun c => c.before a st) := by
  induction ts with
  | nil => rfl
  | cons c t ih =>
    show (Jvm.Cond.and c (allAtoms t)).before a st = _
    rw [Jvm.Cond.before_and, ih, List.all_cons]
def words1 : List Jvm.Cond := Jvm.Cond.code x code maxLocals ret :: tables_1
/-- a 'code' word, met by the world's own term for the bytes: nothing is compared byte by byte -/
theorem code_word {y : MethodName} {bytes : ByteArray} {mx : Nat} {rt : Option FieldType} {a : Array Value} {s : State} {m : MethodId} {meth : Method} {c : Code} (h1 : s.methodNamed? y = some m) (h2 : s.vm.method? m = some meth) (h3 : meth.code = some c) (h4 : c.code = bytes)
    (h5 : (c.maxLocals == mx && c.exceptionTable.isEmpty && decide (c.maxStack ≤ mostOperands) && decide (meth.sig.returnType = rt) && !meth.locks && decide (parseMethodDescriptor y.desc = some meth.sig)) = true) : (Jvm.Cond.code y bytes mx rt).before a s = true := by
  simp only [Bool.and_eq_true, beq_iff_eq, Bool.not_eq_true', decide_eq_true_eq] at h5
  obtain ⟨⟨⟨⟨⟨g1, g2⟩, g3⟩, g4⟩, g5⟩, g6⟩ := h5
  simp [Cond.before, Cond.holds, Cond.value, h1, h2, h3, h4, g1, g2, g3, g4, g5, g6]
def isCode : Jvm.Cond → Bool
  | .code _ _ _ _ => true
  | _ => false
theorem all_split {L : List Jvm.Cond} {P : Jvm.Cond → Bool} (h1 : L.all (fun c => isCode c || P c) = true) (h2 : ∀ c ∈ L.filter isCode, P c = true) : L.all P = true := by
  refine List.all_eq_true.mpr fun c hc => ?_
  have h := List.all_eq_true.mp h1 c hc
  rcases Bool.eq_false_or_eq_true (isCode c) with hi | hi
  · exact h2 c (List.mem_filter.mpr ⟨hc, hi⟩)
  · simpa [hi] using h
set_option maxRecDepth 65536 in
theorem w_c0 : (Jvm.Cond.code x code maxLocals ret).before args0 about1 = true := code_word (m := ⟨1, 1⟩) (meth := k1m1) (c := k1c1) (by decide +kernel) rfl rfl rfl (by decide +kernel)
set_option maxRecDepth 65536 in
theorem w_c1 : (Jvm.Cond.code ({ cls := "java/lang/Math", name := "min", desc := "(II)I" } : Jvm.MethodName) jdk_29_method_69_code (2 : Nat) (Option.some Jvm.ClassFile.FieldType.int)).before args0 about1 = true := code_word (m := ⟨2, 2⟩) (meth := k2m2) (c := k2c2) (by decide +kernel) rfl rfl rfl (by decide +kernel)
set_option maxRecDepth 65536 in
theorem w_c2 : (Jvm.Cond.code ({ cls := "java/lang/Math", name := "max", desc := "(II)I" } : Jvm.MethodName) jdk_29_method_65_code (2 : Nat) (Option.some Jvm.ClassFile.FieldType.int)).before args0 about1 = true := code_word (m := ⟨2, 1⟩) (meth := k2m1) (c := k2c1) (by decide +kernel) rfl rfl rfl (by decide +kernel)
set_option maxRecDepth 65536 in
theorem w_c3 : (Jvm.Cond.code ({ cls := "com/example/alluvia/alluvia/store/Region$Rectangle", name := "<init>", desc := "(DDDD)V" } : Jvm.MethodName) prog_69_method_1_code (9 : Nat) (Option.none : Option Jvm.ClassFile.FieldType)).before args0 about1 = true := code_word (m := ⟨5, 0⟩) (meth := k5m0) (c := k5c0) (by decide +kernel) rfl rfl rfl (by decide +kernel)
set_option maxRecDepth 65536 in
theorem w_c4 : (Jvm.Cond.code ({ cls := "java/lang/Record", name := "<init>", desc := "()V" } : Jvm.MethodName) jdk_30_method_1_code (1 : Nat) (Option.none : Option Jvm.ClassFile.FieldType)).before args0 about1 = true := code_word (m := ⟨3, 0⟩) (meth := k3m0) (c := k3c0) (by decide +kernel) rfl rfl rfl (by decide +kernel)
set_option maxRecDepth 65536 in
theorem w_c5 : (Jvm.Cond.code ({ cls := "java/lang/Object", name := "<init>", desc := "()V" } : Jvm.MethodName) object_method_1_code (1 : Nat) (Option.none : Option Jvm.ClassFile.FieldType)).before args0 about1 = true := code_word (m := ⟨0, 0⟩) (meth := k0m0) (c := k0c0) (by decide +kernel) rfl rfl rfl (by decide +kernel)
set_option maxRecDepth 65536 in
theorem w_c6 : (Jvm.Cond.code ({ cls := "com/example/alluvia/alluvia/store/Region$Rectangle", name := "meets", desc := "(DDDD)Z" } : Jvm.MethodName) prog_69_method_4_code (9 : Nat) (Option.some Jvm.ClassFile.FieldType.boolean)).before args0 about1 = true := code_word (m := ⟨5, 1⟩) (meth := k5m1) (c := k5c1) (by decide +kernel) rfl rfl rfl (by decide +kernel)
def codes1 : List Jvm.Cond := [Jvm.Cond.code x code maxLocals ret, Jvm.Cond.code ({ cls := "java/lang/Math", name := "min", desc := "(II)I" } : Jvm.MethodName) jdk_29_method_69_code (2 : Nat) (Option.some Jvm.ClassFile.FieldType.int), Jvm.Cond.code ({ cls := "java/lang/Math", name := "max", desc := "(II)I" } : Jvm.MethodName) jdk_29_method_65_code (2 : Nat) (Option.some Jvm.ClassFile.FieldType.int), Jvm.Cond.code ({ cls := "com/example/alluvia/alluvia/store/Region$Rectangle", name := "<init>", desc := "(DDDD)V" } : Jvm.MethodName) prog_69_method_1_code (9 : Nat) (Option.none : Option Jvm.ClassFile.FieldType), Jvm.Cond.code ({ cls := "java/lang/Record", name := "<init>", desc := "()V" } : Jvm.MethodName) jdk_30_method_1_code (1 : Nat) (Option.none : Option Jvm.ClassFile.FieldType), Jvm.Cond.code ({ cls := "java/lang/Object", name := "<init>", desc := "()V" } : Jvm.MethodName) object_method_1_code (1 : Nat) (Option.none : Option Jvm.ClassFile.FieldType), Jvm.Cond.code ({ cls := "com/example/alluvia/alluvia/store/Region$Rectangle", name := "meets", desc := "(DDDD)Z" } : Jvm.MethodName) prog_69_method_4_code (9 : Nat) (Option.some Jvm.ClassFile.FieldType.boolean)]
set_option maxRecDepth 65536 in
theorem codes_eq : words1.filter isCode = codes1 := rfl
theorem w_codes : ∀ c ∈ words1.filter isCode, c.before args0 about1 = true := by
  rw [codes_eq]
  intro c hc
  simp only [codes1, List.mem_cons, List.not_mem_nil, or_false] at hc
  rcases hc with rfl | rfl | rfl | rfl | rfl | rfl | rfl
  · exact w_c0
  · exact w_c1
  · exact w_c2
  · exact w_c3
  · exact w_c4
  · exact w_c5
  · exact w_c6
set_option maxRecDepth 65536 in
theorem w_t1 : (words1.take 24).all (fun c => isCode c || c.before args0 about1) = true := by decide +kernel
set_option maxRecDepth 65536 in
theorem w_t2 : (words1.drop 24).all (fun c => isCode c || c.before args0 about1) = true := by decide +kernel
theorem w_tables : (allAtoms (Jvm.Cond.code x code maxLocals ret :: tables_1)).before args0 about1 = true := by
  rw [allAtoms_all]
  show words1.all (fun c => c.before args0 about1) = true
  refine all_split ?_ w_codes
  rw [← List.take_append_drop 24 words1, List.all_append, w_t1, w_t2]
  rfl
set_option maxRecDepth 65536 in
theorem w_case : (Jvm.Cond.and given_1 narrow_1).before args0 about1 = true := by decide +kernel
theorem w_applies : (headSpec (Jvm.Cond.code x code maxLocals ret :: tables_1) room_1).applies x e0.platform about1 = true :=
  (Spec.applies_iff w_frames).mpr ⟨w_running, w_runnable, w_alone, w_named, w_hears, w_ripe, w_room, w_tables⟩
theorem atStart : AtStart classFile x code maxLocals ret World_1 tables_1 room_1 Calls_1 rest_1 Pre_1 launch0 p0 e0 about1 theMethod args0 below0 :=
  ⟨lists_1, trivial, launch0.admits_env _ _ _, launch0.least_env, fairChoices_fair.cas, fairChoices_fair.clock, w_frames, w_args, w_heap, w_applies, trivial, trivial, w_case⟩
end start1
theorem witness_1 : WitnessClaimed_1 := ⟨start1.p0, start1.e0, start1.about1, start1.theMethod, start1.args0, start1.below0, start1.atStart⟩
end Jvm.Pilot.@@N@@
