import JvmDerived
import JvmDerived.Pilot.@@N@@Statement
import JvmDerived.Pilot.@@N@@Code
set_option linter.unusedVariables false
set_option linter.unusedSimpArgs false
namespace Jvm.Own
open Sem ClassFile Op Lib Jvm.Stand Jvm.Free Jvm.LawKit Jvm.RoadKit
/-- from here the run comes back, and F says how -/
def Go (p : Program) (e : Env) (below : List Frame) (m : MethodId) (F : Outcome → State → Prop) (T : State) (pc : Nat) (ls : Array Slot) (st : List Value) : Prop :=
  ∃ V o, Steps p.tables e below (T.setTop (mkF m pc ls st)) V ∧ V.status = .running ∧ Ended V below o ∧ F o V
def Fini (s : State) (rc rs : Nat) (Q : Option Value → Heap → List Loc → Prop) (o : Outcome) (V : State) : Prop := ∃ v L, o = .returned v ∧ Q v V.heap L ∧ FrameEnd s o V L rc rs
abbrev Ctr (l : Launch) (Z : State) (y : MethodName) (bytes : ByteArray) (maxL : Nat) (ret : Option FieldType) (ws : List Cond) (rm : Room) (as' : Array Value) (h : Heap) (Q : Option Value → Heap → List Loc → Prop) : Prop :=
  MetFree l y (head1 (Cond.code y bytes maxL ret :: ws) rm) (fun a U => a = as' ∧ Z.Warmed39 U.vm ∧ U.heap = h) (fun _ _ _ _ _ => True) (fun _ U o U' => ∃ v L, o = .returned v ∧ Q v U'.heap L ∧ FrameEnd U o U' L rm.cells rm.slots)
theorem enter {l : Launch} {Z : State} {y : MethodName} {bytes : ByteArray} {maxL : Nat} {ret : Option FieldType} {ws : List Cond} {rm : Room} {as' : Array Value} {h : Heap} {Q : Option Value → Heap → List Loc → Prop} (hpn : plainFor y = true)
    (body : ∀ (p : Program) (e : Env) (s : State) (m : MethodId) (below : List Frame) (meth : Method) (c : Code) (T : State), Stand p l e rm s m as' below meth c T [] 0 0 → p.tables.exec = Jvm.exec → c.code = bytes → c.maxLocals = maxL → meth.sig.returnType = ret → meth.locks = false → Z.Warmed39 s.vm → s.vm.findClass y.cls = some m.cls → meth.name = y.name → T.heap = h →
      ∃ V o, Steps p.tables e below (T.setTop (entryFrame m as' maxL)) V ∧ V.status = .running ∧ Ended V below o ∧ Fini s rm.cells rm.slots Q o V) : Ctr l Z y bytes maxL ret ws rm as' h Q := by
  refine MetFree.of_bodySF hpn hisR ?_
  intro p e s m args below meth c s₁ Bd hml0 hP hK
  obtain ⟨rfl, hZ, hh⟩ := hP
  exact body p e s m below meth c s₁ (Stand.of_body Bd) Bd.exec Bd.bytes hml0 Bd.returns Bd.notSynchronized hZ (findClass_of_methodNamed Bd.named) (name_of_methodNamed Bd.named Bd.method).1 (by rw [← hh, Bd.state]; rfl)
theorem goIn {p : Program} {e : Env} {below : List Frame} {m : MethodId} {F : Outcome → State → Prop} {T : State} {as' : Array Value} {n : Nat} {ls : Array Slot} (q : entryFrame m as' n = mkF m 0 ls []) (k : Go p e below m F T 0 ls []) :
    ∃ V o, Steps p.tables e below (T.setTop (entryFrame m as' n)) V ∧ V.status = .running ∧ Ended V below o ∧ F o V := by rw [q]; exact k
def Wk (p : Program) (below : List Frame) (m : MethodId) (c : Code) (b : ByteArray) (T : State) : Prop := At T m c below ∧ p.tables.exec = Jvm.exec ∧ c.code = b
theorem Go.of {p : Program} {e : Env} {below : List Frame} {m : MethodId} {F : Outcome → State → Prop} {T T' : State} {pc pc' : Nat} {ls ls' : Array Slot} {st st' : List Value} (k : Go p e below m F T' pc' ls' st')
    (q : ∀ t, Steps p.tables e below (T'.setTop (mkF m pc' ls' st')) t → Steps p.tables e below (T.setTop (mkF m pc ls st)) t) : Go p e below m F T pc ls st := by
  obtain ⟨V, o, h1, h2⟩ := k
  exact ⟨V, o, q V h1, h2⟩
section Plain
variable {p : Program} {l : Launch} {e : Env} {R : Room} {s : State} {m : MethodId} {args : Array Value} {below : List Frame} {meth : Method} {c : Code} {T : State} {locs : List Loc} {cells slots : Nat} {Z : State} {a0 : Array Value} {h : Heap} {b : ByteArray} {F : Outcome → State → Prop} {pc pc' : Nat} {ls : Array Slot} {rest : List Value}
theorem wk (X : Stand p l e R s m args below meth c T locs cells slots) (hx : p.tables.exec = Jvm.exec) (hby : c.code = b) : Wk p below m c b T := ⟨X.here, hx, hby⟩
theorem s_iconst {i : Int} {v : Int32} (A : Wk p below m c b T) (hd : decode b pc = .ok (.iconst i, 1)) (hp : pc + 1 = pc') (hv : Int32.ofInt i = v) (k : Go p e below m F T pc' ls (.int v :: rest)) : Go p e below m F T pc ls rest := by
  subst hp hv
  exact k.of fun t k => XS.iconst A.1 A.2.1 rfl (hb A.2.2 hd) k
theorem s_bipush {i : Int} {v : Int32} (A : Wk p below m c b T) (hd : decode b pc = .ok (.bipush i, 2)) (hp : pc + 2 = pc') (hv : (Int8.ofInt i).toInt32 = v) (k : Go p e below m F T pc' ls (.int v :: rest)) : Go p e below m F T pc ls rest := by
  subst hp hv
  exact k.of fun t k => XS.bipush A.1 A.2.1 rfl (hb A.2.2 hd) k
theorem s_sipush {i : Int} {v : Int32} (A : Wk p below m c b T) (hd : decode b pc = .ok (.sipush i, 3)) (hp : pc + 3 = pc') (hv : (Int16.ofInt i).toInt32 = v) (k : Go p e below m F T pc' ls (.int v :: rest)) : Go p e below m F T pc ls rest := by
  subst hp hv
  exact k.of fun t k => XS.sipush A.1 A.2.1 rfl (hb A.2.2 hd) k
theorem s_lconst {i : Fin 2} {v : Int64} (A : Wk p below m c b T) (hd : decode b pc = .ok (.lconst i, 1)) (hp : pc + 1 = pc') (hv : Int64.ofNat i = v) (k : Go p e below m F T pc' ls (.long v :: rest)) : Go p e below m F T pc ls rest := by
  subst hp hv
  exact k.of fun t k => XT.lconst A.1 A.2.1 rfl (hb A.2.2 hd) k
theorem s_dconst0 {v : UInt64} (A : Wk p below m c b T) (hd : decode b pc = .ok (.dconst 0, 1)) (hp : pc + 1 = pc') (hv : FP.dconst0 = v) (k : Go p e below m F T pc' ls (.double v :: rest)) : Go p e below m F T pc ls rest := by
  subst hp hv
  exact k.of fun t k => XS.dconst0 A.1 A.2.1 rfl (hb A.2.2 hd) rfl k
theorem s_dconst1 {v : UInt64} (A : Wk p below m c b T) (hd : decode b pc = .ok (.dconst 1, 1)) (hp : pc + 1 = pc') (hv : FP.dconst1 = v) (k : Go p e below m F T pc' ls (.double v :: rest)) : Go p e below m F T pc ls rest := by
  subst hp hv
  exact k.of fun t k => XS.dconst1 A.1 A.2.1 rfl (hb A.2.2 hd) rfl k
theorem s_aconstNull  (A : Wk p below m c b T) (hd : decode b pc = .ok (.aconst_null, 1)) (hp : pc + 1 = pc')  (k : Go p e below m F T pc' ls (.null :: rest)) : Go p e below m F T pc ls rest := by
  subst hp
  exact k.of fun t k => XS.aconstNull A.1 A.2.1 rfl (hb A.2.2 hd) k
theorem s_iloadN {i : Fin 4} {v : Int32} (A : Wk p below m c b T) (hd : decode b pc = .ok (.iload_n i, 1)) (hp : pc + 1 = pc') (hl : ls[i.val]? = some (.val (.int v))) (k : Go p e below m F T pc' ls (.int v :: rest)) : Go p e below m F T pc ls rest := by
  subst hp
  exact k.of fun t k => XS.iloadN A.1 A.2.1 rfl (hb A.2.2 hd) hl k
theorem s_iload {i : Nat} {v : Int32} (A : Wk p below m c b T) (hd : decode b pc = .ok (.iload i, 2)) (hp : pc + 2 = pc') (hl : ls[i]? = some (.val (.int v))) (k : Go p e below m F T pc' ls (.int v :: rest)) : Go p e below m F T pc ls rest := by
  subst hp
  exact k.of fun t k => XS.iload A.1 A.2.1 rfl (hb A.2.2 hd) hl k
theorem s_lloadN {i : Fin 4} {v : Int64} (A : Wk p below m c b T) (hd : decode b pc = .ok (.lload_n i, 1)) (hp : pc + 1 = pc') (hl : ls[i.val]? = some (.val (.long v))) (k : Go p e below m F T pc' ls (.long v :: rest)) : Go p e below m F T pc ls rest := by
  subst hp
  exact k.of fun t k => XT.lloadN A.1 A.2.1 rfl (hb A.2.2 hd) hl k
theorem s_lload {i : Nat} {v : Int64} (A : Wk p below m c b T) (hd : decode b pc = .ok (.lload i, 2)) (hp : pc + 2 = pc') (hl : ls[i]? = some (.val (.long v))) (k : Go p e below m F T pc' ls (.long v :: rest)) : Go p e below m F T pc ls rest := by
  subst hp
  exact k.of fun t k => XT.lload A.1 A.2.1 rfl (hb A.2.2 hd) hl k
theorem s_dloadN {i : Fin 4} {v : UInt64} (A : Wk p below m c b T) (hd : decode b pc = .ok (.dload_n i, 1)) (hp : pc + 1 = pc') (hl : ls[i.val]? = some (.val (.double v))) (k : Go p e below m F T pc' ls (.double v :: rest)) : Go p e below m F T pc ls rest := by
  subst hp
  exact k.of fun t k => XS.dloadN A.1 A.2.1 rfl (hb A.2.2 hd) hl k
theorem s_dload {i : Nat} {v : UInt64} (A : Wk p below m c b T) (hd : decode b pc = .ok (.dload i, 2)) (hp : pc + 2 = pc') (hl : ls[i]? = some (.val (.double v))) (k : Go p e below m F T pc' ls (.double v :: rest)) : Go p e below m F T pc ls rest := by
  subst hp
  exact k.of fun t k => XS.dload A.1 A.2.1 rfl (hb A.2.2 hd) hl k
theorem s_aloadN {i : Fin 4} {v : Value} (A : Wk p below m c b T) (hd : decode b pc = .ok (.aload_n i, 1)) (hp : pc + 1 = pc') (hl : ls[i.val]? = some (.val v)) (hv : v.isRef = true) (k : Go p e below m F T pc' ls (v :: rest)) : Go p e below m F T pc ls rest := by
  subst hp
  exact k.of fun t k => XS.aloadN A.1 A.2.1 rfl (hb A.2.2 hd) hl hv k
theorem s_aload {i : Nat} {v : Value} (A : Wk p below m c b T) (hd : decode b pc = .ok (.aload i, 2)) (hp : pc + 2 = pc') (hl : ls[i]? = some (.val v)) (hv : v.isRef = true) (k : Go p e below m F T pc' ls (v :: rest)) : Go p e below m F T pc ls rest := by
  subst hp
  exact k.of fun t k => XS.aload A.1 A.2.1 rfl (hb A.2.2 hd) hl hv k
theorem s_istoreN {i : Fin 4} {v : Int32} {ls' : Array Slot} (A : Wk p below m c b T) (hd : decode b pc = .ok (.istore_n i, 1)) (hp : pc + 1 = pc') (hl : storeLocals ls i.val (.int v) = some ls') (k : Go p e below m F T pc' ls' rest) : Go p e below m F T pc ls (.int v :: rest) := by
  subst hp
  exact k.of fun t k => XS.istoreN A.1 A.2.1 rfl (hb A.2.2 hd) rfl hl k
theorem s_istore {i : Nat} {v : Int32} {ls' : Array Slot} (A : Wk p below m c b T) (hd : decode b pc = .ok (.istore i, 2)) (hp : pc + 2 = pc') (hl : storeLocals ls i (.int v) = some ls') (k : Go p e below m F T pc' ls' rest) : Go p e below m F T pc ls (.int v :: rest) := by
  subst hp
  exact k.of fun t k => XS.istore A.1 A.2.1 rfl (hb A.2.2 hd) rfl hl k
theorem s_lstoreN {i : Fin 4} {v : Int64} {ls' : Array Slot} (A : Wk p below m c b T) (hd : decode b pc = .ok (.lstore_n i, 1)) (hp : pc + 1 = pc') (hl : storeLocals ls i.val (.long v) = some ls') (k : Go p e below m F T pc' ls' rest) : Go p e below m F T pc ls (.long v :: rest) := by
  subst hp
  exact k.of fun t k => XT.lstoreN A.1 A.2.1 rfl (hb A.2.2 hd) rfl hl k
theorem s_lstore {i : Nat} {v : Int64} {ls' : Array Slot} (A : Wk p below m c b T) (hd : decode b pc = .ok (.lstore i, 2)) (hp : pc + 2 = pc') (hl : storeLocals ls i (.long v) = some ls') (k : Go p e below m F T pc' ls' rest) : Go p e below m F T pc ls (.long v :: rest) := by
  subst hp
  exact k.of fun t k => XT.lstore A.1 A.2.1 rfl (hb A.2.2 hd) rfl hl k
theorem s_dstoreN {i : Fin 4} {v : UInt64} {ls' : Array Slot} (A : Wk p below m c b T) (hd : decode b pc = .ok (.dstore_n i, 1)) (hp : pc + 1 = pc') (hl : storeLocals ls i.val (.double v) = some ls') (k : Go p e below m F T pc' ls' rest) : Go p e below m F T pc ls (.double v :: rest) := by
  subst hp
  exact k.of fun t k => XS.dstoreN A.1 A.2.1 rfl (hb A.2.2 hd) rfl hl k
theorem s_dstore {i : Nat} {v : UInt64} {ls' : Array Slot} (A : Wk p below m c b T) (hd : decode b pc = .ok (.dstore i, 2)) (hp : pc + 2 = pc') (hl : storeLocals ls i (.double v) = some ls') (k : Go p e below m F T pc' ls' rest) : Go p e below m F T pc ls (.double v :: rest) := by
  subst hp
  exact k.of fun t k => XS.dstore A.1 A.2.1 rfl (hb A.2.2 hd) rfl hl k
theorem s_astoreN {i : Fin 4} {v : Value} {ls' : Array Slot} (A : Wk p below m c b T) (hd : decode b pc = .ok (.astore_n i, 1)) (hp : pc + 1 = pc') (hv : v.isRef = true) (hl : storeLocals ls i.val v = some ls') (k : Go p e below m F T pc' ls' rest) : Go p e below m F T pc ls (v :: rest) := by
  subst hp
  exact k.of fun t k => XS.astoreN A.1 A.2.1 rfl (hb A.2.2 hd) rfl hv hl k
theorem s_astore {i : Nat} {v : Value} {ls' : Array Slot} (A : Wk p below m c b T) (hd : decode b pc = .ok (.astore i, 2)) (hp : pc + 2 = pc') (hv : v.isRef = true) (hl : storeLocals ls i v = some ls') (k : Go p e below m F T pc' ls' rest) : Go p e below m F T pc ls (v :: rest) := by
  subst hp
  exact k.of fun t k => XS.astore A.1 A.2.1 rfl (hb A.2.2 hd) rfl hv hl k
theorem s_iinc {i : Nat} {cst : Int} {x v : Int32} {ls' : Array Slot} (A : Wk p below m c b T) (hd : decode b pc = .ok (.iinc i cst, 3)) (hp : pc + 3 = pc') (hl : ls[i]? = some (.val (.int x))) (hv : x + Int32.ofInt cst = v) (hl' : storeLocals ls i (.int v) = some ls') (k : Go p e below m F T pc' ls' rest) : Go p e below m F T pc ls rest := by
  subst hp hv
  exact k.of fun t k => XS.iinc A.1 A.2.1 rfl (hb A.2.2 hd) hl hl' k
theorem s_iadd {x y v : Int32} (A : Wk p below m c b T) (hd : decode b pc = .ok (.iadd, 1)) (hp : pc + 1 = pc') (hv : x + y = v) (k : Go p e below m F T pc' ls (.int v :: rest)) : Go p e below m F T pc ls (.int y :: .int x :: rest) := by
  subst hp hv
  exact k.of fun t k => XS.iadd A.1 A.2.1 rfl (hb A.2.2 hd) rfl k
theorem s_isub {x y v : Int32} (A : Wk p below m c b T) (hd : decode b pc = .ok (.isub, 1)) (hp : pc + 1 = pc') (hv : x - y = v) (k : Go p e below m F T pc' ls (.int v :: rest)) : Go p e below m F T pc ls (.int y :: .int x :: rest) := by
  subst hp hv
  exact k.of fun t k => XS.isub A.1 A.2.1 rfl (hb A.2.2 hd) rfl k
theorem s_imul {x y v : Int32} (A : Wk p below m c b T) (hd : decode b pc = .ok (.imul, 1)) (hp : pc + 1 = pc') (hv : x * y = v) (k : Go p e below m F T pc' ls (.int v :: rest)) : Go p e below m F T pc ls (.int y :: .int x :: rest) := by
  subst hp hv
  exact k.of fun t k => XS.imul A.1 A.2.1 rfl (hb A.2.2 hd) rfl k
theorem s_iand {x y v : Int32} (A : Wk p below m c b T) (hd : decode b pc = .ok (.iand, 1)) (hp : pc + 1 = pc') (hv : x &&& y = v) (k : Go p e below m F T pc' ls (.int v :: rest)) : Go p e below m F T pc ls (.int y :: .int x :: rest) := by
  subst hp hv
  exact k.of fun t k => XS.iand A.1 A.2.1 rfl (hb A.2.2 hd) rfl k
theorem s_ior {x y v : Int32} (A : Wk p below m c b T) (hd : decode b pc = .ok (.ior, 1)) (hp : pc + 1 = pc') (hv : x ||| y = v) (k : Go p e below m F T pc' ls (.int v :: rest)) : Go p e below m F T pc ls (.int y :: .int x :: rest) := by
  subst hp hv
  exact k.of fun t k => XT.ior A.1 A.2.1 rfl (hb A.2.2 hd) rfl k
theorem s_ixor {x y v : Int32} (A : Wk p below m c b T) (hd : decode b pc = .ok (.ixor, 1)) (hp : pc + 1 = pc') (hv : x ^^^ y = v) (k : Go p e below m F T pc' ls (.int v :: rest)) : Go p e below m F T pc ls (.int y :: .int x :: rest) := by
  subst hp hv
  exact k.of fun t k => XT.ixor A.1 A.2.1 rfl (hb A.2.2 hd) rfl k
theorem s_idiv {x y v : Int32} (A : Wk p below m c b T) (hd : decode b pc = .ok (.idiv, 1)) (hp : pc + 1 = pc') (hy : y ≠ 0) (hv : x / y = v) (k : Go p e below m F T pc' ls (.int v :: rest)) : Go p e below m F T pc ls (.int y :: .int x :: rest) := by
  subst hp hv
  exact k.of fun t k => XS.idiv A.1 A.2.1 rfl (hb A.2.2 hd) rfl hy k
theorem s_irem {x y v : Int32} (A : Wk p below m c b T) (hd : decode b pc = .ok (.irem, 1)) (hp : pc + 1 = pc') (hy : y ≠ 0) (hv : x - (x / y) * y = v) (k : Go p e below m F T pc' ls (.int v :: rest)) : Go p e below m F T pc ls (.int y :: .int x :: rest) := by
  subst hp hv
  exact k.of fun t k => XS.irem A.1 A.2.1 rfl (hb A.2.2 hd) rfl hy k
theorem s_ladd {x y v : Int64} (A : Wk p below m c b T) (hd : decode b pc = .ok (.ladd, 1)) (hp : pc + 1 = pc') (hv : x + y = v) (k : Go p e below m F T pc' ls (.long v :: rest)) : Go p e below m F T pc ls (.long y :: .long x :: rest) := by
  subst hp hv
  exact k.of fun t k => XT.ladd A.1 A.2.1 rfl (hb A.2.2 hd) rfl k
theorem s_lsub {x y v : Int64} (A : Wk p below m c b T) (hd : decode b pc = .ok (.lsub, 1)) (hp : pc + 1 = pc') (hv : x - y = v) (k : Go p e below m F T pc' ls (.long v :: rest)) : Go p e below m F T pc ls (.long y :: .long x :: rest) := by
  subst hp hv
  exact k.of fun t k => XT.lsub A.1 A.2.1 rfl (hb A.2.2 hd) rfl k
theorem s_lmul {x y v : Int64} (A : Wk p below m c b T) (hd : decode b pc = .ok (.lmul, 1)) (hp : pc + 1 = pc') (hv : x * y = v) (k : Go p e below m F T pc' ls (.long v :: rest)) : Go p e below m F T pc ls (.long y :: .long x :: rest) := by
  subst hp hv
  exact k.of fun t k => XT.lmul A.1 A.2.1 rfl (hb A.2.2 hd) rfl k
theorem s_land {x y v : Int64} (A : Wk p below m c b T) (hd : decode b pc = .ok (.land, 1)) (hp : pc + 1 = pc') (hv : x &&& y = v) (k : Go p e below m F T pc' ls (.long v :: rest)) : Go p e below m F T pc ls (.long y :: .long x :: rest) := by
  subst hp hv
  exact k.of fun t k => XT.land A.1 A.2.1 rfl (hb A.2.2 hd) rfl k
theorem s_lor {x y v : Int64} (A : Wk p below m c b T) (hd : decode b pc = .ok (.lor, 1)) (hp : pc + 1 = pc') (hv : x ||| y = v) (k : Go p e below m F T pc' ls (.long v :: rest)) : Go p e below m F T pc ls (.long y :: .long x :: rest) := by
  subst hp hv
  exact k.of fun t k => XT.lor A.1 A.2.1 rfl (hb A.2.2 hd) rfl k
theorem s_lxor {x y v : Int64} (A : Wk p below m c b T) (hd : decode b pc = .ok (.lxor, 1)) (hp : pc + 1 = pc') (hv : x ^^^ y = v) (k : Go p e below m F T pc' ls (.long v :: rest)) : Go p e below m F T pc ls (.long y :: .long x :: rest) := by
  subst hp hv
  exact k.of fun t k => XT.lxor A.1 A.2.1 rfl (hb A.2.2 hd) rfl k
theorem s_ldiv {x y v : Int64} (A : Wk p below m c b T) (hd : decode b pc = .ok (.ldiv, 1)) (hp : pc + 1 = pc') (hy : y ≠ 0) (hv : x / y = v) (k : Go p e below m F T pc' ls (.long v :: rest)) : Go p e below m F T pc ls (.long y :: .long x :: rest) := by
  subst hp hv
  exact k.of fun t k => XT.ldiv A.1 A.2.1 rfl (hb A.2.2 hd) rfl hy k
theorem s_lrem {x y v : Int64} (A : Wk p below m c b T) (hd : decode b pc = .ok (.lrem, 1)) (hp : pc + 1 = pc') (hy : y ≠ 0) (hv : x - (x / y) * y = v) (k : Go p e below m F T pc' ls (.long v :: rest)) : Go p e below m F T pc ls (.long y :: .long x :: rest) := by
  subst hp hv
  exact k.of fun t k => XT.lrem A.1 A.2.1 rfl (hb A.2.2 hd) rfl hy k
theorem s_ishl {x v : Int32} {y : Int32} (A : Wk p below m c b T) (hd : decode b pc = .ok (.ishl, 1)) (hp : pc + 1 = pc') (hv : x <<< (y &&& 31) = v) (k : Go p e below m F T pc' ls (.int v :: rest)) : Go p e below m F T pc ls (.int y :: .int x :: rest) := by
  subst hp hv
  exact k.of fun t k => XT.ishl A.1 A.2.1 rfl (hb A.2.2 hd) rfl k
theorem s_ishr {x v : Int32} {y : Int32} (A : Wk p below m c b T) (hd : decode b pc = .ok (.ishr, 1)) (hp : pc + 1 = pc') (hv : x >>> (y &&& 31) = v) (k : Go p e below m F T pc' ls (.int v :: rest)) : Go p e below m F T pc ls (.int y :: .int x :: rest) := by
  subst hp hv
  exact k.of fun t k => XT.ishr A.1 A.2.1 rfl (hb A.2.2 hd) rfl k
theorem s_iushr {x v : Int32} {y : Int32} (A : Wk p below m c b T) (hd : decode b pc = .ok (.iushr, 1)) (hp : pc + 1 = pc') (hv : XT.ushr x y = v) (k : Go p e below m F T pc' ls (.int v :: rest)) : Go p e below m F T pc ls (.int y :: .int x :: rest) := by
  subst hp hv
  exact k.of fun t k => XT.iushr A.1 A.2.1 rfl (hb A.2.2 hd) rfl k
theorem s_lshl {x v : Int64} {y : Int32} (A : Wk p below m c b T) (hd : decode b pc = .ok (.lshl, 1)) (hp : pc + 1 = pc') (hv : x <<< (y.toInt64 &&& 63) = v) (k : Go p e below m F T pc' ls (.long v :: rest)) : Go p e below m F T pc ls (.int y :: .long x :: rest) := by
  subst hp hv
  exact k.of fun t k => XT.lshl A.1 A.2.1 rfl (hb A.2.2 hd) rfl k
theorem s_lshr {x v : Int64} {y : Int32} (A : Wk p below m c b T) (hd : decode b pc = .ok (.lshr, 1)) (hp : pc + 1 = pc') (hv : x >>> (y.toInt64 &&& 63) = v) (k : Go p e below m F T pc' ls (.long v :: rest)) : Go p e below m F T pc ls (.int y :: .long x :: rest) := by
  subst hp hv
  exact k.of fun t k => XT.lshr A.1 A.2.1 rfl (hb A.2.2 hd) rfl k
theorem s_lushr {x v : Int64} {y : Int32} (A : Wk p below m c b T) (hd : decode b pc = .ok (.lushr, 1)) (hp : pc + 1 = pc') (hv : XT.ushrL x y = v) (k : Go p e below m F T pc' ls (.long v :: rest)) : Go p e below m F T pc ls (.int y :: .long x :: rest) := by
  subst hp hv
  exact k.of fun t k => XT.lushr A.1 A.2.1 rfl (hb A.2.2 hd) rfl k
theorem s_i2b {x v : Int32} (A : Wk p below m c b T) (hd : decode b pc = .ok (.i2b, 1)) (hp : pc + 1 = pc') (hv : x.toInt8.toInt32 = v) (k : Go p e below m F T pc' ls (.int v :: rest)) : Go p e below m F T pc ls (.int x :: rest) := by
  subst hp hv
  exact k.of fun t k => XT.i2b A.1 A.2.1 rfl (hb A.2.2 hd) rfl k
theorem s_i2c {x v : Int32} (A : Wk p below m c b T) (hd : decode b pc = .ok (.i2c, 1)) (hp : pc + 1 = pc') (hv : x.toUInt32.toUInt16.toUInt32.toInt32 = v) (k : Go p e below m F T pc' ls (.int v :: rest)) : Go p e below m F T pc ls (.int x :: rest) := by
  subst hp hv
  exact k.of fun t k => XT.i2c A.1 A.2.1 rfl (hb A.2.2 hd) rfl k
theorem s_i2s {x v : Int32} (A : Wk p below m c b T) (hd : decode b pc = .ok (.i2s, 1)) (hp : pc + 1 = pc') (hv : x.toInt16.toInt32 = v) (k : Go p e below m F T pc' ls (.int v :: rest)) : Go p e below m F T pc ls (.int x :: rest) := by
  subst hp hv
  exact k.of fun t k => XT.i2s A.1 A.2.1 rfl (hb A.2.2 hd) rfl k
theorem s_lneg {x v : Int64} (A : Wk p below m c b T) (hd : decode b pc = .ok (.lneg, 1)) (hp : pc + 1 = pc') (hv : -x = v) (k : Go p e below m F T pc' ls (.long v :: rest)) : Go p e below m F T pc ls (.long x :: rest) := by
  subst hp hv
  exact k.of fun t k => XT.lneg A.1 A.2.1 rfl (hb A.2.2 hd) rfl k
theorem s_dupX1 {x y : Value} (A : Wk p below m c b T) (hd : decode b pc = .ok (.dup_x1, 1)) (hp : pc + 1 = pc') (hc : x.category = 1) (hc' : y.category = 1) (k : Go p e below m F T pc' ls (x :: y :: x :: rest)) : Go p e below m F T pc ls (x :: y :: rest) := by
  subst hp
  exact k.of fun t k => XT.dupX1 A.1 A.2.1 rfl (hb A.2.2 hd) rfl hc hc' k
theorem s_dup2 {x y : Value} (A : Wk p below m c b T) (hd : decode b pc = .ok (.dup2, 1)) (hp : pc + 1 = pc') (hc : x.category = 1) (hc' : y.category = 1) (k : Go p e below m F T pc' ls (x :: y :: x :: y :: rest)) : Go p e below m F T pc ls (x :: y :: rest) := by
  subst hp
  exact k.of fun t k => XT.dup2 A.1 A.2.1 rfl (hb A.2.2 hd) rfl hc hc' k
theorem s_i2l {x : Int32} {v : Int64} (A : Wk p below m c b T) (hd : decode b pc = .ok (.i2l, 1)) (hp : pc + 1 = pc') (hv : x.toInt64 = v) (k : Go p e below m F T pc' ls (.long v :: rest)) : Go p e below m F T pc ls (.int x :: rest) := by
  subst hp hv
  exact k.of fun t k => XT.i2l A.1 A.2.1 rfl (hb A.2.2 hd) rfl k
theorem s_l2i {x : Int64} {v : Int32} (A : Wk p below m c b T) (hd : decode b pc = .ok (.l2i, 1)) (hp : pc + 1 = pc') (hv : x.toInt32 = v) (k : Go p e below m F T pc' ls (.int v :: rest)) : Go p e below m F T pc ls (.long x :: rest) := by
  subst hp hv
  exact k.of fun t k => XT.l2i A.1 A.2.1 rfl (hb A.2.2 hd) rfl k
theorem s_ineg {x v : Int32} (A : Wk p below m c b T) (hd : decode b pc = .ok (.ineg, 1)) (hp : pc + 1 = pc') (hv : -x = v) (k : Go p e below m F T pc' ls (.int v :: rest)) : Go p e below m F T pc ls (.int x :: rest) := by
  subst hp hv
  exact k.of fun t k => XS.ineg A.1 A.2.1 rfl (hb A.2.2 hd) rfl k
theorem s_i2d {x : Int32} {v : UInt64} (A : Wk p below m c b T) (hd : decode b pc = .ok (.i2d, 1)) (hp : pc + 1 = pc') (hv : FP.i2d x = v) (k : Go p e below m F T pc' ls (.double v :: rest)) : Go p e below m F T pc ls (.int x :: rest) := by
  subst hp hv
  exact k.of fun t k => XS.i2dS A.1 A.2.1 rfl (hb A.2.2 hd) rfl rfl k
theorem s_l2d {x : Int64} {v : UInt64} (A : Wk p below m c b T) (hd : decode b pc = .ok (.l2d, 1)) (hp : pc + 1 = pc') (hv : FP.l2d x = v) (k : Go p e below m F T pc' ls (.double v :: rest)) : Go p e below m F T pc ls (.long x :: rest) := by
  subst hp hv
  exact k.of fun t k => XS.l2dS A.1 A.2.1 rfl (hb A.2.2 hd) rfl rfl k
theorem s_dneg {x v : UInt64} (A : Wk p below m c b T) (hd : decode b pc = .ok (.dneg, 1)) (hp : pc + 1 = pc') (hv : FP.dneg x = v) (k : Go p e below m F T pc' ls (.double v :: rest)) : Go p e below m F T pc ls (.double x :: rest) := by
  subst hp hv
  exact k.of fun t k => XS.dnegS A.1 A.2.1 rfl (hb A.2.2 hd) rfl rfl k
theorem s_dadd {x y v : UInt64} (A : Wk p below m c b T) (hd : decode b pc = .ok (.dadd, 1)) (hp : pc + 1 = pc') (hv : FP.dadd x y = v) (hn : Jvm.Free.Fl.NoNaN64 v) (k : Go p e below m F T pc' ls (.double v :: rest)) : Go p e below m F T pc ls (.double y :: .double x :: rest) := by
  subst hp hv
  exact k.of fun t k => XS.daddS A.1 A.2.1 rfl (hb A.2.2 hd) rfl hn rfl k
theorem s_dsub {x y v : UInt64} (A : Wk p below m c b T) (hd : decode b pc = .ok (.dsub, 1)) (hp : pc + 1 = pc') (hv : FP.dsub x y = v) (hn : Jvm.Free.Fl.NoNaN64 v) (k : Go p e below m F T pc' ls (.double v :: rest)) : Go p e below m F T pc ls (.double y :: .double x :: rest) := by
  subst hp hv
  exact k.of fun t k => XS.dsubS A.1 A.2.1 rfl (hb A.2.2 hd) rfl hn rfl k
theorem s_dmul {x y v : UInt64} (A : Wk p below m c b T) (hd : decode b pc = .ok (.dmul, 1)) (hp : pc + 1 = pc') (hv : FP.dmul x y = v) (hn : Jvm.Free.Fl.NoNaN64 v) (k : Go p e below m F T pc' ls (.double v :: rest)) : Go p e below m F T pc ls (.double y :: .double x :: rest) := by
  subst hp hv
  exact k.of fun t k => XS.dmulS A.1 A.2.1 rfl (hb A.2.2 hd) rfl hn rfl k
theorem s_ddiv {x y v : UInt64} (A : Wk p below m c b T) (hd : decode b pc = .ok (.ddiv, 1)) (hp : pc + 1 = pc') (hv : FP.ddiv x y = v) (hn : Jvm.Free.Fl.NoNaN64 v) (k : Go p e below m F T pc' ls (.double v :: rest)) : Go p e below m F T pc ls (.double y :: .double x :: rest) := by
  subst hp hv
  exact k.of fun t k => XS.ddivS A.1 A.2.1 rfl (hb A.2.2 hd) rfl hn rfl k
theorem s_dcmp {o : CmpOp} {x y : UInt64} {v : Int32} (A : Wk p below m c b T) (hd : decode b pc = .ok (.dcmp o, 1)) (hp : pc + 1 = pc') (hv : cmpValue (FP.dcmp x y) o = v) (k : Go p e below m F T pc' ls (.int v :: rest)) : Go p e below m F T pc ls (.double y :: .double x :: rest) := by
  subst hp hv
  exact k.of fun t k => XS.dcmpS A.1 A.2.1 rfl (hb A.2.2 hd) rfl rfl k
theorem s_lcmp {x y : Int64} {v : Int32} (A : Wk p below m c b T) (hd : decode b pc = .ok (.lcmp, 1)) (hp : pc + 1 = pc') (hv : XT.cmpL x y = v) (k : Go p e below m F T pc' ls (.int v :: rest)) : Go p e below m F T pc ls (.long y :: .long x :: rest) := by
  subst hp hv
  exact k.of fun t k => XT.lcmp A.1 A.2.1 rfl (hb A.2.2 hd) rfl k
theorem s_dup {x : Value} (A : Wk p below m c b T) (hd : decode b pc = .ok (.dup, 1)) (hp : pc + 1 = pc') (hc : x.category = 1) (k : Go p e below m F T pc' ls (x :: x :: rest)) : Go p e below m F T pc ls (x :: rest) := by
  subst hp
  exact k.of fun t k => XS.dup A.1 A.2.1 rfl (hb A.2.2 hd) rfl hc k
theorem s_pop {x : Value} (A : Wk p below m c b T) (hd : decode b pc = .ok (.pop, 1)) (hp : pc + 1 = pc') (hc : x.category = 1) (k : Go p e below m F T pc' ls rest) : Go p e below m F T pc ls (x :: rest) := by
  subst hp
  exact k.of fun t k => XT.pop A.1 A.2.1 rfl (hb A.2.2 hd) rfl hc k
theorem s_goto {o : Int} (A : Wk p below m c b T) (hd : decode b pc = .ok (.goto o, 3)) (ho : 0 ≤ (pc : Int) + o) (hp : ((pc : Int) + o).toNat = pc') {st : List Value} (k : Go p e below m F T pc' ls st) : Go p e below m F T pc ls st := by
  exact k.of fun t k => XS.goto A.1 A.2.1 rfl rfl (hb A.2.2 hd) ho hp k
theorem n32_lt {x y : Int32} (h : ¬ x < y) : x ≥ y := Int32.not_lt.mp h
theorem n32_le {x y : Int32} (h : ¬ x ≤ y) : x > y := Int32.not_le.mp h
theorem s_ifeq {o : Int} {pY pN : Nat} {x : Int32} (A : Wk p below m c b T) (hd : decode b pc = .ok (.ifCond .eq o, 3)) (ho : 0 ≤ (pc : Int) + o) (hY : ((pc : Int) + o).toNat = pY) (hN : pc + 3 = pN) (kY : x = 0 → Go p e below m F T pY ls rest) (kN : x ≠ 0 → Go p e below m F T pN ls rest) : Go p e below m F T pc ls (.int x :: rest) := by
  subst hN
  cases q : ifCond.holds .eq x with
  | true => exact (kY (beq_iff_eq.mp q)).of fun t k => XS.ifYes A.1 A.2.1 rfl rfl (hb A.2.2 hd) rfl q ho hY k
  | false => exact (kN (beq_eq_false_iff_ne.mp q)).of fun t k => XS.ifNo A.1 A.2.1 rfl (hb A.2.2 hd) rfl q k
theorem s_ifne {o : Int} {pY pN : Nat} {x : Int32} (A : Wk p below m c b T) (hd : decode b pc = .ok (.ifCond .ne o, 3)) (ho : 0 ≤ (pc : Int) + o) (hY : ((pc : Int) + o).toNat = pY) (hN : pc + 3 = pN) (kY : x ≠ 0 → Go p e below m F T pY ls rest) (kN : x = 0 → Go p e below m F T pN ls rest) : Go p e below m F T pc ls (.int x :: rest) := by
  subst hN
  cases q : ifCond.holds .ne x with
  | true => exact (kY (bne_iff_ne.mp q)).of fun t k => XS.ifYes A.1 A.2.1 rfl rfl (hb A.2.2 hd) rfl q ho hY k
  | false => exact (kN (bne_eq_false_iff_eq.mp q)).of fun t k => XS.ifNo A.1 A.2.1 rfl (hb A.2.2 hd) rfl q k
theorem s_iflt {o : Int} {pY pN : Nat} {x : Int32} (A : Wk p below m c b T) (hd : decode b pc = .ok (.ifCond .lt o, 3)) (ho : 0 ≤ (pc : Int) + o) (hY : ((pc : Int) + o).toNat = pY) (hN : pc + 3 = pN) (kY : x < 0 → Go p e below m F T pY ls rest) (kN : x ≥ 0 → Go p e below m F T pN ls rest) : Go p e below m F T pc ls (.int x :: rest) := by
  subst hN
  cases q : ifCond.holds .lt x with
  | true => exact (kY (of_decide_eq_true q)).of fun t k => XS.ifYes A.1 A.2.1 rfl rfl (hb A.2.2 hd) rfl q ho hY k
  | false => exact (kN (n32_lt (of_decide_eq_false q))).of fun t k => XS.ifNo A.1 A.2.1 rfl (hb A.2.2 hd) rfl q k
theorem s_ifge {o : Int} {pY pN : Nat} {x : Int32} (A : Wk p below m c b T) (hd : decode b pc = .ok (.ifCond .ge o, 3)) (ho : 0 ≤ (pc : Int) + o) (hY : ((pc : Int) + o).toNat = pY) (hN : pc + 3 = pN) (kY : x ≥ 0 → Go p e below m F T pY ls rest) (kN : x < 0 → Go p e below m F T pN ls rest) : Go p e below m F T pc ls (.int x :: rest) := by
  subst hN
  cases q : ifCond.holds .ge x with
  | true => exact (kY (of_decide_eq_true q)).of fun t k => XS.ifYes A.1 A.2.1 rfl rfl (hb A.2.2 hd) rfl q ho hY k
  | false => exact (kN (n32_le (of_decide_eq_false q))).of fun t k => XS.ifNo A.1 A.2.1 rfl (hb A.2.2 hd) rfl q k
theorem s_ifgt {o : Int} {pY pN : Nat} {x : Int32} (A : Wk p below m c b T) (hd : decode b pc = .ok (.ifCond .gt o, 3)) (ho : 0 ≤ (pc : Int) + o) (hY : ((pc : Int) + o).toNat = pY) (hN : pc + 3 = pN) (kY : x > 0 → Go p e below m F T pY ls rest) (kN : x ≤ 0 → Go p e below m F T pN ls rest) : Go p e below m F T pc ls (.int x :: rest) := by
  subst hN
  cases q : ifCond.holds .gt x with
  | true => exact (kY (of_decide_eq_true q)).of fun t k => XS.ifYes A.1 A.2.1 rfl rfl (hb A.2.2 hd) rfl q ho hY k
  | false => exact (kN (n32_lt (of_decide_eq_false q))).of fun t k => XS.ifNo A.1 A.2.1 rfl (hb A.2.2 hd) rfl q k
theorem s_ifle {o : Int} {pY pN : Nat} {x : Int32} (A : Wk p below m c b T) (hd : decode b pc = .ok (.ifCond .le o, 3)) (ho : 0 ≤ (pc : Int) + o) (hY : ((pc : Int) + o).toNat = pY) (hN : pc + 3 = pN) (kY : x ≤ 0 → Go p e below m F T pY ls rest) (kN : x > 0 → Go p e below m F T pN ls rest) : Go p e below m F T pc ls (.int x :: rest) := by
  subst hN
  cases q : ifCond.holds .le x with
  | true => exact (kY (of_decide_eq_true q)).of fun t k => XS.ifYes A.1 A.2.1 rfl rfl (hb A.2.2 hd) rfl q ho hY k
  | false => exact (kN (n32_le (of_decide_eq_false q))).of fun t k => XS.ifNo A.1 A.2.1 rfl (hb A.2.2 hd) rfl q k
theorem s_icmpeq {o : Int} {pY pN : Nat} {x y : Int32} (A : Wk p below m c b T) (hd : decode b pc = .ok (.if_icmp .eq o, 3)) (ho : 0 ≤ (pc : Int) + o) (hY : ((pc : Int) + o).toNat = pY) (hN : pc + 3 = pN) (kY : x = y → Go p e below m F T pY ls rest) (kN : x ≠ y → Go p e below m F T pN ls rest) : Go p e below m F T pc ls (.int y :: .int x :: rest) := by
  subst hN
  cases q : if_icmp.holds .eq x y with
  | true => exact (kY (beq_iff_eq.mp q)).of fun t k => XS.icmpYes A.1 A.2.1 rfl rfl (hb A.2.2 hd) rfl q ho hY k
  | false => exact (kN (beq_eq_false_iff_ne.mp q)).of fun t k => XS.icmpNo A.1 A.2.1 rfl (hb A.2.2 hd) rfl q k
theorem s_icmpne {o : Int} {pY pN : Nat} {x y : Int32} (A : Wk p below m c b T) (hd : decode b pc = .ok (.if_icmp .ne o, 3)) (ho : 0 ≤ (pc : Int) + o) (hY : ((pc : Int) + o).toNat = pY) (hN : pc + 3 = pN) (kY : x ≠ y → Go p e below m F T pY ls rest) (kN : x = y → Go p e below m F T pN ls rest) : Go p e below m F T pc ls (.int y :: .int x :: rest) := by
  subst hN
  cases q : if_icmp.holds .ne x y with
  | true => exact (kY (bne_iff_ne.mp q)).of fun t k => XS.icmpYes A.1 A.2.1 rfl rfl (hb A.2.2 hd) rfl q ho hY k
  | false => exact (kN (bne_eq_false_iff_eq.mp q)).of fun t k => XS.icmpNo A.1 A.2.1 rfl (hb A.2.2 hd) rfl q k
theorem s_icmplt {o : Int} {pY pN : Nat} {x y : Int32} (A : Wk p below m c b T) (hd : decode b pc = .ok (.if_icmp .lt o, 3)) (ho : 0 ≤ (pc : Int) + o) (hY : ((pc : Int) + o).toNat = pY) (hN : pc + 3 = pN) (kY : x < y → Go p e below m F T pY ls rest) (kN : x ≥ y → Go p e below m F T pN ls rest) : Go p e below m F T pc ls (.int y :: .int x :: rest) := by
  subst hN
  cases q : if_icmp.holds .lt x y with
  | true => exact (kY (of_decide_eq_true q)).of fun t k => XS.icmpYes A.1 A.2.1 rfl rfl (hb A.2.2 hd) rfl q ho hY k
  | false => exact (kN (n32_lt (of_decide_eq_false q))).of fun t k => XS.icmpNo A.1 A.2.1 rfl (hb A.2.2 hd) rfl q k
theorem s_icmpge {o : Int} {pY pN : Nat} {x y : Int32} (A : Wk p below m c b T) (hd : decode b pc = .ok (.if_icmp .ge o, 3)) (ho : 0 ≤ (pc : Int) + o) (hY : ((pc : Int) + o).toNat = pY) (hN : pc + 3 = pN) (kY : x ≥ y → Go p e below m F T pY ls rest) (kN : x < y → Go p e below m F T pN ls rest) : Go p e below m F T pc ls (.int y :: .int x :: rest) := by
  subst hN
  cases q : if_icmp.holds .ge x y with
  | true => exact (kY (of_decide_eq_true q)).of fun t k => XS.icmpYes A.1 A.2.1 rfl rfl (hb A.2.2 hd) rfl q ho hY k
  | false => exact (kN (n32_le (of_decide_eq_false q))).of fun t k => XS.icmpNo A.1 A.2.1 rfl (hb A.2.2 hd) rfl q k
theorem s_icmpgt {o : Int} {pY pN : Nat} {x y : Int32} (A : Wk p below m c b T) (hd : decode b pc = .ok (.if_icmp .gt o, 3)) (ho : 0 ≤ (pc : Int) + o) (hY : ((pc : Int) + o).toNat = pY) (hN : pc + 3 = pN) (kY : x > y → Go p e below m F T pY ls rest) (kN : x ≤ y → Go p e below m F T pN ls rest) : Go p e below m F T pc ls (.int y :: .int x :: rest) := by
  subst hN
  cases q : if_icmp.holds .gt x y with
  | true => exact (kY (of_decide_eq_true q)).of fun t k => XS.icmpYes A.1 A.2.1 rfl rfl (hb A.2.2 hd) rfl q ho hY k
  | false => exact (kN (n32_lt (of_decide_eq_false q))).of fun t k => XS.icmpNo A.1 A.2.1 rfl (hb A.2.2 hd) rfl q k
theorem s_icmple {o : Int} {pY pN : Nat} {x y : Int32} (A : Wk p below m c b T) (hd : decode b pc = .ok (.if_icmp .le o, 3)) (ho : 0 ≤ (pc : Int) + o) (hY : ((pc : Int) + o).toNat = pY) (hN : pc + 3 = pN) (kY : x ≤ y → Go p e below m F T pY ls rest) (kN : x > y → Go p e below m F T pN ls rest) : Go p e below m F T pc ls (.int y :: .int x :: rest) := by
  subst hN
  cases q : if_icmp.holds .le x y with
  | true => exact (kY (of_decide_eq_true q)).of fun t k => XS.icmpYes A.1 A.2.1 rfl rfl (hb A.2.2 hd) rfl q ho hY k
  | false => exact (kN (n32_le (of_decide_eq_false q))).of fun t k => XS.icmpNo A.1 A.2.1 rfl (hb A.2.2 hd) rfl q k
theorem s_nonnullY {o : Int} {a : Addr} (A : Wk p below m c b T) (hd : decode b pc = .ok (.ifnonnull o, 3)) (ho : 0 ≤ (pc : Int) + o) (hp : ((pc : Int) + o).toNat = pc') (k : Go p e below m F T pc' ls rest) : Go p e below m F T pc ls (.ref a :: rest) := by
  exact k.of fun t k => XT.ifnonnullYes A.1 A.2.1 rfl rfl (hb A.2.2 hd) rfl ho hp k
theorem s_acmpeq {o : Int} {pY pN : Nat} {x y : Value} (A : Wk p below m c b T) (hx' : x.isRef = true) (hy' : y.isRef = true) (hd : decode b pc = .ok (.if_acmp .eq o, 3)) (ho : 0 ≤ (pc : Int) + o) (hY : ((pc : Int) + o).toNat = pY) (hN : pc + 3 = pN) (kY : x = y → Go p e below m F T pY ls rest) (kN : x ≠ y → Go p e below m F T pN ls rest) : Go p e below m F T pc ls (y :: x :: rest) := by
  subst hN
  by_cases q : x = y
  · exact (kY q).of fun t k => XT.acmpYes A.1 A.2.1 rfl rfl (hb A.2.2 hd) rfl hx' hy' (decide_eq_true q) ho hY k
  · exact (kN q).of fun t k => XT.acmpNo A.1 A.2.1 rfl (hb A.2.2 hd) rfl hx' hy' (decide_eq_false q) k
theorem s_acmpne {o : Int} {pY pN : Nat} {x y : Value} (A : Wk p below m c b T) (hx' : x.isRef = true) (hy' : y.isRef = true) (hd : decode b pc = .ok (.if_acmp .ne o, 3)) (ho : 0 ≤ (pc : Int) + o) (hY : ((pc : Int) + o).toNat = pY) (hN : pc + 3 = pN) (kY : x ≠ y → Go p e below m F T pY ls rest) (kN : x = y → Go p e below m F T pN ls rest) : Go p e below m F T pc ls (y :: x :: rest) := by
  subst hN
  by_cases q : x = y
  · exact (kN q).of fun t k => XT.acmpNo A.1 A.2.1 rfl (hb A.2.2 hd) rfl hx' hy' (decide_eq_false (fun r => r q)) k
  · exact (kY q).of fun t k => XT.acmpYes A.1 A.2.1 rfl rfl (hb A.2.2 hd) rfl hx' hy' (decide_eq_true q) ho hY k
theorem s_tsw {dflt low high : Int} {offs : Array Int} {len : Nat} {o : Int} {i : Int32} (A : Wk p below m c b T) (hd : decode b pc = .ok (.tableswitch dflt low high offs, len)) (hin : ¬ (i.toInt < low ∨ i.toInt > high)) (hoff : offs[(i.toInt - low).toNat]? = some o) (ho : 0 ≤ (pc : Int) + o) (hp : ((pc : Int) + o).toNat = pc') (k : Go p e below m F T pc' ls rest) : Go p e below m F T pc ls (.int i :: rest) := by
  exact k.of fun t k => XS.tswIn A.1 A.2.1 rfl rfl (hb A.2.2 hd) rfl hin hoff ho hp k
end Plain
section Heap
variable {p : Program} {l : Launch} {e : Env} {R : Room} {s : State} {m : MethodId} {args : Array Value} {below : List Frame} {meth : Method} {c : Code} {T : State} {locs : List Loc} {cells slots : Nat} {Z : State} {a0 : Array Value} {h : Heap} {b : ByteArray} {F : Outcome → State → Prop} {pc pc' : Nat} {ls : Array Slot} {rest : List Value}
theorem g_ldcI (X : Stand p l e R s m args below meth c T locs cells slots) (hx : p.tables.exec = Jvm.exec) (hZ : Z.Warmed39 s.vm) {own : String} {i : Nat} {v : Int32} (hown : s.vm.findClass own = some m.cls) (w : (Cond.constant own i v).before a0 Z = true) (hd : decode c.code pc = .ok (.ldc i, 2)) (hp : pc + 2 = pc') (k : Go p e below m F T pc' ls (.int v :: rest)) : Go p e below m F T pc ls rest := by
  subst hp
  exact k.of fun t k => X.ldcInt hx hown (mvT hZ w) (g := mkF m pc ls rest) rfl hd t k
theorem g_ldcwI (X : Stand p l e R s m args below meth c T locs cells slots) (hx : p.tables.exec = Jvm.exec) (hZ : Z.Warmed39 s.vm) {own : String} {i : Nat} {v : Int32} (hown : s.vm.findClass own = some m.cls) (w : (Cond.constant own i v).before a0 Z = true) (hd : decode c.code pc = .ok (.ldc_w i, 3)) (hp : pc + 3 = pc') (k : Go p e below m F T pc' ls (.int v :: rest)) : Go p e below m F T pc ls rest := by
  subst hp
  exact k.of fun t k => X.ldcwInt hx hown (mvT hZ w) (g := mkF m pc ls rest) rfl hd t k
theorem g_ldcJ (X : Stand p l e R s m args below meth c T locs cells slots) (hx : p.tables.exec = Jvm.exec) (hZ : Z.Warmed39 s.vm) {own : String} {i : Nat} {v : Int64} (hown : s.vm.findClass own = some m.cls) (w : (Cond.constantLong own i v).before a0 Z = true) (hd : decode c.code pc = .ok (.ldc2_w i, 3)) (hp : pc + 3 = pc') (k : Go p e below m F T pc' ls (.long v :: rest)) : Go p e below m F T pc ls rest := by
  subst hp
  exact k.of fun t k => X.ldc2Long hx hown (mvT hZ w) (g := mkF m pc ls rest) rfl hd t k
theorem g_ldcD (X : Stand p l e R s m args below meth c T locs cells slots) (hx : p.tables.exec = Jvm.exec) (hZ : Z.Warmed39 s.vm) {own : String} {i : Nat} {v : UInt64} (hown : s.vm.findClass own = some m.cls) (w : (Cond.constantDouble own i v).before a0 Z = true) (hd : decode c.code pc = .ok (.ldc2_w i, 3)) (hp : pc + 3 = pc') (k : Go p e below m F T pc' ls (.double v :: rest)) : Go p e below m F T pc ls rest := by
  subst hp
  exact k.of fun t k => X.ldc2DoubleC hx hown (mvT hZ w) (g := mkF m pc ls rest) rfl hd t k
theorem g_getF (X : Stand p l e R s m args below meth c T locs cells slots) (hx : p.tables.exec = Jvm.exec) (hZ : Z.Warmed39 s.vm) {own R0 O n d : String} {i : Nat} (hown : s.vm.findClass own = some m.cls) (w : (Cond.fieldLink own i R0 n d).before a0 Z = true) (via : Via Z R0 O n d) (eT : T.heap = h) {a : Addr} {v : Value} (F0 : Fld Z h a O n d v) (hd : decode c.code pc = .ok (.getfield i, 3)) (hp : pc + 3 = pc') (k : ∀ T', Stand p l e R s m args below meth c T' locs cells slots → T'.heap = h → Go p e below m F T' pc' ls (v :: rest)) : Go p e below m F T pc ls (.ref a :: rest) := by
  subst hp
  obtain ⟨T', X', e', st⟩ := getF X hx hZ hown (host := "") (Or.inl w) via eT F0 (g := mkF m pc ls (.ref a :: rest)) rfl rfl hd
  exact (k T' X' e').of st
theorem g_getFN (X : Stand p l e R s m args below meth c T locs cells slots) (hx : p.tables.exec = Jvm.exec) (hZ : Z.Warmed39 s.vm) {own R0 O n d host : String} {i : Nat} (hown : s.vm.findClass own = some m.cls) (w : (Cond.fieldLinkNest own i R0 n d host).before a0 Z = true) (via : Via Z R0 O n d) (eT : T.heap = h) {a : Addr} {v : Value} (F0 : Fld Z h a O n d v) (hd : decode c.code pc = .ok (.getfield i, 3)) (hp : pc + 3 = pc') (k : ∀ T', Stand p l e R s m args below meth c T' locs cells slots → T'.heap = h → Go p e below m F T' pc' ls (v :: rest)) : Go p e below m F T pc ls (.ref a :: rest) := by
  subst hp
  obtain ⟨T', X', e', st⟩ := getF X hx hZ hown (host := host) (Or.inr w) via eT F0 (g := mkF m pc ls (.ref a :: rest)) rfl rfl hd
  exact (k T' X' e').of st
theorem g_putF (X : Stand p l e R s m args below meth c T locs cells slots) (hx : p.tables.exec = Jvm.exec) (hZ : Z.Warmed39 s.vm) {own R0 O n d C : String} {i kk : Nat} {ty : FieldType} (hown : s.vm.findClass own = some m.cls) (w : (Cond.fieldLink own i R0 n d).before a0 Z = true) (via : Via Z R0 O n d) (eT : T.heap = h) {a : Addr} {v old : Value} (F0 : Fld Z h a O n d old) (E : Exa Z h a C) (L : (Cond.lays C O n d).before a0 Z = true ∨ ((Cond.laysFinal C O n d).before a0 Z = true ∧ own = O ∧ meth.name = "<init>")) (wi : (Cond.instantiable C kk).before a0 Z = true) (hty : parseFieldDescriptor d = some ty) (hn : narrow ty v = v) (hf : fits ty v = true) (hd : decode c.code pc = .ok (.putfield i, 3)) (hp : pc + 3 = pc') (k : ∀ T' h', Stand p l e R s m args below meth c T' (locs ++ [⟨a, RoadKit.slotOf Z O n d⟩]) cells slots → T'.heap = h' → Wr h h' a (RoadKit.slotOf Z O n d) v → Go p e below m F T' pc' ls rest) : Go p e below m F T pc ls (v :: .ref a :: rest) := by
  subst hp
  obtain ⟨T', h', X', e', W', st⟩ := putF X hx hZ hown (host := "") (Or.inl w) via eT F0 E L wi hty hn hf (g := mkF m pc ls (v :: .ref a :: rest)) rfl rfl hd
  exact (k T' h' X' e' W').of st
theorem g_getS (X : Stand p l e R s m args below meth c T locs cells slots) (hx : p.tables.exec = Jvm.exec) (hZ : Z.Warmed39 s.vm) {own R0 O n d : String} {i : Nat} (hown : s.vm.findClass own = some m.cls) (w : (Cond.fieldLink own i R0 n d).before a0 Z = true) (via : Via Z R0 O n d) (eT : T.heap = h) {v : Value} (F0 : Sta Z h O n d v) (hd : decode c.code pc = .ok (.getstatic i, 3)) (hp : pc + 3 = pc') (k : ∀ T', Stand p l e R s m args below meth c T' locs cells slots → T'.heap = h → Go p e below m F T' pc' ls (v :: rest)) : Go p e below m F T pc ls rest := by
  subst hp
  obtain ⟨T', X', e', st⟩ := getS X hx hZ hown (host := "") w via eT F0 (g := mkF m pc ls rest) rfl hd
  exact (k T' X' e').of st
theorem g_new (X : Stand p l e R s m args below meth c T locs cells slots) (hx : p.tables.exec = Jvm.exec) (hZ : Z.Warmed39 s.vm) {own C : String} {i n : Nat} (hown : s.vm.findClass own = some m.cls) (w : (Cond.classLink own i C).before a0 Z = true) (wi : (Cond.instantiable C n).before a0 Z = true) (wz : (Cond.initialized C).before a0 Z = true) (eT : T.heap = h) (hd : decode c.code pc = .ok (.new i, 3)) (hp : pc + 3 = pc') (hc : cells + 1 ≤ R.cells) (hl : slots + n ≤ R.slots) (k : ∀ T' h' a, Stand p l e R s m args below meth c T' locs (cells + 1) (slots + n) → T'.heap = h' → Ext h h' → a = h.size → Exa Z h' a C → (∀ {O nm d : String} {ty : FieldType}, Laid Z a0 C O nm d → parseFieldDescriptor d = some ty → Fld Z h' a O nm d (defaultValue ty)) → Go p e below m F T' pc' ls (.ref a :: rest)) : Go p e below m F T pc ls rest := by
  subst hp
  obtain ⟨T', h', X', e', E', A', D', -, st⟩ := newO X hx hZ hown w wi wz eT (g := mkF m pc ls rest) rfl hd hc hl
  exact (k T' h' _ X' e' E' rfl A' D').of st
theorem g_initO (X : Stand p l e R s m args below meth c T locs cells slots) (hx : p.tables.exec = Jvm.exec) (hZ : Z.Warmed39 s.vm) {own : String} {i : Nat} (hown : s.vm.findClass own = some m.cls) (w1 : (Cond.methodLink own i Lib.objectInit).before a0 Z = true) (w2 : (Cond.instanceMethod Lib.objectInit).before a0 Z = true) (w3 : (Cond.code Lib.objectInit ⟨#[0xb1]⟩ 1 none).before a0 Z = true) (eT : T.heap = h) (hsize : ls.size = c.maxLocals) {a : Addr} (hd : decode c.code pc = .ok (.invokespecial i, 3)) (hp : pc + 3 = pc') (hf : 1 ≤ R.frames) {W : Nat} (hW : 2 * 0 + (rest.map fun v => v.category).sum ≤ W) (hl : W + 12 ≤ R.locals) (k : ∀ T', Stand p l e R s m args below meth c T' locs cells slots → T'.heap = h → Go p e below m F T' pc' ls rest) : Go p e below m F T pc ls (.ref a :: rest) := by
  subst hp
  obtain ⟨T', X', e', st⟩ := initO X hx hZ hown w1 w2 w3 eT (g := mkF m pc ls (.ref a :: rest)) rfl hsize rfl hd hf hW hl
  exact (k T' X' e').of st
theorem g_static (X : Stand p l e R s m args below meth c T locs cells slots) (hx : p.tables.exec = Jvm.exec) (hZ : Z.Warmed39 s.vm) {own : String} {i : Nat} {y : MethodName} {bytes : ByteArray} {maxL : Nat} {ret : Option FieldType} {rm : Room} {Q : Option Value → Heap → List Loc → Prop} (hown : s.vm.findClass own = some m.cls) (w1 : (Cond.methodLink own i y).before a0 Z = true) (w2 : (Cond.static y).before a0 Z = true) (w3 : (Cond.initialized y.cls).before a0 Z = true) (w4 : (Cond.code y bytes maxL ret).before a0 Z = true) (hy : y.cls ≠ "java/lang/invoke/MethodHandle" ∧ y.cls ≠ "java/lang/invoke/VarHandle")
    {argsL st : List Value} {ps : List FieldType} {rt : Option FieldType} (hM : Ctr l Z y bytes maxL ret [] rm argsL.toArray h Q) (hpd : parseMethodDescriptor y.desc = some ⟨ps, rt⟩) (hlen : argsL.length = ps.length) (hst : st = argsL.reverse ++ rest) (hd : decode c.code pc = .ok (.invokestatic i, 3)) (eT : T.heap = h) (hsize : ls.size = c.maxLocals) (hp : pc + 3 = pc') (hf : rm.frames + 1 ≤ R.frames) {W : Nat} (hW : 2 * 0 + (rest.map fun v => v.category).sum ≤ W) (hl : W + (maxL + 11) + rm.locals ≤ R.locals) (hc : cells + rm.cells ≤ R.cells) (hs : slots + rm.slots ≤ R.slots)
    (k : ∀ v T' L, Stand p l e R s m args below meth c T' (locs ++ L) (cells + rm.cells) (slots + rm.slots) → Q v T'.heap L → Go p e below m F T' pc' ls (v.toList ++ rest)) : Go p e below m F T pc ls st := by
  subst hp hst
  obtain ⟨v, _, ⟨T', L', k', n'⟩, -, X', ⟨L, hQ, l1, l2, l3⟩, stp⟩ := Jvm.LawKit.callS X hx (y := y) hown (mvT hZ w1) (mvT hZ w2) (mvT hZ w3) (mvT hZ w4) hy (backOf (W := W) hM hZ w4 w3 hf hl) (g := mkF m pc ls (argsL.reverse ++ rest)) rfl hsize (argsL := argsL) (rest := rest) (lenOf hpd hlen) rfl hW hd (fun _ _ => ⟨rfl, eT, hc, hs⟩)
  dsimp only [Pt.U, Pt.locs, Pt.cells, Pt.slots] at X' l1 l2 l3 stp hQ
  subst l1 l2 l3
  exact (k v T' L X' hQ).of stp
theorem g_special (X : Stand p l e R s m args below meth c T locs cells slots) (hx : p.tables.exec = Jvm.exec) (hZ : Z.Warmed39 s.vm) {own : String} {i : Nat} {y : MethodName} {bytes : ByteArray} {maxL : Nat} {rm : Room} {Q : Option Value → Heap → List Loc → Prop} (hy1 : y.name = "<init>") (hown : s.vm.findClass own = some m.cls) (w1 : (Cond.methodLink own i y).before a0 Z = true) (w2 : (Cond.instanceMethod y).before a0 Z = true) (w3 : (Cond.initialized y.cls).before a0 Z = true) (w4 : (Cond.code y bytes maxL none).before a0 Z = true) (hy : y.cls ≠ "java/lang/invoke/MethodHandle" ∧ y.cls ≠ "java/lang/invoke/VarHandle")
    {a : Addr} {argsL st : List Value} {ps : List FieldType} {rt : Option FieldType} (hM : Ctr l Z y bytes maxL none [] rm (.ref a :: argsL).toArray h Q) (hpd : parseMethodDescriptor y.desc = some ⟨ps, rt⟩) (hlen : argsL.length = ps.length) (hst : st = argsL.reverse ++ .ref a :: rest) (hd : decode c.code pc = .ok (.invokespecial i, 3)) (eT : T.heap = h) (hsize : ls.size = c.maxLocals) (hp : pc + 3 = pc') (hf : rm.frames + 1 ≤ R.frames) {W : Nat} (hW : 2 * 0 + (rest.map fun v => v.category).sum ≤ W) (hl : W + (maxL + 11) + rm.locals ≤ R.locals) (hc : cells + rm.cells ≤ R.cells) (hs : slots + rm.slots ≤ R.slots)
    (k : ∀ v T' L, Stand p l e R s m args below meth c T' (locs ++ L) (cells + rm.cells) (slots + rm.slots) → Q v T'.heap L → Go p e below m F T' pc' ls (v.toList ++ rest)) : Go p e below m F T pc ls st := by
  subst hp hst
  obtain ⟨v, _, ⟨T', L', k', n'⟩, -, X', ⟨L, hQ, l1, l2, l3⟩, stp⟩ := X.specialBack hx (y := y) hy1 hown (mvT hZ w1) (mvT hZ w2) (mvT hZ w4) hy (backOf (W := W) hM hZ w4 w3 hf hl) (g := mkF m pc ls (argsL.reverse ++ .ref a :: rest)) rfl hsize (Steps.refl _) (a := a) (argsL := argsL) (rest := rest) (lenOf hpd hlen) rfl hW hd (fun _ _ => ⟨rfl, eT, hc, hs⟩)
  dsimp only [Pt.U, Pt.locs, Pt.cells, Pt.slots] at X' l1 l2 l3 stp hQ
  subst l1 l2 l3
  exact (k v T' L X' hQ).of fun t q => stp.trans q
theorem g_virtual (X : Stand p l e R s m args below meth c T locs cells slots) (hx : p.tables.exec = Jvm.exec) (hZ : Z.Warmed39 s.vm) {own C : String} {i : Nat} {y : MethodName} {bytes : ByteArray} {maxL : Nat} {ret : Option FieldType} {rm : Room} {Q : Option Value → Heap → List Loc → Prop} (hown : s.vm.findClass own = some m.cls) (w1 : (Cond.methodLink own i y).before a0 Z = true) (w2 : (Cond.declares y).before a0 Z = true) (w5 : (Cond.selects C y y).before a0 Z = true) (w6 : (Cond.instanceMethod y).before a0 Z = true) (w3 : (Cond.initialized y.cls).before a0 Z = true) (w4 : (Cond.code y bytes maxL ret).before a0 Z = true) (hy : y.cls ≠ "java/lang/invoke/MethodHandle" ∧ y.cls ≠ "java/lang/invoke/VarHandle")
    {a : Addr} (Ea : Exa Z h a C) {argsL st : List Value} {ps : List FieldType} {rt : Option FieldType} (hM : Ctr l Z y bytes maxL ret [] rm (.ref a :: argsL).toArray h Q) (hpd : parseMethodDescriptor y.desc = some ⟨ps, rt⟩) (hlen : argsL.length = ps.length) (hst : st = argsL.reverse ++ .ref a :: rest) (hd : decode c.code pc = .ok (.invokevirtual i, 3)) (eT : T.heap = h) (hsize : ls.size = c.maxLocals) (hp : pc + 3 = pc') (hf : rm.frames + 1 ≤ R.frames) {W : Nat} (hW : 2 * 0 + (rest.map fun v => v.category).sum ≤ W) (hl : W + (maxL + 11) + rm.locals ≤ R.locals) (hc : cells + rm.cells ≤ R.cells) (hs : slots + rm.slots ≤ R.slots)
    (k : ∀ v T' L, Stand p l e R s m args below meth c T' (locs ++ L) (cells + rm.cells) (slots + rm.slots) → Q v T'.heap L → Go p e below m F T' pc' ls (v.toList ++ rest)) : Go p e below m F T pc ls st := by
  subst hp hst
  obtain ⟨cq, kq, qa, qb, qc⟩ := isOf hZ eT Ea
  obtain ⟨v, _, ⟨T', L', k', n'⟩, -, X', ⟨L, hQ, l1, l2, l3⟩, stp⟩ := X.virtualBack hx (y := y) (z := y) hown (mvT hZ w1) (mvT hZ w2) (notFace_of_selects (args := #[]) (mvT hZ w5)) (mvT hZ w5) (mvT hZ w6) hy (backOf (W := W) hM hZ w4 w3 hf hl) qa qc (g := mkF m pc ls (argsL.reverse ++ .ref a :: rest)) rfl hsize (Steps.refl _) (argsL := argsL) (rest := rest) (lenOf hpd hlen) rfl hW hd (fun _ _ => ⟨rfl, eT, hc, hs⟩)
  dsimp only [Pt.U, Pt.locs, Pt.cells, Pt.slots] at X' l1 l2 l3 stp hQ
  subst l1 l2 l3
  exact (k v T' L X' hQ).of fun t q => stp.trans q
theorem g_virtualUp (X : Stand p l e R s m args below meth c T locs cells slots) (hx : p.tables.exec = Jvm.exec) (hZ : Z.Warmed39 s.vm) {own C owner : String} {i : Nat} {x y : MethodName} {bytes : ByteArray} {maxL : Nat} {ret : Option FieldType} {rm : Room} {Q : Option Value → Heap → List Loc → Prop} (hown : s.vm.findClass own = some m.cls) (w1 : (Cond.methodLink own i x).before a0 Z = true) (w7 : (Cond.sameMethod x.cls owner x.name x.desc).before a0 Z = true) (w2 : (Cond.declares ⟨owner, x.name, x.desc⟩).before a0 Z = true) (ho : owner ≠ "java/lang/invoke/MethodHandle" ∧ owner ≠ "java/lang/invoke/VarHandle") (w5 : (Cond.selects C x y).before a0 Z = true) (w6 : (Cond.instanceMethod y).before a0 Z = true) (w3 : (Cond.initialized y.cls).before a0 Z = true) (w4 : (Cond.code y bytes maxL ret).before a0 Z = true)
    {a : Addr} (Ea : Exa Z h a C) {argsL st : List Value} {ps : List FieldType} {rt : Option FieldType} (hM : Ctr l Z y bytes maxL ret [] rm (.ref a :: argsL).toArray h Q) (hpd : parseMethodDescriptor x.desc = some ⟨ps, rt⟩) (hlen : argsL.length = ps.length) (hst : st = argsL.reverse ++ .ref a :: rest) (hd : decode c.code pc = .ok (.invokevirtual i, 3)) (eT : T.heap = h) (hsize : ls.size = c.maxLocals) (hp : pc + 3 = pc') (hf : rm.frames + 1 ≤ R.frames) {W : Nat} (hW : 2 * 0 + (rest.map fun v => v.category).sum ≤ W) (hl : W + (maxL + 11) + rm.locals ≤ R.locals) (hc : cells + rm.cells ≤ R.cells) (hs : slots + rm.slots ≤ R.slots)
    (k : ∀ v T' L, Stand p l e R s m args below meth c T' (locs ++ L) (cells + rm.cells) (slots + rm.slots) → Q v T'.heap L → Go p e below m F T' pc' ls (v.toList ++ rest)) : Go p e below m F T pc ls st := by
  subst hp hst
  obtain ⟨cq, kq, qa, qb, qc⟩ := isOf hZ eT Ea
  obtain ⟨v, _, ⟨T', L', k', n'⟩, -, X', ⟨L, hQ, l1, l2, l3⟩, stp⟩ := X.virtualBackUp hx (x := x) (y := y) (owner := owner) hown (mvT hZ w1) (mvT hZ w7) (mvT hZ w2) ho (mvT hZ w5) (mvT hZ w6) (backOf (W := W) hM hZ w4 w3 hf hl) qa qc (g := mkF m pc ls (argsL.reverse ++ .ref a :: rest)) rfl hsize (Steps.refl _) (argsL := argsL) (rest := rest) (lenOf hpd hlen) rfl hW hd (fun _ _ => ⟨rfl, eT, hc, hs⟩)
  dsimp only [Pt.U, Pt.locs, Pt.cells, Pt.slots] at X' l1 l2 l3 stp hQ
  subst l1 l2 l3
  exact (k v T' L X' hQ).of fun t q => stp.trans q
theorem g_retV (X : Stand p l e R s m args below meth c T locs cells slots) (hx : p.tables.exec = Jvm.exec) {Q : Option Value → Heap → List Loc → Prop} {rc rs : Nat} (hlk : meth.locks = false) (hret : meth.sig.returnType = none) (hd : decode c.code pc = .ok (.return_, 1)) (hQ : Q none T.heap locs) (hc : cells ≤ rc) (hs : slots ≤ rs) : Go p e below m (Fini s rc rs Q) T pc ls [] := by
  obtain ⟨fs, hr, hrun, hended, hW, hsame⟩ := X.leave (v := none) (fun _ => rfl)
  exact ⟨_, _, X.returnOut hx hret hd hr, hrun, hended, _, _, rfl, hQ, ⟨_, rfl⟩, hW, hsame.mono hc hs⟩
theorem g_ret (X : Stand p l e R s m args below meth c T locs cells slots) (hx : p.tables.exec = Jvm.exec) {Q : Option Value → Heap → List Loc → Prop} {rc rs : Nat} (hlk : meth.locks = false) {t : FieldType} {w : Value} {i : Instr} (hret : meth.sig.returnType = some t) (hn : narrow t w = w)
    (hi : (i = .ireturn ∧ (t = .int ∨ t = .boolean ∨ t = .byte ∨ t = .char ∨ t = .short) ∧ ∃ z, w = .int z) ∨ (i = .lreturn ∧ t = .long ∧ ∃ z, w = .long z) ∨ (i = .dreturn ∧ t = .double ∧ ∃ z, w = .double z) ∨ (i = .freturn ∧ t = .float ∧ ∃ z, w = .float z) ∨ (i = .areturn ∧ t.isReference = true ∧ w.isRef = true))
    (hd : decode c.code pc = .ok (i, 1)) (hQ : Q (some w) T.heap locs) (hc : cells ≤ rc) (hs : slots ≤ rs) : Go p e below m (Fini s rc rs Q) T pc ls (w :: rest) := by
  obtain ⟨fs, hr, hrun, hended, hW, hsame⟩ := X.leave (v := some w) (fun h => by rw [hret] at h; cases h)
  exact ⟨_, _, retOut X hx hret hn hi hd hr, hrun, hended, _, _, rfl, hQ, ⟨_, rfl⟩, hW, hsame.mono hc hs⟩
theorem g_retZ (X : Stand p l e R s m args below meth c T locs cells slots) (hx : p.tables.exec = Jvm.exec) {Q : Option Value → Heap → List Loc → Prop} {rc rs : Nat} (hlk : meth.locks = false) {z : Int32} (hret : meth.sig.returnType = some .boolean) (hz : z = 0 ∨ z = 1) (hd : decode c.code pc = .ok (.ireturn, 1)) (hQ : Q (some (.int z)) T.heap locs) (hc : cells ≤ rc) (hs : slots ≤ rs) : Go p e below m (Fini s rc rs Q) T pc ls (.int z :: rest) :=
  g_ret X hx hlk hret (by rcases hz with rfl | rfl <;> rfl) (Or.inl ⟨rfl, Or.inr (Or.inl rfl), _, rfl⟩) hd hQ hc hs
theorem g_retI (X : Stand p l e R s m args below meth c T locs cells slots) (hx : p.tables.exec = Jvm.exec) {Q : Option Value → Heap → List Loc → Prop} {rc rs : Nat} (hlk : meth.locks = false) {z : Int32} (hret : meth.sig.returnType = some .int) (hd : decode c.code pc = .ok (.ireturn, 1)) (hQ : Q (some (.int z)) T.heap locs) (hc : cells ≤ rc) (hs : slots ≤ rs) : Go p e below m (Fini s rc rs Q) T pc ls (.int z :: rest) :=
  g_ret X hx hlk hret rfl (Or.inl ⟨rfl, Or.inl rfl, _, rfl⟩) hd hQ hc hs
theorem g_retJ (X : Stand p l e R s m args below meth c T locs cells slots) (hx : p.tables.exec = Jvm.exec) {Q : Option Value → Heap → List Loc → Prop} {rc rs : Nat} (hlk : meth.locks = false) {z : Int64} (hret : meth.sig.returnType = some .long) (hd : decode c.code pc = .ok (.lreturn, 1)) (hQ : Q (some (.long z)) T.heap locs) (hc : cells ≤ rc) (hs : slots ≤ rs) : Go p e below m (Fini s rc rs Q) T pc ls (.long z :: rest) :=
  g_ret X hx hlk hret rfl (Or.inr (Or.inl ⟨rfl, rfl, _, rfl⟩)) hd hQ hc hs
theorem g_retD (X : Stand p l e R s m args below meth c T locs cells slots) (hx : p.tables.exec = Jvm.exec) {Q : Option Value → Heap → List Loc → Prop} {rc rs : Nat} (hlk : meth.locks = false) {z : UInt64} (hret : meth.sig.returnType = some .double) (hd : decode c.code pc = .ok (.dreturn, 1)) (hQ : Q (some (.double z)) T.heap locs) (hc : cells ≤ rc) (hs : slots ≤ rs) : Go p e below m (Fini s rc rs Q) T pc ls (.double z :: rest) :=
  g_ret X hx hlk hret rfl (Or.inr (Or.inr (Or.inl ⟨rfl, rfl, _, rfl⟩))) hd hQ hc hs
theorem g_retA (X : Stand p l e R s m args below meth c T locs cells slots) (hx : p.tables.exec = Jvm.exec) {Q : Option Value → Heap → List Loc → Prop} {rc rs : Nat} (hlk : meth.locks = false) {t : FieldType} {w : Value} (hret : meth.sig.returnType = some t) (ht : t.isReference = true) (hw : w.isRef = true) (hn : narrow t w = w) (hd : decode c.code pc = .ok (.areturn, 1)) (hQ : Q (some w) T.heap locs) (hc : cells ≤ rc) (hs : slots ≤ rs) : Go p e below m (Fini s rc rs Q) T pc ls (w :: rest) :=
  g_ret X hx hlk hret hn (Or.inr (Or.inr (Or.inr (Or.inr ⟨rfl, ht, hw⟩)))) hd hQ hc hs
end Heap
end Jvm.Own
namespace Jvm.Own
open Sem ClassFile Op Lib Jvm.Free
/-! comparisons as whole numbers -/
def cmpI (n m : Int) : Int32 := if n < m then -1 else if n = m then 0 else 1
theorem cmpI_eq {n m : Int} (h : cmpI n m = 0) : n = m := by
  unfold cmpI at h
  by_cases a : n < m
  · rw [if_pos a] at h; exact absurd h (by decide)
  · by_cases b : n = m
    · exact b
    · rw [if_neg a, if_neg b] at h; exact absurd h (by decide)
theorem cmpI_ne {n m : Int} (h : cmpI n m ≠ 0) : n ≠ m := by
  intro b; subst b; exact h (by unfold cmpI; rw [if_neg (by omega), if_pos rfl])
theorem cmpI_lt {n m : Int} (h : cmpI n m < 0) : n < m := by
  unfold cmpI at h
  by_cases a : n < m
  · exact a
  · by_cases b : n = m
    · rw [if_neg a, if_pos b] at h; exact absurd h (by decide)
    · rw [if_neg a, if_neg b] at h; exact absurd h (by decide)
theorem cmpI_ge {n m : Int} (h : cmpI n m ≥ 0) : m ≤ n := by
  by_cases a : n < m
  · unfold cmpI at h; rw [if_pos a] at h; exact absurd h (by decide)
  · omega
theorem cmpI_gt {n m : Int} (h : cmpI n m > 0) : m < n := by
  by_cases a : n < m
  · unfold cmpI at h; rw [if_pos a] at h; exact absurd h (by decide)
  · by_cases b : n = m
    · unfold cmpI at h; rw [if_neg a, if_pos b] at h; exact absurd h (by decide)
    · omega
theorem cmpI_le {n m : Int} (h : cmpI n m ≤ 0) : n ≤ m := by
  by_cases a : n < m
  · omega
  · by_cases b : n = m
    · omega
    · unfold cmpI at h; rw [if_neg a, if_neg b] at h; exact absurd h (by decide)
theorem cmpI_some (n m : Int) (o : CmpOp) : cmpValue (some (compare n m)) o = cmpI n m := by
  unfold cmpI
  rw [Jvm.FP.Core.compare_ite]
  by_cases a : n < m
  · rw [if_pos a, if_pos a]; cases o <;> rfl
  · by_cases b : n = m
    · rw [if_neg a, if_pos b, if_neg a, if_pos b]; cases o <;> rfl
    · rw [if_neg a, if_neg b, if_neg a, if_neg b]; cases o <;> rfl
theorem cmpL_I (x y : Int64) : XT.cmpL x y = cmpI x.toInt y.toInt := by
  unfold XT.cmpL cmpI
  by_cases a : y < x
  · have a' := Int64.lt_iff_toInt_lt.mp a
    rw [if_pos a, if_neg (by omega), if_neg (by omega)]
  · have a' : ¬ y.toInt < x.toInt := fun q => a (Int64.lt_iff_toInt_lt.mpr q)
    by_cases b : x = y
    · subst b; rw [if_neg a, if_pos rfl, if_neg (by omega), if_pos rfl]
    · have b' : x.toInt ≠ y.toInt := fun q => b (Int64.toInt_inj.mp q)
      rw [if_neg a, if_neg b, if_pos (by omega)]
theorem i_eq {x y : Int32} (h : x = y) : x.toInt = y.toInt := by rw [h]
theorem i_ne {x y : Int32} (h : x ≠ y) : x.toInt ≠ y.toInt := fun q => h (Int32.toInt_inj.mp q)
theorem i_lt {x y : Int32} (h : x < y) : x.toInt < y.toInt := Int32.lt_iff_toInt_lt.mp h
theorem i_ge {x y : Int32} (h : x ≥ y) : y.toInt ≤ x.toInt := Int32.le_iff_toInt_le.mp h
theorem i_gt {x y : Int32} (h : x > y) : y.toInt < x.toInt := Int32.lt_iff_toInt_lt.mp h
theorem i_le {x y : Int32} (h : x ≤ y) : x.toInt ≤ y.toInt := Int32.le_iff_toInt_le.mp h
theorem iz_eq {x : Int32} (h : x = 0) : x.toInt = 0 := by rw [h]; rfl
theorem iz_ne {x : Int32} (h : x ≠ 0) : x.toInt ≠ 0 := fun q => h (Int32.toInt_inj.mp q)
theorem iz_lt {x : Int32} (h : x < 0) : x.toInt < 0 := Int32.lt_iff_toInt_lt.mp h
theorem iz_ge {x : Int32} (h : x ≥ 0) : 0 ≤ x.toInt := Int32.le_iff_toInt_le.mp h
theorem iz_gt {x : Int32} (h : x > 0) : 0 < x.toInt := Int32.lt_iff_toInt_lt.mp h
theorem iz_le {x : Int32} (h : x ≤ 0) : x.toInt ≤ 0 := Int32.le_iff_toInt_le.mp h
theorem cmpL_ex {x y : Int64} {n m : Int} (hx : x.toInt = n) (hy : y.toInt = m) : XT.cmpL x y = cmpI n m := by rw [cmpL_I, hx, hy]
theorem small32 {y : Int32} (h : y.toBitVec.toNat < 2147483648) : y.toInt = (y.toBitVec.toNat : Int) := by
  have : y.toInt = y.toBitVec.toInt := rfl
  rw [this, BitVec.toInt_eq_toNat_cond, if_pos (by omega)]
theorem nn32 {y : Int32} (h : 0 ≤ y.toInt) : y.toBitVec.toNat < 2147483648 := by
  have e : y.toInt = y.toBitVec.toInt := rfl
  rw [e, BitVec.toInt_eq_toNat_cond] at h
  by_cases q : 2 * y.toBitVec.toNat < 2 ^ 32
  · omega
  · rw [if_neg q] at h; have := y.toBitVec.isLt; omega
theorem iand_b (x y : Int32) {M : Int} (h0 : 0 ≤ y.toInt) (hM : y.toInt ≤ M) : 0 ≤ (x &&& y).toInt ∧ (x &&& y).toInt ≤ M := by
  have h1 := nn32 h0
  have e : (x &&& y).toBitVec.toNat = x.toBitVec.toNat &&& y.toBitVec.toNat := by simp [Int32.toBitVec_and, BitVec.toNat_and]
  have hle : (x &&& y).toBitVec.toNat ≤ y.toBitVec.toNat := by rw [e]; exact Nat.and_le_right
  have e1 := small32 (y := x &&& y) (by omega)
  have e2 := small32 h1
  omega
theorem small64 {y : Int64} (h : y.toBitVec.toNat < 9223372036854775808) : y.toInt = (y.toBitVec.toNat : Int) := by
  have : y.toInt = y.toBitVec.toInt := rfl
  rw [this, BitVec.toInt_eq_toNat_cond, if_pos (by omega)]
theorem nn64 {y : Int64} (h : 0 ≤ y.toInt) : y.toBitVec.toNat < 9223372036854775808 := by
  have e : y.toInt = y.toBitVec.toInt := rfl
  rw [e, BitVec.toInt_eq_toNat_cond] at h
  by_cases q : 2 * y.toBitVec.toNat < 2 ^ 64
  · omega
  · rw [if_neg q] at h; have := y.toBitVec.isLt; omega
theorem land_b (x y : Int64) {M : Int} (h0 : 0 ≤ y.toInt) (hM : y.toInt ≤ M) : 0 ≤ (x &&& y).toInt ∧ (x &&& y).toInt ≤ M := by
  have h1 := nn64 h0
  have e : (x &&& y).toBitVec.toNat = x.toBitVec.toNat &&& y.toBitVec.toNat := by simp [Int64.toBitVec_and, BitVec.toNat_and]
  have hle : (x &&& y).toBitVec.toNat ≤ y.toBitVec.toNat := by rw [e]; exact Nat.and_le_right
  have e1 := small64 (y := x &&& y) (by omega)
  have e2 := small64 h1
  omega
theorem i32b (v : Int32) : -2147483648 ≤ v.toInt ∧ v.toInt < 2147483648 := ⟨v.le_toInt, v.toInt_lt⟩
theorem i64b (v : Int64) : -9223372036854775808 ≤ v.toInt ∧ v.toInt < 9223372036854775808 := ⟨v.le_toInt, v.toInt_lt⟩
theorem iadd_ex {x y : Int32} {n m : Int} (hx : x.toInt = n) (hy : y.toInt = m) (h : -2147483648 ≤ n + m ∧ n + m < 2147483648) : (x + y).toInt = n + m := by
  rw [Int32.toInt_add, hx, hy]; exact Int.bmod_eq_of_le (by omega) (by omega)
theorem isub_ex {x y : Int32} {n m : Int} (hx : x.toInt = n) (hy : y.toInt = m) (h : -2147483648 ≤ n - m ∧ n - m < 2147483648) : (x - y).toInt = n - m := by
  rw [Int32.toInt_sub, hx, hy]; exact Int.bmod_eq_of_le (by omega) (by omega)
theorem imul_ex {x y : Int32} {n m : Int} (hx : x.toInt = n) (hy : y.toInt = m) (h : -2147483648 ≤ n * m ∧ n * m < 2147483648) : (x * y).toInt = n * m := by
  rw [Int32.toInt_mul, hx, hy]; exact Int.bmod_eq_of_le (by omega) (by omega)
theorem ladd_ex {x y : Int64} {n m : Int} (hx : x.toInt = n) (hy : y.toInt = m) (h : -9223372036854775808 ≤ n + m ∧ n + m < 9223372036854775808) : (x + y).toInt = n + m := by
  rw [Int64.toInt_add, hx, hy]; exact Int.bmod_eq_of_le (by omega) (by omega)
theorem lsub_ex {x y : Int64} {n m : Int} (hx : x.toInt = n) (hy : y.toInt = m) (h : -9223372036854775808 ≤ n - m ∧ n - m < 9223372036854775808) : (x - y).toInt = n - m := by
  rw [Int64.toInt_sub, hx, hy]; exact Int.bmod_eq_of_le (by omega) (by omega)
theorem lmul_ex {x y : Int64} {n m : Int} (hx : x.toInt = n) (hy : y.toInt = m) (h : -9223372036854775808 ≤ n * m ∧ n * m < 9223372036854775808) : (x * y).toInt = n * m := by
  rw [Int64.toInt_mul, hx, hy]; exact Int.bmod_eq_of_le (by omega) (by omega)
theorem i2l_ex {x : Int32} {n : Int} (hx : x.toInt = n) : x.toInt64.toInt = n := by rw [Int32.toInt_toInt64, hx]
theorem pinI {args : Array Value} {s : State} {C n d K O f : String} {k : Int32} (hx : (Cond.exactly (Term.static C n d) K).value args s none s [] = some true) (he : (Cond.eq (Term.field (Term.static C n d) O f "I") (Term.int k)).value args s none s [] = some true) (hi : (Cond.initialized C).before args s = true) (hl : (Cond.laysStatic C n d).before args s = true) : ∃ r, RoadKit.Sta s s.heap C n d (.ref r) ∧ RoadKit.Exa s s.heap r K ∧ RoadKit.Fld s s.heap r O f "I" (.int k) := by
  obtain ⟨r, hr⟩ := RoadKit.exa_v hx
  refine ⟨r, RoadKit.Sta.start hr (Or.inr ⟨hi, hl⟩), RoadKit.Exa.start hr hx, ?_⟩
  obtain ⟨x, y, h1, h2, h3, h4⟩ := RoadKit.cmp_v (Or.inl he)
  rw [RoadKit.fld_at hr] at h1
  obtain rfl : Value.int k = y := Option.some.inj ((Term.int_eval k).symm.trans h2)
  obtain ⟨z, rfl⟩ := h4
  have q := RoadKit.gotT (Cond.eq_ints ((RoadKit.fld_at hr).trans h1) (Term.int_eval k)) he
  subst q
  exact RoadKit.Fld.start h1
theorem pinD {args : Array Value} {s : State} {C n d K O f : String} {k : Int64} (hx : (Cond.exactly (Term.static C n d) K).value args s none s [] = some true) (he : (Cond.eq (Term.field (Term.static C n d) O f "D") (Term.op1 .bitsD (Term.long k))).value args s none s [] = some true) (hi : (Cond.initialized C).before args s = true) (hl : (Cond.laysStatic C n d).before args s = true) : ∃ r, RoadKit.Sta s s.heap C n d (.ref r) ∧ RoadKit.Exa s s.heap r K ∧ RoadKit.Fld s s.heap r O f "D" (.double k.toUInt64) := by
  obtain ⟨r, hr⟩ := RoadKit.exa_v hx
  refine ⟨r, RoadKit.Sta.start hr (Or.inr ⟨hi, hl⟩), RoadKit.Exa.start hr hx, ?_⟩
  obtain ⟨x, y, h1, h2, h3, h4⟩ := RoadKit.cmp_v (Or.inl he)
  have h5 : (Term.op1 .bitsD (Term.long k)).eval args s none [] s = some (.double k.toUInt64) := RoadKit.op1_f (RoadKit.long_at k)
  obtain rfl : Value.double k.toUInt64 = y := Option.some.inj (h5.symm.trans h2)
  obtain ⟨z, rfl⟩ := h4
  have q : z = k.toUInt64 := by simpa [Cond.value, h1, h5] using he
  subst q
  rw [RoadKit.fld_at hr] at h1
  exact RoadKit.Fld.start h1
end Jvm.Own
namespace Jvm.Own
open Jvm.FP.Core
/-! doubles by their values: zval in units of 2^-1074 -/
/-! plain arithmetic, with the unit as a letter -/
theorem ar_mul {a b J K N M O : Nat} (hm : a * J = N * O) (gm : b * K = M * O) : a * b * (J * K) = N * M * (O * O) := by
  calc a * b * (J * K) = (a * J) * (b * K) := by ac_rfl
    _ = N * O * (M * O) := by rw [hm, gm]
    _ = _ := by ac_rfl
theorem ar_z {ab JK NM O z : Nat} (hp : 0 < JK) (q : ab * JK = NM * (O * O)) (hz : z * JK = NM * O) : ab = z * O := by
  apply Nat.eq_of_mul_eq_mul_right hp
  calc ab * JK = NM * O * O := by rw [q]; ac_rfl
    _ = z * JK * O := by rw [hz]
    _ = _ := by ac_rfl
theorem ar_i {X Y J K N M O s : Int} (hO : O ≠ 0) (hx : X * J = N * O) (hy : Y * K = M * O) (hs : s * O = X * Y) : s * (J * K) = N * M * O := by
  apply Int.eq_of_mul_eq_mul_right hO
  calc s * (J * K) * O = s * O * (J * K) := by ac_rfl
    _ = (X * J) * (Y * K) := by rw [hs]; ac_rfl
    _ = N * M * O * O := by rw [hx, hy]; ac_rfl
theorem ar_d {x y z J K I N M W O : Nat} (hp : 0 < J * K * I) (hx : x * J = N * O) (hy : y * K = M * O) (hz : z * I = W * O) (hw : N * K * I = W * M * J) : x * O = z * y := by
  apply Nat.eq_of_mul_eq_mul_right hp
  calc x * O * (J * K * I) = (x * J) * O * (K * I) := by ac_rfl
    _ = (N * K * I) * (O * O) := by rw [hx]; ac_rfl
    _ = (W * O) * (M * O) * J := by rw [hw]; ac_rfl
    _ = (z * I) * (y * K) * J := by rw [hz, hy]
    _ = _ := by ac_rfl
theorem ar_q {q X Y J K I N M W O : Int} (hY : Y ≠ 0) (hJ : J ≠ 0) (hK : K ≠ 0) (hx : X * J = N * O) (hy : Y * K = M * O) (hs : q * Y = X * O) (hw : N * K * I = W * M * J) : q * I = W * O := by
  apply Int.eq_of_mul_eq_mul_right hY
  apply Int.eq_of_mul_eq_mul_right hJ
  apply Int.eq_of_mul_eq_mul_right hK
  calc q * I * Y * J * K = (q * Y) * I * J * K := by ac_rfl
    _ = (X * J) * K * I * O := by rw [hs]; ac_rfl
    _ = (N * K * I) * O * O := by rw [hx]; ac_rfl
    _ = W * (M * O) * J * O := by rw [hw]; ac_rfl
    _ = W * O * Y * J * K := by rw [← hy]; ac_rfl
theorem ar_p {c d P Q X Y W : Nat} (e : P * Q = X * Y * W) : c * d * P * Q = c * X * (d * Y) * 1 * W := by
  rw [Nat.mul_assoc (c * d), e]; ac_rfl
theorem ar_up {X J K N O : Int} (h : X * J = N * O) : X * (J * K) = N * K * O := by
  calc X * (J * K) = X * J * K := by ac_rfl
    _ = N * O * K := by rw [h]
    _ = _ := by ac_rfl
abbrev rr (s : Bool) (A B : Nat) : Datum := roundRatio b64 s A B 0
theorem one_pow : one64 = 2 ^ 1074 := rfl
theorem one_ne : (one64 : Int) ≠ 0 := by have := one64_pos; omega
theorem fin_u {x : UInt64} {s : Bool} {c : Nat} {q : Int} (h : val64 x = .fin s c q) : sgn (val64 x) = s ∧ zmag b64 (val64 x) = c * 2 ^ (q + 1074).toNat ∧ -1074 ≤ q := by
  have hf := val64_fits x
  rw [h] at hf ⊢
  have h2 := hf.2.1
  rw [qmin_b64] at h2
  refine ⟨rfl, ?_, h2⟩
  show inUnits c q b64.qmin = _
  rw [qmin_b64]
  show c * 2 ^ (q - -1074).toNat = _
  rw [show q - -1074 = q + 1074 by omega]
theorem zv_eq (x : UInt64) : zval b64 (val64 x) = signed (sgn (val64 x)) (zmag b64 (val64 x)) := rfl
theorem ddiv_rr {x y : UInt64} (hx : DFin x) (hy : DFin y) (hz : zmag b64 (val64 y) ≠ 0) : val64 (ddiv x y) = rr (sgn (val64 x) != sgn (val64 y)) (zmag b64 (val64 x)) (zmag b64 (val64 y)) := by
  obtain ⟨s, c, q, ex⟩ := hx
  obtain ⟨t, d, r, ey⟩ := hy
  obtain ⟨h1, h2, h3⟩ := fin_u ex
  obtain ⟨g1, g2, g3⟩ := fin_u ey
  rw [g2] at hz
  have hd : d ≠ 0 := fun k => hz (by rw [k, Nat.zero_mul])
  rw [val64_ddiv, h1, h2, g1, g2, ex, ey]
  show (if d = 0 then _ else roundRatio b64 (s != t) c d (q - r)) = _
  rw [if_neg hd]
  refine roundRatio_congr (Nat.pos_of_ne_zero hd) (Nat.pos_of_ne_zero hz) ?_
  have e : 2 ^ (r + 1074).toNat * 2 ^ (q - r - 0).toNat = 2 ^ (q + 1074).toNat * 2 ^ (0 - (q - r)).toNat := by
    rw [← Nat.pow_add, ← Nat.pow_add]
    congr 1
    omega
  calc c * (d * 2 ^ (r + 1074).toNat) * 2 ^ (q - r - 0).toNat = c * d * (2 ^ (r + 1074).toNat * 2 ^ (q - r - 0).toNat) := by ac_rfl
    _ = c * d * (2 ^ (q + 1074).toNat * 2 ^ (0 - (q - r)).toNat) := by rw [e]
    _ = c * 2 ^ (q + 1074).toNat * d * 2 ^ (0 - (q - r)).toNat := by ac_rfl
theorem dmul_rr {x y : UInt64} (hx : DFin x) (hy : DFin y) : val64 (dmul x y) = rr (sgn (val64 x) != sgn (val64 y)) (zmag b64 (val64 x) * zmag b64 (val64 y)) (2 ^ 2148) := by
  obtain ⟨s, c, q, ex⟩ := hx
  obtain ⟨t, d, r, ey⟩ := hy
  obtain ⟨h1, h2, h3⟩ := fin_u ex
  obtain ⟨g1, g2, g3⟩ := fin_u ey
  rw [val64_dmul, h1, h2, g1, g2, ex, ey]
  show roundRatio b64 (s != t) (c * d) 1 (q + r) = _
  refine roundRatio_congr Nat.one_pos (Nat.two_pow_pos _) ?_
  have e : 2 ^ 2148 * 2 ^ (q + r - 0).toNat = 2 ^ (q + 1074).toNat * 2 ^ (r + 1074).toNat * 2 ^ (0 - (q + r)).toNat := by
    rw [← Nat.pow_add, ← Nat.pow_add, ← Nat.pow_add]
    congr 1
    omega
  exact ar_p e
theorem sum_rr {X Y : Datum} (fx : FP.Core.fits b64 X) (fy : FP.Core.fits b64 Y) (hx : ∃ s c q, X = .fin s c q) (hy : ∃ s c q, Y = .fin s c q) : ∃ sg, round b64 (exactSum X Y) = rr sg (zval b64 X + zval b64 Y).natAbs one64 ∧ signed sg (zval b64 X + zval b64 Y).natAbs = zval b64 X + zval b64 Y := by
  obtain ⟨s, c, q, rfl⟩ := hx
  obtain ⟨t, d, r, rfl⟩ := hy
  obtain ⟨sg, n, e, e1, e2, e3⟩ := sum_units fx fy
  have e4 : (zval b64 (.fin s c q) + zval b64 (.fin t d r)).natAbs = inUnits n e b64.qmin := by rw [← e3, natAbs_signed]
  refine ⟨sg, ?_, by rw [e4, e3]⟩
  rw [e4, e1]
  show roundRatio b64 sg n 1 e = _
  refine roundRatio_congr Nat.one_pos one64_pos ?_
  rw [qmin_b64] at e2 ⊢
  show n * one64 * 2 ^ (e - 0).toNat = n * 2 ^ (e - -1074).toNat * 1 * 2 ^ (0 - e).toNat
  rw [one_pow, Nat.mul_assoc, ← Nat.pow_add, Nat.mul_one, Nat.mul_assoc n, ← Nat.pow_add]
  congr 2
  omega
theorem dadd_rr {x y : UInt64} (hx : DFin x) (hy : DFin y) : ∃ sg, val64 (dadd x y) = rr sg (zval b64 (val64 x) + zval b64 (val64 y)).natAbs one64 ∧ signed sg (zval b64 (val64 x) + zval b64 (val64 y)).natAbs = zval b64 (val64 x) + zval b64 (val64 y) := by
  obtain ⟨sg, h1, h2⟩ := sum_rr (val64_fits x) (val64_fits y) hx hy
  exact ⟨sg, by rw [val64_dadd, h1], h2⟩
theorem dsub_rr {x y : UInt64} (hx : DFin x) (hy : DFin y) : ∃ sg, val64 (dsub x y) = rr sg (zval b64 (val64 x) - zval b64 (val64 y)).natAbs one64 ∧ signed sg (zval b64 (val64 x) - zval b64 (val64 y)).natAbs = zval b64 (val64 x) - zval b64 (val64 y) := by
  obtain ⟨t, d, r, ey⟩ := hy
  obtain ⟨sg, h1, h2⟩ := sum_rr (val64_fits x) (negate_fits (val64_fits y)) hx ⟨!t, d, r, by rw [ey]; rfl⟩
  rw [zval_negate, ← Int.sub_eq_add_neg] at h1 h2
  exact ⟨sg, by rw [val64_dsub, h1], h2⟩
/-- a whole number of units that a double holds -/
def Rep (z : Nat) : Prop := ∃ V : Datum, FP.Core.fits b64 V ∧ (∃ s c q, V = .fin s c q) ∧ zmag b64 V = z
theorem rep_pow {n k : Nat} (hn : n < 2 ^ 53) (hk : k ≤ 2045) : Rep (n * 2 ^ k) := by
  obtain ⟨c', q', h1, h2⟩ := round_exact good_b64 false (c := n) (q := (k : Int) - 1074) (by exact hn) (by rw [qmin_b64]; omega) (by show (k : Int) - 1074 ≤ 971; omega)
  refine ⟨.fin false c' q', by rw [← h1]; exact round_fits good_b64 _, ⟨_, _, _, rfl⟩, ?_⟩
  show inUnits c' q' b64.qmin = _
  rw [h2, qmin_b64]
  show n * 2 ^ ((k : Int) - 1074 - -1074).toNat = _
  congr 2
  omega
theorem rep_pow' {n k : Nat} (hn : n ≤ 2 ^ 53) (hk : k ≤ 2044) : Rep (n * 2 ^ k) := by
  by_cases h : n < 2 ^ 53
  · exact rep_pow h (by omega)
  · have e : n * 2 ^ k = 2 ^ 52 * 2 ^ (k + 1) := by
      rw [show n = 2 ^ 53 by omega, ← Nat.pow_add, ← Nat.pow_add]; congr 1; omega
    rw [e]; exact rep_pow (by decide) (by omega)
theorem rep_val {x : UInt64} (h : DFin x) : Rep (zmag b64 (val64 x)) := ⟨_, val64_fits x, h, rfl⟩
theorem in_u (A : Nat) : inUnits A 0 b64.qmin = A * one64 := by rw [qmin_b64]; rfl
theorem rr_le {s : Bool} {A B z : Nat} (hB : 0 < B) (hz : Rep z) (h : A * one64 ≤ z * B) : zmag b64 (rr s A B) ≤ z := by
  obtain ⟨V, f, ⟨t, c, q, rfl⟩, rfl⟩ := hz
  refine zmag_roundRatio_le good_b64 hB f (by intro k; cases k) (Int.le_refl _) (by rw [qmin_b64]; omega) ?_
  rw [in_u, Int.sub_self]
  simpa using h
theorem rr_ge {s : Bool} {A B z : Nat} (hB : 0 < B) (hz : Rep z) (h : z * B ≤ A * one64) : z ≤ zmag b64 (rr s A B) := by
  obtain ⟨V, f, ⟨t, c, q, rfl⟩, rfl⟩ := hz
  refine zmag_roundRatio_ge good_b64 hB f (Int.le_refl _) (by rw [qmin_b64]; omega) ?_
  rw [in_u, Int.sub_self]
  simpa using h
theorem rep_top {z : Nat} (hz : Rep z) : z < b64.tails * 2 ^ (b64.exps - 2) := by
  obtain ⟨V, f, ⟨t, c, q, rfl⟩, rfl⟩ := hz
  exact zmag_lt_top good_b64 f
theorem rr_fin {s : Bool} {A B z : Nat} (hz : Rep z) (h : zmag b64 (rr s A B) ≤ z) : ∃ c q, rr s A B = .fin s c q := by
  rcases roundRatio_cases b64 s A B 0 with k | k
  · exact k
  · rw [show rr s A B = .inf s from k] at h
    have := rep_top hz
    have e : zmag b64 (.inf s) = b64.tails * 2 ^ (b64.exps - 2) := rfl
    rw [e] at h
    exact absurd this (Nat.not_lt.mpr h)
theorem rr_sgn (s : Bool) (A B : Nat) : sgn (rr s A B) = s := sgn_roundRatio b64 s A B 0
theorem of_rr {x : UInt64} {s : Bool} {A B z : Nat} (hx : val64 x = rr s A B) (hB : 0 < B) (hz : Rep z) (h : A * one64 = z * B) : DFin x ∧ zval b64 (val64 x) = signed s z := by
  have h1 := rr_le (s := s) hB hz (Nat.le_of_eq h)
  have h2 := rr_ge (s := s) hB hz (Nat.le_of_eq h.symm)
  obtain ⟨c, q, e⟩ := rr_fin hz h1
  refine ⟨⟨s, c, q, by rw [hx, e]⟩, ?_⟩
  rw [zv_eq, hx, rr_sgn, Nat.le_antisymm h1 h2]
/-- the double is n / 2^j -/
def Dy (n : Int) (j : Nat) (x : UInt64) : Prop := DFin x ∧ zval b64 (val64 x) * ((2 ^ j : Nat) : Int) = n * (one64 : Int)
theorem p2_ne (j : Nat) : ((2 ^ j : Nat) : Int) ≠ 0 := by have := Nat.two_pow_pos j; omega
theorem Dy.mag {n : Int} {j : Nat} {x : UInt64} (h : Dy n j x) : zmag b64 (val64 x) * 2 ^ j = n.natAbs * one64 := by
  have := congrArg Int.natAbs h.2
  rw [Int.natAbs_mul, Int.natAbs_mul, zv_eq, natAbs_signed, Int.natAbs_natCast, Int.natAbs_natCast] at this
  exact this
theorem Dy.noNaN {n : Int} {j : Nat} {x : UInt64} (h : Dy n j x) : Jvm.Free.Fl.NoNaN64 x := (Jvm.Free.Fl.fin64_core.mpr h.1).noNaN
theorem rep_dy {N z j : Nat} (hn : N ≤ 2 ^ 53) (hj : j ≤ 1074) (h : z * 2 ^ j = N * one64) : Rep z := by
  have e : z = N * 2 ^ (1074 - j) := by
    apply Nat.eq_of_mul_eq_mul_right (Nat.two_pow_pos j)
    rw [h, one_pow, Nat.mul_assoc, ← Nat.pow_add]
    congr 2; omega
  rw [e]; exact rep_pow' hn (by omega)
theorem Dy.of_int {n : Int} {x : UInt64} (h : DInt n x) : Dy n 0 x := by
  refine ⟨?_, ?_⟩
  · unfold DInt at h
    cases e : val64 x with
    | nan => rw [e] at h; exact h.elim
    | inf s => rw [e] at h; exact h.elim
    | fin s c q => exact ⟨s, c, q, e⟩
  · rw [DInt_zval h]; simp
theorem Dy.i2d (v : Int32) : Dy v.toInt 0 (FP.i2d v) := Dy.of_int (i2d_int v)
theorem Dy.l2d {v : Int64} (h : v.toInt.natAbs ≤ 2 ^ 53) : Dy v.toInt 0 (FP.l2d v) := Dy.of_int (l2d_int h)
theorem Dy.up {n : Int} {j : Nat} {x : UInt64} (h : Dy n j x) (k : Nat) : Dy (n * ((2 ^ k : Nat) : Int)) (j + k) x := by
  refine ⟨h.1, ?_⟩
  rw [Nat.pow_add, Int.natCast_mul]
  exact ar_up h.2
theorem Dy.cmp {n m : Int} {j : Nat} {x y : UInt64} (h : Dy n j x) (g : Dy m j y) : FP.dcmp x y = some (compare n m) := by
  have hp : (0 : Int) < ((2 ^ j : Nat) : Int) := by have := Nat.two_pow_pos j; omega
  have ho : (0 : Int) < (one64 : Int) := by have := one64_pos; omega
  rw [show FP.dcmp x y = _ from dcmp_zval h.1.ne_nan g.1.ne_nan, ← compare_mul_pos _ _ _ hp, h.2, g.2, compare_mul_pos _ _ _ ho]
theorem Dy.add {n m : Int} {j : Nat} {x y : UInt64} (h : Dy n j x) (g : Dy m j y) (hb : (n + m).natAbs ≤ 2 ^ 53) (hj : j ≤ 1074) : Dy (n + m) j (FP.dadd x y) := by
  obtain ⟨sg, e1, e2⟩ := dadd_rr h.1 g.1
  have e : (zval b64 (val64 x) + zval b64 (val64 y)) * ((2 ^ j : Nat) : Int) = (n + m) * (one64 : Int) := by rw [Int.add_mul, Int.add_mul, h.2, g.2]
  have e' := congrArg Int.natAbs e
  rw [Int.natAbs_mul, Int.natAbs_mul, Int.natAbs_natCast, Int.natAbs_natCast] at e'
  obtain ⟨d1, d2⟩ := of_rr (x := FP.dadd x y) e1 one64_pos (rep_dy hb hj e') rfl
  exact ⟨d1, by rw [d2, e2, e]⟩
theorem Dy.sub {n m : Int} {j : Nat} {x y : UInt64} (h : Dy n j x) (g : Dy m j y) (hb : (n - m).natAbs ≤ 2 ^ 53) (hj : j ≤ 1074) : Dy (n - m) j (FP.dsub x y) := by
  obtain ⟨sg, e1, e2⟩ := dsub_rr h.1 g.1
  have e : (zval b64 (val64 x) - zval b64 (val64 y)) * ((2 ^ j : Nat) : Int) = (n - m) * (one64 : Int) := by rw [Int.sub_mul, Int.sub_mul, h.2, g.2]
  have e' := congrArg Int.natAbs e
  rw [Int.natAbs_mul, Int.natAbs_mul, Int.natAbs_natCast, Int.natAbs_natCast] at e'
  obtain ⟨d1, d2⟩ := of_rr (x := FP.dsub x y) e1 one64_pos (rep_dy hb hj e') rfl
  exact ⟨d1, by rw [d2, e2, e]⟩
theorem one_sq : one64 * one64 = 2 ^ 2148 := by rw [one_pow, ← Nat.pow_add]
theorem Dy.mul {n m : Int} {j k : Nat} {x y : UInt64} (h : Dy n j x) (g : Dy m k y) (hb : (n * m).natAbs ≤ 2 ^ 53) (hj : j + k ≤ 1074) : Dy (n * m) (j + k) (FP.dmul x y) := by
  have e1 := dmul_rr h.1 g.1
  have q1 := ar_mul h.mag g.mag
  rw [← Nat.pow_add, ← Int.natAbs_mul] at q1
  obtain ⟨z, hz⟩ : ∃ z, z = (n * m).natAbs * 2 ^ (1074 - (j + k)) := ⟨_, rfl⟩
  have hz1 : z * 2 ^ (j + k) = (n * m).natAbs * one64 := by
    rw [hz, one_pow, Nat.mul_assoc, ← Nat.pow_add]; congr 2; omega
  have hz2 := ar_z (Nat.two_pow_pos (j + k)) q1 hz1
  have hR : Rep z := by rw [hz]; exact rep_pow' hb (by omega)
  obtain ⟨d1, d2⟩ := of_rr (x := FP.dmul x y) e1 (Nat.two_pow_pos _) hR (by rw [hz2, Nat.mul_assoc, one_sq])
  refine ⟨d1, ?_⟩
  have hs : signed (sgn (val64 x) != sgn (val64 y)) z * (one64 : Int) = zval b64 (val64 x) * zval b64 (val64 y) := by rw [← signed_mul, ← hz2, signed_xor, zv_eq, zv_eq]
  rw [d2, Nat.pow_add, Int.natCast_mul]
  exact ar_i one_ne h.2 g.2 hs
theorem zm_ne {n : Int} {j : Nat} {x : UInt64} (h : Dy n j x) (hn : n ≠ 0) : zmag b64 (val64 x) ≠ 0 := by
  intro k
  have := h.mag
  rw [k, Nat.zero_mul] at this
  have h1 : n.natAbs * one64 ≠ 0 := Nat.mul_ne_zero (by omega) (by have := one64_pos; omega)
  exact h1 this.symm
theorem signed_div (s t : Bool) (a b : Nat) : signed (s != t) a * signed t b = signed s (a * b) := by rw [← signed_xor]; congr 1; cases s <;> cases t <;> rfl
theorem Dy.div {n m w : Int} {j k i : Nat} {x y : UInt64} (h : Dy n j x) (g : Dy m k y) (hm0 : m ≠ 0) (hw : n * ((2 ^ k : Nat) : Int) * ((2 ^ i : Nat) : Int) = w * m * ((2 ^ j : Nat) : Int)) (hb : w.natAbs ≤ 2 ^ 53) (hi : i ≤ 1074) : Dy w i (FP.ddiv x y) := by
  have hz0 := zm_ne g hm0
  have e1 := ddiv_rr h.1 g.1 hz0
  obtain ⟨z, hz⟩ : ∃ z, z = w.natAbs * 2 ^ (1074 - i) := ⟨_, rfl⟩
  have hz1 : z * 2 ^ i = w.natAbs * one64 := by
    rw [hz, one_pow, Nat.mul_assoc, ← Nat.pow_add]; congr 2; omega
  have hw' := congrArg Int.natAbs hw
  simp only [Int.natAbs_mul, Int.natAbs_natCast] at hw'
  have hz2 := ar_d (Nat.mul_pos (Nat.mul_pos (Nat.two_pow_pos j) (Nat.two_pow_pos k)) (Nat.two_pow_pos i)) h.mag g.mag hz1 hw'
  have hR : Rep z := by rw [hz]; exact rep_pow' hb (by omega)
  obtain ⟨d1, d2⟩ := of_rr (x := FP.ddiv x y) e1 (Nat.pos_of_ne_zero hz0) hR hz2
  refine ⟨d1, ?_⟩
  have hs : zval b64 (val64 (FP.ddiv x y)) * zval b64 (val64 y) = zval b64 (val64 x) * (one64 : Int) := by
    rw [d2, zv_eq y, signed_div, ← hz2, signed_mul, zv_eq x]
  have hy0 : zval b64 (val64 y) ≠ 0 := by
    intro q; rw [zv_eq, signed_eq_zero] at q; exact hz0 q
  exact ar_q hy0 (p2_ne j) (p2_ne k) h.2 g.2 hs hw
end Jvm.Own
namespace Jvm.Own
open Jvm.FP.Core Sem ClassFile Op Lib Jvm.Free
theorem Dy.to {n n' : Int} {j j' : Nat} {x : UInt64} (h : Dy n j x) (k : Nat) (hj : j + k = j') (hn : n * ((2 ^ k : Nat) : Int) = n') : Dy n' j' x := by subst hj hn; exact h.up k
theorem Dy.cl {n m : Int} {j : Nat} {x y : UInt64} (h : Dy n j x) (g : Dy m j y) (o : CmpOp) : cmpValue (FP.dcmp x y) o = cmpI n m := by rw [h.cmp g, cmpI_some]
theorem Dy.lit {n : Int} {j : Nat} {x : UInt64} (h1 : x.toNat % 2 ^ 63 < 9218868437227405312) (h2 : zval b64 (val64 x) * ((2 ^ j : Nat) : Int) = n * (one64 : Int)) : Dy n j x := ⟨(fin_bits x).mpr h1, h2⟩
theorem Dy.i2d' {v : Int32} {n : Int} (h : v.toInt = n) : Dy n 0 (FP.i2d v) := h ▸ Dy.i2d v
theorem Dy.l2d' {v : Int64} {n : Int} (h : v.toInt = n) (hb : n.natAbs ≤ 2 ^ 53) : Dy n 0 (FP.l2d v) := by subst h; exact Dy.l2d hb
end Jvm.Own
namespace Jvm.Own
open Jvm.FP.Core Sem ClassFile Op Lib Jvm.Free
/-! the quotient, rounded: between what stands around it -/
abbrev zv (x : UInt64) : Int := zval b64 (val64 x)
theorem Zc {x y : UInt64} (hx : DFin x) (hy : DFin y) (o : CmpOp) : cmpValue (FP.dcmp x y) o = cmpI (zv x) (zv y) := by
  rw [show FP.dcmp x y = _ from dcmp_zval hx.ne_nan hy.ne_nan, cmpI_some]
theorem Dy.same {n : Int} {j : Nat} {x y : UInt64} (h : Dy n j x) (g : Dy n j y) : zv x = zv y := by
  apply Int.eq_of_mul_eq_mul_right (p2_ne j)
  rw [h.2, g.2]
theorem sg_le (s : Bool) (z : Nat) : signed s z ≤ (z : Int) := by cases s <;> simp [signed] <;> omega
theorem sg_ge (s : Bool) (z : Nat) : -(z : Int) ≤ signed s z := by cases s <;> simp [signed] <;> omega
theorem sg_nn {s : Bool} {z : Nat} (h : 0 ≤ signed s z) : signed s z = (z : Int) := by
  cases s
  · rfl
  · have e : signed true z = -(z : Int) := rfl
    rw [e] at h ⊢; omega
theorem sg_np {s : Bool} {z : Nat} (h : signed s z ≤ 0) : signed s z = -(z : Int) := by
  cases s
  · have e : signed false z = (z : Int) := rfl
    rw [e] at h ⊢; omega
  · rfl
theorem Dy.nn {n : Int} {j : Nat} {x : UInt64} (h : Dy n j x) (hn : 0 ≤ n) : 0 ≤ zv x := by
  have hp : (0 : Int) < ((2 ^ j : Nat) : Int) := by have := Nat.two_pow_pos j; omega
  have e : zv x * ((2 ^ j : Nat) : Int) = n * (one64 : Int) := h.2
  have q : 0 ≤ zv x * ((2 ^ j : Nat) : Int) := by rw [e]; exact Int.mul_nonneg hn (Int.natCast_nonneg _)
  exact Int.nonneg_of_mul_nonneg_left q hp
theorem Dy.np {n : Int} {j : Nat} {x : UInt64} (h : Dy n j x) (hn : n ≤ 0) : zv x ≤ 0 := by
  have hp : (0 : Int) < ((2 ^ j : Nat) : Int) := by have := Nat.two_pow_pos j; omega
  have e : zv x * ((2 ^ j : Nat) : Int) = n * (one64 : Int) := h.2
  have q : 0 ≤ -zv x * ((2 ^ j : Nat) : Int) := by
    rw [Int.neg_mul, e, ← Int.neg_mul]; exact Int.mul_nonneg (by omega) (Int.natCast_nonneg _)
  have := Int.nonneg_of_mul_nonneg_left q hp
  omega
theorem Dy.pos_sgn {n : Int} {j : Nat} {x : UInt64} (h : Dy n j x) (hn : 0 < n) : sgn (val64 x) = false := by
  have h0 := h.nn (by omega)
  have hz := zm_ne h (by omega)
  rw [show zv x = signed (sgn (val64 x)) (zmag b64 (val64 x)) from rfl] at h0
  cases e : sgn (val64 x)
  · rfl
  · rw [e] at h0
    have e2 : signed true (zmag b64 (val64 x)) = -(zmag b64 (val64 x) : Int) := rfl
    rw [e2] at h0; omega
theorem zmul_le {a b A B c d P : Nat} (hP : 0 < P) (h1 : a * P = A) (h2 : b * P = B) (h : A ≤ B) : a ≤ b := by
  subst h1 h2; exact Nat.le_of_mul_le_mul_right h hP
/-- the magnitude of x / y against V's -/
theorem ar_le {x y V I K J N M v O : Nat} (hp : 0 < I * K * J) (hx : x * I = N * O) (hy : y * K = M * O) (hV : V * J = v * O) (h : N * K * J ≤ v * M * I) : x * O ≤ V * y := by
  apply Nat.le_of_mul_le_mul_right (c := I * K * J) _ hp
  calc x * O * (I * K * J) = (x * I) * (O * (K * J)) := by ac_rfl
    _ = (N * K * J) * (O * O) := by rw [hx]; ac_rfl
    _ ≤ (v * M * I) * (O * O) := Nat.mul_le_mul_right _ h
    _ = (v * O) * (M * O) * I := by ac_rfl
    _ = (V * J) * (y * K) * I := by rw [hV, hy]
    _ = V * y * (I * K * J) := by ac_rfl
theorem ar_ge {x y V I K J N M v O : Nat} (hp : 0 < I * K * J) (hx : x * I = N * O) (hy : y * K = M * O) (hV : V * J = v * O) (h : v * M * I ≤ N * K * J) : V * y ≤ x * O := by
  apply Nat.le_of_mul_le_mul_right (c := I * K * J) _ hp
  calc V * y * (I * K * J) = (V * J) * (y * K) * I := by ac_rfl
    _ = (v * O) * (M * O) * I := by rw [hV, hy]
    _ = (v * M * I) * (O * O) := by ac_rfl
    _ ≤ (N * K * J) * (O * O) := Nat.mul_le_mul_right _ h
    _ = (x * I) * (O * (K * J)) := by rw [hx]; ac_rfl
    _ = x * O * (I * K * J) := by ac_rfl
theorem p3_pos (i k j : Nat) : 0 < 2 ^ i * 2 ^ k * 2 ^ j := Nat.mul_pos (Nat.mul_pos (Nat.two_pow_pos i) (Nat.two_pow_pos k)) (Nat.two_pow_pos j)
theorem mag_le_of {n m v : Int} {i k j : Nat} {x y V : UInt64} (hx : Dy n i x) (hy : Dy m k y) (hV : Dy v j V) (h : n.natAbs * 2 ^ k * 2 ^ j ≤ v.natAbs * m.natAbs * 2 ^ i) : zmag b64 (val64 x) * one64 ≤ zmag b64 (val64 V) * zmag b64 (val64 y) := ar_le (p3_pos i k j) hx.mag hy.mag hV.mag h
theorem mag_ge_of {n m v : Int} {i k j : Nat} {x y V : UInt64} (hx : Dy n i x) (hy : Dy m k y) (hV : Dy v j V) (h : v.natAbs * m.natAbs * 2 ^ i ≤ n.natAbs * 2 ^ k * 2 ^ j) : zmag b64 (val64 V) * zmag b64 (val64 y) ≤ zmag b64 (val64 x) * one64 := ar_ge (p3_pos i k j) hx.mag hy.mag hV.mag h
theorem zv_div {n m : Int} {i k : Nat} {x y : UInt64} (hx : Dy n i x) (hy : Dy m k y) (hm : 0 < m) : zv (FP.ddiv x y) = signed (sgn (val64 x)) (zmag b64 (rr (sgn (val64 x)) (zmag b64 (val64 x)) (zmag b64 (val64 y)))) ∧ val64 (FP.ddiv x y) = rr (sgn (val64 x)) (zmag b64 (val64 x)) (zmag b64 (val64 y)) := by
  have e := ddiv_rr hx.1 hy.1 (zm_ne hy (by omega))
  rw [hy.pos_sgn hm] at e
  have es : (sgn (val64 x) != false) = sgn (val64 x) := by cases sgn (val64 x) <;> rfl
  rw [es] at e
  refine ⟨?_, e⟩
  show signed (sgn (val64 (ddiv x y))) (zmag b64 (val64 (ddiv x y))) = _
  rw [e, rr_sgn]
theorem rr_zero (s : Bool) (B : Nat) : zmag b64 (rr s 0 B) = 0 := by
  show zmag b64 (roundRatio b64 s 0 B 0) = 0
  unfold roundRatio
  rw [if_pos rfl]
  show 0 * _ = 0
  rw [Nat.zero_mul]
theorem Dy.neg_sgn {n : Int} {j : Nat} {x : UInt64} (h : Dy n j x) (hn : n < 0) : sgn (val64 x) = true := by
  have h0 := h.np (by omega)
  have hz := zm_ne h (by omega)
  rw [show zv x = signed (sgn (val64 x)) (zmag b64 (val64 x)) from rfl] at h0
  cases e : sgn (val64 x)
  · rw [e] at h0
    have e2 : signed false (zmag b64 (val64 x)) = (zmag b64 (val64 x) : Int) := rfl
    rw [e2] at h0; omega
  · rfl
theorem nat_le_of {n m v : Int} {P Q R : Nat} (hn : 0 ≤ n) (hm : 0 < m) (hv : 0 ≤ v) (h : n * (P : Int) * (Q : Int) ≤ v * m * (R : Int)) : n.natAbs * P * Q ≤ v.natAbs * m.natAbs * R := by
  apply Int.ofNat_le.mp
  simp only [Int.natCast_mul, Int.natAbs_of_nonneg hn, Int.natAbs_of_nonneg hv, Int.natAbs_of_nonneg (Int.le_of_lt hm)]
  exact h
theorem nat_ge_of {n m v : Int} {P Q R : Nat} (hn : 0 ≤ n) (hm : 0 < m) (hv : 0 ≤ v) (h : v * m * (R : Int) ≤ n * (P : Int) * (Q : Int)) : v.natAbs * m.natAbs * R ≤ n.natAbs * P * Q := by
  apply Int.ofNat_le.mp
  simp only [Int.natCast_mul, Int.natAbs_of_nonneg hn, Int.natAbs_of_nonneg hv, Int.natAbs_of_nonneg (Int.le_of_lt hm)]
  exact h
theorem neg_side {n m v P Q R : Int} (h : n * P * Q ≤ v * m * R) : (-v) * m * R ≤ (-n) * P * Q := by
  rw [Int.neg_mul, Int.neg_mul, Int.neg_mul, Int.neg_mul]; omega
theorem neg_side' {n m v P Q R : Int} (h : v * m * R ≤ n * P * Q) : (-n) * P * Q ≤ (-v) * m * R := by
  rw [Int.neg_mul, Int.neg_mul, Int.neg_mul, Int.neg_mul]; omega
theorem p2_pos (k : Nat) : (0 : Int) < ((2 ^ k : Nat) : Int) := by have := Nat.two_pow_pos k; omega
theorem div_le {n m v : Int} {i k j : Nat} {x y V : UInt64} (hx : Dy n i x) (hy : Dy m k y) (hm : 0 < m) (hV : Dy v j V) (h : n * ((2 ^ k : Nat) : Int) * ((2 ^ j : Nat) : Int) ≤ v * m * ((2 ^ i : Nat) : Int)) : zv (FP.ddiv x y) ≤ zv V := by
  obtain ⟨e, -⟩ := zv_div hx hy hm
  have hz : 0 < zmag b64 (val64 y) := Nat.pos_of_ne_zero (zm_ne hy (by omega))
  have pk := p2_pos k; have pj := p2_pos j; have pi := p2_pos i
  rw [e]
  by_cases hn : 0 ≤ n
  · have hv : 0 ≤ v := by
      have q : 0 ≤ v * m * ((2 ^ i : Nat) : Int) := Int.le_trans (Int.mul_nonneg (Int.mul_nonneg hn (Int.le_of_lt pk)) (Int.le_of_lt pj)) h
      exact Int.nonneg_of_mul_nonneg_left (Int.nonneg_of_mul_nonneg_left q pi) hm
    have hr := rr_le (s := sgn (val64 x)) hz (rep_val hV.1) (mag_le_of hx hy hV (nat_le_of hn hm hv h))
    have h0 := hV.nn hv
    rw [show zv V = signed (sgn (val64 V)) (zmag b64 (val64 V)) from rfl] at h0 ⊢
    rw [sg_nn h0]
    exact Int.le_trans (sg_le _ _) (Int.ofNat_le.mpr hr)
  · have hn' : n < 0 := by omega
    rw [hx.neg_sgn hn']
    by_cases hv : 0 ≤ v
    · have h0 := hV.nn hv
      have : signed true (zmag b64 (rr true (zmag b64 (val64 x)) (zmag b64 (val64 y)))) ≤ 0 := by
        show -((zmag b64 (rr true (zmag b64 (val64 x)) (zmag b64 (val64 y))) : Nat) : Int) ≤ 0
        omega
      omega
    · have h2 := neg_side h
      have h3 := nat_ge_of (n := -n) (v := -v) (by omega) hm (by omega) h2
      rw [Int.natAbs_neg, Int.natAbs_neg] at h3
      have hr := rr_ge (s := true) hz (rep_val hV.1) (mag_ge_of hx hy hV h3)
      have h0 := hV.np (by omega)
      rw [show zv V = signed (sgn (val64 V)) (zmag b64 (val64 V)) from rfl] at h0 ⊢
      rw [sg_np h0]
      show -((zmag b64 (rr true (zmag b64 (val64 x)) (zmag b64 (val64 y))) : Nat) : Int) ≤ _
      omega
theorem div_ge {n m v : Int} {i k j : Nat} {x y V : UInt64} (hx : Dy n i x) (hy : Dy m k y) (hm : 0 < m) (hV : Dy v j V) (h : v * m * ((2 ^ i : Nat) : Int) ≤ n * ((2 ^ k : Nat) : Int) * ((2 ^ j : Nat) : Int)) : zv V ≤ zv (FP.ddiv x y) := by
  obtain ⟨e, -⟩ := zv_div hx hy hm
  have hz : 0 < zmag b64 (val64 y) := Nat.pos_of_ne_zero (zm_ne hy (by omega))
  have pk := p2_pos k; have pj := p2_pos j; have pi := p2_pos i
  rw [e]
  by_cases hn : n ≤ 0
  · have hv : v ≤ 0 := by
      have q : 0 ≤ (-v) * m * ((2 ^ i : Nat) : Int) := Int.le_trans (Int.mul_nonneg (Int.mul_nonneg (by omega : 0 ≤ -n) (Int.le_of_lt pk)) (Int.le_of_lt pj)) (neg_side' h)
      have := Int.nonneg_of_mul_nonneg_left (Int.nonneg_of_mul_nonneg_left q pi) hm
      omega
    have h3 := nat_le_of (n := -n) (v := -v) (by omega) hm (by omega) (neg_side' h)
    rw [Int.natAbs_neg, Int.natAbs_neg] at h3
    have hr := rr_le (s := sgn (val64 x)) hz (rep_val hV.1) (mag_le_of hx hy hV h3)
    have h0 := hV.np hv
    rw [show zv V = signed (sgn (val64 V)) (zmag b64 (val64 V)) from rfl] at h0 ⊢
    rw [sg_np h0]
    exact Int.le_trans (Int.neg_le_neg (Int.ofNat_le.mpr hr)) (sg_ge _ _)
  · have hn' : 0 < n := by omega
    rw [hx.pos_sgn hn']
    by_cases hv : v ≤ 0
    · have h0 := hV.np hv
      have : 0 ≤ signed false (zmag b64 (rr false (zmag b64 (val64 x)) (zmag b64 (val64 y)))) := by
        show 0 ≤ ((zmag b64 (rr false (zmag b64 (val64 x)) (zmag b64 (val64 y))) : Nat) : Int)
        omega
      omega
    · have h3 := nat_ge_of (by omega) hm (by omega) h
      have hr := rr_ge (s := false) hz (rep_val hV.1) (mag_ge_of hx hy hV h3)
      have h0 := hV.nn (by omega)
      rw [show zv V = signed (sgn (val64 V)) (zmag b64 (val64 V)) from rfl] at h0 ⊢
      rw [sg_nn h0]
      show _ ≤ ((zmag b64 (rr false (zmag b64 (val64 x)) (zmag b64 (val64 y))) : Nat) : Int)
      omega
theorem div_fin {n m v : Int} {i k j : Nat} {x y V : UInt64} (hx : Dy n i x) (hy : Dy m k y) (hm : 0 < m) (hV : Dy v j V) (h : n.natAbs * 2 ^ k * 2 ^ j ≤ v.natAbs * m.natAbs * 2 ^ i) : DFin (FP.ddiv x y) := by
  obtain ⟨-, e⟩ := zv_div hx hy hm
  have hz : 0 < zmag b64 (val64 y) := Nat.pos_of_ne_zero (zm_ne hy (by omega))
  obtain ⟨c, q, r⟩ := rr_fin (rep_val hV.1) (rr_le (s := sgn (val64 x)) hz (rep_val hV.1) (mag_le_of hx hy hV h))
  exact ⟨_, c, q, by rw [show val64 (FP.ddiv x y) = _ from e, r]⟩
theorem DFin.nn64 {x : UInt64} (h : DFin x) : Jvm.Free.Fl.NoNaN64 x := (Jvm.Free.Fl.fin64_core.mpr h).noNaN
/-- a quotient of whole numbers that are small: it is finite -/
theorem div_whole {n m : Int} {x y : UInt64} (hx : Dy n 0 x) (hy : Dy m 0 y) (hm : 0 < m) : DFin (FP.ddiv x y) := by
  refine div_fin hx hy hm hx ?_
  have : 1 ≤ m.natAbs := by omega
  simp only [Nat.pow_zero, Nat.mul_one]
  exact Nat.le_mul_of_pos_right _ (by omega)
end Jvm.Own
namespace Jvm.Own
open Sem ClassFile Op Lib Jvm.Stand Jvm.Free Jvm.LawKit Jvm.RoadKit
/-! arrays whose whole list of values is known -/
def Ars (Z : State) (h : Heap) (a : Addr) (ty : FieldType) (vs : List Value) : Prop := ∃ c : Cell, Arr Z h a c ty ∧ c.slots.toList = vs ∧ ∀ v ∈ vs, fits ty v = true
section ArsFacts
variable {Z : State} {h h' : Heap} {a b : Addr} {ty : FieldType} {vs : List Value} {sl : Nat} {w : Value} {ws : List Addr}
theorem Ars.ext (E : Ext h h') (F : Ars Z h a ty vs) : Ars Z h' a ty vs := by
  obtain ⟨c, A, r⟩ := F; exact ⟨c, A.ext E, r⟩
theorem Ars.other (W : Wr h h' b sl w) (F : Ars Z h a ty vs) (q : a ≠ b) : Ars Z h' a ty vs := by
  obtain ⟨c, A, r⟩ := F; exact ⟨c, A.other W q, r⟩
theorem Ars.keep (F : Ars Z h a ty vs) (K : Keep h h' ws) (q : a ∉ ws) : Ars Z h' a ty vs := by
  obtain ⟨c, A, r⟩ := F; exact ⟨c, ⟨K.2.1 _ _ A.1 q, A.2⟩, r⟩
theorem Ars.lt (F : Ars Z h a ty vs) : a < h.size := by
  obtain ⟨c, A, r⟩ := F; exact A.lt
theorem Ars.set (W : Wr h h' a sl w) (F : Ars Z h a ty vs) (hw : fits ty w = true) : Ars Z h' a ty (vs.set sl w) := by
  obtain ⟨c, A, r1, r2⟩ := F
  refine ⟨_, A.same W, ?_, ?_⟩
  · show (c.slots.setIfInBounds sl w).toList = _
    rw [Array.toList_setIfInBounds, r1]
  · intro v hv
    rcases List.mem_or_eq_of_mem_set hv with q | rfl
    · exact r2 v q
    · exact hw
theorem Ars.new {cA : ClassId} {n : Int32} {k : Nat} (A : Arr Z h a (newA cA ty n) ty) (hk : n.toNatClampNeg = k) (hf : fits ty (defaultValue ty) = true) : Ars Z h a ty (List.replicate k (defaultValue ty)) := by
  subst hk
  refine ⟨_, A, ?_, ?_⟩
  · show (Array.replicate _ _).toList = _
    rw [Array.toList_replicate]
  · intro v hv; rw [List.eq_of_mem_replicate hv]; exact hf
theorem Ars.size {c : Cell} (r : c.slots.toList = vs) : c.slots.size = vs.length := by rw [← r, Array.length_toList]
theorem Ars.at {c : Cell} (r : c.slots.toList = vs) {i : Nat} {v : Value} (hv : vs[i]? = some v) : c.slots[i]? = some v ∧ i < c.slots.size := by
  rw [← r, Array.getElem?_toList] at hv
  exact ⟨hv, (Array.getElem?_eq_some_iff.mp hv).1⟩
end ArsFacts
section ArsSteps
variable {p : Program} {l : Launch} {e : Env} {R : Room} {s : State} {m : MethodId} {args : Array Value} {below : List Frame} {meth : Method} {c : Code} {T : State} {locs : List Loc} {cells slots : Nat} {Z : State} {a0 : Array Value} {h : Heap} {b : ByteArray} {F : Outcome → State → Prop} {pc pc' : Nat} {ls : Array Slot} {rest : List Value} {a : Addr} {vs : List Value} {v : Value} {j : Int32} {i : Nat}
theorem g_len (X : Stand p l e R s m args below meth c T locs cells slots) (hx : p.tables.exec = Jvm.exec) (hZ : Z.Warmed39 s.vm) (eT : T.heap = h) {ty : FieldType} (V : Ars Z h a ty vs) {n : Int32} (hn : vs.length.toInt32 = n) (hd : decode c.code pc = .ok (.arraylength, 1)) (hp : pc + 1 = pc') (k : Go p e below m F T pc' ls (.int n :: rest)) : Go p e below m F T pc ls (.ref a :: rest) := by
  subst hp hn
  obtain ⟨cl, A, r1, r2⟩ := V
  rw [← Ars.size r1] at k
  exact k.of fun t k => X.arraylength hx (by rw [eT]; exact A.1) (State.isArrayOf_alike hZ.alike A.2.1) (g := mkF m pc ls (.ref a :: rest)) rfl rfl hd t k
theorem g_iaload (X : Stand p l e R s m args below meth c T locs cells slots) (hx : p.tables.exec = Jvm.exec) (hZ : Z.Warmed39 s.vm) (eT : T.heap = h) (V : Ars Z h a .int vs) (hj : ¬ j < 0) (hi : j.toNatClampNeg = i) (hv : vs[i]? = some v) (hd : decode c.code pc = .ok (.iaload, 1)) (hp : pc + 1 = pc') (k : Go p e below m F T pc' ls (v :: rest)) : Go p e below m F T pc ls (.int j :: .ref a :: rest) := by
  subst hp hi
  obtain ⟨cl, A, r1, r2⟩ := V
  obtain ⟨q1, q2⟩ := Ars.at r1 hv
  exact k.of fun t k => X.iaload hx (by rw [eT]; exact A.1) (State.isArrayOf_alike hZ.alike A.2.1) A.2.2 (fun q => q.elim hj fun q => absurd q2 (Nat.not_lt.mpr q)) q1 (g := mkF m pc ls (.int j :: .ref a :: rest)) rfl rfl hd t k
theorem g_caload (X : Stand p l e R s m args below meth c T locs cells slots) (hx : p.tables.exec = Jvm.exec) (hZ : Z.Warmed39 s.vm) (eT : T.heap = h) (V : Ars Z h a .char vs) (hj : ¬ j < 0) (hi : j.toNatClampNeg = i) (hv : vs[i]? = some v) (hd : decode c.code pc = .ok (.caload, 1)) (hp : pc + 1 = pc') (k : Go p e below m F T pc' ls (v :: rest)) : Go p e below m F T pc ls (.int j :: .ref a :: rest) := by
  subst hp hi
  obtain ⟨cl, A, r1, r2⟩ := V
  obtain ⟨q1, q2⟩ := Ars.at r1 hv
  exact k.of fun t k => X.caload hx (by rw [eT]; exact A.1) (State.isArrayOf_alike hZ.alike A.2.1) A.2.2 (fun q => q.elim hj fun q => absurd q2 (Nat.not_lt.mpr q)) q1 (g := mkF m pc ls (.int j :: .ref a :: rest)) rfl rfl hd t k
theorem g_baload (X : Stand p l e R s m args below meth c T locs cells slots) (hx : p.tables.exec = Jvm.exec) (hZ : Z.Warmed39 s.vm) (eT : T.heap = h) (V : Ars Z h a .byte vs) (hj : ¬ j < 0) (hi : j.toNatClampNeg = i) (hv : vs[i]? = some v) (hd : decode c.code pc = .ok (.baload, 1)) (hp : pc + 1 = pc') (k : Go p e below m F T pc' ls (v :: rest)) : Go p e below m F T pc ls (.int j :: .ref a :: rest) := by
  subst hp hi
  obtain ⟨cl, A, r1, r2⟩ := V
  obtain ⟨q1, q2⟩ := Ars.at r1 hv
  exact k.of fun t k => X.baloadBytes hx (by rw [eT]; exact A.1) (State.isArrayOf_alike hZ.alike A.2.1) A.2.2 (fun q => q.elim hj fun q => absurd q2 (Nat.not_lt.mpr q)) q1 (g := mkF m pc ls (.int j :: .ref a :: rest)) rfl rfl hd t k
theorem g_daload (X : Stand p l e R s m args below meth c T locs cells slots) (hx : p.tables.exec = Jvm.exec) (hZ : Z.Warmed39 s.vm) (eT : T.heap = h) (V : Ars Z h a .double vs) (hj : ¬ j < 0) (hi : j.toNatClampNeg = i) (hv : vs[i]? = some v) (hd : decode c.code pc = .ok (.daload, 1)) (hp : pc + 1 = pc') (k : Go p e below m F T pc' ls (v :: rest)) : Go p e below m F T pc ls (.int j :: .ref a :: rest) := by
  subst hp hi
  obtain ⟨cl, A, r1, r2⟩ := V
  obtain ⟨q1, q2⟩ := Ars.at r1 hv
  exact k.of fun t k => X.daload hx (by rw [eT]; exact A.1) (State.isArrayOf_alike hZ.alike A.2.1) A.2.2 (fun q => q.elim hj fun q => absurd q2 (Nat.not_lt.mpr q)) q1 (g := mkF m pc ls (.int j :: .ref a :: rest)) rfl rfl hd t k
theorem g_laload (X : Stand p l e R s m args below meth c T locs cells slots) (hx : p.tables.exec = Jvm.exec) (hZ : Z.Warmed39 s.vm) (eT : T.heap = h) (V : Ars Z h a .long vs) (hj : ¬ j < 0) (hi : j.toNatClampNeg = i) (hv : vs[i]? = some v) (hd : decode c.code pc = .ok (.laload, 1)) (hp : pc + 1 = pc') (k : Go p e below m F T pc' ls (v :: rest)) : Go p e below m F T pc ls (.int j :: .ref a :: rest) := by
  subst hp hi
  obtain ⟨cl, A, r1, r2⟩ := V
  obtain ⟨q1, q2⟩ := Ars.at r1 hv
  exact k.of fun t k => X.laload hx (by rw [eT]; exact A.1) (State.isArrayOf_alike hZ.alike A.2.1) A.2.2 (fun q => q.elim hj fun q => absurd q2 (Nat.not_lt.mpr q)) q1 (g := mkF m pc ls (.int j :: .ref a :: rest)) rfl rfl hd t k
theorem g_aaload (X : Stand p l e R s m args below meth c T locs cells slots) (hx : p.tables.exec = Jvm.exec) (hZ : Z.Warmed39 s.vm) (eT : T.heap = h) {ty : FieldType} (hty : ty.isReference = true) (V : Ars Z h a ty vs) (hj : ¬ j < 0) (hi : j.toNatClampNeg = i) (hv : vs[i]? = some v) (hd : decode c.code pc = .ok (.aaload, 1)) (hp : pc + 1 = pc') (k : Go p e below m F T pc' ls (v :: rest)) : Go p e below m F T pc ls (.int j :: .ref a :: rest) := by
  subst hp hi
  obtain ⟨cl, A, r1, r2⟩ := V
  obtain ⟨q1, q2⟩ := Ars.at r1 hv
  exact k.of fun t k => X.aaload hx (by rw [eT]; exact A.1) (State.isArrayOf_alike hZ.alike A.2.1) hty A.2.2 (fun q => q.elim hj fun q => absurd q2 (Nat.not_lt.mpr q)) q1 (g := mkF m pc ls (.int j :: .ref a :: rest)) rfl rfl hd t k
theorem g_iastore (X : Stand p l e R s m args below meth c T locs cells slots) (hx : p.tables.exec = Jvm.exec) (hZ : Z.Warmed39 s.vm) (eT : T.heap = h) {x : Int32} (V : Ars Z h a .int vs) (hj : ¬ j < 0) (hi : j.toNatClampNeg = i) (hb : i < vs.length) (hv : (.int x) = v) (hd : decode c.code pc = .ok (.iastore, 1)) (hp : pc + 1 = pc') (k : ∀ T' h', Stand p l e R s m args below meth c T' (locs ++ [⟨a, i⟩]) cells slots → T'.heap = h' → Wr h h' a i v → Ars Z h' a .int (vs.set i v) → Go p e below m F T' pc' ls rest) : Go p e below m F T pc ls (.int x :: .int j :: .ref a :: rest) := by
  subst hp hi hv
  obtain ⟨cl, A, r1, r2⟩ := V
  obtain ⟨T', h', X', e', W', st⟩ := stI X hx hZ eT A (j := j) (x := x) (fun q => q.elim hj fun q => absurd (Ars.size r1 ▸ hb) (Nat.not_lt.mpr q)) (g := mkF m pc ls (.int x :: .int j :: .ref a :: rest)) rfl rfl hd
  exact (k T' h' X' e' W' (Ars.set W' ⟨cl, A, r1, r2⟩ rfl)).of st
theorem g_castore (X : Stand p l e R s m args below meth c T locs cells slots) (hx : p.tables.exec = Jvm.exec) (hZ : Z.Warmed39 s.vm) (eT : T.heap = h) {x : Int32} (V : Ars Z h a .char vs) (hj : ¬ j < 0) (hi : j.toNatClampNeg = i) (hb : i < vs.length) (hv : (.int (nar .char x)) = v) (hd : decode c.code pc = .ok (.castore, 1)) (hp : pc + 1 = pc') (k : ∀ T' h', Stand p l e R s m args below meth c T' (locs ++ [⟨a, i⟩]) cells slots → T'.heap = h' → Wr h h' a i v → Ars Z h' a .char (vs.set i v) → Go p e below m F T' pc' ls rest) : Go p e below m F T pc ls (.int x :: .int j :: .ref a :: rest) := by
  subst hp hi hv
  obtain ⟨cl, A, r1, r2⟩ := V
  obtain ⟨T', h', X', e', W', st⟩ := stC X hx hZ eT A (j := j) (x := x) (fun q => q.elim hj fun q => absurd (Ars.size r1 ▸ hb) (Nat.not_lt.mpr q)) (g := mkF m pc ls (.int x :: .int j :: .ref a :: rest)) rfl rfl hd
  exact (k T' h' X' e' W' (Ars.set W' ⟨cl, A, r1, r2⟩ (fits_nar_char x))).of st
theorem g_bastore (X : Stand p l e R s m args below meth c T locs cells slots) (hx : p.tables.exec = Jvm.exec) (hZ : Z.Warmed39 s.vm) (eT : T.heap = h) {x : Int32} (V : Ars Z h a .byte vs) (hj : ¬ j < 0) (hi : j.toNatClampNeg = i) (hb : i < vs.length) (hv : (.int (nar .byte x)) = v) (hd : decode c.code pc = .ok (.bastore, 1)) (hp : pc + 1 = pc') (k : ∀ T' h', Stand p l e R s m args below meth c T' (locs ++ [⟨a, i⟩]) cells slots → T'.heap = h' → Wr h h' a i v → Ars Z h' a .byte (vs.set i v) → Go p e below m F T' pc' ls rest) : Go p e below m F T pc ls (.int x :: .int j :: .ref a :: rest) := by
  subst hp hi hv
  obtain ⟨cl, A, r1, r2⟩ := V
  obtain ⟨T', h', X', e', W', st⟩ := stB X hx hZ eT A (j := j) (x := x) (fun q => q.elim hj fun q => absurd (Ars.size r1 ▸ hb) (Nat.not_lt.mpr q)) (g := mkF m pc ls (.int x :: .int j :: .ref a :: rest)) rfl rfl hd
  exact (k T' h' X' e' W' (Ars.set W' ⟨cl, A, r1, r2⟩ (fits_nar_byte x))).of st
theorem g_dastore (X : Stand p l e R s m args below meth c T locs cells slots) (hx : p.tables.exec = Jvm.exec) (hZ : Z.Warmed39 s.vm) (eT : T.heap = h) {x : UInt64} (V : Ars Z h a .double vs) (hj : ¬ j < 0) (hi : j.toNatClampNeg = i) (hb : i < vs.length) (hv : (.double x) = v) (hd : decode c.code pc = .ok (.dastore, 1)) (hp : pc + 1 = pc') (k : ∀ T' h', Stand p l e R s m args below meth c T' (locs ++ [⟨a, i⟩]) cells slots → T'.heap = h' → Wr h h' a i v → Ars Z h' a .double (vs.set i v) → Go p e below m F T' pc' ls rest) : Go p e below m F T pc ls (.double x :: .int j :: .ref a :: rest) := by
  subst hp hi hv
  obtain ⟨cl, A, r1, r2⟩ := V
  obtain ⟨T', h', X', e', W', st⟩ := stD X hx hZ eT A (j := j) (x := x) (fun q => q.elim hj fun q => absurd (Ars.size r1 ▸ hb) (Nat.not_lt.mpr q)) (g := mkF m pc ls (.double x :: .int j :: .ref a :: rest)) rfl rfl hd
  exact (k T' h' X' e' W' (Ars.set W' ⟨cl, A, r1, r2⟩ rfl)).of st
theorem g_lastore (X : Stand p l e R s m args below meth c T locs cells slots) (hx : p.tables.exec = Jvm.exec) (hZ : Z.Warmed39 s.vm) (eT : T.heap = h) {x : Int64} (V : Ars Z h a .long vs) (hj : ¬ j < 0) (hi : j.toNatClampNeg = i) (hb : i < vs.length) (hv : (.long x) = v) (hd : decode c.code pc = .ok (.lastore, 1)) (hp : pc + 1 = pc') (k : ∀ T' h', Stand p l e R s m args below meth c T' (locs ++ [⟨a, i⟩]) cells slots → T'.heap = h' → Wr h h' a i v → Ars Z h' a .long (vs.set i v) → Go p e below m F T' pc' ls rest) : Go p e below m F T pc ls (.long x :: .int j :: .ref a :: rest) := by
  subst hp hi hv
  obtain ⟨cl, A, r1, r2⟩ := V
  obtain ⟨T', h', X', e', W', st⟩ := stJ X hx hZ eT A (j := j) (x := x) (fun q => q.elim hj fun q => absurd (Ars.size r1 ▸ hb) (Nat.not_lt.mpr q)) (g := mkF m pc ls (.long x :: .int j :: .ref a :: rest)) rfl rfl hd
  exact (k T' h' X' e' W' (Ars.set W' ⟨cl, A, r1, r2⟩ rfl)).of st
theorem g_newarray (X : Stand p l e R s m args below meth c T locs cells slots) (hx : p.tables.exec = Jvm.exec) (hZ : Z.Warmed39 s.vm) (eT : T.heap = h) {aty : ArrayType} (w : (Cond.arrayClass (newarray.typeOf aty)).before a0 Z = true) {n : Int32} {k0 : Nat} (hn : ¬ n < 0) (hk : n.toNatClampNeg = k0) (hb : k0 * 8 ≤ 536870912) (hc : cells + 1 ≤ R.cells) (hl : slots + k0 ≤ R.slots) {ad : String} (had : "[" ++ (newarray.typeOf aty).toString = ad) (hf : fits (newarray.typeOf aty) (defaultValue (newarray.typeOf aty)) = true) (hd : decode c.code pc = .ok (.newarray aty, 2)) (hp : pc + 2 = pc')
    (k : ∀ T' h' a, Stand p l e R s m args below meth c T' locs (cells + 1) (slots + k0) → T'.heap = h' → Ext h h' → a = h.size → Ars Z h' a (newarray.typeOf aty) (List.replicate k0 (defaultValue (newarray.typeOf aty))) → Exa Z h' a ad → Go p e below m F T' pc' ls (.ref a :: rest)) : Go p e below m F T pc ls (.int n :: rest) := by
  subst hp
  obtain ⟨T', h', cA, X', e', E', A', Ea', st⟩ := newPE X hx hZ w eT (g := mkF m pc ls (.int n :: rest)) rfl hd rfl hn (cap := k0) (by omega) hb hc hl had
  exact (k T' h' _ X' e' E' rfl (Ars.new A' hk hf) Ea').of st
end ArsSteps
end Jvm.Own
namespace Jvm.Own
open Sem ClassFile Op Lib Jvm.Stand Jvm.Free Jvm.LawKit Jvm.RoadKit
theorem Old.ext' {Z : State} {h h' : Heap} {n0 : Nat} (E : Ext h h') (X : Old Z n0 h) : Old Z n0 h' := X.ext E
end Jvm.Own
namespace Jvm.Own
open Sem ClassFile Op Lib Jvm.Stand Jvm.Free Jvm.LawKit Jvm.RoadKit Jvm.FP.Core
/-! Math.abs and Math.max on doubles: the model's own rows -/
section NatD
variable {p : Program} {l : Launch} {e : Env} {R : Room} {s : State} {m : MethodId} {args : Array Value} {below : List Frame} {meth : Method} {c : Code} {T : State} {locs : List Loc} {cells slots : Nat} {Z : State} {a0 : Array Value} {h : Heap} {F : Outcome → State → Prop} {pc pc' : Nat} {ls : Array Slot} {rest : List Value}
theorem g_absD (X : Stand p l e R s m args below meth c T locs cells slots) (hx : p.tables.exec = Jvm.exec) (hZ : Z.Warmed39 s.vm) {own : String} {i : Nat} {bytes : ByteArray} {maxL : Nat} (hown : s.vm.findClass own = some m.cls) (w1 : (Cond.methodLink own i ⟨"java/lang/Math", "abs", "(D)D"⟩).before a0 Z = true) (w2 : (Cond.static ⟨"java/lang/Math", "abs", "(D)D"⟩).before a0 Z = true) (w3 : (Cond.initialized "java/lang/Math").before a0 Z = true) (w4 : (Cond.code ⟨"java/lang/Math", "abs", "(D)D"⟩ bytes maxL (some .double)).before a0 Z = true)
    {x : UInt64} (hn : x &&& 0x7fffffffffffffff ≤ 0x7ff0000000000000) (eT : T.heap = h) (hsize : ls.size = c.maxLocals) (hd : decode c.code pc = .ok (.invokestatic i, 3)) (hp : pc + 3 = pc') (hf : 1 ≤ R.frames) {W : Nat} (hW : 2 * 0 + (rest.map fun v => v.category).sum ≤ W) (hl : W + (maxL + 11) ≤ R.locals)
    (k : ∀ T', Stand p l e R s m args below meth c T' locs cells slots → T'.heap = h → Go p e below m F T' pc' ls (.double (x &&& 0x7fffffffffffffff) :: rest)) : Go p e below m F T pc ls (.double x :: rest) := by
  subst hp
  obtain ⟨v, vm1, B, -, X', ⟨hB, hv⟩, stp⟩ := Jvm.LawKit.callS X hx (y := (⟨"java/lang/Math", "abs", "(D)D"⟩ : MethodName)) hown (mvT hZ w1) (mvT hZ w2) (mvT hZ w3) (mvT hZ w4) (by decide) (Jvm.Free.NT.Abs64.pays (W := W) (mvT hZ w4) (mvT hZ w2) hf hl) (g := mkF m pc ls (.double x :: rest)) rfl hsize (argsL := [.double x]) (rest := rest) (lenOf Jvm.Free.NT.mathAbs64_desc rfl) rfl hW hd (fun _ _ => ⟨x, rfl, hn⟩)
  obtain rfl := hv x ⟨rfl, hn⟩
  subst hB
  exact (k _ X' eT).of stp
theorem g_maxD (X : Stand p l e R s m args below meth c T locs cells slots) (hx : p.tables.exec = Jvm.exec) (hZ : Z.Warmed39 s.vm) {own : String} {i : Nat} {bytes : ByteArray} {maxL : Nat} (hown : s.vm.findClass own = some m.cls) (w1 : (Cond.methodLink own i ⟨"java/lang/Math", "max", "(DD)D"⟩).before a0 Z = true) (w2 : (Cond.static ⟨"java/lang/Math", "max", "(DD)D"⟩).before a0 Z = true) (w3 : (Cond.initialized "java/lang/Math").before a0 Z = true) (w4 : (Cond.code ⟨"java/lang/Math", "max", "(DD)D"⟩ bytes maxL (some .double)).before a0 Z = true)
    {x y : UInt64} (hn : FP.dIsNaN x = false ∧ FP.dIsNaN y = false) (eT : T.heap = h) (hsize : ls.size = c.maxLocals) (hd : decode c.code pc = .ok (.invokestatic i, 3)) (hp : pc + 3 = pc') (hf : 1 ≤ R.frames) {W : Nat} (hW : 2 * 0 + (rest.map fun v => v.category).sum ≤ W) (hl : W + (maxL + 11) ≤ R.locals)
    (k : ∀ T', Stand p l e R s m args below meth c T' locs cells slots → T'.heap = h → Go p e below m F T' pc' ls (.double (Jvm.Native.java_lang_Math.nans.pick64 true x y) :: rest)) : Go p e below m F T pc ls (.double y :: .double x :: rest) := by
  subst hp
  obtain ⟨v, vm1, B, -, X', ⟨hB, hv⟩, stp⟩ := Jvm.LawKit.callS X hx (y := (⟨"java/lang/Math", "max", "(DD)D"⟩ : MethodName)) hown (mvT hZ w1) (mvT hZ w2) (mvT hZ w3) (mvT hZ w4) (by decide) (Jvm.Free.NT.Max64.pays (W := W) (mvT hZ w4) (mvT hZ w2) hf hl) (g := mkF m pc ls (.double y :: .double x :: rest)) rfl hsize (argsL := [.double x, .double y]) (rest := rest) (lenOf Jvm.Free.NT.mathMax64_desc rfl) rfl hW hd (fun _ _ => ⟨(x, y), rfl, hn⟩)
  obtain rfl := hv (x, y) ⟨rfl, hn⟩
  subst hB
  exact (k _ X' eT).of stp
theorem g_lsw (X : Stand p l e R s m args below meth c T locs cells slots) (hx : p.tables.exec = Jvm.exec) {n : Int32} {default : Int} {pairs : Array (Int × Int)} {len : Nat} (hd : decode c.code pc = .ok (.lookupswitch default pairs, len)) (hsorted : (pairs.toList.zip (pairs.toList.drop 1)).all (fun (a, next) => a.1 < next.1) = true) {a off : Int} (hfind : pairs.find? (·.1 == n.toInt) = some (a, off)) (hoff : 0 ≤ (pc : Int) + off) (hp : ((pc : Int) + off).toNat = pc') (k : Go p e below m F T pc' ls rest) : Go p e below m F T pc ls (.int n :: rest) := by
  subst hp
  exact k.of fun t k => X.lookupswitchHit hx (g := mkF m pc ls (.int n :: rest)) rfl rfl hd hsorted hfind hoff t k
end NatD
theorem abs_ok {x : UInt64} (h : DFin x) : x &&& 0x7fffffffffffffff ≤ 0x7ff0000000000000 := by
  rw [UInt64.le_iff_toNat_le, mask_toNat]
  have := (fin_bits x).mp h
  show _ ≤ 9218868437227405312
  omega
end Jvm.Own
namespace Jvm.Own
open Sem ClassFile Op Lib Bundle Jvm.Stand Jvm.Free Jvm.LawKit Jvm.RoadKit
def FinH (Z : State) (EL : List (String × Nat)) (s : State) (h : Heap) (rc rs : Nat) (Q : Option Value → Heap → List Loc → Prop) (o : Outcome) (V : State) : Prop := ∃ v L, o = .returned v ∧ Q v V.heap L ∧ CHr Z EL s.vm h V.vm V.heap ∧ ReturnedEndW s o V L rc rs
abbrev CtrH (l : Launch) (Z : State) (EL : List (String × Nat)) (y : MethodName) (bytes : ByteArray) (maxL : Nat) (ret : Option FieldType) (ws : List Cond) (rm : Room) (as' : Array Value) (h : Heap) (Q : Option Value → Heap → List Loc → Prop) : Prop :=
  MetFree l y (head1 (Cond.code y bytes maxL ret :: ws) rm) (fun a U => a = as' ∧ Z.Warmed39 U.vm ∧ U.heap = h ∧ CHv Z EL U.vm h) (fun _ _ _ _ _ => True) (fun _ U o U' => ∃ v L, o = .returned v ∧ Q v U'.heap L ∧ CHr Z EL U.vm U.heap U'.vm U'.heap ∧ ReturnedEndW U o U' L rm.cells rm.slots)
theorem enterH {l : Launch} {Z : State} {EL : List (String × Nat)} {y : MethodName} {bytes : ByteArray} {maxL : Nat} {ret : Option FieldType} {ws : List Cond} {rm : Room} {as' : Array Value} {h : Heap} {Q : Option Value → Heap → List Loc → Prop} (hpn : plainFor y = true)
    (body : ∀ (p : Program) (e : Env) (s : State) (m : MethodId) (below : List Frame) (meth : Method) (c : Code) (T : State), Stand p l e rm (s.setVm s.vm) m as' below meth c T [] 0 0 → p.tables.exec = Jvm.exec → c.code = bytes → c.maxLocals = maxL → meth.sig.returnType = ret → meth.locks = false → Z.Warmed39 (s.setVm s.vm).vm → (s.setVm s.vm).vm.findClass y.cls = some m.cls → meth.name = y.name → T.heap = h → CHr Z EL s.vm h s.vm h → s.Since s.vm 0 →
      ∃ V o, Steps p.tables e below (T.setTop (entryFrame m as' maxL)) V ∧ V.status = .running ∧ Ended V below o ∧ FinH Z EL s h rm.cells rm.slots Q o V) : CtrH l Z EL y bytes maxL ret ws rm as' h Q := by
  refine MetFree.of_bodySF hpn hisR ?_
  intro p e s m args below meth c s₁ Bd hml0 hP hK
  obtain ⟨rfl, hZ, hh, hC⟩ := hP
  obtain ⟨V, o, r1, r2, r3, v, L, r4, r5, r6, r7⟩ := body p e s m below meth c s₁ (Stand.of_body Bd) Bd.exec Bd.bytes hml0 Bd.returns Bd.notSynchronized hZ (findClass_of_methodNamed Bd.named) (name_of_methodNamed Bd.named Bd.method).1 (by rw [← hh, Bd.state]; rfl) (CHr.refl hC) (State.WarmedH.since (State.WarmedH.refl s) 0)
  exact ⟨V, o, r1, r2, r3, v, L, r4, r5, by rw [hh]; exact r6, r7⟩
theorem Safe.nil {Z : State} {vm : Vm} {h : Heap} {x : Addr} : Safe Z [] vm h x := fun ⟨_, hp, _⟩ => absurd hp List.not_mem_nil
theorem CHv.nil {Z : State} {vm : Vm} {h : Heap} : CHv Z [] vm h := fun _ hp => absurd hp List.not_mem_nil
theorem CHr.nil {Z : State} {vm vm1 : Vm} {h h' : Heap} (q : h.size ≤ h'.size) : CHr Z [] vm h vm1 h' := ⟨CHv.nil, q, fun _ ⟨_, hp, _⟩ => absurd hp List.not_mem_nil⟩
section HSteps
variable {p : Program} {l : Launch} {e : Env} {R : Room} {s : State} {m : MethodId} {args : Array Value} {below : List Frame} {meth : Method} {c : Code} {T : State} {locs : List Loc} {cells slots : Nat} {Z : State} {a0 : Array Value} {EL : List (String × Nat)} {h hA : Heap} {vm0 vmA : Vm} {F : Outcome → State → Prop} {pc pc' : Nat} {ls : Array Slot} {rest : List Value}
theorem g_ldcO (X : Stand p l e R (s.setVm vm0) m args below meth c T locs cells slots) (hx : p.tables.exec = Jvm.exec) (hZ : Z.Warmed39 (s.setVm vm0).vm) {own text : String} {i : Nat} (hown : (s.setVm vm0).vm.findClass own = some m.cls) (w : (Cond.stringLink own i text).before a0 Z = true) (wS : ∀ a ∈ Bundle.stringAtoms, a.before a0 Z = true) (eT : T.heap = h) {k0 : Nat} (hS : s.Since vm0 k0) (hk : k0 ≤ h.size) (hEL : EW Z a0 EL) (C : CHr Z EL vmA hA vm0 h) (hd : decode c.code pc = .ok (.ldc i, 2)) (hp : pc + 2 = pc') {n : Nat} (hn : 4 * text.toList.length ≤ n) (hbig : n ≤ 536870912) (hc : cells + 2 ≤ R.cells) (hl : slots + (n + 4) ≤ R.slots)
    (k : ∀ a T' h' k1, Stand p l e R (s.setVm T'.vm) m args below meth c T' locs (cells + 2) (slots + (n + 4)) → T'.heap = h' → Ext h h' → s.Since T'.vm k1 → k1 ≤ h'.size → Z.Warmed39 (s.setVm T'.vm).vm → (s.setVm T'.vm).vm.findClass own = some m.cls → CHr Z EL vmA hA T'.vm h' → (∀ x, x < h.size → Safe Z EL vm0 h x → Safe Z EL T'.vm h' x) → Go p e below m F T' pc' ls (.ref a :: rest)) : Go p e below m F T pc ls rest := by
  subst hp
  obtain ⟨a, T', h', k1, X', e', E', hS', hk', hZ', ho', C', -, st⟩ := ldcOH X hx hZ hown w wS eT hS hk hEL C.1 (g := mkF m pc ls rest) rfl hd hn hbig hc hl
  exact (k a T' h' k1 X' e' E' hS' hk' hZ' ho' (C.trans C') (fun x q S => C'.safe q S)).of st
theorem g_ldcR (X : Stand p l e R (s.setVm vm0) m args below meth c T locs cells slots) (hx : p.tables.exec = Jvm.exec) (hZ : Z.Warmed39 (s.setVm vm0).vm) {own text : String} {i : Nat} (hown : (s.setVm vm0).vm.findClass own = some m.cls) (w : (Cond.stringLink own i text).before a0 Z = true) (wS : ∀ a ∈ Bundle.stringAtoms, a.before a0 Z = true) (eT : T.heap = h) {k0 : Nat} (hS : s.Since vm0 k0) (hk : k0 ≤ h.size) (hEL : EW Z a0 EL) (C : CHr Z EL vmA hA vm0 h) (hmem : (own, i) ∈ EL) {vs : List Value} {z : Int32} (ht : (∀ c ∈ text.toList, c.toNat < 256) ∧ text.toList.map (fun c => Value.int (Jvm.Lit.byteI c.toNat.toUInt16)) = vs) (hz : ¬ z < 0) (hlz : z.toNatClampNeg = vs.length) (hd : decode c.code pc = .ok (.ldc i, 2)) (hp : pc + 2 = pc') {n : Nat} (hn : 4 * text.toList.length ≤ n) (hbig : n ≤ 536870912) (hc : cells + 2 ≤ R.cells) (hl : slots + (n + 4) ≤ R.slots)
    (k : ∀ a T' h' k1 b kb, Stand p l e R (s.setVm T'.vm) m args below meth c T' locs (cells + 2) (slots + (n + 4)) → T'.heap = h' → Ext h h' → s.Since T'.vm k1 → k1 ≤ h'.size → Z.Warmed39 (s.setVm T'.vm).vm → (s.setVm T'.vm).vm.findClass own = some m.cls → CHr Z EL vmA hA T'.vm h' → (∀ x, x < h.size → Safe Z EL vm0 h x → Safe Z EL T'.vm h' x) → Exa Z h' a "java/lang/String" → Fld Z h' a "java/lang/String" "coder" "B" (.int 0) → Fld Z h' a "java/lang/String" "value" "[B" (.ref b) → Arv Z h' b kb .byte z vs (.int 0) → (∀ x, Safe Z EL T'.vm h' x → x ≠ a ∧ x ≠ b) → Go p e below m F T' pc' ls (.ref a :: rest)) : Go p e below m F T pc ls rest := by
  subst hp
  obtain ⟨a, T', h', k1, b, kb, X', e', E', hS', hk', hZ', ho', x1, x2, x3, x4, -, -, C', -, x5, st⟩ := ldcCH X hx hZ hown w wS eT hS hk hEL hmem C.1 ht hz hlz (g := mkF m pc ls rest) rfl hd hn hbig hc hl
  exact (k a T' h' k1 b kb X' e' E' hS' hk' hZ' ho' (C.trans C') (fun x q S => C'.safe q S) x1 x2 x3 x4 x5).of st
theorem g_staticH (X : Stand p l e R (s.setVm vm0) m args below meth c T locs cells slots) (hx : p.tables.exec = Jvm.exec) (hZ : Z.Warmed39 (s.setVm vm0).vm) {own : String} {i : Nat} {y : MethodName} {bytes : ByteArray} {maxL : Nat} {ret : Option FieldType} {rm : Room} {Q : Option Value → Heap → List Loc → Prop} (hown : (s.setVm vm0).vm.findClass own = some m.cls) (w1 : (Cond.methodLink own i y).before a0 Z = true) (w2 : (Cond.static y).before a0 Z = true) (w3 : (Cond.initialized y.cls).before a0 Z = true) (w4 : (Cond.code y bytes maxL ret).before a0 Z = true) (hy : y.cls ≠ "java/lang/invoke/MethodHandle" ∧ y.cls ≠ "java/lang/invoke/VarHandle") {k0 : Nat} (hS : s.Since vm0 k0) (hk : k0 ≤ h.size) (hEL : EW Z a0 EL) (C : CHr Z EL vmA hA vm0 h)
    {argsL st : List Value} {ps : List FieldType} {rt : Option FieldType} (hM : CtrH l Z EL y bytes maxL ret [] rm argsL.toArray h Q) (hpd : parseMethodDescriptor y.desc = some ⟨ps, rt⟩) (hlen : argsL.length = ps.length) (hst : st = argsL.reverse ++ rest) (hd : decode c.code pc = .ok (.invokestatic i, 3)) (eT : T.heap = h) (hsize : ls.size = c.maxLocals) (hp : pc + 3 = pc') (hf : rm.frames + 1 ≤ R.frames) {W : Nat} (hW : 2 * 0 + (rest.map fun v => v.category).sum ≤ W) (hl : W + (maxL + 11) + rm.locals ≤ R.locals) (hc : cells + rm.cells ≤ R.cells) (hs : slots + rm.slots ≤ R.slots)
    (k : ∀ v T' L, Stand p l e R (s.setVm T'.vm) m args below meth c T' (locs ++ L) (cells + rm.cells) (slots + rm.slots) → s.Since T'.vm T'.heap.size → Z.Warmed39 (s.setVm T'.vm).vm → (s.setVm T'.vm).vm.findClass own = some m.cls → CHr Z EL vmA hA T'.vm T'.heap → (∀ x, x < h.size → Safe Z EL vm0 h x → Safe Z EL T'.vm T'.heap x) → Q v T'.heap L → Go p e below m F T' pc' ls (v.toList ++ rest)) : Go p e below m F T pc ls st := by
  subst hp hst
  obtain ⟨v, _, ⟨T', L', k', n'⟩, -, X', h2, hg, ⟨L, hQ, l1, l2, l3, C'⟩, stp⟩ := callSS X hx (y := y) hown (mvT hZ w1) (mvT hZ w2) (mvT hZ w3) (mvT hZ w4) hy (backOfSH (W := W) hM hZ w4 w3 hf hl hEL C.1) (g := mkF m pc ls (argsL.reverse ++ rest)) rfl hsize (argsL := argsL) (rest := rest) (lenOf hpd hlen) rfl hW hd (fun _ _ => ⟨rfl, eT, hc, hs⟩)
  dsimp only [Pt.U, Pt.locs, Pt.cells, Pt.slots] at X' h2 hg l1 l2 l3 stp hQ C'
  subst l1 l2 l3
  obtain ⟨X2, S2, Z2, O2⟩ := rebS hS hk X' h2 (by rw [← eT]; exact hg) hZ hown
  exact (k v T' L X2 S2 Z2 O2 (C.trans C') (fun x q S => C'.safe q S) hQ).of fun t q => stp.trans q
theorem g_specialH (X : Stand p l e R (s.setVm vm0) m args below meth c T locs cells slots) (hx : p.tables.exec = Jvm.exec) (hZ : Z.Warmed39 (s.setVm vm0).vm) {own : String} {i : Nat} {y : MethodName} {bytes : ByteArray} {maxL : Nat} {rm : Room} {Q : Option Value → Heap → List Loc → Prop} (hy1 : y.name = "<init>") (hown : (s.setVm vm0).vm.findClass own = some m.cls) (w1 : (Cond.methodLink own i y).before a0 Z = true) (w2 : (Cond.instanceMethod y).before a0 Z = true) (w3 : (Cond.initialized y.cls).before a0 Z = true) (w4 : (Cond.code y bytes maxL none).before a0 Z = true) (hy : y.cls ≠ "java/lang/invoke/MethodHandle" ∧ y.cls ≠ "java/lang/invoke/VarHandle") {k0 : Nat} (hS : s.Since vm0 k0) (hk : k0 ≤ h.size) (hEL : EW Z a0 EL) (C : CHr Z EL vmA hA vm0 h)
    {a : Addr} {argsL st : List Value} {ps : List FieldType} {rt : Option FieldType} (hM : CtrH l Z EL y bytes maxL none [] rm (.ref a :: argsL).toArray h Q) (hpd : parseMethodDescriptor y.desc = some ⟨ps, rt⟩) (hlen : argsL.length = ps.length) (hst : st = argsL.reverse ++ .ref a :: rest) (hd : decode c.code pc = .ok (.invokespecial i, 3)) (eT : T.heap = h) (hsize : ls.size = c.maxLocals) (hp : pc + 3 = pc') (hf : rm.frames + 1 ≤ R.frames) {W : Nat} (hW : 2 * 0 + (rest.map fun v => v.category).sum ≤ W) (hl : W + (maxL + 11) + rm.locals ≤ R.locals) (hc : cells + rm.cells ≤ R.cells) (hs : slots + rm.slots ≤ R.slots)
    (k : ∀ v T' L, Stand p l e R (s.setVm T'.vm) m args below meth c T' (locs ++ L) (cells + rm.cells) (slots + rm.slots) → s.Since T'.vm T'.heap.size → Z.Warmed39 (s.setVm T'.vm).vm → (s.setVm T'.vm).vm.findClass own = some m.cls → CHr Z EL vmA hA T'.vm T'.heap → (∀ x, x < h.size → Safe Z EL vm0 h x → Safe Z EL T'.vm T'.heap x) → Q v T'.heap L → Go p e below m F T' pc' ls (v.toList ++ rest)) : Go p e below m F T pc ls st := by
  subst hp hst
  obtain ⟨v, _, ⟨T', L', k', n'⟩, -, X', h2, hg, ⟨L, hQ, l1, l2, l3, C'⟩, stp⟩ := X.specialBackS hx (y := y) hy1 hown (mvT hZ w1) (mvT hZ w2) (mvT hZ w4) hy (backOfSH (W := W) hM hZ w4 w3 hf hl hEL C.1) (g := mkF m pc ls (argsL.reverse ++ .ref a :: rest)) rfl hsize (Steps.refl _) (a := a) (argsL := argsL) (rest := rest) (lenOf hpd hlen) rfl hW hd (fun _ _ => ⟨rfl, eT, hc, hs⟩)
  dsimp only [Pt.U, Pt.locs, Pt.cells, Pt.slots] at X' h2 hg l1 l2 l3 stp hQ C'
  subst l1 l2 l3
  obtain ⟨X2, S2, Z2, O2⟩ := rebS hS hk X' h2 (by rw [← eT]; exact hg) hZ hown
  exact (k v T' L X2 S2 Z2 O2 (C.trans C') (fun x q S => C'.safe q S) hQ).of fun t q => stp.trans q
theorem rw_mono {s t : State} {o : Outcome} {L : List Loc} {k n k' n' : Nat} (h : ReturnedEndW s o t L k n) (hk : k ≤ k') (hn : n ≤ n') : ReturnedEndW s o t L k' n' := ⟨h.1, h.2.1, h.2.2.1, h.2.2.2.mono hk hn⟩
theorem h_retV (X : Stand p l e R (s.setVm vm0) m args below meth c T locs cells slots) (hx : p.tables.exec = Jvm.exec) (hZ : Z.Warmed39 (s.setVm vm0).vm) {Q : Option Value → Heap → List Loc → Prop} {rc rs : Nat} (hlk : meth.locks = false) {k0 : Nat} (hS : s.Since vm0 k0) (eT : T.heap = h) (hk : k0 ≤ h.size) (hEL : EW Z a0 EL) (C : CHr Z EL s.vm hA vm0 h) (hret : meth.sig.returnType = none) (hd : decode c.code pc = .ok (.return_, 1)) (hQ : Q none T.heap locs) (hc : cells ≤ rc) (hs : slots ≤ rs) : Go p e below m (FinH Z EL s hA rc rs Q) T pc ls [] := by
  subst eT
  obtain ⟨fs, hr, hrun, hended, hE⟩ := X.leaveW hS hk (v := none) (fun _ => rfl)
  have hV := C.trans (CHv.at X hZ hEL C.1)
  exact ⟨_, _, X.returnOut hx hret hd hr, hrun, hended, _, _, rfl, hQ, hV, rw_mono hE hc hs⟩
theorem h_ret (X : Stand p l e R (s.setVm vm0) m args below meth c T locs cells slots) (hx : p.tables.exec = Jvm.exec) (hZ : Z.Warmed39 (s.setVm vm0).vm) {Q : Option Value → Heap → List Loc → Prop} {rc rs : Nat} (hlk : meth.locks = false) {k0 : Nat} (hS : s.Since vm0 k0) (eT : T.heap = h) (hk : k0 ≤ h.size) (hEL : EW Z a0 EL) (C : CHr Z EL s.vm hA vm0 h) {t : FieldType} {w : Value} {i : Instr} (hret : meth.sig.returnType = some t) (hn : narrow t w = w)
    (hi : (i = .ireturn ∧ (t = .int ∨ t = .boolean ∨ t = .byte ∨ t = .char ∨ t = .short) ∧ ∃ z, w = .int z) ∨ (i = .lreturn ∧ t = .long ∧ ∃ z, w = .long z) ∨ (i = .dreturn ∧ t = .double ∧ ∃ z, w = .double z) ∨ (i = .freturn ∧ t = .float ∧ ∃ z, w = .float z) ∨ (i = .areturn ∧ t.isReference = true ∧ w.isRef = true))
    (hd : decode c.code pc = .ok (i, 1)) (hQ : Q (some w) T.heap locs) (hc : cells ≤ rc) (hs : slots ≤ rs) : Go p e below m (FinH Z EL s hA rc rs Q) T pc ls (w :: rest) := by
  subst eT
  obtain ⟨fs, hr, hrun, hended, hE⟩ := X.leaveW hS hk (v := some w) (fun h => by rw [hret] at h; cases h)
  have hV := C.trans (CHv.at X hZ hEL C.1)
  exact ⟨_, _, retOut X hx hret hn hi hd hr, hrun, hended, _, _, rfl, hQ, hV, rw_mono hE hc hs⟩
end HSteps
end Jvm.Own
namespace Jvm.Pilot.@@N@@
open Jvm Jvm.ClassFile Sem Op Lib Jvm.Free Jvm.Stand Jvm.LawKit Jvm.RoadKit Bundle Jvm.Own Jvm.Pilot.@@N@@.Jvm.D
theorem own_narb (c : Int32) : nar .byte c.toInt8.toInt32 = c.toInt8.toInt32 := by
  show (c.toInt8.toInt32).toInt8.toInt32 = _
  rw [Int8.toInt8_toInt32]
theorem own_i2c {z : Int32} (h : 0 ≤ z.toInt ∧ z.toInt ≤ 65535) : z.toUInt32.toUInt16.toUInt32.toInt32 = z := by
  have h1 := nn32 h.1
  have e0 := small32 h1
  apply Int32.toInt_inj.mp
  have e : (z.toUInt32.toUInt16.toUInt32.toInt32).toBitVec.toNat = z.toBitVec.toNat := by
    have q : (z.toUInt32.toUInt16.toUInt32.toInt32).toBitVec.toNat = z.toBitVec.toNat % 65536 := by
      simp [UInt32.toBitVec_toInt32]
    rw [q]; omega
  rw [small32 (by rw [e]; exact h1), e, e0]
theorem own_sa {Z : State} {a0 : Array Value} (hw : ∀ d ∈ tables_1, d.before a0 Z = true) : ∀ a ∈ Bundle.stringAtoms, a.before a0 Z = true := by
  intro a ha
  simp only [Bundle.stringAtoms, Bundle.sN, List.mem_cons, List.not_mem_nil, or_false] at ha
  rcases ha with rfl | rfl | rfl | rfl | rfl | rfl | rfl
  · exact (hw _ (List.mem_of_getElem? (i := 8) rfl))
  · exact (hw _ (List.mem_of_getElem? (i := 7) rfl))
  · exact (hw _ (List.mem_of_getElem? (i := 24) rfl))
  · exact (hw _ (List.mem_of_getElem? (i := 34) rfl))
  · exact (hw _ (List.mem_of_getElem? (i := 32) rfl))
  · exact (hw _ (List.mem_of_getElem? (i := 48) rfl))
  · exact (hw _ (List.mem_of_getElem? (i := 49) rfl))
open Jvm.FP.Core in
theorem own_fin {x : UInt64} (h : DFin x) {v : Int32} (hv : cmpValue (FP.dcmp (x &&& 0x7fffffffffffffff) (9218868437227405311 : UInt64)) .g = v) : ¬ v > 0 := by
  subst hv
  rcases (le_max h.notNaN).mpr h with q | q
  · rw [show FP.dcmp (x &&& 0x7fffffffffffffff) (9218868437227405311 : UInt64) = some .lt from q]; decide
  · rw [show FP.dcmp (x &&& 0x7fffffffffffffff) (9218868437227405311 : UInt64) = some .eq from q]; decide
open Jvm.FP.Core in
theorem own_z0 : Dy 0 0 (0 : UInt64) := Dy.lit (by decide) (by decide +kernel)
theorem own_pd {n : Int} {x : UInt64} (h : Dy n 0 x) : cmpValue (FP.dcmp x 0) .l = cmpI n 0 := Dy.cl h own_z0 .l
theorem own_c1 {n : Int} (h : 0 < n) : cmpI n 0 = 1 := by unfold cmpI; rw [if_neg (by omega), if_neg (by omega)]
open Jvm.FP.Core in
theorem own_v16 : Dy 1 16 (4535124824762089472 : UInt64) := Dy.lit (by decide) (by decide +kernel)
open Jvm.FP.Core in
theorem own_wp {n m : Int} {x y w : UInt64} (hx : Dy n 0 x) (hy : Dy m 0 y) (h1 : 1 ≤ n) (h2 : 1 ≤ m ∧ m ≤ 65536) (hw : FP.ddiv x y = w) : cmpValue (FP.dcmp w 0) .l = 1 := by
  subst hw
  obtain ⟨V, hV⟩ : ∃ V : UInt64, V = 4535124824762089472 := ⟨_, rfl⟩
  have dV : Dy 1 16 V := by rw [hV]; exact own_v16
  have g := div_ge hx hy (by omega) dV (by
    have e0 : ((2 ^ 0 : Nat) : Int) = 1 := by decide
    have e1 : ((2 ^ 16 : Nat) : Int) = 65536 := by decide
    rw [e0, e1]; omega)
  have f := div_whole hx hy (by omega : 0 < m)
  have e : zv V * ((2 ^ 16 : Nat) : Int) = 1 * (one64 : Int) := dV.2
  have ho := one64_pos
  have pv : 0 < zv V := by
    have e1 : ((2 ^ 16 : Nat) : Int) = 65536 := by decide
    rw [e1] at e; omega
  rw [Zc f own_z0.1 .l, show zv (0 : UInt64) = 0 from zval64_zero]
  exact own_c1 (by omega)
theorem own_c01 {n : Int} (h : 0 ≤ n) : cmpI n 0 = 0 ∨ cmpI n 0 = 1 := by
  unfold cmpI
  rw [if_neg (by omega)]
  by_cases q : n = 0
  · rw [if_pos q]; exact Or.inl rfl
  · rw [if_neg q]; exact Or.inr rfl
theorem own_one : Dy 1 0 (4607182418800017408 : UInt64) := Dy.lit (by decide) (by decide +kernel)
theorem pd_0 : parseMethodDescriptor "([CI[BII)I" = some ⟨[(.array .char), .int, (.array .byte), .int, .int], some .int⟩ := by decide +kernel
theorem pd_1 : parseMethodDescriptor "([CII)[B" = some ⟨[(.array .char), .int, .int], some (.array .byte)⟩ := by decide +kernel
theorem pd_2 : parseMethodDescriptor "([BI)B" = some ⟨[(.array .byte), .int], some .byte⟩ := by decide +kernel
theorem pd_3 : parseMethodDescriptor "([CIILjava/lang/Void;)V" = some ⟨[(.array .char), .int, .int, (.object "java/lang/Void")], none⟩ := by decide +kernel
theorem pd_4 : parseMethodDescriptor "()V" = some ⟨[], none⟩ := by decide +kernel
theorem pd_5 : parseMethodDescriptor "(Ljava/lang/Object;Ljava/lang/String;)Ljava/lang/Object;" = some ⟨[(.object "java/lang/Object"), (.object "java/lang/String")], some (.object "java/lang/Object")⟩ := by decide +kernel
theorem pd_6 : parseMethodDescriptor "(D)Z" = some ⟨[.double], some .boolean⟩ := by decide +kernel
theorem pd_7 : parseMethodDescriptor "()I" = some ⟨[], some .int⟩ := by decide +kernel
theorem pd_8 : parseMethodDescriptor "()D" = some ⟨[], some .double⟩ := by decide +kernel
theorem pd_9 : parseMethodDescriptor "([C)V" = some ⟨[(.array .char)], none⟩ := by decide +kernel
theorem pd_10 : parseMethodDescriptor "(Ljava/lang/String;IIDDD)V" = some ⟨[(.object "java/lang/String"), .int, .int, .double, .double, .double], none⟩ := by decide +kernel
theorem pd_11 : parseMethodDescriptor "(Lcom/example/hublane/hublane/core/Arc;)D" = some ⟨[(.object "com/example/hublane/hublane/core/Arc")], some .double⟩ := by decide +kernel
theorem own_lit0 : Dy (0) 0 (0 : UInt64) := Dy.lit (by decide) (by decide +kernel)
theorem own_lit4607182418800017408 : Dy (1) 0 (4607182418800017408 : UInt64) := Dy.lit (by decide) (by decide +kernel)
theorem pn_5 : plainFor (⟨"java/lang/StringUTF16", "compress", "([CI[BII)I"⟩ : MethodName) = true := by decide +kernel
theorem pn_4 : plainFor (⟨"java/lang/StringUTF16", "compress", "([CII)[B"⟩ : MethodName) = true := by decide +kernel
theorem pn_6 : plainFor (⟨"java/lang/StringUTF16", "coderFromArrayLen", "([BI)B"⟩ : MethodName) = true := by decide +kernel
theorem pn_2 : plainFor (⟨"java/lang/String", "<init>", "([CIILjava/lang/Void;)V"⟩ : MethodName) = true := by decide +kernel
theorem pn_1 : plainFor (⟨"java/lang/String", "<init>", "([C)V"⟩ : MethodName) = true := by decide +kernel
theorem pn_8 : plainFor (⟨"java/lang/Record", "<init>", "()V"⟩ : MethodName) = true := by decide +kernel
theorem pn_9 : plainFor (⟨"java/util/Objects", "requireNonNull", "(Ljava/lang/Object;Ljava/lang/String;)Ljava/lang/Object;"⟩ : MethodName) = true := by decide +kernel
theorem pn_10 : plainFor (⟨"java/lang/Double", "isFinite", "(D)Z"⟩ : MethodName) = true := by decide +kernel
theorem pn_7 : plainFor (⟨"com/example/hublane/hublane/core/Arc", "<init>", "(Ljava/lang/String;IIDDD)V"⟩ : MethodName) = true := by decide +kernel
theorem pn_13 : plainFor (⟨"java/lang/Enum", "ordinal", "()I"⟩ : MethodName) = true := by decide +kernel
theorem pn_14 : plainFor (⟨"com/example/hublane/hublane/core/Arc", "weight", "()D"⟩ : MethodName) = true := by decide +kernel
theorem pn_12 : plainFor (⟨"com/example/hublane/hublane/core/Metric", "length", "(Lcom/example/hublane/hublane/core/Arc;)D"⟩ : MethodName) = true := by decide +kernel
theorem pn_0 : plainFor x = true := by decide +kernel
theorem d5_0 : decode jdk_52_method_21_code 0 = .ok (.iconst 0, 1) := by decide +kernel
theorem d5_1 : decode jdk_52_method_21_code 1 = .ok (.istore 5, 2) := by decide +kernel
theorem d5_3 : decode jdk_52_method_21_code 3 = .ok (.iload 5, 2) := by decide +kernel
theorem d5_5 : decode jdk_52_method_21_code 5 = .ok (.iload 4, 2) := by decide +kernel
theorem d5_7 : decode jdk_52_method_21_code 7 = .ok (.if_icmp .ge 37, 3) := by decide +kernel
theorem d5_10 : decode jdk_52_method_21_code 10 = .ok (.aload_n 0, 1) := by decide +kernel
theorem d5_11 : decode jdk_52_method_21_code 11 = .ok (.iload_n 1, 1) := by decide +kernel
theorem d5_12 : decode jdk_52_method_21_code 12 = .ok (.caload, 1) := by decide +kernel
theorem d5_13 : decode jdk_52_method_21_code 13 = .ok (.istore 6, 2) := by decide +kernel
theorem d5_15 : decode jdk_52_method_21_code 15 = .ok (.iload 6, 2) := by decide +kernel
theorem d5_17 : decode jdk_52_method_21_code 17 = .ok (.sipush 255, 3) := by decide +kernel
theorem d5_20 : decode jdk_52_method_21_code 20 = .ok (.if_icmp .le 6, 3) := by decide +kernel
theorem d5_23 : decode jdk_52_method_21_code 23 = .ok (.iload 5, 2) := by decide +kernel
theorem d5_25 : decode jdk_52_method_21_code 25 = .ok (.ireturn, 1) := by decide +kernel
theorem d5_26 : decode jdk_52_method_21_code 26 = .ok (.aload_n 2, 1) := by decide +kernel
theorem d5_27 : decode jdk_52_method_21_code 27 = .ok (.iload_n 3, 1) := by decide +kernel
theorem d5_28 : decode jdk_52_method_21_code 28 = .ok (.iload 6, 2) := by decide +kernel
theorem d5_30 : decode jdk_52_method_21_code 30 = .ok (.i2b, 1) := by decide +kernel
theorem d5_31 : decode jdk_52_method_21_code 31 = .ok (.bastore, 1) := by decide +kernel
theorem d5_32 : decode jdk_52_method_21_code 32 = .ok (.iinc 1 1, 3) := by decide +kernel
theorem d5_35 : decode jdk_52_method_21_code 35 = .ok (.iinc 3 1, 3) := by decide +kernel
theorem d5_38 : decode jdk_52_method_21_code 38 = .ok (.iinc 5 1, 3) := by decide +kernel
theorem d5_41 : decode jdk_52_method_21_code 41 = .ok (.goto (-38), 3) := by decide +kernel
theorem d5_44 : decode jdk_52_method_21_code 44 = .ok (.iload 4, 2) := by decide +kernel
theorem d5_46 : decode jdk_52_method_21_code 46 = .ok (.ireturn, 1) := by decide +kernel
theorem ef_c_cmp5_1 (m : MethodId) (x0 : Addr) (x1 : Int32) (x2 : Addr) (x3 : Int32) (x4 : Int32) : entryFrame m #[(.ref x0), (.int x1), (.ref x2), (.int x3), (.int x4)] 7 = mkF m 0 #[.val (.ref x0), .val (.int x1), .val (.ref x2), .val (.int x3), .val (.int x4), .unset, .unset] [] := by first | (simp [entryFrame, mkF, argsToLocals, Value.category, maxLocals]; done) | rfl
set_option maxRecDepth 65536 in
set_option maxHeartbeats 40000000 in
theorem c_cmp5_1 (l : Launch) (Z : State) (a0 : Array Value) (hw : ∀ d ∈ tables_1, d.before a0 Z = true) (ws : List Jvm.Cond) (a d : Addr) (c0 : Int32) (h0 : Heap) (n0 : Nat) (Z0 : n0 ≤ h0.size) (A : Ars Z h0 a .char [(.int c0)]) (D : Ars Z h0 d .byte [(.int 0)]) (hne : a ≠ d) (gd : n0 ≤ d) (C0 : 0 ≤ c0.toInt ∧ c0.toInt ≤ 255) :
    Ctr l Z (⟨"java/lang/StringUTF16", "compress", "([CI[BII)I"⟩ : MethodName) jdk_52_method_21_code 7 (some .int) ws ({ frames := 0, cells := 0, slots := 0, locals := 0 } : Room) #[(.ref a), (.int (0 : Int32)), (.ref d), (.int (0 : Int32)), (.int (1 : Int32))] h0 (fun v h L => v = some (.int 1) ∧ Fr n0 L ∧ Keep h0 h [d] ∧ Ars Z h d .byte [(.int c0.toInt8.toInt32)]) := by
  refine enter pn_5 ?_
  intro p e s m below meth c T0 X0 hx hby hml hret hlk hZ hown hnm e0
  have A0 := wk X0 hx hby
  have N0 := Fr.nil n0
  refine goIn (ef_c_cmp5_1 m a (0 : Int32) d (0 : Int32) (1 : Int32)) ?_
  show Go p e below m (Fini s 0 0 (fun v h L => v = some (.int 1) ∧ Fr n0 L ∧ Keep h0 h [d] ∧ Ars Z h d .byte [(.int c0.toInt8.toInt32)])) T0 0 #[.val (.ref a), .val (.int (0 : Int32)), .val (.ref d), .val (.int (0 : Int32)), .val (.int (1 : Int32)), .unset, .unset] []
  refine s_iconst A0 d5_0 (pc' := 1) rfl (v := (0 : Int32)) (by decide) ?_
  refine s_istore A0 d5_1 (pc' := 3) rfl (ls' := #[.val (.ref a), .val (.int (0 : Int32)), .val (.ref d), .val (.int (0 : Int32)), .val (.int (1 : Int32)), .val (.int (0 : Int32)), .unset]) rfl ?_
  refine s_iload A0 d5_3 (pc' := 5) rfl rfl ?_
  refine s_iload A0 d5_5 (pc' := 7) rfl rfl ?_
  refine s_icmpge A0 d5_7 (pY := 44) (pN := 10) (by decide) (by decide) rfl (fun c => absurd c (by decide)) (fun _ => ?_)
  refine s_aloadN A0 d5_10 (pc' := 11) rfl rfl rfl ?_
  refine s_iloadN A0 d5_11 (pc' := 12) rfl rfl ?_
  refine g_caload X0 hx hZ e0 A (by decide) (i := 0) (by decide) (v := (.int c0)) rfl (hb hby d5_12) (pc' := 13) rfl ?_
  refine s_istore A0 d5_13 (pc' := 15) rfl (ls' := #[.val (.ref a), .val (.int (0 : Int32)), .val (.ref d), .val (.int (0 : Int32)), .val (.int (1 : Int32)), .val (.int (0 : Int32)), .val (.int c0)]) rfl ?_
  refine s_iload A0 d5_15 (pc' := 17) rfl rfl ?_
  refine s_sipush A0 d5_17 (pc' := 20) rfl (v := (255 : Int32)) (by decide) ?_
  refine s_icmple A0 d5_20 (pY := 26) (pN := 23) (by decide) (by decide) rfl ?_ ?_
  · intro c20
    replace c20 := i_le c20
    rw [show (255 : Int32).toInt = 255 from by decide] at c20
    refine s_aloadN A0 d5_26 (pc' := 27) rfl rfl rfl ?_
    refine s_iloadN A0 d5_27 (pc' := 28) rfl rfl ?_
    refine s_iload A0 d5_28 (pc' := 30) rfl rfl ?_
    refine s_i2b A0 d5_30 (pc' := 31) rfl rfl ?_
    refine g_bastore X0 hx hZ e0 D (by decide) (i := 0) (by decide) (by simp) (v := (.int c0.toInt8.toInt32)) (congrArg Value.int (own_narb c0)) (hb hby d5_31) (pc' := 32) rfl ?_
    intro T1 h1 X1 e1 W1 Ar1
    have A1 := wk X1 hx hby
    have Ar1 : Ars Z h1 d .byte [(.int c0.toInt8.toInt32)] := Ar1
    have kp2 := Keep.wr (Keep.refl h0 [d]) W1 (Or.inl (List.mem_of_getElem? (i := 0) rfl))
    have fr2 := Fr.snoc X1 N0 gd
    refine s_iinc A1 d5_32 (pc' := 35) rfl (v := (1 : Int32)) (ls' := #[.val (.ref a), .val (.int (1 : Int32)), .val (.ref d), .val (.int (0 : Int32)), .val (.int (1 : Int32)), .val (.int (0 : Int32)), .val (.int c0)]) rfl (by decide) rfl ?_
    refine s_iinc A1 d5_35 (pc' := 38) rfl (v := (1 : Int32)) (ls' := #[.val (.ref a), .val (.int (1 : Int32)), .val (.ref d), .val (.int (1 : Int32)), .val (.int (1 : Int32)), .val (.int (0 : Int32)), .val (.int c0)]) rfl (by decide) rfl ?_
    refine s_iinc A1 d5_38 (pc' := 41) rfl (v := (1 : Int32)) (ls' := #[.val (.ref a), .val (.int (1 : Int32)), .val (.ref d), .val (.int (1 : Int32)), .val (.int (1 : Int32)), .val (.int (1 : Int32)), .val (.int c0)]) rfl (by decide) rfl ?_
    refine s_goto A1 d5_41 (pc' := 3) (by decide) (by decide) ?_
    refine s_iload A1 d5_3 (pc' := 5) rfl rfl ?_
    refine s_iload A1 d5_5 (pc' := 7) rfl rfl ?_
    refine s_icmpge A1 d5_7 (pY := 44) (pN := 10) (by decide) (by decide) rfl (fun _ => ?_) (fun c => absurd c (by decide))
    refine s_iload A1 d5_44 (pc' := 46) rfl rfl ?_
    exact g_retI X1 hx hlk hret (hb hby d5_46) (by rw [e1]; exact ⟨rfl, fr2, kp2, Ar1⟩) (by decide) (by decide)
  · intro c20
    replace c20 := i_gt c20
    rw [show (255 : Int32).toInt = 255 from by decide] at c20
    exfalso; omega
theorem d4_0 : decode jdk_52_method_16_code 0 = .ok (.iload_n 2, 1) := by decide +kernel
theorem d4_1 : decode jdk_52_method_16_code 1 = .ok (.newarray .byte, 2) := by decide +kernel
theorem d4_3 : decode jdk_52_method_16_code 3 = .ok (.astore_n 3, 1) := by decide +kernel
theorem d4_4 : decode jdk_52_method_16_code 4 = .ok (.aload_n 0, 1) := by decide +kernel
theorem d4_5 : decode jdk_52_method_16_code 5 = .ok (.iload_n 1, 1) := by decide +kernel
theorem d4_6 : decode jdk_52_method_16_code 6 = .ok (.aload_n 3, 1) := by decide +kernel
theorem d4_7 : decode jdk_52_method_16_code 7 = .ok (.iconst 0, 1) := by decide +kernel
theorem d4_8 : decode jdk_52_method_16_code 8 = .ok (.iload_n 2, 1) := by decide +kernel
theorem d4_9 : decode jdk_52_method_16_code 9 = .ok (.invokestatic 115, 3) := by decide +kernel
theorem d4_12 : decode jdk_52_method_16_code 12 = .ok (.istore 4, 2) := by decide +kernel
theorem d4_14 : decode jdk_52_method_16_code 14 = .ok (.iload 4, 2) := by decide +kernel
theorem d4_16 : decode jdk_52_method_16_code 16 = .ok (.iload_n 2, 1) := by decide +kernel
theorem d4_17 : decode jdk_52_method_16_code 17 = .ok (.if_icmp .eq 40, 3) := by decide +kernel
theorem d4_20 : decode jdk_52_method_16_code 20 = .ok (.aload_n 0, 1) := by decide +kernel
theorem d4_21 : decode jdk_52_method_16_code 21 = .ok (.iload_n 1, 1) := by decide +kernel
theorem d4_22 : decode jdk_52_method_16_code 22 = .ok (.iload_n 2, 1) := by decide +kernel
theorem d4_23 : decode jdk_52_method_16_code 23 = .ok (.invokestatic 119, 3) := by decide +kernel
theorem d4_26 : decode jdk_52_method_16_code 26 = .ok (.astore 5, 2) := by decide +kernel
theorem d4_28 : decode jdk_52_method_16_code 28 = .ok (.aload 5, 2) := by decide +kernel
theorem d4_30 : decode jdk_52_method_16_code 30 = .ok (.iload 4, 2) := by decide +kernel
theorem d4_32 : decode jdk_52_method_16_code 32 = .ok (.invokestatic 71, 3) := by decide +kernel
theorem d4_35 : decode jdk_52_method_16_code 35 = .ok (.sipush 255, 3) := by decide +kernel
theorem d4_38 : decode jdk_52_method_16_code 38 = .ok (.if_icmp .gt 16, 3) := by decide +kernel
theorem d4_41 : decode jdk_52_method_16_code 41 = .ok (.aload 5, 2) := by decide +kernel
theorem d4_43 : decode jdk_52_method_16_code 43 = .ok (.iconst 0, 1) := by decide +kernel
theorem d4_44 : decode jdk_52_method_16_code 44 = .ok (.aload_n 3, 1) := by decide +kernel
theorem d4_45 : decode jdk_52_method_16_code 45 = .ok (.iconst 0, 1) := by decide +kernel
theorem d4_46 : decode jdk_52_method_16_code 46 = .ok (.iload_n 2, 1) := by decide +kernel
theorem d4_47 : decode jdk_52_method_16_code 47 = .ok (.invokestatic 123, 3) := by decide +kernel
theorem d4_50 : decode jdk_52_method_16_code 50 = .ok (.iload_n 2, 1) := by decide +kernel
theorem d4_51 : decode jdk_52_method_16_code 51 = .ok (.if_icmp .eq 6, 3) := by decide +kernel
theorem d4_54 : decode jdk_52_method_16_code 54 = .ok (.aload 5, 2) := by decide +kernel
theorem d4_56 : decode jdk_52_method_16_code 56 = .ok (.areturn, 1) := by decide +kernel
theorem d4_57 : decode jdk_52_method_16_code 57 = .ok (.aload_n 3, 1) := by decide +kernel
theorem d4_58 : decode jdk_52_method_16_code 58 = .ok (.areturn, 1) := by decide +kernel
theorem ef_c_cmp3_1 (m : MethodId) (x0 : Addr) (x1 : Int32) (x2 : Int32) : entryFrame m #[(.ref x0), (.int x1), (.int x2)] 6 = mkF m 0 #[.val (.ref x0), .val (.int x1), .val (.int x2), .unset, .unset, .unset] [] := by first | (simp [entryFrame, mkF, argsToLocals, Value.category, maxLocals]; done) | rfl
set_option maxRecDepth 65536 in
set_option maxHeartbeats 40000000 in
theorem c_cmp3_1 (l : Launch) (Z : State) (a0 : Array Value) (hw : ∀ d ∈ tables_1, d.before a0 Z = true) (ws : List Jvm.Cond) (a : Addr) (c0 : Int32) (h0 : Heap) (n0 : Nat) (Z0 : n0 ≤ h0.size) (A : Ars Z h0 a .char [(.int c0)]) (C0 : 0 ≤ c0.toInt ∧ c0.toInt ≤ 255) :
    Ctr l Z (⟨"java/lang/StringUTF16", "compress", "([CII)[B"⟩ : MethodName) jdk_52_method_16_code 6 (some (.array .byte)) ws ({ frames := 1, cells := 1, slots := 1, locals := 18 } : Room) #[(.ref a), (.int (0 : Int32)), (.int (1 : Int32))] h0 (fun v h L => ∃ d, v = some (.ref d) ∧ Fr n0 L ∧ Keep h0 h [] ∧ Ars Z h d .byte [(.int c0.toInt8.toInt32)] ∧ h0.size ≤ d) := by
  refine enter pn_4 ?_
  intro p e s m below meth c T0 X0 hx hby hml hret hlk hZ hown hnm e0
  have A0 := wk X0 hx hby
  have N0 := Fr.nil n0
  refine goIn (ef_c_cmp3_1 m a (0 : Int32) (1 : Int32)) ?_
  show Go p e below m (Fini s 1 1 (fun v h L => ∃ d, v = some (.ref d) ∧ Fr n0 L ∧ Keep h0 h [] ∧ Ars Z h d .byte [(.int c0.toInt8.toInt32)] ∧ h0.size ≤ d)) T0 0 #[.val (.ref a), .val (.int (0 : Int32)), .val (.int (1 : Int32)), .unset, .unset, .unset] []
  refine s_iloadN A0 d4_0 (pc' := 1) rfl rfl ?_
  refine g_newarray X0 hx hZ e0 (hw _ (List.mem_of_getElem? (i := 24) rfl)) (by decide) (k0 := 1) (by decide) (by decide) (by decide) (by decide) (ad := "[B") (by decide) rfl (hb hby d4_1) (pc' := 3) rfl ?_
  intro T1 h1 a1 X1 e1 E1 ga1 Ar1 Ex1
  have A1 := wk X1 hx hby
  have Ar1 : Ars Z h1 a1 .byte [(.int 0)] := Ar1
  have la2 : a1 < h1.size := Ex1.lt
  have kp3 := Keep.ext (Keep.refl h0 []) E1
  refine s_astoreN A1 d4_3 (pc' := 4) rfl (ls' := #[.val (.ref a), .val (.int (0 : Int32)), .val (.int (1 : Int32)), .val (.ref a1), .unset, .unset]) rfl rfl ?_
  refine s_aloadN A1 d4_4 (pc' := 5) rfl rfl rfl ?_
  refine s_iloadN A1 d4_5 (pc' := 6) rfl rfl ?_
  refine s_aloadN A1 d4_6 (pc' := 7) rfl rfl rfl ?_
  refine s_iconst A1 d4_7 (pc' := 8) rfl (v := (0 : Int32)) (by decide) ?_
  refine s_iloadN A1 d4_8 (pc' := 9) rfl rfl ?_
  have f4 := (Ars.ext E1 A)
  have ge6 : h0.size ≤ a1 := by rw [ga1]; exact (Nat.le_refl _)
  have gn5 : n0 ≤ a1 := Nat.le_trans Z0 ge6
  have ne7 : a ≠ a1 := by rw [ga1]; exact Nat.ne_of_lt (Nat.lt_of_lt_of_le A.lt (Nat.le_refl _))
  have sz9 : h0.size ≤ h1.size := E1.1
  have zs8 : n0 ≤ h1.size := Nat.le_trans Z0 sz9
  refine g_static X1 hx hZ (y := (⟨"java/lang/StringUTF16", "compress", "([CI[BII)I"⟩ : MethodName)) hown (hw _ (List.mem_of_getElem? (i := 25) rfl)) (hw _ (List.mem_of_getElem? (i := 26) rfl)) (hw _ (List.mem_of_getElem? (i := 22) rfl)) (hw _ (List.mem_of_getElem? (i := 27) rfl)) (by decide) (argsL := [(.ref a), (.int (0 : Int32)), (.ref a1), (.int (0 : Int32)), (.int (1 : Int32))]) (rest := []) (c_cmp5_1 l Z a0 hw [] a a1 c0 h1 n0 zs8 f4 Ar1 ne7 gn5 C0) pd_0 rfl rfl (hb hby d4_9) e1 (by rw [hml]; rfl) (pc' := 12) rfl (by decide) (W := 0) (Nat.le_of_eq rfl) (by decide) (by decide) (by decide) ?_
  intro v10 T10 L10 X10 hQ10
  have A10 := wk X10 hx hby
  have e10 : T10.heap = T10.heap := rfl
  obtain ⟨rfl, N10, K10, Ar10⟩ := hQ10
  have kp11 := Keep.trans kp3 K10 (allS (P := fun x => x ∈ [] ∨ h0.size ≤ x) (Or.inr ge6) all0)
  have fr10 := Fr.app N0 N10
  show Go p e below m (Fini s 1 1 (fun v h L => ∃ d, v = some (.ref d) ∧ Fr n0 L ∧ Keep h0 h [] ∧ Ars Z h d .byte [(.int c0.toInt8.toInt32)] ∧ h0.size ≤ d)) T10 12 #[.val (.ref a), .val (.int (0 : Int32)), .val (.int (1 : Int32)), .val (.ref a1), .unset, .unset] [(.int (1 : Int32))]
  refine s_istore A10 d4_12 (pc' := 14) rfl (ls' := #[.val (.ref a), .val (.int (0 : Int32)), .val (.int (1 : Int32)), .val (.ref a1), .val (.int (1 : Int32)), .unset]) rfl ?_
  refine s_iload A10 d4_14 (pc' := 16) rfl rfl ?_
  refine s_iloadN A10 d4_16 (pc' := 17) rfl rfl ?_
  refine s_icmpeq A10 d4_17 (pY := 57) (pN := 20) (by decide) (by decide) rfl (fun _ => ?_) (fun c => absurd c (by decide))
  refine s_aloadN A10 d4_57 (pc' := 58) rfl rfl rfl ?_
  exact g_retA X10 hx hlk hret rfl rfl rfl (hb hby d4_58) (by rw [e10]; exact ⟨_, rfl, fr10, kp11, Ar10, ge6⟩) (by decide) (by decide)
theorem d6_0 : decode jdk_52_method_15_code 0 = .ok (.iload_n 1, 1) := by decide +kernel
theorem d6_1 : decode jdk_52_method_15_code 1 = .ok (.aload_n 0, 1) := by decide +kernel
theorem d6_2 : decode jdk_52_method_15_code 2 = .ok (.arraylength, 1) := by decide +kernel
theorem d6_3 : decode jdk_52_method_15_code 3 = .ok (.isub, 1) := by decide +kernel
theorem d6_4 : decode jdk_52_method_15_code 4 = .ok (.bipush 31, 2) := by decide +kernel
theorem d6_6 : decode jdk_52_method_15_code 6 = .ok (.iushr, 1) := by decide +kernel
theorem d6_7 : decode jdk_52_method_15_code 7 = .ok (.i2b, 1) := by decide +kernel
theorem d6_8 : decode jdk_52_method_15_code 8 = .ok (.ireturn, 1) := by decide +kernel
theorem ef_c_codl_1 (m : MethodId) (x0 : Addr) (x1 : Int32) : entryFrame m #[(.ref x0), (.int x1)] 2 = mkF m 0 #[.val (.ref x0), .val (.int x1)] [] := by first | (simp [entryFrame, mkF, argsToLocals, Value.category, maxLocals]; done) | rfl
set_option maxRecDepth 65536 in
set_option maxHeartbeats 40000000 in
theorem c_codl_1 (l : Launch) (Z : State) (a0 : Array Value) (hw : ∀ d ∈ tables_1, d.before a0 Z = true) (ws : List Jvm.Cond) (d : Addr) (c0 : Int32) (h0 : Heap) (n0 : Nat) (Z0 : n0 ≤ h0.size) (D : Ars Z h0 d .byte [(.int c0.toInt8.toInt32)]) :
    Ctr l Z (⟨"java/lang/StringUTF16", "coderFromArrayLen", "([BI)B"⟩ : MethodName) jdk_52_method_15_code 2 (some .byte) ws ({ frames := 0, cells := 0, slots := 0, locals := 0 } : Room) #[(.ref d), (.int (1 : Int32))] h0 (fun v h L => v = some (.int 0) ∧ Fr n0 L ∧ h = h0) := by
  refine enter pn_6 ?_
  intro p e s m below meth c T0 X0 hx hby hml hret hlk hZ hown hnm e0
  have A0 := wk X0 hx hby
  have N0 := Fr.nil n0
  refine goIn (ef_c_codl_1 m d (1 : Int32)) ?_
  show Go p e below m (Fini s 0 0 (fun v h L => v = some (.int 0) ∧ Fr n0 L ∧ h = h0)) T0 0 #[.val (.ref d), .val (.int (1 : Int32))] []
  refine s_iloadN A0 d6_0 (pc' := 1) rfl rfl ?_
  refine s_aloadN A0 d6_1 (pc' := 2) rfl rfl rfl ?_
  refine g_len X0 hx hZ e0 D (n := (1 : Int32)) rfl (hb hby d6_2) (pc' := 3) rfl ?_
  refine s_isub A0 d6_3 (pc' := 4) rfl (v := (0 : Int32)) (by decide) ?_
  refine s_bipush A0 d6_4 (pc' := 6) rfl (v := (31 : Int32)) (by decide) ?_
  refine s_iushr A0 d6_6 (pc' := 7) rfl (v := (0 : Int32)) (by decide) ?_
  refine s_i2b A0 d6_7 (pc' := 8) rfl (v := (0 : Int32)) (by decide) ?_
  exact g_ret X0 hx hlk hret rfl (Or.inl ⟨rfl, by simp, _, rfl⟩) (hb hby d6_8) ⟨rfl, N0, e0⟩ (by decide) (by decide)
theorem d2_0 : decode jdk_42_method_149_code 0 = .ok (.aload_n 0, 1) := by decide +kernel
theorem d2_1 : decode jdk_42_method_149_code 1 = .ok (.invokespecial 1, 3) := by decide +kernel
theorem d2_4 : decode jdk_42_method_149_code 4 = .ok (.iload_n 3, 1) := by decide +kernel
theorem d2_5 : decode jdk_42_method_149_code 5 = .ok (.ifCond .ne 22, 3) := by decide +kernel
theorem d2_8 : decode jdk_42_method_149_code 8 = .ok (.aload_n 0, 1) := by decide +kernel
theorem d2_9 : decode jdk_42_method_149_code 9 = .ok (.ldc 7, 2) := by decide +kernel
theorem d2_11 : decode jdk_42_method_149_code 11 = .ok (.getfield 9, 3) := by decide +kernel
theorem d2_14 : decode jdk_42_method_149_code 14 = .ok (.putfield 9, 3) := by decide +kernel
theorem d2_17 : decode jdk_42_method_149_code 17 = .ok (.aload_n 0, 1) := by decide +kernel
theorem d2_18 : decode jdk_42_method_149_code 18 = .ok (.ldc 7, 2) := by decide +kernel
theorem d2_20 : decode jdk_42_method_149_code 20 = .ok (.getfield 15, 3) := by decide +kernel
theorem d2_23 : decode jdk_42_method_149_code 23 = .ok (.putfield 15, 3) := by decide +kernel
theorem d2_26 : decode jdk_42_method_149_code 26 = .ok (.return_, 1) := by decide +kernel
theorem d2_27 : decode jdk_42_method_149_code 27 = .ok (.getstatic 38, 3) := by decide +kernel
theorem d2_30 : decode jdk_42_method_149_code 30 = .ok (.ifCond .eq 28, 3) := by decide +kernel
theorem d2_33 : decode jdk_42_method_149_code 33 = .ok (.aload_n 1, 1) := by decide +kernel
theorem d2_34 : decode jdk_42_method_149_code 34 = .ok (.iload_n 2, 1) := by decide +kernel
theorem d2_35 : decode jdk_42_method_149_code 35 = .ok (.iload_n 3, 1) := by decide +kernel
theorem d2_36 : decode jdk_42_method_149_code 36 = .ok (.invokestatic 177, 3) := by decide +kernel
theorem d2_39 : decode jdk_42_method_149_code 39 = .ok (.astore 5, 2) := by decide +kernel
theorem d2_41 : decode jdk_42_method_149_code 41 = .ok (.aload_n 0, 1) := by decide +kernel
theorem d2_42 : decode jdk_42_method_149_code 42 = .ok (.aload 5, 2) := by decide +kernel
theorem d2_44 : decode jdk_42_method_149_code 44 = .ok (.iload_n 3, 1) := by decide +kernel
theorem d2_45 : decode jdk_42_method_149_code 45 = .ok (.invokestatic 47, 3) := by decide +kernel
theorem d2_48 : decode jdk_42_method_149_code 48 = .ok (.putfield 15, 3) := by decide +kernel
theorem d2_51 : decode jdk_42_method_149_code 51 = .ok (.aload_n 0, 1) := by decide +kernel
theorem d2_52 : decode jdk_42_method_149_code 52 = .ok (.aload 5, 2) := by decide +kernel
theorem d2_54 : decode jdk_42_method_149_code 54 = .ok (.putfield 9, 3) := by decide +kernel
theorem d2_57 : decode jdk_42_method_149_code 57 = .ok (.return_, 1) := by decide +kernel
theorem d2_58 : decode jdk_42_method_149_code 58 = .ok (.aload_n 0, 1) := by decide +kernel
theorem d2_59 : decode jdk_42_method_149_code 59 = .ok (.iconst 1, 1) := by decide +kernel
theorem d2_60 : decode jdk_42_method_149_code 60 = .ok (.putfield 15, 3) := by decide +kernel
theorem d2_63 : decode jdk_42_method_149_code 63 = .ok (.aload_n 0, 1) := by decide +kernel
theorem d2_64 : decode jdk_42_method_149_code 64 = .ok (.aload_n 1, 1) := by decide +kernel
theorem d2_65 : decode jdk_42_method_149_code 65 = .ok (.iload_n 2, 1) := by decide +kernel
theorem d2_66 : decode jdk_42_method_149_code 66 = .ok (.iload_n 3, 1) := by decide +kernel
theorem d2_67 : decode jdk_42_method_149_code 67 = .ok (.invokestatic 180, 3) := by decide +kernel
theorem d2_70 : decode jdk_42_method_149_code 70 = .ok (.putfield 9, 3) := by decide +kernel
theorem d2_73 : decode jdk_42_method_149_code 73 = .ok (.return_, 1) := by decide +kernel
theorem ef_c_init4_1 (m : MethodId) (x0 : Addr) (x1 : Addr) (x2 : Int32) (x3 : Int32) : entryFrame m #[(.ref x0), (.ref x1), (.int x2), (.int x3), .null] 6 = mkF m 0 #[.val (.ref x0), .val (.ref x1), .val (.int x2), .val (.int x3), .val .null, .unset] [] := by first | (simp [entryFrame, mkF, argsToLocals, Value.category, maxLocals]; done) | rfl
set_option maxRecDepth 65536 in
set_option maxHeartbeats 40000000 in
theorem c_init4_1 (l : Launch) (Z : State) (a0 : Array Value) (hw : ∀ d ∈ tables_1, d.before a0 Z = true) (ws : List Jvm.Cond) (a ch : Addr) (cz : Int32) (c0 : Int32) (h0 : Heap) (n0 : Nat) (Z0 : n0 ≤ h0.size) (Ea : Exa Z h0 a "java/lang/String") (ga : n0 ≤ a) (F0 : Fld Z h0 a "java/lang/String" "value" "[B" .null) (F1 : Fld Z h0 a "java/lang/String" "coder" "B" (.int 0)) (A : Ars Z h0 ch .char [(.int c0)]) (hne : a ≠ ch) (O : Old Z n0 h0) (S : Sta Z Z.heap "java/lang/String" "COMPACT_STRINGS" "Z" (.int cz)) (hcz : ¬ cz = 0) (C0 : 0 ≤ c0.toInt ∧ c0.toInt ≤ 255) :
    Ctr l Z (⟨"java/lang/String", "<init>", "([CIILjava/lang/Void;)V"⟩ : MethodName) jdk_42_method_149_code 6 none ws ({ frames := 2, cells := 1, slots := 1, locals := 35 } : Room) #[(.ref a), (.ref ch), (.int (0 : Int32)), (.int (1 : Int32)), .null] h0 (fun v h L => v = none ∧ Fr n0 L ∧ Keep h0 h [a] ∧ ∃ d, Fld Z h a "java/lang/String" "value" "[B" (.ref d) ∧ Fld Z h a "java/lang/String" "coder" "B" (.int 0) ∧ Ars Z h d .byte [(.int c0.toInt8.toInt32)] ∧ h0.size ≤ d) := by
  refine enter pn_2 ?_
  intro p e s m below meth c T0 X0 hx hby hml hret hlk hZ hown hnm e0
  have A0 := wk X0 hx hby
  have N0 := Fr.nil n0
  refine goIn (ef_c_init4_1 m a ch (0 : Int32) (1 : Int32)) ?_
  show Go p e below m (Fini s 1 1 (fun v h L => v = none ∧ Fr n0 L ∧ Keep h0 h [a] ∧ ∃ d, Fld Z h a "java/lang/String" "value" "[B" (.ref d) ∧ Fld Z h a "java/lang/String" "coder" "B" (.int 0) ∧ Ars Z h d .byte [(.int c0.toInt8.toInt32)] ∧ h0.size ≤ d)) T0 0 #[.val (.ref a), .val (.ref ch), .val (.int (0 : Int32)), .val (.int (1 : Int32)), .val .null, .unset] []
  refine s_aloadN A0 d2_0 (pc' := 1) rfl rfl rfl ?_
  refine g_initO X0 hx hZ hown (hw _ (List.mem_of_getElem? (i := 16) rfl)) (hw _ (List.mem_of_getElem? (i := 17) rfl)) (hw _ (List.mem_of_getElem? (i := 18) rfl)) e0 (by rw [hml]; rfl) (hb hby d2_1) (pc' := 4) rfl (by decide) (W := 0) (Nat.le_of_eq rfl) (by decide) ?_
  intro T1 X1 e1
  have A1 := wk X1 hx hby
  refine s_iloadN A1 d2_4 (pc' := 5) rfl rfl ?_
  refine s_ifne A1 d2_5 (pY := 27) (pN := 8) (by decide) (by decide) rfl (fun _ => ?_) (fun c => absurd c (by decide))
  have Sc := Sta.ext O.2 S
  refine g_getS X1 hx hZ hown (hw _ (List.mem_of_getElem? (i := 19) rfl)) Via.refl e1 Sc (hb hby d2_27) (pc' := 30) rfl ?_
  intro T2 X2 e2
  have A2 := wk X2 hx hby
  refine s_ifeq A2 d2_30 (pY := 58) (pN := 33) (by decide) (by decide) rfl ?_ ?_
  · intro c30
    replace c30 := iz_eq c30
    exact absurd (show cz = 0 from Int32.toInt_inj.mp c30) hcz
  · intro c30
    replace c30 := iz_ne c30
    refine s_aloadN A2 d2_33 (pc' := 34) rfl rfl rfl ?_
    refine s_iloadN A2 d2_34 (pc' := 35) rfl rfl ?_
    refine s_iloadN A2 d2_35 (pc' := 36) rfl rfl ?_
    refine g_static X2 hx hZ (y := (⟨"java/lang/StringUTF16", "compress", "([CII)[B"⟩ : MethodName)) hown (hw _ (List.mem_of_getElem? (i := 20) rfl)) (hw _ (List.mem_of_getElem? (i := 21) rfl)) (hw _ (List.mem_of_getElem? (i := 22) rfl)) (hw _ (List.mem_of_getElem? (i := 23) rfl)) (by decide) (argsL := [(.ref ch), (.int (0 : Int32)), (.int (1 : Int32))]) (rest := []) (c_cmp3_1 l Z a0 hw [] ch c0 h0 n0 Z0 A C0) pd_1 rfl rfl (hb hby d2_36) e2 (by rw [hml]; rfl) (pc' := 39) rfl (by decide) (W := 0) (Nat.le_of_eq rfl) (by decide) (by decide) (by decide) ?_
    intro v3 T3 L3 X3 hQ3
    have A3 := wk X3 hx hby
    have e3 : T3.heap = T3.heap := rfl
    obtain ⟨d, rfl, N3, K3, Ar3, gd3⟩ := hQ3
    have kp4 := Keep.trans (Keep.refl h0 [a]) K3 (fun x hx => absurd hx nin0)
    have fr3 := Fr.app N0 N3
    show Go p e below m (Fini s 1 1 (fun v h L => v = none ∧ Fr n0 L ∧ Keep h0 h [a] ∧ ∃ d, Fld Z h a "java/lang/String" "value" "[B" (.ref d) ∧ Fld Z h a "java/lang/String" "coder" "B" (.int 0) ∧ Ars Z h d .byte [(.int c0.toInt8.toInt32)] ∧ h0.size ≤ d)) T3 39 #[.val (.ref a), .val (.ref ch), .val (.int (0 : Int32)), .val (.int (1 : Int32)), .val .null, .unset] [(.ref d)]
    have gd0 : h0.size ≤ d := Nat.le_trans (Nat.le_refl _) gd3
    have nad : a ≠ d := Nat.ne_of_lt (Nat.lt_of_lt_of_le Ea.lt gd0)
    refine s_astore A3 d2_39 (pc' := 41) rfl (ls' := #[.val (.ref a), .val (.ref ch), .val (.int (0 : Int32)), .val (.int (1 : Int32)), .val .null, .val (.ref d)]) rfl rfl ?_
    refine s_aloadN A3 d2_41 (pc' := 42) rfl rfl rfl ?_
    refine s_aload A3 d2_42 (pc' := 44) rfl rfl rfl ?_
    refine s_iloadN A3 d2_44 (pc' := 45) rfl rfl ?_
    have sz6 : h0.size ≤ T3.heap.size := K3.1
    have zs5 : n0 ≤ T3.heap.size := Nat.le_trans Z0 sz6
    refine g_static X3 hx hZ (y := (⟨"java/lang/StringUTF16", "coderFromArrayLen", "([BI)B"⟩ : MethodName)) hown (hw _ (List.mem_of_getElem? (i := 28) rfl)) (hw _ (List.mem_of_getElem? (i := 29) rfl)) (hw _ (List.mem_of_getElem? (i := 22) rfl)) (hw _ (List.mem_of_getElem? (i := 30) rfl)) (by decide) (argsL := [(.ref d), (.int (1 : Int32))]) (rest := [(.ref a)]) (c_codl_1 l Z a0 hw [] d c0 T3.heap n0 zs5 Ar3) pd_2 rfl rfl (hb hby d2_45) e3 (by rw [hml]; rfl) (pc' := 48) rfl (by decide) (W := 1) (Nat.le_of_eq rfl) (by decide) (by decide) (by decide) ?_
    intro v7 T7 L7 X7 hQ7
    have A7 := wk X7 hx hby
    have e7 : T7.heap = T7.heap := rfl
    obtain ⟨rfl, N7, hh7⟩ := hQ7
    have e7 : T7.heap = T3.heap := hh7
    have fr7 := Fr.app fr3 N7
    show Go p e below m (Fini s 1 1 (fun v h L => v = none ∧ Fr n0 L ∧ Keep h0 h [a] ∧ ∃ d, Fld Z h a "java/lang/String" "value" "[B" (.ref d) ∧ Fld Z h a "java/lang/String" "coder" "B" (.int 0) ∧ Ars Z h d .byte [(.int c0.toInt8.toInt32)] ∧ h0.size ≤ d)) T7 48 #[.val (.ref a), .val (.ref ch), .val (.int (0 : Int32)), .val (.int (1 : Int32)), .val .null, .val (.ref d)] [(.int (0 : Int32)), (.ref a)]
    have f8 := (Fld.keep F1 K3 nin0)
    have f9 := (Exa.keep Ea K3)
    refine g_putF X7 hx hZ hown (hw _ (List.mem_of_getElem? (i := 31) rfl)) Via.refl e7 f8 f9 (Or.inr ⟨(hw _ (List.mem_of_getElem? (i := 32) rfl)), rfl, hnm⟩) (hw _ (List.mem_of_getElem? (i := 7) rfl)) (ty := .byte) (by decide) rfl rfl (hb hby d2_48) (pc' := 51) rfl ?_
    intro T10 h10 X10 e10 W10
    have A10 := wk X10 hx hby
    have F10 := Fld.same W10 f8
    have kp11 := Keep.wr kp4 W10 (Or.inl (List.mem_of_getElem? (i := 0) rfl))
    have fr11 := Fr.snoc X10 fr7 ga
    refine s_aloadN A10 d2_51 (pc' := 52) rfl rfl rfl ?_
    refine s_aload A10 d2_52 (pc' := 54) rfl rfl rfl ?_
    have f12 := (Fld.other W10 (Fld.keep F0 K3 nin0) (Or.inr (slot_ne (Or.inr (hw _ (List.mem_of_getElem? (i := 34) rfl))) (Or.inr (hw _ (List.mem_of_getElem? (i := 32) rfl))) (by decide) (t := (.array .byte)) (by decide) (t' := .byte) (by decide))))
    have f13 := (Exa.wr W10 f9)
    refine g_putF X10 hx hZ hown (hw _ (List.mem_of_getElem? (i := 33) rfl)) Via.refl e10 f12 f13 (Or.inr ⟨(hw _ (List.mem_of_getElem? (i := 34) rfl)), rfl, hnm⟩) (hw _ (List.mem_of_getElem? (i := 7) rfl)) (ty := (.array .byte)) (by decide) rfl rfl (hb hby d2_54) (pc' := 57) rfl ?_
    intro T14 h14 X14 e14 W14
    have A14 := wk X14 hx hby
    have F14 := Fld.same W14 f12
    have kp15 := Keep.wr kp11 W14 (Or.inl (List.mem_of_getElem? (i := 0) rfl))
    have fr15 := Fr.snoc X14 fr11 ga
    have f16 := (Fld.other W14 F10 (Or.inr (slot_ne (Or.inr (hw _ (List.mem_of_getElem? (i := 32) rfl))) (Or.inr (hw _ (List.mem_of_getElem? (i := 34) rfl))) (by decide) (t := .byte) (by decide) (t' := (.array .byte)) (by decide))))
    have f17 := (Ars.other W14 (Ars.other W10 Ar3 nad.symm) nad.symm)
    exact g_retV X14 hx hlk hret (hb hby d2_57) (by rw [e14]; exact ⟨rfl, fr15, kp15, d, F14, f16, f17, gd0⟩) (by decide) (by decide)
theorem d1_0 : decode jdk_42_method_3_code 0 = .ok (.aload_n 0, 1) := by decide +kernel
theorem d1_1 : decode jdk_42_method_3_code 1 = .ok (.aload_n 1, 1) := by decide +kernel
theorem d1_2 : decode jdk_42_method_3_code 2 = .ok (.iconst 0, 1) := by decide +kernel
theorem d1_3 : decode jdk_42_method_3_code 3 = .ok (.aload_n 1, 1) := by decide +kernel
theorem d1_4 : decode jdk_42_method_3_code 4 = .ok (.arraylength, 1) := by decide +kernel
theorem d1_5 : decode jdk_42_method_3_code 5 = .ok (.aconst_null, 1) := by decide +kernel
theorem d1_6 : decode jdk_42_method_3_code 6 = .ok (.invokespecial 27, 3) := by decide +kernel
theorem d1_9 : decode jdk_42_method_3_code 9 = .ok (.return_, 1) := by decide +kernel
theorem ef_c_str_1 (m : MethodId) (x0 : Addr) (x1 : Addr) : entryFrame m #[(.ref x0), (.ref x1)] 2 = mkF m 0 #[.val (.ref x0), .val (.ref x1)] [] := by first | (simp [entryFrame, mkF, argsToLocals, Value.category, maxLocals]; done) | rfl
set_option maxRecDepth 65536 in
set_option maxHeartbeats 40000000 in
theorem c_str_1 (l : Launch) (Z : State) (a0 : Array Value) (hw : ∀ d ∈ tables_1, d.before a0 Z = true) (ws : List Jvm.Cond) (a ch : Addr) (cz : Int32) (c0 : Int32) (h0 : Heap) (n0 : Nat) (Z0 : n0 ≤ h0.size) (Ea : Exa Z h0 a "java/lang/String") (ga : n0 ≤ a) (F0 : Fld Z h0 a "java/lang/String" "value" "[B" .null) (F1 : Fld Z h0 a "java/lang/String" "coder" "B" (.int 0)) (A : Ars Z h0 ch .char [(.int c0)]) (hne : a ≠ ch) (O : Old Z n0 h0) (S : Sta Z Z.heap "java/lang/String" "COMPACT_STRINGS" "Z" (.int cz)) (hcz : ¬ cz = 0) (C0 : 0 ≤ c0.toInt ∧ c0.toInt ≤ 255) :
    Ctr l Z (⟨"java/lang/String", "<init>", "([C)V"⟩ : MethodName) jdk_42_method_3_code 2 none ws ({ frames := 3, cells := 1, slots := 1, locals := 52 } : Room) #[(.ref a), (.ref ch)] h0 (fun v h L => v = none ∧ Fr n0 L ∧ Keep h0 h [a] ∧ ∃ d, Fld Z h a "java/lang/String" "value" "[B" (.ref d) ∧ Fld Z h a "java/lang/String" "coder" "B" (.int 0) ∧ Ars Z h d .byte [(.int c0.toInt8.toInt32)] ∧ h0.size ≤ d) := by
  refine enter pn_1 ?_
  intro p e s m below meth c T0 X0 hx hby hml hret hlk hZ hown hnm e0
  have A0 := wk X0 hx hby
  have N0 := Fr.nil n0
  refine goIn (ef_c_str_1 m a ch) ?_
  show Go p e below m (Fini s 1 1 (fun v h L => v = none ∧ Fr n0 L ∧ Keep h0 h [a] ∧ ∃ d, Fld Z h a "java/lang/String" "value" "[B" (.ref d) ∧ Fld Z h a "java/lang/String" "coder" "B" (.int 0) ∧ Ars Z h d .byte [(.int c0.toInt8.toInt32)] ∧ h0.size ≤ d)) T0 0 #[.val (.ref a), .val (.ref ch)] []
  refine s_aloadN A0 d1_0 (pc' := 1) rfl rfl rfl ?_
  refine s_aloadN A0 d1_1 (pc' := 2) rfl rfl rfl ?_
  refine s_iconst A0 d1_2 (pc' := 3) rfl (v := (0 : Int32)) (by decide) ?_
  refine s_aloadN A0 d1_3 (pc' := 4) rfl rfl rfl ?_
  refine g_len X0 hx hZ e0 A (n := (1 : Int32)) rfl (hb hby d1_4) (pc' := 5) rfl ?_
  refine s_aconstNull A0 d1_5 (pc' := 6) rfl  ?_
  refine g_special X0 hx hZ (y := (⟨"java/lang/String", "<init>", "([CIILjava/lang/Void;)V"⟩ : MethodName)) rfl hown (hw _ (List.mem_of_getElem? (i := 12) rfl)) (hw _ (List.mem_of_getElem? (i := 13) rfl)) (hw _ (List.mem_of_getElem? (i := 8) rfl)) (hw _ (List.mem_of_getElem? (i := 15) rfl)) (by decide) (a := a) (argsL := [(.ref ch), (.int (0 : Int32)), (.int (1 : Int32)), .null]) (rest := []) (c_init4_1 l Z a0 hw [] a ch cz c0 h0 n0 Z0 Ea ga F0 F1 A hne O S hcz C0) pd_3 rfl rfl (hb hby d1_6) e0 (by rw [hml]; rfl) (pc' := 9) rfl (by decide) (W := 0) (Nat.le_of_eq rfl) (by decide) (by decide) (by decide) ?_
  intro v1 T1 L1 X1 hQ1
  have A1 := wk X1 hx hby
  have e1 : T1.heap = T1.heap := rfl
  obtain ⟨rfl, N1, K1, d, V1, C1, Ar1, gd1⟩ := hQ1
  have kp2 := Keep.trans (Keep.refl h0 [a]) K1 (allS (P := fun x => x ∈ [a] ∨ h0.size ≤ x) (Or.inl (List.mem_of_getElem? (i := 0) rfl)) all0)
  have fr1 := Fr.app N0 N1
  show Go p e below m (Fini s 1 1 (fun v h L => v = none ∧ Fr n0 L ∧ Keep h0 h [a] ∧ ∃ d, Fld Z h a "java/lang/String" "value" "[B" (.ref d) ∧ Fld Z h a "java/lang/String" "coder" "B" (.int 0) ∧ Ars Z h d .byte [(.int c0.toInt8.toInt32)] ∧ h0.size ≤ d)) T1 9 #[.val (.ref a), .val (.ref ch)] []
  exact g_retV X1 hx hlk hret (hb hby d1_9) (by exact ⟨rfl, fr1, K1, d, V1, C1, Ar1, gd1⟩) (by decide) (by decide)
theorem d8_0 : decode jdk_30_method_1_code 0 = .ok (.aload_n 0, 1) := by decide +kernel
theorem d8_1 : decode jdk_30_method_1_code 1 = .ok (.invokespecial 1, 3) := by decide +kernel
theorem d8_4 : decode jdk_30_method_1_code 4 = .ok (.return_, 1) := by decide +kernel
theorem ef_c_rec (m : MethodId) (x0 : Addr) : entryFrame m #[(.ref x0)] 1 = mkF m 0 #[.val (.ref x0)] [] := by first | (simp [entryFrame, mkF, argsToLocals, Value.category, maxLocals]; done) | rfl
set_option maxRecDepth 65536 in
set_option maxHeartbeats 40000000 in
theorem c_rec (l : Launch) (Z : State) (a0 : Array Value) (hw : ∀ d ∈ tables_1, d.before a0 Z = true) (ws : List Jvm.Cond) (a : Addr) (h0 : Heap) (n0 : Nat) (Z0 : n0 ≤ h0.size)  :
    Ctr l Z (⟨"java/lang/Record", "<init>", "()V"⟩ : MethodName) jdk_30_method_1_code 1 none ws ({ frames := 1, cells := 0, slots := 0, locals := 12 } : Room) #[(.ref a)] h0 (fun v h L => v = none ∧ Fr n0 L ∧ h = h0) := by
  refine enter pn_8 ?_
  intro p e s m below meth c T0 X0 hx hby hml hret hlk hZ hown hnm e0
  have A0 := wk X0 hx hby
  have N0 := Fr.nil n0
  refine goIn (ef_c_rec m a) ?_
  show Go p e below m (Fini s 0 0 (fun v h L => v = none ∧ Fr n0 L ∧ h = h0)) T0 0 #[.val (.ref a)] []
  refine s_aloadN A0 d8_0 (pc' := 1) rfl rfl rfl ?_
  refine g_initO X0 hx hZ hown (hw _ (List.mem_of_getElem? (i := 46) rfl)) (hw _ (List.mem_of_getElem? (i := 17) rfl)) (hw _ (List.mem_of_getElem? (i := 18) rfl)) e0 (by rw [hml]; rfl) (hb hby d8_1) (pc' := 4) rfl (by decide) (W := 0) (Nat.le_of_eq rfl) (by decide) ?_
  intro T1 X1 e1
  have A1 := wk X1 hx hby
  exact g_retV X1 hx hlk hret (hb hby d8_4) ⟨rfl, N0, e1⟩ (by decide) (by decide)
theorem d9_0 : decode jdk_31_method_11_code 0 = .ok (.aload_n 0, 1) := by decide +kernel
theorem d9_1 : decode jdk_31_method_11_code 1 = .ok (.ifnonnull 12, 3) := by decide +kernel
theorem d9_13 : decode jdk_31_method_11_code 13 = .ok (.aload_n 0, 1) := by decide +kernel
theorem d9_14 : decode jdk_31_method_11_code 14 = .ok (.areturn, 1) := by decide +kernel
theorem ef_c_rnn (m : MethodId) (x0 : Addr) (x1 : Addr) : entryFrame m #[(.ref x0), (.ref x1)] 2 = mkF m 0 #[.val (.ref x0), .val (.ref x1)] [] := by first | (simp [entryFrame, mkF, argsToLocals, Value.category, maxLocals]; done) | rfl
set_option maxRecDepth 65536 in
set_option maxHeartbeats 40000000 in
theorem c_rnn (l : Launch) (Z : State) (a0 : Array Value) (hw : ∀ d ∈ tables_1, d.before a0 Z = true) (ws : List Jvm.Cond) (a b : Addr) (h0 : Heap) (n0 : Nat) (Z0 : n0 ≤ h0.size)  :
    Ctr l Z (⟨"java/util/Objects", "requireNonNull", "(Ljava/lang/Object;Ljava/lang/String;)Ljava/lang/Object;"⟩ : MethodName) jdk_31_method_11_code 2 (some (.object "java/lang/Object")) ws ({ frames := 0, cells := 0, slots := 0, locals := 0 } : Room) #[(.ref a), (.ref b)] h0 (fun v h L => v = some (.ref a) ∧ Fr n0 L ∧ h = h0) := by
  refine enter pn_9 ?_
  intro p e s m below meth c T0 X0 hx hby hml hret hlk hZ hown hnm e0
  have A0 := wk X0 hx hby
  have N0 := Fr.nil n0
  refine goIn (ef_c_rnn m a b) ?_
  show Go p e below m (Fini s 0 0 (fun v h L => v = some (.ref a) ∧ Fr n0 L ∧ h = h0)) T0 0 #[.val (.ref a), .val (.ref b)] []
  refine s_aloadN A0 d9_0 (pc' := 1) rfl rfl rfl ?_
  refine s_nonnullY A0 d9_1 (pc' := 13) (by decide) (by decide) ?_
  refine s_aloadN A0 d9_13 (pc' := 14) rfl rfl rfl ?_
  exact g_retA X0 hx hlk hret rfl rfl rfl (hb hby d9_14) ⟨rfl, N0, e0⟩ (by decide) (by decide)
theorem d10_0 : decode jdk_117_method_8_code 0 = .ok (.dload_n 0, 1) := by decide +kernel
theorem d10_1 : decode jdk_117_method_8_code 1 = .ok (.invokestatic 38, 3) := by decide +kernel
theorem d10_4 : decode jdk_117_method_8_code 4 = .ok (.ldc2_w 111, 3) := by decide +kernel
theorem d10_7 : decode jdk_117_method_8_code 7 = .ok (.dcmp .g, 1) := by decide +kernel
theorem d10_8 : decode jdk_117_method_8_code 8 = .ok (.ifCond .gt 7, 3) := by decide +kernel
theorem d10_11 : decode jdk_117_method_8_code 11 = .ok (.iconst 1, 1) := by decide +kernel
theorem d10_12 : decode jdk_117_method_8_code 12 = .ok (.goto 4, 3) := by decide +kernel
theorem d10_15 : decode jdk_117_method_8_code 15 = .ok (.iconst 0, 1) := by decide +kernel
theorem d10_16 : decode jdk_117_method_8_code 16 = .ok (.ireturn, 1) := by decide +kernel
theorem ef_c_fin (m : MethodId) (x0 : UInt64) : entryFrame m #[(.double x0)] 2 = mkF m 0 #[.val (.double x0), .second] [] := by first | (simp [entryFrame, mkF, argsToLocals, Value.category, maxLocals]; done) | rfl
set_option maxRecDepth 65536 in
set_option maxHeartbeats 40000000 in
theorem c_fin (l : Launch) (Z : State) (a0 : Array Value) (hw : ∀ d ∈ tables_1, d.before a0 Z = true) (ws : List Jvm.Cond) (x : UInt64) (h0 : Heap) (n0 : Nat) (Z0 : n0 ≤ h0.size) (fx : Jvm.FP.Core.DFin x) :
    Ctr l Z (⟨"java/lang/Double", "isFinite", "(D)Z"⟩ : MethodName) jdk_117_method_8_code 2 (some .boolean) ws ({ frames := 1, cells := 0, slots := 0, locals := 13 } : Room) #[(.double x)] h0 (fun v h L => v = some (.int 1) ∧ Fr n0 L ∧ h = h0) := by
  refine enter pn_10 ?_
  intro p e s m below meth c T0 X0 hx hby hml hret hlk hZ hown hnm e0
  have A0 := wk X0 hx hby
  have N0 := Fr.nil n0
  refine goIn (ef_c_fin m x) ?_
  show Go p e below m (Fini s 0 0 (fun v h L => v = some (.int 1) ∧ Fr n0 L ∧ h = h0)) T0 0 #[.val (.double x), .second] []
  refine s_dloadN A0 d10_0 (pc' := 1) rfl rfl ?_
  refine g_absD X0 hx hZ hown (hw _ (List.mem_of_getElem? (i := 58) rfl)) (hw _ (List.mem_of_getElem? (i := 59) rfl)) (hw _ (List.mem_of_getElem? (i := 60) rfl)) (hw _ (List.mem_of_getElem? (i := 61) rfl)) (abs_ok fx) e0 (by rw [hml]; rfl) (hb hby d10_1) (pc' := 4) rfl (by decide) (W := 0) (Nat.le_of_eq rfl) (by decide) ?_
  intro T1 X1 e1
  have A1 := wk X1 hx hby
  refine g_ldcD X1 hx hZ (v := (9218868437227405311 : UInt64)) hown (hw _ (List.mem_of_getElem? (i := 62) rfl)) (hb hby d10_4) (pc' := 7) rfl ?_
  obtain ⟨v7, hv7⟩ : ∃ v, cmpValue (FP.dcmp (x &&& 0x7fffffffffffffff) (9218868437227405311 : UInt64)) .g = v := ⟨_, rfl⟩
  refine s_dcmp A1 d10_7 (pc' := 8) rfl hv7 ?_
  refine s_ifgt A1 d10_8 (pY := 15) (pN := 11) (by decide) (by decide) rfl ?_ ?_
  · intro c8
    exact absurd c8 (own_fin fx hv7)
  · intro c8
    refine s_iconst A1 d10_11 (pc' := 12) rfl (v := (1 : Int32)) (by decide) ?_
    refine s_goto A1 d10_12 (pc' := 16) (by decide) (by decide) ?_
    exact g_retZ X1 hx hlk hret (by decide) (hb hby d10_16) ⟨rfl, N0, e1⟩ (by decide) (by decide)
theorem d7_0 : decode prog_2_method_1_code 0 = .ok (.aload_n 0, 1) := by decide +kernel
theorem d7_1 : decode prog_2_method_1_code 1 = .ok (.invokespecial 1, 3) := by decide +kernel
theorem d7_4 : decode prog_2_method_1_code 4 = .ok (.aload_n 1, 1) := by decide +kernel
theorem d7_5 : decode prog_2_method_1_code 5 = .ok (.ldc 7, 2) := by decide +kernel
theorem d7_7 : decode prog_2_method_1_code 7 = .ok (.invokestatic 9, 3) := by decide +kernel
theorem d7_10 : decode prog_2_method_1_code 10 = .ok (.pop, 1) := by decide +kernel
theorem d7_11 : decode prog_2_method_1_code 11 = .ok (.dload 4, 2) := by decide +kernel
theorem d7_13 : decode prog_2_method_1_code 13 = .ok (.dconst 0, 1) := by decide +kernel
theorem d7_14 : decode prog_2_method_1_code 14 = .ok (.dcmp .l, 1) := by decide +kernel
theorem d7_15 : decode prog_2_method_1_code 15 = .ok (.ifCond .le 11, 3) := by decide +kernel
theorem d7_18 : decode prog_2_method_1_code 18 = .ok (.dload 4, 2) := by decide +kernel
theorem d7_20 : decode prog_2_method_1_code 20 = .ok (.invokestatic 15, 3) := by decide +kernel
theorem d7_23 : decode prog_2_method_1_code 23 = .ok (.ifCond .ne 17, 3) := by decide +kernel
theorem d7_40 : decode prog_2_method_1_code 40 = .ok (.dload 6, 2) := by decide +kernel
theorem d7_42 : decode prog_2_method_1_code 42 = .ok (.dconst 0, 1) := by decide +kernel
theorem d7_43 : decode prog_2_method_1_code 43 = .ok (.dcmp .l, 1) := by decide +kernel
theorem d7_44 : decode prog_2_method_1_code 44 = .ok (.ifCond .le 11, 3) := by decide +kernel
theorem d7_47 : decode prog_2_method_1_code 47 = .ok (.dload 6, 2) := by decide +kernel
theorem d7_49 : decode prog_2_method_1_code 49 = .ok (.invokestatic 15, 3) := by decide +kernel
theorem d7_52 : decode prog_2_method_1_code 52 = .ok (.ifCond .ne 17, 3) := by decide +kernel
theorem d7_69 : decode prog_2_method_1_code 69 = .ok (.dload 8, 2) := by decide +kernel
theorem d7_71 : decode prog_2_method_1_code 71 = .ok (.dconst 0, 1) := by decide +kernel
theorem d7_72 : decode prog_2_method_1_code 72 = .ok (.dcmp .l, 1) := by decide +kernel
theorem d7_73 : decode prog_2_method_1_code 73 = .ok (.ifCond .lt 11, 3) := by decide +kernel
theorem d7_76 : decode prog_2_method_1_code 76 = .ok (.dload 8, 2) := by decide +kernel
theorem d7_78 : decode prog_2_method_1_code 78 = .ok (.invokestatic 15, 3) := by decide +kernel
theorem d7_81 : decode prog_2_method_1_code 81 = .ok (.ifCond .ne 17, 3) := by decide +kernel
theorem d7_98 : decode prog_2_method_1_code 98 = .ok (.aload_n 0, 1) := by decide +kernel
theorem d7_99 : decode prog_2_method_1_code 99 = .ok (.aload_n 1, 1) := by decide +kernel
theorem d7_100 : decode prog_2_method_1_code 100 = .ok (.putfield 32, 3) := by decide +kernel
theorem d7_103 : decode prog_2_method_1_code 103 = .ok (.aload_n 0, 1) := by decide +kernel
theorem d7_104 : decode prog_2_method_1_code 104 = .ok (.iload_n 2, 1) := by decide +kernel
theorem d7_105 : decode prog_2_method_1_code 105 = .ok (.putfield 37, 3) := by decide +kernel
theorem d7_108 : decode prog_2_method_1_code 108 = .ok (.aload_n 0, 1) := by decide +kernel
theorem d7_109 : decode prog_2_method_1_code 109 = .ok (.iload_n 3, 1) := by decide +kernel
theorem d7_110 : decode prog_2_method_1_code 110 = .ok (.putfield 41, 3) := by decide +kernel
theorem d7_113 : decode prog_2_method_1_code 113 = .ok (.aload_n 0, 1) := by decide +kernel
theorem d7_114 : decode prog_2_method_1_code 114 = .ok (.dload 4, 2) := by decide +kernel
theorem d7_116 : decode prog_2_method_1_code 116 = .ok (.putfield 44, 3) := by decide +kernel
theorem d7_119 : decode prog_2_method_1_code 119 = .ok (.aload_n 0, 1) := by decide +kernel
theorem d7_120 : decode prog_2_method_1_code 120 = .ok (.dload 6, 2) := by decide +kernel
theorem d7_122 : decode prog_2_method_1_code 122 = .ok (.putfield 48, 3) := by decide +kernel
theorem d7_125 : decode prog_2_method_1_code 125 = .ok (.aload_n 0, 1) := by decide +kernel
theorem d7_126 : decode prog_2_method_1_code 126 = .ok (.dload 8, 2) := by decide +kernel
theorem d7_128 : decode prog_2_method_1_code 128 = .ok (.putfield 51, 3) := by decide +kernel
theorem d7_131 : decode prog_2_method_1_code 131 = .ok (.return_, 1) := by decide +kernel
theorem ef_c_arc (m : MethodId) (x0 : Addr) (x1 : Addr) (x2 : Int32) (x3 : Int32) (x4 : UInt64) (x5 : UInt64) (x6 : UInt64) : entryFrame m #[(.ref x0), (.ref x1), (.int x2), (.int x3), (.double x4), (.double x5), (.double x6)] 10 = mkF m 0 #[.val (.ref x0), .val (.ref x1), .val (.int x2), .val (.int x3), .val (.double x4), .second, .val (.double x5), .second, .val (.double x6), .second] [] := by first | (simp [entryFrame, mkF, argsToLocals, Value.category, maxLocals]; done) | rfl
set_option maxRecDepth 65536 in
set_option maxHeartbeats 40000000 in
theorem c_arc (l : Launch) (Z : State) (a0 : Array Value) (hw : ∀ d ∈ tables_1, d.before a0 Z = true) (ws : List Jvm.Cond) (a : Addr) (q0 : Addr) (q1 q2 : Int32) (q3 q4 q5 : UInt64) (dz : Int32) (h0 : Heap) (n0 : Nat) (Z0 : n0 ≤ h0.size) (Ea : Exa Z h0 a "com/example/hublane/hublane/core/Arc") (ga : n0 ≤ a) (F0 : Fld Z h0 a "com/example/hublane/hublane/core/Arc" "label" "Ljava/lang/String;" .null) (F1 : Fld Z h0 a "com/example/hublane/hublane/core/Arc" "source" "I" (.int 0)) (F2 : Fld Z h0 a "com/example/hublane/hublane/core/Arc" "target" "I" (.int 0)) (F3 : Fld Z h0 a "com/example/hublane/hublane/core/Arc" "weight" "D" (.double 0)) (F4 : Fld Z h0 a "com/example/hublane/hublane/core/Arc" "capacity" "D" (.double 0)) (F5 : Fld Z h0 a "com/example/hublane/hublane/core/Arc" "delay" "D" (.double 0)) (fq3 : Jvm.FP.Core.DFin q3) (fq4 : Jvm.FP.Core.DFin q4) (fq5 : Jvm.FP.Core.DFin q5) (P3 : cmpValue (FP.dcmp q3 0) .l = 1) (P4 : cmpValue (FP.dcmp q4 0) .l = 1) (P5 : cmpValue (FP.dcmp q5 0) .l = dz) (hdz : dz = 0 ∨ dz = 1) (hEL : EW Z a0 []) :
    CtrH l Z [] (⟨"com/example/hublane/hublane/core/Arc", "<init>", "(Ljava/lang/String;IIDDD)V"⟩ : MethodName) prog_2_method_1_code 10 none ws ({ frames := 2, cells := 2, slots := 24, locals := 26 } : Room) #[(.ref a), (.ref q0), (.int q1), (.int q2), (.double q3), (.double q4), (.double q5)] h0 (fun v h L => v = none ∧ Fr n0 L ∧ Keep h0 h [a] ∧ Exa Z h a "com/example/hublane/hublane/core/Arc" ∧ Fld Z h a "com/example/hublane/hublane/core/Arc" "weight" "D" (.double q3)) := by
  refine enterH pn_7 ?_
  intro p e s m below meth c T0 X0 hx hby hml hret hlk hZ hown hnm e0 CH0 hS0
  have A0 := wk X0 hx hby
  have N0 := Fr.nil n0
  refine goIn (ef_c_arc m a q0 q1 q2 q3 q4 q5) ?_
  show Go p e below m (FinH Z [] s h0 2 24 (fun v h L => v = none ∧ Fr n0 L ∧ Keep h0 h [a] ∧ Exa Z h a "com/example/hublane/hublane/core/Arc" ∧ Fld Z h a "com/example/hublane/hublane/core/Arc" "weight" "D" (.double q3))) T0 0 #[.val (.ref a), .val (.ref q0), .val (.int q1), .val (.int q2), .val (.double q3), .second, .val (.double q4), .second, .val (.double q5), .second] []
  refine s_aloadN A0 d7_0 (pc' := 1) rfl rfl rfl ?_
  refine g_special X0 hx hZ (y := (⟨"java/lang/Record", "<init>", "()V"⟩ : MethodName)) rfl hown (hw _ (List.mem_of_getElem? (i := 41) rfl)) (hw _ (List.mem_of_getElem? (i := 42) rfl)) (hw _ (List.mem_of_getElem? (i := 44) rfl)) (hw _ (List.mem_of_getElem? (i := 45) rfl)) (by decide) (a := a) (argsL := []) (rest := []) (c_rec l Z a0 hw [] a h0 n0 Z0) pd_4 rfl rfl (hb hby d7_1) e0 (by rw [hml]; rfl) (pc' := 4) rfl (by decide) (W := 0) (Nat.le_of_eq rfl) (by decide) (by decide) (by decide) ?_
  intro v1 T1 L1 X1 hQ1
  have A1 := wk X1 hx hby
  have e1 : T1.heap = T1.heap := rfl
  obtain ⟨rfl, N1, hh1⟩ := hQ1
  have e1 : T1.heap = h0 := hh1
  have fr1 := Fr.app N0 N1
  show Go p e below m (FinH Z [] s h0 2 24 (fun v h L => v = none ∧ Fr n0 L ∧ Keep h0 h [a] ∧ Exa Z h a "com/example/hublane/hublane/core/Arc" ∧ Fld Z h a "com/example/hublane/hublane/core/Arc" "weight" "D" (.double q3))) T1 4 #[.val (.ref a), .val (.ref q0), .val (.int q1), .val (.int q2), .val (.double q3), .second, .val (.double q4), .second, .val (.double q5), .second] []
  refine s_aloadN A1 d7_4 (pc' := 5) rfl rfl rfl ?_
  refine g_ldcO X1 hx hZ hown (hw _ (List.mem_of_getElem? (i := 47) rfl)) (own_sa hw) e1 hS0 (Nat.zero_le _) hEL (CHr.nil (vm := s.vm) (Nat.le_refl _)) (hb hby d7_5) (pc' := 7) rfl (n := 20) (by decide) (by decide) (by decide) (by decide) ?_
  intro a2 T2 h2 k2 X2 e2 E2 hS2 hk2 hZ hown ch2 sx2
  have A2 := wk X2 hx hby
  have kp3 := Keep.ext (Keep.refl h0 [a]) E2
  have sz5 : h0.size ≤ h2.size := E2.1
  have zs4 : n0 ≤ h2.size := Nat.le_trans Z0 sz5
  refine g_static X2 hx hZ (y := (⟨"java/util/Objects", "requireNonNull", "(Ljava/lang/Object;Ljava/lang/String;)Ljava/lang/Object;"⟩ : MethodName)) hown (hw _ (List.mem_of_getElem? (i := 50) rfl)) (hw _ (List.mem_of_getElem? (i := 51) rfl)) (hw _ (List.mem_of_getElem? (i := 52) rfl)) (hw _ (List.mem_of_getElem? (i := 53) rfl)) (by decide) (argsL := [(.ref q0), (.ref a2)]) (rest := []) (c_rnn l Z a0 hw [] q0 a2 h2 n0 zs4) pd_5 rfl rfl (hb hby d7_7) e2 (by rw [hml]; rfl) (pc' := 10) rfl (by decide) (W := 0) (Nat.le_of_eq rfl) (by decide) (by decide) (by decide) ?_
  intro v6 T6 L6 X6 hQ6
  have A6 := wk X6 hx hby
  have e6 : T6.heap = T6.heap := rfl
  obtain ⟨rfl, N6, hh6⟩ := hQ6
  have e6 : T6.heap = h2 := hh6
  have fr6 := Fr.app fr1 N6
  show Go p e below m (FinH Z [] s h0 2 24 (fun v h L => v = none ∧ Fr n0 L ∧ Keep h0 h [a] ∧ Exa Z h a "com/example/hublane/hublane/core/Arc" ∧ Fld Z h a "com/example/hublane/hublane/core/Arc" "weight" "D" (.double q3))) T6 10 #[.val (.ref a), .val (.ref q0), .val (.int q1), .val (.int q2), .val (.double q3), .second, .val (.double q4), .second, .val (.double q5), .second] [(.ref q0)]
  refine s_pop A6 d7_10 (pc' := 11) rfl rfl ?_
  refine s_dload A6 d7_11 (pc' := 13) rfl rfl ?_
  refine s_dconst0 A6 d7_13 (pc' := 14) rfl (v := 0) rfl ?_
  refine s_dcmp A6 d7_14 (pc' := 15) rfl P3 ?_
  refine s_ifle A6 d7_15 (pY := 26) (pN := 18) (by decide) (by decide) rfl (fun c => absurd c (by decide)) (fun _ => ?_)
  refine s_dload A6 d7_18 (pc' := 20) rfl rfl ?_
  refine g_static X6 hx hZ (y := (⟨"java/lang/Double", "isFinite", "(D)Z"⟩ : MethodName)) hown (hw _ (List.mem_of_getElem? (i := 54) rfl)) (hw _ (List.mem_of_getElem? (i := 55) rfl)) (hw _ (List.mem_of_getElem? (i := 56) rfl)) (hw _ (List.mem_of_getElem? (i := 57) rfl)) (by decide) (argsL := [(.double q3)]) (rest := []) (c_fin l Z a0 hw [] q3 h2 n0 zs4 fq3) pd_6 rfl rfl (hb hby d7_20) e6 (by rw [hml]; rfl) (pc' := 23) rfl (by decide) (W := 0) (Nat.le_of_eq rfl) (by decide) (by decide) (by decide) ?_
  intro v7 T7 L7 X7 hQ7
  have A7 := wk X7 hx hby
  have e7 : T7.heap = T7.heap := rfl
  obtain ⟨rfl, N7, hh7⟩ := hQ7
  have e7 : T7.heap = h2 := hh7
  have fr7 := Fr.app fr6 N7
  show Go p e below m (FinH Z [] s h0 2 24 (fun v h L => v = none ∧ Fr n0 L ∧ Keep h0 h [a] ∧ Exa Z h a "com/example/hublane/hublane/core/Arc" ∧ Fld Z h a "com/example/hublane/hublane/core/Arc" "weight" "D" (.double q3))) T7 23 #[.val (.ref a), .val (.ref q0), .val (.int q1), .val (.int q2), .val (.double q3), .second, .val (.double q4), .second, .val (.double q5), .second] [(.int (1 : Int32))]
  refine s_ifne A7 d7_23 (pY := 40) (pN := 26) (by decide) (by decide) rfl (fun _ => ?_) (fun c => absurd c (by decide))
  refine s_dload A7 d7_40 (pc' := 42) rfl rfl ?_
  refine s_dconst0 A7 d7_42 (pc' := 43) rfl (v := 0) rfl ?_
  refine s_dcmp A7 d7_43 (pc' := 44) rfl P4 ?_
  refine s_ifle A7 d7_44 (pY := 55) (pN := 47) (by decide) (by decide) rfl (fun c => absurd c (by decide)) (fun _ => ?_)
  refine s_dload A7 d7_47 (pc' := 49) rfl rfl ?_
  refine g_static X7 hx hZ (y := (⟨"java/lang/Double", "isFinite", "(D)Z"⟩ : MethodName)) hown (hw _ (List.mem_of_getElem? (i := 54) rfl)) (hw _ (List.mem_of_getElem? (i := 55) rfl)) (hw _ (List.mem_of_getElem? (i := 56) rfl)) (hw _ (List.mem_of_getElem? (i := 57) rfl)) (by decide) (argsL := [(.double q4)]) (rest := []) (c_fin l Z a0 hw [] q4 h2 n0 zs4 fq4) pd_6 rfl rfl (hb hby d7_49) e7 (by rw [hml]; rfl) (pc' := 52) rfl (by decide) (W := 0) (Nat.le_of_eq rfl) (by decide) (by decide) (by decide) ?_
  intro v8 T8 L8 X8 hQ8
  have A8 := wk X8 hx hby
  have e8 : T8.heap = T8.heap := rfl
  obtain ⟨rfl, N8, hh8⟩ := hQ8
  have e8 : T8.heap = h2 := hh8
  have fr8 := Fr.app fr7 N8
  show Go p e below m (FinH Z [] s h0 2 24 (fun v h L => v = none ∧ Fr n0 L ∧ Keep h0 h [a] ∧ Exa Z h a "com/example/hublane/hublane/core/Arc" ∧ Fld Z h a "com/example/hublane/hublane/core/Arc" "weight" "D" (.double q3))) T8 52 #[.val (.ref a), .val (.ref q0), .val (.int q1), .val (.int q2), .val (.double q3), .second, .val (.double q4), .second, .val (.double q5), .second] [(.int (1 : Int32))]
  refine s_ifne A8 d7_52 (pY := 69) (pN := 55) (by decide) (by decide) rfl (fun _ => ?_) (fun c => absurd c (by decide))
  refine s_dload A8 d7_69 (pc' := 71) rfl rfl ?_
  refine s_dconst0 A8 d7_71 (pc' := 72) rfl (v := 0) rfl ?_
  refine s_dcmp A8 d7_72 (pc' := 73) rfl P5 ?_
  refine s_iflt A8 d7_73 (pY := 84) (pN := 76) (by decide) (by decide) rfl ?_ ?_
  · intro c73
    exact absurd c73 (by rcases hdz with rfl | rfl <;> decide)
  · intro c73
    refine s_dload A8 d7_76 (pc' := 78) rfl rfl ?_
    refine g_static X8 hx hZ (y := (⟨"java/lang/Double", "isFinite", "(D)Z"⟩ : MethodName)) hown (hw _ (List.mem_of_getElem? (i := 54) rfl)) (hw _ (List.mem_of_getElem? (i := 55) rfl)) (hw _ (List.mem_of_getElem? (i := 56) rfl)) (hw _ (List.mem_of_getElem? (i := 57) rfl)) (by decide) (argsL := [(.double q5)]) (rest := []) (c_fin l Z a0 hw [] q5 h2 n0 zs4 fq5) pd_6 rfl rfl (hb hby d7_78) e8 (by rw [hml]; rfl) (pc' := 81) rfl (by decide) (W := 0) (Nat.le_of_eq rfl) (by decide) (by decide) (by decide) ?_
    intro v9 T9 L9 X9 hQ9
    have A9 := wk X9 hx hby
    have e9 : T9.heap = T9.heap := rfl
    obtain ⟨rfl, N9, hh9⟩ := hQ9
    have e9 : T9.heap = h2 := hh9
    have fr9 := Fr.app fr8 N9
    show Go p e below m (FinH Z [] s h0 2 24 (fun v h L => v = none ∧ Fr n0 L ∧ Keep h0 h [a] ∧ Exa Z h a "com/example/hublane/hublane/core/Arc" ∧ Fld Z h a "com/example/hublane/hublane/core/Arc" "weight" "D" (.double q3))) T9 81 #[.val (.ref a), .val (.ref q0), .val (.int q1), .val (.int q2), .val (.double q3), .second, .val (.double q4), .second, .val (.double q5), .second] [(.int (1 : Int32))]
    refine s_ifne A9 d7_81 (pY := 98) (pN := 84) (by decide) (by decide) rfl (fun _ => ?_) (fun c => absurd c (by decide))
    refine s_aloadN A9 d7_98 (pc' := 99) rfl rfl rfl ?_
    refine s_aloadN A9 d7_99 (pc' := 100) rfl rfl rfl ?_
    have f10 := (Fld.ext E2 F0)
    have f11 := (Exa.ext E2 Ea)
    refine g_putF X9 hx hZ hown (hw _ (List.mem_of_getElem? (i := 63) rfl)) Via.refl e9 f10 f11 (Or.inr ⟨(hw _ (List.mem_of_getElem? (i := 64) rfl)), rfl, hnm⟩) (hw _ (List.mem_of_getElem? (i := 36) rfl)) (ty := (.object "java/lang/String")) (by decide) rfl rfl (hb hby d7_100) (pc' := 103) rfl ?_
    intro T12 h12 X12 e12 W12
    have A12 := wk X12 hx hby
    have F12 := Fld.same W12 f10
    have kp13 := Keep.wr kp3 W12 (Or.inl (List.mem_of_getElem? (i := 0) rfl))
    have fr13 := Fr.snoc X12 fr9 ga
    refine s_aloadN A12 d7_103 (pc' := 104) rfl rfl rfl ?_
    refine s_iloadN A12 d7_104 (pc' := 105) rfl rfl ?_
    have f14 := (Fld.other W12 (Fld.ext E2 F1) (Or.inr (slot_ne (Or.inr (hw _ (List.mem_of_getElem? (i := 66) rfl))) (Or.inr (hw _ (List.mem_of_getElem? (i := 64) rfl))) (by decide) (t := .int) (by decide) (t' := (.object "java/lang/String")) (by decide))))
    have f15 := (Exa.wr W12 f11)
    refine g_putF X12 hx hZ hown (hw _ (List.mem_of_getElem? (i := 65) rfl)) Via.refl e12 f14 f15 (Or.inr ⟨(hw _ (List.mem_of_getElem? (i := 66) rfl)), rfl, hnm⟩) (hw _ (List.mem_of_getElem? (i := 36) rfl)) (ty := .int) (by decide) rfl rfl (hb hby d7_105) (pc' := 108) rfl ?_
    intro T16 h16 X16 e16 W16
    have A16 := wk X16 hx hby
    have F16 := Fld.same W16 f14
    have kp17 := Keep.wr kp13 W16 (Or.inl (List.mem_of_getElem? (i := 0) rfl))
    have fr17 := Fr.snoc X16 fr13 ga
    refine s_aloadN A16 d7_108 (pc' := 109) rfl rfl rfl ?_
    refine s_iloadN A16 d7_109 (pc' := 110) rfl rfl ?_
    have f18 := (Fld.other W16 (Fld.other W12 (Fld.ext E2 F2) (Or.inr (slot_ne (Or.inr (hw _ (List.mem_of_getElem? (i := 68) rfl))) (Or.inr (hw _ (List.mem_of_getElem? (i := 64) rfl))) (by decide) (t := .int) (by decide) (t' := (.object "java/lang/String")) (by decide)))) (Or.inr (slot_ne (Or.inr (hw _ (List.mem_of_getElem? (i := 68) rfl))) (Or.inr (hw _ (List.mem_of_getElem? (i := 66) rfl))) (by decide) (t := .int) (by decide) (t' := .int) (by decide))))
    have f19 := (Exa.wr W16 f15)
    refine g_putF X16 hx hZ hown (hw _ (List.mem_of_getElem? (i := 67) rfl)) Via.refl e16 f18 f19 (Or.inr ⟨(hw _ (List.mem_of_getElem? (i := 68) rfl)), rfl, hnm⟩) (hw _ (List.mem_of_getElem? (i := 36) rfl)) (ty := .int) (by decide) rfl rfl (hb hby d7_110) (pc' := 113) rfl ?_
    intro T20 h20 X20 e20 W20
    have A20 := wk X20 hx hby
    have F20 := Fld.same W20 f18
    have kp21 := Keep.wr kp17 W20 (Or.inl (List.mem_of_getElem? (i := 0) rfl))
    have fr21 := Fr.snoc X20 fr17 ga
    refine s_aloadN A20 d7_113 (pc' := 114) rfl rfl rfl ?_
    refine s_dload A20 d7_114 (pc' := 116) rfl rfl ?_
    have f22 := (Fld.other W20 (Fld.other W16 (Fld.other W12 (Fld.ext E2 F3) (Or.inr (slot_ne (Or.inr (hw _ (List.mem_of_getElem? (i := 70) rfl))) (Or.inr (hw _ (List.mem_of_getElem? (i := 64) rfl))) (by decide) (t := .double) (by decide) (t' := (.object "java/lang/String")) (by decide)))) (Or.inr (slot_ne (Or.inr (hw _ (List.mem_of_getElem? (i := 70) rfl))) (Or.inr (hw _ (List.mem_of_getElem? (i := 66) rfl))) (by decide) (t := .double) (by decide) (t' := .int) (by decide)))) (Or.inr (slot_ne (Or.inr (hw _ (List.mem_of_getElem? (i := 70) rfl))) (Or.inr (hw _ (List.mem_of_getElem? (i := 68) rfl))) (by decide) (t := .double) (by decide) (t' := .int) (by decide))))
    have f23 := (Exa.wr W20 f19)
    refine g_putF X20 hx hZ hown (hw _ (List.mem_of_getElem? (i := 69) rfl)) Via.refl e20 f22 f23 (Or.inr ⟨(hw _ (List.mem_of_getElem? (i := 70) rfl)), rfl, hnm⟩) (hw _ (List.mem_of_getElem? (i := 36) rfl)) (ty := .double) (by decide) rfl rfl (hb hby d7_116) (pc' := 119) rfl ?_
    intro T24 h24 X24 e24 W24
    have A24 := wk X24 hx hby
    have F24 := Fld.same W24 f22
    have kp25 := Keep.wr kp21 W24 (Or.inl (List.mem_of_getElem? (i := 0) rfl))
    have fr25 := Fr.snoc X24 fr21 ga
    refine s_aloadN A24 d7_119 (pc' := 120) rfl rfl rfl ?_
    refine s_dload A24 d7_120 (pc' := 122) rfl rfl ?_
    have f26 := (Fld.other W24 (Fld.other W20 (Fld.other W16 (Fld.other W12 (Fld.ext E2 F4) (Or.inr (slot_ne (Or.inr (hw _ (List.mem_of_getElem? (i := 72) rfl))) (Or.inr (hw _ (List.mem_of_getElem? (i := 64) rfl))) (by decide) (t := .double) (by decide) (t' := (.object "java/lang/String")) (by decide)))) (Or.inr (slot_ne (Or.inr (hw _ (List.mem_of_getElem? (i := 72) rfl))) (Or.inr (hw _ (List.mem_of_getElem? (i := 66) rfl))) (by decide) (t := .double) (by decide) (t' := .int) (by decide)))) (Or.inr (slot_ne (Or.inr (hw _ (List.mem_of_getElem? (i := 72) rfl))) (Or.inr (hw _ (List.mem_of_getElem? (i := 68) rfl))) (by decide) (t := .double) (by decide) (t' := .int) (by decide)))) (Or.inr (slot_ne (Or.inr (hw _ (List.mem_of_getElem? (i := 72) rfl))) (Or.inr (hw _ (List.mem_of_getElem? (i := 70) rfl))) (by decide) (t := .double) (by decide) (t' := .double) (by decide))))
    have f27 := (Exa.wr W24 f23)
    refine g_putF X24 hx hZ hown (hw _ (List.mem_of_getElem? (i := 71) rfl)) Via.refl e24 f26 f27 (Or.inr ⟨(hw _ (List.mem_of_getElem? (i := 72) rfl)), rfl, hnm⟩) (hw _ (List.mem_of_getElem? (i := 36) rfl)) (ty := .double) (by decide) rfl rfl (hb hby d7_122) (pc' := 125) rfl ?_
    intro T28 h28 X28 e28 W28
    have A28 := wk X28 hx hby
    have F28 := Fld.same W28 f26
    have kp29 := Keep.wr kp25 W28 (Or.inl (List.mem_of_getElem? (i := 0) rfl))
    have fr29 := Fr.snoc X28 fr25 ga
    refine s_aloadN A28 d7_125 (pc' := 126) rfl rfl rfl ?_
    refine s_dload A28 d7_126 (pc' := 128) rfl rfl ?_
    have f30 := (Fld.other W28 (Fld.other W24 (Fld.other W20 (Fld.other W16 (Fld.other W12 (Fld.ext E2 F5) (Or.inr (slot_ne (Or.inr (hw _ (List.mem_of_getElem? (i := 74) rfl))) (Or.inr (hw _ (List.mem_of_getElem? (i := 64) rfl))) (by decide) (t := .double) (by decide) (t' := (.object "java/lang/String")) (by decide)))) (Or.inr (slot_ne (Or.inr (hw _ (List.mem_of_getElem? (i := 74) rfl))) (Or.inr (hw _ (List.mem_of_getElem? (i := 66) rfl))) (by decide) (t := .double) (by decide) (t' := .int) (by decide)))) (Or.inr (slot_ne (Or.inr (hw _ (List.mem_of_getElem? (i := 74) rfl))) (Or.inr (hw _ (List.mem_of_getElem? (i := 68) rfl))) (by decide) (t := .double) (by decide) (t' := .int) (by decide)))) (Or.inr (slot_ne (Or.inr (hw _ (List.mem_of_getElem? (i := 74) rfl))) (Or.inr (hw _ (List.mem_of_getElem? (i := 70) rfl))) (by decide) (t := .double) (by decide) (t' := .double) (by decide)))) (Or.inr (slot_ne (Or.inr (hw _ (List.mem_of_getElem? (i := 74) rfl))) (Or.inr (hw _ (List.mem_of_getElem? (i := 72) rfl))) (by decide) (t := .double) (by decide) (t' := .double) (by decide))))
    have f31 := (Exa.wr W28 f27)
    refine g_putF X28 hx hZ hown (hw _ (List.mem_of_getElem? (i := 73) rfl)) Via.refl e28 f30 f31 (Or.inr ⟨(hw _ (List.mem_of_getElem? (i := 74) rfl)), rfl, hnm⟩) (hw _ (List.mem_of_getElem? (i := 36) rfl)) (ty := .double) (by decide) rfl rfl (hb hby d7_128) (pc' := 131) rfl ?_
    intro T32 h32 X32 e32 W32
    have A32 := wk X32 hx hby
    have F32 := Fld.same W32 f30
    have kp33 := Keep.wr kp29 W32 (Or.inl (List.mem_of_getElem? (i := 0) rfl))
    have fr33 := Fr.snoc X32 fr29 ga
    have f34 := (Exa.wr W32 f31)
    have f35 := (Fld.other W32 (Fld.other W28 F24 (Or.inr (slot_ne (Or.inr (hw _ (List.mem_of_getElem? (i := 70) rfl))) (Or.inr (hw _ (List.mem_of_getElem? (i := 72) rfl))) (by decide) (t := .double) (by decide) (t' := .double) (by decide)))) (Or.inr (slot_ne (Or.inr (hw _ (List.mem_of_getElem? (i := 70) rfl))) (Or.inr (hw _ (List.mem_of_getElem? (i := 74) rfl))) (by decide) (t := .double) (by decide) (t' := .double) (by decide))))
    have sz36 : h0.size ≤ h32.size := (Nat.le_trans (Nat.le_trans (Nat.le_trans (Nat.le_trans (Nat.le_trans (Nat.le_trans sz5 (Nat.le_of_eq (Wr.size W12).symm)) (Nat.le_of_eq (Wr.size W16).symm)) (Nat.le_of_eq (Wr.size W20).symm)) (Nat.le_of_eq (Wr.size W24).symm)) (Nat.le_of_eq (Wr.size W28).symm)) (Nat.le_of_eq (Wr.size W32).symm))
    have sz37 : h2.size ≤ h32.size := (Nat.le_trans (Nat.le_trans (Nat.le_trans (Nat.le_trans (Nat.le_trans (Nat.le_of_eq (Wr.size W12).symm) (Nat.le_of_eq (Wr.size W16).symm)) (Nat.le_of_eq (Wr.size W20).symm)) (Nat.le_of_eq (Wr.size W24).symm)) (Nat.le_of_eq (Wr.size W28).symm)) (Nat.le_of_eq (Wr.size W32).symm))
    exact h_retV X32 hx hZ hlk hS2 e32 (Nat.le_trans hk2 sz37) hEL (CHr.nil (vm := s.vm) sz36) hret (hb hby d7_131) (by rw [e32]; exact ⟨rfl, fr33, kp33, f34, f35⟩) (by decide) (by decide)
theorem d13_0 : decode jdk_37_method_2_code 0 = .ok (.aload_n 0, 1) := by decide +kernel
theorem d13_1 : decode jdk_37_method_2_code 1 = .ok (.getfield 7, 3) := by decide +kernel
theorem d13_4 : decode jdk_37_method_2_code 4 = .ok (.ireturn, 1) := by decide +kernel
theorem ef_c_ord (m : MethodId) (x0 : Addr) : entryFrame m #[(.ref x0)] 1 = mkF m 0 #[.val (.ref x0)] [] := by first | (simp [entryFrame, mkF, argsToLocals, Value.category, maxLocals]; done) | rfl
set_option maxRecDepth 65536 in
set_option maxHeartbeats 40000000 in
theorem c_ord (l : Launch) (Z : State) (a0 : Array Value) (hw : ∀ d ∈ tables_1, d.before a0 Z = true) (ws : List Jvm.Cond) (a : Addr) (o : Int32) (h0 : Heap) (n0 : Nat) (Z0 : n0 ≤ h0.size) (Fo : Fld Z h0 a "java/lang/Enum" "ordinal" "I" (.int o)) :
    Ctr l Z (⟨"java/lang/Enum", "ordinal", "()I"⟩ : MethodName) jdk_37_method_2_code 1 (some .int) ws ({ frames := 0, cells := 0, slots := 0, locals := 0 } : Room) #[(.ref a)] h0 (fun v h L => v = some (.int o) ∧ Fr n0 L ∧ h = h0) := by
  refine enter pn_13 ?_
  intro p e s m below meth c T0 X0 hx hby hml hret hlk hZ hown hnm e0
  have A0 := wk X0 hx hby
  have N0 := Fr.nil n0
  refine goIn (ef_c_ord m a) ?_
  show Go p e below m (Fini s 0 0 (fun v h L => v = some (.int o) ∧ Fr n0 L ∧ h = h0)) T0 0 #[.val (.ref a)] []
  refine s_aloadN A0 d13_0 (pc' := 1) rfl rfl rfl ?_
  refine g_getF X0 hx hZ hown (hw _ (List.mem_of_getElem? (i := 87) rfl)) Via.refl e0 Fo (hb hby d13_1) (pc' := 4) rfl ?_
  intro T1 X1 e1
  have A1 := wk X1 hx hby
  exact g_retI X1 hx hlk hret (hb hby d13_4) ⟨rfl, N0, e1⟩ (by decide) (by decide)
theorem d14_0 : decode prog_2_method_8_code 0 = .ok (.aload_n 0, 1) := by decide +kernel
theorem d14_1 : decode prog_2_method_8_code 1 = .ok (.getfield 44, 3) := by decide +kernel
theorem d14_4 : decode prog_2_method_8_code 4 = .ok (.dreturn, 1) := by decide +kernel
theorem ef_c_wt (m : MethodId) (x0 : Addr) : entryFrame m #[(.ref x0)] 1 = mkF m 0 #[.val (.ref x0)] [] := by first | (simp [entryFrame, mkF, argsToLocals, Value.category, maxLocals]; done) | rfl
set_option maxRecDepth 65536 in
set_option maxHeartbeats 40000000 in
theorem c_wt (l : Launch) (Z : State) (a0 : Array Value) (hw : ∀ d ∈ tables_1, d.before a0 Z = true) (ws : List Jvm.Cond) (a : Addr) (wt : UInt64) (h0 : Heap) (n0 : Nat) (Z0 : n0 ≤ h0.size) (Fw : Fld Z h0 a "com/example/hublane/hublane/core/Arc" "weight" "D" (.double wt)) :
    Ctr l Z (⟨"com/example/hublane/hublane/core/Arc", "weight", "()D"⟩ : MethodName) prog_2_method_8_code 1 (some .double) ws ({ frames := 0, cells := 0, slots := 0, locals := 0 } : Room) #[(.ref a)] h0 (fun v h L => v = some (.double wt) ∧ Fr n0 L ∧ h = h0) := by
  refine enter pn_14 ?_
  intro p e s m below meth c T0 X0 hx hby hml hret hlk hZ hown hnm e0
  have A0 := wk X0 hx hby
  have N0 := Fr.nil n0
  refine goIn (ef_c_wt m a) ?_
  show Go p e below m (Fini s 0 0 (fun v h L => v = some (.double wt) ∧ Fr n0 L ∧ h = h0)) T0 0 #[.val (.ref a)] []
  refine s_aloadN A0 d14_0 (pc' := 1) rfl rfl rfl ?_
  refine g_getF X0 hx hZ hown (hw _ (List.mem_of_getElem? (i := 69) rfl)) Via.refl e0 Fw (hb hby d14_1) (pc' := 4) rfl ?_
  intro T1 X1 e1
  have A1 := wk X1 hx hby
  exact g_retD X1 hx hlk hret (hb hby d14_4) ⟨rfl, N0, e1⟩ (by decide) (by decide)
theorem d12_0 : decode prog_10_method_4_code 0 = .ok (.aload_n 0, 1) := by decide +kernel
theorem d12_1 : decode prog_10_method_4_code 1 = .ok (.invokevirtual 29, 3) := by decide +kernel
theorem d12_4 : decode prog_10_method_4_code 4 = .ok (.lookupswitch 28 #[(0, 38), (1, 45)], 28) := by decide +kernel
theorem d12_42 : decode prog_10_method_4_code 42 = .ok (.aload_n 1, 1) := by decide +kernel
theorem d12_43 : decode prog_10_method_4_code 43 = .ok (.invokevirtual 38, 3) := by decide +kernel
theorem d12_46 : decode prog_10_method_4_code 46 = .ok (.goto 4, 3) := by decide +kernel
theorem d12_49 : decode prog_10_method_4_code 49 = .ok (.dconst 1, 1) := by decide +kernel
theorem d12_50 : decode prog_10_method_4_code 50 = .ok (.dreturn, 1) := by decide +kernel
theorem ef_c_len_0 (m : MethodId) (x0 : Addr) (x1 : Addr) : entryFrame m #[(.ref x0), (.ref x1)] 2 = mkF m 0 #[.val (.ref x0), .val (.ref x1)] [] := by first | (simp [entryFrame, mkF, argsToLocals, Value.category, maxLocals]; done) | rfl
set_option maxRecDepth 65536 in
set_option maxHeartbeats 40000000 in
theorem c_len_0 (l : Launch) (Z : State) (a0 : Array Value) (hw : ∀ d ∈ tables_1, d.before a0 Z = true) (ws : List Jvm.Cond) (r a : Addr) (wt : UInt64) (h0 : Heap) (n0 : Nat) (Z0 : n0 ≤ h0.size) (Er : Exa Z h0 r "com/example/hublane/hublane/core/Metric") (Fo : Fld Z h0 r "java/lang/Enum" "ordinal" "I" (.int (0 : Int32))) (Ea : Exa Z h0 a "com/example/hublane/hublane/core/Arc") (Fw : Fld Z h0 a "com/example/hublane/hublane/core/Arc" "weight" "D" (.double wt)) :
    Ctr l Z (⟨"com/example/hublane/hublane/core/Metric", "length", "(Lcom/example/hublane/hublane/core/Arc;)D"⟩ : MethodName) prog_10_method_4_code 2 (some .double) ws ({ frames := 1, cells := 0, slots := 0, locals := 12 } : Room) #[(.ref r), (.ref a)] h0 (fun v h L => v = some (.double wt) ∧ Fr n0 L ∧ h = h0) := by
  refine enter pn_12 ?_
  intro p e s m below meth c T0 X0 hx hby hml hret hlk hZ hown hnm e0
  have A0 := wk X0 hx hby
  have N0 := Fr.nil n0
  refine goIn (ef_c_len_0 m r a) ?_
  show Go p e below m (Fini s 0 0 (fun v h L => v = some (.double wt) ∧ Fr n0 L ∧ h = h0)) T0 0 #[.val (.ref r), .val (.ref a)] []
  refine s_aloadN A0 d12_0 (pc' := 1) rfl rfl rfl ?_
  refine g_virtualUp X0 hx hZ (x := (⟨"com/example/hublane/hublane/core/Metric", "ordinal", "()I"⟩ : MethodName)) (y := (⟨"java/lang/Enum", "ordinal", "()I"⟩ : MethodName)) (owner := "java/lang/Enum") hown (hw _ (List.mem_of_getElem? (i := 80) rfl)) (hw _ (List.mem_of_getElem? (i := 81) rfl)) (hw _ (List.mem_of_getElem? (i := 82) rfl)) (by decide) (hw _ (List.mem_of_getElem? (i := 84) rfl)) (hw _ (List.mem_of_getElem? (i := 83) rfl)) (hw _ (List.mem_of_getElem? (i := 85) rfl)) (hw _ (List.mem_of_getElem? (i := 86) rfl)) Er (argsL := []) (rest := []) (c_ord l Z a0 hw [] r (0 : Int32) h0 n0 Z0 Fo) pd_7 rfl rfl (hb hby d12_1) e0 (by rw [hml]; rfl) (pc' := 4) rfl (by decide) (W := 0) (Nat.le_of_eq rfl) (by decide) (by decide) (by decide) ?_
  intro v1 T1 L1 X1 hQ1
  have A1 := wk X1 hx hby
  have e1 : T1.heap = T1.heap := rfl
  obtain ⟨rfl, N1, hh1⟩ := hQ1
  have e1 : T1.heap = h0 := hh1
  show Go p e below m (Fini s 0 0 (fun v h L => v = some (.double wt) ∧ Fr n0 L ∧ h = h0)) T1 4 #[.val (.ref r), .val (.ref a)] [(.int (0 : Int32))]
  refine g_lsw X1 hx (hb hby d12_4) (by decide) (a := 0) (off := 38) (by decide) (by decide) (pc' := 42) (by decide) ?_
  refine s_aloadN A1 d12_42 (pc' := 43) rfl rfl rfl ?_
  refine g_virtual X1 hx hZ (y := (⟨"com/example/hublane/hublane/core/Arc", "weight", "()D"⟩ : MethodName)) hown (hw _ (List.mem_of_getElem? (i := 91) rfl)) (hw _ (List.mem_of_getElem? (i := 92) rfl)) (hw _ (List.mem_of_getElem? (i := 94) rfl)) (hw _ (List.mem_of_getElem? (i := 93) rfl)) (hw _ (List.mem_of_getElem? (i := 37) rfl)) (hw _ (List.mem_of_getElem? (i := 95) rfl)) (by decide) Ea (argsL := []) (rest := []) (c_wt l Z a0 hw [] a wt h0 n0 Z0 Fw) pd_8 rfl rfl (hb hby d12_43) e1 (by rw [hml]; rfl) (pc' := 46) rfl (by decide) (W := 0) (Nat.le_of_eq rfl) (by decide) (by decide) (by decide) ?_
  intro v2 T2 L2 X2 hQ2
  have A2 := wk X2 hx hby
  have e2 : T2.heap = T2.heap := rfl
  obtain ⟨rfl, N2, hh2⟩ := hQ2
  have e2 : T2.heap = h0 := hh2
  show Go p e below m (Fini s 0 0 (fun v h L => v = some (.double wt) ∧ Fr n0 L ∧ h = h0)) T2 46 #[.val (.ref r), .val (.ref a)] [(.double wt)]
  refine s_goto A2 d12_46 (pc' := 50) (by decide) (by decide) ?_
  exact g_retD X2 hx hlk hret (hb hby d12_50) ⟨rfl, (Fr.app (Fr.app N0 N1) N2), e2⟩ (by decide) (by decide)
theorem ef_c_len_1 (m : MethodId) (x0 : Addr) (x1 : Addr) : entryFrame m #[(.ref x0), (.ref x1)] 2 = mkF m 0 #[.val (.ref x0), .val (.ref x1)] [] := by first | (simp [entryFrame, mkF, argsToLocals, Value.category, maxLocals]; done) | rfl
set_option maxRecDepth 65536 in
set_option maxHeartbeats 40000000 in
theorem c_len_1 (l : Launch) (Z : State) (a0 : Array Value) (hw : ∀ d ∈ tables_1, d.before a0 Z = true) (ws : List Jvm.Cond) (r a : Addr) (wt : UInt64) (h0 : Heap) (n0 : Nat) (Z0 : n0 ≤ h0.size) (Er : Exa Z h0 r "com/example/hublane/hublane/core/Metric") (Fo : Fld Z h0 r "java/lang/Enum" "ordinal" "I" (.int (1 : Int32))) (Ea : Exa Z h0 a "com/example/hublane/hublane/core/Arc") (Fw : Fld Z h0 a "com/example/hublane/hublane/core/Arc" "weight" "D" (.double wt)) :
    Ctr l Z (⟨"com/example/hublane/hublane/core/Metric", "length", "(Lcom/example/hublane/hublane/core/Arc;)D"⟩ : MethodName) prog_10_method_4_code 2 (some .double) ws ({ frames := 1, cells := 0, slots := 0, locals := 12 } : Room) #[(.ref r), (.ref a)] h0 (fun v h L => v = some (.double (4607182418800017408 : UInt64)) ∧ Fr n0 L ∧ h = h0) := by
  refine enter pn_12 ?_
  intro p e s m below meth c T0 X0 hx hby hml hret hlk hZ hown hnm e0
  have A0 := wk X0 hx hby
  have N0 := Fr.nil n0
  refine goIn (ef_c_len_1 m r a) ?_
  show Go p e below m (Fini s 0 0 (fun v h L => v = some (.double (4607182418800017408 : UInt64)) ∧ Fr n0 L ∧ h = h0)) T0 0 #[.val (.ref r), .val (.ref a)] []
  refine s_aloadN A0 d12_0 (pc' := 1) rfl rfl rfl ?_
  refine g_virtualUp X0 hx hZ (x := (⟨"com/example/hublane/hublane/core/Metric", "ordinal", "()I"⟩ : MethodName)) (y := (⟨"java/lang/Enum", "ordinal", "()I"⟩ : MethodName)) (owner := "java/lang/Enum") hown (hw _ (List.mem_of_getElem? (i := 80) rfl)) (hw _ (List.mem_of_getElem? (i := 81) rfl)) (hw _ (List.mem_of_getElem? (i := 82) rfl)) (by decide) (hw _ (List.mem_of_getElem? (i := 84) rfl)) (hw _ (List.mem_of_getElem? (i := 83) rfl)) (hw _ (List.mem_of_getElem? (i := 85) rfl)) (hw _ (List.mem_of_getElem? (i := 86) rfl)) Er (argsL := []) (rest := []) (c_ord l Z a0 hw [] r (1 : Int32) h0 n0 Z0 Fo) pd_7 rfl rfl (hb hby d12_1) e0 (by rw [hml]; rfl) (pc' := 4) rfl (by decide) (W := 0) (Nat.le_of_eq rfl) (by decide) (by decide) (by decide) ?_
  intro v1 T1 L1 X1 hQ1
  have A1 := wk X1 hx hby
  have e1 : T1.heap = T1.heap := rfl
  obtain ⟨rfl, N1, hh1⟩ := hQ1
  have e1 : T1.heap = h0 := hh1
  show Go p e below m (Fini s 0 0 (fun v h L => v = some (.double (4607182418800017408 : UInt64)) ∧ Fr n0 L ∧ h = h0)) T1 4 #[.val (.ref r), .val (.ref a)] [(.int (1 : Int32))]
  refine g_lsw X1 hx (hb hby d12_4) (by decide) (a := 1) (off := 45) (by decide) (by decide) (pc' := 49) (by decide) ?_
  refine s_dconst1 A1 d12_49 (pc' := 50) rfl (v := 4607182418800017408) rfl ?_
  exact g_retD X1 hx hlk hret (hb hby d12_50) ⟨rfl, (Fr.app N0 N1), e1⟩ (by decide) (by decide)
theorem ef_c_law (m : MethodId) (x0 : Int32) (x1 : Int32) (x2 : Int32) (x3 : Int32) (x4 : Int32) (x5 : Int32) : entryFrame m #[(.int x0), (.int x1), (.int x2), (.int x3), (.int x4), (.int x5)] maxLocals = mkF m 0 #[.val (.int x0), .val (.int x1), .val (.int x2), .val (.int x3), .val (.int x4), .val (.int x5), .unset, .unset, .unset, .unset, .unset, .unset, .unset, .unset, .unset, .unset, .unset, .unset, .unset, .unset, .unset, .unset, .unset, .unset, .unset] [] := by first | (simp [entryFrame, mkF, argsToLocals, Value.category, maxLocals]; done) | rfl
set_option maxRecDepth 65536 in
set_option maxHeartbeats 40000000 in
theorem c_law (l : Launch) (Z : State) (a0 : Array Value) (hw : ∀ d ∈ tables_1, d.before a0 Z = true) (ws : List Jvm.Cond) (p0 p1 p2 p3 p4 p5 cz : Int32) (r0 r1 : Addr) (h0 : Heap) (n0 : Nat) (Z0 : n0 ≤ h0.size) (O : Old Z n0 h0) (SC : Sta Z Z.heap "java/lang/String" "COMPACT_STRINGS" "Z" (.int cz)) (hcz : ¬ cz = 0) (S0 : Sta Z Z.heap "com/example/hublane/hublane/core/Metric" "WEIGHT" "Lcom/example/hublane/hublane/core/Metric;" (.ref r0)) (E0 : Exa Z Z.heap r0 "com/example/hublane/hublane/core/Metric") (G0 : Fld Z Z.heap r0 "java/lang/Enum" "ordinal" "I" (.int (0 : Int32))) (S1 : Sta Z Z.heap "com/example/hublane/hublane/core/Metric" "HOPS" "Lcom/example/hublane/hublane/core/Metric;" (.ref r1)) (E1 : Exa Z Z.heap r1 "com/example/hublane/hublane/core/Metric") (G1 : Fld Z Z.heap r1 "java/lang/Enum" "ordinal" "I" (.int (1 : Int32))) (hEL : EW Z a0 []) :
    CtrH l Z [] x code maxLocals ret ws room_1 #[(.int p0), (.int p1), (.int p2), (.int p3), (.int p4), (.int p5)] h0 (fun v h L => v = some (.int 1) ∧ Fr n0 L) := by
  refine enterH pn_0 ?_
  intro p e s m below meth c T0 X0 hx hby hml hret hlk hZ hown hnm e0 CH0 hS0
  have A0 := wk X0 hx hby
  have N0 := Fr.nil n0
  refine goIn (ef_c_law m p0 p1 p2 p3 p4 p5) ?_
  show Go p e below m (FinH Z [] s h0 room_1.cells room_1.slots (fun v h L => v = some (.int 1) ∧ Fr n0 L)) T0 0 #[.val (.int p0), .val (.int p1), .val (.int p2), .val (.int p3), .val (.int p4), .val (.int p5), .unset, .unset, .unset, .unset, .unset, .unset, .unset, .unset, .unset, .unset, .unset, .unset, .unset, .unset, .unset, .unset, .unset, .unset, .unset] []
  have b0 := i32b p0
  have b1 := i32b p1
  have b2 := i32b p2
  have b3 := i32b p3
  have b4 := i32b p4
  have b5 := i32b p5
  refine s_iloadN A0 at_0 (pc' := 1) rfl rfl ?_
  refine s_iconst A0 at_1 (pc' := 2) rfl (v := (1 : Int32)) (by decide) ?_
  obtain ⟨z1, hz1⟩ : ∃ v : Int32, (p0 &&& (1 : Int32)) = v := ⟨_, rfl⟩
  have q1 : 0 ≤ z1.toInt ∧ z1.toInt ≤ 1 := hz1 ▸ iand_b (M := 1) p0 (1 : Int32) (by decide) (by decide)
  refine s_iand A0 at_2 (pc' := 3) rfl hz1 ?_
  refine s_ifeq A0 at_3 (pY := 10) (pN := 6) (by decide) (by decide) rfl ?_ ?_
  · intro c3
    replace c3 := iz_eq c3
    refine s_iconst A0 at_10 (pc' := 11) rfl (v := (0 : Int32)) (by decide) ?_
    refine s_istore A0 at_11 (pc' := 13) rfl (ls' := #[.val (.int p0), .val (.int p1), .val (.int p2), .val (.int p3), .val (.int p4), .val (.int p5), .val (.int (0 : Int32)), .unset, .unset, .unset, .unset, .unset, .unset, .unset, .unset, .unset, .unset, .unset, .unset, .unset, .unset, .unset, .unset, .unset, .unset]) rfl ?_
    refine s_iload A0 at_13 (pc' := 15) rfl rfl ?_
    refine s_ifeq A0 at_15 (pY := 24) (pN := 18) (by decide) (by decide) rfl (fun _ => ?_) (fun c => absurd c (by decide))
    have Sm24 := Sta.ext O.2 S1
    refine g_getS X0 hx hZ hown (hw _ (List.mem_of_getElem? (i := 0) rfl)) Via.refl e0 Sm24 (hb hby at_24) (pc' := 27) rfl ?_
    intro T2 X2 e2
    have A2 := wk X2 hx hby
    refine s_astore A2 at_27 (pc' := 29) rfl (ls' := #[.val (.int p0), .val (.int p1), .val (.int p2), .val (.int p3), .val (.int p4), .val (.int p5), .val (.int (0 : Int32)), .val (.ref r1), .unset, .unset, .unset, .unset, .unset, .unset, .unset, .unset, .unset, .unset, .unset, .unset, .unset, .unset, .unset, .unset, .unset]) rfl rfl ?_
    refine s_iloadN A2 at_29 (pc' := 30) rfl rfl ?_
    refine g_ldcI X2 hx hZ (v := (2147483647 : Int32)) hown (hw _ (List.mem_of_getElem? (i := 3) rfl)) (hb hby at_30) (pc' := 32) rfl ?_
    obtain ⟨z3, hz3⟩ : ∃ v : Int32, (p1 &&& (2147483647 : Int32)) = v := ⟨_, rfl⟩
    have q3 : 0 ≤ z3.toInt ∧ z3.toInt ≤ 2147483647 := hz3 ▸ iand_b (M := 2147483647) p1 (2147483647 : Int32) (by decide) (by decide)
    refine s_iand A2 at_32 (pc' := 33) rfl hz3 ?_
    obtain ⟨z4, hz4⟩ : ∃ v : Int64, z3.toInt64 = v := ⟨_, rfl⟩
    have q4 : z4.toInt = z3.toInt := hz4 ▸ i2l_ex (n := z3.toInt) rfl
    refine s_i2l A2 at_33 (pc' := 34) rfl hz4 ?_
    refine s_lconst A2 at_34 (pc' := 35) rfl (v := 1) (by decide) ?_
    obtain ⟨z5, hz5⟩ : ∃ v : Int64, (z4 + (1 : Int64)) = v := ⟨_, rfl⟩
    have q5 : z5.toInt = (z3.toInt + 1) := hz5 ▸ ladd_ex (n := z3.toInt) (m := 1) q4 (by decide) (by omega)
    refine s_ladd A2 at_35 (pc' := 36) rfl hz5 ?_
    refine s_lstore A2 at_36 (pc' := 38) rfl (ls' := #[.val (.int p0), .val (.int p1), .val (.int p2), .val (.int p3), .val (.int p4), .val (.int p5), .val (.int (0 : Int32)), .val (.ref r1), .val (.long z5), .second, .unset, .unset, .unset, .unset, .unset, .unset, .unset, .unset, .unset, .unset, .unset, .unset, .unset, .unset, .unset]) rfl ?_
    refine s_iloadN A2 at_38 (pc' := 39) rfl rfl ?_
    refine g_ldcI X2 hx hZ (v := (65535 : Int32)) hown (hw _ (List.mem_of_getElem? (i := 4) rfl)) (hb hby at_39) (pc' := 41) rfl ?_
    obtain ⟨z6, hz6⟩ : ∃ v : Int32, (p2 &&& (65535 : Int32)) = v := ⟨_, rfl⟩
    have q6 : 0 ≤ z6.toInt ∧ z6.toInt ≤ 65535 := hz6 ▸ iand_b (M := 65535) p2 (65535 : Int32) (by decide) (by decide)
    refine s_iand A2 at_41 (pc' := 42) rfl hz6 ?_
    refine s_iconst A2 at_42 (pc' := 43) rfl (v := (1 : Int32)) (by decide) ?_
    obtain ⟨z7, hz7⟩ : ∃ v : Int32, (z6 + (1 : Int32)) = v := ⟨_, rfl⟩
    have q7 : z7.toInt = (z6.toInt + 1) := hz7 ▸ iadd_ex (n := z6.toInt) (m := 1) rfl (by decide) (by omega)
    refine s_iadd A2 at_43 (pc' := 44) rfl hz7 ?_
    obtain ⟨z8, hz8⟩ : ∃ v : UInt64, FP.i2d z7 = v := ⟨_, rfl⟩
    have q8 : Dy (z6.toInt + 1) 0 z8 := hz8 ▸ Dy.i2d' (n := (z6.toInt + 1)) q7
    refine s_i2d A2 at_44 (pc' := 45) rfl hz8 ?_
    refine s_dstore A2 at_45 (pc' := 47) rfl (ls' := #[.val (.int p0), .val (.int p1), .val (.int p2), .val (.int p3), .val (.int p4), .val (.int p5), .val (.int (0 : Int32)), .val (.ref r1), .val (.long z5), .second, .val (.double z8), .second, .unset, .unset, .unset, .unset, .unset, .unset, .unset, .unset, .unset, .unset, .unset, .unset, .unset]) rfl ?_
    refine s_lload A2 at_47 (pc' := 49) rfl rfl ?_
    obtain ⟨z9, hz9⟩ : ∃ v : UInt64, FP.l2d z5 = v := ⟨_, rfl⟩
    have q9 : Dy (z3.toInt + 1) 0 z9 := hz9 ▸ Dy.l2d' (n := (z3.toInt + 1)) q5 (by omega)
    refine s_l2d A2 at_49 (pc' := 50) rfl hz9 ?_
    refine s_dload A2 at_50 (pc' := 52) rfl rfl ?_
    obtain ⟨z10, hz10⟩ : ∃ v : UInt64, (FP.ddiv z9 z8) = v := ⟨_, rfl⟩
    have q10 : Jvm.FP.Core.DFin z10 := hz10 ▸ div_whole q9 q8 (by omega)
    refine s_ddiv A2 at_52 (pc' := 53) rfl hz10 (DFin.nn64 q10) ?_
    refine s_dstore A2 at_53 (pc' := 55) rfl (ls' := #[.val (.int p0), .val (.int p1), .val (.int p2), .val (.int p3), .val (.int p4), .val (.int p5), .val (.int (0 : Int32)), .val (.ref r1), .val (.long z5), .second, .val (.double z8), .second, .val (.double z10), .second, .unset, .unset, .unset, .unset, .unset, .unset, .unset, .unset, .unset, .unset, .unset]) rfl ?_
    refine s_iload A2 at_55 (pc' := 57) rfl rfl ?_
    refine s_sipush A2 at_57 (pc' := 60) rfl (v := (255 : Int32)) (by decide) ?_
    obtain ⟨z11, hz11⟩ : ∃ v : Int32, (p5 &&& (255 : Int32)) = v := ⟨_, rfl⟩
    have q11 : 0 ≤ z11.toInt ∧ z11.toInt ≤ 255 := hz11 ▸ iand_b (M := 255) p5 (255 : Int32) (by decide) (by decide)
    refine s_iand A2 at_60 (pc' := 61) rfl hz11 ?_
    refine s_iconst A2 at_61 (pc' := 62) rfl (v := (1 : Int32)) (by decide) ?_
    obtain ⟨z12, hz12⟩ : ∃ v : Int32, (z11 + (1 : Int32)) = v := ⟨_, rfl⟩
    have q12 : z12.toInt = (z11.toInt + 1) := hz12 ▸ iadd_ex (n := z11.toInt) (m := 1) rfl (by decide) (by omega)
    refine s_iadd A2 at_62 (pc' := 63) rfl hz12 ?_
    obtain ⟨z13, hz13⟩ : ∃ v : UInt64, FP.i2d z12 = v := ⟨_, rfl⟩
    have q13 : Dy (z11.toInt + 1) 0 z13 := hz13 ▸ Dy.i2d' (n := (z11.toInt + 1)) q12
    refine s_i2d A2 at_63 (pc' := 64) rfl hz13 ?_
    refine s_dstore A2 at_64 (pc' := 66) rfl (ls' := #[.val (.int p0), .val (.int p1), .val (.int p2), .val (.int p3), .val (.int p4), .val (.int p5), .val (.int (0 : Int32)), .val (.ref r1), .val (.long z5), .second, .val (.double z8), .second, .val (.double z10), .second, .val (.double z13), .second, .unset, .unset, .unset, .unset, .unset, .unset, .unset, .unset, .unset]) rfl ?_
    refine s_iload A2 at_66 (pc' := 68) rfl rfl ?_
    refine s_bipush A2 at_68 (pc' := 70) rfl (v := (8 : Int32)) (by decide) ?_
    obtain ⟨z14, hz14⟩ : ∃ v : Int32, (XT.ushr p5 (8 : Int32)) = v := ⟨_, rfl⟩
    refine s_iushr A2 at_70 (pc' := 71) rfl hz14 ?_
    refine s_sipush A2 at_71 (pc' := 74) rfl (v := (255 : Int32)) (by decide) ?_
    obtain ⟨z15, hz15⟩ : ∃ v : Int32, (z14 &&& (255 : Int32)) = v := ⟨_, rfl⟩
    have q15 : 0 ≤ z15.toInt ∧ z15.toInt ≤ 255 := hz15 ▸ iand_b (M := 255) z14 (255 : Int32) (by decide) (by decide)
    refine s_iand A2 at_74 (pc' := 75) rfl hz15 ?_
    obtain ⟨z16, hz16⟩ : ∃ v : UInt64, FP.i2d z15 = v := ⟨_, rfl⟩
    have q16 : Dy z15.toInt 0 z16 := hz16 ▸ Dy.i2d' (n := z15.toInt) rfl
    refine s_i2d A2 at_75 (pc' := 76) rfl hz16 ?_
    refine s_dstore A2 at_76 (pc' := 78) rfl (ls' := #[.val (.int p0), .val (.int p1), .val (.int p2), .val (.int p3), .val (.int p4), .val (.int p5), .val (.int (0 : Int32)), .val (.ref r1), .val (.long z5), .second, .val (.double z8), .second, .val (.double z10), .second, .val (.double z13), .second, .val (.double z16), .second, .unset, .unset, .unset, .unset, .unset, .unset, .unset]) rfl ?_
    refine s_iconst A2 at_78 (pc' := 79) rfl (v := (1 : Int32)) (by decide) ?_
    refine g_newarray X2 hx hZ e2 (hw _ (List.mem_of_getElem? (i := 5) rfl)) (by decide) (k0 := 1) (by decide) (by decide) (by decide) (by decide) (ad := "[C") (by decide) rfl (hb hby at_79) (pc' := 81) rfl ?_
    intro T17 h17 a17 X17 e17 E17 ga17 Ar17 Ex17
    have A17 := wk X17 hx hby
    have Ar17 : Ars Z h17 a17 .char [(.int 0)] := Ar17
    have la18 : a17 < h17.size := Ex17.lt
    have kp19 := Keep.ext (Keep.refl h0 []) E17
    refine s_astore A17 at_81 (pc' := 83) rfl (ls' := #[.val (.int p0), .val (.int p1), .val (.int p2), .val (.int p3), .val (.int p4), .val (.int p5), .val (.int (0 : Int32)), .val (.ref r1), .val (.long z5), .second, .val (.double z8), .second, .val (.double z10), .second, .val (.double z13), .second, .val (.double z16), .second, .val (.ref a17), .unset, .unset, .unset, .unset, .unset, .unset]) rfl rfl ?_
    refine s_aload A17 at_83 (pc' := 85) rfl rfl rfl ?_
    refine s_iconst A17 at_85 (pc' := 86) rfl (v := (0 : Int32)) (by decide) ?_
    refine s_iload A17 at_86 (pc' := 88) rfl rfl ?_
    refine s_bipush A17 at_88 (pc' := 90) rfl (v := (16 : Int32)) (by decide) ?_
    obtain ⟨z20, hz20⟩ : ∃ v : Int32, (XT.ushr p5 (16 : Int32)) = v := ⟨_, rfl⟩
    refine s_iushr A17 at_90 (pc' := 91) rfl hz20 ?_
    refine s_sipush A17 at_91 (pc' := 94) rfl (v := (255 : Int32)) (by decide) ?_
    obtain ⟨z21, hz21⟩ : ∃ v : Int32, (z20 &&& (255 : Int32)) = v := ⟨_, rfl⟩
    have q21 : 0 ≤ z21.toInt ∧ z21.toInt ≤ 255 := hz21 ▸ iand_b (M := 255) z20 (255 : Int32) (by decide) (by decide)
    refine s_iand A17 at_94 (pc' := 95) rfl hz21 ?_
    refine s_i2c A17 at_95 (pc' := 96) rfl (own_i2c (z := z21) (by omega)) ?_
    refine g_castore X17 hx hZ e17 Ar17 (by decide) (i := 0) (by decide) (by simp) (v := (.int z21)) (congrArg Value.int (own_i2c (z := z21) (by omega))) (hb hby at_96) (pc' := 97) rfl ?_
    intro T22 h22 X22 e22 W22 Ar22
    have A22 := wk X22 hx hby
    have Ar22 : Ars Z h22 a17 .char [(.int z21)] := Ar22
    have ge24 : h0.size ≤ a17 := by rw [ga17]; exact (Nat.le_refl _)
    have gn23 : n0 ≤ a17 := Nat.le_trans Z0 ge24
    have kp25 := Keep.wr kp19 W22 (Or.inr ge24)
    have fr25 := Fr.snoc X22 N0 gn23
    refine g_new X22 hx hZ hown (hw _ (List.mem_of_getElem? (i := 6) rfl)) (hw _ (List.mem_of_getElem? (i := 7) rfl)) (hw _ (List.mem_of_getElem? (i := 8) rfl)) e22 (hb hby at_97) (pc' := 100) rfl (by decide) (by decide) ?_
    intro T26 h26 a26 X26 e26 E26 ga26 Ex26 D26
    have A26 := wk X26 hx hby
    have la27 : a26 < h26.size := Ex26.lt
    have kp28 := Keep.ext kp25 E26
    have F26f0 : Fld Z h26 a26 "java/lang/String" "value" "[B" .null := D26 (Or.inr (hw _ (List.mem_of_getElem? (i := 34) rfl))) (ty := (.array .byte)) (by decide)
    have F26f1 : Fld Z h26 a26 "java/lang/String" "coder" "B" (.int 0) := D26 (Or.inr (hw _ (List.mem_of_getElem? (i := 32) rfl))) (ty := .byte) (by decide)
    refine s_dup A26 at_100 (pc' := 101) rfl rfl ?_
    refine s_aload A26 at_101 (pc' := 103) rfl rfl rfl ?_
    have f29 := (Ars.ext E26 Ar22)
    have f30 := (Old.ext' E26 (Old.wr (Old.ext' E17 O) W22 gn23))
    have sz33 : h0.size ≤ h22.size := (Nat.le_trans E17.1 (Nat.le_of_eq (Wr.size W22).symm))
    have ge32 : h0.size ≤ a26 := by rw [ga26]; exact sz33
    have gn31 : n0 ≤ a26 := Nat.le_trans Z0 ge32
    have sz35 : h17.size ≤ h22.size := (Nat.le_of_eq (Wr.size W22).symm)
    have ne34 : a17 ≠ a26 := by rw [ga26]; exact Nat.ne_of_lt (Nat.lt_of_lt_of_le la18 sz35)
    have sz37 : h0.size ≤ h26.size := (Nat.le_trans sz33 E26.1)
    have zs36 : n0 ≤ h26.size := Nat.le_trans Z0 sz37
    refine g_special X26 hx hZ (y := (⟨"java/lang/String", "<init>", "([C)V"⟩ : MethodName)) rfl hown (hw _ (List.mem_of_getElem? (i := 9) rfl)) (hw _ (List.mem_of_getElem? (i := 10) rfl)) (hw _ (List.mem_of_getElem? (i := 8) rfl)) (hw _ (List.mem_of_getElem? (i := 11) rfl)) (by decide) (a := a26) (argsL := [(.ref a17)]) (rest := [(.ref a26)]) (c_str_1 l Z a0 hw [] a26 a17 cz z21 h26 n0 zs36 Ex26 gn31 F26f0 F26f1 f29 ne34.symm f30 SC hcz (by omega)) pd_9 rfl rfl (hb hby at_103) e26 (by rw [hml]; rfl) (pc' := 106) rfl (by decide) (W := 1) (Nat.le_of_eq rfl) (by decide) (by decide) (by decide) ?_
    intro v38 T38 L38 X38 hQ38
    have A38 := wk X38 hx hby
    have e38 : T38.heap = T38.heap := rfl
    obtain ⟨rfl, N38, K38, ds38, -, -, -, -⟩ := hQ38
    have kp39 := Keep.trans kp28 K38 (allS (P := fun x => x ∈ [] ∨ h0.size ≤ x) (Or.inr ge32) all0)
    have fr38 := Fr.app fr25 N38
    show Go p e below m (FinH Z [] s h0 room_1.cells room_1.slots (fun v h L => v = some (.int 1) ∧ Fr n0 L)) T38 106 #[.val (.int p0), .val (.int p1), .val (.int p2), .val (.int p3), .val (.int p4), .val (.int p5), .val (.int (0 : Int32)), .val (.ref r1), .val (.long z5), .second, .val (.double z8), .second, .val (.double z10), .second, .val (.double z13), .second, .val (.double z16), .second, .val (.ref a17), .unset, .unset, .unset, .unset, .unset, .unset] [(.ref a26)]
    refine s_astore A38 at_106 (pc' := 108) rfl (ls' := #[.val (.int p0), .val (.int p1), .val (.int p2), .val (.int p3), .val (.int p4), .val (.int p5), .val (.int (0 : Int32)), .val (.ref r1), .val (.long z5), .second, .val (.double z8), .second, .val (.double z10), .second, .val (.double z13), .second, .val (.double z16), .second, .val (.ref a17), .val (.ref a26), .unset, .unset, .unset, .unset, .unset]) rfl rfl ?_
    refine g_new X38 hx hZ hown (hw _ (List.mem_of_getElem? (i := 35) rfl)) (hw _ (List.mem_of_getElem? (i := 36) rfl)) (hw _ (List.mem_of_getElem? (i := 37) rfl)) e38 (hb hby at_108) (pc' := 111) rfl (by decide) (by decide) ?_
    intro T40 h40 a40 X40 e40 E40 ga40 Ex40 D40
    have A40 := wk X40 hx hby
    have la41 : a40 < h40.size := Ex40.lt
    have kp42 := Keep.ext kp39 E40
    have F40f0 : Fld Z h40 a40 "com/example/hublane/hublane/core/Arc" "label" "Ljava/lang/String;" .null := D40 (Or.inr (hw _ (List.mem_of_getElem? (i := 64) rfl))) (ty := (.object "java/lang/String")) (by decide)
    have F40f1 : Fld Z h40 a40 "com/example/hublane/hublane/core/Arc" "source" "I" (.int 0) := D40 (Or.inr (hw _ (List.mem_of_getElem? (i := 66) rfl))) (ty := .int) (by decide)
    have F40f2 : Fld Z h40 a40 "com/example/hublane/hublane/core/Arc" "target" "I" (.int 0) := D40 (Or.inr (hw _ (List.mem_of_getElem? (i := 68) rfl))) (ty := .int) (by decide)
    have F40f3 : Fld Z h40 a40 "com/example/hublane/hublane/core/Arc" "weight" "D" (.double 0) := D40 (Or.inr (hw _ (List.mem_of_getElem? (i := 70) rfl))) (ty := .double) (by decide)
    have F40f4 : Fld Z h40 a40 "com/example/hublane/hublane/core/Arc" "capacity" "D" (.double 0) := D40 (Or.inr (hw _ (List.mem_of_getElem? (i := 72) rfl))) (ty := .double) (by decide)
    have F40f5 : Fld Z h40 a40 "com/example/hublane/hublane/core/Arc" "delay" "D" (.double 0) := D40 (Or.inr (hw _ (List.mem_of_getElem? (i := 74) rfl))) (ty := .double) (by decide)
    refine s_dup A40 at_111 (pc' := 112) rfl rfl ?_
    refine s_aload A40 at_112 (pc' := 114) rfl rfl rfl ?_
    refine s_iloadN A40 at_114 (pc' := 115) rfl rfl ?_
    refine s_iload A40 at_115 (pc' := 117) rfl rfl ?_
    refine s_dload A40 at_117 (pc' := 119) rfl rfl ?_
    refine s_dload A40 at_119 (pc' := 121) rfl rfl ?_
    refine s_dload A40 at_121 (pc' := 123) rfl rfl ?_
    have sz45 : h0.size ≤ T38.heap.size := (Nat.le_trans sz37 K38.1)
    have ge44 : h0.size ≤ a40 := by rw [ga40]; exact sz45
    have gn43 : n0 ≤ a40 := Nat.le_trans Z0 ge44
    obtain ⟨dz, hdz⟩ : ∃ z : Int32, z = cmpI z15.toInt 0 := ⟨_, rfl⟩
    have hdz' : dz = 0 ∨ dz = 1 := hdz ▸ own_c01 (by omega)
    have sz48 : h0.size ≤ h40.size := (Nat.le_trans sz45 E40.1)
    have zs47 : n0 ≤ h40.size := Nat.le_trans Z0 sz48
    refine g_specialH X40 hx hZ (y := (⟨"com/example/hublane/hublane/core/Arc", "<init>", "(Ljava/lang/String;IIDDD)V"⟩ : MethodName)) rfl hown (hw _ (List.mem_of_getElem? (i := 38) rfl)) (hw _ (List.mem_of_getElem? (i := 39) rfl)) (hw _ (List.mem_of_getElem? (i := 37) rfl)) (hw _ (List.mem_of_getElem? (i := 40) rfl)) (by decide) hS0 (Nat.zero_le _) hEL (CHr.nil (vm := s.vm) sz48) (a := a40) (argsL := [(.ref a26), (.int p3), (.int p4), (.double z10), (.double z13), (.double z16)]) (rest := [(.ref a40)]) (c_arc l Z a0 hw [] a40 a26 p3 p4 z10 z13 z16 dz h40 n0 zs47 Ex40 gn43 F40f0 F40f1 F40f2 F40f3 F40f4 F40f5 q10 q13.1 q16.1 (own_wp q9 q8 (by omega) (by omega) hz10) ((own_pd q13).trans (own_c1 (by omega))) ((own_pd q16).trans hdz.symm) hdz' hEL) pd_10 rfl rfl (hb hby at_123) e40 (by rw [hml]; rfl) (pc' := 126) rfl (by decide) (W := 1) (Nat.le_of_eq rfl) (by decide) (by decide) (by decide) ?_
    intro v46 T46 L46 X46 hS46 hZ hown ch46 sx46 hQ46
    have A46 := wk X46 hx hby
    have e46 : T46.heap = T46.heap := rfl
    obtain ⟨rfl, N46, K46, Ea46, Fw46⟩ := hQ46
    have kp49 := Keep.trans kp42 K46 (allS (P := fun x => x ∈ [] ∨ h0.size ≤ x) (Or.inr ge44) all0)
    have fr46 := Fr.app fr38 N46
    show Go p e below m (FinH Z [] s h0 room_1.cells room_1.slots (fun v h L => v = some (.int 1) ∧ Fr n0 L)) T46 126 #[.val (.int p0), .val (.int p1), .val (.int p2), .val (.int p3), .val (.int p4), .val (.int p5), .val (.int (0 : Int32)), .val (.ref r1), .val (.long z5), .second, .val (.double z8), .second, .val (.double z10), .second, .val (.double z13), .second, .val (.double z16), .second, .val (.ref a17), .val (.ref a26), .unset, .unset, .unset, .unset, .unset] [(.ref a40)]
    refine s_astore A46 at_126 (pc' := 128) rfl (ls' := #[.val (.int p0), .val (.int p1), .val (.int p2), .val (.int p3), .val (.int p4), .val (.int p5), .val (.int (0 : Int32)), .val (.ref r1), .val (.long z5), .second, .val (.double z8), .second, .val (.double z10), .second, .val (.double z13), .second, .val (.double z16), .second, .val (.ref a17), .val (.ref a26), .val (.ref a40), .unset, .unset, .unset, .unset]) rfl rfl ?_
    refine s_aload A46 at_128 (pc' := 130) rfl rfl rfl ?_
    refine s_aload A46 at_130 (pc' := 132) rfl rfl rfl ?_
    have f50 := (Old.keep (Old.ext' E40 (Old.keep f30 K38 (allS (P := fun x => n0 ≤ x) gn31 all0))) K46 (allS (P := fun x => n0 ≤ x) gn43 all0))
    have Em := Exa.ext f50.2 E1
    have Fm := Fld.ext f50.2 G1
    have sz53 : h0.size ≤ T46.heap.size := (Nat.le_trans sz48 K46.1)
    have zs52 : n0 ≤ T46.heap.size := Nat.le_trans Z0 sz53
    refine g_virtual X46 hx hZ (y := (⟨"com/example/hublane/hublane/core/Metric", "length", "(Lcom/example/hublane/hublane/core/Arc;)D"⟩ : MethodName)) hown (hw _ (List.mem_of_getElem? (i := 75) rfl)) (hw _ (List.mem_of_getElem? (i := 76) rfl)) (hw _ (List.mem_of_getElem? (i := 78) rfl)) (hw _ (List.mem_of_getElem? (i := 77) rfl)) (hw _ (List.mem_of_getElem? (i := 1) rfl)) (hw _ (List.mem_of_getElem? (i := 79) rfl)) (by decide) Em (argsL := [(.ref a40)]) (rest := []) (c_len_1 l Z a0 hw [] r1 a40 z10 T46.heap n0 zs52 Em Fm Ea46 Fw46) pd_11 rfl rfl (hb hby at_132) e46 (by rw [hml]; rfl) (pc' := 135) rfl (by decide) (W := 0) (Nat.le_of_eq rfl) (by decide) (by decide) (by decide) ?_
    intro v54 T54 L54 X54 hQ54
    have A54 := wk X54 hx hby
    have e54 : T54.heap = T54.heap := rfl
    obtain ⟨rfl, N54, hh54⟩ := hQ54
    have e54 : T54.heap = T46.heap := hh54
    have fr54 := Fr.app fr46 N54
    show Go p e below m (FinH Z [] s h0 room_1.cells room_1.slots (fun v h L => v = some (.int 1) ∧ Fr n0 L)) T54 135 #[.val (.int p0), .val (.int p1), .val (.int p2), .val (.int p3), .val (.int p4), .val (.int p5), .val (.int (0 : Int32)), .val (.ref r1), .val (.long z5), .second, .val (.double z8), .second, .val (.double z10), .second, .val (.double z13), .second, .val (.double z16), .second, .val (.ref a17), .val (.ref a26), .val (.ref a40), .unset, .unset, .unset, .unset] [(.double (4607182418800017408 : UInt64))]
    refine s_dstore A54 at_135 (pc' := 137) rfl (ls' := #[.val (.int p0), .val (.int p1), .val (.int p2), .val (.int p3), .val (.int p4), .val (.int p5), .val (.int (0 : Int32)), .val (.ref r1), .val (.long z5), .second, .val (.double z8), .second, .val (.double z10), .second, .val (.double z13), .second, .val (.double z16), .second, .val (.ref a17), .val (.ref a26), .val (.ref a40), .val (.double (4607182418800017408 : UInt64)), .second, .unset, .unset]) rfl ?_
    refine s_iload A54 at_137 (pc' := 139) rfl rfl ?_
    refine s_ifeq A54 at_139 (pY := 149) (pN := 142) (by decide) (by decide) rfl (fun _ => ?_) (fun c => absurd c (by decide))
    refine s_dconst1 A54 at_149 (pc' := 150) rfl (v := 4607182418800017408) rfl ?_
    refine s_dstore A54 at_150 (pc' := 152) rfl (ls' := #[.val (.int p0), .val (.int p1), .val (.int p2), .val (.int p3), .val (.int p4), .val (.int p5), .val (.int (0 : Int32)), .val (.ref r1), .val (.long z5), .second, .val (.double z8), .second, .val (.double z10), .second, .val (.double z13), .second, .val (.double z16), .second, .val (.ref a17), .val (.ref a26), .val (.ref a40), .val (.double (4607182418800017408 : UInt64)), .second, .val (.double (4607182418800017408 : UInt64)), .second]) rfl ?_
    refine s_dload A54 at_152 (pc' := 154) rfl rfl ?_
    refine s_dload A54 at_154 (pc' := 156) rfl rfl ?_
    refine s_dcmp A54 at_156 (pc' := 157) rfl (dcmpV_self (DFin.nn64 own_one.1) .l) ?_
    refine s_ifne A54 at_157 (pY := 164) (pN := 160) (by decide) (by decide) rfl (fun c => absurd c (by decide)) (fun _ => ?_)
    refine s_iconst A54 at_160 (pc' := 161) rfl (v := (1 : Int32)) (by decide) ?_
    refine s_goto A54 at_161 (pc' := 165) (by decide) (by decide) ?_
    exact h_ret X54 hx hZ hlk hS46 e54 (Nat.le_refl _) hEL (CHr.nil (vm := s.vm) sz53) hret rfl (Or.inl ⟨rfl, by simp, _, rfl⟩) (hb hby at_165) ⟨rfl, fr54⟩ (by decide) (by decide)
  · intro c3
    replace c3 := iz_ne c3
    refine s_iconst A0 at_6 (pc' := 7) rfl (v := (1 : Int32)) (by decide) ?_
    refine s_goto A0 at_7 (pc' := 11) (by decide) (by decide) ?_
    refine s_istore A0 at_11 (pc' := 13) rfl (ls' := #[.val (.int p0), .val (.int p1), .val (.int p2), .val (.int p3), .val (.int p4), .val (.int p5), .val (.int (1 : Int32)), .unset, .unset, .unset, .unset, .unset, .unset, .unset, .unset, .unset, .unset, .unset, .unset, .unset, .unset, .unset, .unset, .unset, .unset]) rfl ?_
    refine s_iload A0 at_13 (pc' := 15) rfl rfl ?_
    refine s_ifeq A0 at_15 (pY := 24) (pN := 18) (by decide) (by decide) rfl (fun c => absurd c (by decide)) (fun _ => ?_)
    have Sm18 := Sta.ext O.2 S0
    refine g_getS X0 hx hZ hown (hw _ (List.mem_of_getElem? (i := 89) rfl)) Via.refl e0 Sm18 (hb hby at_18) (pc' := 21) rfl ?_
    intro T55 X55 e55
    have A55 := wk X55 hx hby
    refine s_goto A55 at_21 (pc' := 27) (by decide) (by decide) ?_
    refine s_astore A55 at_27 (pc' := 29) rfl (ls' := #[.val (.int p0), .val (.int p1), .val (.int p2), .val (.int p3), .val (.int p4), .val (.int p5), .val (.int (1 : Int32)), .val (.ref r0), .unset, .unset, .unset, .unset, .unset, .unset, .unset, .unset, .unset, .unset, .unset, .unset, .unset, .unset, .unset, .unset, .unset]) rfl rfl ?_
    refine s_iloadN A55 at_29 (pc' := 30) rfl rfl ?_
    refine g_ldcI X55 hx hZ (v := (2147483647 : Int32)) hown (hw _ (List.mem_of_getElem? (i := 3) rfl)) (hb hby at_30) (pc' := 32) rfl ?_
    obtain ⟨z56, hz56⟩ : ∃ v : Int32, (p1 &&& (2147483647 : Int32)) = v := ⟨_, rfl⟩
    have q56 : 0 ≤ z56.toInt ∧ z56.toInt ≤ 2147483647 := hz56 ▸ iand_b (M := 2147483647) p1 (2147483647 : Int32) (by decide) (by decide)
    refine s_iand A55 at_32 (pc' := 33) rfl hz56 ?_
    obtain ⟨z57, hz57⟩ : ∃ v : Int64, z56.toInt64 = v := ⟨_, rfl⟩
    have q57 : z57.toInt = z56.toInt := hz57 ▸ i2l_ex (n := z56.toInt) rfl
    refine s_i2l A55 at_33 (pc' := 34) rfl hz57 ?_
    refine s_lconst A55 at_34 (pc' := 35) rfl (v := 1) (by decide) ?_
    obtain ⟨z58, hz58⟩ : ∃ v : Int64, (z57 + (1 : Int64)) = v := ⟨_, rfl⟩
    have q58 : z58.toInt = (z56.toInt + 1) := hz58 ▸ ladd_ex (n := z56.toInt) (m := 1) q57 (by decide) (by omega)
    refine s_ladd A55 at_35 (pc' := 36) rfl hz58 ?_
    refine s_lstore A55 at_36 (pc' := 38) rfl (ls' := #[.val (.int p0), .val (.int p1), .val (.int p2), .val (.int p3), .val (.int p4), .val (.int p5), .val (.int (1 : Int32)), .val (.ref r0), .val (.long z58), .second, .unset, .unset, .unset, .unset, .unset, .unset, .unset, .unset, .unset, .unset, .unset, .unset, .unset, .unset, .unset]) rfl ?_
    refine s_iloadN A55 at_38 (pc' := 39) rfl rfl ?_
    refine g_ldcI X55 hx hZ (v := (65535 : Int32)) hown (hw _ (List.mem_of_getElem? (i := 4) rfl)) (hb hby at_39) (pc' := 41) rfl ?_
    obtain ⟨z59, hz59⟩ : ∃ v : Int32, (p2 &&& (65535 : Int32)) = v := ⟨_, rfl⟩
    have q59 : 0 ≤ z59.toInt ∧ z59.toInt ≤ 65535 := hz59 ▸ iand_b (M := 65535) p2 (65535 : Int32) (by decide) (by decide)
    refine s_iand A55 at_41 (pc' := 42) rfl hz59 ?_
    refine s_iconst A55 at_42 (pc' := 43) rfl (v := (1 : Int32)) (by decide) ?_
    obtain ⟨z60, hz60⟩ : ∃ v : Int32, (z59 + (1 : Int32)) = v := ⟨_, rfl⟩
    have q60 : z60.toInt = (z59.toInt + 1) := hz60 ▸ iadd_ex (n := z59.toInt) (m := 1) rfl (by decide) (by omega)
    refine s_iadd A55 at_43 (pc' := 44) rfl hz60 ?_
    obtain ⟨z61, hz61⟩ : ∃ v : UInt64, FP.i2d z60 = v := ⟨_, rfl⟩
    have q61 : Dy (z59.toInt + 1) 0 z61 := hz61 ▸ Dy.i2d' (n := (z59.toInt + 1)) q60
    refine s_i2d A55 at_44 (pc' := 45) rfl hz61 ?_
    refine s_dstore A55 at_45 (pc' := 47) rfl (ls' := #[.val (.int p0), .val (.int p1), .val (.int p2), .val (.int p3), .val (.int p4), .val (.int p5), .val (.int (1 : Int32)), .val (.ref r0), .val (.long z58), .second, .val (.double z61), .second, .unset, .unset, .unset, .unset, .unset, .unset, .unset, .unset, .unset, .unset, .unset, .unset, .unset]) rfl ?_
    refine s_lload A55 at_47 (pc' := 49) rfl rfl ?_
    obtain ⟨z62, hz62⟩ : ∃ v : UInt64, FP.l2d z58 = v := ⟨_, rfl⟩
    have q62 : Dy (z56.toInt + 1) 0 z62 := hz62 ▸ Dy.l2d' (n := (z56.toInt + 1)) q58 (by omega)
    refine s_l2d A55 at_49 (pc' := 50) rfl hz62 ?_
    refine s_dload A55 at_50 (pc' := 52) rfl rfl ?_
    obtain ⟨z63, hz63⟩ : ∃ v : UInt64, (FP.ddiv z62 z61) = v := ⟨_, rfl⟩
    have q63 : Jvm.FP.Core.DFin z63 := hz63 ▸ div_whole q62 q61 (by omega)
    refine s_ddiv A55 at_52 (pc' := 53) rfl hz63 (DFin.nn64 q63) ?_
    refine s_dstore A55 at_53 (pc' := 55) rfl (ls' := #[.val (.int p0), .val (.int p1), .val (.int p2), .val (.int p3), .val (.int p4), .val (.int p5), .val (.int (1 : Int32)), .val (.ref r0), .val (.long z58), .second, .val (.double z61), .second, .val (.double z63), .second, .unset, .unset, .unset, .unset, .unset, .unset, .unset, .unset, .unset, .unset, .unset]) rfl ?_
    refine s_iload A55 at_55 (pc' := 57) rfl rfl ?_
    refine s_sipush A55 at_57 (pc' := 60) rfl (v := (255 : Int32)) (by decide) ?_
    obtain ⟨z64, hz64⟩ : ∃ v : Int32, (p5 &&& (255 : Int32)) = v := ⟨_, rfl⟩
    have q64 : 0 ≤ z64.toInt ∧ z64.toInt ≤ 255 := hz64 ▸ iand_b (M := 255) p5 (255 : Int32) (by decide) (by decide)
    refine s_iand A55 at_60 (pc' := 61) rfl hz64 ?_
    refine s_iconst A55 at_61 (pc' := 62) rfl (v := (1 : Int32)) (by decide) ?_
    obtain ⟨z65, hz65⟩ : ∃ v : Int32, (z64 + (1 : Int32)) = v := ⟨_, rfl⟩
    have q65 : z65.toInt = (z64.toInt + 1) := hz65 ▸ iadd_ex (n := z64.toInt) (m := 1) rfl (by decide) (by omega)
    refine s_iadd A55 at_62 (pc' := 63) rfl hz65 ?_
    obtain ⟨z66, hz66⟩ : ∃ v : UInt64, FP.i2d z65 = v := ⟨_, rfl⟩
    have q66 : Dy (z64.toInt + 1) 0 z66 := hz66 ▸ Dy.i2d' (n := (z64.toInt + 1)) q65
    refine s_i2d A55 at_63 (pc' := 64) rfl hz66 ?_
    refine s_dstore A55 at_64 (pc' := 66) rfl (ls' := #[.val (.int p0), .val (.int p1), .val (.int p2), .val (.int p3), .val (.int p4), .val (.int p5), .val (.int (1 : Int32)), .val (.ref r0), .val (.long z58), .second, .val (.double z61), .second, .val (.double z63), .second, .val (.double z66), .second, .unset, .unset, .unset, .unset, .unset, .unset, .unset, .unset, .unset]) rfl ?_
    refine s_iload A55 at_66 (pc' := 68) rfl rfl ?_
    refine s_bipush A55 at_68 (pc' := 70) rfl (v := (8 : Int32)) (by decide) ?_
    obtain ⟨z67, hz67⟩ : ∃ v : Int32, (XT.ushr p5 (8 : Int32)) = v := ⟨_, rfl⟩
    refine s_iushr A55 at_70 (pc' := 71) rfl hz67 ?_
    refine s_sipush A55 at_71 (pc' := 74) rfl (v := (255 : Int32)) (by decide) ?_
    obtain ⟨z68, hz68⟩ : ∃ v : Int32, (z67 &&& (255 : Int32)) = v := ⟨_, rfl⟩
    have q68 : 0 ≤ z68.toInt ∧ z68.toInt ≤ 255 := hz68 ▸ iand_b (M := 255) z67 (255 : Int32) (by decide) (by decide)
    refine s_iand A55 at_74 (pc' := 75) rfl hz68 ?_
    obtain ⟨z69, hz69⟩ : ∃ v : UInt64, FP.i2d z68 = v := ⟨_, rfl⟩
    have q69 : Dy z68.toInt 0 z69 := hz69 ▸ Dy.i2d' (n := z68.toInt) rfl
    refine s_i2d A55 at_75 (pc' := 76) rfl hz69 ?_
    refine s_dstore A55 at_76 (pc' := 78) rfl (ls' := #[.val (.int p0), .val (.int p1), .val (.int p2), .val (.int p3), .val (.int p4), .val (.int p5), .val (.int (1 : Int32)), .val (.ref r0), .val (.long z58), .second, .val (.double z61), .second, .val (.double z63), .second, .val (.double z66), .second, .val (.double z69), .second, .unset, .unset, .unset, .unset, .unset, .unset, .unset]) rfl ?_
    refine s_iconst A55 at_78 (pc' := 79) rfl (v := (1 : Int32)) (by decide) ?_
    refine g_newarray X55 hx hZ e55 (hw _ (List.mem_of_getElem? (i := 5) rfl)) (by decide) (k0 := 1) (by decide) (by decide) (by decide) (by decide) (ad := "[C") (by decide) rfl (hb hby at_79) (pc' := 81) rfl ?_
    intro T70 h70 a70 X70 e70 E70 ga70 Ar70 Ex70
    have A70 := wk X70 hx hby
    have Ar70 : Ars Z h70 a70 .char [(.int 0)] := Ar70
    have la71 : a70 < h70.size := Ex70.lt
    have kp72 := Keep.ext (Keep.refl h0 []) E70
    refine s_astore A70 at_81 (pc' := 83) rfl (ls' := #[.val (.int p0), .val (.int p1), .val (.int p2), .val (.int p3), .val (.int p4), .val (.int p5), .val (.int (1 : Int32)), .val (.ref r0), .val (.long z58), .second, .val (.double z61), .second, .val (.double z63), .second, .val (.double z66), .second, .val (.double z69), .second, .val (.ref a70), .unset, .unset, .unset, .unset, .unset, .unset]) rfl rfl ?_
    refine s_aload A70 at_83 (pc' := 85) rfl rfl rfl ?_
    refine s_iconst A70 at_85 (pc' := 86) rfl (v := (0 : Int32)) (by decide) ?_
    refine s_iload A70 at_86 (pc' := 88) rfl rfl ?_
    refine s_bipush A70 at_88 (pc' := 90) rfl (v := (16 : Int32)) (by decide) ?_
    obtain ⟨z73, hz73⟩ : ∃ v : Int32, (XT.ushr p5 (16 : Int32)) = v := ⟨_, rfl⟩
    refine s_iushr A70 at_90 (pc' := 91) rfl hz73 ?_
    refine s_sipush A70 at_91 (pc' := 94) rfl (v := (255 : Int32)) (by decide) ?_
    obtain ⟨z74, hz74⟩ : ∃ v : Int32, (z73 &&& (255 : Int32)) = v := ⟨_, rfl⟩
    have q74 : 0 ≤ z74.toInt ∧ z74.toInt ≤ 255 := hz74 ▸ iand_b (M := 255) z73 (255 : Int32) (by decide) (by decide)
    refine s_iand A70 at_94 (pc' := 95) rfl hz74 ?_
    refine s_i2c A70 at_95 (pc' := 96) rfl (own_i2c (z := z74) (by omega)) ?_
    refine g_castore X70 hx hZ e70 Ar70 (by decide) (i := 0) (by decide) (by simp) (v := (.int z74)) (congrArg Value.int (own_i2c (z := z74) (by omega))) (hb hby at_96) (pc' := 97) rfl ?_
    intro T75 h75 X75 e75 W75 Ar75
    have A75 := wk X75 hx hby
    have Ar75 : Ars Z h75 a70 .char [(.int z74)] := Ar75
    have ge77 : h0.size ≤ a70 := by rw [ga70]; exact (Nat.le_refl _)
    have gn76 : n0 ≤ a70 := Nat.le_trans Z0 ge77
    have kp78 := Keep.wr kp72 W75 (Or.inr ge77)
    have fr78 := Fr.snoc X75 N0 gn76
    refine g_new X75 hx hZ hown (hw _ (List.mem_of_getElem? (i := 6) rfl)) (hw _ (List.mem_of_getElem? (i := 7) rfl)) (hw _ (List.mem_of_getElem? (i := 8) rfl)) e75 (hb hby at_97) (pc' := 100) rfl (by decide) (by decide) ?_
    intro T79 h79 a79 X79 e79 E79 ga79 Ex79 D79
    have A79 := wk X79 hx hby
    have la80 : a79 < h79.size := Ex79.lt
    have kp81 := Keep.ext kp78 E79
    have F79f0 : Fld Z h79 a79 "java/lang/String" "value" "[B" .null := D79 (Or.inr (hw _ (List.mem_of_getElem? (i := 34) rfl))) (ty := (.array .byte)) (by decide)
    have F79f1 : Fld Z h79 a79 "java/lang/String" "coder" "B" (.int 0) := D79 (Or.inr (hw _ (List.mem_of_getElem? (i := 32) rfl))) (ty := .byte) (by decide)
    refine s_dup A79 at_100 (pc' := 101) rfl rfl ?_
    refine s_aload A79 at_101 (pc' := 103) rfl rfl rfl ?_
    have f82 := (Ars.ext E79 Ar75)
    have f83 := (Old.ext' E79 (Old.wr (Old.ext' E70 O) W75 gn76))
    have sz86 : h0.size ≤ h75.size := (Nat.le_trans E70.1 (Nat.le_of_eq (Wr.size W75).symm))
    have ge85 : h0.size ≤ a79 := by rw [ga79]; exact sz86
    have gn84 : n0 ≤ a79 := Nat.le_trans Z0 ge85
    have sz88 : h70.size ≤ h75.size := (Nat.le_of_eq (Wr.size W75).symm)
    have ne87 : a70 ≠ a79 := by rw [ga79]; exact Nat.ne_of_lt (Nat.lt_of_lt_of_le la71 sz88)
    have sz90 : h0.size ≤ h79.size := (Nat.le_trans sz86 E79.1)
    have zs89 : n0 ≤ h79.size := Nat.le_trans Z0 sz90
    refine g_special X79 hx hZ (y := (⟨"java/lang/String", "<init>", "([C)V"⟩ : MethodName)) rfl hown (hw _ (List.mem_of_getElem? (i := 9) rfl)) (hw _ (List.mem_of_getElem? (i := 10) rfl)) (hw _ (List.mem_of_getElem? (i := 8) rfl)) (hw _ (List.mem_of_getElem? (i := 11) rfl)) (by decide) (a := a79) (argsL := [(.ref a70)]) (rest := [(.ref a79)]) (c_str_1 l Z a0 hw [] a79 a70 cz z74 h79 n0 zs89 Ex79 gn84 F79f0 F79f1 f82 ne87.symm f83 SC hcz (by omega)) pd_9 rfl rfl (hb hby at_103) e79 (by rw [hml]; rfl) (pc' := 106) rfl (by decide) (W := 1) (Nat.le_of_eq rfl) (by decide) (by decide) (by decide) ?_
    intro v91 T91 L91 X91 hQ91
    have A91 := wk X91 hx hby
    have e91 : T91.heap = T91.heap := rfl
    obtain ⟨rfl, N91, K91, ds91, -, -, -, -⟩ := hQ91
    have kp92 := Keep.trans kp81 K91 (allS (P := fun x => x ∈ [] ∨ h0.size ≤ x) (Or.inr ge85) all0)
    have fr91 := Fr.app fr78 N91
    show Go p e below m (FinH Z [] s h0 room_1.cells room_1.slots (fun v h L => v = some (.int 1) ∧ Fr n0 L)) T91 106 #[.val (.int p0), .val (.int p1), .val (.int p2), .val (.int p3), .val (.int p4), .val (.int p5), .val (.int (1 : Int32)), .val (.ref r0), .val (.long z58), .second, .val (.double z61), .second, .val (.double z63), .second, .val (.double z66), .second, .val (.double z69), .second, .val (.ref a70), .unset, .unset, .unset, .unset, .unset, .unset] [(.ref a79)]
    refine s_astore A91 at_106 (pc' := 108) rfl (ls' := #[.val (.int p0), .val (.int p1), .val (.int p2), .val (.int p3), .val (.int p4), .val (.int p5), .val (.int (1 : Int32)), .val (.ref r0), .val (.long z58), .second, .val (.double z61), .second, .val (.double z63), .second, .val (.double z66), .second, .val (.double z69), .second, .val (.ref a70), .val (.ref a79), .unset, .unset, .unset, .unset, .unset]) rfl rfl ?_
    refine g_new X91 hx hZ hown (hw _ (List.mem_of_getElem? (i := 35) rfl)) (hw _ (List.mem_of_getElem? (i := 36) rfl)) (hw _ (List.mem_of_getElem? (i := 37) rfl)) e91 (hb hby at_108) (pc' := 111) rfl (by decide) (by decide) ?_
    intro T93 h93 a93 X93 e93 E93 ga93 Ex93 D93
    have A93 := wk X93 hx hby
    have la94 : a93 < h93.size := Ex93.lt
    have kp95 := Keep.ext kp92 E93
    have F93f0 : Fld Z h93 a93 "com/example/hublane/hublane/core/Arc" "label" "Ljava/lang/String;" .null := D93 (Or.inr (hw _ (List.mem_of_getElem? (i := 64) rfl))) (ty := (.object "java/lang/String")) (by decide)
    have F93f1 : Fld Z h93 a93 "com/example/hublane/hublane/core/Arc" "source" "I" (.int 0) := D93 (Or.inr (hw _ (List.mem_of_getElem? (i := 66) rfl))) (ty := .int) (by decide)
    have F93f2 : Fld Z h93 a93 "com/example/hublane/hublane/core/Arc" "target" "I" (.int 0) := D93 (Or.inr (hw _ (List.mem_of_getElem? (i := 68) rfl))) (ty := .int) (by decide)
    have F93f3 : Fld Z h93 a93 "com/example/hublane/hublane/core/Arc" "weight" "D" (.double 0) := D93 (Or.inr (hw _ (List.mem_of_getElem? (i := 70) rfl))) (ty := .double) (by decide)
    have F93f4 : Fld Z h93 a93 "com/example/hublane/hublane/core/Arc" "capacity" "D" (.double 0) := D93 (Or.inr (hw _ (List.mem_of_getElem? (i := 72) rfl))) (ty := .double) (by decide)
    have F93f5 : Fld Z h93 a93 "com/example/hublane/hublane/core/Arc" "delay" "D" (.double 0) := D93 (Or.inr (hw _ (List.mem_of_getElem? (i := 74) rfl))) (ty := .double) (by decide)
    refine s_dup A93 at_111 (pc' := 112) rfl rfl ?_
    refine s_aload A93 at_112 (pc' := 114) rfl rfl rfl ?_
    refine s_iloadN A93 at_114 (pc' := 115) rfl rfl ?_
    refine s_iload A93 at_115 (pc' := 117) rfl rfl ?_
    refine s_dload A93 at_117 (pc' := 119) rfl rfl ?_
    refine s_dload A93 at_119 (pc' := 121) rfl rfl ?_
    refine s_dload A93 at_121 (pc' := 123) rfl rfl ?_
    have sz98 : h0.size ≤ T91.heap.size := (Nat.le_trans sz90 K91.1)
    have ge97 : h0.size ≤ a93 := by rw [ga93]; exact sz98
    have gn96 : n0 ≤ a93 := Nat.le_trans Z0 ge97
    obtain ⟨dz, hdz⟩ : ∃ z : Int32, z = cmpI z68.toInt 0 := ⟨_, rfl⟩
    have hdz' : dz = 0 ∨ dz = 1 := hdz ▸ own_c01 (by omega)
    have sz101 : h0.size ≤ h93.size := (Nat.le_trans sz98 E93.1)
    have zs100 : n0 ≤ h93.size := Nat.le_trans Z0 sz101
    refine g_specialH X93 hx hZ (y := (⟨"com/example/hublane/hublane/core/Arc", "<init>", "(Ljava/lang/String;IIDDD)V"⟩ : MethodName)) rfl hown (hw _ (List.mem_of_getElem? (i := 38) rfl)) (hw _ (List.mem_of_getElem? (i := 39) rfl)) (hw _ (List.mem_of_getElem? (i := 37) rfl)) (hw _ (List.mem_of_getElem? (i := 40) rfl)) (by decide) hS0 (Nat.zero_le _) hEL (CHr.nil (vm := s.vm) sz101) (a := a93) (argsL := [(.ref a79), (.int p3), (.int p4), (.double z63), (.double z66), (.double z69)]) (rest := [(.ref a93)]) (c_arc l Z a0 hw [] a93 a79 p3 p4 z63 z66 z69 dz h93 n0 zs100 Ex93 gn96 F93f0 F93f1 F93f2 F93f3 F93f4 F93f5 q63 q66.1 q69.1 (own_wp q62 q61 (by omega) (by omega) hz63) ((own_pd q66).trans (own_c1 (by omega))) ((own_pd q69).trans hdz.symm) hdz' hEL) pd_10 rfl rfl (hb hby at_123) e93 (by rw [hml]; rfl) (pc' := 126) rfl (by decide) (W := 1) (Nat.le_of_eq rfl) (by decide) (by decide) (by decide) ?_
    intro v99 T99 L99 X99 hS99 hZ hown ch99 sx99 hQ99
    have A99 := wk X99 hx hby
    have e99 : T99.heap = T99.heap := rfl
    obtain ⟨rfl, N99, K99, Ea99, Fw99⟩ := hQ99
    have kp102 := Keep.trans kp95 K99 (allS (P := fun x => x ∈ [] ∨ h0.size ≤ x) (Or.inr ge97) all0)
    have fr99 := Fr.app fr91 N99
    show Go p e below m (FinH Z [] s h0 room_1.cells room_1.slots (fun v h L => v = some (.int 1) ∧ Fr n0 L)) T99 126 #[.val (.int p0), .val (.int p1), .val (.int p2), .val (.int p3), .val (.int p4), .val (.int p5), .val (.int (1 : Int32)), .val (.ref r0), .val (.long z58), .second, .val (.double z61), .second, .val (.double z63), .second, .val (.double z66), .second, .val (.double z69), .second, .val (.ref a70), .val (.ref a79), .unset, .unset, .unset, .unset, .unset] [(.ref a93)]
    refine s_astore A99 at_126 (pc' := 128) rfl (ls' := #[.val (.int p0), .val (.int p1), .val (.int p2), .val (.int p3), .val (.int p4), .val (.int p5), .val (.int (1 : Int32)), .val (.ref r0), .val (.long z58), .second, .val (.double z61), .second, .val (.double z63), .second, .val (.double z66), .second, .val (.double z69), .second, .val (.ref a70), .val (.ref a79), .val (.ref a93), .unset, .unset, .unset, .unset]) rfl rfl ?_
    refine s_aload A99 at_128 (pc' := 130) rfl rfl rfl ?_
    refine s_aload A99 at_130 (pc' := 132) rfl rfl rfl ?_
    have f103 := (Old.keep (Old.ext' E93 (Old.keep f83 K91 (allS (P := fun x => n0 ≤ x) gn84 all0))) K99 (allS (P := fun x => n0 ≤ x) gn96 all0))
    have Em := Exa.ext f103.2 E0
    have Fm := Fld.ext f103.2 G0
    have sz106 : h0.size ≤ T99.heap.size := (Nat.le_trans sz101 K99.1)
    have zs105 : n0 ≤ T99.heap.size := Nat.le_trans Z0 sz106
    refine g_virtual X99 hx hZ (y := (⟨"com/example/hublane/hublane/core/Metric", "length", "(Lcom/example/hublane/hublane/core/Arc;)D"⟩ : MethodName)) hown (hw _ (List.mem_of_getElem? (i := 75) rfl)) (hw _ (List.mem_of_getElem? (i := 76) rfl)) (hw _ (List.mem_of_getElem? (i := 78) rfl)) (hw _ (List.mem_of_getElem? (i := 77) rfl)) (hw _ (List.mem_of_getElem? (i := 1) rfl)) (hw _ (List.mem_of_getElem? (i := 79) rfl)) (by decide) Em (argsL := [(.ref a93)]) (rest := []) (c_len_0 l Z a0 hw [] r0 a93 z63 T99.heap n0 zs105 Em Fm Ea99 Fw99) pd_11 rfl rfl (hb hby at_132) e99 (by rw [hml]; rfl) (pc' := 135) rfl (by decide) (W := 0) (Nat.le_of_eq rfl) (by decide) (by decide) (by decide) ?_
    intro v107 T107 L107 X107 hQ107
    have A107 := wk X107 hx hby
    have e107 : T107.heap = T107.heap := rfl
    obtain ⟨rfl, N107, hh107⟩ := hQ107
    have e107 : T107.heap = T99.heap := hh107
    have fr107 := Fr.app fr99 N107
    show Go p e below m (FinH Z [] s h0 room_1.cells room_1.slots (fun v h L => v = some (.int 1) ∧ Fr n0 L)) T107 135 #[.val (.int p0), .val (.int p1), .val (.int p2), .val (.int p3), .val (.int p4), .val (.int p5), .val (.int (1 : Int32)), .val (.ref r0), .val (.long z58), .second, .val (.double z61), .second, .val (.double z63), .second, .val (.double z66), .second, .val (.double z69), .second, .val (.ref a70), .val (.ref a79), .val (.ref a93), .unset, .unset, .unset, .unset] [(.double z63)]
    refine s_dstore A107 at_135 (pc' := 137) rfl (ls' := #[.val (.int p0), .val (.int p1), .val (.int p2), .val (.int p3), .val (.int p4), .val (.int p5), .val (.int (1 : Int32)), .val (.ref r0), .val (.long z58), .second, .val (.double z61), .second, .val (.double z63), .second, .val (.double z66), .second, .val (.double z69), .second, .val (.ref a70), .val (.ref a79), .val (.ref a93), .val (.double z63), .second, .unset, .unset]) rfl ?_
    refine s_iload A107 at_137 (pc' := 139) rfl rfl ?_
    refine s_ifeq A107 at_139 (pY := 149) (pN := 142) (by decide) (by decide) rfl (fun c => absurd c (by decide)) (fun _ => ?_)
    refine s_dload A107 at_142 (pc' := 144) rfl rfl ?_
    refine s_dstore A107 at_144 (pc' := 146) rfl (ls' := #[.val (.int p0), .val (.int p1), .val (.int p2), .val (.int p3), .val (.int p4), .val (.int p5), .val (.int (1 : Int32)), .val (.ref r0), .val (.long z58), .second, .val (.double z61), .second, .val (.double z63), .second, .val (.double z66), .second, .val (.double z69), .second, .val (.ref a70), .val (.ref a79), .val (.ref a93), .val (.double z63), .second, .val (.double z63), .second]) rfl ?_
    refine s_goto A107 at_146 (pc' := 152) (by decide) (by decide) ?_
    refine s_dload A107 at_152 (pc' := 154) rfl rfl ?_
    refine s_dload A107 at_154 (pc' := 156) rfl rfl ?_
    refine s_dcmp A107 at_156 (pc' := 157) rfl (dcmpV_self (DFin.nn64 q63) .l) ?_
    refine s_ifne A107 at_157 (pY := 164) (pN := 160) (by decide) (by decide) rfl (fun c => absurd c (by decide)) (fun _ => ?_)
    refine s_iconst A107 at_160 (pc' := 161) rfl (v := (1 : Int32)) (by decide) ?_
    refine s_goto A107 at_161 (pc' := 165) (by decide) (by decide) ?_
    exact h_ret X107 hx hZ hlk hS99 e107 (Nat.le_refl _) hEL (CHr.nil (vm := s.vm) sz106) hret rfl (Or.inl ⟨rfl, by simp, _, rfl⟩) (hb hby at_165) ⟨rfl, fr107⟩ (by decide) (by decide)
set_option maxRecDepth 65536 in
set_option maxHeartbeats 40000000 in
theorem comes_1 {Post : Tables → Env → Array Value → State → Outcome → State → Prop} (hpost : ∀ tb e args s v u, (limb_1_1.after args s (.returned v) u = true ∧ limb_1_2.after args s (.returned v) u = true ∧ True) → ReturnedEndW s (.returned v) u (Jvm.fieldLocs frame_1_writes args s ++ Jvm.arrayLocs frame_1_arrays args s ++ Jvm.staticLocs frame_1_statics s) 24 1152 → Post tb e args s (.returned v) u) :
    ArmFor flags0 classFile x code maxLocals ret World_1 tables_1 room_1 Calls_1 rest_1 Pre_1 Post := by
  intro l hfl _ _ p e ha hc hk s m args below hf hA hF happ hP
  obtain ⟨hcalls, hrest, hpre⟩ := hP
  obtain ⟨-, -, -, hnamed, -, -, -, hat⟩ := (Spec.applies_iff hf).mp happ
  obtain ⟨hg, hn⟩ := and_e (Cond.before_iff.mp (show (Jvm.Cond.and given_1 narrow_1).before args s = true from hpre))
  obtain ⟨h1, g0⟩ := and_e hg
  obtain ⟨w0, w1, w2, w3, w4, w5, rfl⟩ : ∃ w0 w1 w2 w3 w4 w5 : Value, args = #[w0, w1, w2, w3, w4, w5] := by
    have hs : args.size = 6 := by simpa [Cond.value, given_1] using h1
    obtain ⟨L⟩ := args
    match L, hs with
    | [w0, w1, w2, w3, w4, w5], _ => exact ⟨w0, w1, w2, w3, w4, w5, rfl⟩
  have hw := fun d (hd : d ∈ tables_1) => atoms_spec (ws := Jvm.Cond.code x code maxLocals ret :: tables_1) hat d (List.mem_cons_of_mem _ hd)
  have hfit : Fit s := fun {y c} hc i hi => by
    obtain ⟨ha, rfl⟩ := Array.getElem?_eq_some_iff.mp hc
    have q := List.all_eq_true.mp ((Array.all_eq_true_iff_forall_mem.mp hF) _ (Array.getElem_mem ha)) i (List.mem_range.mpr hi)
    simpa [Array.getElem?_eq_getElem hi] using q
  obtain ⟨k0, g1⟩ := and_e g0
  obtain ⟨i0, j0⟩ := is_v k0
  obtain rfl : w0 = (.int i0) := Option.some.inj j0
  obtain ⟨k1, g2⟩ := and_e g1
  obtain ⟨i1, j1⟩ := is_v k1
  obtain rfl : w1 = (.int i1) := Option.some.inj j1
  obtain ⟨k2, g3⟩ := and_e g2
  obtain ⟨i2, j2⟩ := is_v k2
  obtain rfl : w2 = (.int i2) := Option.some.inj j2
  obtain ⟨k3, g4⟩ := and_e g3
  obtain ⟨i3, j3⟩ := is_v k3
  obtain rfl : w3 = (.int i3) := Option.some.inj j3
  obtain ⟨k4, g5⟩ := and_e g4
  obtain ⟨i4, j4⟩ := is_v k4
  obtain rfl : w4 = (.int i4) := Option.some.inj j4
  obtain ⟨i5, j5⟩ := is_v g5
  obtain rfl : w5 = (.int i5) := Option.some.inj j5
  have hsets := (atoms_of jdkStatics_1 (show (jdkStatics_1.foldr Cond.and restOwn_1).before _ s = true from by rw [← rest_1_c_eq]; exact hrest)).1
  obtain ⟨cz, ec⟩ := is_v (Cond.before_iff.mp (hsets _ (List.mem_of_getElem? (i := 1) rfl)))
  have SC : Sta s s.heap "java/lang/String" "COMPACT_STRINGS" "Z" (.int cz) := Sta.start ec (Or.inl (hsets _ (List.mem_of_getElem? (i := 0) rfl)))
  have hcz : ¬ cz = 0 := gotF (Cond.eq_ints ec (Term.int_eval 0)) (not_v (Cond.before_iff.mp (hsets _ (List.mem_of_getElem? (i := 2) rfl))))
  have hCH : CHv s [] s.vm s.heap := CHv.nil
  obtain ⟨x0, hn0a⟩ := and_e hn
  obtain ⟨f0, hn0b⟩ := and_e hn0a
  obtain ⟨r1, S1, E1, G1⟩ := pinI x0 f0 (hw _ (List.mem_of_getElem? (i := 1) rfl)) (hw _ (List.mem_of_getElem? (i := 2) rfl))
  obtain ⟨x1, hn1a⟩ := and_e hn0b
  obtain ⟨r0, S0, E0, G0⟩ := pinI x1 hn1a (hw _ (List.mem_of_getElem? (i := 1) rfl)) (hw _ (List.mem_of_getElem? (i := 90) rfl))
  obtain ⟨n, o, r1, r2, r3, _, L, rfl, ⟨rfl, N⟩, -, hq⟩ := c_law l s _ hw tables_1 i0 i1 i2 i3 i4 i5 cz r0 r1 s.heap s.heap.size (Nat.le_refl _) (Old.start s) SC hcz S0 E0 G0 S1 E1 G1 EW.nil p e ha hc hk s m _ below hf ((Spec.applies_iff_loose hf).mp happ).1 ⟨rfl, State.Warmed39.refl s, rfl, hCH⟩ trivial
  refine ⟨n, _, r1, r2, r3, hpost _ _ _ _ _ _ ⟨Cond.after_iff.mpr rfl, Cond.after_iff.mpr (eq_i res_at (Term.int_eval (1)) rfl), trivial⟩ ⟨hq.1, hq.2.1, hq.2.2.1, (hq.2.2.2.sift fun y hy => Or.inr (N y hy)).mono (by decide) (by decide)⟩⟩
theorem main_1_1 : Claimed_1_1 := comes_1 fun _ _ _ _ _ _ h hF => ⟨h.1, hF⟩
theorem main_1_2 : Claimed_1_2 := comes_1 fun _ _ _ _ _ _ h hF => ⟨h.2.1, hF⟩
end Jvm.Pilot.@@N@@
namespace Jvm.Pilot.@@N@@
open Jvm Jvm.ClassFile Sem Op Lib Jvm.Free Jvm.Stand Jvm.Pilot.@@N@@.Jvm.D
/-! MADE BY PROGRAM (witnessworld.py) out of the Statement's table words and the real class files: 27 classes; the members and pool entries that the words name. The judged class is class 1, her method 1. -/
namespace start1
open Jvm.ClassFile
def u (s : String) : CpInfo := .utf8 (stringToUtf16 s)
/-- a pool by its gaps: so many unusable entries, then the entry; so many at the end -/
def gap : Nat → List CpInfo → List CpInfo
  | 0, r => r
  | n + 1, r => .unusable :: gap n r
def poolList (es : List (Nat × CpInfo)) (last : Nat) : List CpInfo := es.foldr (fun e r => gap e.1 (e.2 :: r)) (gap last [])
def pool (es : List (Nat × CpInfo)) (last : Nat) : Array CpInfo := ⟨poolList es last⟩
def fileOf (pool : Array CpInfo) (this : Nat) (attrs : Array Attribute := #[]) (ms : Array MethodInfo := #[]) (fl : Nat := 33) (sup : Nat := 0) (ifs : Array Nat := #[]) (fds : Array FieldInfo := #[]) : ClassFile where
  minorVersion := 0
  majorVersion := 65
  constantPool := pool
  accessFlags := fl
  thisClass := this
  superClass := sup
  interfaces := ifs
  fields := fds
  methods := ms
  attributes := attrs
def plain (name : String) (sup : Option ClassId) : Class where
  name := name
  kind := .ordinary
  loader := none
  accessFlags := 33
  super := sup
  interfaces := #[]
  cf := none
  fields := #[]
  methods := #[]
  instanceTypes := #[]
  staticTypes := #[]
  resolved := #[]
  callSites := []
  init := .initialized
  statics := none
  mirror := none

def pool0 : Array CpInfo := pool [(5, u "<init>"), (0, u "()V"), (1, .class_ 10), (1, u "java/lang/Object")] 113

def k0c0 : Code := { maxStack := 0, maxLocals := 1, code := object_method_1_code, exceptionTable := #[], attributes := #[] }
def k0m0 : Method := { name := "<init>", desc := "()V", sig := { parameters := [], returnType := none }, accessFlags := 1, code := some k0c0 }
/-- java/lang/Object -/
def k0 : Class := { plain "java/lang/Object" none with
  accessFlags := 33
  interfaces := #[]
  cf := some (fileOf pool0 8 #[] #[{ accessFlags := 1, nameIndex := 5, descriptorIndex := 6, attributes := #[] }] 33 0 #[] #[])
  fields := #[]
  methods := #[k0m0]
  instanceTypes := #[]
  staticTypes := #[]
  resolved := Array.replicate 124 none
  statics := none }

def pool1 : Array CpInfo := pool [(2, .class_ 4), (1, u "java/lang/Object"), (0, u "<init>"), (0, u "()V"), (0, .fieldref 8 9), (0, .class_ 10), (0, .nameAndType 11 12), (0, u "com/example/hublane/hublane/core/Metric"), (0, u "WEIGHT"), (0, u "Lcom/example/hublane/hublane/core/Metric;"), (0, .fieldref 8 14), (0, .nameAndType 15 12), (0, u "HOPS"), (0, .integer 2147483647), (0, .integer 65535), (0, .class_ 19), (0, u "java/lang/String"), (0, .methodref 18 21), (0, .nameAndType 5 22), (0, u "([C)V"), (0, .class_ 24), (0, u "com/example/hublane/hublane/core/Arc"), (0, .methodref 23 26), (0, .nameAndType 5 27), (0, u "(Ljava/lang/String;IIDDD)V"), (0, .methodref 8 29), (0, .nameAndType 30 31), (0, u "length"), (0, u "(Lcom/example/hublane/hublane/core/Arc;)D"), (0, .class_ 33), (0, u "com/example/hublane/hublane/core/MetricLengthPinLaw"), (2, u "law"), (0, u "(IIIIII)Z")] 5

def k1m0 : Method := { name := "<init>", desc := "()V", sig := { parameters := [], returnType := none }, accessFlags := 1, code := none }
def k1c1 : Code := { maxStack := 11, maxLocals := 25, code := code, exceptionTable := #[], attributes := #[] }
def k1m1 : Method := { name := "law", desc := "(IIIIII)Z", sig := { parameters := [.int, .int, .int, .int, .int, .int], returnType := some .boolean }, accessFlags := 9, code := some k1c1 }
/-- com/example/hublane/hublane/core/MetricLengthPinLaw -/
def k1 : Class := { plain "com/example/hublane/hublane/core/MetricLengthPinLaw" (some 0) with
  accessFlags := 49
  interfaces := #[]
  cf := some (fileOf pool1 32 #[] #[{ accessFlags := 1, nameIndex := 5, descriptorIndex := 6, attributes := #[] }, { accessFlags := 9, nameIndex := 36, descriptorIndex := 37, attributes := #[] }] 49 2 #[] #[])
  fields := #[]
  methods := #[k1m0, k1m1]
  instanceTypes := #[]
  staticTypes := #[]
  resolved := Array.replicate 43 none
  statics := none }

def pool2 : Array CpInfo := pool [(1, .class_ 2), (0, u "java/lang/constant/Constable"), (0, .class_ 4), (0, u "java/lang/Object")] 6

/-- java/lang/constant/Constable -/
def k2 : Class := { plain "java/lang/constant/Constable" (some 0) with
  accessFlags := 1537
  interfaces := #[]
  cf := some (fileOf pool2 1 #[] #[] 1537 3 #[] #[])
  fields := #[]
  methods := #[]
  instanceTypes := #[]
  staticTypes := #[]
  resolved := Array.replicate 11 none
  statics := none }

def pool3 : Array CpInfo := pool [(1, .class_ 2), (0, u "java/lang/Comparable"), (0, .class_ 4), (0, u "java/lang/Object")] 7

/-- java/lang/Comparable -/
def k3 : Class := { plain "java/lang/Comparable" (some 0) with
  accessFlags := 1537
  interfaces := #[]
  cf := some (fileOf pool3 1 #[] #[] 1537 3 #[] #[])
  fields := #[]
  methods := #[]
  instanceTypes := #[]
  staticTypes := #[]
  resolved := Array.replicate 12 none
  statics := none }

def pool4 : Array CpInfo := pool [(1, .class_ 2), (0, u "java/io/Serializable"), (0, .class_ 4), (0, u "java/lang/Object")] 2

/-- java/io/Serializable -/
def k4 : Class := { plain "java/io/Serializable" (some 0) with
  accessFlags := 1537
  interfaces := #[]
  cf := some (fileOf pool4 1 #[] #[] 1537 3 #[] #[])
  fields := #[]
  methods := #[]
  instanceTypes := #[]
  staticTypes := #[]
  resolved := Array.replicate 7 none
  statics := none }

def pool5 : Array CpInfo := pool [(2, .class_ 4), (1, u "java/lang/Enum"), (0, u "name"), (0, u "Ljava/lang/String;"), (0, .fieldref 2 8), (0, .nameAndType 9 10), (0, u "ordinal"), (0, u "I"), (1, .class_ 14), (1, u "java/lang/Object"), (4, u "hash"), (86, .class_ 108), (1, u "java/lang/Enum$EnumDesc"), (2, .class_ 112), (0, u "java/lang/constant/Constable"), (0, .class_ 114), (0, u "java/lang/Comparable"), (0, .class_ 116), (0, u "java/io/Serializable"), (9, u "()I")] 77

def k5c0 : Code := { maxStack := 1, maxLocals := 1, code := jdk_37_method_2_code, exceptionTable := #[], attributes := #[] }
def k5m0 : Method := { name := "ordinal", desc := "()I", sig := { parameters := [], returnType := some .int }, accessFlags := 17, code := some k5c0 }
/-- java/lang/Enum -/
def k5 : Class := { plain "java/lang/Enum" (some 0) with
  accessFlags := 1057
  interfaces := #[2, 3, 4]
  cf := some (fileOf pool5 2 #[.nestMembers #[106]] #[{ accessFlags := 17, nameIndex := 9, descriptorIndex := 126, attributes := #[] }] 1057 12 #[111, 113, 115] #[{ accessFlags := 18, nameIndex := 5, descriptorIndex := 6, attributes := #[] }, { accessFlags := 18, nameIndex := 9, descriptorIndex := 10, attributes := #[] }, { accessFlags := 2, nameIndex := 19, descriptorIndex := 10, attributes := #[] }])
  fields := #[{ name := "name", type := (.object "java/lang/String"), accessFlags := 18, slot := 0, constantValue := 0 }, { name := "ordinal", type := .int, accessFlags := 18, slot := 1, constantValue := 0 }, { name := "hash", type := .int, accessFlags := 2, slot := 2, constantValue := 0 }]
  methods := #[k5m0]
  instanceTypes := #[(.object "java/lang/String"), .int, .int]
  staticTypes := #[]
  resolved := Array.replicate 204 none
  statics := none }

def pool6 : Array CpInfo := pool [(1, .class_ 2), (0, u "com/example/hublane/hublane/core/Metric"), (2, u "WEIGHT"), (0, u "Lcom/example/hublane/hublane/core/Metric;"), (2, u "HOPS"), (2, u "$VALUES"), (0, u "[Lcom/example/hublane/hublane/core/Metric;"), (6, .class_ 22), (1, u "java/lang/Enum"), (6, .methodref 1 30), (0, .nameAndType 31 32), (0, u "ordinal"), (0, u "()I"), (5, .methodref 39 40), (0, .class_ 41), (0, .nameAndType 42 43), (0, u "com/example/hublane/hublane/core/Arc"), (0, u "weight"), (0, u "()D"), (14, u "length"), (0, u "(Lcom/example/hublane/hublane/core/Arc;)D")] 5

def k6c0 : Code := { maxStack := 4, maxLocals := 2, code := prog_10_method_4_code, exceptionTable := #[], attributes := #[] }
def k6m0 : Method := { name := "length", desc := "(Lcom/example/hublane/hublane/core/Arc;)D", sig := { parameters := [(.object "com/example/hublane/hublane/core/Arc")], returnType := some .double }, accessFlags := 1, code := some k6c0 }
/-- com/example/hublane/hublane/core/Metric -/
def k6 : Class := { plain "com/example/hublane/hublane/core/Metric" (some 5) with
  accessFlags := 16433
  interfaces := #[]
  cf := some (fileOf pool6 1 #[] #[{ accessFlags := 1, nameIndex := 58, descriptorIndex := 59, attributes := #[] }] 16433 20 #[] #[{ accessFlags := 16409, nameIndex := 5, descriptorIndex := 6, attributes := #[] }, { accessFlags := 16409, nameIndex := 9, descriptorIndex := 6, attributes := #[] }, { accessFlags := 4122, nameIndex := 12, descriptorIndex := 13, attributes := #[] }])
  fields := #[{ name := "WEIGHT", type := (.object "com/example/hublane/hublane/core/Metric"), accessFlags := 16409, slot := 0, constantValue := 0 }, { name := "HOPS", type := (.object "com/example/hublane/hublane/core/Metric"), accessFlags := 16409, slot := 1, constantValue := 0 }, { name := "$VALUES", type := (.array (.object "com/example/hublane/hublane/core/Metric")), accessFlags := 4122, slot := 2, constantValue := 0 }]
  methods := #[k6m0]
  instanceTypes := #[(.object "java/lang/String"), .int, .int]
  staticTypes := #[(.object "com/example/hublane/hublane/core/Metric"), (.object "com/example/hublane/hublane/core/Metric"), (.array (.object "com/example/hublane/hublane/core/Metric"))]
  resolved := Array.replicate 65 none
  statics := some 0 }

def pool7 : Array CpInfo := pool [(2, .class_ 4), (1, u "java/lang/CharSequence"), (42, .class_ 48), (0, u "java/lang/CharSequence$1CodePointIterator"), (10, .class_ 60), (0, u "java/lang/CharSequence$1CharIterator"), (5, .class_ 67), (0, u "java/lang/Object")] 63

/-- java/lang/CharSequence -/
def k7 : Class := { plain "java/lang/CharSequence" (some 0) with
  accessFlags := 1537
  interfaces := #[]
  cf := some (fileOf pool7 2 #[.nestMembers #[47, 59]] #[] 1537 66 #[] #[])
  fields := #[]
  methods := #[]
  instanceTypes := #[]
  staticTypes := #[]
  resolved := Array.replicate 131 none
  statics := none }

def pool8 : Array CpInfo := pool [(1, .class_ 2), (0, u "java/lang/constant/ConstantDesc"), (0, .class_ 4), (0, u "java/lang/Object")] 32

/-- java/lang/constant/ConstantDesc -/
def k8 : Class := { plain "java/lang/constant/ConstantDesc" (some 0) with
  accessFlags := 1537
  interfaces := #[]
  cf := some (fileOf pool8 1 #[] #[] 1537 3 #[] #[])
  fields := #[]
  methods := #[]
  instanceTypes := #[]
  staticTypes := #[]
  resolved := Array.replicate 37 none
  statics := none }

def pool9 : Array CpInfo := pool [(1, .methodref 2 3), (0, .class_ 4), (0, .nameAndType 5 6), (0, u "java/lang/Object"), (0, u "<init>"), (0, u "()V"), (2, .fieldref 10 11), (0, .class_ 12), (0, .nameAndType 13 14), (0, u "java/lang/String"), (0, u "value"), (0, u "[B"), (0, .fieldref 10 16), (0, .nameAndType 17 18), (0, u "coder"), (0, u "B"), (2, u "hash"), (0, u "I"), (2, u "hashIsZero"), (0, u "Z"), (0, .methodref 10 28), (0, .nameAndType 5 29), (0, u "([CIILjava/lang/Void;)V"), (8, .fieldref 10 39), (0, .nameAndType 40 26), (0, u "COMPACT_STRINGS"), (1, .class_ 44), (1, u "java/lang/StringUTF16"), (0, u "compress"), (1, .methodref 42 48), (0, .nameAndType 49 50), (0, u "coderFromArrayLen"), (0, u "([BI)B"), (126, .methodref 42 178), (0, .nameAndType 45 179), (0, u "([CII)[B"), (395, .class_ 576), (0, u "java/lang/CharSequence"), (22, u "CASE_INSENSITIVE_ORDER"), (0, u "Ljava/util/Comparator;"), (409, u "([C)V"), (90, u "serialPersistentFields"), (0, u "[Ljava/io/ObjectStreamField;"), (0, .class_ 1104), (0, u "java/lang/String$CaseInsensitiveComparator"), (1, .class_ 1107), (0, u "java/io/Serializable"), (0, .class_ 1109), (0, u "java/lang/Comparable"), (0, .class_ 1111), (0, u "java/lang/constant/Constable"), (0, .class_ 1113), (0, u "java/lang/constant/ConstantDesc"), (2, u "serialVersionUID"), (0, u "J"), (3, u "REPL"), (0, u "C"), (2, u "LATIN1"), (1, u "UTF16")] 323

def k9m0 : Method := { name := "<init>", desc := "()V", sig := { parameters := [], returnType := none }, accessFlags := 1, code := none }
def k9c1 : Code := { maxStack := 5, maxLocals := 2, code := jdk_42_method_3_code, exceptionTable := #[], attributes := #[] }
def k9m1 : Method := { name := "<init>", desc := "([C)V", sig := { parameters := [(.array .char)], returnType := none }, accessFlags := 1, code := some k9c1 }
def k9c2 : Code := { maxStack := 4, maxLocals := 6, code := jdk_42_method_149_code, exceptionTable := #[], attributes := #[] }
def k9m2 : Method := { name := "<init>", desc := "([CIILjava/lang/Void;)V", sig := { parameters := [(.array .char), .int, .int, (.object "java/lang/Void")], returnType := none }, accessFlags := 2, code := some k9c2 }
/-- java/lang/String -/
def k9 : Class := { plain "java/lang/String" (some 0) with
  accessFlags := 49
  interfaces := #[4, 3, 7, 2, 8]
  cf := some (fileOf pool9 10 #[.nestMembers #[1103]] #[{ accessFlags := 1, nameIndex := 5, descriptorIndex := 6, attributes := #[] }, { accessFlags := 1, nameIndex := 5, descriptorIndex := 1010, attributes := #[] }, { accessFlags := 2, nameIndex := 5, descriptorIndex := 29, attributes := #[] }] 49 2 #[1106, 1108, 575, 1110, 1112] #[{ accessFlags := 18, nameIndex := 13, descriptorIndex := 14, attributes := #[] }, { accessFlags := 18, nameIndex := 17, descriptorIndex := 18, attributes := #[] }, { accessFlags := 2, nameIndex := 21, descriptorIndex := 22, attributes := #[] }, { accessFlags := 2, nameIndex := 25, descriptorIndex := 26, attributes := #[] }, { accessFlags := 26, nameIndex := 1116, descriptorIndex := 1117, attributes := #[] }, { accessFlags := 24, nameIndex := 40, descriptorIndex := 26, attributes := #[] }, { accessFlags := 26, nameIndex := 1101, descriptorIndex := 1102, attributes := #[] }, { accessFlags := 26, nameIndex := 1121, descriptorIndex := 1122, attributes := #[] }, { accessFlags := 25, nameIndex := 599, descriptorIndex := 600, attributes := #[] }, { accessFlags := 24, nameIndex := 1125, descriptorIndex := 18, attributes := #[] }, { accessFlags := 24, nameIndex := 1127, descriptorIndex := 18, attributes := #[] }])
  fields := #[{ name := "value", type := (.array .byte), accessFlags := 18, slot := 0, constantValue := 0 }, { name := "coder", type := .byte, accessFlags := 18, slot := 1, constantValue := 0 }, { name := "hash", type := .int, accessFlags := 2, slot := 2, constantValue := 0 }, { name := "hashIsZero", type := .boolean, accessFlags := 2, slot := 3, constantValue := 0 }, { name := "serialVersionUID", type := .long, accessFlags := 26, slot := 0, constantValue := 0 }, { name := "COMPACT_STRINGS", type := .boolean, accessFlags := 24, slot := 1, constantValue := 0 }, { name := "serialPersistentFields", type := (.array (.object "java/io/ObjectStreamField")), accessFlags := 26, slot := 2, constantValue := 0 }, { name := "REPL", type := .char, accessFlags := 26, slot := 3, constantValue := 0 }, { name := "CASE_INSENSITIVE_ORDER", type := (.object "java/util/Comparator"), accessFlags := 25, slot := 4, constantValue := 0 }, { name := "LATIN1", type := .byte, accessFlags := 24, slot := 5, constantValue := 0 }, { name := "UTF16", type := .byte, accessFlags := 24, slot := 6, constantValue := 0 }]
  methods := #[k9m0, k9m1, k9m2]
  instanceTypes := #[(.array .byte), .byte, .int, .boolean]
  staticTypes := #[.long, .boolean, (.array (.object "java/io/ObjectStreamField")), .char, (.object "java/util/Comparator"), .byte, .byte]
  resolved := Array.replicate 1451 none
  statics := some 1 }

def pool10 : Array CpInfo := pool [(6, .class_ 8), (1, u "java/lang/Object"), (0, u "<init>"), (0, u "()V"), (1, .class_ 14), (1, u "java/lang/StringUTF16"), (31, u "$assertionsDisabled"), (0, u "Z"), (13, u "HI_BYTE_SHIFT"), (0, u "I"), (2, u "LO_BYTE_SHIFT"), (49, .methodref 12 116), (0, .nameAndType 117 118), (0, u "compress"), (0, u "([CI[BII)I"), (3, u "([CII)[B"), (138, u "coderFromArrayLen"), (0, u "([BI)B"), (106, .class_ 371), (1, u "java/lang/StringUTF16$LinesSpliterator"), (58, u "MAX_LENGTH"), (196, .class_ 628), (0, u "java/lang/StringUTF16$CodePointsSpliterator"), (0, .class_ 630), (0, u "java/lang/StringUTF16$CharsSpliterator")] 4

def k10m0 : Method := { name := "<init>", desc := "()V", sig := { parameters := [], returnType := none }, accessFlags := 0, code := none }
def k10c1 : Code := { maxStack := 2, maxLocals := 2, code := jdk_52_method_15_code, exceptionTable := #[], attributes := #[] }
def k10m1 : Method := { name := "coderFromArrayLen", desc := "([BI)B", sig := { parameters := [(.array .byte), .int], returnType := some .byte }, accessFlags := 8, code := some k10c1 }
def k10c2 : Code := { maxStack := 5, maxLocals := 6, code := jdk_52_method_16_code, exceptionTable := #[], attributes := #[] }
def k10m2 : Method := { name := "compress", desc := "([CII)[B", sig := { parameters := [(.array .char), .int, .int], returnType := some (.array .byte) }, accessFlags := 9, code := some k10c2 }
def k10c3 : Code := { maxStack := 3, maxLocals := 7, code := jdk_52_method_21_code, exceptionTable := #[], attributes := #[] }
def k10m3 : Method := { name := "compress", desc := "([CI[BII)I", sig := { parameters := [(.array .char), .int, (.array .byte), .int, .int], returnType := some .int }, accessFlags := 9, code := some k10c3 }
/-- java/lang/StringUTF16 -/
def k10 : Class := { plain "java/lang/StringUTF16" (some 0) with
  accessFlags := 48
  interfaces := #[]
  cf := some (fileOf pool10 12 #[.nestMembers #[627, 629, 369]] #[{ accessFlags := 0, nameIndex := 9, descriptorIndex := 10, attributes := #[] }, { accessFlags := 8, nameIndex := 261, descriptorIndex := 262, attributes := #[] }, { accessFlags := 9, nameIndex := 117, descriptorIndex := 122, attributes := #[] }, { accessFlags := 9, nameIndex := 117, descriptorIndex := 118, attributes := #[] }] 48 6 #[] #[{ accessFlags := 26, nameIndex := 61, descriptorIndex := 62, attributes := #[] }, { accessFlags := 26, nameIndex := 65, descriptorIndex := 62, attributes := #[] }, { accessFlags := 24, nameIndex := 430, descriptorIndex := 62, attributes := #[] }, { accessFlags := 4120, nameIndex := 46, descriptorIndex := 47, attributes := #[] }])
  fields := #[{ name := "HI_BYTE_SHIFT", type := .int, accessFlags := 26, slot := 0, constantValue := 0 }, { name := "LO_BYTE_SHIFT", type := .int, accessFlags := 26, slot := 1, constantValue := 0 }, { name := "MAX_LENGTH", type := .int, accessFlags := 24, slot := 2, constantValue := 0 }, { name := "$assertionsDisabled", type := .boolean, accessFlags := 4120, slot := 3, constantValue := 0 }]
  methods := #[k10m0, k10m1, k10m2, k10m3]
  instanceTypes := #[]
  staticTypes := #[.int, .int, .int, .boolean]
  resolved := Array.replicate 635 none
  statics := none }

def pool11 : Array CpInfo := pool [(1, .methodref 2 3), (0, .class_ 4), (0, .nameAndType 5 6), (0, u "java/lang/Object"), (0, u "<init>"), (0, u "()V"), (0, .class_ 8), (0, u "java/lang/Record")] 13

def k11c0 : Code := { maxStack := 1, maxLocals := 1, code := jdk_30_method_1_code, exceptionTable := #[], attributes := #[] }
def k11m0 : Method := { name := "<init>", desc := "()V", sig := { parameters := [], returnType := none }, accessFlags := 4, code := some k11c0 }
/-- java/lang/Record -/
def k11 : Class := { plain "java/lang/Record" (some 0) with
  accessFlags := 1057
  interfaces := #[]
  cf := some (fileOf pool11 7 #[] #[{ accessFlags := 4, nameIndex := 5, descriptorIndex := 6, attributes := #[] }] 1057 2 #[] #[])
  fields := #[]
  methods := #[k11m0]
  instanceTypes := #[]
  staticTypes := #[]
  resolved := Array.replicate 22 none
  statics := none }

def pool12 : Array CpInfo := pool [(1, .methodref 2 3), (0, .class_ 4), (0, .nameAndType 5 6), (0, u "java/lang/Record"), (0, u "<init>"), (0, u "()V"), (0, .string 8), (0, u "label"), (0, .methodref 10 11), (0, .class_ 12), (0, .nameAndType 13 14), (0, u "java/util/Objects"), (0, u "requireNonNull"), (0, u "(Ljava/lang/Object;Ljava/lang/String;)Ljava/lang/Object;"), (0, .methodref 16 17), (0, .class_ 18), (0, .nameAndType 19 20), (0, u "java/lang/Double"), (0, u "isFinite"), (0, u "(D)Z"), (11, .fieldref 33 34), (0, .class_ 35), (0, .nameAndType 8 36), (0, u "com/example/hublane/hublane/core/Arc"), (0, u "Ljava/lang/String;"), (0, .fieldref 33 38), (0, .nameAndType 39 40), (0, u "source"), (0, u "I"), (0, .fieldref 33 42), (0, .nameAndType 43 40), (0, u "target"), (0, .fieldref 33 45), (0, .nameAndType 46 47), (0, u "weight"), (0, u "D"), (0, .fieldref 33 49), (0, .nameAndType 50 47), (0, u "capacity"), (0, .fieldref 33 52), (0, .nameAndType 53 47), (0, u "delay"), (12, u "(Ljava/lang/String;IIDDD)V"), (9, u "()D")] 37

def k12c0 : Code := { maxStack := 4, maxLocals := 10, code := prog_2_method_1_code, exceptionTable := #[], attributes := #[] }
def k12m0 : Method := { name := "<init>", desc := "(Ljava/lang/String;IIDDD)V", sig := { parameters := [(.object "java/lang/String"), .int, .int, .double, .double, .double], returnType := none }, accessFlags := 1, code := some k12c0 }
def k12c1 : Code := { maxStack := 2, maxLocals := 1, code := prog_2_method_8_code, exceptionTable := #[], attributes := #[] }
def k12m1 : Method := { name := "weight", desc := "()D", sig := { parameters := [], returnType := some .double }, accessFlags := 1, code := some k12c1 }
/-- com/example/hublane/hublane/core/Arc -/
def k12 : Class := { plain "com/example/hublane/hublane/core/Arc" (some 11) with
  accessFlags := 49
  interfaces := #[]
  cf := some (fileOf pool12 33 #[] #[{ accessFlags := 1, nameIndex := 5, descriptorIndex := 66, attributes := #[] }, { accessFlags := 1, nameIndex := 46, descriptorIndex := 76, attributes := #[] }] 49 2 #[] #[{ accessFlags := 18, nameIndex := 8, descriptorIndex := 36, attributes := #[] }, { accessFlags := 18, nameIndex := 39, descriptorIndex := 40, attributes := #[] }, { accessFlags := 18, nameIndex := 43, descriptorIndex := 40, attributes := #[] }, { accessFlags := 18, nameIndex := 46, descriptorIndex := 47, attributes := #[] }, { accessFlags := 18, nameIndex := 50, descriptorIndex := 47, attributes := #[] }, { accessFlags := 18, nameIndex := 53, descriptorIndex := 47, attributes := #[] }])
  fields := #[{ name := "label", type := (.object "java/lang/String"), accessFlags := 18, slot := 0, constantValue := 0 }, { name := "source", type := .int, accessFlags := 18, slot := 1, constantValue := 0 }, { name := "target", type := .int, accessFlags := 18, slot := 2, constantValue := 0 }, { name := "weight", type := .double, accessFlags := 18, slot := 3, constantValue := 0 }, { name := "capacity", type := .double, accessFlags := 18, slot := 4, constantValue := 0 }, { name := "delay", type := .double, accessFlags := 18, slot := 5, constantValue := 0 }]
  methods := #[k12m0, k12m1]
  instanceTypes := #[(.object "java/lang/String"), .int, .int, .double, .double, .double]
  staticTypes := #[]
  resolved := Array.replicate 114 none
  statics := none }

def pool13 : Array CpInfo := pool [(2, .class_ 4), (1, u "java/lang/Object"), (0, u "<init>"), (0, u "()V"), (35, .class_ 44), (1, u "java/util/Objects"), (0, u "requireNonNull"), (48, u "(Ljava/lang/Object;Ljava/lang/String;)Ljava/lang/Object;")] 89

def k13m0 : Method := { name := "<init>", desc := "()V", sig := { parameters := [], returnType := none }, accessFlags := 2, code := none }
def k13c1 : Code := { maxStack := 3, maxLocals := 2, code := jdk_31_method_11_code, exceptionTable := #[], attributes := #[] }
def k13m1 : Method := { name := "requireNonNull", desc := "(Ljava/lang/Object;Ljava/lang/String;)Ljava/lang/Object;", sig := { parameters := [(.object "java/lang/Object"), (.object "java/lang/String")], returnType := some (.object "java/lang/Object") }, accessFlags := 9, code := some k13c1 }
/-- java/util/Objects -/
def k13 : Class := { plain "java/util/Objects" (some 0) with
  accessFlags := 49
  interfaces := #[]
  cf := some (fileOf pool13 42 #[] #[{ accessFlags := 2, nameIndex := 5, descriptorIndex := 6, attributes := #[] }, { accessFlags := 9, nameIndex := 45, descriptorIndex := 94, attributes := #[] }] 49 2 #[] #[])
  fields := #[]
  methods := #[k13m0, k13m1]
  instanceTypes := #[]
  staticTypes := #[]
  resolved := Array.replicate 184 none
  statics := none }

def pool14 : Array CpInfo := pool [(2, .class_ 4), (1, u "java/lang/Object"), (0, u "<init>"), (0, u "()V"), (1, .class_ 10), (1, u "java/lang/Number"), (2, .class_ 14), (0, u "java/io/Serializable"), (0, u "serialVersionUID"), (0, u "J")] 20

def k14m0 : Method := { name := "<init>", desc := "()V", sig := { parameters := [], returnType := none }, accessFlags := 1, code := none }
/-- java/lang/Number -/
def k14 : Class := { plain "java/lang/Number" (some 0) with
  accessFlags := 1057
  interfaces := #[4]
  cf := some (fileOf pool14 8 #[] #[{ accessFlags := 1, nameIndex := 5, descriptorIndex := 6, attributes := #[] }] 1057 2 #[13] #[{ accessFlags := 26, nameIndex := 15, descriptorIndex := 16, attributes := #[] }])
  fields := #[{ name := "serialVersionUID", type := .long, accessFlags := 26, slot := 0, constantValue := 0 }]
  methods := #[k14m0]
  instanceTypes := #[]
  staticTypes := #[.long]
  resolved := Array.replicate 37 none
  statics := none }

def pool15 : Array CpInfo := pool [(1, .class_ 2), (0, u "java/lang/Double"), (10, u "isFinite"), (0, u "(D)Z"), (8, .class_ 25), (1, u "java/lang/Math"), (12, .methodref 23 39), (0, .nameAndType 40 41), (0, u "abs"), (0, u "(D)D"), (69, .double 9218868437227405311), (2, .class_ 116), (1, u "java/lang/Number"), (3, u "value"), (0, u "D"), (51, u "TYPE"), (0, u "Ljava/lang/Class;"), (0, .class_ 176), (0, u "java/lang/Comparable"), (0, .class_ 178), (0, u "java/lang/constant/Constable"), (0, .class_ 180), (0, u "java/lang/constant/ConstantDesc"), (0, u "POSITIVE_INFINITY"), (3, u "NEGATIVE_INFINITY"), (2, u "NaN"), (2, u "MAX_VALUE"), (0, u "MIN_NORMAL"), (0, u "MIN_VALUE"), (2, u "SIZE"), (0, u "I"), (1, u "PRECISION"), (1, u "MAX_EXPONENT"), (1, u "MIN_EXPONENT"), (1, u "BYTES"), (3, u "serialVersionUID"), (0, u "J")] 79

def k15c0 : Code := { maxStack := 4, maxLocals := 2, code := jdk_117_method_8_code, exceptionTable := #[], attributes := #[] }
def k15m0 : Method := { name := "isFinite", desc := "(D)Z", sig := { parameters := [.double], returnType := some .boolean }, accessFlags := 9, code := some k15c0 }
/-- java/lang/Double -/
def k15 : Class := { plain "java/lang/Double" (some 14) with
  accessFlags := 49
  interfaces := #[3, 2, 8]
  cf := some (fileOf pool15 1 #[] #[{ accessFlags := 9, nameIndex := 13, descriptorIndex := 14, attributes := #[] }] 49 114 #[175, 177, 179] #[{ accessFlags := 25, nameIndex := 181, descriptorIndex := 121, attributes := #[] }, { accessFlags := 25, nameIndex := 185, descriptorIndex := 121, attributes := #[] }, { accessFlags := 25, nameIndex := 188, descriptorIndex := 121, attributes := #[] }, { accessFlags := 25, nameIndex := 191, descriptorIndex := 121, attributes := #[] }, { accessFlags := 25, nameIndex := 192, descriptorIndex := 121, attributes := #[] }, { accessFlags := 25, nameIndex := 193, descriptorIndex := 121, attributes := #[] }, { accessFlags := 25, nameIndex := 196, descriptorIndex := 197, attributes := #[] }, { accessFlags := 25, nameIndex := 199, descriptorIndex := 197, attributes := #[] }, { accessFlags := 25, nameIndex := 201, descriptorIndex := 197, attributes := #[] }, { accessFlags := 25, nameIndex := 203, descriptorIndex := 197, attributes := #[] }, { accessFlags := 25, nameIndex := 205, descriptorIndex := 197, attributes := #[] }, { accessFlags := 25, nameIndex := 173, descriptorIndex := 174, attributes := #[] }, { accessFlags := 18, nameIndex := 120, descriptorIndex := 121, attributes := #[] }, { accessFlags := 26, nameIndex := 209, descriptorIndex := 210, attributes := #[] }])
  fields := #[{ name := "POSITIVE_INFINITY", type := .double, accessFlags := 25, slot := 0, constantValue := 0 }, { name := "NEGATIVE_INFINITY", type := .double, accessFlags := 25, slot := 1, constantValue := 0 }, { name := "NaN", type := .double, accessFlags := 25, slot := 2, constantValue := 0 }, { name := "MAX_VALUE", type := .double, accessFlags := 25, slot := 3, constantValue := 0 }, { name := "MIN_NORMAL", type := .double, accessFlags := 25, slot := 4, constantValue := 0 }, { name := "MIN_VALUE", type := .double, accessFlags := 25, slot := 5, constantValue := 0 }, { name := "SIZE", type := .int, accessFlags := 25, slot := 6, constantValue := 0 }, { name := "PRECISION", type := .int, accessFlags := 25, slot := 7, constantValue := 0 }, { name := "MAX_EXPONENT", type := .int, accessFlags := 25, slot := 8, constantValue := 0 }, { name := "MIN_EXPONENT", type := .int, accessFlags := 25, slot := 9, constantValue := 0 }, { name := "BYTES", type := .int, accessFlags := 25, slot := 10, constantValue := 0 }, { name := "TYPE", type := (.object "java/lang/Class"), accessFlags := 25, slot := 11, constantValue := 0 }, { name := "value", type := .double, accessFlags := 18, slot := 0, constantValue := 0 }, { name := "serialVersionUID", type := .long, accessFlags := 26, slot := 12, constantValue := 0 }]
  methods := #[k15m0]
  instanceTypes := #[.double]
  staticTypes := #[.double, .double, .double, .double, .double, .double, .int, .int, .int, .int, .int, (.object "java/lang/Class"), .long]
  resolved := Array.replicate 290 none
  statics := none }

def pool16 : Array CpInfo := pool [(1, .class_ 2), (0, u "java/lang/Math"), (1, .class_ 6), (1, u "java/lang/Object"), (0, u "<init>"), (0, u "()V"), (5, u "(D)D"), (83, .class_ 100), (1, u "java/lang/Math$RandomNumberGeneratorHolder"), (23, u "abs"), (47, u "negativeZeroFloatBits"), (0, u "J"), (2, u "negativeZeroDoubleBits"), (68, u "$assertionsDisabled"), (0, u "Z"), (91, u "twoToTheDoubleScaleDown"), (0, u "D"), (4, u "twoToTheDoubleScaleUp"), (9, u "E"), (3, u "PI"), (2, u "TAU"), (2, u "DEGREES_TO_RADIANS"), (0, u "RADIANS_TO_DEGREES")] 94

def k16m0 : Method := { name := "<init>", desc := "()V", sig := { parameters := [], returnType := none }, accessFlags := 2, code := none }
def k16c1 : Code := { maxStack := 4, maxLocals := 2, code := jdk_29_method_64_code, exceptionTable := #[], attributes := #[] }
def k16m1 : Method := { name := "abs", desc := "(D)D", sig := { parameters := [.double], returnType := some .double }, accessFlags := 9, code := some k16c1 }
/-- java/lang/Math -/
def k16 : Class := { plain "java/lang/Math" (some 0) with
  accessFlags := 49
  interfaces := #[]
  cf := some (fileOf pool16 1 #[.nestMembers #[98]] #[{ accessFlags := 2, nameIndex := 7, descriptorIndex := 8, attributes := #[] }, { accessFlags := 9, nameIndex := 124, descriptorIndex := 14, attributes := #[] }] 49 4 #[] #[{ accessFlags := 25, nameIndex := 354, descriptorIndex := 339, attributes := #[] }, { accessFlags := 25, nameIndex := 358, descriptorIndex := 339, attributes := #[] }, { accessFlags := 25, nameIndex := 361, descriptorIndex := 339, attributes := #[] }, { accessFlags := 26, nameIndex := 364, descriptorIndex := 339, attributes := #[] }, { accessFlags := 26, nameIndex := 365, descriptorIndex := 339, attributes := #[] }, { accessFlags := 26, nameIndex := 172, descriptorIndex := 173, attributes := #[] }, { accessFlags := 26, nameIndex := 176, descriptorIndex := 173, attributes := #[] }, { accessFlags := 8, nameIndex := 344, descriptorIndex := 339, attributes := #[] }, { accessFlags := 8, nameIndex := 338, descriptorIndex := 339, attributes := #[] }, { accessFlags := 4120, nameIndex := 245, descriptorIndex := 246, attributes := #[] }])
  fields := #[{ name := "E", type := .double, accessFlags := 25, slot := 0, constantValue := 0 }, { name := "PI", type := .double, accessFlags := 25, slot := 1, constantValue := 0 }, { name := "TAU", type := .double, accessFlags := 25, slot := 2, constantValue := 0 }, { name := "DEGREES_TO_RADIANS", type := .double, accessFlags := 26, slot := 3, constantValue := 0 }, { name := "RADIANS_TO_DEGREES", type := .double, accessFlags := 26, slot := 4, constantValue := 0 }, { name := "negativeZeroFloatBits", type := .long, accessFlags := 26, slot := 5, constantValue := 0 }, { name := "negativeZeroDoubleBits", type := .long, accessFlags := 26, slot := 6, constantValue := 0 }, { name := "twoToTheDoubleScaleUp", type := .double, accessFlags := 8, slot := 7, constantValue := 0 }, { name := "twoToTheDoubleScaleDown", type := .double, accessFlags := 8, slot := 8, constantValue := 0 }, { name := "$assertionsDisabled", type := .boolean, accessFlags := 4120, slot := 9, constantValue := 0 }]
  methods := #[k16m0, k16m1]
  instanceTypes := #[]
  staticTypes := #[.double, .double, .double, .double, .double, .long, .long, .double, .double, .boolean]
  resolved := Array.replicate 460 none
  statics := none }

def pool17 : Array CpInfo := pool [(4, .class_ 6), (1, u "java/lang/Object"), (0, u "<init>"), (0, u "()V"), (5, .class_ 16), (1, u "java/lang/StringLatin1"), (104, u "$assertionsDisabled"), (0, u "Z"), (98, .class_ 223), (1, u "java/lang/StringLatin1$LinesSpliterator"), (166, .class_ 391), (0, u "java/lang/StringLatin1$CharsSpliterator")] 3

def k17m0 : Method := { name := "<init>", desc := "()V", sig := { parameters := [], returnType := none }, accessFlags := 0, code := none }
/-- java/lang/StringLatin1 -/
def k17 : Class := { plain "java/lang/StringLatin1" (some 0) with
  accessFlags := 48
  interfaces := #[]
  cf := some (fileOf pool17 14 #[.nestMembers #[390, 221]] #[{ accessFlags := 0, nameIndex := 7, descriptorIndex := 8, attributes := #[] }] 48 4 #[] #[{ accessFlags := 4120, nameIndex := 121, descriptorIndex := 122, attributes := #[] }])
  fields := #[{ name := "$assertionsDisabled", type := .boolean, accessFlags := 4120, slot := 0, constantValue := 0 }]
  methods := #[k17m0]
  instanceTypes := #[]
  staticTypes := #[.boolean]
  resolved := Array.replicate 395 none
  statics := none }

def pool18 : Array CpInfo := pool [(2, .class_ 4), (1, u "java/lang/Object"), (0, u "<init>"), (0, u "()V"), (17, .class_ 26), (1, u "jdk/internal/util/Preconditions"), (28, .class_ 56), (0, u "jdk/internal/util/Preconditions$4"), (57, .class_ 115), (0, u "jdk/internal/util/Preconditions$1"), (7, u "SIOOBE_FORMATTER"), (0, u "Ljava/util/function/BiFunction;"), (0, .class_ 126), (0, u "jdk/internal/util/Preconditions$2"), (3, u "AIOOBE_FORMATTER"), (0, .class_ 132), (0, u "jdk/internal/util/Preconditions$3"), (3, u "IOOBE_FORMATTER")] 57

def k18m0 : Method := { name := "<init>", desc := "()V", sig := { parameters := [], returnType := none }, accessFlags := 1, code := none }
/-- jdk/internal/util/Preconditions -/
def k18 : Class := { plain "jdk/internal/util/Preconditions" (some 0) with
  accessFlags := 33
  interfaces := #[]
  cf := some (fileOf pool18 24 #[.nestMembers #[55, 131, 125, 114]] #[{ accessFlags := 1, nameIndex := 5, descriptorIndex := 6, attributes := #[] }] 33 2 #[] #[{ accessFlags := 25, nameIndex := 123, descriptorIndex := 124, attributes := #[] }, { accessFlags := 25, nameIndex := 130, descriptorIndex := 124, attributes := #[] }, { accessFlags := 25, nameIndex := 136, descriptorIndex := 124, attributes := #[] }])
  fields := #[{ name := "SIOOBE_FORMATTER", type := (.object "java/util/function/BiFunction"), accessFlags := 25, slot := 0, constantValue := 0 }, { name := "AIOOBE_FORMATTER", type := (.object "java/util/function/BiFunction"), accessFlags := 25, slot := 1, constantValue := 0 }, { name := "IOOBE_FORMATTER", type := (.object "java/util/function/BiFunction"), accessFlags := 25, slot := 2, constantValue := 0 }]
  methods := #[k18m0]
  instanceTypes := #[]
  staticTypes := #[(.object "java/util/function/BiFunction"), (.object "java/util/function/BiFunction"), (.object "java/util/function/BiFunction")]
  resolved := Array.replicate 194 none
  statics := some 2 }

def pool19 : Array CpInfo := pool [(9, u "<init>"), (6, .class_ 18), (1, u "java/lang/Object"), (0, u "()V"), (1, .class_ 23), (1, u "jdk/internal/util/ArraysSupport"), (0, u "LOG2_ARRAY_LONG_INDEX_SCALE"), (0, u "I"), (2, u "U"), (0, u "Ljdk/internal/misc/Unsafe;"), (8, u "BIG_ENDIAN"), (0, u "Z"), (8, u "LOG2_BYTE_BIT_SIZE"), (4, u "LOG2_ARRAY_INT_INDEX_SCALE"), (54, u "JLA"), (0, u "Ljdk/internal/access/JavaLangAccess;"), (11, u "LOG2_ARRAY_BOOLEAN_INDEX_SCALE"), (9, u "LOG2_ARRAY_BYTE_INDEX_SCALE"), (5, u "LOG2_ARRAY_CHAR_INDEX_SCALE"), (5, u "LOG2_ARRAY_SHORT_INDEX_SCALE"), (18, u "LOG2_ARRAY_FLOAT_INDEX_SCALE"), (24, u "LOG2_ARRAY_DOUBLE_INDEX_SCALE"), (89, u "T_BOOLEAN"), (2, u "T_CHAR"), (1, u "T_FLOAT"), (1, u "T_DOUBLE"), (1, u "T_BYTE"), (1, u "T_SHORT"), (1, u "T_INT"), (1, u "T_LONG"), (1, u "SOFT_MAX_ARRAY_LENGTH")] 83

def k19m0 : Method := { name := "<init>", desc := "()V", sig := { parameters := [], returnType := none }, accessFlags := 2, code := none }
/-- jdk/internal/util/ArraysSupport -/
def k19 : Class := { plain "jdk/internal/util/ArraysSupport" (some 0) with
  accessFlags := 33
  interfaces := #[]
  cf := some (fileOf pool19 21 #[] #[{ accessFlags := 2, nameIndex := 9, descriptorIndex := 19, attributes := #[] }] 33 16 #[] #[{ accessFlags := 24, nameIndex := 28, descriptorIndex := 29, attributes := #[] }, { accessFlags := 26, nameIndex := 38, descriptorIndex := 39, attributes := #[] }, { accessFlags := 25, nameIndex := 121, descriptorIndex := 25, attributes := #[] }, { accessFlags := 25, nameIndex := 131, descriptorIndex := 25, attributes := #[] }, { accessFlags := 25, nameIndex := 137, descriptorIndex := 25, attributes := #[] }, { accessFlags := 25, nameIndex := 143, descriptorIndex := 25, attributes := #[] }, { accessFlags := 25, nameIndex := 53, descriptorIndex := 25, attributes := #[] }, { accessFlags := 25, nameIndex := 24, descriptorIndex := 25, attributes := #[] }, { accessFlags := 25, nameIndex := 162, descriptorIndex := 25, attributes := #[] }, { accessFlags := 25, nameIndex := 187, descriptorIndex := 25, attributes := #[] }, { accessFlags := 26, nameIndex := 48, descriptorIndex := 25, attributes := #[] }, { accessFlags := 25, nameIndex := 277, descriptorIndex := 25, attributes := #[] }, { accessFlags := 25, nameIndex := 280, descriptorIndex := 25, attributes := #[] }, { accessFlags := 25, nameIndex := 282, descriptorIndex := 25, attributes := #[] }, { accessFlags := 25, nameIndex := 284, descriptorIndex := 25, attributes := #[] }, { accessFlags := 25, nameIndex := 286, descriptorIndex := 25, attributes := #[] }, { accessFlags := 25, nameIndex := 288, descriptorIndex := 25, attributes := #[] }, { accessFlags := 25, nameIndex := 290, descriptorIndex := 25, attributes := #[] }, { accessFlags := 25, nameIndex := 292, descriptorIndex := 25, attributes := #[] }, { accessFlags := 26, nameIndex := 108, descriptorIndex := 109, attributes := #[] }, { accessFlags := 25, nameIndex := 294, descriptorIndex := 25, attributes := #[] }])
  fields := #[{ name := "U", type := (.object "jdk/internal/misc/Unsafe"), accessFlags := 24, slot := 0, constantValue := 0 }, { name := "BIG_ENDIAN", type := .boolean, accessFlags := 26, slot := 1, constantValue := 0 }, { name := "LOG2_ARRAY_BOOLEAN_INDEX_SCALE", type := .int, accessFlags := 25, slot := 2, constantValue := 0 }, { name := "LOG2_ARRAY_BYTE_INDEX_SCALE", type := .int, accessFlags := 25, slot := 3, constantValue := 0 }, { name := "LOG2_ARRAY_CHAR_INDEX_SCALE", type := .int, accessFlags := 25, slot := 4, constantValue := 0 }, { name := "LOG2_ARRAY_SHORT_INDEX_SCALE", type := .int, accessFlags := 25, slot := 5, constantValue := 0 }, { name := "LOG2_ARRAY_INT_INDEX_SCALE", type := .int, accessFlags := 25, slot := 6, constantValue := 0 }, { name := "LOG2_ARRAY_LONG_INDEX_SCALE", type := .int, accessFlags := 25, slot := 7, constantValue := 0 }, { name := "LOG2_ARRAY_FLOAT_INDEX_SCALE", type := .int, accessFlags := 25, slot := 8, constantValue := 0 }, { name := "LOG2_ARRAY_DOUBLE_INDEX_SCALE", type := .int, accessFlags := 25, slot := 9, constantValue := 0 }, { name := "LOG2_BYTE_BIT_SIZE", type := .int, accessFlags := 26, slot := 10, constantValue := 0 }, { name := "T_BOOLEAN", type := .int, accessFlags := 25, slot := 11, constantValue := 0 }, { name := "T_CHAR", type := .int, accessFlags := 25, slot := 12, constantValue := 0 }, { name := "T_FLOAT", type := .int, accessFlags := 25, slot := 13, constantValue := 0 }, { name := "T_DOUBLE", type := .int, accessFlags := 25, slot := 14, constantValue := 0 }, { name := "T_BYTE", type := .int, accessFlags := 25, slot := 15, constantValue := 0 }, { name := "T_SHORT", type := .int, accessFlags := 25, slot := 16, constantValue := 0 }, { name := "T_INT", type := .int, accessFlags := 25, slot := 17, constantValue := 0 }, { name := "T_LONG", type := .int, accessFlags := 25, slot := 18, constantValue := 0 }, { name := "JLA", type := (.object "jdk/internal/access/JavaLangAccess"), accessFlags := 26, slot := 19, constantValue := 0 }, { name := "SOFT_MAX_ARRAY_LENGTH", type := .int, accessFlags := 25, slot := 20, constantValue := 0 }]
  methods := #[k19m0]
  instanceTypes := #[]
  staticTypes := #[(.object "jdk/internal/misc/Unsafe"), .boolean, .int, .int, .int, .int, .int, .int, .int, .int, .int, .int, .int, .int, .int, .int, .int, .int, .int, (.object "jdk/internal/access/JavaLangAccess"), .int]
  resolved := Array.replicate 378 none
  statics := none }

def pool20 : Array CpInfo := pool [(1, u "java/lang/Cloneable"), (0, .class_ 1), (0, u "java/lang/Object"), (0, .class_ 3)] 3

/-- java/lang/Cloneable -/
def k20 : Class := { plain "java/lang/Cloneable" (some 0) with
  accessFlags := 1537
  interfaces := #[]
  cf := some (fileOf pool20 2 #[] #[] 1537 4 #[] #[])
  fields := #[]
  methods := #[]
  instanceTypes := #[]
  staticTypes := #[]
  resolved := Array.replicate 8 none
  statics := none }

/-- the primitive byte -/
def k21 : Class := { plain "byte" none with kind := .primitive 'B', accessFlags := 0x411 }
/-- [B -/
def k22 : Class := { plain "[B" (some 0) with kind := .array 21 .byte, interfaces := #[20, 4], accessFlags := 1041 }

/-- the primitive char -/
def k23 : Class := { plain "char" none with kind := .primitive 'C', accessFlags := 0x411 }
/-- [C -/
def k24 : Class := { plain "[C" (some 0) with kind := .array 23 .char, interfaces := #[20, 4], accessFlags := 1041 }

/-- the primitive int -/
def k25 : Class := { plain "int" none with kind := .primitive 'I', accessFlags := 0x411 }
/-- [I -/
def k26 : Class := { plain "[I" (some 0) with kind := .array 25 .int, interfaces := #[20, 4], accessFlags := 1041 }

def heap : Heap := #[{ cls := 6, slots := #[.ref 3, .ref 4, .null], vm := .statics 6 },
  { cls := 9, slots := #[.long 0, .int 1, .null, .int 0, .null, .int 0, .int 0], vm := .statics 9 },
  { cls := 18, slots := #[.null, .null, .null], vm := .statics 18 },
  { cls := 6, slots := #[.null, .int 0, .int 0], vm := .none },
  { cls := 6, slots := #[.null, .int 1, .int 0], vm := .none }]
def classes : Array Class := #[k0, k1, k2, k3, k4, k5, k6, k7, k8, k9, k10, k11, k12, k13, k14, k15, k16, k17, k18, k19, k20, k21, k22, k23, k24, k25, k26]
def interned : List (Array UInt16 × Addr) := []
def slotsUsed : Nat := 19
def theMethod : MethodId := ⟨1, 1⟩
def args0 : Array Value := #[.int 1, .int 2, .int 3, .int 4, .int 5, .int 6]
def aboutOver (below : List Frame) : State where
  vm := { classes := classes, interned := interned.toArray }
  heap := heap
  slotsUsed := slotsUsed
  threads := #[{ frames := .invoking theMethod args0 :: below }]
def below0 : List Frame := [.native { method := ⟨0, 0⟩, args := #[] }]
def about1 : State := aboutOver below0
def p0 : Program := .bare "" "" ""
def e0 : Env := launch0.env 0 0 0
theorem w_frames : about1.frames = Frame.invoking theMethod args0 :: below0 := rfl
set_option maxRecDepth 65536 in
theorem w_args : argsFit about1.vm theMethod args0 = true := by decide +kernel
set_option maxRecDepth 65536 in
theorem w_heap : heapFits about1 = true := by decide +kernel
set_option maxRecDepth 65536 in
theorem w_runnable : about1.curStatus? = some .runnable := by decide +kernel
set_option maxRecDepth 65536 in
theorem w_alone : about1.alone = true := by decide +kernel
set_option maxRecDepth 65536 in
theorem w_named : about1.methodNamed? x = some theMethod := by decide +kernel
set_option maxRecDepth 65536 in
theorem w_hears : about1.hears theMethod below0 = true := by decide +kernel
set_option maxRecDepth 65536 in
theorem w_ripe : about1.ripe theMethod args0 below0 = true := by decide +kernel
theorem w_running : about1.status = .running := rfl
set_option maxRecDepth 65536 in
theorem w_room : about1.hasRoom e0.platform room_1 = true :=
  launch0.hasRoom_least _ room_1 (by decide +kernel) (by decide +kernel) (by decide +kernel) (by decide +kernel) (by decide +kernel) (by decide +kernel)
theorem allAtoms_all (ts : List Jvm.Cond) (a : Array Jvm.Value) (st : Jvm.State) : (allAtoms ts).before a st = ts.all (fun c => c.before a st) := by
  induction ts with
  | nil => rfl
  | cons c t ih =>
    show (Jvm.Cond.and c (allAtoms t)).before a st = _
    rw [Jvm.Cond.before_and, ih, List.all_cons]
def words1 : List Jvm.Cond := Jvm.Cond.code x code maxLocals ret :: tables_1
/-- a 'code' word, met by the world's own term for the bytes: nothing is compared byte by byte -/
theorem code_word {y : MethodName} {bytes : ByteArray} {mx : Nat} {rt : Option FieldType} {a : Array Value} {s : State} {m : MethodId} {meth : Method} {c : Code} (h1 : s.methodNamed? y = some m) (h2 : s.vm.method? m = some meth) (h3 : meth.code = some c) (h4 : c.code = bytes)
    (h5 : (c.maxLocals == mx && c.exceptionTable.isEmpty && decide (c.maxStack ≤ mostOperands) && decide (meth.sig.returnType = rt) && !meth.locks && decide (parseMethodDescriptor y.desc = some meth.sig)) = true) : (Jvm.Cond.code y bytes mx rt).before a s = true := by
  simp only [Bool.and_eq_true, beq_iff_eq, Bool.not_eq_true', decide_eq_true_eq] at h5
  obtain ⟨⟨⟨⟨⟨g1, g2⟩, g3⟩, g4⟩, g5⟩, g6⟩ := h5
  simp [Cond.before, Cond.holds, Cond.value, h1, h2, h3, h4, g1, g2, g3, g4, g5, g6]
def isCode : Jvm.Cond → Bool
  | .code _ _ _ _ => true
  | _ => false
theorem all_split {L : List Jvm.Cond} {P : Jvm.Cond → Bool} (h1 : L.all (fun c => isCode c || P c) = true) (h2 : ∀ c ∈ L.filter isCode, P c = true) : L.all P = true := by
  refine List.all_eq_true.mpr fun c hc => ?_
  have h := List.all_eq_true.mp h1 c hc
  rcases Bool.eq_false_or_eq_true (isCode c) with hi | hi
  · exact h2 c (List.mem_filter.mpr ⟨hc, hi⟩)
  · simpa [hi] using h
set_option maxRecDepth 65536 in
theorem w_c0 : (Jvm.Cond.code x code maxLocals ret).before args0 about1 = true := code_word (m := ⟨1, 1⟩) (meth := k1m1) (c := k1c1) (by decide +kernel) rfl rfl rfl (by decide +kernel)
set_option maxRecDepth 65536 in
theorem w_c1 : (Jvm.Cond.code ({ cls := "java/lang/String", name := "<init>", desc := "([C)V" } : Jvm.MethodName) jdk_42_method_3_code (2 : Nat) (Option.none : Option Jvm.ClassFile.FieldType)).before args0 about1 = true := code_word (m := ⟨9, 1⟩) (meth := k9m1) (c := k9c1) (by decide +kernel) rfl rfl rfl (by decide +kernel)
set_option maxRecDepth 65536 in
theorem w_c2 : (Jvm.Cond.code ({ cls := "java/lang/String", name := "<init>", desc := "([CIILjava/lang/Void;)V" } : Jvm.MethodName) jdk_42_method_149_code (6 : Nat) (Option.none : Option Jvm.ClassFile.FieldType)).before args0 about1 = true := code_word (m := ⟨9, 2⟩) (meth := k9m2) (c := k9c2) (by decide +kernel) rfl rfl rfl (by decide +kernel)
set_option maxRecDepth 65536 in
theorem w_c3 : (Jvm.Cond.code ({ cls := "java/lang/Object", name := "<init>", desc := "()V" } : Jvm.MethodName) object_method_1_code (1 : Nat) (Option.none : Option Jvm.ClassFile.FieldType)).before args0 about1 = true := code_word (m := ⟨0, 0⟩) (meth := k0m0) (c := k0c0) (by decide +kernel) rfl rfl rfl (by decide +kernel)
set_option maxRecDepth 65536 in
theorem w_c4 : (Jvm.Cond.code ({ cls := "java/lang/StringUTF16", name := "compress", desc := "([CII)[B" } : Jvm.MethodName) jdk_52_method_16_code (6 : Nat) (Option.some (Jvm.ClassFile.FieldType.array Jvm.ClassFile.FieldType.byte))).before args0 about1 = true := code_word (m := ⟨10, 2⟩) (meth := k10m2) (c := k10c2) (by decide +kernel) rfl rfl rfl (by decide +kernel)
set_option maxRecDepth 65536 in
theorem w_c5 : (Jvm.Cond.code ({ cls := "java/lang/StringUTF16", name := "compress", desc := "([CI[BII)I" } : Jvm.MethodName) jdk_52_method_21_code (7 : Nat) (Option.some Jvm.ClassFile.FieldType.int)).before args0 about1 = true := code_word (m := ⟨10, 3⟩) (meth := k10m3) (c := k10c3) (by decide +kernel) rfl rfl rfl (by decide +kernel)
set_option maxRecDepth 65536 in
theorem w_c6 : (Jvm.Cond.code ({ cls := "java/lang/StringUTF16", name := "coderFromArrayLen", desc := "([BI)B" } : Jvm.MethodName) jdk_52_method_15_code (2 : Nat) (Option.some Jvm.ClassFile.FieldType.byte)).before args0 about1 = true := code_word (m := ⟨10, 1⟩) (meth := k10m1) (c := k10c1) (by decide +kernel) rfl rfl rfl (by decide +kernel)
set_option maxRecDepth 65536 in
theorem w_c7 : (Jvm.Cond.code ({ cls := "com/example/hublane/hublane/core/Arc", name := "<init>", desc := "(Ljava/lang/String;IIDDD)V" } : Jvm.MethodName) prog_2_method_1_code (10 : Nat) (Option.none : Option Jvm.ClassFile.FieldType)).before args0 about1 = true := code_word (m := ⟨12, 0⟩) (meth := k12m0) (c := k12c0) (by decide +kernel) rfl rfl rfl (by decide +kernel)
set_option maxRecDepth 65536 in
theorem w_c8 : (Jvm.Cond.code ({ cls := "java/lang/Record", name := "<init>", desc := "()V" } : Jvm.MethodName) jdk_30_method_1_code (1 : Nat) (Option.none : Option Jvm.ClassFile.FieldType)).before args0 about1 = true := code_word (m := ⟨11, 0⟩) (meth := k11m0) (c := k11c0) (by decide +kernel) rfl rfl rfl (by decide +kernel)
set_option maxRecDepth 65536 in
theorem w_c9 : (Jvm.Cond.code ({ cls := "java/util/Objects", name := "requireNonNull", desc := "(Ljava/lang/Object;Ljava/lang/String;)Ljava/lang/Object;" } : Jvm.MethodName) jdk_31_method_11_code (2 : Nat) (Option.some (Jvm.ClassFile.FieldType.object "java/lang/Object"))).before args0 about1 = true := code_word (m := ⟨13, 1⟩) (meth := k13m1) (c := k13c1) (by decide +kernel) rfl rfl rfl (by decide +kernel)
set_option maxRecDepth 65536 in
theorem w_c10 : (Jvm.Cond.code ({ cls := "java/lang/Double", name := "isFinite", desc := "(D)Z" } : Jvm.MethodName) jdk_117_method_8_code (2 : Nat) (Option.some Jvm.ClassFile.FieldType.boolean)).before args0 about1 = true := code_word (m := ⟨15, 0⟩) (meth := k15m0) (c := k15c0) (by decide +kernel) rfl rfl rfl (by decide +kernel)
set_option maxRecDepth 65536 in
theorem w_c11 : (Jvm.Cond.code ({ cls := "java/lang/Math", name := "abs", desc := "(D)D" } : Jvm.MethodName) jdk_29_method_64_code (2 : Nat) (Option.some Jvm.ClassFile.FieldType.double)).before args0 about1 = true := code_word (m := ⟨16, 1⟩) (meth := k16m1) (c := k16c1) (by decide +kernel) rfl rfl rfl (by decide +kernel)
set_option maxRecDepth 65536 in
theorem w_c12 : (Jvm.Cond.code ({ cls := "com/example/hublane/hublane/core/Metric", name := "length", desc := "(Lcom/example/hublane/hublane/core/Arc;)D" } : Jvm.MethodName) prog_10_method_4_code (2 : Nat) (Option.some Jvm.ClassFile.FieldType.double)).before args0 about1 = true := code_word (m := ⟨6, 0⟩) (meth := k6m0) (c := k6c0) (by decide +kernel) rfl rfl rfl (by decide +kernel)
set_option maxRecDepth 65536 in
theorem w_c13 : (Jvm.Cond.code ({ cls := "java/lang/Enum", name := "ordinal", desc := "()I" } : Jvm.MethodName) jdk_37_method_2_code (1 : Nat) (Option.some Jvm.ClassFile.FieldType.int)).before args0 about1 = true := code_word (m := ⟨5, 0⟩) (meth := k5m0) (c := k5c0) (by decide +kernel) rfl rfl rfl (by decide +kernel)
set_option maxRecDepth 65536 in
theorem w_c14 : (Jvm.Cond.code ({ cls := "com/example/hublane/hublane/core/Arc", name := "weight", desc := "()D" } : Jvm.MethodName) prog_2_method_8_code (1 : Nat) (Option.some Jvm.ClassFile.FieldType.double)).before args0 about1 = true := code_word (m := ⟨12, 1⟩) (meth := k12m1) (c := k12c1) (by decide +kernel) rfl rfl rfl (by decide +kernel)
def codes1 : List Jvm.Cond := [Jvm.Cond.code x code maxLocals ret, Jvm.Cond.code ({ cls := "java/lang/String", name := "<init>", desc := "([C)V" } : Jvm.MethodName) jdk_42_method_3_code (2 : Nat) (Option.none : Option Jvm.ClassFile.FieldType), Jvm.Cond.code ({ cls := "java/lang/String", name := "<init>", desc := "([CIILjava/lang/Void;)V" } : Jvm.MethodName) jdk_42_method_149_code (6 : Nat) (Option.none : Option Jvm.ClassFile.FieldType), Jvm.Cond.code ({ cls := "java/lang/Object", name := "<init>", desc := "()V" } : Jvm.MethodName) object_method_1_code (1 : Nat) (Option.none : Option Jvm.ClassFile.FieldType), Jvm.Cond.code ({ cls := "java/lang/StringUTF16", name := "compress", desc := "([CII)[B" } : Jvm.MethodName) jdk_52_method_16_code (6 : Nat) (Option.some (Jvm.ClassFile.FieldType.array Jvm.ClassFile.FieldType.byte)), Jvm.Cond.code ({ cls := "java/lang/StringUTF16", name := "compress", desc := "([CI[BII)I" } : Jvm.MethodName) jdk_52_method_21_code (7 : Nat) (Option.some Jvm.ClassFile.FieldType.int), Jvm.Cond.code ({ cls := "java/lang/StringUTF16", name := "coderFromArrayLen", desc := "([BI)B" } : Jvm.MethodName) jdk_52_method_15_code (2 : Nat) (Option.some Jvm.ClassFile.FieldType.byte), Jvm.Cond.code ({ cls := "com/example/hublane/hublane/core/Arc", name := "<init>", desc := "(Ljava/lang/String;IIDDD)V" } : Jvm.MethodName) prog_2_method_1_code (10 : Nat) (Option.none : Option Jvm.ClassFile.FieldType), Jvm.Cond.code ({ cls := "java/lang/Record", name := "<init>", desc := "()V" } : Jvm.MethodName) jdk_30_method_1_code (1 : Nat) (Option.none : Option Jvm.ClassFile.FieldType), Jvm.Cond.code ({ cls := "java/util/Objects", name := "requireNonNull", desc := "(Ljava/lang/Object;Ljava/lang/String;)Ljava/lang/Object;" } : Jvm.MethodName) jdk_31_method_11_code (2 : Nat) (Option.some (Jvm.ClassFile.FieldType.object "java/lang/Object")), Jvm.Cond.code ({ cls := "java/lang/Double", name := "isFinite", desc := "(D)Z" } : Jvm.MethodName) jdk_117_method_8_code (2 : Nat) (Option.some Jvm.ClassFile.FieldType.boolean), Jvm.Cond.code ({ cls := "java/lang/Math", name := "abs", desc := "(D)D" } : Jvm.MethodName) jdk_29_method_64_code (2 : Nat) (Option.some Jvm.ClassFile.FieldType.double), Jvm.Cond.code ({ cls := "com/example/hublane/hublane/core/Metric", name := "length", desc := "(Lcom/example/hublane/hublane/core/Arc;)D" } : Jvm.MethodName) prog_10_method_4_code (2 : Nat) (Option.some Jvm.ClassFile.FieldType.double), Jvm.Cond.code ({ cls := "java/lang/Enum", name := "ordinal", desc := "()I" } : Jvm.MethodName) jdk_37_method_2_code (1 : Nat) (Option.some Jvm.ClassFile.FieldType.int), Jvm.Cond.code ({ cls := "com/example/hublane/hublane/core/Arc", name := "weight", desc := "()D" } : Jvm.MethodName) prog_2_method_8_code (1 : Nat) (Option.some Jvm.ClassFile.FieldType.double)]
set_option maxRecDepth 65536 in
theorem codes_eq : words1.filter isCode = codes1 := rfl
theorem w_codes : ∀ c ∈ words1.filter isCode, c.before args0 about1 = true := by
  rw [codes_eq]
  intro c hc
  simp only [codes1, List.mem_cons, List.not_mem_nil, or_false] at hc
  rcases hc with rfl | rfl | rfl | rfl | rfl | rfl | rfl | rfl | rfl | rfl | rfl | rfl | rfl | rfl | rfl
  · exact w_c0
  · exact w_c1
  · exact w_c2
  · exact w_c3
  · exact w_c4
  · exact w_c5
  · exact w_c6
  · exact w_c7
  · exact w_c8
  · exact w_c9
  · exact w_c10
  · exact w_c11
  · exact w_c12
  · exact w_c13
  · exact w_c14
set_option maxRecDepth 65536 in
theorem w_t1 : (words1.take 24).all (fun c => isCode c || c.before args0 about1) = true := by decide +kernel
set_option maxRecDepth 65536 in
theorem w_t2 : ((words1.drop 24).take 24).all (fun c => isCode c || c.before args0 about1) = true := by decide +kernel
set_option maxRecDepth 65536 in
theorem w_t3 : (((words1.drop 24).drop 24).take 24).all (fun c => isCode c || c.before args0 about1) = true := by decide +kernel
set_option maxRecDepth 65536 in
theorem w_t4 : ((((words1.drop 24).drop 24).drop 24).take 24).all (fun c => isCode c || c.before args0 about1) = true := by decide +kernel
set_option maxRecDepth 65536 in
theorem w_t5 : ((((words1.drop 24).drop 24).drop 24).drop 24).all (fun c => isCode c || c.before args0 about1) = true := by decide +kernel
theorem w_tables : (allAtoms (Jvm.Cond.code x code maxLocals ret :: tables_1)).before args0 about1 = true := by
  rw [allAtoms_all]
  show words1.all (fun c => c.before args0 about1) = true
  refine all_split ?_ w_codes
  rw [← List.take_append_drop 24 words1, List.all_append, w_t1, ← List.take_append_drop 24 (words1.drop 24), List.all_append, w_t2, ← List.take_append_drop 24 ((words1.drop 24).drop 24), List.all_append, w_t3, ← List.take_append_drop 24 (((words1.drop 24).drop 24).drop 24), List.all_append, w_t4, w_t5]
  rfl
set_option maxRecDepth 65536 in
theorem w_rest : rest_1_c.before args0 about1 = true := by decide +kernel
set_option maxRecDepth 65536 in
theorem w_case : (Jvm.Cond.and given_1 narrow_1).before args0 about1 = true := by decide +kernel
theorem w_applies : (headSpec (Jvm.Cond.code x code maxLocals ret :: tables_1) room_1).applies x e0.platform about1 = true :=
  (Spec.applies_iff w_frames).mpr ⟨w_running, w_runnable, w_alone, w_named, w_hears, w_ripe, w_room, w_tables⟩
theorem atStart : AtStart classFile x code maxLocals ret World_1 tables_1 room_1 Calls_1 rest_1 Pre_1 launch0 p0 e0 about1 theMethod args0 below0 :=
  ⟨lists_1, trivial, launch0.admits_env _ _ _, launch0.least_env, fairChoices_fair.cas, fairChoices_fair.clock, w_frames, w_args, w_heap, w_applies, trivial, w_rest, w_case⟩
end start1
theorem witness_1 : WitnessClaimed_1 := ⟨start1.p0, start1.e0, start1.about1, start1.theMethod, start1.args0, start1.below0, start1.atStart⟩
end Jvm.Pilot.@@N@@
