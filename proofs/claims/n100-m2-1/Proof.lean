import JvmDerived
import JvmDerived.Pilot.@@N@@Statement
import JvmDerived.Pilot.@@N@@Code
set_option linter.unusedVariables false
set_option linter.unusedSimpArgs false
namespace Jvm.Own
open Sem ClassFile Op Lib Jvm.Stand Jvm.Free Jvm.LawKit Jvm.RoadKit
/-- from here the run comes back, and F says how -/
def Go (p : Program) (e : Env) (below : List Frame) (m : MethodId) (F : Outcome → State → Prop) (T : State) (pc : Nat) (ls : Array Slot) (st : List Value) : Prop :=
  ∃ V o, Steps p.tables e below (T.setTop (mkF m pc ls st)) V ∧ V.status = .running ∧ Ended V below o ∧ F o V
def Fini (s : State) (rc rs : Nat) (Q : Option Value → Heap → List Loc → Prop) (o : Outcome) (V : State) : Prop := ∃ v L, o = .returned v ∧ Q v V.heap L ∧ FrameEnd s o V L rc rs
abbrev Ctr (l : Launch) (Z : State) (y : MethodName) (bytes : ByteArray) (maxL : Nat) (ret : Option FieldType) (ws : List Cond) (rm : Room) (as' : Array Value) (h : Heap) (Q : Option Value → Heap → List Loc → Prop) : Prop :=
  MetFree l y (head1 (Cond.code y bytes maxL ret :: ws) rm) (fun a U => a = as' ∧ Z.Warmed39 U.vm ∧ U.heap = h) (fun _ _ _ _ _ => True) (fun _ U o U' => ∃ v L, o = .returned v ∧ Q v U'.heap L ∧ FrameEnd U o U' L rm.cells rm.slots)
theorem enter {l : Launch} {Z : State} {y : MethodName} {bytes : ByteArray} {maxL : Nat} {ret : Option FieldType} {ws : List Cond} {rm : Room} {as' : Array Value} {h : Heap} {Q : Option Value → Heap → List Loc → Prop} (hpn : plainFor y = true)
    (body : ∀ (p : Program) (e : Env) (s : State) (m : MethodId) (below : List Frame) (meth : Method) (c : Code) (T : State), Stand p l e rm s m as' below meth c T [] 0 0 → p.tables.exec = Jvm.exec → c.code = bytes → c.maxLocals = maxL → meth.sig.returnType = ret → meth.locks = false → Z.Warmed39 s.vm → s.vm.findClass y.cls = some m.cls → meth.name = y.name → T.heap = h →
      ∃ V o, Steps p.tables e below (T.setTop (entryFrame m as' maxL)) V ∧ V.status = .running ∧ Ended V below o ∧ Fini s rm.cells rm.slots Q o V) : Ctr l Z y bytes maxL ret ws rm as' h Q := by
  refine MetFree.of_bodySF hpn hisR ?_
  intro p e s m args below meth c s₁ Bd hml0 hP hK
  obtain ⟨rfl, hZ, hh⟩ := hP
  exact body p e s m below meth c s₁ (Stand.of_body Bd) Bd.exec Bd.bytes hml0 Bd.returns Bd.notSynchronized hZ (findClass_of_methodNamed Bd.named) (name_of_methodNamed Bd.named Bd.method).1 (by rw [← hh, Bd.state]; rfl)
theorem goIn {p : Program} {e : Env} {below : List Frame} {m : MethodId} {F : Outcome → State → Prop} {T : State} {as' : Array Value} {n : Nat} {ls : Array Slot} (q : entryFrame m as' n = mkF m 0 ls []) (k : Go p e below m F T 0 ls []) :
    ∃ V o, Steps p.tables e below (T.setTop (entryFrame m as' n)) V ∧ V.status = .running ∧ Ended V below o ∧ F o V := by rw [q]; exact k
def Wk (p : Program) (below : List Frame) (m : MethodId) (c : Code) (b : ByteArray) (T : State) : Prop := At T m c below ∧ p.tables.exec = Jvm.exec ∧ c.code = b
theorem Go.of {p : Program} {e : Env} {below : List Frame} {m : MethodId} {F : Outcome → State → Prop} {T T' : State} {pc pc' : Nat} {ls ls' : Array Slot} {st st' : List Value} (k : Go p e below m F T' pc' ls' st')
    (q : ∀ t, Steps p.tables e below (T'.setTop (mkF m pc' ls' st')) t → Steps p.tables e below (T.setTop (mkF m pc ls st)) t) : Go p e below m F T pc ls st := by
  obtain ⟨V, o, h1, h2⟩ := k
  exact ⟨V, o, q V h1, h2⟩
section Plain
variable {p : Program} {l : Launch} {e : Env} {R : Room} {s : State} {m : MethodId} {args : Array Value} {below : List Frame} {meth : Method} {c : Code} {T : State} {locs : List Loc} {cells slots : Nat} {Z : State} {a0 : Array Value} {h : Heap} {b : ByteArray} {F : Outcome → State → Prop} {pc pc' : Nat} {ls : Array Slot} {rest : List Value}
theorem wk (X : Stand p l e R s m args below meth c T locs cells slots) (hx : p.tables.exec = Jvm.exec) (hby : c.code = b) : Wk p below m c b T := ⟨X.here, hx, hby⟩
theorem s_iconst {i : Int} {v : Int32} (A : Wk p below m c b T) (hd : decode b pc = .ok (.iconst i, 1)) (hp : pc + 1 = pc') (hv : Int32.ofInt i = v) (k : Go p e below m F T pc' ls (.int v :: rest)) : Go p e below m F T pc ls rest := by
  subst hp hv
  exact k.of fun t k => XS.iconst A.1 A.2.1 rfl (hb A.2.2 hd) k
theorem s_bipush {i : Int} {v : Int32} (A : Wk p below m c b T) (hd : decode b pc = .ok (.bipush i, 2)) (hp : pc + 2 = pc') (hv : (Int8.ofInt i).toInt32 = v) (k : Go p e below m F T pc' ls (.int v :: rest)) : Go p e below m F T pc ls rest := by
  subst hp hv
  exact k.of fun t k => XS.bipush A.1 A.2.1 rfl (hb A.2.2 hd) k
theorem s_sipush {i : Int} {v : Int32} (A : Wk p below m c b T) (hd : decode b pc = .ok (.sipush i, 3)) (hp : pc + 3 = pc') (hv : (Int16.ofInt i).toInt32 = v) (k : Go p e below m F T pc' ls (.int v :: rest)) : Go p e below m F T pc ls rest := by
  subst hp hv
  exact k.of fun t k => XS.sipush A.1 A.2.1 rfl (hb A.2.2 hd) k
theorem s_lconst {i : Fin 2} {v : Int64} (A : Wk p below m c b T) (hd : decode b pc = .ok (.lconst i, 1)) (hp : pc + 1 = pc') (hv : Int64.ofNat i = v) (k : Go p e below m F T pc' ls (.long v :: rest)) : Go p e below m F T pc ls rest := by
  subst hp hv
  exact k.of fun t k => XT.lconst A.1 A.2.1 rfl (hb A.2.2 hd) k
theorem s_dconst0 {v : UInt64} (A : Wk p below m c b T) (hd : decode b pc = .ok (.dconst 0, 1)) (hp : pc + 1 = pc') (hv : FP.dconst0 = v) (k : Go p e below m F T pc' ls (.double v :: rest)) : Go p e below m F T pc ls rest := by
  subst hp hv
  exact k.of fun t k => XS.dconst0 A.1 A.2.1 rfl (hb A.2.2 hd) rfl k
theorem s_dconst1 {v : UInt64} (A : Wk p below m c b T) (hd : decode b pc = .ok (.dconst 1, 1)) (hp : pc + 1 = pc') (hv : FP.dconst1 = v) (k : Go p e below m F T pc' ls (.double v :: rest)) : Go p e below m F T pc ls rest := by
  subst hp hv
  exact k.of fun t k => XS.dconst1 A.1 A.2.1 rfl (hb A.2.2 hd) rfl k
theorem s_aconstNull  (A : Wk p below m c b T) (hd : decode b pc = .ok (.aconst_null, 1)) (hp : pc + 1 = pc')  (k : Go p e below m F T pc' ls (.null :: rest)) : Go p e below m F T pc ls rest := by
  subst hp
  exact k.of fun t k => XS.aconstNull A.1 A.2.1 rfl (hb A.2.2 hd) k
theorem s_iloadN {i : Fin 4} {v : Int32} (A : Wk p below m c b T) (hd : decode b pc = .ok (.iload_n i, 1)) (hp : pc + 1 = pc') (hl : ls[i.val]? = some (.val (.int v))) (k : Go p e below m F T pc' ls (.int v :: rest)) : Go p e below m F T pc ls rest := by
  subst hp
  exact k.of fun t k => XS.iloadN A.1 A.2.1 rfl (hb A.2.2 hd) hl k
theorem s_iload {i : Nat} {v : Int32} (A : Wk p below m c b T) (hd : decode b pc = .ok (.iload i, 2)) (hp : pc + 2 = pc') (hl : ls[i]? = some (.val (.int v))) (k : Go p e below m F T pc' ls (.int v :: rest)) : Go p e below m F T pc ls rest := by
  subst hp
  exact k.of fun t k => XS.iload A.1 A.2.1 rfl (hb A.2.2 hd) hl k
theorem s_lloadN {i : Fin 4} {v : Int64} (A : Wk p below m c b T) (hd : decode b pc = .ok (.lload_n i, 1)) (hp : pc + 1 = pc') (hl : ls[i.val]? = some (.val (.long v))) (k : Go p e below m F T pc' ls (.long v :: rest)) : Go p e below m F T pc ls rest := by
  subst hp
  exact k.of fun t k => XT.lloadN A.1 A.2.1 rfl (hb A.2.2 hd) hl k
theorem s_lload {i : Nat} {v : Int64} (A : Wk p below m c b T) (hd : decode b pc = .ok (.lload i, 2)) (hp : pc + 2 = pc') (hl : ls[i]? = some (.val (.long v))) (k : Go p e below m F T pc' ls (.long v :: rest)) : Go p e below m F T pc ls rest := by
  subst hp
  exact k.of fun t k => XT.lload A.1 A.2.1 rfl (hb A.2.2 hd) hl k
theorem s_dloadN {i : Fin 4} {v : UInt64} (A : Wk p below m c b T) (hd : decode b pc = .ok (.dload_n i, 1)) (hp : pc + 1 = pc') (hl : ls[i.val]? = some (.val (.double v))) (k : Go p e below m F T pc' ls (.double v :: rest)) : Go p e below m F T pc ls rest := by
  subst hp
  exact k.of fun t k => XS.dloadN A.1 A.2.1 rfl (hb A.2.2 hd) hl k
theorem s_dload {i : Nat} {v : UInt64} (A : Wk p below m c b T) (hd : decode b pc = .ok (.dload i, 2)) (hp : pc + 2 = pc') (hl : ls[i]? = some (.val (.double v))) (k : Go p e below m F T pc' ls (.double v :: rest)) : Go p e below m F T pc ls rest := by
  subst hp
  exact k.of fun t k => XS.dload A.1 A.2.1 rfl (hb A.2.2 hd) hl k
theorem s_aloadN {i : Fin 4} {v : Value} (A : Wk p below m c b T) (hd : decode b pc = .ok (.aload_n i, 1)) (hp : pc + 1 = pc') (hl : ls[i.val]? = some (.val v)) (hv : v.isRef = true) (k : Go p e below m F T pc' ls (v :: rest)) : Go p e below m F T pc ls rest := by
  subst hp
  exact k.of fun t k => XS.aloadN A.1 A.2.1 rfl (hb A.2.2 hd) hl hv k
theorem s_aload {i : Nat} {v : Value} (A : Wk p below m c b T) (hd : decode b pc = .ok (.aload i, 2)) (hp : pc + 2 = pc') (hl : ls[i]? = some (.val v)) (hv : v.isRef = true) (k : Go p e below m F T pc' ls (v :: rest)) : Go p e below m F T pc ls rest := by
  subst hp
  exact k.of fun t k => XS.aload A.1 A.2.1 rfl (hb A.2.2 hd) hl hv k
theorem s_istoreN {i : Fin 4} {v : Int32} {ls' : Array Slot} (A : Wk p below m c b T) (hd : decode b pc = .ok (.istore_n i, 1)) (hp : pc + 1 = pc') (hl : storeLocals ls i.val (.int v) = some ls') (k : Go p e below m F T pc' ls' rest) : Go p e below m F T pc ls (.int v :: rest) := by
  subst hp
  exact k.of fun t k => XS.istoreN A.1 A.2.1 rfl (hb A.2.2 hd) rfl hl k
theorem s_istore {i : Nat} {v : Int32} {ls' : Array Slot} (A : Wk p below m c b T) (hd : decode b pc = .ok (.istore i, 2)) (hp : pc + 2 = pc') (hl : storeLocals ls i (.int v) = some ls') (k : Go p e below m F T pc' ls' rest) : Go p e below m F T pc ls (.int v :: rest) := by
  subst hp
  exact k.of fun t k => XS.istore A.1 A.2.1 rfl (hb A.2.2 hd) rfl hl k
theorem s_lstoreN {i : Fin 4} {v : Int64} {ls' : Array Slot} (A : Wk p below m c b T) (hd : decode b pc = .ok (.lstore_n i, 1)) (hp : pc + 1 = pc') (hl : storeLocals ls i.val (.long v) = some ls') (k : Go p e below m F T pc' ls' rest) : Go p e below m F T pc ls (.long v :: rest) := by
  subst hp
  exact k.of fun t k => XT.lstoreN A.1 A.2.1 rfl (hb A.2.2 hd) rfl hl k
theorem s_lstore {i : Nat} {v : Int64} {ls' : Array Slot} (A : Wk p below m c b T) (hd : decode b pc = .ok (.lstore i, 2)) (hp : pc + 2 = pc') (hl : storeLocals ls i (.long v) = some ls') (k : Go p e below m F T pc' ls' rest) : Go p e below m F T pc ls (.long v :: rest) := by
  subst hp
  exact k.of fun t k => XT.lstore A.1 A.2.1 rfl (hb A.2.2 hd) rfl hl k
theorem s_dstoreN {i : Fin 4} {v : UInt64} {ls' : Array Slot} (A : Wk p below m c b T) (hd : decode b pc = .ok (.dstore_n i, 1)) (hp : pc + 1 = pc') (hl : storeLocals ls i.val (.double v) = some ls') (k : Go p e below m F T pc' ls' rest) : Go p e below m F T pc ls (.double v :: rest) := by
  subst hp
  exact k.of fun t k => XS.dstoreN A.1 A.2.1 rfl (hb A.2.2 hd) rfl hl k
theorem s_dstore {i : Nat} {v : UInt64} {ls' : Array Slot} (A : Wk p below m c b T) (hd : decode b pc = .ok (.dstore i, 2)) (hp : pc + 2 = pc') (hl : storeLocals ls i (.double v) = some ls') (k : Go p e below m F T pc' ls' rest) : Go p e below m F T pc ls (.double v :: rest) := by
  subst hp
  exact k.of fun t k => XS.dstore A.1 A.2.1 rfl (hb A.2.2 hd) rfl hl k
theorem s_astoreN {i : Fin 4} {v : Value} {ls' : Array Slot} (A : Wk p below m c b T) (hd : decode b pc = .ok (.astore_n i, 1)) (hp : pc + 1 = pc') (hv : v.isRef = true) (hl : storeLocals ls i.val v = some ls') (k : Go p e below m F T pc' ls' rest) : Go p e below m F T pc ls (v :: rest) := by
  subst hp
  exact k.of fun t k => XS.astoreN A.1 A.2.1 rfl (hb A.2.2 hd) rfl hv hl k
theorem s_astore {i : Nat} {v : Value} {ls' : Array Slot} (A : Wk p below m c b T) (hd : decode b pc = .ok (.astore i, 2)) (hp : pc + 2 = pc') (hv : v.isRef = true) (hl : storeLocals ls i v = some ls') (k : Go p e below m F T pc' ls' rest) : Go p e below m F T pc ls (v :: rest) := by
  subst hp
  exact k.of fun t k => XS.astore A.1 A.2.1 rfl (hb A.2.2 hd) rfl hv hl k
theorem s_iinc {i : Nat} {cst : Int} {x v : Int32} {ls' : Array Slot} (A : Wk p below m c b T) (hd : decode b pc = .ok (.iinc i cst, 3)) (hp : pc + 3 = pc') (hl : ls[i]? = some (.val (.int x))) (hv : x + Int32.ofInt cst = v) (hl' : storeLocals ls i (.int v) = some ls') (k : Go p e below m F T pc' ls' rest) : Go p e below m F T pc ls rest := by
  subst hp hv
  exact k.of fun t k => XS.iinc A.1 A.2.1 rfl (hb A.2.2 hd) hl hl' k
theorem s_iadd {x y v : Int32} (A : Wk p below m c b T) (hd : decode b pc = .ok (.iadd, 1)) (hp : pc + 1 = pc') (hv : x + y = v) (k : Go p e below m F T pc' ls (.int v :: rest)) : Go p e below m F T pc ls (.int y :: .int x :: rest) := by
  subst hp hv
  exact k.of fun t k => XS.iadd A.1 A.2.1 rfl (hb A.2.2 hd) rfl k
theorem s_isub {x y v : Int32} (A : Wk p below m c b T) (hd : decode b pc = .ok (.isub, 1)) (hp : pc + 1 = pc') (hv : x - y = v) (k : Go p e below m F T pc' ls (.int v :: rest)) : Go p e below m F T pc ls (.int y :: .int x :: rest) := by
  subst hp hv
  exact k.of fun t k => XS.isub A.1 A.2.1 rfl (hb A.2.2 hd) rfl k
theorem s_imul {x y v : Int32} (A : Wk p below m c b T) (hd : decode b pc = .ok (.imul, 1)) (hp : pc + 1 = pc') (hv : x * y = v) (k : Go p e below m F T pc' ls (.int v :: rest)) : Go p e below m F T pc ls (.int y :: .int x :: rest) := by
  subst hp hv
  exact k.of fun t k => XS.imul A.1 A.2.1 rfl (hb A.2.2 hd) rfl k
theorem s_iand {x y v : Int32} (A : Wk p below m c b T) (hd : decode b pc = .ok (.iand, 1)) (hp : pc + 1 = pc') (hv : x &&& y = v) (k : Go p e below m F T pc' ls (.int v :: rest)) : Go p e below m F T pc ls (.int y :: .int x :: rest) := by
  subst hp hv
  exact k.of fun t k => XS.iand A.1 A.2.1 rfl (hb A.2.2 hd) rfl k
theorem s_ior {x y v : Int32} (A : Wk p below m c b T) (hd : decode b pc = .ok (.ior, 1)) (hp : pc + 1 = pc') (hv : x ||| y = v) (k : Go p e below m F T pc' ls (.int v :: rest)) : Go p e below m F T pc ls (.int y :: .int x :: rest) := by
  subst hp hv
  exact k.of fun t k => XT.ior A.1 A.2.1 rfl (hb A.2.2 hd) rfl k
theorem s_ixor {x y v : Int32} (A : Wk p below m c b T) (hd : decode b pc = .ok (.ixor, 1)) (hp : pc + 1 = pc') (hv : x ^^^ y = v) (k : Go p e below m F T pc' ls (.int v :: rest)) : Go p e below m F T pc ls (.int y :: .int x :: rest) := by
  subst hp hv
  exact k.of fun t k => XT.ixor A.1 A.2.1 rfl (hb A.2.2 hd) rfl k
theorem s_idiv {x y v : Int32} (A : Wk p below m c b T) (hd : decode b pc = .ok (.idiv, 1)) (hp : pc + 1 = pc') (hy : y ≠ 0) (hv : x / y = v) (k : Go p e below m F T pc' ls (.int v :: rest)) : Go p e below m F T pc ls (.int y :: .int x :: rest) := by
  subst hp hv
  exact k.of fun t k => XS.idiv A.1 A.2.1 rfl (hb A.2.2 hd) rfl hy k
theorem s_irem {x y v : Int32} (A : Wk p below m c b T) (hd : decode b pc = .ok (.irem, 1)) (hp : pc + 1 = pc') (hy : y ≠ 0) (hv : x - (x / y) * y = v) (k : Go p e below m F T pc' ls (.int v :: rest)) : Go p e below m F T pc ls (.int y :: .int x :: rest) := by
  subst hp hv
  exact k.of fun t k => XS.irem A.1 A.2.1 rfl (hb A.2.2 hd) rfl hy k
theorem s_ladd {x y v : Int64} (A : Wk p below m c b T) (hd : decode b pc = .ok (.ladd, 1)) (hp : pc + 1 = pc') (hv : x + y = v) (k : Go p e below m F T pc' ls (.long v :: rest)) : Go p e below m F T pc ls (.long y :: .long x :: rest) := by
  subst hp hv
  exact k.of fun t k => XT.ladd A.1 A.2.1 rfl (hb A.2.2 hd) rfl k
theorem s_lsub {x y v : Int64} (A : Wk p below m c b T) (hd : decode b pc = .ok (.lsub, 1)) (hp : pc + 1 = pc') (hv : x - y = v) (k : Go p e below m F T pc' ls (.long v :: rest)) : Go p e below m F T pc ls (.long y :: .long x :: rest) := by
  subst hp hv
  exact k.of fun t k => XT.lsub A.1 A.2.1 rfl (hb A.2.2 hd) rfl k
theorem s_lmul {x y v : Int64} (A : Wk p below m c b T) (hd : decode b pc = .ok (.lmul, 1)) (hp : pc + 1 = pc') (hv : x * y = v) (k : Go p e below m F T pc' ls (.long v :: rest)) : Go p e below m F T pc ls (.long y :: .long x :: rest) := by
  subst hp hv
  exact k.of fun t k => XT.lmul A.1 A.2.1 rfl (hb A.2.2 hd) rfl k
theorem s_land {x y v : Int64} (A : Wk p below m c b T) (hd : decode b pc = .ok (.land, 1)) (hp : pc + 1 = pc') (hv : x &&& y = v) (k : Go p e below m F T pc' ls (.long v :: rest)) : Go p e below m F T pc ls (.long y :: .long x :: rest) := by
  subst hp hv
  exact k.of fun t k => XT.land A.1 A.2.1 rfl (hb A.2.2 hd) rfl k
theorem s_lor {x y v : Int64} (A : Wk p below m c b T) (hd : decode b pc = .ok (.lor, 1)) (hp : pc + 1 = pc') (hv : x ||| y = v) (k : Go p e below m F T pc' ls (.long v :: rest)) : Go p e below m F T pc ls (.long y :: .long x :: rest) := by
  subst hp hv
  exact k.of fun t k => XT.lor A.1 A.2.1 rfl (hb A.2.2 hd) rfl k
theorem s_lxor {x y v : Int64} (A : Wk p below m c b T) (hd : decode b pc = .ok (.lxor, 1)) (hp : pc + 1 = pc') (hv : x ^^^ y = v) (k : Go p e below m F T pc' ls (.long v :: rest)) : Go p e below m F T pc ls (.long y :: .long x :: rest) := by
  subst hp hv
  exact k.of fun t k => XT.lxor A.1 A.2.1 rfl (hb A.2.2 hd) rfl k
theorem s_ldiv {x y v : Int64} (A : Wk p below m c b T) (hd : decode b pc = .ok (.ldiv, 1)) (hp : pc + 1 = pc') (hy : y ≠ 0) (hv : x / y = v) (k : Go p e below m F T pc' ls (.long v :: rest)) : Go p e below m F T pc ls (.long y :: .long x :: rest) := by
  subst hp hv
  exact k.of fun t k => XT.ldiv A.1 A.2.1 rfl (hb A.2.2 hd) rfl hy k
theorem s_lrem {x y v : Int64} (A : Wk p below m c b T) (hd : decode b pc = .ok (.lrem, 1)) (hp : pc + 1 = pc') (hy : y ≠ 0) (hv : x - (x / y) * y = v) (k : Go p e below m F T pc' ls (.long v :: rest)) : Go p e below m F T pc ls (.long y :: .long x :: rest) := by
  subst hp hv
  exact k.of fun t k => XT.lrem A.1 A.2.1 rfl (hb A.2.2 hd) rfl hy k
theorem s_ishl {x v : Int32} {y : Int32} (A : Wk p below m c b T) (hd : decode b pc = .ok (.ishl, 1)) (hp : pc + 1 = pc') (hv : x <<< (y &&& 31) = v) (k : Go p e below m F T pc' ls (.int v :: rest)) : Go p e below m F T pc ls (.int y :: .int x :: rest) := by
  subst hp hv
  exact k.of fun t k => XT.ishl A.1 A.2.1 rfl (hb A.2.2 hd) rfl k
theorem s_ishr {x v : Int32} {y : Int32} (A : Wk p below m c b T) (hd : decode b pc = .ok (.ishr, 1)) (hp : pc + 1 = pc') (hv : x >>> (y &&& 31) = v) (k : Go p e below m F T pc' ls (.int v :: rest)) : Go p e below m F T pc ls (.int y :: .int x :: rest) := by
  subst hp hv
  exact k.of fun t k => XT.ishr A.1 A.2.1 rfl (hb A.2.2 hd) rfl k
theorem s_iushr {x v : Int32} {y : Int32} (A : Wk p below m c b T) (hd : decode b pc = .ok (.iushr, 1)) (hp : pc + 1 = pc') (hv : XT.ushr x y = v) (k : Go p e below m F T pc' ls (.int v :: rest)) : Go p e below m F T pc ls (.int y :: .int x :: rest) := by
  subst hp hv
  exact k.of fun t k => XT.iushr A.1 A.2.1 rfl (hb A.2.2 hd) rfl k
theorem s_lshl {x v : Int64} {y : Int32} (A : Wk p below m c b T) (hd : decode b pc = .ok (.lshl, 1)) (hp : pc + 1 = pc') (hv : x <<< (y.toInt64 &&& 63) = v) (k : Go p e below m F T pc' ls (.long v :: rest)) : Go p e below m F T pc ls (.int y :: .long x :: rest) := by
  subst hp hv
  exact k.of fun t k => XT.lshl A.1 A.2.1 rfl (hb A.2.2 hd) rfl k
theorem s_lshr {x v : Int64} {y : Int32} (A : Wk p below m c b T) (hd : decode b pc = .ok (.lshr, 1)) (hp : pc + 1 = pc') (hv : x >>> (y.toInt64 &&& 63) = v) (k : Go p e below m F T pc' ls (.long v :: rest)) : Go p e below m F T pc ls (.int y :: .long x :: rest) := by
  subst hp hv
  exact k.of fun t k => XT.lshr A.1 A.2.1 rfl (hb A.2.2 hd) rfl k
theorem s_lushr {x v : Int64} {y : Int32} (A : Wk p below m c b T) (hd : decode b pc = .ok (.lushr, 1)) (hp : pc + 1 = pc') (hv : XT.ushrL x y = v) (k : Go p e below m F T pc' ls (.long v :: rest)) : Go p e below m F T pc ls (.int y :: .long x :: rest) := by
  subst hp hv
  exact k.of fun t k => XT.lushr A.1 A.2.1 rfl (hb A.2.2 hd) rfl k
theorem s_i2b {x v : Int32} (A : Wk p below m c b T) (hd : decode b pc = .ok (.i2b, 1)) (hp : pc + 1 = pc') (hv : x.toInt8.toInt32 = v) (k : Go p e below m F T pc' ls (.int v :: rest)) : Go p e below m F T pc ls (.int x :: rest) := by
  subst hp hv
  exact k.of fun t k => XT.i2b A.1 A.2.1 rfl (hb A.2.2 hd) rfl k
theorem s_i2c {x v : Int32} (A : Wk p below m c b T) (hd : decode b pc = .ok (.i2c, 1)) (hp : pc + 1 = pc') (hv : x.toUInt32.toUInt16.toUInt32.toInt32 = v) (k : Go p e below m F T pc' ls (.int v :: rest)) : Go p e below m F T pc ls (.int x :: rest) := by
  subst hp hv
  exact k.of fun t k => XT.i2c A.1 A.2.1 rfl (hb A.2.2 hd) rfl k
theorem s_i2s {x v : Int32} (A : Wk p below m c b T) (hd : decode b pc = .ok (.i2s, 1)) (hp : pc + 1 = pc') (hv : x.toInt16.toInt32 = v) (k : Go p e below m F T pc' ls (.int v :: rest)) : Go p e below m F T pc ls (.int x :: rest) := by
  subst hp hv
  exact k.of fun t k => XT.i2s A.1 A.2.1 rfl (hb A.2.2 hd) rfl k
theorem s_lneg {x v : Int64} (A : Wk p below m c b T) (hd : decode b pc = .ok (.lneg, 1)) (hp : pc + 1 = pc') (hv : -x = v) (k : Go p e below m F T pc' ls (.long v :: rest)) : Go p e below m F T pc ls (.long x :: rest) := by
  subst hp hv
  exact k.of fun t k => XT.lneg A.1 A.2.1 rfl (hb A.2.2 hd) rfl k
theorem s_dupX1 {x y : Value} (A : Wk p below m c b T) (hd : decode b pc = .ok (.dup_x1, 1)) (hp : pc + 1 = pc') (hc : x.category = 1) (hc' : y.category = 1) (k : Go p e below m F T pc' ls (x :: y :: x :: rest)) : Go p e below m F T pc ls (x :: y :: rest) := by
  subst hp
  exact k.of fun t k => XT.dupX1 A.1 A.2.1 rfl (hb A.2.2 hd) rfl hc hc' k
theorem s_dup2 {x y : Value} (A : Wk p below m c b T) (hd : decode b pc = .ok (.dup2, 1)) (hp : pc + 1 = pc') (hc : x.category = 1) (hc' : y.category = 1) (k : Go p e below m F T pc' ls (x :: y :: x :: y :: rest)) : Go p e below m F T pc ls (x :: y :: rest) := by
  subst hp
  exact k.of fun t k => XT.dup2 A.1 A.2.1 rfl (hb A.2.2 hd) rfl hc hc' k
theorem s_i2l {x : Int32} {v : Int64} (A : Wk p below m c b T) (hd : decode b pc = .ok (.i2l, 1)) (hp : pc + 1 = pc') (hv : x.toInt64 = v) (k : Go p e below m F T pc' ls (.long v :: rest)) : Go p e below m F T pc ls (.int x :: rest) := by
  subst hp hv
  exact k.of fun t k => XT.i2l A.1 A.2.1 rfl (hb A.2.2 hd) rfl k
theorem s_l2i {x : Int64} {v : Int32} (A : Wk p below m c b T) (hd : decode b pc = .ok (.l2i, 1)) (hp : pc + 1 = pc') (hv : x.toInt32 = v) (k : Go p e below m F T pc' ls (.int v :: rest)) : Go p e below m F T pc ls (.long x :: rest) := by
  subst hp hv
  exact k.of fun t k => XT.l2i A.1 A.2.1 rfl (hb A.2.2 hd) rfl k
theorem s_ineg {x v : Int32} (A : Wk p below m c b T) (hd : decode b pc = .ok (.ineg, 1)) (hp : pc + 1 = pc') (hv : -x = v) (k : Go p e below m F T pc' ls (.int v :: rest)) : Go p e below m F T pc ls (.int x :: rest) := by
  subst hp hv
  exact k.of fun t k => XS.ineg A.1 A.2.1 rfl (hb A.2.2 hd) rfl k
theorem s_i2d {x : Int32} {v : UInt64} (A : Wk p below m c b T) (hd : decode b pc = .ok (.i2d, 1)) (hp : pc + 1 = pc') (hv : FP.i2d x = v) (k : Go p e below m F T pc' ls (.double v :: rest)) : Go p e below m F T pc ls (.int x :: rest) := by
  subst hp hv
  exact k.of fun t k => XS.i2dS A.1 A.2.1 rfl (hb A.2.2 hd) rfl rfl k
theorem s_l2d {x : Int64} {v : UInt64} (A : Wk p below m c b T) (hd : decode b pc = .ok (.l2d, 1)) (hp : pc + 1 = pc') (hv : FP.l2d x = v) (k : Go p e below m F T pc' ls (.double v :: rest)) : Go p e below m F T pc ls (.long x :: rest) := by
  subst hp hv
  exact k.of fun t k => XS.l2dS A.1 A.2.1 rfl (hb A.2.2 hd) rfl rfl k
theorem s_dneg {x v : UInt64} (A : Wk p below m c b T) (hd : decode b pc = .ok (.dneg, 1)) (hp : pc + 1 = pc') (hv : FP.dneg x = v) (k : Go p e below m F T pc' ls (.double v :: rest)) : Go p e below m F T pc ls (.double x :: rest) := by
  subst hp hv
  exact k.of fun t k => XS.dnegS A.1 A.2.1 rfl (hb A.2.2 hd) rfl rfl k
theorem s_dadd {x y v : UInt64} (A : Wk p below m c b T) (hd : decode b pc = .ok (.dadd, 1)) (hp : pc + 1 = pc') (hv : FP.dadd x y = v) (hn : Jvm.Free.Fl.NoNaN64 v) (k : Go p e below m F T pc' ls (.double v :: rest)) : Go p e below m F T pc ls (.double y :: .double x :: rest) := by
  subst hp hv
  exact k.of fun t k => XS.daddS A.1 A.2.1 rfl (hb A.2.2 hd) rfl hn rfl k
theorem s_dsub {x y v : UInt64} (A : Wk p below m c b T) (hd : decode b pc = .ok (.dsub, 1)) (hp : pc + 1 = pc') (hv : FP.dsub x y = v) (hn : Jvm.Free.Fl.NoNaN64 v) (k : Go p e below m F T pc' ls (.double v :: rest)) : Go p e below m F T pc ls (.double y :: .double x :: rest) := by
  subst hp hv
  exact k.of fun t k => XS.dsubS A.1 A.2.1 rfl (hb A.2.2 hd) rfl hn rfl k
theorem s_dmul {x y v : UInt64} (A : Wk p below m c b T) (hd : decode b pc = .ok (.dmul, 1)) (hp : pc + 1 = pc') (hv : FP.dmul x y = v) (hn : Jvm.Free.Fl.NoNaN64 v) (k : Go p e below m F T pc' ls (.double v :: rest)) : Go p e below m F T pc ls (.double y :: .double x :: rest) := by
  subst hp hv
  exact k.of fun t k => XS.dmulS A.1 A.2.1 rfl (hb A.2.2 hd) rfl hn rfl k
theorem s_ddiv {x y v : UInt64} (A : Wk p below m c b T) (hd : decode b pc = .ok (.ddiv, 1)) (hp : pc + 1 = pc') (hv : FP.ddiv x y = v) (hn : Jvm.Free.Fl.NoNaN64 v) (k : Go p e below m F T pc' ls (.double v :: rest)) : Go p e below m F T pc ls (.double y :: .double x :: rest) := by
  subst hp hv
  exact k.of fun t k => XS.ddivS A.1 A.2.1 rfl (hb A.2.2 hd) rfl hn rfl k
theorem s_dcmp {o : CmpOp} {x y : UInt64} {v : Int32} (A : Wk p below m c b T) (hd : decode b pc = .ok (.dcmp o, 1)) (hp : pc + 1 = pc') (hv : cmpValue (FP.dcmp x y) o = v) (k : Go p e below m F T pc' ls (.int v :: rest)) : Go p e below m F T pc ls (.double y :: .double x :: rest) := by
  subst hp hv
  exact k.of fun t k => XS.dcmpS A.1 A.2.1 rfl (hb A.2.2 hd) rfl rfl k
theorem s_lcmp {x y : Int64} {v : Int32} (A : Wk p below m c b T) (hd : decode b pc = .ok (.lcmp, 1)) (hp : pc + 1 = pc') (hv : XT.cmpL x y = v) (k : Go p e below m F T pc' ls (.int v :: rest)) : Go p e below m F T pc ls (.long y :: .long x :: rest) := by
  subst hp hv
  exact k.of fun t k => XT.lcmp A.1 A.2.1 rfl (hb A.2.2 hd) rfl k
theorem s_dup {x : Value} (A : Wk p below m c b T) (hd : decode b pc = .ok (.dup, 1)) (hp : pc + 1 = pc') (hc : x.category = 1) (k : Go p e below m F T pc' ls (x :: x :: rest)) : Go p e below m F T pc ls (x :: rest) := by
  subst hp
  exact k.of fun t k => XS.dup A.1 A.2.1 rfl (hb A.2.2 hd) rfl hc k
theorem s_pop {x : Value} (A : Wk p below m c b T) (hd : decode b pc = .ok (.pop, 1)) (hp : pc + 1 = pc') (hc : x.category = 1) (k : Go p e below m F T pc' ls rest) : Go p e below m F T pc ls (x :: rest) := by
  subst hp
  exact k.of fun t k => XT.pop A.1 A.2.1 rfl (hb A.2.2 hd) rfl hc k
theorem s_goto {o : Int} (A : Wk p below m c b T) (hd : decode b pc = .ok (.goto o, 3)) (ho : 0 ≤ (pc : Int) + o) (hp : ((pc : Int) + o).toNat = pc') {st : List Value} (k : Go p e below m F T pc' ls st) : Go p e below m F T pc ls st := by
  exact k.of fun t k => XS.goto A.1 A.2.1 rfl rfl (hb A.2.2 hd) ho hp k
theorem n32_lt {x y : Int32} (h : ¬ x < y) : x ≥ y := Int32.not_lt.mp h
theorem n32_le {x y : Int32} (h : ¬ x ≤ y) : x > y := Int32.not_le.mp h
theorem s_ifeq {o : Int} {pY pN : Nat} {x : Int32} (A : Wk p below m c b T) (hd : decode b pc = .ok (.ifCond .eq o, 3)) (ho : 0 ≤ (pc : Int) + o) (hY : ((pc : Int) + o).toNat = pY) (hN : pc + 3 = pN) (kY : x = 0 → Go p e below m F T pY ls rest) (kN : x ≠ 0 → Go p e below m F T pN ls rest) : Go p e below m F T pc ls (.int x :: rest) := by
  subst hN
  cases q : ifCond.holds .eq x with
  | true => exact (kY (beq_iff_eq.mp q)).of fun t k => XS.ifYes A.1 A.2.1 rfl rfl (hb A.2.2 hd) rfl q ho hY k
  | false => exact (kN (beq_eq_false_iff_ne.mp q)).of fun t k => XS.ifNo A.1 A.2.1 rfl (hb A.2.2 hd) rfl q k
theorem s_ifne {o : Int} {pY pN : Nat} {x : Int32} (A : Wk p below m c b T) (hd : decode b pc = .ok (.ifCond .ne o, 3)) (ho : 0 ≤ (pc : Int) + o) (hY : ((pc : Int) + o).toNat = pY) (hN : pc + 3 = pN) (kY : x ≠ 0 → Go p e below m F T pY ls rest) (kN : x = 0 → Go p e below m F T pN ls rest) : Go p e below m F T pc ls (.int x :: rest) := by
  subst hN
  cases q : ifCond.holds .ne x with
  | true => exact (kY (bne_iff_ne.mp q)).of fun t k => XS.ifYes A.1 A.2.1 rfl rfl (hb A.2.2 hd) rfl q ho hY k
  | false => exact (kN (bne_eq_false_iff_eq.mp q)).of fun t k => XS.ifNo A.1 A.2.1 rfl (hb A.2.2 hd) rfl q k
theorem s_iflt {o : Int} {pY pN : Nat} {x : Int32} (A : Wk p below m c b T) (hd : decode b pc = .ok (.ifCond .lt o, 3)) (ho : 0 ≤ (pc : Int) + o) (hY : ((pc : Int) + o).toNat = pY) (hN : pc + 3 = pN) (kY : x < 0 → Go p e below m F T pY ls rest) (kN : x ≥ 0 → Go p e below m F T pN ls rest) : Go p e below m F T pc ls (.int x :: rest) := by
  subst hN
  cases q : ifCond.holds .lt x with
  | true => exact (kY (of_decide_eq_true q)).of fun t k => XS.ifYes A.1 A.2.1 rfl rfl (hb A.2.2 hd) rfl q ho hY k
  | false => exact (kN (n32_lt (of_decide_eq_false q))).of fun t k => XS.ifNo A.1 A.2.1 rfl (hb A.2.2 hd) rfl q k
theorem s_ifge {o : Int} {pY pN : Nat} {x : Int32} (A : Wk p below m c b T) (hd : decode b pc = .ok (.ifCond .ge o, 3)) (ho : 0 ≤ (pc : Int) + o) (hY : ((pc : Int) + o).toNat = pY) (hN : pc + 3 = pN) (kY : x ≥ 0 → Go p e below m F T pY ls rest) (kN : x < 0 → Go p e below m F T pN ls rest) : Go p e below m F T pc ls (.int x :: rest) := by
  subst hN
  cases q : ifCond.holds .ge x with
  | true => exact (kY (of_decide_eq_true q)).of fun t k => XS.ifYes A.1 A.2.1 rfl rfl (hb A.2.2 hd) rfl q ho hY k
  | false => exact (kN (n32_le (of_decide_eq_false q))).of fun t k => XS.ifNo A.1 A.2.1 rfl (hb A.2.2 hd) rfl q k
theorem s_ifgt {o : Int} {pY pN : Nat} {x : Int32} (A : Wk p below m c b T) (hd : decode b pc = .ok (.ifCond .gt o, 3)) (ho : 0 ≤ (pc : Int) + o) (hY : ((pc : Int) + o).toNat = pY) (hN : pc + 3 = pN) (kY : x > 0 → Go p e below m F T pY ls rest) (kN : x ≤ 0 → Go p e below m F T pN ls rest) : Go p e below m F T pc ls (.int x :: rest) := by
  subst hN
  cases q : ifCond.holds .gt x with
  | true => exact (kY (of_decide_eq_true q)).of fun t k => XS.ifYes A.1 A.2.1 rfl rfl (hb A.2.2 hd) rfl q ho hY k
  | false => exact (kN (n32_lt (of_decide_eq_false q))).of fun t k => XS.ifNo A.1 A.2.1 rfl (hb A.2.2 hd) rfl q k
theorem s_ifle {o : Int} {pY pN : Nat} {x : Int32} (A : Wk p below m c b T) (hd : decode b pc = .ok (.ifCond .le o, 3)) (ho : 0 ≤ (pc : Int) + o) (hY : ((pc : Int) + o).toNat = pY) (hN : pc + 3 = pN) (kY : x ≤ 0 → Go p e below m F T pY ls rest) (kN : x > 0 → Go p e below m F T pN ls rest) : Go p e below m F T pc ls (.int x :: rest) := by
  subst hN
  cases q : ifCond.holds .le x with
  | true => exact (kY (of_decide_eq_true q)).of fun t k => XS.ifYes A.1 A.2.1 rfl rfl (hb A.2.2 hd) rfl q ho hY k
  | false => exact (kN (n32_le (of_decide_eq_false q))).of fun t k => XS.ifNo A.1 A.2.1 rfl (hb A.2.2 hd) rfl q k
theorem s_icmpeq {o : Int} {pY pN : Nat} {x y : Int32} (A : Wk p below m c b T) (hd : decode b pc = .ok (.if_icmp .eq o, 3)) (ho : 0 ≤ (pc : Int) + o) (hY : ((pc : Int) + o).toNat = pY) (hN : pc + 3 = pN) (kY : x = y → Go p e below m F T pY ls rest) (kN : x ≠ y → Go p e below m F T pN ls rest) : Go p e below m F T pc ls (.int y :: .int x :: rest) := by
  subst hN
  cases q : if_icmp.holds .eq x y with
  | true => exact (kY (beq_iff_eq.mp q)).of fun t k => XS.icmpYes A.1 A.2.1 rfl rfl (hb A.2.2 hd) rfl q ho hY k
  | false => exact (kN (beq_eq_false_iff_ne.mp q)).of fun t k => XS.icmpNo A.1 A.2.1 rfl (hb A.2.2 hd) rfl q k
theorem s_icmpne {o : Int} {pY pN : Nat} {x y : Int32} (A : Wk p below m c b T) (hd : decode b pc = .ok (.if_icmp .ne o, 3)) (ho : 0 ≤ (pc : Int) + o) (hY : ((pc : Int) + o).toNat = pY) (hN : pc + 3 = pN) (kY : x ≠ y → Go p e below m F T pY ls rest) (kN : x = y → Go p e below m F T pN ls rest) : Go p e below m F T pc ls (.int y :: .int x :: rest) := by
  subst hN
  cases q : if_icmp.holds .ne x y with
  | true => exact (kY (bne_iff_ne.mp q)).of fun t k => XS.icmpYes A.1 A.2.1 rfl rfl (hb A.2.2 hd) rfl q ho hY k
  | false => exact (kN (bne_eq_false_iff_eq.mp q)).of fun t k => XS.icmpNo A.1 A.2.1 rfl (hb A.2.2 hd) rfl q k
theorem s_icmplt {o : Int} {pY pN : Nat} {x y : Int32} (A : Wk p below m c b T) (hd : decode b pc = .ok (.if_icmp .lt o, 3)) (ho : 0 ≤ (pc : Int) + o) (hY : ((pc : Int) + o).toNat = pY) (hN : pc + 3 = pN) (kY : x < y → Go p e below m F T pY ls rest) (kN : x ≥ y → Go p e below m F T pN ls rest) : Go p e below m F T pc ls (.int y :: .int x :: rest) := by
  subst hN
  cases q : if_icmp.holds .lt x y with
  | true => exact (kY (of_decide_eq_true q)).of fun t k => XS.icmpYes A.1 A.2.1 rfl rfl (hb A.2.2 hd) rfl q ho hY k
  | false => exact (kN (n32_lt (of_decide_eq_false q))).of fun t k => XS.icmpNo A.1 A.2.1 rfl (hb A.2.2 hd) rfl q k
theorem s_icmpge {o : Int} {pY pN : Nat} {x y : Int32} (A : Wk p below m c b T) (hd : decode b pc = .ok (.if_icmp .ge o, 3)) (ho : 0 ≤ (pc : Int) + o) (hY : ((pc : Int) + o).toNat = pY) (hN : pc + 3 = pN) (kY : x ≥ y → Go p e below m F T pY ls rest) (kN : x < y → Go p e below m F T pN ls rest) : Go p e below m F T pc ls (.int y :: .int x :: rest) := by
  subst hN
  cases q : if_icmp.holds .ge x y with
  | true => exact (kY (of_decide_eq_true q)).of fun t k => XS.icmpYes A.1 A.2.1 rfl rfl (hb A.2.2 hd) rfl q ho hY k
  | false => exact (kN (n32_le (of_decide_eq_false q))).of fun t k => XS.icmpNo A.1 A.2.1 rfl (hb A.2.2 hd) rfl q k
theorem s_icmpgt {o : Int} {pY pN : Nat} {x y : Int32} (A : Wk p below m c b T) (hd : decode b pc = .ok (.if_icmp .gt o, 3)) (ho : 0 ≤ (pc : Int) + o) (hY : ((pc : Int) + o).toNat = pY) (hN : pc + 3 = pN) (kY : x > y → Go p e below m F T pY ls rest) (kN : x ≤ y → Go p e below m F T pN ls rest) : Go p e below m F T pc ls (.int y :: .int x :: rest) := by
  subst hN
  cases q : if_icmp.holds .gt x y with
  | true => exact (kY (of_decide_eq_true q)).of fun t k => XS.icmpYes A.1 A.2.1 rfl rfl (hb A.2.2 hd) rfl q ho hY k
  | false => exact (kN (n32_lt (of_decide_eq_false q))).of fun t k => XS.icmpNo A.1 A.2.1 rfl (hb A.2.2 hd) rfl q k
theorem s_icmple {o : Int} {pY pN : Nat} {x y : Int32} (A : Wk p below m c b T) (hd : decode b pc = .ok (.if_icmp .le o, 3)) (ho : 0 ≤ (pc : Int) + o) (hY : ((pc : Int) + o).toNat = pY) (hN : pc + 3 = pN) (kY : x ≤ y → Go p e below m F T pY ls rest) (kN : x > y → Go p e below m F T pN ls rest) : Go p e below m F T pc ls (.int y :: .int x :: rest) := by
  subst hN
  cases q : if_icmp.holds .le x y with
  | true => exact (kY (of_decide_eq_true q)).of fun t k => XS.icmpYes A.1 A.2.1 rfl rfl (hb A.2.2 hd) rfl q ho hY k
  | false => exact (kN (n32_le (of_decide_eq_false q))).of fun t k => XS.icmpNo A.1 A.2.1 rfl (hb A.2.2 hd) rfl q k
theorem s_nonnullY {o : Int} {a : Addr} (A : Wk p below m c b T) (hd : decode b pc = .ok (.ifnonnull o, 3)) (ho : 0 ≤ (pc : Int) + o) (hp : ((pc : Int) + o).toNat = pc') (k : Go p e below m F T pc' ls rest) : Go p e below m F T pc ls (.ref a :: rest) := by
  exact k.of fun t k => XT.ifnonnullYes A.1 A.2.1 rfl rfl (hb A.2.2 hd) rfl ho hp k
theorem s_acmpeq {o : Int} {pY pN : Nat} {x y : Value} (A : Wk p below m c b T) (hx' : x.isRef = true) (hy' : y.isRef = true) (hd : decode b pc = .ok (.if_acmp .eq o, 3)) (ho : 0 ≤ (pc : Int) + o) (hY : ((pc : Int) + o).toNat = pY) (hN : pc + 3 = pN) (kY : x = y → Go p e below m F T pY ls rest) (kN : x ≠ y → Go p e below m F T pN ls rest) : Go p e below m F T pc ls (y :: x :: rest) := by
  subst hN
  by_cases q : x = y
  · exact (kY q).of fun t k => XT.acmpYes A.1 A.2.1 rfl rfl (hb A.2.2 hd) rfl hx' hy' (decide_eq_true q) ho hY k
  · exact (kN q).of fun t k => XT.acmpNo A.1 A.2.1 rfl (hb A.2.2 hd) rfl hx' hy' (decide_eq_false q) k
theorem s_acmpne {o : Int} {pY pN : Nat} {x y : Value} (A : Wk p below m c b T) (hx' : x.isRef = true) (hy' : y.isRef = true) (hd : decode b pc = .ok (.if_acmp .ne o, 3)) (ho : 0 ≤ (pc : Int) + o) (hY : ((pc : Int) + o).toNat = pY) (hN : pc + 3 = pN) (kY : x ≠ y → Go p e below m F T pY ls rest) (kN : x = y → Go p e below m F T pN ls rest) : Go p e below m F T pc ls (y :: x :: rest) := by
  subst hN
  by_cases q : x = y
  · exact (kN q).of fun t k => XT.acmpNo A.1 A.2.1 rfl (hb A.2.2 hd) rfl hx' hy' (decide_eq_false (fun r => r q)) k
  · exact (kY q).of fun t k => XT.acmpYes A.1 A.2.1 rfl rfl (hb A.2.2 hd) rfl hx' hy' (decide_eq_true q) ho hY k
theorem s_tsw {dflt low high : Int} {offs : Array Int} {len : Nat} {o : Int} {i : Int32} (A : Wk p below m c b T) (hd : decode b pc = .ok (.tableswitch dflt low high offs, len)) (hin : ¬ (i.toInt < low ∨ i.toInt > high)) (hoff : offs[(i.toInt - low).toNat]? = some o) (ho : 0 ≤ (pc : Int) + o) (hp : ((pc : Int) + o).toNat = pc') (k : Go p e below m F T pc' ls rest) : Go p e below m F T pc ls (.int i :: rest) := by
  exact k.of fun t k => XS.tswIn A.1 A.2.1 rfl rfl (hb A.2.2 hd) rfl hin hoff ho hp k
end Plain
section Heap
variable {p : Program} {l : Launch} {e : Env} {R : Room} {s : State} {m : MethodId} {args : Array Value} {below : List Frame} {meth : Method} {c : Code} {T : State} {locs : List Loc} {cells slots : Nat} {Z : State} {a0 : Array Value} {h : Heap} {b : ByteArray} {F : Outcome → State → Prop} {pc pc' : Nat} {ls : Array Slot} {rest : List Value}
theorem g_ldcI (X : Stand p l e R s m args below meth c T locs cells slots) (hx : p.tables.exec = Jvm.exec) (hZ : Z.Warmed39 s.vm) {own : String} {i : Nat} {v : Int32} (hown : s.vm.findClass own = some m.cls) (w : (Cond.constant own i v).before a0 Z = true) (hd : decode c.code pc = .ok (.ldc i, 2)) (hp : pc + 2 = pc') (k : Go p e below m F T pc' ls (.int v :: rest)) : Go p e below m F T pc ls rest := by
  subst hp
  exact k.of fun t k => X.ldcInt hx hown (mvT hZ w) (g := mkF m pc ls rest) rfl hd t k
theorem g_ldcwI (X : Stand p l e R s m args below meth c T locs cells slots) (hx : p.tables.exec = Jvm.exec) (hZ : Z.Warmed39 s.vm) {own : String} {i : Nat} {v : Int32} (hown : s.vm.findClass own = some m.cls) (w : (Cond.constant own i v).before a0 Z = true) (hd : decode c.code pc = .ok (.ldc_w i, 3)) (hp : pc + 3 = pc') (k : Go p e below m F T pc' ls (.int v :: rest)) : Go p e below m F T pc ls rest := by
  subst hp
  exact k.of fun t k => X.ldcwInt hx hown (mvT hZ w) (g := mkF m pc ls rest) rfl hd t k
theorem g_ldcJ (X : Stand p l e R s m args below meth c T locs cells slots) (hx : p.tables.exec = Jvm.exec) (hZ : Z.Warmed39 s.vm) {own : String} {i : Nat} {v : Int64} (hown : s.vm.findClass own = some m.cls) (w : (Cond.constantLong own i v).before a0 Z = true) (hd : decode c.code pc = .ok (.ldc2_w i, 3)) (hp : pc + 3 = pc') (k : Go p e below m F T pc' ls (.long v :: rest)) : Go p e below m F T pc ls rest := by
  subst hp
  exact k.of fun t k => X.ldc2Long hx hown (mvT hZ w) (g := mkF m pc ls rest) rfl hd t k
theorem g_ldcD (X : Stand p l e R s m args below meth c T locs cells slots) (hx : p.tables.exec = Jvm.exec) (hZ : Z.Warmed39 s.vm) {own : String} {i : Nat} {v : UInt64} (hown : s.vm.findClass own = some m.cls) (w : (Cond.constantDouble own i v).before a0 Z = true) (hd : decode c.code pc = .ok (.ldc2_w i, 3)) (hp : pc + 3 = pc') (k : Go p e below m F T pc' ls (.double v :: rest)) : Go p e below m F T pc ls rest := by
  subst hp
  exact k.of fun t k => X.ldc2DoubleC hx hown (mvT hZ w) (g := mkF m pc ls rest) rfl hd t k
theorem g_getF (X : Stand p l e R s m args below meth c T locs cells slots) (hx : p.tables.exec = Jvm.exec) (hZ : Z.Warmed39 s.vm) {own R0 O n d : String} {i : Nat} (hown : s.vm.findClass own = some m.cls) (w : (Cond.fieldLink own i R0 n d).before a0 Z = true) (via : Via Z R0 O n d) (eT : T.heap = h) {a : Addr} {v : Value} (F0 : Fld Z h a O n d v) (hd : decode c.code pc = .ok (.getfield i, 3)) (hp : pc + 3 = pc') (k : ∀ T', Stand p l e R s m args below meth c T' locs cells slots → T'.heap = h → Go p e below m F T' pc' ls (v :: rest)) : Go p e below m F T pc ls (.ref a :: rest) := by
  subst hp
  obtain ⟨T', X', e', st⟩ := getF X hx hZ hown (host := "") (Or.inl w) via eT F0 (g := mkF m pc ls (.ref a :: rest)) rfl rfl hd
  exact (k T' X' e').of st
theorem g_getFN (X : Stand p l e R s m args below meth c T locs cells slots) (hx : p.tables.exec = Jvm.exec) (hZ : Z.Warmed39 s.vm) {own R0 O n d host : String} {i : Nat} (hown : s.vm.findClass own = some m.cls) (w : (Cond.fieldLinkNest own i R0 n d host).before a0 Z = true) (via : Via Z R0 O n d) (eT : T.heap = h) {a : Addr} {v : Value} (F0 : Fld Z h a O n d v) (hd : decode c.code pc = .ok (.getfield i, 3)) (hp : pc + 3 = pc') (k : ∀ T', Stand p l e R s m args below meth c T' locs cells slots → T'.heap = h → Go p e below m F T' pc' ls (v :: rest)) : Go p e below m F T pc ls (.ref a :: rest) := by
  subst hp
  obtain ⟨T', X', e', st⟩ := getF X hx hZ hown (host := host) (Or.inr w) via eT F0 (g := mkF m pc ls (.ref a :: rest)) rfl rfl hd
  exact (k T' X' e').of st
theorem g_putF (X : Stand p l e R s m args below meth c T locs cells slots) (hx : p.tables.exec = Jvm.exec) (hZ : Z.Warmed39 s.vm) {own R0 O n d C : String} {i kk : Nat} {ty : FieldType} (hown : s.vm.findClass own = some m.cls) (w : (Cond.fieldLink own i R0 n d).before a0 Z = true) (via : Via Z R0 O n d) (eT : T.heap = h) {a : Addr} {v old : Value} (F0 : Fld Z h a O n d old) (E : Exa Z h a C) (L : (Cond.lays C O n d).before a0 Z = true ∨ ((Cond.laysFinal C O n d).before a0 Z = true ∧ own = O ∧ meth.name = "<init>")) (wi : (Cond.instantiable C kk).before a0 Z = true) (hty : parseFieldDescriptor d = some ty) (hn : narrow ty v = v) (hf : fits ty v = true) (hd : decode c.code pc = .ok (.putfield i, 3)) (hp : pc + 3 = pc') (k : ∀ T' h', Stand p l e R s m args below meth c T' (locs ++ [⟨a, RoadKit.slotOf Z O n d⟩]) cells slots → T'.heap = h' → Wr h h' a (RoadKit.slotOf Z O n d) v → Go p e below m F T' pc' ls rest) : Go p e below m F T pc ls (v :: .ref a :: rest) := by
  subst hp
  obtain ⟨T', h', X', e', W', st⟩ := putF X hx hZ hown (host := "") (Or.inl w) via eT F0 E L wi hty hn hf (g := mkF m pc ls (v :: .ref a :: rest)) rfl rfl hd
  exact (k T' h' X' e' W').of st
theorem g_getS (X : Stand p l e R s m args below meth c T locs cells slots) (hx : p.tables.exec = Jvm.exec) (hZ : Z.Warmed39 s.vm) {own R0 O n d : String} {i : Nat} (hown : s.vm.findClass own = some m.cls) (w : (Cond.fieldLink own i R0 n d).before a0 Z = true) (via : Via Z R0 O n d) (eT : T.heap = h) {v : Value} (F0 : Sta Z h O n d v) (hd : decode c.code pc = .ok (.getstatic i, 3)) (hp : pc + 3 = pc') (k : ∀ T', Stand p l e R s m args below meth c T' locs cells slots → T'.heap = h → Go p e below m F T' pc' ls (v :: rest)) : Go p e below m F T pc ls rest := by
  subst hp
  obtain ⟨T', X', e', st⟩ := getS X hx hZ hown (host := "") w via eT F0 (g := mkF m pc ls rest) rfl hd
  exact (k T' X' e').of st
theorem g_new (X : Stand p l e R s m args below meth c T locs cells slots) (hx : p.tables.exec = Jvm.exec) (hZ : Z.Warmed39 s.vm) {own C : String} {i n : Nat} (hown : s.vm.findClass own = some m.cls) (w : (Cond.classLink own i C).before a0 Z = true) (wi : (Cond.instantiable C n).before a0 Z = true) (wz : (Cond.initialized C).before a0 Z = true) (eT : T.heap = h) (hd : decode c.code pc = .ok (.new i, 3)) (hp : pc + 3 = pc') (hc : cells + 1 ≤ R.cells) (hl : slots + n ≤ R.slots) (k : ∀ T' h' a, Stand p l e R s m args below meth c T' locs (cells + 1) (slots + n) → T'.heap = h' → Ext h h' → a = h.size → Exa Z h' a C → (∀ {O nm d : String} {ty : FieldType}, Laid Z a0 C O nm d → parseFieldDescriptor d = some ty → Fld Z h' a O nm d (defaultValue ty)) → Go p e below m F T' pc' ls (.ref a :: rest)) : Go p e below m F T pc ls rest := by
  subst hp
  obtain ⟨T', h', X', e', E', A', D', -, st⟩ := newO X hx hZ hown w wi wz eT (g := mkF m pc ls rest) rfl hd hc hl
  exact (k T' h' _ X' e' E' rfl A' D').of st
theorem g_initO (X : Stand p l e R s m args below meth c T locs cells slots) (hx : p.tables.exec = Jvm.exec) (hZ : Z.Warmed39 s.vm) {own : String} {i : Nat} (hown : s.vm.findClass own = some m.cls) (w1 : (Cond.methodLink own i Lib.objectInit).before a0 Z = true) (w2 : (Cond.instanceMethod Lib.objectInit).before a0 Z = true) (w3 : (Cond.code Lib.objectInit ⟨#[0xb1]⟩ 1 none).before a0 Z = true) (eT : T.heap = h) (hsize : ls.size = c.maxLocals) {a : Addr} (hd : decode c.code pc = .ok (.invokespecial i, 3)) (hp : pc + 3 = pc') (hf : 1 ≤ R.frames) {W : Nat} (hW : 2 * 0 + (rest.map fun v => v.category).sum ≤ W) (hl : W + 12 ≤ R.locals) (k : ∀ T', Stand p l e R s m args below meth c T' locs cells slots → T'.heap = h → Go p e below m F T' pc' ls rest) : Go p e below m F T pc ls (.ref a :: rest) := by
  subst hp
  obtain ⟨T', X', e', st⟩ := initO X hx hZ hown w1 w2 w3 eT (g := mkF m pc ls (.ref a :: rest)) rfl hsize rfl hd hf hW hl
  exact (k T' X' e').of st
theorem g_static (X : Stand p l e R s m args below meth c T locs cells slots) (hx : p.tables.exec = Jvm.exec) (hZ : Z.Warmed39 s.vm) {own : String} {i : Nat} {y : MethodName} {bytes : ByteArray} {maxL : Nat} {ret : Option FieldType} {rm : Room} {Q : Option Value → Heap → List Loc → Prop} (hown : s.vm.findClass own = some m.cls) (w1 : (Cond.methodLink own i y).before a0 Z = true) (w2 : (Cond.static y).before a0 Z = true) (w3 : (Cond.initialized y.cls).before a0 Z = true) (w4 : (Cond.code y bytes maxL ret).before a0 Z = true) (hy : y.cls ≠ "java/lang/invoke/MethodHandle" ∧ y.cls ≠ "java/lang/invoke/VarHandle")
    {argsL st : List Value} {ps : List FieldType} {rt : Option FieldType} (hM : Ctr l Z y bytes maxL ret [] rm argsL.toArray h Q) (hpd : parseMethodDescriptor y.desc = some ⟨ps, rt⟩) (hlen : argsL.length = ps.length) (hst : st = argsL.reverse ++ rest) (hd : decode c.code pc = .ok (.invokestatic i, 3)) (eT : T.heap = h) (hsize : ls.size = c.maxLocals) (hp : pc + 3 = pc') (hf : rm.frames + 1 ≤ R.frames) {W : Nat} (hW : 2 * 0 + (rest.map fun v => v.category).sum ≤ W) (hl : W + (maxL + 11) + rm.locals ≤ R.locals) (hc : cells + rm.cells ≤ R.cells) (hs : slots + rm.slots ≤ R.slots)
    (k : ∀ v T' L, Stand p l e R s m args below meth c T' (locs ++ L) (cells + rm.cells) (slots + rm.slots) → Q v T'.heap L → Go p e below m F T' pc' ls (v.toList ++ rest)) : Go p e below m F T pc ls st := by
  subst hp hst
  obtain ⟨v, _, ⟨T', L', k', n'⟩, -, X', ⟨L, hQ, l1, l2, l3⟩, stp⟩ := Jvm.LawKit.callS X hx (y := y) hown (mvT hZ w1) (mvT hZ w2) (mvT hZ w3) (mvT hZ w4) hy (backOf (W := W) hM hZ w4 w3 hf hl) (g := mkF m pc ls (argsL.reverse ++ rest)) rfl hsize (argsL := argsL) (rest := rest) (lenOf hpd hlen) rfl hW hd (fun _ _ => ⟨rfl, eT, hc, hs⟩)
  dsimp only [Pt.U, Pt.locs, Pt.cells, Pt.slots] at X' l1 l2 l3 stp hQ
  subst l1 l2 l3
  exact (k v T' L X' hQ).of stp
theorem g_special (X : Stand p l e R s m args below meth c T locs cells slots) (hx : p.tables.exec = Jvm.exec) (hZ : Z.Warmed39 s.vm) {own : String} {i : Nat} {y : MethodName} {bytes : ByteArray} {maxL : Nat} {rm : Room} {Q : Option Value → Heap → List Loc → Prop} (hy1 : y.name = "<init>") (hown : s.vm.findClass own = some m.cls) (w1 : (Cond.methodLink own i y).before a0 Z = true) (w2 : (Cond.instanceMethod y).before a0 Z = true) (w3 : (Cond.initialized y.cls).before a0 Z = true) (w4 : (Cond.code y bytes maxL none).before a0 Z = true) (hy : y.cls ≠ "java/lang/invoke/MethodHandle" ∧ y.cls ≠ "java/lang/invoke/VarHandle")
    {a : Addr} {argsL st : List Value} {ps : List FieldType} {rt : Option FieldType} (hM : Ctr l Z y bytes maxL none [] rm (.ref a :: argsL).toArray h Q) (hpd : parseMethodDescriptor y.desc = some ⟨ps, rt⟩) (hlen : argsL.length = ps.length) (hst : st = argsL.reverse ++ .ref a :: rest) (hd : decode c.code pc = .ok (.invokespecial i, 3)) (eT : T.heap = h) (hsize : ls.size = c.maxLocals) (hp : pc + 3 = pc') (hf : rm.frames + 1 ≤ R.frames) {W : Nat} (hW : 2 * 0 + (rest.map fun v => v.category).sum ≤ W) (hl : W + (maxL + 11) + rm.locals ≤ R.locals) (hc : cells + rm.cells ≤ R.cells) (hs : slots + rm.slots ≤ R.slots)
    (k : ∀ v T' L, Stand p l e R s m args below meth c T' (locs ++ L) (cells + rm.cells) (slots + rm.slots) → Q v T'.heap L → Go p e below m F T' pc' ls (v.toList ++ rest)) : Go p e below m F T pc ls st := by
  subst hp hst
  obtain ⟨v, _, ⟨T', L', k', n'⟩, -, X', ⟨L, hQ, l1, l2, l3⟩, stp⟩ := X.specialBack hx (y := y) hy1 hown (mvT hZ w1) (mvT hZ w2) (mvT hZ w4) hy (backOf (W := W) hM hZ w4 w3 hf hl) (g := mkF m pc ls (argsL.reverse ++ .ref a :: rest)) rfl hsize (Steps.refl _) (a := a) (argsL := argsL) (rest := rest) (lenOf hpd hlen) rfl hW hd (fun _ _ => ⟨rfl, eT, hc, hs⟩)
  dsimp only [Pt.U, Pt.locs, Pt.cells, Pt.slots] at X' l1 l2 l3 stp hQ
  subst l1 l2 l3
  exact (k v T' L X' hQ).of fun t q => stp.trans q
theorem g_virtual (X : Stand p l e R s m args below meth c T locs cells slots) (hx : p.tables.exec = Jvm.exec) (hZ : Z.Warmed39 s.vm) {own C : String} {i : Nat} {y : MethodName} {bytes : ByteArray} {maxL : Nat} {ret : Option FieldType} {rm : Room} {Q : Option Value → Heap → List Loc → Prop} (hown : s.vm.findClass own = some m.cls) (w1 : (Cond.methodLink own i y).before a0 Z = true) (w2 : (Cond.declares y).before a0 Z = true) (w5 : (Cond.selects C y y).before a0 Z = true) (w6 : (Cond.instanceMethod y).before a0 Z = true) (w3 : (Cond.initialized y.cls).before a0 Z = true) (w4 : (Cond.code y bytes maxL ret).before a0 Z = true) (hy : y.cls ≠ "java/lang/invoke/MethodHandle" ∧ y.cls ≠ "java/lang/invoke/VarHandle")
    {a : Addr} (Ea : Exa Z h a C) {argsL st : List Value} {ps : List FieldType} {rt : Option FieldType} (hM : Ctr l Z y bytes maxL ret [] rm (.ref a :: argsL).toArray h Q) (hpd : parseMethodDescriptor y.desc = some ⟨ps, rt⟩) (hlen : argsL.length = ps.length) (hst : st = argsL.reverse ++ .ref a :: rest) (hd : decode c.code pc = .ok (.invokevirtual i, 3)) (eT : T.heap = h) (hsize : ls.size = c.maxLocals) (hp : pc + 3 = pc') (hf : rm.frames + 1 ≤ R.frames) {W : Nat} (hW : 2 * 0 + (rest.map fun v => v.category).sum ≤ W) (hl : W + (maxL + 11) + rm.locals ≤ R.locals) (hc : cells + rm.cells ≤ R.cells) (hs : slots + rm.slots ≤ R.slots)
    (k : ∀ v T' L, Stand p l e R s m args below meth c T' (locs ++ L) (cells + rm.cells) (slots + rm.slots) → Q v T'.heap L → Go p e below m F T' pc' ls (v.toList ++ rest)) : Go p e below m F T pc ls st := by
  subst hp hst
  obtain ⟨cq, kq, qa, qb, qc⟩ := isOf hZ eT Ea
  obtain ⟨v, _, ⟨T', L', k', n'⟩, -, X', ⟨L, hQ, l1, l2, l3⟩, stp⟩ := X.virtualBack hx (y := y) (z := y) hown (mvT hZ w1) (mvT hZ w2) (notFace_of_selects (args := #[]) (mvT hZ w5)) (mvT hZ w5) (mvT hZ w6) hy (backOf (W := W) hM hZ w4 w3 hf hl) qa qc (g := mkF m pc ls (argsL.reverse ++ .ref a :: rest)) rfl hsize (Steps.refl _) (argsL := argsL) (rest := rest) (lenOf hpd hlen) rfl hW hd (fun _ _ => ⟨rfl, eT, hc, hs⟩)
  dsimp only [Pt.U, Pt.locs, Pt.cells, Pt.slots] at X' l1 l2 l3 stp hQ
  subst l1 l2 l3
  exact (k v T' L X' hQ).of fun t q => stp.trans q
theorem g_virtualUp (X : Stand p l e R s m args below meth c T locs cells slots) (hx : p.tables.exec = Jvm.exec) (hZ : Z.Warmed39 s.vm) {own C owner : String} {i : Nat} {x y : MethodName} {bytes : ByteArray} {maxL : Nat} {ret : Option FieldType} {rm : Room} {Q : Option Value → Heap → List Loc → Prop} (hown : s.vm.findClass own = some m.cls) (w1 : (Cond.methodLink own i x).before a0 Z = true) (w7 : (Cond.sameMethod x.cls owner x.name x.desc).before a0 Z = true) (w2 : (Cond.declares ⟨owner, x.name, x.desc⟩).before a0 Z = true) (ho : owner ≠ "java/lang/invoke/MethodHandle" ∧ owner ≠ "java/lang/invoke/VarHandle") (w5 : (Cond.selects C x y).before a0 Z = true) (w6 : (Cond.instanceMethod y).before a0 Z = true) (w3 : (Cond.initialized y.cls).before a0 Z = true) (w4 : (Cond.code y bytes maxL ret).before a0 Z = true)
    {a : Addr} (Ea : Exa Z h a C) {argsL st : List Value} {ps : List FieldType} {rt : Option FieldType} (hM : Ctr l Z y bytes maxL ret [] rm (.ref a :: argsL).toArray h Q) (hpd : parseMethodDescriptor x.desc = some ⟨ps, rt⟩) (hlen : argsL.length = ps.length) (hst : st = argsL.reverse ++ .ref a :: rest) (hd : decode c.code pc = .ok (.invokevirtual i, 3)) (eT : T.heap = h) (hsize : ls.size = c.maxLocals) (hp : pc + 3 = pc') (hf : rm.frames + 1 ≤ R.frames) {W : Nat} (hW : 2 * 0 + (rest.map fun v => v.category).sum ≤ W) (hl : W + (maxL + 11) + rm.locals ≤ R.locals) (hc : cells + rm.cells ≤ R.cells) (hs : slots + rm.slots ≤ R.slots)
    (k : ∀ v T' L, Stand p l e R s m args below meth c T' (locs ++ L) (cells + rm.cells) (slots + rm.slots) → Q v T'.heap L → Go p e below m F T' pc' ls (v.toList ++ rest)) : Go p e below m F T pc ls st := by
  subst hp hst
  obtain ⟨cq, kq, qa, qb, qc⟩ := isOf hZ eT Ea
  obtain ⟨v, _, ⟨T', L', k', n'⟩, -, X', ⟨L, hQ, l1, l2, l3⟩, stp⟩ := X.virtualBackUp hx (x := x) (y := y) (owner := owner) hown (mvT hZ w1) (mvT hZ w7) (mvT hZ w2) ho (mvT hZ w5) (mvT hZ w6) (backOf (W := W) hM hZ w4 w3 hf hl) qa qc (g := mkF m pc ls (argsL.reverse ++ .ref a :: rest)) rfl hsize (Steps.refl _) (argsL := argsL) (rest := rest) (lenOf hpd hlen) rfl hW hd (fun _ _ => ⟨rfl, eT, hc, hs⟩)
  dsimp only [Pt.U, Pt.locs, Pt.cells, Pt.slots] at X' l1 l2 l3 stp hQ
  subst l1 l2 l3
  exact (k v T' L X' hQ).of fun t q => stp.trans q
theorem g_retV (X : Stand p l e R s m args below meth c T locs cells slots) (hx : p.tables.exec = Jvm.exec) {Q : Option Value → Heap → List Loc → Prop} {rc rs : Nat} (hlk : meth.locks = false) (hret : meth.sig.returnType = none) (hd : decode c.code pc = .ok (.return_, 1)) (hQ : Q none T.heap locs) (hc : cells ≤ rc) (hs : slots ≤ rs) : Go p e below m (Fini s rc rs Q) T pc ls [] := by
  obtain ⟨fs, hr, hrun, hended, hW, hsame⟩ := X.leave (v := none) (fun _ => rfl)
  exact ⟨_, _, X.returnOut hx hret hd hr, hrun, hended, _, _, rfl, hQ, ⟨_, rfl⟩, hW, hsame.mono hc hs⟩
theorem g_ret (X : Stand p l e R s m args below meth c T locs cells slots) (hx : p.tables.exec = Jvm.exec) {Q : Option Value → Heap → List Loc → Prop} {rc rs : Nat} (hlk : meth.locks = false) {t : FieldType} {w : Value} {i : Instr} (hret : meth.sig.returnType = some t) (hn : narrow t w = w)
    (hi : (i = .ireturn ∧ (t = .int ∨ t = .boolean ∨ t = .byte ∨ t = .char ∨ t = .short) ∧ ∃ z, w = .int z) ∨ (i = .lreturn ∧ t = .long ∧ ∃ z, w = .long z) ∨ (i = .dreturn ∧ t = .double ∧ ∃ z, w = .double z) ∨ (i = .freturn ∧ t = .float ∧ ∃ z, w = .float z) ∨ (i = .areturn ∧ t.isReference = true ∧ w.isRef = true))
    (hd : decode c.code pc = .ok (i, 1)) (hQ : Q (some w) T.heap locs) (hc : cells ≤ rc) (hs : slots ≤ rs) : Go p e below m (Fini s rc rs Q) T pc ls (w :: rest) := by
  obtain ⟨fs, hr, hrun, hended, hW, hsame⟩ := X.leave (v := some w) (fun h => by rw [hret] at h; cases h)
  exact ⟨_, _, retOut X hx hret hn hi hd hr, hrun, hended, _, _, rfl, hQ, ⟨_, rfl⟩, hW, hsame.mono hc hs⟩
theorem g_retZ (X : Stand p l e R s m args below meth c T locs cells slots) (hx : p.tables.exec = Jvm.exec) {Q : Option Value → Heap → List Loc → Prop} {rc rs : Nat} (hlk : meth.locks = false) {z : Int32} (hret : meth.sig.returnType = some .boolean) (hz : z = 0 ∨ z = 1) (hd : decode c.code pc = .ok (.ireturn, 1)) (hQ : Q (some (.int z)) T.heap locs) (hc : cells ≤ rc) (hs : slots ≤ rs) : Go p e below m (Fini s rc rs Q) T pc ls (.int z :: rest) :=
  g_ret X hx hlk hret (by rcases hz with rfl | rfl <;> rfl) (Or.inl ⟨rfl, Or.inr (Or.inl rfl), _, rfl⟩) hd hQ hc hs
theorem g_retI (X : Stand p l e R s m args below meth c T locs cells slots) (hx : p.tables.exec = Jvm.exec) {Q : Option Value → Heap → List Loc → Prop} {rc rs : Nat} (hlk : meth.locks = false) {z : Int32} (hret : meth.sig.returnType = some .int) (hd : decode c.code pc = .ok (.ireturn, 1)) (hQ : Q (some (.int z)) T.heap locs) (hc : cells ≤ rc) (hs : slots ≤ rs) : Go p e below m (Fini s rc rs Q) T pc ls (.int z :: rest) :=
  g_ret X hx hlk hret rfl (Or.inl ⟨rfl, Or.inl rfl, _, rfl⟩) hd hQ hc hs
theorem g_retJ (X : Stand p l e R s m args below meth c T locs cells slots) (hx : p.tables.exec = Jvm.exec) {Q : Option Value → Heap → List Loc → Prop} {rc rs : Nat} (hlk : meth.locks = false) {z : Int64} (hret : meth.sig.returnType = some .long) (hd : decode c.code pc = .ok (.lreturn, 1)) (hQ : Q (some (.long z)) T.heap locs) (hc : cells ≤ rc) (hs : slots ≤ rs) : Go p e below m (Fini s rc rs Q) T pc ls (.long z :: rest) :=
  g_ret X hx hlk hret rfl (Or.inr (Or.inl ⟨rfl, rfl, _, rfl⟩)) hd hQ hc hs
theorem g_retD (X : Stand p l e R s m args below meth c T locs cells slots) (hx : p.tables.exec = Jvm.exec) {Q : Option Value → Heap → List Loc → Prop} {rc rs : Nat} (hlk : meth.locks = false) {z : UInt64} (hret : meth.sig.returnType = some .double) (hd : decode c.code pc = .ok (.dreturn, 1)) (hQ : Q (some (.double z)) T.heap locs) (hc : cells ≤ rc) (hs : slots ≤ rs) : Go p e below m (Fini s rc rs Q) T pc ls (.double z :: rest) :=
  g_ret X hx hlk hret rfl (Or.inr (Or.inr (Or.inl ⟨rfl, rfl, _, rfl⟩))) hd hQ hc hs
theorem g_retA (X : Stand p l e R s m args below meth c T locs cells slots) (hx : p.tables.exec = Jvm.exec) {Q : Option Value → Heap → List Loc → Prop} {rc rs : Nat} (hlk : meth.locks = false) {t : FieldType} {w : Value} (hret : meth.sig.returnType = some t) (ht : t.isReference = true) (hw : w.isRef = true) (hn : narrow t w = w) (hd : decode c.code pc = .ok (.areturn, 1)) (hQ : Q (some w) T.heap locs) (hc : cells ≤ rc) (hs : slots ≤ rs) : Go p e below m (Fini s rc rs Q) T pc ls (w :: rest) :=
  g_ret X hx hlk hret hn (Or.inr (Or.inr (Or.inr (Or.inr ⟨rfl, ht, hw⟩)))) hd hQ hc hs
end Heap
end Jvm.Own
namespace Jvm.Own
open Sem ClassFile Op Lib Jvm.Free
/-! comparisons as whole numbers -/
def cmpI (n m : Int) : Int32 := if n < m then -1 else if n = m then 0 else 1
theorem cmpI_eq {n m : Int} (h : cmpI n m = 0) : n = m := by
  unfold cmpI at h
  by_cases a : n < m
  · rw [if_pos a] at h; exact absurd h (by decide)
  · by_cases b : n = m
    · exact b
    · rw [if_neg a, if_neg b] at h; exact absurd h (by decide)
theorem cmpI_ne {n m : Int} (h : cmpI n m ≠ 0) : n ≠ m := by
  intro b; subst b; exact h (by unfold cmpI; rw [if_neg (by omega), if_pos rfl])
theorem cmpI_lt {n m : Int} (h : cmpI n m < 0) : n < m := by
  unfold cmpI at h
  by_cases a : n < m
  · exact a
  · by_cases b : n = m
    · rw [if_neg a, if_pos b] at h; exact absurd h (by decide)
    · rw [if_neg a, if_neg b] at h; exact absurd h (by decide)
theorem cmpI_ge {n m : Int} (h : cmpI n m ≥ 0) : m ≤ n := by
  by_cases a : n < m
  · unfold cmpI at h; rw [if_pos a] at h; exact absurd h (by decide)
  · omega
theorem cmpI_gt {n m : Int} (h : cmpI n m > 0) : m < n := by
  by_cases a : n < m
  · unfold cmpI at h; rw [if_pos a] at h; exact absurd h (by decide)
  · by_cases b : n = m
    · unfold cmpI at h; rw [if_neg a, if_pos b] at h; exact absurd h (by decide)
    · omega
theorem cmpI_le {n m : Int} (h : cmpI n m ≤ 0) : n ≤ m := by
  by_cases a : n < m
  · omega
  · by_cases b : n = m
    · omega
    · unfold cmpI at h; rw [if_neg a, if_neg b] at h; exact absurd h (by decide)
theorem cmpI_some (n m : Int) (o : CmpOp) : cmpValue (some (compare n m)) o = cmpI n m := by
  unfold cmpI
  rw [Jvm.FP.Core.compare_ite]
  by_cases a : n < m
  · rw [if_pos a, if_pos a]; cases o <;> rfl
  · by_cases b : n = m
    · rw [if_neg a, if_pos b, if_neg a, if_pos b]; cases o <;> rfl
    · rw [if_neg a, if_neg b, if_neg a, if_neg b]; cases o <;> rfl
theorem cmpL_I (x y : Int64) : XT.cmpL x y = cmpI x.toInt y.toInt := by
  unfold XT.cmpL cmpI
  by_cases a : y < x
  · have a' := Int64.lt_iff_toInt_lt.mp a
    rw [if_pos a, if_neg (by omega), if_neg (by omega)]
  · have a' : ¬ y.toInt < x.toInt := fun q => a (Int64.lt_iff_toInt_lt.mpr q)
    by_cases b : x = y
    · subst b; rw [if_neg a, if_pos rfl, if_neg (by omega), if_pos rfl]
    · have b' : x.toInt ≠ y.toInt := fun q => b (Int64.toInt_inj.mp q)
      rw [if_neg a, if_neg b, if_pos (by omega)]
theorem i_eq {x y : Int32} (h : x = y) : x.toInt = y.toInt := by rw [h]
theorem i_ne {x y : Int32} (h : x ≠ y) : x.toInt ≠ y.toInt := fun q => h (Int32.toInt_inj.mp q)
theorem i_lt {x y : Int32} (h : x < y) : x.toInt < y.toInt := Int32.lt_iff_toInt_lt.mp h
theorem i_ge {x y : Int32} (h : x ≥ y) : y.toInt ≤ x.toInt := Int32.le_iff_toInt_le.mp h
theorem i_gt {x y : Int32} (h : x > y) : y.toInt < x.toInt := Int32.lt_iff_toInt_lt.mp h
theorem i_le {x y : Int32} (h : x ≤ y) : x.toInt ≤ y.toInt := Int32.le_iff_toInt_le.mp h
theorem iz_eq {x : Int32} (h : x = 0) : x.toInt = 0 := by rw [h]; rfl
theorem iz_ne {x : Int32} (h : x ≠ 0) : x.toInt ≠ 0 := fun q => h (Int32.toInt_inj.mp q)
theorem iz_lt {x : Int32} (h : x < 0) : x.toInt < 0 := Int32.lt_iff_toInt_lt.mp h
theorem iz_ge {x : Int32} (h : x ≥ 0) : 0 ≤ x.toInt := Int32.le_iff_toInt_le.mp h
theorem iz_gt {x : Int32} (h : x > 0) : 0 < x.toInt := Int32.lt_iff_toInt_lt.mp h
theorem iz_le {x : Int32} (h : x ≤ 0) : x.toInt ≤ 0 := Int32.le_iff_toInt_le.mp h
theorem cmpL_ex {x y : Int64} {n m : Int} (hx : x.toInt = n) (hy : y.toInt = m) : XT.cmpL x y = cmpI n m := by rw [cmpL_I, hx, hy]
theorem small32 {y : Int32} (h : y.toBitVec.toNat < 2147483648) : y.toInt = (y.toBitVec.toNat : Int) := by
  have : y.toInt = y.toBitVec.toInt := rfl
  rw [this, BitVec.toInt_eq_toNat_cond, if_pos (by omega)]
theorem nn32 {y : Int32} (h : 0 ≤ y.toInt) : y.toBitVec.toNat < 2147483648 := by
  have e : y.toInt = y.toBitVec.toInt := rfl
  rw [e, BitVec.toInt_eq_toNat_cond] at h
  by_cases q : 2 * y.toBitVec.toNat < 2 ^ 32
  · omega
  · rw [if_neg q] at h; have := y.toBitVec.isLt; omega
theorem iand_b (x y : Int32) {M : Int} (h0 : 0 ≤ y.toInt) (hM : y.toInt ≤ M) : 0 ≤ (x &&& y).toInt ∧ (x &&& y).toInt ≤ M := by
  have h1 := nn32 h0
  have e : (x &&& y).toBitVec.toNat = x.toBitVec.toNat &&& y.toBitVec.toNat := by simp [Int32.toBitVec_and, BitVec.toNat_and]
  have hle : (x &&& y).toBitVec.toNat ≤ y.toBitVec.toNat := by rw [e]; exact Nat.and_le_right
  have e1 := small32 (y := x &&& y) (by omega)
  have e2 := small32 h1
  omega
theorem small64 {y : Int64} (h : y.toBitVec.toNat < 9223372036854775808) : y.toInt = (y.toBitVec.toNat : Int) := by
  have : y.toInt = y.toBitVec.toInt := rfl
  rw [this, BitVec.toInt_eq_toNat_cond, if_pos (by omega)]
theorem nn64 {y : Int64} (h : 0 ≤ y.toInt) : y.toBitVec.toNat < 9223372036854775808 := by
  have e : y.toInt = y.toBitVec.toInt := rfl
  rw [e, BitVec.toInt_eq_toNat_cond] at h
  by_cases q : 2 * y.toBitVec.toNat < 2 ^ 64
  · omega
  · rw [if_neg q] at h; have := y.toBitVec.isLt; omega
theorem land_b (x y : Int64) {M : Int} (h0 : 0 ≤ y.toInt) (hM : y.toInt ≤ M) : 0 ≤ (x &&& y).toInt ∧ (x &&& y).toInt ≤ M := by
  have h1 := nn64 h0
  have e : (x &&& y).toBitVec.toNat = x.toBitVec.toNat &&& y.toBitVec.toNat := by simp [Int64.toBitVec_and, BitVec.toNat_and]
  have hle : (x &&& y).toBitVec.toNat ≤ y.toBitVec.toNat := by rw [e]; exact Nat.and_le_right
  have e1 := small64 (y := x &&& y) (by omega)
  have e2 := small64 h1
  omega
theorem i32b (v : Int32) : -2147483648 ≤ v.toInt ∧ v.toInt < 2147483648 := ⟨v.le_toInt, v.toInt_lt⟩
theorem i64b (v : Int64) : -9223372036854775808 ≤ v.toInt ∧ v.toInt < 9223372036854775808 := ⟨v.le_toInt, v.toInt_lt⟩
theorem iadd_ex {x y : Int32} {n m : Int} (hx : x.toInt = n) (hy : y.toInt = m) (h : -2147483648 ≤ n + m ∧ n + m < 2147483648) : (x + y).toInt = n + m := by
  rw [Int32.toInt_add, hx, hy]; exact Int.bmod_eq_of_le (by omega) (by omega)
theorem isub_ex {x y : Int32} {n m : Int} (hx : x.toInt = n) (hy : y.toInt = m) (h : -2147483648 ≤ n - m ∧ n - m < 2147483648) : (x - y).toInt = n - m := by
  rw [Int32.toInt_sub, hx, hy]; exact Int.bmod_eq_of_le (by omega) (by omega)
theorem imul_ex {x y : Int32} {n m : Int} (hx : x.toInt = n) (hy : y.toInt = m) (h : -2147483648 ≤ n * m ∧ n * m < 2147483648) : (x * y).toInt = n * m := by
  rw [Int32.toInt_mul, hx, hy]; exact Int.bmod_eq_of_le (by omega) (by omega)
theorem ladd_ex {x y : Int64} {n m : Int} (hx : x.toInt = n) (hy : y.toInt = m) (h : -9223372036854775808 ≤ n + m ∧ n + m < 9223372036854775808) : (x + y).toInt = n + m := by
  rw [Int64.toInt_add, hx, hy]; exact Int.bmod_eq_of_le (by omega) (by omega)
theorem lsub_ex {x y : Int64} {n m : Int} (hx : x.toInt = n) (hy : y.toInt = m) (h : -9223372036854775808 ≤ n - m ∧ n - m < 9223372036854775808) : (x - y).toInt = n - m := by
  rw [Int64.toInt_sub, hx, hy]; exact Int.bmod_eq_of_le (by omega) (by omega)
theorem lmul_ex {x y : Int64} {n m : Int} (hx : x.toInt = n) (hy : y.toInt = m) (h : -9223372036854775808 ≤ n * m ∧ n * m < 9223372036854775808) : (x * y).toInt = n * m := by
  rw [Int64.toInt_mul, hx, hy]; exact Int.bmod_eq_of_le (by omega) (by omega)
theorem i2l_ex {x : Int32} {n : Int} (hx : x.toInt = n) : x.toInt64.toInt = n := by rw [Int32.toInt_toInt64, hx]
theorem pinI {args : Array Value} {s : State} {C n d K O f : String} {k : Int32} (hx : (Cond.exactly (Term.static C n d) K).value args s none s [] = some true) (he : (Cond.eq (Term.field (Term.static C n d) O f "I") (Term.int k)).value args s none s [] = some true) (hi : (Cond.initialized C).before args s = true) (hl : (Cond.laysStatic C n d).before args s = true) : ∃ r, RoadKit.Sta s s.heap C n d (.ref r) ∧ RoadKit.Exa s s.heap r K ∧ RoadKit.Fld s s.heap r O f "I" (.int k) := by
  obtain ⟨r, hr⟩ := RoadKit.exa_v hx
  refine ⟨r, RoadKit.Sta.start hr (Or.inr ⟨hi, hl⟩), RoadKit.Exa.start hr hx, ?_⟩
  obtain ⟨x, y, h1, h2, h3, h4⟩ := RoadKit.cmp_v (Or.inl he)
  rw [RoadKit.fld_at hr] at h1
  obtain rfl : Value.int k = y := Option.some.inj ((Term.int_eval k).symm.trans h2)
  obtain ⟨z, rfl⟩ := h4
  have q := RoadKit.gotT (Cond.eq_ints ((RoadKit.fld_at hr).trans h1) (Term.int_eval k)) he
  subst q
  exact RoadKit.Fld.start h1
theorem pinD {args : Array Value} {s : State} {C n d K O f : String} {k : Int64} (hx : (Cond.exactly (Term.static C n d) K).value args s none s [] = some true) (he : (Cond.eq (Term.field (Term.static C n d) O f "D") (Term.op1 .bitsD (Term.long k))).value args s none s [] = some true) (hi : (Cond.initialized C).before args s = true) (hl : (Cond.laysStatic C n d).before args s = true) : ∃ r, RoadKit.Sta s s.heap C n d (.ref r) ∧ RoadKit.Exa s s.heap r K ∧ RoadKit.Fld s s.heap r O f "D" (.double k.toUInt64) := by
  obtain ⟨r, hr⟩ := RoadKit.exa_v hx
  refine ⟨r, RoadKit.Sta.start hr (Or.inr ⟨hi, hl⟩), RoadKit.Exa.start hr hx, ?_⟩
  obtain ⟨x, y, h1, h2, h3, h4⟩ := RoadKit.cmp_v (Or.inl he)
  have h5 : (Term.op1 .bitsD (Term.long k)).eval args s none [] s = some (.double k.toUInt64) := RoadKit.op1_f (RoadKit.long_at k)
  obtain rfl : Value.double k.toUInt64 = y := Option.some.inj (h5.symm.trans h2)
  obtain ⟨z, rfl⟩ := h4
  have q : z = k.toUInt64 := by simpa [Cond.value, h1, h5] using he
  subst q
  rw [RoadKit.fld_at hr] at h1
  exact RoadKit.Fld.start h1
end Jvm.Own
namespace Jvm.Own
open Jvm.FP.Core
/-! doubles by their values: zval in units of 2^-1074 -/
/-! plain arithmetic, with the unit as a letter -/
theorem ar_mul {a b J K N M O : Nat} (hm : a * J = N * O) (gm : b * K = M * O) : a * b * (J * K) = N * M * (O * O) := by
  calc a * b * (J * K) = (a * J) * (b * K) := by ac_rfl
    _ = N * O * (M * O) := by rw [hm, gm]
    _ = _ := by ac_rfl
theorem ar_z {ab JK NM O z : Nat} (hp : 0 < JK) (q : ab * JK = NM * (O * O)) (hz : z * JK = NM * O) : ab = z * O := by
  apply Nat.eq_of_mul_eq_mul_right hp
  calc ab * JK = NM * O * O := by rw [q]; ac_rfl
    _ = z * JK * O := by rw [hz]
    _ = _ := by ac_rfl
theorem ar_i {X Y J K N M O s : Int} (hO : O ≠ 0) (hx : X * J = N * O) (hy : Y * K = M * O) (hs : s * O = X * Y) : s * (J * K) = N * M * O := by
  apply Int.eq_of_mul_eq_mul_right hO
  calc s * (J * K) * O = s * O * (J * K) := by ac_rfl
    _ = (X * J) * (Y * K) := by rw [hs]; ac_rfl
    _ = N * M * O * O := by rw [hx, hy]; ac_rfl
theorem ar_d {x y z J K I N M W O : Nat} (hp : 0 < J * K * I) (hx : x * J = N * O) (hy : y * K = M * O) (hz : z * I = W * O) (hw : N * K * I = W * M * J) : x * O = z * y := by
  apply Nat.eq_of_mul_eq_mul_right hp
  calc x * O * (J * K * I) = (x * J) * O * (K * I) := by ac_rfl
    _ = (N * K * I) * (O * O) := by rw [hx]; ac_rfl
    _ = (W * O) * (M * O) * J := by rw [hw]; ac_rfl
    _ = (z * I) * (y * K) * J := by rw [hz, hy]
    _ = _ := by ac_rfl
theorem ar_q {q X Y J K I N M W O : Int} (hY : Y ≠ 0) (hJ : J ≠ 0) (hK : K ≠ 0) (hx : X * J = N * O) (hy : Y * K = M * O) (hs : q * Y = X * O) (hw : N * K * I = W * M * J) : q * I = W * O := by
  apply Int.eq_of_mul_eq_mul_right hY
  apply Int.eq_of_mul_eq_mul_right hJ
  apply Int.eq_of_mul_eq_mul_right hK
  calc q * I * Y * J * K = (q * Y) * I * J * K := by ac_rfl
    _ = (X * J) * K * I * O := by rw [hs]; ac_rfl
    _ = (N * K * I) * O * O := by rw [hx]; ac_rfl
    _ = W * (M * O) * J * O := by rw [hw]; ac_rfl
    _ = W * O * Y * J * K := by rw [← hy]; ac_rfl
theorem ar_p {c d P Q X Y W : Nat} (e : P * Q = X * Y * W) : c * d * P * Q = c * X * (d * Y) * 1 * W := by
  rw [Nat.mul_assoc (c * d), e]; ac_rfl
theorem ar_up {X J K N O : Int} (h : X * J = N * O) : X * (J * K) = N * K * O := by
  calc X * (J * K) = X * J * K := by ac_rfl
    _ = N * O * K := by rw [h]
    _ = _ := by ac_rfl
abbrev rr (s : Bool) (A B : Nat) : Datum := roundRatio b64 s A B 0
theorem one_pow : one64 = 2 ^ 1074 := rfl
theorem one_ne : (one64 : Int) ≠ 0 := by have := one64_pos; omega
theorem fin_u {x : UInt64} {s : Bool} {c : Nat} {q : Int} (h : val64 x = .fin s c q) : sgn (val64 x) = s ∧ zmag b64 (val64 x) = c * 2 ^ (q + 1074).toNat ∧ -1074 ≤ q := by
  have hf := val64_fits x
  rw [h] at hf ⊢
  have h2 := hf.2.1
  rw [qmin_b64] at h2
  refine ⟨rfl, ?_, h2⟩
  show inUnits c q b64.qmin = _
  rw [qmin_b64]
  show c * 2 ^ (q - -1074).toNat = _
  rw [show q - -1074 = q + 1074 by omega]
theorem zv_eq (x : UInt64) : zval b64 (val64 x) = signed (sgn (val64 x)) (zmag b64 (val64 x)) := rfl
theorem ddiv_rr {x y : UInt64} (hx : DFin x) (hy : DFin y) (hz : zmag b64 (val64 y) ≠ 0) : val64 (ddiv x y) = rr (sgn (val64 x) != sgn (val64 y)) (zmag b64 (val64 x)) (zmag b64 (val64 y)) := by
  obtain ⟨s, c, q, ex⟩ := hx
  obtain ⟨t, d, r, ey⟩ := hy
  obtain ⟨h1, h2, h3⟩ := fin_u ex
  obtain ⟨g1, g2, g3⟩ := fin_u ey
  rw [g2] at hz
  have hd : d ≠ 0 := fun k => hz (by rw [k, Nat.zero_mul])
  rw [val64_ddiv, h1, h2, g1, g2, ex, ey]
  show (if d = 0 then _ else roundRatio b64 (s != t) c d (q - r)) = _
  rw [if_neg hd]
  refine roundRatio_congr (Nat.pos_of_ne_zero hd) (Nat.pos_of_ne_zero hz) ?_
  have e : 2 ^ (r + 1074).toNat * 2 ^ (q - r - 0).toNat = 2 ^ (q + 1074).toNat * 2 ^ (0 - (q - r)).toNat := by
    rw [← Nat.pow_add, ← Nat.pow_add]
    congr 1
    omega
  calc c * (d * 2 ^ (r + 1074).toNat) * 2 ^ (q - r - 0).toNat = c * d * (2 ^ (r + 1074).toNat * 2 ^ (q - r - 0).toNat) := by ac_rfl
    _ = c * d * (2 ^ (q + 1074).toNat * 2 ^ (0 - (q - r)).toNat) := by rw [e]
    _ = c * 2 ^ (q + 1074).toNat * d * 2 ^ (0 - (q - r)).toNat := by ac_rfl
theorem dmul_rr {x y : UInt64} (hx : DFin x) (hy : DFin y) : val64 (dmul x y) = rr (sgn (val64 x) != sgn (val64 y)) (zmag b64 (val64 x) * zmag b64 (val64 y)) (2 ^ 2148) := by
  obtain ⟨s, c, q, ex⟩ := hx
  obtain ⟨t, d, r, ey⟩ := hy
  obtain ⟨h1, h2, h3⟩ := fin_u ex
  obtain ⟨g1, g2, g3⟩ := fin_u ey
  rw [val64_dmul, h1, h2, g1, g2, ex, ey]
  show roundRatio b64 (s != t) (c * d) 1 (q + r) = _
  refine roundRatio_congr Nat.one_pos (Nat.two_pow_pos _) ?_
  have e : 2 ^ 2148 * 2 ^ (q + r - 0).toNat = 2 ^ (q + 1074).toNat * 2 ^ (r + 1074).toNat * 2 ^ (0 - (q + r)).toNat := by
    rw [← Nat.pow_add, ← Nat.pow_add, ← Nat.pow_add]
    congr 1
    omega
  exact ar_p e
theorem sum_rr {X Y : Datum} (fx : FP.Core.fits b64 X) (fy : FP.Core.fits b64 Y) (hx : ∃ s c q, X = .fin s c q) (hy : ∃ s c q, Y = .fin s c q) : ∃ sg, round b64 (exactSum X Y) = rr sg (zval b64 X + zval b64 Y).natAbs one64 ∧ signed sg (zval b64 X + zval b64 Y).natAbs = zval b64 X + zval b64 Y := by
  obtain ⟨s, c, q, rfl⟩ := hx
  obtain ⟨t, d, r, rfl⟩ := hy
  obtain ⟨sg, n, e, e1, e2, e3⟩ := sum_units fx fy
  have e4 : (zval b64 (.fin s c q) + zval b64 (.fin t d r)).natAbs = inUnits n e b64.qmin := by rw [← e3, natAbs_signed]
  refine ⟨sg, ?_, by rw [e4, e3]⟩
  rw [e4, e1]
  show roundRatio b64 sg n 1 e = _
  refine roundRatio_congr Nat.one_pos one64_pos ?_
  rw [qmin_b64] at e2 ⊢
  show n * one64 * 2 ^ (e - 0).toNat = n * 2 ^ (e - -1074).toNat * 1 * 2 ^ (0 - e).toNat
  rw [one_pow, Nat.mul_assoc, ← Nat.pow_add, Nat.mul_one, Nat.mul_assoc n, ← Nat.pow_add]
  congr 2
  omega
theorem dadd_rr {x y : UInt64} (hx : DFin x) (hy : DFin y) : ∃ sg, val64 (dadd x y) = rr sg (zval b64 (val64 x) + zval b64 (val64 y)).natAbs one64 ∧ signed sg (zval b64 (val64 x) + zval b64 (val64 y)).natAbs = zval b64 (val64 x) + zval b64 (val64 y) := by
  obtain ⟨sg, h1, h2⟩ := sum_rr (val64_fits x) (val64_fits y) hx hy
  exact ⟨sg, by rw [val64_dadd, h1], h2⟩
theorem dsub_rr {x y : UInt64} (hx : DFin x) (hy : DFin y) : ∃ sg, val64 (dsub x y) = rr sg (zval b64 (val64 x) - zval b64 (val64 y)).natAbs one64 ∧ signed sg (zval b64 (val64 x) - zval b64 (val64 y)).natAbs = zval b64 (val64 x) - zval b64 (val64 y) := by
  obtain ⟨t, d, r, ey⟩ := hy
  obtain ⟨sg, h1, h2⟩ := sum_rr (val64_fits x) (negate_fits (val64_fits y)) hx ⟨!t, d, r, by rw [ey]; rfl⟩
  rw [zval_negate, ← Int.sub_eq_add_neg] at h1 h2
  exact ⟨sg, by rw [val64_dsub, h1], h2⟩
/-- a whole number of units that a double holds -/
def Rep (z : Nat) : Prop := ∃ V : Datum, FP.Core.fits b64 V ∧ (∃ s c q, V = .fin s c q) ∧ zmag b64 V = z
theorem rep_pow {n k : Nat} (hn : n < 2 ^ 53) (hk : k ≤ 2045) : Rep (n * 2 ^ k) := by
  obtain ⟨c', q', h1, h2⟩ := round_exact good_b64 false (c := n) (q := (k : Int) - 1074) (by exact hn) (by rw [qmin_b64]; omega) (by show (k : Int) - 1074 ≤ 971; omega)
  refine ⟨.fin false c' q', by rw [← h1]; exact round_fits good_b64 _, ⟨_, _, _, rfl⟩, ?_⟩
  show inUnits c' q' b64.qmin = _
  rw [h2, qmin_b64]
  show n * 2 ^ ((k : Int) - 1074 - -1074).toNat = _
  congr 2
  omega
theorem rep_pow' {n k : Nat} (hn : n ≤ 2 ^ 53) (hk : k ≤ 2044) : Rep (n * 2 ^ k) := by
  by_cases h : n < 2 ^ 53
  · exact rep_pow h (by omega)
  · have e : n * 2 ^ k = 2 ^ 52 * 2 ^ (k + 1) := by
      rw [show n = 2 ^ 53 by omega, ← Nat.pow_add, ← Nat.pow_add]; congr 1; omega
    rw [e]; exact rep_pow (by decide) (by omega)
theorem rep_val {x : UInt64} (h : DFin x) : Rep (zmag b64 (val64 x)) := ⟨_, val64_fits x, h, rfl⟩
theorem in_u (A : Nat) : inUnits A 0 b64.qmin = A * one64 := by rw [qmin_b64]; rfl
theorem rr_le {s : Bool} {A B z : Nat} (hB : 0 < B) (hz : Rep z) (h : A * one64 ≤ z * B) : zmag b64 (rr s A B) ≤ z := by
  obtain ⟨V, f, ⟨t, c, q, rfl⟩, rfl⟩ := hz
  refine zmag_roundRatio_le good_b64 hB f (by intro k; cases k) (Int.le_refl _) (by rw [qmin_b64]; omega) ?_
  rw [in_u, Int.sub_self]
  simpa using h
theorem rr_ge {s : Bool} {A B z : Nat} (hB : 0 < B) (hz : Rep z) (h : z * B ≤ A * one64) : z ≤ zmag b64 (rr s A B) := by
  obtain ⟨V, f, ⟨t, c, q, rfl⟩, rfl⟩ := hz
  refine zmag_roundRatio_ge good_b64 hB f (Int.le_refl _) (by rw [qmin_b64]; omega) ?_
  rw [in_u, Int.sub_self]
  simpa using h
theorem rep_top {z : Nat} (hz : Rep z) : z < b64.tails * 2 ^ (b64.exps - 2) := by
  obtain ⟨V, f, ⟨t, c, q, rfl⟩, rfl⟩ := hz
  exact zmag_lt_top good_b64 f
theorem rr_fin {s : Bool} {A B z : Nat} (hz : Rep z) (h : zmag b64 (rr s A B) ≤ z) : ∃ c q, rr s A B = .fin s c q := by
  rcases roundRatio_cases b64 s A B 0 with k | k
  · exact k
  · rw [show rr s A B = .inf s from k] at h
    have := rep_top hz
    have e : zmag b64 (.inf s) = b64.tails * 2 ^ (b64.exps - 2) := rfl
    rw [e] at h
    exact absurd this (Nat.not_lt.mpr h)
theorem rr_sgn (s : Bool) (A B : Nat) : sgn (rr s A B) = s := sgn_roundRatio b64 s A B 0
theorem of_rr {x : UInt64} {s : Bool} {A B z : Nat} (hx : val64 x = rr s A B) (hB : 0 < B) (hz : Rep z) (h : A * one64 = z * B) : DFin x ∧ zval b64 (val64 x) = signed s z := by
  have h1 := rr_le (s := s) hB hz (Nat.le_of_eq h)
  have h2 := rr_ge (s := s) hB hz (Nat.le_of_eq h.symm)
  obtain ⟨c, q, e⟩ := rr_fin hz h1
  refine ⟨⟨s, c, q, by rw [hx, e]⟩, ?_⟩
  rw [zv_eq, hx, rr_sgn, Nat.le_antisymm h1 h2]
/-- the double is n / 2^j -/
def Dy (n : Int) (j : Nat) (x : UInt64) : Prop := DFin x ∧ zval b64 (val64 x) * ((2 ^ j : Nat) : Int) = n * (one64 : Int)
theorem p2_ne (j : Nat) : ((2 ^ j : Nat) : Int) ≠ 0 := by have := Nat.two_pow_pos j; omega
theorem Dy.mag {n : Int} {j : Nat} {x : UInt64} (h : Dy n j x) : zmag b64 (val64 x) * 2 ^ j = n.natAbs * one64 := by
  have := congrArg Int.natAbs h.2
  rw [Int.natAbs_mul, Int.natAbs_mul, zv_eq, natAbs_signed, Int.natAbs_natCast, Int.natAbs_natCast] at this
  exact this
theorem Dy.noNaN {n : Int} {j : Nat} {x : UInt64} (h : Dy n j x) : Jvm.Free.Fl.NoNaN64 x := (Jvm.Free.Fl.fin64_core.mpr h.1).noNaN
theorem rep_dy {N z j : Nat} (hn : N ≤ 2 ^ 53) (hj : j ≤ 1074) (h : z * 2 ^ j = N * one64) : Rep z := by
  have e : z = N * 2 ^ (1074 - j) := by
    apply Nat.eq_of_mul_eq_mul_right (Nat.two_pow_pos j)
    rw [h, one_pow, Nat.mul_assoc, ← Nat.pow_add]
    congr 2; omega
  rw [e]; exact rep_pow' hn (by omega)
theorem Dy.of_int {n : Int} {x : UInt64} (h : DInt n x) : Dy n 0 x := by
  refine ⟨?_, ?_⟩
  · unfold DInt at h
    cases e : val64 x with
    | nan => rw [e] at h; exact h.elim
    | inf s => rw [e] at h; exact h.elim
    | fin s c q => exact ⟨s, c, q, e⟩
  · rw [DInt_zval h]; simp
theorem Dy.i2d (v : Int32) : Dy v.toInt 0 (FP.i2d v) := Dy.of_int (i2d_int v)
theorem Dy.l2d {v : Int64} (h : v.toInt.natAbs ≤ 2 ^ 53) : Dy v.toInt 0 (FP.l2d v) := Dy.of_int (l2d_int h)
theorem Dy.up {n : Int} {j : Nat} {x : UInt64} (h : Dy n j x) (k : Nat) : Dy (n * ((2 ^ k : Nat) : Int)) (j + k) x := by
  refine ⟨h.1, ?_⟩
  rw [Nat.pow_add, Int.natCast_mul]
  exact ar_up h.2
theorem Dy.cmp {n m : Int} {j : Nat} {x y : UInt64} (h : Dy n j x) (g : Dy m j y) : FP.dcmp x y = some (compare n m) := by
  have hp : (0 : Int) < ((2 ^ j : Nat) : Int) := by have := Nat.two_pow_pos j; omega
  have ho : (0 : Int) < (one64 : Int) := by have := one64_pos; omega
  rw [show FP.dcmp x y = _ from dcmp_zval h.1.ne_nan g.1.ne_nan, ← compare_mul_pos _ _ _ hp, h.2, g.2, compare_mul_pos _ _ _ ho]
theorem Dy.add {n m : Int} {j : Nat} {x y : UInt64} (h : Dy n j x) (g : Dy m j y) (hb : (n + m).natAbs ≤ 2 ^ 53) (hj : j ≤ 1074) : Dy (n + m) j (FP.dadd x y) := by
  obtain ⟨sg, e1, e2⟩ := dadd_rr h.1 g.1
  have e : (zval b64 (val64 x) + zval b64 (val64 y)) * ((2 ^ j : Nat) : Int) = (n + m) * (one64 : Int) := by rw [Int.add_mul, Int.add_mul, h.2, g.2]
  have e' := congrArg Int.natAbs e
  rw [Int.natAbs_mul, Int.natAbs_mul, Int.natAbs_natCast, Int.natAbs_natCast] at e'
  obtain ⟨d1, d2⟩ := of_rr (x := FP.dadd x y) e1 one64_pos (rep_dy hb hj e') rfl
  exact ⟨d1, by rw [d2, e2, e]⟩
theorem Dy.sub {n m : Int} {j : Nat} {x y : UInt64} (h : Dy n j x) (g : Dy m j y) (hb : (n - m).natAbs ≤ 2 ^ 53) (hj : j ≤ 1074) : Dy (n - m) j (FP.dsub x y) := by
  obtain ⟨sg, e1, e2⟩ := dsub_rr h.1 g.1
  have e : (zval b64 (val64 x) - zval b64 (val64 y)) * ((2 ^ j : Nat) : Int) = (n - m) * (one64 : Int) := by rw [Int.sub_mul, Int.sub_mul, h.2, g.2]
  have e' := congrArg Int.natAbs e
  rw [Int.natAbs_mul, Int.natAbs_mul, Int.natAbs_natCast, Int.natAbs_natCast] at e'
  obtain ⟨d1, d2⟩ := of_rr (x := FP.dsub x y) e1 one64_pos (rep_dy hb hj e') rfl
  exact ⟨d1, by rw [d2, e2, e]⟩
theorem one_sq : one64 * one64 = 2 ^ 2148 := by rw [one_pow, ← Nat.pow_add]
theorem Dy.mul {n m : Int} {j k : Nat} {x y : UInt64} (h : Dy n j x) (g : Dy m k y) (hb : (n * m).natAbs ≤ 2 ^ 53) (hj : j + k ≤ 1074) : Dy (n * m) (j + k) (FP.dmul x y) := by
  have e1 := dmul_rr h.1 g.1
  have q1 := ar_mul h.mag g.mag
  rw [← Nat.pow_add, ← Int.natAbs_mul] at q1
  obtain ⟨z, hz⟩ : ∃ z, z = (n * m).natAbs * 2 ^ (1074 - (j + k)) := ⟨_, rfl⟩
  have hz1 : z * 2 ^ (j + k) = (n * m).natAbs * one64 := by
    rw [hz, one_pow, Nat.mul_assoc, ← Nat.pow_add]; congr 2; omega
  have hz2 := ar_z (Nat.two_pow_pos (j + k)) q1 hz1
  have hR : Rep z := by rw [hz]; exact rep_pow' hb (by omega)
  obtain ⟨d1, d2⟩ := of_rr (x := FP.dmul x y) e1 (Nat.two_pow_pos _) hR (by rw [hz2, Nat.mul_assoc, one_sq])
  refine ⟨d1, ?_⟩
  have hs : signed (sgn (val64 x) != sgn (val64 y)) z * (one64 : Int) = zval b64 (val64 x) * zval b64 (val64 y) := by rw [← signed_mul, ← hz2, signed_xor, zv_eq, zv_eq]
  rw [d2, Nat.pow_add, Int.natCast_mul]
  exact ar_i one_ne h.2 g.2 hs
theorem zm_ne {n : Int} {j : Nat} {x : UInt64} (h : Dy n j x) (hn : n ≠ 0) : zmag b64 (val64 x) ≠ 0 := by
  intro k
  have := h.mag
  rw [k, Nat.zero_mul] at this
  have h1 : n.natAbs * one64 ≠ 0 := Nat.mul_ne_zero (by omega) (by have := one64_pos; omega)
  exact h1 this.symm
theorem signed_div (s t : Bool) (a b : Nat) : signed (s != t) a * signed t b = signed s (a * b) := by rw [← signed_xor]; congr 1; cases s <;> cases t <;> rfl
theorem Dy.div {n m w : Int} {j k i : Nat} {x y : UInt64} (h : Dy n j x) (g : Dy m k y) (hm0 : m ≠ 0) (hw : n * ((2 ^ k : Nat) : Int) * ((2 ^ i : Nat) : Int) = w * m * ((2 ^ j : Nat) : Int)) (hb : w.natAbs ≤ 2 ^ 53) (hi : i ≤ 1074) : Dy w i (FP.ddiv x y) := by
  have hz0 := zm_ne g hm0
  have e1 := ddiv_rr h.1 g.1 hz0
  obtain ⟨z, hz⟩ : ∃ z, z = w.natAbs * 2 ^ (1074 - i) := ⟨_, rfl⟩
  have hz1 : z * 2 ^ i = w.natAbs * one64 := by
    rw [hz, one_pow, Nat.mul_assoc, ← Nat.pow_add]; congr 2; omega
  have hw' := congrArg Int.natAbs hw
  simp only [Int.natAbs_mul, Int.natAbs_natCast] at hw'
  have hz2 := ar_d (Nat.mul_pos (Nat.mul_pos (Nat.two_pow_pos j) (Nat.two_pow_pos k)) (Nat.two_pow_pos i)) h.mag g.mag hz1 hw'
  have hR : Rep z := by rw [hz]; exact rep_pow' hb (by omega)
  obtain ⟨d1, d2⟩ := of_rr (x := FP.ddiv x y) e1 (Nat.pos_of_ne_zero hz0) hR hz2
  refine ⟨d1, ?_⟩
  have hs : zval b64 (val64 (FP.ddiv x y)) * zval b64 (val64 y) = zval b64 (val64 x) * (one64 : Int) := by
    rw [d2, zv_eq y, signed_div, ← hz2, signed_mul, zv_eq x]
  have hy0 : zval b64 (val64 y) ≠ 0 := by
    intro q; rw [zv_eq, signed_eq_zero] at q; exact hz0 q
  exact ar_q hy0 (p2_ne j) (p2_ne k) h.2 g.2 hs hw
end Jvm.Own
namespace Jvm.Own
open Jvm.FP.Core Sem ClassFile Op Lib Jvm.Free
theorem Dy.to {n n' : Int} {j j' : Nat} {x : UInt64} (h : Dy n j x) (k : Nat) (hj : j + k = j') (hn : n * ((2 ^ k : Nat) : Int) = n') : Dy n' j' x := by subst hj hn; exact h.up k
theorem Dy.cl {n m : Int} {j : Nat} {x y : UInt64} (h : Dy n j x) (g : Dy m j y) (o : CmpOp) : cmpValue (FP.dcmp x y) o = cmpI n m := by rw [h.cmp g, cmpI_some]
theorem Dy.lit {n : Int} {j : Nat} {x : UInt64} (h1 : x.toNat % 2 ^ 63 < 9218868437227405312) (h2 : zval b64 (val64 x) * ((2 ^ j : Nat) : Int) = n * (one64 : Int)) : Dy n j x := ⟨(fin_bits x).mpr h1, h2⟩
theorem Dy.i2d' {v : Int32} {n : Int} (h : v.toInt = n) : Dy n 0 (FP.i2d v) := h ▸ Dy.i2d v
theorem Dy.l2d' {v : Int64} {n : Int} (h : v.toInt = n) (hb : n.natAbs ≤ 2 ^ 53) : Dy n 0 (FP.l2d v) := by subst h; exact Dy.l2d hb
end Jvm.Own
namespace Jvm.Own
open Jvm.FP.Core Sem ClassFile Op Lib Jvm.Free
/-! the quotient, rounded: between what stands around it -/
abbrev zv (x : UInt64) : Int := zval b64 (val64 x)
theorem Zc {x y : UInt64} (hx : DFin x) (hy : DFin y) (o : CmpOp) : cmpValue (FP.dcmp x y) o = cmpI (zv x) (zv y) := by
  rw [show FP.dcmp x y = _ from dcmp_zval hx.ne_nan hy.ne_nan, cmpI_some]
theorem Dy.same {n : Int} {j : Nat} {x y : UInt64} (h : Dy n j x) (g : Dy n j y) : zv x = zv y := by
  apply Int.eq_of_mul_eq_mul_right (p2_ne j)
  rw [h.2, g.2]
theorem sg_le (s : Bool) (z : Nat) : signed s z ≤ (z : Int) := by cases s <;> simp [signed] <;> omega
theorem sg_ge (s : Bool) (z : Nat) : -(z : Int) ≤ signed s z := by cases s <;> simp [signed] <;> omega
theorem sg_nn {s : Bool} {z : Nat} (h : 0 ≤ signed s z) : signed s z = (z : Int) := by
  cases s
  · rfl
  · have e : signed true z = -(z : Int) := rfl
    rw [e] at h ⊢; omega
theorem sg_np {s : Bool} {z : Nat} (h : signed s z ≤ 0) : signed s z = -(z : Int) := by
  cases s
  · have e : signed false z = (z : Int) := rfl
    rw [e] at h ⊢; omega
  · rfl
theorem Dy.nn {n : Int} {j : Nat} {x : UInt64} (h : Dy n j x) (hn : 0 ≤ n) : 0 ≤ zv x := by
  have hp : (0 : Int) < ((2 ^ j : Nat) : Int) := by have := Nat.two_pow_pos j; omega
  have e : zv x * ((2 ^ j : Nat) : Int) = n * (one64 : Int) := h.2
  have q : 0 ≤ zv x * ((2 ^ j : Nat) : Int) := by rw [e]; exact Int.mul_nonneg hn (Int.natCast_nonneg _)
  exact Int.nonneg_of_mul_nonneg_left q hp
theorem Dy.np {n : Int} {j : Nat} {x : UInt64} (h : Dy n j x) (hn : n ≤ 0) : zv x ≤ 0 := by
  have hp : (0 : Int) < ((2 ^ j : Nat) : Int) := by have := Nat.two_pow_pos j; omega
  have e : zv x * ((2 ^ j : Nat) : Int) = n * (one64 : Int) := h.2
  have q : 0 ≤ -zv x * ((2 ^ j : Nat) : Int) := by
    rw [Int.neg_mul, e, ← Int.neg_mul]; exact Int.mul_nonneg (by omega) (Int.natCast_nonneg _)
  have := Int.nonneg_of_mul_nonneg_left q hp
  omega
theorem Dy.pos_sgn {n : Int} {j : Nat} {x : UInt64} (h : Dy n j x) (hn : 0 < n) : sgn (val64 x) = false := by
  have h0 := h.nn (by omega)
  have hz := zm_ne h (by omega)
  rw [show zv x = signed (sgn (val64 x)) (zmag b64 (val64 x)) from rfl] at h0
  cases e : sgn (val64 x)
  · rfl
  · rw [e] at h0
    have e2 : signed true (zmag b64 (val64 x)) = -(zmag b64 (val64 x) : Int) := rfl
    rw [e2] at h0; omega
theorem zmul_le {a b A B c d P : Nat} (hP : 0 < P) (h1 : a * P = A) (h2 : b * P = B) (h : A ≤ B) : a ≤ b := by
  subst h1 h2; exact Nat.le_of_mul_le_mul_right h hP
/-- the magnitude of x / y against V's -/
theorem ar_le {x y V I K J N M v O : Nat} (hp : 0 < I * K * J) (hx : x * I = N * O) (hy : y * K = M * O) (hV : V * J = v * O) (h : N * K * J ≤ v * M * I) : x * O ≤ V * y := by
  apply Nat.le_of_mul_le_mul_right (c := I * K * J) _ hp
  calc x * O * (I * K * J) = (x * I) * (O * (K * J)) := by ac_rfl
    _ = (N * K * J) * (O * O) := by rw [hx]; ac_rfl
    _ ≤ (v * M * I) * (O * O) := Nat.mul_le_mul_right _ h
    _ = (v * O) * (M * O) * I := by ac_rfl
    _ = (V * J) * (y * K) * I := by rw [hV, hy]
    _ = V * y * (I * K * J) := by ac_rfl
theorem ar_ge {x y V I K J N M v O : Nat} (hp : 0 < I * K * J) (hx : x * I = N * O) (hy : y * K = M * O) (hV : V * J = v * O) (h : v * M * I ≤ N * K * J) : V * y ≤ x * O := by
  apply Nat.le_of_mul_le_mul_right (c := I * K * J) _ hp
  calc V * y * (I * K * J) = (V * J) * (y * K) * I := by ac_rfl
    _ = (v * O) * (M * O) * I := by rw [hV, hy]
    _ = (v * M * I) * (O * O) := by ac_rfl
    _ ≤ (N * K * J) * (O * O) := Nat.mul_le_mul_right _ h
    _ = (x * I) * (O * (K * J)) := by rw [hx]; ac_rfl
    _ = x * O * (I * K * J) := by ac_rfl
theorem p3_pos (i k j : Nat) : 0 < 2 ^ i * 2 ^ k * 2 ^ j := Nat.mul_pos (Nat.mul_pos (Nat.two_pow_pos i) (Nat.two_pow_pos k)) (Nat.two_pow_pos j)
theorem mag_le_of {n m v : Int} {i k j : Nat} {x y V : UInt64} (hx : Dy n i x) (hy : Dy m k y) (hV : Dy v j V) (h : n.natAbs * 2 ^ k * 2 ^ j ≤ v.natAbs * m.natAbs * 2 ^ i) : zmag b64 (val64 x) * one64 ≤ zmag b64 (val64 V) * zmag b64 (val64 y) := ar_le (p3_pos i k j) hx.mag hy.mag hV.mag h
theorem mag_ge_of {n m v : Int} {i k j : Nat} {x y V : UInt64} (hx : Dy n i x) (hy : Dy m k y) (hV : Dy v j V) (h : v.natAbs * m.natAbs * 2 ^ i ≤ n.natAbs * 2 ^ k * 2 ^ j) : zmag b64 (val64 V) * zmag b64 (val64 y) ≤ zmag b64 (val64 x) * one64 := ar_ge (p3_pos i k j) hx.mag hy.mag hV.mag h
theorem zv_div {n m : Int} {i k : Nat} {x y : UInt64} (hx : Dy n i x) (hy : Dy m k y) (hm : 0 < m) : zv (FP.ddiv x y) = signed (sgn (val64 x)) (zmag b64 (rr (sgn (val64 x)) (zmag b64 (val64 x)) (zmag b64 (val64 y)))) ∧ val64 (FP.ddiv x y) = rr (sgn (val64 x)) (zmag b64 (val64 x)) (zmag b64 (val64 y)) := by
  have e := ddiv_rr hx.1 hy.1 (zm_ne hy (by omega))
  rw [hy.pos_sgn hm] at e
  have es : (sgn (val64 x) != false) = sgn (val64 x) := by cases sgn (val64 x) <;> rfl
  rw [es] at e
  refine ⟨?_, e⟩
  show signed (sgn (val64 (ddiv x y))) (zmag b64 (val64 (ddiv x y))) = _
  rw [e, rr_sgn]
theorem rr_zero (s : Bool) (B : Nat) : zmag b64 (rr s 0 B) = 0 := by
  show zmag b64 (roundRatio b64 s 0 B 0) = 0
  unfold roundRatio
  rw [if_pos rfl]
  show 0 * _ = 0
  rw [Nat.zero_mul]
theorem Dy.neg_sgn {n : Int} {j : Nat} {x : UInt64} (h : Dy n j x) (hn : n < 0) : sgn (val64 x) = true := by
  have h0 := h.np (by omega)
  have hz := zm_ne h (by omega)
  rw [show zv x = signed (sgn (val64 x)) (zmag b64 (val64 x)) from rfl] at h0
  cases e : sgn (val64 x)
  · rw [e] at h0
    have e2 : signed false (zmag b64 (val64 x)) = (zmag b64 (val64 x) : Int) := rfl
    rw [e2] at h0; omega
  · rfl
theorem nat_le_of {n m v : Int} {P Q R : Nat} (hn : 0 ≤ n) (hm : 0 < m) (hv : 0 ≤ v) (h : n * (P : Int) * (Q : Int) ≤ v * m * (R : Int)) : n.natAbs * P * Q ≤ v.natAbs * m.natAbs * R := by
  apply Int.ofNat_le.mp
  simp only [Int.natCast_mul, Int.natAbs_of_nonneg hn, Int.natAbs_of_nonneg hv, Int.natAbs_of_nonneg (Int.le_of_lt hm)]
  exact h
theorem nat_ge_of {n m v : Int} {P Q R : Nat} (hn : 0 ≤ n) (hm : 0 < m) (hv : 0 ≤ v) (h : v * m * (R : Int) ≤ n * (P : Int) * (Q : Int)) : v.natAbs * m.natAbs * R ≤ n.natAbs * P * Q := by
  apply Int.ofNat_le.mp
  simp only [Int.natCast_mul, Int.natAbs_of_nonneg hn, Int.natAbs_of_nonneg hv, Int.natAbs_of_nonneg (Int.le_of_lt hm)]
  exact h
theorem neg_side {n m v P Q R : Int} (h : n * P * Q ≤ v * m * R) : (-v) * m * R ≤ (-n) * P * Q := by
  rw [Int.neg_mul, Int.neg_mul, Int.neg_mul, Int.neg_mul]; omega
theorem neg_side' {n m v P Q R : Int} (h : v * m * R ≤ n * P * Q) : (-n) * P * Q ≤ (-v) * m * R := by
  rw [Int.neg_mul, Int.neg_mul, Int.neg_mul, Int.neg_mul]; omega
theorem p2_pos (k : Nat) : (0 : Int) < ((2 ^ k : Nat) : Int) := by have := Nat.two_pow_pos k; omega
theorem div_le {n m v : Int} {i k j : Nat} {x y V : UInt64} (hx : Dy n i x) (hy : Dy m k y) (hm : 0 < m) (hV : Dy v j V) (h : n * ((2 ^ k : Nat) : Int) * ((2 ^ j : Nat) : Int) ≤ v * m * ((2 ^ i : Nat) : Int)) : zv (FP.ddiv x y) ≤ zv V := by
  obtain ⟨e, -⟩ := zv_div hx hy hm
  have hz : 0 < zmag b64 (val64 y) := Nat.pos_of_ne_zero (zm_ne hy (by omega))
  have pk := p2_pos k; have pj := p2_pos j; have pi := p2_pos i
  rw [e]
  by_cases hn : 0 ≤ n
  · have hv : 0 ≤ v := by
      have q : 0 ≤ v * m * ((2 ^ i : Nat) : Int) := Int.le_trans (Int.mul_nonneg (Int.mul_nonneg hn (Int.le_of_lt pk)) (Int.le_of_lt pj)) h
      exact Int.nonneg_of_mul_nonneg_left (Int.nonneg_of_mul_nonneg_left q pi) hm
    have hr := rr_le (s := sgn (val64 x)) hz (rep_val hV.1) (mag_le_of hx hy hV (nat_le_of hn hm hv h))
    have h0 := hV.nn hv
    rw [show zv V = signed (sgn (val64 V)) (zmag b64 (val64 V)) from rfl] at h0 ⊢
    rw [sg_nn h0]
    exact Int.le_trans (sg_le _ _) (Int.ofNat_le.mpr hr)
  · have hn' : n < 0 := by omega
    rw [hx.neg_sgn hn']
    by_cases hv : 0 ≤ v
    · have h0 := hV.nn hv
      have : signed true (zmag b64 (rr true (zmag b64 (val64 x)) (zmag b64 (val64 y)))) ≤ 0 := by
        show -((zmag b64 (rr true (zmag b64 (val64 x)) (zmag b64 (val64 y))) : Nat) : Int) ≤ 0
        omega
      omega
    · have h2 := neg_side h
      have h3 := nat_ge_of (n := -n) (v := -v) (by omega) hm (by omega) h2
      rw [Int.natAbs_neg, Int.natAbs_neg] at h3
      have hr := rr_ge (s := true) hz (rep_val hV.1) (mag_ge_of hx hy hV h3)
      have h0 := hV.np (by omega)
      rw [show zv V = signed (sgn (val64 V)) (zmag b64 (val64 V)) from rfl] at h0 ⊢
      rw [sg_np h0]
      show -((zmag b64 (rr true (zmag b64 (val64 x)) (zmag b64 (val64 y))) : Nat) : Int) ≤ _
      omega
theorem div_ge {n m v : Int} {i k j : Nat} {x y V : UInt64} (hx : Dy n i x) (hy : Dy m k y) (hm : 0 < m) (hV : Dy v j V) (h : v * m * ((2 ^ i : Nat) : Int) ≤ n * ((2 ^ k : Nat) : Int) * ((2 ^ j : Nat) : Int)) : zv V ≤ zv (FP.ddiv x y) := by
  obtain ⟨e, -⟩ := zv_div hx hy hm
  have hz : 0 < zmag b64 (val64 y) := Nat.pos_of_ne_zero (zm_ne hy (by omega))
  have pk := p2_pos k; have pj := p2_pos j; have pi := p2_pos i
  rw [e]
  by_cases hn : n ≤ 0
  · have hv : v ≤ 0 := by
      have q : 0 ≤ (-v) * m * ((2 ^ i : Nat) : Int) := Int.le_trans (Int.mul_nonneg (Int.mul_nonneg (by omega : 0 ≤ -n) (Int.le_of_lt pk)) (Int.le_of_lt pj)) (neg_side' h)
      have := Int.nonneg_of_mul_nonneg_left (Int.nonneg_of_mul_nonneg_left q pi) hm
      omega
    have h3 := nat_le_of (n := -n) (v := -v) (by omega) hm (by omega) (neg_side' h)
    rw [Int.natAbs_neg, Int.natAbs_neg] at h3
    have hr := rr_le (s := sgn (val64 x)) hz (rep_val hV.1) (mag_le_of hx hy hV h3)
    have h0 := hV.np hv
    rw [show zv V = signed (sgn (val64 V)) (zmag b64 (val64 V)) from rfl] at h0 ⊢
    rw [sg_np h0]
    exact Int.le_trans (Int.neg_le_neg (Int.ofNat_le.mpr hr)) (sg_ge _ _)
  · have hn' : 0 < n := by omega
    rw [hx.pos_sgn hn']
    by_cases hv : v ≤ 0
    · have h0 := hV.np hv
      have : 0 ≤ signed false (zmag b64 (rr false (zmag b64 (val64 x)) (zmag b64 (val64 y)))) := by
        show 0 ≤ ((zmag b64 (rr false (zmag b64 (val64 x)) (zmag b64 (val64 y))) : Nat) : Int)
        omega
      omega
    · have h3 := nat_ge_of (by omega) hm (by omega) h
      have hr := rr_ge (s := false) hz (rep_val hV.1) (mag_ge_of hx hy hV h3)
      have h0 := hV.nn (by omega)
      rw [show zv V = signed (sgn (val64 V)) (zmag b64 (val64 V)) from rfl] at h0 ⊢
      rw [sg_nn h0]
      show _ ≤ ((zmag b64 (rr false (zmag b64 (val64 x)) (zmag b64 (val64 y))) : Nat) : Int)
      omega
theorem div_fin {n m v : Int} {i k j : Nat} {x y V : UInt64} (hx : Dy n i x) (hy : Dy m k y) (hm : 0 < m) (hV : Dy v j V) (h : n.natAbs * 2 ^ k * 2 ^ j ≤ v.natAbs * m.natAbs * 2 ^ i) : DFin (FP.ddiv x y) := by
  obtain ⟨-, e⟩ := zv_div hx hy hm
  have hz : 0 < zmag b64 (val64 y) := Nat.pos_of_ne_zero (zm_ne hy (by omega))
  obtain ⟨c, q, r⟩ := rr_fin (rep_val hV.1) (rr_le (s := sgn (val64 x)) hz (rep_val hV.1) (mag_le_of hx hy hV h))
  exact ⟨_, c, q, by rw [show val64 (FP.ddiv x y) = _ from e, r]⟩
theorem DFin.nn64 {x : UInt64} (h : DFin x) : Jvm.Free.Fl.NoNaN64 x := (Jvm.Free.Fl.fin64_core.mpr h).noNaN
/-- a quotient of whole numbers that are small: it is finite -/
theorem div_whole {n m : Int} {x y : UInt64} (hx : Dy n 0 x) (hy : Dy m 0 y) (hm : 0 < m) : DFin (FP.ddiv x y) := by
  refine div_fin hx hy hm hx ?_
  have : 1 ≤ m.natAbs := by omega
  simp only [Nat.pow_zero, Nat.mul_one]
  exact Nat.le_mul_of_pos_right _ (by omega)
end Jvm.Own
namespace Jvm.Own
open Sem ClassFile Op Lib Jvm.Stand Jvm.Free Jvm.LawKit Jvm.RoadKit
/-! arrays whose whole list of values is known -/
def Ars (Z : State) (h : Heap) (a : Addr) (ty : FieldType) (vs : List Value) : Prop := ∃ c : Cell, Arr Z h a c ty ∧ c.slots.toList = vs ∧ ∀ v ∈ vs, fits ty v = true
section ArsFacts
variable {Z : State} {h h' : Heap} {a b : Addr} {ty : FieldType} {vs : List Value} {sl : Nat} {w : Value} {ws : List Addr}
theorem Ars.ext (E : Ext h h') (F : Ars Z h a ty vs) : Ars Z h' a ty vs := by
  obtain ⟨c, A, r⟩ := F; exact ⟨c, A.ext E, r⟩
theorem Ars.other (W : Wr h h' b sl w) (F : Ars Z h a ty vs) (q : a ≠ b) : Ars Z h' a ty vs := by
  obtain ⟨c, A, r⟩ := F; exact ⟨c, A.other W q, r⟩
theorem Ars.keep (F : Ars Z h a ty vs) (K : Keep h h' ws) (q : a ∉ ws) : Ars Z h' a ty vs := by
  obtain ⟨c, A, r⟩ := F; exact ⟨c, ⟨K.2.1 _ _ A.1 q, A.2⟩, r⟩
theorem Ars.lt (F : Ars Z h a ty vs) : a < h.size := by
  obtain ⟨c, A, r⟩ := F; exact A.lt
theorem Ars.set (W : Wr h h' a sl w) (F : Ars Z h a ty vs) (hw : fits ty w = true) : Ars Z h' a ty (vs.set sl w) := by
  obtain ⟨c, A, r1, r2⟩ := F
  refine ⟨_, A.same W, ?_, ?_⟩
  · show (c.slots.setIfInBounds sl w).toList = _
    rw [Array.toList_setIfInBounds, r1]
  · intro v hv
    rcases List.mem_or_eq_of_mem_set hv with q | rfl
    · exact r2 v q
    · exact hw
theorem Ars.new {cA : ClassId} {n : Int32} {k : Nat} (A : Arr Z h a (newA cA ty n) ty) (hk : n.toNatClampNeg = k) (hf : fits ty (defaultValue ty) = true) : Ars Z h a ty (List.replicate k (defaultValue ty)) := by
  subst hk
  refine ⟨_, A, ?_, ?_⟩
  · show (Array.replicate _ _).toList = _
    rw [Array.toList_replicate]
  · intro v hv; rw [List.eq_of_mem_replicate hv]; exact hf
theorem Ars.size {c : Cell} (r : c.slots.toList = vs) : c.slots.size = vs.length := by rw [← r, Array.length_toList]
theorem Ars.at {c : Cell} (r : c.slots.toList = vs) {i : Nat} {v : Value} (hv : vs[i]? = some v) : c.slots[i]? = some v ∧ i < c.slots.size := by
  rw [← r, Array.getElem?_toList] at hv
  exact ⟨hv, (Array.getElem?_eq_some_iff.mp hv).1⟩
end ArsFacts
section ArsSteps
variable {p : Program} {l : Launch} {e : Env} {R : Room} {s : State} {m : MethodId} {args : Array Value} {below : List Frame} {meth : Method} {c : Code} {T : State} {locs : List Loc} {cells slots : Nat} {Z : State} {a0 : Array Value} {h : Heap} {b : ByteArray} {F : Outcome → State → Prop} {pc pc' : Nat} {ls : Array Slot} {rest : List Value} {a : Addr} {vs : List Value} {v : Value} {j : Int32} {i : Nat}
theorem g_len (X : Stand p l e R s m args below meth c T locs cells slots) (hx : p.tables.exec = Jvm.exec) (hZ : Z.Warmed39 s.vm) (eT : T.heap = h) {ty : FieldType} (V : Ars Z h a ty vs) {n : Int32} (hn : vs.length.toInt32 = n) (hd : decode c.code pc = .ok (.arraylength, 1)) (hp : pc + 1 = pc') (k : Go p e below m F T pc' ls (.int n :: rest)) : Go p e below m F T pc ls (.ref a :: rest) := by
  subst hp hn
  obtain ⟨cl, A, r1, r2⟩ := V
  rw [← Ars.size r1] at k
  exact k.of fun t k => X.arraylength hx (by rw [eT]; exact A.1) (State.isArrayOf_alike hZ.alike A.2.1) (g := mkF m pc ls (.ref a :: rest)) rfl rfl hd t k
theorem g_iaload (X : Stand p l e R s m args below meth c T locs cells slots) (hx : p.tables.exec = Jvm.exec) (hZ : Z.Warmed39 s.vm) (eT : T.heap = h) (V : Ars Z h a .int vs) (hj : ¬ j < 0) (hi : j.toNatClampNeg = i) (hv : vs[i]? = some v) (hd : decode c.code pc = .ok (.iaload, 1)) (hp : pc + 1 = pc') (k : Go p e below m F T pc' ls (v :: rest)) : Go p e below m F T pc ls (.int j :: .ref a :: rest) := by
  subst hp hi
  obtain ⟨cl, A, r1, r2⟩ := V
  obtain ⟨q1, q2⟩ := Ars.at r1 hv
  exact k.of fun t k => X.iaload hx (by rw [eT]; exact A.1) (State.isArrayOf_alike hZ.alike A.2.1) A.2.2 (fun q => q.elim hj fun q => absurd q2 (Nat.not_lt.mpr q)) q1 (g := mkF m pc ls (.int j :: .ref a :: rest)) rfl rfl hd t k
theorem g_caload (X : Stand p l e R s m args below meth c T locs cells slots) (hx : p.tables.exec = Jvm.exec) (hZ : Z.Warmed39 s.vm) (eT : T.heap = h) (V : Ars Z h a .char vs) (hj : ¬ j < 0) (hi : j.toNatClampNeg = i) (hv : vs[i]? = some v) (hd : decode c.code pc = .ok (.caload, 1)) (hp : pc + 1 = pc') (k : Go p e below m F T pc' ls (v :: rest)) : Go p e below m F T pc ls (.int j :: .ref a :: rest) := by
  subst hp hi
  obtain ⟨cl, A, r1, r2⟩ := V
  obtain ⟨q1, q2⟩ := Ars.at r1 hv
  exact k.of fun t k => X.caload hx (by rw [eT]; exact A.1) (State.isArrayOf_alike hZ.alike A.2.1) A.2.2 (fun q => q.elim hj fun q => absurd q2 (Nat.not_lt.mpr q)) q1 (g := mkF m pc ls (.int j :: .ref a :: rest)) rfl rfl hd t k
theorem g_baload (X : Stand p l e R s m args below meth c T locs cells slots) (hx : p.tables.exec = Jvm.exec) (hZ : Z.Warmed39 s.vm) (eT : T.heap = h) (V : Ars Z h a .byte vs) (hj : ¬ j < 0) (hi : j.toNatClampNeg = i) (hv : vs[i]? = some v) (hd : decode c.code pc = .ok (.baload, 1)) (hp : pc + 1 = pc') (k : Go p e below m F T pc' ls (v :: rest)) : Go p e below m F T pc ls (.int j :: .ref a :: rest) := by
  subst hp hi
  obtain ⟨cl, A, r1, r2⟩ := V
  obtain ⟨q1, q2⟩ := Ars.at r1 hv
  exact k.of fun t k => X.baloadBytes hx (by rw [eT]; exact A.1) (State.isArrayOf_alike hZ.alike A.2.1) A.2.2 (fun q => q.elim hj fun q => absurd q2 (Nat.not_lt.mpr q)) q1 (g := mkF m pc ls (.int j :: .ref a :: rest)) rfl rfl hd t k
theorem g_daload (X : Stand p l e R s m args below meth c T locs cells slots) (hx : p.tables.exec = Jvm.exec) (hZ : Z.Warmed39 s.vm) (eT : T.heap = h) (V : Ars Z h a .double vs) (hj : ¬ j < 0) (hi : j.toNatClampNeg = i) (hv : vs[i]? = some v) (hd : decode c.code pc = .ok (.daload, 1)) (hp : pc + 1 = pc') (k : Go p e below m F T pc' ls (v :: rest)) : Go p e below m F T pc ls (.int j :: .ref a :: rest) := by
  subst hp hi
  obtain ⟨cl, A, r1, r2⟩ := V
  obtain ⟨q1, q2⟩ := Ars.at r1 hv
  exact k.of fun t k => X.daload hx (by rw [eT]; exact A.1) (State.isArrayOf_alike hZ.alike A.2.1) A.2.2 (fun q => q.elim hj fun q => absurd q2 (Nat.not_lt.mpr q)) q1 (g := mkF m pc ls (.int j :: .ref a :: rest)) rfl rfl hd t k
theorem g_laload (X : Stand p l e R s m args below meth c T locs cells slots) (hx : p.tables.exec = Jvm.exec) (hZ : Z.Warmed39 s.vm) (eT : T.heap = h) (V : Ars Z h a .long vs) (hj : ¬ j < 0) (hi : j.toNatClampNeg = i) (hv : vs[i]? = some v) (hd : decode c.code pc = .ok (.laload, 1)) (hp : pc + 1 = pc') (k : Go p e below m F T pc' ls (v :: rest)) : Go p e below m F T pc ls (.int j :: .ref a :: rest) := by
  subst hp hi
  obtain ⟨cl, A, r1, r2⟩ := V
  obtain ⟨q1, q2⟩ := Ars.at r1 hv
  exact k.of fun t k => X.laload hx (by rw [eT]; exact A.1) (State.isArrayOf_alike hZ.alike A.2.1) A.2.2 (fun q => q.elim hj fun q => absurd q2 (Nat.not_lt.mpr q)) q1 (g := mkF m pc ls (.int j :: .ref a :: rest)) rfl rfl hd t k
theorem g_aaload (X : Stand p l e R s m args below meth c T locs cells slots) (hx : p.tables.exec = Jvm.exec) (hZ : Z.Warmed39 s.vm) (eT : T.heap = h) {ty : FieldType} (hty : ty.isReference = true) (V : Ars Z h a ty vs) (hj : ¬ j < 0) (hi : j.toNatClampNeg = i) (hv : vs[i]? = some v) (hd : decode c.code pc = .ok (.aaload, 1)) (hp : pc + 1 = pc') (k : Go p e below m F T pc' ls (v :: rest)) : Go p e below m F T pc ls (.int j :: .ref a :: rest) := by
  subst hp hi
  obtain ⟨cl, A, r1, r2⟩ := V
  obtain ⟨q1, q2⟩ := Ars.at r1 hv
  exact k.of fun t k => X.aaload hx (by rw [eT]; exact A.1) (State.isArrayOf_alike hZ.alike A.2.1) hty A.2.2 (fun q => q.elim hj fun q => absurd q2 (Nat.not_lt.mpr q)) q1 (g := mkF m pc ls (.int j :: .ref a :: rest)) rfl rfl hd t k
theorem g_iastore (X : Stand p l e R s m args below meth c T locs cells slots) (hx : p.tables.exec = Jvm.exec) (hZ : Z.Warmed39 s.vm) (eT : T.heap = h) {x : Int32} (V : Ars Z h a .int vs) (hj : ¬ j < 0) (hi : j.toNatClampNeg = i) (hb : i < vs.length) (hv : (.int x) = v) (hd : decode c.code pc = .ok (.iastore, 1)) (hp : pc + 1 = pc') (k : ∀ T' h', Stand p l e R s m args below meth c T' (locs ++ [⟨a, i⟩]) cells slots → T'.heap = h' → Wr h h' a i v → Ars Z h' a .int (vs.set i v) → Go p e below m F T' pc' ls rest) : Go p e below m F T pc ls (.int x :: .int j :: .ref a :: rest) := by
  subst hp hi hv
  obtain ⟨cl, A, r1, r2⟩ := V
  obtain ⟨T', h', X', e', W', st⟩ := stI X hx hZ eT A (j := j) (x := x) (fun q => q.elim hj fun q => absurd (Ars.size r1 ▸ hb) (Nat.not_lt.mpr q)) (g := mkF m pc ls (.int x :: .int j :: .ref a :: rest)) rfl rfl hd
  exact (k T' h' X' e' W' (Ars.set W' ⟨cl, A, r1, r2⟩ rfl)).of st
theorem g_castore (X : Stand p l e R s m args below meth c T locs cells slots) (hx : p.tables.exec = Jvm.exec) (hZ : Z.Warmed39 s.vm) (eT : T.heap = h) {x : Int32} (V : Ars Z h a .char vs) (hj : ¬ j < 0) (hi : j.toNatClampNeg = i) (hb : i < vs.length) (hv : (.int (nar .char x)) = v) (hd : decode c.code pc = .ok (.castore, 1)) (hp : pc + 1 = pc') (k : ∀ T' h', Stand p l e R s m args below meth c T' (locs ++ [⟨a, i⟩]) cells slots → T'.heap = h' → Wr h h' a i v → Ars Z h' a .char (vs.set i v) → Go p e below m F T' pc' ls rest) : Go p e below m F T pc ls (.int x :: .int j :: .ref a :: rest) := by
  subst hp hi hv
  obtain ⟨cl, A, r1, r2⟩ := V
  obtain ⟨T', h', X', e', W', st⟩ := stC X hx hZ eT A (j := j) (x := x) (fun q => q.elim hj fun q => absurd (Ars.size r1 ▸ hb) (Nat.not_lt.mpr q)) (g := mkF m pc ls (.int x :: .int j :: .ref a :: rest)) rfl rfl hd
  exact (k T' h' X' e' W' (Ars.set W' ⟨cl, A, r1, r2⟩ (fits_nar_char x))).of st
theorem g_bastore (X : Stand p l e R s m args below meth c T locs cells slots) (hx : p.tables.exec = Jvm.exec) (hZ : Z.Warmed39 s.vm) (eT : T.heap = h) {x : Int32} (V : Ars Z h a .byte vs) (hj : ¬ j < 0) (hi : j.toNatClampNeg = i) (hb : i < vs.length) (hv : (.int (nar .byte x)) = v) (hd : decode c.code pc = .ok (.bastore, 1)) (hp : pc + 1 = pc') (k : ∀ T' h', Stand p l e R s m args below meth c T' (locs ++ [⟨a, i⟩]) cells slots → T'.heap = h' → Wr h h' a i v → Ars Z h' a .byte (vs.set i v) → Go p e below m F T' pc' ls rest) : Go p e below m F T pc ls (.int x :: .int j :: .ref a :: rest) := by
  subst hp hi hv
  obtain ⟨cl, A, r1, r2⟩ := V
  obtain ⟨T', h', X', e', W', st⟩ := stB X hx hZ eT A (j := j) (x := x) (fun q => q.elim hj fun q => absurd (Ars.size r1 ▸ hb) (Nat.not_lt.mpr q)) (g := mkF m pc ls (.int x :: .int j :: .ref a :: rest)) rfl rfl hd
  exact (k T' h' X' e' W' (Ars.set W' ⟨cl, A, r1, r2⟩ (fits_nar_byte x))).of st
theorem g_dastore (X : Stand p l e R s m args below meth c T locs cells slots) (hx : p.tables.exec = Jvm.exec) (hZ : Z.Warmed39 s.vm) (eT : T.heap = h) {x : UInt64} (V : Ars Z h a .double vs) (hj : ¬ j < 0) (hi : j.toNatClampNeg = i) (hb : i < vs.length) (hv : (.double x) = v) (hd : decode c.code pc = .ok (.dastore, 1)) (hp : pc + 1 = pc') (k : ∀ T' h', Stand p l e R s m args below meth c T' (locs ++ [⟨a, i⟩]) cells slots → T'.heap = h' → Wr h h' a i v → Ars Z h' a .double (vs.set i v) → Go p e below m F T' pc' ls rest) : Go p e below m F T pc ls (.double x :: .int j :: .ref a :: rest) := by
  subst hp hi hv
  obtain ⟨cl, A, r1, r2⟩ := V
  obtain ⟨T', h', X', e', W', st⟩ := stD X hx hZ eT A (j := j) (x := x) (fun q => q.elim hj fun q => absurd (Ars.size r1 ▸ hb) (Nat.not_lt.mpr q)) (g := mkF m pc ls (.double x :: .int j :: .ref a :: rest)) rfl rfl hd
  exact (k T' h' X' e' W' (Ars.set W' ⟨cl, A, r1, r2⟩ rfl)).of st
theorem g_lastore (X : Stand p l e R s m args below meth c T locs cells slots) (hx : p.tables.exec = Jvm.exec) (hZ : Z.Warmed39 s.vm) (eT : T.heap = h) {x : Int64} (V : Ars Z h a .long vs) (hj : ¬ j < 0) (hi : j.toNatClampNeg = i) (hb : i < vs.length) (hv : (.long x) = v) (hd : decode c.code pc = .ok (.lastore, 1)) (hp : pc + 1 = pc') (k : ∀ T' h', Stand p l e R s m args below meth c T' (locs ++ [⟨a, i⟩]) cells slots → T'.heap = h' → Wr h h' a i v → Ars Z h' a .long (vs.set i v) → Go p e below m F T' pc' ls rest) : Go p e below m F T pc ls (.long x :: .int j :: .ref a :: rest) := by
  subst hp hi hv
  obtain ⟨cl, A, r1, r2⟩ := V
  obtain ⟨T', h', X', e', W', st⟩ := stJ X hx hZ eT A (j := j) (x := x) (fun q => q.elim hj fun q => absurd (Ars.size r1 ▸ hb) (Nat.not_lt.mpr q)) (g := mkF m pc ls (.long x :: .int j :: .ref a :: rest)) rfl rfl hd
  exact (k T' h' X' e' W' (Ars.set W' ⟨cl, A, r1, r2⟩ rfl)).of st
theorem g_newarray (X : Stand p l e R s m args below meth c T locs cells slots) (hx : p.tables.exec = Jvm.exec) (hZ : Z.Warmed39 s.vm) (eT : T.heap = h) {aty : ArrayType} (w : (Cond.arrayClass (newarray.typeOf aty)).before a0 Z = true) {n : Int32} {k0 : Nat} (hn : ¬ n < 0) (hk : n.toNatClampNeg = k0) (hb : k0 * 8 ≤ 536870912) (hc : cells + 1 ≤ R.cells) (hl : slots + k0 ≤ R.slots) {ad : String} (had : "[" ++ (newarray.typeOf aty).toString = ad) (hf : fits (newarray.typeOf aty) (defaultValue (newarray.typeOf aty)) = true) (hd : decode c.code pc = .ok (.newarray aty, 2)) (hp : pc + 2 = pc')
    (k : ∀ T' h' a, Stand p l e R s m args below meth c T' locs (cells + 1) (slots + k0) → T'.heap = h' → Ext h h' → a = h.size → Ars Z h' a (newarray.typeOf aty) (List.replicate k0 (defaultValue (newarray.typeOf aty))) → Exa Z h' a ad → Go p e below m F T' pc' ls (.ref a :: rest)) : Go p e below m F T pc ls (.int n :: rest) := by
  subst hp
  obtain ⟨T', h', cA, X', e', E', A', Ea', st⟩ := newPE X hx hZ w eT (g := mkF m pc ls (.int n :: rest)) rfl hd rfl hn (cap := k0) (by omega) hb hc hl had
  exact (k T' h' _ X' e' E' rfl (Ars.new A' hk hf) Ea').of st
end ArsSteps
end Jvm.Own
namespace Jvm.Own
open Sem ClassFile Op Lib Jvm.Stand Jvm.Free Jvm.LawKit Jvm.RoadKit
theorem Old.ext' {Z : State} {h h' : Heap} {n0 : Nat} (E : Ext h h') (X : Old Z n0 h) : Old Z n0 h' := X.ext E
end Jvm.Own
namespace Jvm.Own
open Jvm.FP.Core Sem ClassFile Op Lib Jvm.Free
/-! quotients of one ratio; sums that a small summand doesn't move; products that leave the range -/
theorem nn_of {x : UInt64} (h : val64 x ≠ .nan) : Jvm.Free.Fl.NoNaN64 x := Jvm.Free.Fl.noNaN64_no.mpr ((notNaN_iff x).mpr h)
theorem rr_nn (s : Bool) (A B : Nat) : rr s A B ≠ .nan := by
  rcases roundRatio_cases b64 s A B 0 with ⟨c, q, e⟩ | e <;> rw [show rr s A B = _ from e] <;> intro h <;> cases h
theorem ar_cg {A1 B1 A2 B2 I1 K1 I2 K2 n1 m1 n2 m2 O : Nat} (p : 0 < I1 * K1 * (I2 * K2)) (h1 : A1 * I1 = n1 * O) (h2 : B1 * K1 = m1 * O) (h3 : A2 * I2 = n2 * O) (h4 : B2 * K2 = m2 * O) (h : n1 * m2 * (K1 * I2) = n2 * m1 * (K2 * I1)) : A1 * B2 = A2 * B1 := by
  apply Nat.eq_of_mul_eq_mul_right p
  calc A1 * B2 * (I1 * K1 * (I2 * K2)) = (A1 * I1) * (B2 * K2) * (K1 * I2) := by ac_rfl
    _ = (n1 * m2 * (K1 * I2)) * (O * O) := by rw [h1, h4]; ac_rfl
    _ = (n2 * m1 * (K2 * I1)) * (O * O) := by rw [h]
    _ = (A2 * I2) * (B1 * K1) * (K2 * I1) := by rw [h3, h2]; ac_rfl
    _ = _ := by ac_rfl
theorem div_congr {n1 m1 n2 m2 : Int} {i1 k1 i2 k2 : Nat} {x1 y1 x2 y2 : UInt64} (hx1 : Dy n1 i1 x1) (hy1 : Dy m1 k1 y1) (hx2 : Dy n2 i2 x2) (hy2 : Dy m2 k2 y2) (p1 : 0 < n1) (p2 : 0 < m1) (p3 : 0 < n2) (p4 : 0 < m2)
    (h : n1 * m2 * (((2 ^ k1 : Nat) : Int) * ((2 ^ i2 : Nat) : Int)) = n2 * m1 * (((2 ^ k2 : Nat) : Int) * ((2 ^ i1 : Nat) : Int))) : val64 (FP.ddiv x1 y1) = val64 (FP.ddiv x2 y2) := by
  rw [show val64 (FP.ddiv x1 y1) = _ from (zv_div hx1 hy1 p2).2, show val64 (FP.ddiv x2 y2) = _ from (zv_div hx2 hy2 p4).2, hx1.pos_sgn p1, hx2.pos_sgn p3]
  have b1 : 0 < zmag b64 (val64 y1) := Nat.pos_of_ne_zero (zm_ne hy1 (by omega))
  have b2 : 0 < zmag b64 (val64 y2) := Nat.pos_of_ne_zero (zm_ne hy2 (by omega))
  have h' := congrArg Int.natAbs h
  simp only [Int.natAbs_mul, Int.natAbs_natCast] at h'
  have e := ar_cg (Nat.mul_pos (Nat.mul_pos (Nat.two_pow_pos i1) (Nat.two_pow_pos k1)) (Nat.mul_pos (Nat.two_pow_pos i2) (Nat.two_pow_pos k2))) hx1.mag hy1.mag hx2.mag hy2.mag h'
  exact roundRatio_congr b1 b2 (by rw [e])
theorem div_nn {n m : Int} {i k : Nat} {x y : UInt64} (hx : Dy n i x) (hy : Dy m k y) (p : 0 < m) : val64 (FP.ddiv x y) ≠ .nan := by
  rw [show val64 (FP.ddiv x y) = _ from (zv_div hx hy p).2]; exact rr_nn _ _ _
theorem eq_val {x y : UInt64} (h : val64 x = val64 y) (hn : val64 x ≠ .nan) (o : CmpOp) : cmpValue (FP.dcmp x y) o = 0 := by
  rw [show FP.dcmp x y = _ from dcmp_zval hn (h ▸ hn), cmpI_some, h]
  unfold cmpI; rw [if_neg (by omega), if_pos rfl]
theorem eq_zv {x y : UInt64} (hx : DFin x) (hy : DFin y) (h : zv x = zv y) (o : CmpOp) : cmpValue (FP.dcmp x y) o = 0 := by
  rw [Zc hx hy o, h]
  unfold cmpI; rw [if_neg (by omega), if_pos rfl]
abbrev topN : Nat := b64.tails * 2 ^ (b64.exps - 2)
theorem lt_inf {x I : UInt64} (hI : val64 I = .inf false) (hx : DFin x) (o : CmpOp) : cmpValue (FP.dcmp x I) o = -1 := by
  have hi : val64 I ≠ .nan := by rw [hI]; intro k; cases k
  rw [show FP.dcmp x I = _ from dcmp_zval hx.ne_nan hi, cmpI_some]
  have e : zval b64 (val64 I) = (topN : Int) := by rw [hI]; rfl
  have l : zmag b64 (val64 x) < topN := rep_top (rep_val hx)
  have g : zval b64 (val64 x) ≤ (zmag b64 (val64 x) : Int) := sg_le _ _
  unfold cmpI; rw [e, if_pos (by omega)]
theorem is_inf {x I : UInt64} (hI : val64 I = .inf false) (hx : val64 x = .inf false) (o : CmpOp) : cmpValue (FP.dcmp x I) o = 0 := eq_val (hx.trans hI.symm) (by rw [hx]; intro k; cases k) o
theorem inf_top : zmag b64 (Datum.inf false) = topN := rfl
theorem rr_top {s : Bool} {A B : Nat} (hB : 0 < B) (h : topN * B ≤ A * one64) : rr s A B = .inf s := by
  rcases roundRatio_cases b64 s A B 0 with ⟨c, q, e⟩ | e
  · have hf := roundRatio_fits good_b64 s A hB 0
    have g := zmag_roundRatio_ge good_b64 (s := s) (e := 0) (e0 := b64.qmin) (V := .inf false) hB trivial (Int.le_refl _) (by rw [qmin_b64]; omega) (by
      rw [in_u, Int.sub_self, inf_top, Int.toNat_zero, Nat.pow_zero, Nat.mul_one]; exact h)
    rw [e] at hf g
    have := zmag_lt_top good_b64 hf
    exact absurd this (Nat.not_lt.mpr g)
  · exact e
theorem absorb {x y : UInt64} {m k d M : Nat} (hx : DFin x) (hy : DFin y) (ex : zv x = ((m * 2 ^ k : Nat) : Int)) (ey : zv y = (d : Int)) (hm : 2 ^ 52 ≤ m) (hd : 2 * d < 2 ^ k) (hM : Rep M) (hle : m * 2 ^ k + d ≤ M) : DFin (FP.dadd x y) ∧ zv (FP.dadd x y) = zv x := by
  obtain ⟨sg, e1, e2⟩ := dadd_rr hx hy
  have es : zval b64 (val64 x) + zval b64 (val64 y) = ((m * 2 ^ k + d : Nat) : Int) := by
    rw [show zval b64 (val64 x) = _ from ex, show zval b64 (val64 y) = _ from ey, Int.natCast_add]
  rw [es, Int.natAbs_natCast] at e1 e2
  have hN : Rep (m * 2 ^ k) := by
    have r := rep_val hx
    have q : zmag b64 (val64 x) = m * 2 ^ k := by
      have := congrArg Int.natAbs ex
      rw [show zv x = signed (sgn (val64 x)) (zmag b64 (val64 x)) from rfl, natAbs_signed, Int.natAbs_natCast] at this
      exact this
    rw [← q]; exact r
  have g1 := rr_ge (s := sg) one64_pos hN (A := m * 2 ^ k + d) (Nat.mul_le_mul_right _ (Nat.le_add_right _ _))
  have g2 := rr_le (s := sg) one64_pos hM (A := m * 2 ^ k + d) (Nat.mul_le_mul_right _ hle)
  obtain ⟨c, q, er⟩ := rr_fin hM g2
  have hfit := roundRatio_fits good_b64 sg (m * 2 ^ k + d) one64_pos 0
  rw [show roundRatio b64 sg (m * 2 ^ k + d) one64 0 = _ from er] at hfit
  obtain ⟨c', q', ex'⟩ : ∃ c' q', val64 x = .fin (sgn (val64 x)) c' q' := by
    obtain ⟨s, c', q', h⟩ := hx; exact ⟨c', q', by rw [h]; rfl⟩
  have fx := val64_fits x
  rw [ex'] at fx
  have hxm : inUnits c' q' b64.qmin = m * 2 ^ k := by
    have := congrArg Int.natAbs ex
    rw [show zv x = signed (sgn (val64 x)) (zmag b64 (val64 x)) from rfl, natAbs_signed, Int.natAbs_natCast, ex'] at this
    exact this
  have near := roundRatio_nearest good_b64 (s := sg) (A := m * 2 ^ k + d) (B := one64) (e := 0) (e0 := b64.qmin) one64_pos er (c' := c') (q' := q') fx.1 fx.2.1 (Int.le_refl _) (by rw [qmin_b64]; omega)
  unfold distance at near
  rw [in_u, hxm] at near
  have hz : zmag b64 (rr sg (m * 2 ^ k + d) one64) = inUnits c q b64.qmin := by rw [er]; rfl
  rw [hz] at g1
  obtain ⟨r, hr⟩ : ∃ r, r = inUnits c q b64.qmin := ⟨_, rfl⟩
  rw [← hr] at g1 near
  have up : r ≤ m * 2 ^ k + 2 * d := by
    have ho := one64_pos
    obtain ⟨O, hO⟩ : ∃ O : Nat, O = one64 := ⟨_, rfl⟩
    rw [← hO] at near ho
    obtain ⟨W, hW⟩ : ∃ W : Nat, W = m * 2 ^ k := ⟨_, rfl⟩
    rw [← hW] at near ⊢
    have e3 : ((((W + d) * O : Nat) : Int) - (W : Int) * (O : Int)) = ((d * O : Nat) : Int) := by
      simp only [Int.natCast_mul, Int.natCast_add, Int.add_mul]; omega
    rw [e3, Int.natAbs_natCast] at near
    have e4 : ((((W + d) * O : Nat) : Int) - (r : Int) * (O : Int)) = (((W : Int) + d - r) * (O : Int)) := by
      simp only [Int.natCast_mul, Int.natCast_add, Int.add_mul, Int.sub_mul]
    rw [e4, Int.natAbs_mul, Int.natAbs_natCast] at near
    have := Nat.le_of_mul_le_mul_right near ho
    omega
  have hq : c < 2 ^ 53 := hfit.1
  have h2 := hfit.2.1
  rw [qmin_b64] at h2
  have hu : r = c * 2 ^ (q + 1074).toNat := by
    rw [hr, qmin_b64]
    show c * 2 ^ (q - -1074).toNat = _
    rw [show q - -1074 = q + 1074 by omega]
  obtain ⟨t, ht⟩ : ∃ t, t = (q + 1074).toNat := ⟨_, rfl⟩
  rw [← ht] at hu
  have hk : k ≤ t := by
    apply Nat.le_of_not_lt
    intro hlt
    have a1 : c * 2 ^ t < 2 ^ 53 * 2 ^ t := Nat.mul_lt_mul_of_pos_right hq (Nat.two_pow_pos t)
    have a2 : 2 ^ 53 * 2 ^ t ≤ 2 ^ 52 * 2 ^ k := by
      rw [← Nat.pow_add, ← Nat.pow_add]; exact Nat.pow_le_pow_right (by decide) (by omega)
    have a3 : 2 ^ 52 * 2 ^ k ≤ m * 2 ^ k := Nat.mul_le_mul_right _ hm
    omega
  have hs : r = c * 2 ^ (t - k) * 2 ^ k := by
    rw [hu, Nat.mul_assoc, ← Nat.pow_add]; congr 2; omega
  have fin : c * 2 ^ (t - k) = m := by
    have l1 : m * 2 ^ k ≤ c * 2 ^ (t - k) * 2 ^ k := by rw [← hs]; exact g1
    have l2 := Nat.le_of_mul_le_mul_right l1 (Nat.two_pow_pos k)
    have l3 : c * 2 ^ (t - k) * 2 ^ k < (m + 1) * 2 ^ k := by rw [← hs, Nat.add_mul, Nat.one_mul]; omega
    have l4 := Nat.lt_of_mul_lt_mul_right l3
    omega
  have hre : r = m * 2 ^ k := by rw [hs, fin]
  refine ⟨⟨sg, c, q, by rw [show val64 (FP.dadd x y) = _ from e1, er]⟩, ?_⟩
  rw [ex]
  show signed (sgn (val64 (FP.dadd x y))) (zmag b64 (val64 (FP.dadd x y))) = _
  rw [show val64 (FP.dadd x y) = _ from e1, rr_sgn, hz, ← hr, hre]
  have hpos : 0 < m * 2 ^ k := Nat.mul_pos (by omega) (Nat.two_pow_pos k)
  cases sg
  · rfl
  · exfalso
    have e5 : signed true (m * 2 ^ k + d) = -((m * 2 ^ k + d : Nat) : Int) := rfl
    rw [e5] at e2; omega
end Jvm.Own
namespace Jvm.Own
open Jvm.FP.Core Sem ClassFile Op Lib Jvm.Free
abbrev KK : Int := ((2 ^ 1023 : Nat) : Int)
abbrev ONE : UInt64 := 4607182418800017408
theorem KK_pos : 0 < KK := p2_pos 1023
theorem topN_eq : topN = 2 ^ 2098 := by decide +kernel
theorem mul_nn {x y : UInt64} (hx : DFin x) (hy : DFin y) : Jvm.Free.Fl.NoNaN64 (FP.dmul x y) := nn_of (by rw [show val64 (FP.dmul x y) = _ from dmul_rr hx hy]; exact rr_nn _ _ _)
theorem Dy.nneg_sgn {n : Int} {j : Nat} {x : UInt64} (h : Dy n j x) {z : Nat} (s : Bool) (hz : z * 2 ^ j = n.natAbs * one64) (hn : 0 ≤ n) (hs : 0 < n → s = false) : signed s z * ((2 ^ j : Nat) : Int) = n * (one64 : Int) := by
  rcases (by omega : n = 0 ∨ 0 < n) with rfl | hp
  · have : z = 0 := by
      have q : z * 2 ^ j = 0 := by rw [hz]; simp
      rcases Nat.mul_eq_zero.mp q with e | e
      · exact e
      · have := Nat.two_pow_pos j; omega
    rw [this, signed_zero]; simp
  · rw [hs hp]
    show (z : Int) * _ = _
    rw [← Int.natCast_mul, hz, Int.natCast_mul, Int.natAbs_of_nonneg hn]
theorem ar_k {A z O J C N : Nat} (hJ : 0 < J) (hA : A * J = C * N * (O * O)) (hz : z * J = C * N * O) : A * O = z * (O * O) := by
  apply Nat.eq_of_mul_eq_mul_right hJ
  calc A * O * J = A * J * O := by ac_rfl
    _ = (C * N * O) * (O * O) := by rw [hA]; ac_rfl
    _ = z * (O * O) * J := by rw [← hz]; ac_rfl
theorem ar_t {A O J C N T : Nat} (hJ : 0 < J) (hA : A * J = C * N * (O * O)) (hN : J * 2 ≤ N) (hT : T = C * 2 * O) : T * (O * O) ≤ A * O := by
  subst hT
  apply Nat.le_of_mul_le_mul_right (c := J) _ hJ
  calc C * 2 * O * (O * O) * J = (J * 2) * (C * (O * (O * O))) := by ac_rfl
    _ ≤ N * (C * (O * (O * O))) := Nat.mul_le_mul_right _ hN
    _ = (C * N * (O * O)) * O := by ac_rfl
    _ = A * O * J := by rw [← hA]; ac_rfl
theorem ar_kp {C O z N J : Nat} (h : z * J = N * O) : C * O * z * J = C * N * (O * O) := by
  rw [Nat.mul_assoc (C * O), h]; ac_rfl
theorem ar_z1 {n a b J C O z : Nat} (hz : z = n * a * b) (e : a * b * J = C * O) : z * J = C * n * O := by
  calc z * J = n * (a * b * J) := by rw [hz]; ac_rfl
    _ = C * n * O := by rw [e]; ac_rfl
theorem ar_z2 {n a b J C O : Nat} (e : a * b * J = C * O) : n * a * b * J = n * C * O := by
  calc n * a * b * J = n * (a * b * J) := by ac_rfl
    _ = n * C * O := by rw [e]; ac_rfl
theorem ar_z3 {n a b J O : Nat} (e : a * b * J = O) : n * a * b * J = n * O := by
  rw [← e]; ac_rfl
theorem ar_sg {z n C O J : Int} (h : z * J = C * n * O) : z * J = n * C * O := by rw [h, Int.mul_comm C n]
theorem kmag {x : UInt64} (dK : Dy KK 0 x) : zmag b64 (val64 x) = 2 ^ 1023 * one64 := by
  have h := dK.mag
  obtain ⟨C, hC⟩ : ∃ C : Nat, C = 2 ^ 1023 := ⟨_, rfl⟩
  rw [show KK = (C : Int) by rw [hC]] at h
  rw [Nat.pow_zero, Nat.mul_one, Int.natAbs_natCast] at h
  rw [← hC]; exact h
theorem kprod {x0 x4 : UInt64} {ns : Int} {J : Nat} (dK : Dy KK 0 x0) (dS : Dy ns J x4) : zmag b64 (val64 x0) * zmag b64 (val64 x4) * 2 ^ J = 2 ^ 1023 * ns.natAbs * (one64 * one64) := by
  rw [kmag dK]; exact ar_kp dS.mag
/-- 2^1023 times ns / 2^J, in range -/
theorem mulK_fin {x0 x4 : UInt64} {ns : Int} {J : Nat} (dK : Dy KK 0 x0) (dS : Dy ns J x4) (h0 : 0 ≤ ns) (hJ : J ≤ 52) (hB : ns < ((2 ^ (J + 1) : Nat) : Int)) : Dy (ns * KK) J (FP.dmul x0 x4) := by
  have e1 := dmul_rr dK.1 dS.1
  obtain ⟨z, hz⟩ : ∃ z, z = ns.natAbs * 2 ^ (52 - J) * 2 ^ 2045 := ⟨_, rfl⟩
  have hz1 : z * 2 ^ J = 2 ^ 1023 * ns.natAbs * one64 := by
    have e2 : 2 ^ (52 - J) * 2 ^ 2045 * 2 ^ J = 2 ^ 1023 * one64 := by
      rw [one_pow, ← Nat.pow_add, ← Nat.pow_add, ← Nat.pow_add]; congr 1; omega
    exact ar_z1 hz e2
  have hR : Rep z := by
    rw [hz]
    refine rep_pow ?_ (by decide)
    have a1 : ns.natAbs < 2 ^ (J + 1) := by omega
    have a2 : 2 ^ (J + 1) * 2 ^ (52 - J) = 2 ^ 53 := by rw [← Nat.pow_add]; congr 1; omega
    rw [← a2]
    exact Nat.mul_lt_mul_of_pos_right a1 (Nat.two_pow_pos _)
  have hz2 := ar_k (Nat.two_pow_pos J) (kprod dK dS) hz1
  obtain ⟨d1, d2⟩ := of_rr (x := FP.dmul x0 x4) e1 (Nat.two_pow_pos _) hR (by rw [hz2, one_sq])
  refine ⟨d1, ?_⟩
  rw [d2]
  have hK := KK_pos
  rcases (by omega : ns = 0 ∨ 0 < ns) with rfl | hp
  · have q : z = 0 := by rw [hz, show (0 : Int).natAbs = 0 from rfl, Nat.zero_mul, Nat.zero_mul]
    rw [q, signed_zero, Int.zero_mul, Int.zero_mul, Int.zero_mul]
  · rw [dK.pos_sgn hK, dS.pos_sgn hp]
    show (z : Int) * ((2 ^ J : Nat) : Int) = _
    rw [← Int.natCast_mul, hz1, Int.natCast_mul, Int.natCast_mul, Int.natAbs_of_nonneg h0, Int.mul_comm KK ns]
theorem mulK_inf {x0 x4 : UInt64} {ns : Int} {J : Nat} (dK : Dy KK 0 x0) (dS : Dy ns J x4) (hB : ((2 ^ (J + 1) : Nat) : Int) ≤ ns) : val64 (FP.dmul x0 x4) = .inf false := by
  have hp : 0 < ns := by have := p2_pos (J + 1); omega
  rw [show val64 (FP.dmul x0 x4) = _ from dmul_rr dK.1 dS.1, dK.pos_sgn KK_pos, dS.pos_sgn hp]
  refine rr_top (Nat.two_pow_pos _) ?_
  rw [← one_sq]
  refine ar_t (Nat.two_pow_pos J) (kprod dK dS) ?_ ?_
  · rw [← Nat.pow_succ]; omega
  · rw [topN_eq, one_pow, ← Nat.pow_succ, ← Nat.pow_add]
theorem zv_pow {x : UInt64} {n : Int} {J E : Nat} (h : Dy n J x) (h0 : 0 ≤ n) (z : Nat) (hz : z * 2 ^ J = n.natAbs * one64) : zv x = (z : Int) := by
  apply Int.eq_of_mul_eq_mul_right (p2_ne J)
  rw [show zv x * _ = _ from h.2, ← Int.natCast_mul, hz, Int.natCast_mul, Int.natAbs_of_nonneg h0]
theorem Dy.of_zv {n : Int} {J : Nat} {x y : UInt64} (h : Dy n J x) (hy : DFin y) (e : zv y = zv x) : Dy n J y := ⟨hy, by rw [show zval b64 (val64 y) = _ from e]; exact h.2⟩
theorem norm1 {a y : UInt64} {ns : Int} {J : Nat} (ha : Dy (ns * KK) J a) (hy : Dy 1 0 y) (h0 : 0 < ns) (hB : ns < ((2 ^ (J + 1) : Nat) : Int)) (hJ : J ≤ 19) : Dy (ns * KK) J (FP.dadd a y) := by
  have hK := KK_pos
  have e2 : 2 ^ 52 * 2 ^ (2045 - J) * 2 ^ J = 2 ^ 1023 * one64 := by
    rw [one_pow, ← Nat.pow_add, ← Nat.pow_add, ← Nat.pow_add]; congr 1; omega
  have ez : zv a = ((ns.natAbs * 2 ^ 52 * 2 ^ (2045 - J) : Nat) : Int) := zv_pow (E := 0) ha (Int.mul_nonneg (by omega) (by omega)) _ (by
    rw [Int.natAbs_mul, Int.natAbs_natCast]
    exact ar_z2 e2)
  have ey : zv y = ((2 ^ 1074 : Nat) : Int) := zv_pow (E := 0) hy (by omega) _ (by rw [Nat.pow_zero, Nat.mul_one, one_pow, show (1 : Int).natAbs = 1 from rfl, Nat.one_mul])
  have n1 : 1 ≤ ns.natAbs := by omega
  have n2 : ns.natAbs + 1 ≤ 2 ^ (J + 1) := by omega
  have r := absorb (M := (2 ^ 53 - 1) * 2 ^ 2045) ha.1 hy.1 ez ey (Nat.le_mul_of_pos_left _ n1) (by
      rw [← Nat.pow_succ']; exact Nat.pow_lt_pow_right (by decide) (by omega)) (rep_pow (by decide) (by decide)) (by
      have k1 : ns.natAbs * 2 ^ 52 * 2 ^ (2045 - J) + 2 ^ (2097 - J) ≤ 2 ^ 2098 := by
        have e3 : 2 ^ 52 * 2 ^ (2045 - J) = 2 ^ (2097 - J) := by rw [← Nat.pow_add]; congr 1; omega
        rw [Nat.mul_assoc, e3]
        have e4 : 2 ^ (J + 1) * 2 ^ (2097 - J) = 2 ^ 2098 := by rw [← Nat.pow_add]; congr 1; omega
        rw [← e4]
        calc ns.natAbs * 2 ^ (2097 - J) + 2 ^ (2097 - J) = (ns.natAbs + 1) * 2 ^ (2097 - J) := by rw [Nat.add_mul, Nat.one_mul]
          _ ≤ _ := Nat.mul_le_mul_right _ n2
      have k2 : (2 ^ 53 - 1) * 2 ^ 2045 + 2 ^ 2045 = 2 ^ 2098 := by
        have e5 : (2 ^ 53 - 1) * 2 ^ 2045 + 2 ^ 2045 = (2 ^ 53 - 1 + 1) * 2 ^ 2045 := by rw [Nat.add_mul, Nat.one_mul]
        rw [e5, show 2 ^ 53 - 1 + 1 = 2 ^ 53 from rfl, ← Nat.pow_add]
      have k3 : 2 ^ 1074 + 2 ^ 2045 ≤ 2 ^ (2097 - J) := by
        have e6 : 2 ^ 1074 ≤ 2 ^ 2045 := Nat.pow_le_pow_right (by decide) (by decide)
        have e7 : 2 ^ 2046 ≤ 2 ^ (2097 - J) := Nat.pow_le_pow_right (by decide) (by omega)
        rw [Nat.pow_succ] at e7
        generalize (2 : Nat) ^ 1074 = u at *
        generalize (2 : Nat) ^ 2045 = v at *
        omega
      generalize ns.natAbs * 2 ^ 52 * 2 ^ (2045 - J) = W at *
      generalize (2 : Nat) ^ (2097 - J) = U at *
      generalize (2 ^ 53 - 1) * 2 ^ 2045 = M at *
      generalize (2 : Nat) ^ 2045 = V at *
      generalize (2 : Nat) ^ 1074 = u at *
      generalize (2 : Nat) ^ 2098 = t at *
      omega)
  exact ha.of_zv r.1 r.2
theorem scale1 {a y : UInt64} {ns f : Int} {J : Nat} (ha : Dy ns J a) (hy : Dy f 1023 y) (h0 : 0 < ns) (hn : ns < 2097152) (hf : 1 ≤ f ∧ f ≤ 65536) (hJ : J ≤ 19) : Dy ns J (FP.dadd a y) := by
  have e2 : 2 ^ 52 * 2 ^ (1022 - J) * 2 ^ J = one64 := by
    rw [one_pow, ← Nat.pow_add, ← Nat.pow_add]; congr 1; omega
  have ez : zv a = ((ns.natAbs * 2 ^ 52 * 2 ^ (1022 - J) : Nat) : Int) := zv_pow (E := 0) ha (by omega) _ (by
    exact ar_z3 e2)
  have ey : zv y = ((f.natAbs * 2 ^ 51 : Nat) : Int) := zv_pow (E := 0) hy (by omega) _ (by
    rw [Nat.mul_assoc, one_pow, ← Nat.pow_add])
  have n1 : 1 ≤ ns.natAbs := by omega
  have n2 : ns.natAbs ≤ 2 ^ 21 := by omega
  have f2 : f.natAbs ≤ 2 ^ 16 := by omega
  have q1 : f.natAbs * 2 ^ 51 ≤ 2 ^ 67 := by
    calc f.natAbs * 2 ^ 51 ≤ 2 ^ 16 * 2 ^ 51 := Nat.mul_le_mul_right _ f2
      _ = 2 ^ 67 := by decide
  have r := absorb (M := 2 ^ 22 * 2 ^ 1074) ha.1 hy.1 ez ey (Nat.le_mul_of_pos_left _ n1) (by
      have e7 : 2 ^ 69 ≤ 2 ^ (1022 - J) := Nat.pow_le_pow_right (by decide) (by omega)
      have e8 : 2 * 2 ^ 67 < 2 ^ 69 := by decide
      generalize (2 : Nat) ^ (1022 - J) = u at *
      omega) (rep_pow (by decide) (by decide)) (by
      have e3 : 2 ^ 52 * 2 ^ (1022 - J) ≤ 2 ^ 1074 := by rw [← Nat.pow_add]; exact Nat.pow_le_pow_right (by decide) (by omega)
      have k1 : ns.natAbs * 2 ^ 52 * 2 ^ (1022 - J) ≤ 2 ^ 21 * 2 ^ 1074 := by
        rw [Nat.mul_assoc]; exact Nat.mul_le_mul n2 e3
      have k2 : 2 ^ 67 ≤ 2 ^ 1074 := Nat.pow_le_pow_right (by decide) (by decide)
      generalize ns.natAbs * 2 ^ 52 * 2 ^ (1022 - J) = W at *
      generalize (2 : Nat) ^ 1074 = u at *
      omega)
  exact ha.of_zv r.1 r.2
theorem zK {n m : Int} {i k : Nat} {x y K : UInt64} (dK : Dy KK 0 K) (hx : Dy n i x) (hy : Dy m k y) (hn : 0 < n) (hm : 0 < m) (h : n * ((2 ^ k : Nat) : Int) = KK * m * ((2 ^ i : Nat) : Int)) : DFin (FP.ddiv x y) ∧ zv (FP.ddiv x y) = zv K := by
  have e0 : ((2 ^ 0 : Nat) : Int) = 1 := rfl
  have hK := KK_pos
  refine ⟨div_fin hx hy hm dK ?_, Int.le_antisymm (div_le hx hy hm dK (by rw [e0, Int.mul_one, h]; exact Int.le_refl _)) (div_ge hx hy hm dK (by rw [e0, Int.mul_one, h]; exact Int.le_refl _))⟩
  exact nat_le_of (by omega) hm (by omega) (by rw [e0, Int.mul_one, h]; exact Int.le_refl _)
theorem caseA {x0 x2 x4 a n b w : UInt64} {f ns : Int} {J : Nat} (ha : FP.dmul x0 x2 = a) (hn : FP.dmul x0 x4 = n) (hb : FP.dadd n x2 = b) (hw : FP.ddiv a b = w) (dK : Dy KK 0 x0) (dF : Dy f 0 x2) (dS : Dy ns J x4) (hf : f = 1) (bn : 0 ≤ ns) (hB : ns < ((2 ^ (J + 1) : Nat) : Int)) (hJ : J ≤ 19) :
    Jvm.Free.Fl.NoNaN64 b ∧ Jvm.Free.Fl.NoNaN64 w ∧ (0 < ns → val64 w = val64 (FP.ddiv x2 x4)) ∧ (ns = 0 → DFin w ∧ zv w = zv x0) := by
  subst hf
  have hK := KK_pos
  have da : Dy (1 * KK) 0 a := ha ▸ mulK_fin dK dF (by decide) (by decide) (by decide)
  have dn : Dy (ns * KK) J n := hn ▸ mulK_fin dK dS bn (by omega) hB
  rcases (by omega : ns = 0 ∨ 0 < ns) with hz | hp
  · have db : Dy (0 * KK + 1 * ((2 ^ J : Nat) : Int)) J b := hb ▸ Dy.add (hz ▸ dn) (Dy.to dF J (Nat.zero_add J) rfl) (by
      rw [Int.zero_mul, Int.zero_add, Int.one_mul, Int.natAbs_natCast]; exact Nat.pow_le_pow_right (by decide) (by omega)) (by omega)
    rw [Int.zero_mul, Int.zero_add, Int.one_mul] at db
    have r := zK dK da db (by omega) (p2_pos J) (by rw [Int.one_mul, show ((2 ^ 0 : Nat) : Int) = 1 from rfl, Int.mul_one])
    rw [hw] at r
    exact ⟨db.noNaN, DFin.nn64 r.1, fun q => absurd q (by omega), fun _ => r⟩
  · have db : Dy (ns * KK) J b := hb ▸ norm1 dn dF hp hB hJ
    have hm : 0 < ns * KK := Int.mul_pos hp hK
    have e := div_congr da db dF dS (by omega) hm (by decide) hp (by
      rw [Int.one_mul, Int.one_mul, Int.mul_comm KK ns])
    have nn := div_nn da db hm
    rw [hw] at e nn
    exact ⟨db.noNaN, nn_of nn, fun _ => e, fun q => absurd q (by omega)⟩
theorem one_dy : Dy 1 0 ONE := Dy.lit (by decide) (by decide +kernel)
theorem caseB {x0 x2 x4 o t g b w : UInt64} {f ns : Int} {J : Nat} (ho : Dy 1 0 o) (ht : FP.dmul o x4 = t) (hg : FP.ddiv x2 x0 = g) (hb : FP.dadd t g = b) (hw : FP.ddiv x2 b = w) (dK : Dy KK 0 x0) (dF : Dy f 0 x2) (dS : Dy ns J x4) (bf : 1 ≤ f ∧ f ≤ 65536) (bn : 0 ≤ ns ∧ ns < 2097152) (hJ : J ≤ 19) :
    Jvm.Free.Fl.NoNaN64 t ∧ Jvm.Free.Fl.NoNaN64 g ∧ Jvm.Free.Fl.NoNaN64 b ∧ Jvm.Free.Fl.NoNaN64 w ∧ (0 < ns → val64 w = val64 (FP.ddiv x2 x4)) ∧ (ns = 0 → DFin w ∧ zv w = zv x0) := by
  have hK := KK_pos
  have dt : Dy (1 * ns) (0 + J) t := ht ▸ Dy.mul ho dS (by rw [Int.one_mul]; omega) (by omega)
  rw [Int.one_mul, Nat.zero_add] at dt
  have dg : Dy f 1023 g := hg ▸ Dy.div dF dK (by omega) (by rw [show ((2 ^ 0 : Nat) : Int) = 1 from rfl, Int.mul_one, Int.mul_one]) (by omega) (by decide)
  rcases (by omega : ns = 0 ∨ 0 < ns) with hz | hp
  · subst hz
    have db : Dy (0 * ((2 ^ (1023 - J) : Nat) : Int) + f) 1023 b := hb ▸ Dy.add (Dy.to dt (1023 - J) (by omega) rfl) dg (by rw [Int.zero_mul]; omega) (by decide)
    rw [Int.zero_mul, Int.zero_add] at db
    have r := zK dK dF db (by omega) (by omega) (by rw [show ((2 ^ 0 : Nat) : Int) = 1 from rfl, Int.mul_one, Int.mul_comm])
    rw [hw] at r
    exact ⟨dt.noNaN, dg.noNaN, db.noNaN, DFin.nn64 r.1, fun q => absurd q (by omega), fun _ => r⟩
  · have db : Dy ns J b := hb ▸ scale1 dt dg hp bn.2 bf hJ
    have e := div_congr dF db dF dS (by omega) hp (by omega) hp rfl
    have nn := div_nn dF db hp
    rw [hw] at e nn
    exact ⟨dt.noNaN, dg.noNaN, db.noNaN, nn_of nn, fun _ => e, fun q => absurd q (by omega)⟩
end Jvm.Own
namespace Jvm.Own
open Jvm.FP.Core Sem ClassFile Op Lib Jvm.Free
theorem z0_dy : Dy 0 0 (0 : UInt64) := Dy.lit (by decide) (by decide +kernel)
theorem own_pz {n : Int} {j : Nat} {x : UInt64} (h : Dy n j x) : cmpValue (FP.dcmp x 0) .l = cmpI n 0 := Dy.cl h (Dy.to z0_dy j (Nat.zero_add j) (Int.zero_mul _)) .l
theorem own_p1 {n : Int} {x : UInt64} (h : Dy n 4 x) : cmpValue (FP.dcmp x 4607182418800017408) .g = cmpI n 16 := Dy.cl h (Dy.to one_dy 4 rfl (by decide)) .g
theorem own_inf : val64 (9218868437227405312 : UInt64) = .inf false := by decide +kernel
theorem own_K : Dy KK 0 (9214364837600034816 : UInt64) := Dy.lit (by decide) (by decide +kernel)
theorem own_K1 : FP.dadd (9214364837600034816 : UInt64) 4607182418800017408 = 9214364837600034816 := by decide +kernel
theorem own_K2 : FP.ddiv (9214364837600034816 : UInt64) 9214364837600034816 = 4607182418800017408 := by decide +kernel
theorem mb {n m A B : Int} (h1 : 0 ≤ n ∧ n ≤ A) (h2 : 0 ≤ m ∧ m ≤ B) : 0 ≤ n * m ∧ n * m ≤ A * B := ⟨Int.mul_nonneg h1.1 h2.1, Int.mul_le_mul h1.2 h2.2 h2.1 (by omega)⟩
theorem own_scale {o q2 x3 x5 s1 m1 r1 x4 : UInt64} {j c d P ns : Int} {E : Nat} (ho : Dy 1 0 o) (hs : FP.dsub o q2 = s1) (hm : FP.dmul q2 x3 = m1) (hr : FP.ddiv m1 x5 = r1) (hx : FP.dadd s1 r1 = x4) (dB : Dy j 4 q2) (d3 : Dy (c * d) 0 x3) (d5 : Dy (c * P) 0 x5) (hP : P = ((2 ^ E : Nat) : Int))
    (bj : 0 ≤ j ∧ j ≤ 16) (bc : 1 ≤ c ∧ c ≤ 8) (bd : 0 ≤ d ∧ d ≤ 65535) (bP : 1 ≤ P ∧ P ≤ 32768) (bE : E ≤ 15) (hns : ns = (16 - j) * P + j * d) : Jvm.Free.Fl.NoNaN64 s1 ∧ Jvm.Free.Fl.NoNaN64 m1 ∧ Jvm.Free.Fl.NoNaN64 r1 ∧ Dy ns (4 + E) x4 := by
  have b1 := mb (n := c) (m := d) (A := 8) (B := 65535) (by omega) bd
  have b2 := mb (n := j) (m := c * d) (A := 16) (B := 524280) bj (by omega)
  have b3 := mb (n := j) (m := d) (A := 16) (B := 65535) bj bd
  have b4 := mb (n := 16 - j) (m := P) (A := 16) (B := 32768) (by omega) (by omega)
  have b5 : 0 < c * P := Int.mul_pos (by omega) (by omega)
  have ds : Dy (1 * ((2 ^ 4 : Nat) : Int) - j) 4 s1 := hs ▸ Dy.sub (Dy.to ho 4 rfl rfl) dB (by have : ((2 ^ 4 : Nat) : Int) = 16 := rfl; omega) (by decide)
  have dm : Dy (j * (c * d)) (4 + 0) m1 := hm ▸ Dy.mul dB d3 (by omega) (by decide)
  have dr : Dy (j * d) (4 + E) r1 := hr ▸ Dy.div dm d5 (by omega) (by
    rw [Nat.pow_add, Int.natCast_mul, ← hP, show ((2 ^ 0 : Nat) : Int) = 1 from rfl, Int.mul_one, Nat.add_zero]
    generalize ((2 ^ 4 : Nat) : Int) = Q
    calc j * (c * d) * (Q * P) = j * d * (c * P) * Q := by ac_rfl) (by omega) (by omega)
  have dx : Dy ((1 * ((2 ^ 4 : Nat) : Int) - j) * ((2 ^ E : Nat) : Int) + j * d) (4 + E) x4 := hx ▸ Dy.add (ds.up E) dr (by
    rw [← hP, show 1 * ((2 ^ 4 : Nat) : Int) - j = 16 - j from rfl]; omega) (by omega)
  rw [← hP, show 1 * ((2 ^ 4 : Nat) : Int) - j = 16 - j from rfl, ← hns] at dx
  exact ⟨ds.noNaN, dm.noNaN, dr.noNaN, dx⟩
theorem own_satn {o x0 x2 x4 t a n b w : UInt64} {i f ns : Int} {J : Nat} (ho : Dy 1 0 o) (ht : FP.dadd x0 o = t) (ha : FP.dmul t x2 = a) (hn : FP.dmul x0 x4 = n) (hb : FP.dadd n x2 = b) (hw : FP.ddiv a b = w) (dk : Dy i 2 x0) (dF : Dy f 0 x2) (dS : Dy ns J x4) (bi : 0 ≤ i ∧ i ≤ 4095) (bf : 1 ≤ f ∧ f ≤ 65536) (bn : 0 ≤ ns ∧ ns < 2097152) (hJ : J ≤ 19) :
    Jvm.Free.Fl.NoNaN64 t ∧ DFin a ∧ DFin n ∧ Jvm.Free.Fl.NoNaN64 b ∧ Jvm.Free.Fl.NoNaN64 w ∧ Dy ((i + 4) * f) 2 a ∧ Dy (i * ns + f * ((2 ^ (2 + J) : Nat) : Int)) (2 + J) b := by
  have b1 := mb (n := i + 4) (m := f) (A := 4099) (B := 65536) (by omega) (by omega)
  have b2 := mb (n := i) (m := ns) (A := 4095) (B := 2097151) bi (by omega)
  have p1 : 0 < (i + 4) * f := Int.mul_pos (by omega) (by omega)
  have e1 : ((2 ^ (2 + J) : Nat) : Int) ≤ 2097152 := by
    have : 2 ^ (2 + J) ≤ 2 ^ 21 := Nat.pow_le_pow_right (by decide) (by omega)
    omega
  have e2 := p2_pos (2 + J)
  have b3 := mb (n := f) (m := ((2 ^ (2 + J) : Nat) : Int)) (A := 65536) (B := 2097152) (by omega) (by omega)
  have b4 : 0 < f * ((2 ^ (2 + J) : Nat) : Int) := Int.mul_pos (by omega) e2
  have dt : Dy (i + 1 * ((2 ^ 2 : Nat) : Int)) 2 t := ht ▸ Dy.add dk (Dy.to ho 2 rfl rfl) (by have : ((2 ^ 2 : Nat) : Int) = 4 := rfl; omega) (by decide)
  rw [show i + 1 * ((2 ^ 2 : Nat) : Int) = i + 4 from rfl] at dt
  have da : Dy ((i + 4) * f) (2 + 0) a := ha ▸ Dy.mul dt dF (by omega) (by decide)
  have dn : Dy (i * ns) (2 + J) n := hn ▸ Dy.mul dk dS (by omega) (by omega)
  have db : Dy (i * ns + f * ((2 ^ (2 + J) : Nat) : Int)) (2 + J) b := hb ▸ Dy.add dn (Dy.to dF (2 + J) (Nat.zero_add _) rfl) (by omega) (by omega)
  have nn := div_nn da db (by omega)
  rw [hw] at nn
  exact ⟨dt.noNaN, da.1, dn.1, db.noNaN, nn_of nn, da, db⟩
theorem own_finN {a b pp qq : UInt64} {i f ns den : Int} {J : Nat} (da : Dy ((i + 4) * f) 2 a) (db : Dy (i * ns + f * ((2 ^ (2 + J) : Nat) : Int)) (2 + J) b) (dp : Dy ((i + 4) * f * den) 0 pp) (dq : Dy (i * ns + 4 * den * f) 0 qq) (hd : den = ((2 ^ J : Nat) : Int)) (bi : 0 ≤ i) (bf : 1 ≤ f) (bn : 0 ≤ ns) (o : CmpOp) : cmpValue (FP.dcmp (FP.ddiv a b) (FP.ddiv pp qq)) o = 0 := by
  have hp := p2_pos J
  have e1 : ((2 ^ (2 + J) : Nat) : Int) = 4 * den := by rw [Nat.pow_add, Int.natCast_mul, hd]; rfl
  rw [e1] at db
  rw [Int.mul_comm f (4 * den)] at db
  have q1 : 0 < (i + 4) * f := Int.mul_pos (by omega) (by omega)
  have q2 : 0 < (i + 4) * f * den := Int.mul_pos q1 (by omega)
  have q3 : 0 ≤ i * ns := Int.mul_nonneg bi bn
  have q4 : 0 < 4 * den * f := Int.mul_pos (by omega) (by omega)
  have e := div_congr da db dp dq q1 (by omega) q2 (by omega) (by
    rw [e1, show ((2 ^ 0 : Nat) : Int) = 1 from rfl, show ((2 ^ 2 : Nat) : Int) = 4 from rfl]
    generalize i * ns + 4 * den * f = M
    generalize (i + 4) * f = N
    calc N * M * (4 * den * 1) = N * den * M * (1 * 4) := by ac_rfl)
  exact eq_val e (div_nn da db (by omega)) o
theorem own_finH {w x2 x4 pp qq : UInt64} {f ns den : Int} {J : Nat} (hw : val64 w = val64 (FP.ddiv x2 x4)) (dF : Dy f 0 x2) (dS : Dy ns J x4) (dp : Dy (f * den) 0 pp) (dq : Dy ns 0 qq) (hd : den = ((2 ^ J : Nat) : Int)) (bf : 1 ≤ f) (bn : 0 < ns) (o : CmpOp) : cmpValue (FP.dcmp w (FP.ddiv pp qq)) o = 0 := by
  have hp := p2_pos J
  have q1 : 0 < f * den := Int.mul_pos (by omega) (by omega)
  have e := div_congr dF dS dp dq (by omega) bn q1 bn (by
    rw [← hd, show ((2 ^ 0 : Nat) : Int) = 1 from rfl]
    calc f * ns * (den * 1) = f * den * ns * (1 * 1) := by ac_rfl)
  exact eq_val (hw.trans e) (by rw [hw]; exact div_nn dF dS bn) o
theorem own_shl {e : Int32} (h : 0 ≤ e.toInt ∧ e.toInt ≤ 15) : ((1 : Int64) <<< (e.toInt64 &&& 63)).toInt = ((2 ^ e.toInt.toNat : Nat) : Int) := by
  have k : ∀ n : Fin 16, ((1 : Int64) <<< ((Int32.ofNat n.val).toInt64 &&& 63)).toInt = ((2 ^ (Int32.ofNat n.val).toInt.toNat : Nat) : Int) := by decide +kernel
  have ee : Int32.ofNat e.toInt.toNat = e := by
    apply Int32.toInt_inj.mp
    rw [Int32.toInt_ofNat_of_lt (by omega)]; omega
  have := k ⟨e.toInt.toNat, by omega⟩
  simp only [ee] at this
  exact this
theorem own_rem {x z y : Int32} {M : Int} (hz : (x - x / y * y) = z) (hx : 0 ≤ x.toInt) (hy : y.toInt = M) (hM : 0 < M ∧ M < 100) : 0 ≤ z.toInt ∧ z.toInt < M := by
  subst hz
  have bx := i32b x
  have e0 : (x / y).toInt = x.toInt / M := by
    rw [Int32.toInt_div, hy, Int.tdiv_eq_ediv_of_nonneg hx]
    have h1 : 0 ≤ x.toInt / M := Int.ediv_nonneg hx (by omega)
    have h2 : x.toInt / M ≤ x.toInt := Int.ediv_le_self _ hx
    exact Int.bmod_eq_of_le (by omega) (by omega)
  have em := Int.mul_ediv_add_emod x.toInt M
  have b1 := Int.emod_nonneg x.toInt (by omega : M ≠ 0)
  have b2 := Int.emod_lt_of_pos x.toInt hM.1
  rw [Int.mul_comm] at em
  have e1 : (x / y * y).toInt = x.toInt / M * M := imul_ex e0 hy (by omega)
  have e2 : (x - x / y * y).toInt = x.toInt - x.toInt / M * M := isub_ex rfl e1 (by omega)
  rw [e2]; omega
theorem own_pw {E : Nat} (h : E ≤ 15) : 1 ≤ ((2 ^ E : Nat) : Int) ∧ ((2 ^ E : Nat) : Int) ≤ 32768 := by
  have h1 := Nat.two_pow_pos E
  have h2 : 2 ^ E ≤ 2 ^ 15 := Nat.pow_le_pow_right (by decide) h
  omega
end Jvm.Own
namespace Jvm.Pilot.@@N@@
open Jvm Jvm.ClassFile Sem Op Lib Jvm.Free Jvm.Stand Jvm.LawKit Jvm.RoadKit Bundle Jvm.Own Jvm.Pilot.@@N@@.Jvm.D
theorem own_lb {n m A B : Int} (h1 : 0 ≤ n ∧ n ≤ A) (h2 : 0 ≤ m ∧ m ≤ B) (h3 : A * B < 9223372036854775808) : -9223372036854775808 ≤ n * m ∧ n * m < 9223372036854775808 := by
  have := mb h1 h2; omega
theorem own_mc {n m A B C : Int} (h1 : 0 ≤ n ∧ n ≤ A) (h2 : 0 ≤ m ∧ m ≤ B) (h3 : A * B = C) : 0 ≤ n * m ∧ n * m ≤ C := h3 ▸ mb h1 h2
theorem own_ab {x y A B : Int} (h1 : 0 ≤ x ∧ x ≤ A) (h2 : 0 ≤ y ∧ y ≤ B) (h3 : A + B < 9223372036854775808) : -9223372036854775808 ≤ x + y ∧ x + y < 9223372036854775808 := by omega
theorem own_nb {n A : Int} (h1 : 0 ≤ n ∧ n ≤ A) (h3 : A ≤ 9007199254740992) : n.natAbs ≤ 2 ^ 53 := by
  have e : (2 : Nat) ^ 53 = 9007199254740992 := by decide
  rw [e]; omega
theorem own_sm {x y A B : Int} (h1 : 0 ≤ x ∧ x ≤ A) (h2 : 0 ≤ y ∧ y ≤ B) : 0 ≤ x + y ∧ x + y ≤ A + B := by omega
theorem own_den {D P : Int} {E : Nat} (h1 : D = 16 * P) (h2 : P = ((2 ^ E : Nat) : Int)) : D = ((2 ^ (4 + E) : Nat) : Int) := by
  rw [h1, h2, Nat.pow_add, Int.natCast_mul]; rfl
theorem own_Kall : ∃ k : UInt64, k = 9214364837600034816 ∧ Dy KK 0 k ∧ FP.dadd k 4607182418800017408 = k ∧ FP.ddiv k k = 4607182418800017408 := ⟨9214364837600034816, rfl, own_K, own_K1, own_K2⟩
theorem pd_0 : parseMethodDescriptor "(DDD)D" = some ⟨[.double, .double, .double], some .double⟩ := by decide +kernel
theorem pd_1 : parseMethodDescriptor "(DDD)V" = some ⟨[.double, .double, .double], none⟩ := by decide +kernel
theorem own_lit0 : Dy (0) 0 (0 : UInt64) := Dy.lit (by decide) (by decide +kernel)
theorem own_lit4607182418800017408 : Dy (1) 0 (4607182418800017408 : UInt64) := Dy.lit (by decide) (by decide +kernel)
theorem own_lit4616189618054758400 : Dy (4) 0 (4616189618054758400 : UInt64) := Dy.lit (by decide) (by decide +kernel)
theorem own_lit4625196817309499392 : Dy (16) 0 (4625196817309499392 : UInt64) := Dy.lit (by decide) (by decide +kernel)
theorem own_lit4620693217682128896 : Dy (8) 0 (4620693217682128896 : UInt64) := Dy.lit (by decide) (by decide +kernel)
theorem pn_1 : plainFor (⟨"com/example/prox2/prox2/scoring/Bm25", "<init>", "(DDD)V"⟩ : MethodName) = true := by decide +kernel
theorem pn_4 : plainFor (⟨"com/example/prox2/prox2/scoring/Bm25", "saturation", "(DDD)D"⟩ : MethodName) = true := by decide +kernel
theorem pn_3 : plainFor (⟨"com/example/prox2/prox2/scoring/Bm25", "documentWeight", "(DDD)D"⟩ : MethodName) = true := by decide +kernel
theorem pn_0 : plainFor x = true := by decide +kernel
theorem d1_0 : decode prog_34_method_1_code 0 = .ok (.aload_n 0, 1) := by decide +kernel
theorem d1_1 : decode prog_34_method_1_code 1 = .ok (.invokespecial 1, 3) := by decide +kernel
theorem d1_4 : decode prog_34_method_1_code 4 = .ok (.dload_n 1, 1) := by decide +kernel
theorem d1_5 : decode prog_34_method_1_code 5 = .ok (.dconst 0, 1) := by decide +kernel
theorem d1_6 : decode prog_34_method_1_code 6 = .ok (.dcmp .l, 1) := by decide +kernel
theorem d1_7 : decode prog_34_method_1_code 7 = .ok (.ifCond .lt 11, 3) := by decide +kernel
theorem d1_10 : decode prog_34_method_1_code 10 = .ok (.dload_n 1, 1) := by decide +kernel
theorem d1_11 : decode prog_34_method_1_code 11 = .ok (.ldc2_w 9, 3) := by decide +kernel
theorem d1_14 : decode prog_34_method_1_code 14 = .ok (.dcmp .g, 1) := by decide +kernel
theorem d1_15 : decode prog_34_method_1_code 15 = .ok (.ifCond .lt 17, 3) := by decide +kernel
theorem d1_32 : decode prog_34_method_1_code 32 = .ok (.dload_n 3, 1) := by decide +kernel
theorem d1_33 : decode prog_34_method_1_code 33 = .ok (.dconst 0, 1) := by decide +kernel
theorem d1_34 : decode prog_34_method_1_code 34 = .ok (.dcmp .l, 1) := by decide +kernel
theorem d1_35 : decode prog_34_method_1_code 35 = .ok (.ifCond .lt 9, 3) := by decide +kernel
theorem d1_38 : decode prog_34_method_1_code 38 = .ok (.dload_n 3, 1) := by decide +kernel
theorem d1_39 : decode prog_34_method_1_code 39 = .ok (.dconst 1, 1) := by decide +kernel
theorem d1_40 : decode prog_34_method_1_code 40 = .ok (.dcmp .g, 1) := by decide +kernel
theorem d1_41 : decode prog_34_method_1_code 41 = .ok (.ifCond .le 17, 3) := by decide +kernel
theorem d1_58 : decode prog_34_method_1_code 58 = .ok (.dload 5, 2) := by decide +kernel
theorem d1_60 : decode prog_34_method_1_code 60 = .ok (.dconst 0, 1) := by decide +kernel
theorem d1_61 : decode prog_34_method_1_code 61 = .ok (.dcmp .l, 1) := by decide +kernel
theorem d1_62 : decode prog_34_method_1_code 62 = .ok (.ifCond .lt 12, 3) := by decide +kernel
theorem d1_65 : decode prog_34_method_1_code 65 = .ok (.dload 5, 2) := by decide +kernel
theorem d1_67 : decode prog_34_method_1_code 67 = .ok (.ldc2_w 9, 3) := by decide +kernel
theorem d1_70 : decode prog_34_method_1_code 70 = .ok (.dcmp .g, 1) := by decide +kernel
theorem d1_71 : decode prog_34_method_1_code 71 = .ok (.ifCond .lt 18, 3) := by decide +kernel
theorem d1_89 : decode prog_34_method_1_code 89 = .ok (.aload_n 0, 1) := by decide +kernel
theorem d1_90 : decode prog_34_method_1_code 90 = .ok (.dload_n 1, 1) := by decide +kernel
theorem d1_91 : decode prog_34_method_1_code 91 = .ok (.putfield 22, 3) := by decide +kernel
theorem d1_94 : decode prog_34_method_1_code 94 = .ok (.aload_n 0, 1) := by decide +kernel
theorem d1_95 : decode prog_34_method_1_code 95 = .ok (.dload_n 3, 1) := by decide +kernel
theorem d1_96 : decode prog_34_method_1_code 96 = .ok (.putfield 28, 3) := by decide +kernel
theorem d1_99 : decode prog_34_method_1_code 99 = .ok (.aload_n 0, 1) := by decide +kernel
theorem d1_100 : decode prog_34_method_1_code 100 = .ok (.dload 5, 2) := by decide +kernel
theorem d1_102 : decode prog_34_method_1_code 102 = .ok (.putfield 31, 3) := by decide +kernel
theorem d1_105 : decode prog_34_method_1_code 105 = .ok (.return_, 1) := by decide +kernel
theorem ef_c_bm (m : MethodId) (x0 : Addr) (x1 : UInt64) (x2 : UInt64) (x3 : UInt64) : entryFrame m #[(.ref x0), (.double x1), (.double x2), (.double x3)] 7 = mkF m 0 #[.val (.ref x0), .val (.double x1), .second, .val (.double x2), .second, .val (.double x3), .second] [] := by first | (simp [entryFrame, mkF, argsToLocals, Value.category, maxLocals]; done) | rfl
set_option maxRecDepth 65536 in
set_option maxHeartbeats 40000000 in
theorem c_bm (l : Launch) (Z : State) (a0 : Array Value) (hw : ∀ d ∈ tables_1, d.before a0 Z = true) (ws : List Jvm.Cond) (a : Addr) (q1 q2 q3 : UInt64) (m1 m2 m3 : Int) (j1 j3 : Nat) (h0 : Heap) (n0 : Nat) (Z0 : n0 ≤ h0.size) (Ea : Exa Z h0 a "com/example/prox2/prox2/scoring/Bm25") (ga : n0 ≤ a) (Q0 : Fld Z h0 a "com/example/prox2/prox2/scoring/Bm25" "k1" "D" (.double 0)) (Q1 : Fld Z h0 a "com/example/prox2/prox2/scoring/Bm25" "b" "D" (.double 0)) (Q2 : Fld Z h0 a "com/example/prox2/prox2/scoring/Bm25" "k3" "D" (.double 0)) (d1 : Dy m1 j1 q1) (d2 : Dy m2 4 q2) (d3 : Dy m3 j3 q3) (B1 : 0 ≤ m1) (B2 : 0 ≤ m2 ∧ m2 ≤ 16) (B3 : 0 ≤ m3) :
    Ctr l Z (⟨"com/example/prox2/prox2/scoring/Bm25", "<init>", "(DDD)V"⟩ : MethodName) prog_34_method_1_code 7 none ws ({ frames := 1, cells := 0, slots := 0, locals := 12 } : Room) #[(.ref a), (.double q1), (.double q2), (.double q3)] h0 (fun v h L => v = none ∧ Fr n0 L ∧ Keep h0 h [a] ∧ Exa Z h a "com/example/prox2/prox2/scoring/Bm25" ∧ Fld Z h a "com/example/prox2/prox2/scoring/Bm25" "k1" "D" (.double q1) ∧ Fld Z h a "com/example/prox2/prox2/scoring/Bm25" "b" "D" (.double q2) ∧ Fld Z h a "com/example/prox2/prox2/scoring/Bm25" "k3" "D" (.double q3)) := by
  refine enter pn_1 ?_
  intro p e s m below meth c T0 X0 hx hby hml hret hlk hZ hown hnm e0
  have A0 := wk X0 hx hby
  have N0 := Fr.nil n0
  refine goIn (ef_c_bm m a q1 q2 q3) ?_
  show Go p e below m (Fini s 0 0 (fun v h L => v = none ∧ Fr n0 L ∧ Keep h0 h [a] ∧ Exa Z h a "com/example/prox2/prox2/scoring/Bm25" ∧ Fld Z h a "com/example/prox2/prox2/scoring/Bm25" "k1" "D" (.double q1) ∧ Fld Z h a "com/example/prox2/prox2/scoring/Bm25" "b" "D" (.double q2) ∧ Fld Z h a "com/example/prox2/prox2/scoring/Bm25" "k3" "D" (.double q3))) T0 0 #[.val (.ref a), .val (.double q1), .second, .val (.double q2), .second, .val (.double q3), .second] []
  refine s_aloadN A0 d1_0 (pc' := 1) rfl rfl rfl ?_
  refine g_initO X0 hx hZ hown (hw _ (List.mem_of_getElem? (i := 12) rfl)) (hw _ (List.mem_of_getElem? (i := 13) rfl)) (hw _ (List.mem_of_getElem? (i := 14) rfl)) e0 (by rw [hml]; rfl) (hb hby d1_1) (pc' := 4) rfl (by decide) (W := 0) (Nat.le_of_eq rfl) (by decide) ?_
  intro T1 X1 e1
  have A1 := wk X1 hx hby
  refine s_dloadN A1 d1_4 (pc' := 5) rfl rfl ?_
  refine s_dconst0 A1 d1_5 (pc' := 6) rfl (v := 0) rfl ?_
  refine s_dcmp A1 d1_6 (pc' := 7) rfl (own_pz d1) ?_
  refine s_iflt A1 d1_7 (pY := 18) (pN := 10) (by decide) (by decide) rfl ?_ ?_
  · intro c7
    replace c7 := cmpI_lt c7
    exfalso; omega
  · intro c7
    replace c7 := cmpI_ge c7
    refine s_dloadN A1 d1_10 (pc' := 11) rfl rfl ?_
    refine g_ldcD X1 hx hZ (v := (9218868437227405312 : UInt64)) hown (hw _ (List.mem_of_getElem? (i := 15) rfl)) (hb hby d1_11) (pc' := 14) rfl ?_
    refine s_dcmp A1 d1_14 (pc' := 15) rfl (lt_inf own_inf d1.1 .g) ?_
    refine s_iflt A1 d1_15 (pY := 32) (pN := 18) (by decide) (by decide) rfl (fun _ => ?_) (fun c => absurd c (by decide))
    refine s_dloadN A1 d1_32 (pc' := 33) rfl rfl ?_
    refine s_dconst0 A1 d1_33 (pc' := 34) rfl (v := 0) rfl ?_
    refine s_dcmp A1 d1_34 (pc' := 35) rfl (own_pz d2) ?_
    refine s_iflt A1 d1_35 (pY := 44) (pN := 38) (by decide) (by decide) rfl ?_ ?_
    · intro c35
      replace c35 := cmpI_lt c35
      exfalso; omega
    · intro c35
      replace c35 := cmpI_ge c35
      refine s_dloadN A1 d1_38 (pc' := 39) rfl rfl ?_
      refine s_dconst1 A1 d1_39 (pc' := 40) rfl (v := 4607182418800017408) rfl ?_
      refine s_dcmp A1 d1_40 (pc' := 41) rfl (own_p1 d2) ?_
      refine s_ifle A1 d1_41 (pY := 58) (pN := 44) (by decide) (by decide) rfl ?_ ?_
      · intro c41
        replace c41 := cmpI_le c41
        refine s_dload A1 d1_58 (pc' := 60) rfl rfl ?_
        refine s_dconst0 A1 d1_60 (pc' := 61) rfl (v := 0) rfl ?_
        refine s_dcmp A1 d1_61 (pc' := 62) rfl (own_pz d3) ?_
        refine s_iflt A1 d1_62 (pY := 74) (pN := 65) (by decide) (by decide) rfl ?_ ?_
        · intro c62
          replace c62 := cmpI_lt c62
          exfalso; omega
        · intro c62
          replace c62 := cmpI_ge c62
          refine s_dload A1 d1_65 (pc' := 67) rfl rfl ?_
          refine g_ldcD X1 hx hZ (v := (9218868437227405312 : UInt64)) hown (hw _ (List.mem_of_getElem? (i := 15) rfl)) (hb hby d1_67) (pc' := 70) rfl ?_
          refine s_dcmp A1 d1_70 (pc' := 71) rfl (lt_inf own_inf d3.1 .g) ?_
          refine s_iflt A1 d1_71 (pY := 89) (pN := 74) (by decide) (by decide) rfl (fun _ => ?_) (fun c => absurd c (by decide))
          refine s_aloadN A1 d1_89 (pc' := 90) rfl rfl rfl ?_
          refine s_dloadN A1 d1_90 (pc' := 91) rfl rfl ?_
          refine g_putF X1 hx hZ hown (hw _ (List.mem_of_getElem? (i := 16) rfl)) Via.refl e1 Q0 Ea (Or.inr ⟨(hw _ (List.mem_of_getElem? (i := 17) rfl)), rfl, hnm⟩) (hw _ (List.mem_of_getElem? (i := 5) rfl)) (ty := .double) (by decide) rfl rfl (hb hby d1_91) (pc' := 94) rfl ?_
          intro T2 h2 X2 e2 W2
          have A2 := wk X2 hx hby
          have F2 := Fld.same W2 Q0
          have kp3 := Keep.wr (Keep.refl h0 [a]) W2 (Or.inl (List.mem_of_getElem? (i := 0) rfl))
          have fr3 := Fr.snoc X2 N0 ga
          refine s_aloadN A2 d1_94 (pc' := 95) rfl rfl rfl ?_
          refine s_dloadN A2 d1_95 (pc' := 96) rfl rfl ?_
          have f4 := (Fld.other W2 Q1 (Or.inr (slot_ne (Or.inr (hw _ (List.mem_of_getElem? (i := 19) rfl))) (Or.inr (hw _ (List.mem_of_getElem? (i := 17) rfl))) (by decide) (t := .double) (by decide) (t' := .double) (by decide))))
          have f5 := (Exa.wr W2 Ea)
          refine g_putF X2 hx hZ hown (hw _ (List.mem_of_getElem? (i := 18) rfl)) Via.refl e2 f4 f5 (Or.inr ⟨(hw _ (List.mem_of_getElem? (i := 19) rfl)), rfl, hnm⟩) (hw _ (List.mem_of_getElem? (i := 5) rfl)) (ty := .double) (by decide) rfl rfl (hb hby d1_96) (pc' := 99) rfl ?_
          intro T6 h6 X6 e6 W6
          have A6 := wk X6 hx hby
          have F6 := Fld.same W6 f4
          have kp7 := Keep.wr kp3 W6 (Or.inl (List.mem_of_getElem? (i := 0) rfl))
          have fr7 := Fr.snoc X6 fr3 ga
          refine s_aloadN A6 d1_99 (pc' := 100) rfl rfl rfl ?_
          refine s_dload A6 d1_100 (pc' := 102) rfl rfl ?_
          have f8 := (Fld.other W6 (Fld.other W2 Q2 (Or.inr (slot_ne (Or.inr (hw _ (List.mem_of_getElem? (i := 21) rfl))) (Or.inr (hw _ (List.mem_of_getElem? (i := 17) rfl))) (by decide) (t := .double) (by decide) (t' := .double) (by decide)))) (Or.inr (slot_ne (Or.inr (hw _ (List.mem_of_getElem? (i := 21) rfl))) (Or.inr (hw _ (List.mem_of_getElem? (i := 19) rfl))) (by decide) (t := .double) (by decide) (t' := .double) (by decide))))
          have f9 := (Exa.wr W6 f5)
          refine g_putF X6 hx hZ hown (hw _ (List.mem_of_getElem? (i := 20) rfl)) Via.refl e6 f8 f9 (Or.inr ⟨(hw _ (List.mem_of_getElem? (i := 21) rfl)), rfl, hnm⟩) (hw _ (List.mem_of_getElem? (i := 5) rfl)) (ty := .double) (by decide) rfl rfl (hb hby d1_102) (pc' := 105) rfl ?_
          intro T10 h10 X10 e10 W10
          have A10 := wk X10 hx hby
          have F10 := Fld.same W10 f8
          have kp11 := Keep.wr kp7 W10 (Or.inl (List.mem_of_getElem? (i := 0) rfl))
          have fr11 := Fr.snoc X10 fr7 ga
          have f12 := (Exa.wr W10 f9)
          have f13 := (Fld.other W10 (Fld.other W6 F2 (Or.inr (slot_ne (Or.inr (hw _ (List.mem_of_getElem? (i := 17) rfl))) (Or.inr (hw _ (List.mem_of_getElem? (i := 19) rfl))) (by decide) (t := .double) (by decide) (t' := .double) (by decide)))) (Or.inr (slot_ne (Or.inr (hw _ (List.mem_of_getElem? (i := 17) rfl))) (Or.inr (hw _ (List.mem_of_getElem? (i := 21) rfl))) (by decide) (t := .double) (by decide) (t' := .double) (by decide))))
          have f14 := (Fld.other W10 F6 (Or.inr (slot_ne (Or.inr (hw _ (List.mem_of_getElem? (i := 19) rfl))) (Or.inr (hw _ (List.mem_of_getElem? (i := 21) rfl))) (by decide) (t := .double) (by decide) (t' := .double) (by decide))))
          exact g_retV X10 hx hlk hret (hb hby d1_105) (by rw [e10]; exact ⟨rfl, fr11, kp11, f12, f13, f14, F10⟩) (by decide) (by decide)
      · intro c41
        replace c41 := cmpI_gt c41
        exfalso; omega
theorem d4_0 : decode prog_34_method_5_code 0 = .ok (.dload_n 0, 1) := by decide +kernel
theorem d4_1 : decode prog_34_method_5_code 1 = .ok (.dconst 1, 1) := by decide +kernel
theorem d4_2 : decode prog_34_method_5_code 2 = .ok (.dadd, 1) := by decide +kernel
theorem d4_3 : decode prog_34_method_5_code 3 = .ok (.dload_n 2, 1) := by decide +kernel
theorem d4_4 : decode prog_34_method_5_code 4 = .ok (.dmul, 1) := by decide +kernel
theorem d4_5 : decode prog_34_method_5_code 5 = .ok (.dstore 6, 2) := by decide +kernel
theorem d4_7 : decode prog_34_method_5_code 7 = .ok (.dload_n 0, 1) := by decide +kernel
theorem d4_8 : decode prog_34_method_5_code 8 = .ok (.dload 4, 2) := by decide +kernel
theorem d4_10 : decode prog_34_method_5_code 10 = .ok (.dmul, 1) := by decide +kernel
theorem d4_11 : decode prog_34_method_5_code 11 = .ok (.dstore 8, 2) := by decide +kernel
theorem d4_13 : decode prog_34_method_5_code 13 = .ok (.dload 6, 2) := by decide +kernel
theorem d4_15 : decode prog_34_method_5_code 15 = .ok (.ldc2_w 9, 3) := by decide +kernel
theorem d4_18 : decode prog_34_method_5_code 18 = .ok (.dcmp .g, 1) := by decide +kernel
theorem d4_19 : decode prog_34_method_5_code 19 = .ok (.ifCond .ge 24, 3) := by decide +kernel
theorem d4_22 : decode prog_34_method_5_code 22 = .ok (.dload 8, 2) := by decide +kernel
theorem d4_24 : decode prog_34_method_5_code 24 = .ok (.ldc2_w 9, 3) := by decide +kernel
theorem d4_27 : decode prog_34_method_5_code 27 = .ok (.dcmp .g, 1) := by decide +kernel
theorem d4_28 : decode prog_34_method_5_code 28 = .ok (.ifCond .ge 15, 3) := by decide +kernel
theorem d4_31 : decode prog_34_method_5_code 31 = .ok (.dload 6, 2) := by decide +kernel
theorem d4_33 : decode prog_34_method_5_code 33 = .ok (.dload 8, 2) := by decide +kernel
theorem d4_35 : decode prog_34_method_5_code 35 = .ok (.dload_n 2, 1) := by decide +kernel
theorem d4_36 : decode prog_34_method_5_code 36 = .ok (.dadd, 1) := by decide +kernel
theorem d4_37 : decode prog_34_method_5_code 37 = .ok (.ddiv, 1) := by decide +kernel
theorem d4_38 : decode prog_34_method_5_code 38 = .ok (.dstore 10, 2) := by decide +kernel
theorem d4_40 : decode prog_34_method_5_code 40 = .ok (.goto 21, 3) := by decide +kernel
theorem d4_43 : decode prog_34_method_5_code 43 = .ok (.dload_n 2, 1) := by decide +kernel
theorem d4_44 : decode prog_34_method_5_code 44 = .ok (.dload_n 0, 1) := by decide +kernel
theorem d4_45 : decode prog_34_method_5_code 45 = .ok (.dload_n 0, 1) := by decide +kernel
theorem d4_46 : decode prog_34_method_5_code 46 = .ok (.dconst 1, 1) := by decide +kernel
theorem d4_47 : decode prog_34_method_5_code 47 = .ok (.dadd, 1) := by decide +kernel
theorem d4_48 : decode prog_34_method_5_code 48 = .ok (.ddiv, 1) := by decide +kernel
theorem d4_49 : decode prog_34_method_5_code 49 = .ok (.dload 4, 2) := by decide +kernel
theorem d4_51 : decode prog_34_method_5_code 51 = .ok (.dmul, 1) := by decide +kernel
theorem d4_52 : decode prog_34_method_5_code 52 = .ok (.dload_n 2, 1) := by decide +kernel
theorem d4_53 : decode prog_34_method_5_code 53 = .ok (.dload_n 0, 1) := by decide +kernel
theorem d4_54 : decode prog_34_method_5_code 54 = .ok (.dconst 1, 1) := by decide +kernel
theorem d4_55 : decode prog_34_method_5_code 55 = .ok (.dadd, 1) := by decide +kernel
theorem d4_56 : decode prog_34_method_5_code 56 = .ok (.ddiv, 1) := by decide +kernel
theorem d4_57 : decode prog_34_method_5_code 57 = .ok (.dadd, 1) := by decide +kernel
theorem d4_58 : decode prog_34_method_5_code 58 = .ok (.ddiv, 1) := by decide +kernel
theorem d4_59 : decode prog_34_method_5_code 59 = .ok (.dstore 10, 2) := by decide +kernel
theorem d4_61 : decode prog_34_method_5_code 61 = .ok (.dload 10, 2) := by decide +kernel
theorem d4_63 : decode prog_34_method_5_code 63 = .ok (.dreturn, 1) := by decide +kernel
theorem ef_c_satn (m : MethodId) (x0 : UInt64) (x1 : UInt64) (x2 : UInt64) : entryFrame m #[(.double x0), (.double x1), (.double x2)] 12 = mkF m 0 #[.val (.double x0), .second, .val (.double x1), .second, .val (.double x2), .second, .unset, .unset, .unset, .unset, .unset, .unset] [] := by first | (simp [entryFrame, mkF, argsToLocals, Value.category, maxLocals]; done) | rfl
set_option maxRecDepth 65536 in
set_option maxHeartbeats 40000000 in
theorem c_satn (l : Launch) (Z : State) (a0 : Array Value) (hw : ∀ d ∈ tables_1, d.before a0 Z = true) (ws : List Jvm.Cond) (x0 x2 x4 : UInt64) (i f ns : Int) (J : Nat) (h0 : Heap) (n0 : Nat) (Z0 : n0 ≤ h0.size) (dk : Dy i 2 x0) (bi : 0 ≤ i ∧ i ≤ 4095) (dF : Dy f 0 x2) (dS : Dy ns J x4) (bf : 1 ≤ f ∧ f ≤ 65536) (bn : 0 ≤ ns ∧ ns < 2097152) (bJ : J ≤ 19) :
    Ctr l Z (⟨"com/example/prox2/prox2/scoring/Bm25", "saturation", "(DDD)D"⟩ : MethodName) prog_34_method_5_code 12 (some .double) ws ({ frames := 0, cells := 0, slots := 0, locals := 0 } : Room) #[(.double x0), (.double x2), (.double x4)] h0 (fun v h L => ∃ w aa bb : UInt64, v = some (.double w) ∧ FP.ddiv aa bb = w ∧ Dy ((i + 4) * f) 2 aa ∧ Dy (i * ns + f * ((2 ^ (2 + J) : Nat) : Int)) (2 + J) bb ∧ Fr n0 L ∧ h = h0) := by
  refine enter pn_4 ?_
  intro p e s m below meth c T0 X0 hx hby hml hret hlk hZ hown hnm e0
  have A0 := wk X0 hx hby
  have N0 := Fr.nil n0
  refine goIn (ef_c_satn m x0 x2 x4) ?_
  show Go p e below m (Fini s 0 0 (fun v h L => ∃ w aa bb : UInt64, v = some (.double w) ∧ FP.ddiv aa bb = w ∧ Dy ((i + 4) * f) 2 aa ∧ Dy (i * ns + f * ((2 ^ (2 + J) : Nat) : Int)) (2 + J) bb ∧ Fr n0 L ∧ h = h0)) T0 0 #[.val (.double x0), .second, .val (.double x2), .second, .val (.double x4), .second, .unset, .unset, .unset, .unset, .unset, .unset] []
  obtain ⟨t, ht⟩ : ∃ z : UInt64, FP.dadd x0 (4607182418800017408 : UInt64) = z := ⟨_, rfl⟩
  obtain ⟨aa, ha⟩ : ∃ z : UInt64, FP.dmul t x2 = z := ⟨_, rfl⟩
  obtain ⟨nn, hn⟩ : ∃ z : UInt64, FP.dmul x0 x4 = z := ⟨_, rfl⟩
  obtain ⟨bb, hbb⟩ : ∃ z : UInt64, FP.dadd nn x2 = z := ⟨_, rfl⟩
  obtain ⟨w, hw'⟩ : ∃ z : UInt64, FP.ddiv aa bb = z := ⟨_, rfl⟩
  obtain ⟨r1, r2, r3, r4, r5, r6, r7⟩ := own_satn one_dy ht ha hn hbb hw' dk dF dS bi bf bn bJ
  refine s_dloadN A0 d4_0 (pc' := 1) rfl rfl ?_
  refine s_dconst1 A0 d4_1 (pc' := 2) rfl (v := 4607182418800017408) rfl ?_
  refine s_dadd A0 d4_2 (pc' := 3) rfl ht r1 ?_
  refine s_dloadN A0 d4_3 (pc' := 4) rfl rfl ?_
  refine s_dmul A0 d4_4 (pc' := 5) rfl ha (DFin.nn64 r2) ?_
  refine s_dstore A0 d4_5 (pc' := 7) rfl (ls' := #[.val (.double x0), .second, .val (.double x2), .second, .val (.double x4), .second, .val (.double aa), .second, .unset, .unset, .unset, .unset]) rfl ?_
  refine s_dloadN A0 d4_7 (pc' := 8) rfl rfl ?_
  refine s_dload A0 d4_8 (pc' := 10) rfl rfl ?_
  refine s_dmul A0 d4_10 (pc' := 11) rfl hn (DFin.nn64 r3) ?_
  refine s_dstore A0 d4_11 (pc' := 13) rfl (ls' := #[.val (.double x0), .second, .val (.double x2), .second, .val (.double x4), .second, .val (.double aa), .second, .val (.double nn), .second, .unset, .unset]) rfl ?_
  refine s_dload A0 d4_13 (pc' := 15) rfl rfl ?_
  refine g_ldcD X0 hx hZ (v := (9218868437227405312 : UInt64)) hown (hw _ (List.mem_of_getElem? (i := 15) rfl)) (hb hby d4_15) (pc' := 18) rfl ?_
  refine s_dcmp A0 d4_18 (pc' := 19) rfl (lt_inf own_inf r2 .g) ?_
  refine s_ifge A0 d4_19 (pY := 43) (pN := 22) (by decide) (by decide) rfl (fun c => absurd c (by decide)) (fun _ => ?_)
  refine s_dload A0 d4_22 (pc' := 24) rfl rfl ?_
  refine g_ldcD X0 hx hZ (v := (9218868437227405312 : UInt64)) hown (hw _ (List.mem_of_getElem? (i := 15) rfl)) (hb hby d4_24) (pc' := 27) rfl ?_
  refine s_dcmp A0 d4_27 (pc' := 28) rfl (lt_inf own_inf r3 .g) ?_
  refine s_ifge A0 d4_28 (pY := 43) (pN := 31) (by decide) (by decide) rfl (fun c => absurd c (by decide)) (fun _ => ?_)
  refine s_dload A0 d4_31 (pc' := 33) rfl rfl ?_
  refine s_dload A0 d4_33 (pc' := 35) rfl rfl ?_
  refine s_dloadN A0 d4_35 (pc' := 36) rfl rfl ?_
  refine s_dadd A0 d4_36 (pc' := 37) rfl hbb r4 ?_
  refine s_ddiv A0 d4_37 (pc' := 38) rfl hw' r5 ?_
  refine s_dstore A0 d4_38 (pc' := 40) rfl (ls' := #[.val (.double x0), .second, .val (.double x2), .second, .val (.double x4), .second, .val (.double aa), .second, .val (.double nn), .second, .val (.double w), .second]) rfl ?_
  refine s_goto A0 d4_40 (pc' := 61) (by decide) (by decide) ?_
  refine s_dload A0 d4_61 (pc' := 63) rfl rfl ?_
  exact g_retD X0 hx hlk hret (hb hby d4_63) ⟨w, aa, bb, rfl, hw', r6, r7, N0, e0⟩ (by decide) (by decide)
theorem ef_c_sath (m : MethodId) (x0 : UInt64) (x1 : UInt64) (x2 : UInt64) : entryFrame m #[(.double x0), (.double x1), (.double x2)] 12 = mkF m 0 #[.val (.double x0), .second, .val (.double x1), .second, .val (.double x2), .second, .unset, .unset, .unset, .unset, .unset, .unset] [] := by first | (simp [entryFrame, mkF, argsToLocals, Value.category, maxLocals]; done) | rfl
set_option maxRecDepth 65536 in
set_option maxHeartbeats 40000000 in
theorem c_sath (l : Launch) (Z : State) (a0 : Array Value) (hw : ∀ d ∈ tables_1, d.before a0 Z = true) (ws : List Jvm.Cond) (x0 x2 x4 : UInt64) (f ns : Int) (J : Nat) (h0 : Heap) (n0 : Nat) (Z0 : n0 ≤ h0.size) (dK : Dy KK 0 x0) (H1 : FP.dadd x0 (4607182418800017408 : UInt64) = x0) (HD : FP.ddiv x0 x0 = (4607182418800017408 : UInt64)) (dF : Dy f 0 x2) (dS : Dy ns J x4) (bf : 1 ≤ f ∧ f ≤ 65536) (bn : 0 ≤ ns ∧ ns < 2097152) (bJ : J ≤ 19) :
    Ctr l Z (⟨"com/example/prox2/prox2/scoring/Bm25", "saturation", "(DDD)D"⟩ : MethodName) prog_34_method_5_code 12 (some .double) ws ({ frames := 0, cells := 0, slots := 0, locals := 0 } : Room) #[(.double x0), (.double x2), (.double x4)] h0 (fun v h L => ∃ w : UInt64, v = some (.double w) ∧ (0 < ns → Jvm.FP.Core.val64 w = Jvm.FP.Core.val64 (FP.ddiv x2 x4)) ∧ (ns = 0 → Jvm.FP.Core.DFin w ∧ zv w = zv x0) ∧ Fr n0 L ∧ h = h0) := by
  refine enter pn_4 ?_
  intro p e s m below meth c T0 X0 hx hby hml hret hlk hZ hown hnm e0
  have A0 := wk X0 hx hby
  have N0 := Fr.nil n0
  refine goIn (ef_c_sath m x0 x2 x4) ?_
  show Go p e below m (Fini s 0 0 (fun v h L => ∃ w : UInt64, v = some (.double w) ∧ (0 < ns → Jvm.FP.Core.val64 w = Jvm.FP.Core.val64 (FP.ddiv x2 x4)) ∧ (ns = 0 → Jvm.FP.Core.DFin w ∧ zv w = zv x0) ∧ Fr n0 L ∧ h = h0)) T0 0 #[.val (.double x0), .second, .val (.double x2), .second, .val (.double x4), .second, .unset, .unset, .unset, .unset, .unset, .unset] []
  obtain ⟨aa, ha⟩ : ∃ z : UInt64, FP.dmul x0 x2 = z := ⟨_, rfl⟩
  obtain ⟨nn, hn⟩ : ∃ z : UInt64, FP.dmul x0 x4 = z := ⟨_, rfl⟩
  refine s_dloadN A0 d4_0 (pc' := 1) rfl rfl ?_
  refine s_dconst1 A0 d4_1 (pc' := 2) rfl (v := 4607182418800017408) rfl ?_
  refine s_dadd A0 d4_2 (pc' := 3) rfl H1 dK.noNaN ?_
  refine s_dloadN A0 d4_3 (pc' := 4) rfl rfl ?_
  refine s_dmul A0 d4_4 (pc' := 5) rfl ha (ha ▸ mul_nn dK.1 dF.1) ?_
  refine s_dstore A0 d4_5 (pc' := 7) rfl (ls' := #[.val (.double x0), .second, .val (.double x2), .second, .val (.double x4), .second, .val (.double aa), .second, .unset, .unset, .unset, .unset]) rfl ?_
  refine s_dloadN A0 d4_7 (pc' := 8) rfl rfl ?_
  refine s_dload A0 d4_8 (pc' := 10) rfl rfl ?_
  refine s_dmul A0 d4_10 (pc' := 11) rfl hn (hn ▸ mul_nn dK.1 dS.1) ?_
  refine s_dstore A0 d4_11 (pc' := 13) rfl (ls' := #[.val (.double x0), .second, .val (.double x2), .second, .val (.double x4), .second, .val (.double aa), .second, .val (.double nn), .second, .unset, .unset]) rfl ?_
  refine s_dload A0 d4_13 (pc' := 15) rfl rfl ?_
  refine g_ldcD X0 hx hZ (v := (9218868437227405312 : UInt64)) hown (hw _ (List.mem_of_getElem? (i := 15) rfl)) (hb hby d4_15) (pc' := 18) rfl ?_
  by_cases hA : f = 1
  ·
    have fa : Jvm.FP.Core.DFin aa := ha ▸ (mulK_fin dK dF (by omega) (by decide) (by rw [hA]; decide)).1
    refine s_dcmp A0 d4_18 (pc' := 19) rfl (lt_inf own_inf fa .g) ?_
    refine s_ifge A0 d4_19 (pY := 43) (pN := 22) (by decide) (by decide) rfl (fun c => absurd c (by decide)) (fun _ => ?_)
    refine s_dload A0 d4_22 (pc' := 24) rfl rfl ?_
    refine g_ldcD X0 hx hZ (v := (9218868437227405312 : UInt64)) hown (hw _ (List.mem_of_getElem? (i := 15) rfl)) (hb hby d4_24) (pc' := 27) rfl ?_
    by_cases hB : ns < ((2 ^ (J + 1) : Nat) : Int)
    ·
      have fn : Jvm.FP.Core.DFin nn := hn ▸ (mulK_fin dK dS bn.1 (by omega) hB).1
      obtain ⟨bb, hbb⟩ : ∃ z : UInt64, FP.dadd nn x2 = z := ⟨_, rfl⟩
      obtain ⟨w, hw'⟩ : ∃ z : UInt64, FP.ddiv aa bb = z := ⟨_, rfl⟩
      obtain ⟨r1, r2, r3, r4⟩ := caseA ha hn hbb hw' dK dF dS hA bn.1 hB bJ
      refine s_dcmp A0 d4_27 (pc' := 28) rfl (lt_inf own_inf fn .g) ?_
      refine s_ifge A0 d4_28 (pY := 43) (pN := 31) (by decide) (by decide) rfl (fun c => absurd c (by decide)) (fun _ => ?_)
      refine s_dload A0 d4_31 (pc' := 33) rfl rfl ?_
      refine s_dload A0 d4_33 (pc' := 35) rfl rfl ?_
      refine s_dloadN A0 d4_35 (pc' := 36) rfl rfl ?_
      refine s_dadd A0 d4_36 (pc' := 37) rfl hbb r1 ?_
      refine s_ddiv A0 d4_37 (pc' := 38) rfl hw' r2 ?_
      refine s_dstore A0 d4_38 (pc' := 40) rfl (ls' := #[.val (.double x0), .second, .val (.double x2), .second, .val (.double x4), .second, .val (.double aa), .second, .val (.double nn), .second, .val (.double w), .second]) rfl ?_
      refine s_goto A0 d4_40 (pc' := 61) (by decide) (by decide) ?_
      refine s_dload A0 d4_61 (pc' := 63) rfl rfl ?_
      exact g_retD X0 hx hlk hret (hb hby d4_63) ⟨w, rfl, r3, r4, N0, e0⟩ (by decide) (by decide)
    ·
      have fn : Jvm.FP.Core.val64 nn = .inf false := hn ▸ mulK_inf dK dS (by omega)
      refine s_dcmp A0 d4_27 (pc' := 28) rfl (is_inf own_inf fn .g) ?_
      refine s_ifge A0 d4_28 (pY := 43) (pN := 31) (by decide) (by decide) rfl (fun _ => ?_) (fun c => absurd c (by decide))
      obtain ⟨tt, ht⟩ : ∃ z : UInt64, FP.dmul (4607182418800017408 : UInt64) x4 = z := ⟨_, rfl⟩
      obtain ⟨gg, hg⟩ : ∃ z : UInt64, FP.ddiv x2 x0 = z := ⟨_, rfl⟩
      obtain ⟨bb, hbb⟩ : ∃ z : UInt64, FP.dadd tt gg = z := ⟨_, rfl⟩
      obtain ⟨w, hw'⟩ : ∃ z : UInt64, FP.ddiv x2 bb = z := ⟨_, rfl⟩
      obtain ⟨s1, s2, s3, r2, r3, r4⟩ := caseB one_dy ht hg hbb hw' dK dF dS bf bn bJ
      refine s_dloadN A0 d4_43 (pc' := 44) rfl rfl ?_
      refine s_dloadN A0 d4_44 (pc' := 45) rfl rfl ?_
      refine s_dloadN A0 d4_45 (pc' := 46) rfl rfl ?_
      refine s_dconst1 A0 d4_46 (pc' := 47) rfl (v := 4607182418800017408) rfl ?_
      refine s_dadd A0 d4_47 (pc' := 48) rfl H1 dK.noNaN ?_
      refine s_ddiv A0 d4_48 (pc' := 49) rfl HD one_dy.noNaN ?_
      refine s_dload A0 d4_49 (pc' := 51) rfl rfl ?_
      refine s_dmul A0 d4_51 (pc' := 52) rfl ht s1 ?_
      refine s_dloadN A0 d4_52 (pc' := 53) rfl rfl ?_
      refine s_dloadN A0 d4_53 (pc' := 54) rfl rfl ?_
      refine s_dconst1 A0 d4_54 (pc' := 55) rfl (v := 4607182418800017408) rfl ?_
      refine s_dadd A0 d4_55 (pc' := 56) rfl H1 dK.noNaN ?_
      refine s_ddiv A0 d4_56 (pc' := 57) rfl hg s2 ?_
      refine s_dadd A0 d4_57 (pc' := 58) rfl hbb s3 ?_
      refine s_ddiv A0 d4_58 (pc' := 59) rfl hw' r2 ?_
      refine s_dstore A0 d4_59 (pc' := 61) rfl (ls' := #[.val (.double x0), .second, .val (.double x2), .second, .val (.double x4), .second, .val (.double aa), .second, .val (.double nn), .second, .val (.double w), .second]) rfl ?_
      refine s_dload A0 d4_61 (pc' := 63) rfl rfl ?_
      exact g_retD X0 hx hlk hret (hb hby d4_63) ⟨w, rfl, r3, r4, N0, e0⟩ (by decide) (by decide)
  ·
    have fa : Jvm.FP.Core.val64 aa = .inf false := ha ▸ mulK_inf dK dF (by have e : ((2 ^ (0 + 1) : Nat) : Int) = 2 := rfl; rw [e]; omega)
    refine s_dcmp A0 d4_18 (pc' := 19) rfl (is_inf own_inf fa .g) ?_
    refine s_ifge A0 d4_19 (pY := 43) (pN := 22) (by decide) (by decide) rfl (fun _ => ?_) (fun c => absurd c (by decide))
    obtain ⟨tt, ht⟩ : ∃ z : UInt64, FP.dmul (4607182418800017408 : UInt64) x4 = z := ⟨_, rfl⟩
    obtain ⟨gg, hg⟩ : ∃ z : UInt64, FP.ddiv x2 x0 = z := ⟨_, rfl⟩
    obtain ⟨bb, hbb⟩ : ∃ z : UInt64, FP.dadd tt gg = z := ⟨_, rfl⟩
    obtain ⟨w, hw'⟩ : ∃ z : UInt64, FP.ddiv x2 bb = z := ⟨_, rfl⟩
    obtain ⟨s1, s2, s3, r2, r3, r4⟩ := caseB one_dy ht hg hbb hw' dK dF dS bf bn bJ
    refine s_dloadN A0 d4_43 (pc' := 44) rfl rfl ?_
    refine s_dloadN A0 d4_44 (pc' := 45) rfl rfl ?_
    refine s_dloadN A0 d4_45 (pc' := 46) rfl rfl ?_
    refine s_dconst1 A0 d4_46 (pc' := 47) rfl (v := 4607182418800017408) rfl ?_
    refine s_dadd A0 d4_47 (pc' := 48) rfl H1 dK.noNaN ?_
    refine s_ddiv A0 d4_48 (pc' := 49) rfl HD one_dy.noNaN ?_
    refine s_dload A0 d4_49 (pc' := 51) rfl rfl ?_
    refine s_dmul A0 d4_51 (pc' := 52) rfl ht s1 ?_
    refine s_dloadN A0 d4_52 (pc' := 53) rfl rfl ?_
    refine s_dloadN A0 d4_53 (pc' := 54) rfl rfl ?_
    refine s_dconst1 A0 d4_54 (pc' := 55) rfl (v := 4607182418800017408) rfl ?_
    refine s_dadd A0 d4_55 (pc' := 56) rfl H1 dK.noNaN ?_
    refine s_ddiv A0 d4_56 (pc' := 57) rfl hg s2 ?_
    refine s_dadd A0 d4_57 (pc' := 58) rfl hbb s3 ?_
    refine s_ddiv A0 d4_58 (pc' := 59) rfl hw' r2 ?_
    refine s_dstore A0 d4_59 (pc' := 61) rfl (ls' := #[.val (.double x0), .second, .val (.double x2), .second, .val (.double x4), .second, .val (.double aa), .second, .val (.double nn), .second, .val (.double w), .second]) rfl ?_
    refine s_dload A0 d4_61 (pc' := 63) rfl rfl ?_
    exact g_retD X0 hx hlk hret (hb hby d4_63) ⟨w, rfl, r3, r4, N0, e0⟩ (by decide) (by decide)
theorem d3_0 : decode prog_34_method_3_code 0 = .ok (.aload_n 0, 1) := by decide +kernel
theorem d3_1 : decode prog_34_method_3_code 1 = .ok (.getfield 22, 3) := by decide +kernel
theorem d3_4 : decode prog_34_method_3_code 4 = .ok (.dload_n 1, 1) := by decide +kernel
theorem d3_5 : decode prog_34_method_3_code 5 = .ok (.dconst 1, 1) := by decide +kernel
theorem d3_6 : decode prog_34_method_3_code 6 = .ok (.aload_n 0, 1) := by decide +kernel
theorem d3_7 : decode prog_34_method_3_code 7 = .ok (.getfield 28, 3) := by decide +kernel
theorem d3_10 : decode prog_34_method_3_code 10 = .ok (.dsub, 1) := by decide +kernel
theorem d3_11 : decode prog_34_method_3_code 11 = .ok (.aload_n 0, 1) := by decide +kernel
theorem d3_12 : decode prog_34_method_3_code 12 = .ok (.getfield 28, 3) := by decide +kernel
theorem d3_15 : decode prog_34_method_3_code 15 = .ok (.dload_n 3, 1) := by decide +kernel
theorem d3_16 : decode prog_34_method_3_code 16 = .ok (.dmul, 1) := by decide +kernel
theorem d3_17 : decode prog_34_method_3_code 17 = .ok (.dload 5, 2) := by decide +kernel
theorem d3_19 : decode prog_34_method_3_code 19 = .ok (.ddiv, 1) := by decide +kernel
theorem d3_20 : decode prog_34_method_3_code 20 = .ok (.dadd, 1) := by decide +kernel
theorem d3_21 : decode prog_34_method_3_code 21 = .ok (.invokestatic 65, 3) := by decide +kernel
theorem d3_24 : decode prog_34_method_3_code 24 = .ok (.dreturn, 1) := by decide +kernel
theorem ef_c_dwn (m : MethodId) (x0 : Addr) (x1 : UInt64) (x2 : UInt64) (x3 : UInt64) : entryFrame m #[(.ref x0), (.double x1), (.double x2), (.double x3)] 7 = mkF m 0 #[.val (.ref x0), .val (.double x1), .second, .val (.double x2), .second, .val (.double x3), .second] [] := by first | (simp [entryFrame, mkF, argsToLocals, Value.category, maxLocals]; done) | rfl
set_option maxRecDepth 65536 in
set_option maxHeartbeats 40000000 in
theorem c_dwn (l : Launch) (Z : State) (a0 : Array Value) (hw : ∀ d ∈ tables_1, d.before a0 Z = true) (ws : List Jvm.Cond) (a : Addr) (x1 x3 x5 q1 q2 : UInt64) (i f j c d P ns : Int) (E : Nat) (h0 : Heap) (n0 : Nat) (Z0 : n0 ≤ h0.size) (dk : Dy i 2 q1) (bi : 0 ≤ i ∧ i ≤ 4095) (Fk : Fld Z h0 a "com/example/prox2/prox2/scoring/Bm25" "k1" "D" (.double q1)) (Fb : Fld Z h0 a "com/example/prox2/prox2/scoring/Bm25" "b" "D" (.double q2)) (dF : Dy f 0 x1) (d3 : Dy (c * d) 0 x3) (d5 : Dy (c * P) 0 x5) (dB : Dy j 4 q2) (hP : P = ((2 ^ E : Nat) : Int)) (bf : 1 ≤ f ∧ f ≤ 65536) (bj : 0 ≤ j ∧ j ≤ 16) (bc : 1 ≤ c ∧ c ≤ 8) (bd : 0 ≤ d ∧ d ≤ 65535) (bP : 1 ≤ P ∧ P ≤ 32768) (bE : E ≤ 15) (hns : ns = (16 - j) * P + j * d) (bn : 0 ≤ ns ∧ ns < 2097152) :
    Ctr l Z (⟨"com/example/prox2/prox2/scoring/Bm25", "documentWeight", "(DDD)D"⟩ : MethodName) prog_34_method_3_code 7 (some .double) ws ({ frames := 1, cells := 0, slots := 0, locals := 23 } : Room) #[(.ref a), (.double x1), (.double x3), (.double x5)] h0 (fun v h L => ∃ w aa bb : UInt64, v = some (.double w) ∧ FP.ddiv aa bb = w ∧ Dy ((i + 4) * f) 2 aa ∧ Dy (i * ns + f * ((2 ^ (2 + (4 + E)) : Nat) : Int)) (2 + (4 + E)) bb ∧ Fr n0 L ∧ h = h0) := by
  refine enter pn_3 ?_
  intro p e s m below meth c T0 X0 hx hby hml hret hlk hZ hown hnm e0
  have A0 := wk X0 hx hby
  have N0 := Fr.nil n0
  refine goIn (ef_c_dwn m a x1 x3 x5) ?_
  show Go p e below m (Fini s 0 0 (fun v h L => ∃ w aa bb : UInt64, v = some (.double w) ∧ FP.ddiv aa bb = w ∧ Dy ((i + 4) * f) 2 aa ∧ Dy (i * ns + f * ((2 ^ (2 + (4 + E)) : Nat) : Int)) (2 + (4 + E)) bb ∧ Fr n0 L ∧ h = h0)) T0 0 #[.val (.ref a), .val (.double x1), .second, .val (.double x3), .second, .val (.double x5), .second] []
  obtain ⟨s1, hs⟩ : ∃ z : UInt64, FP.dsub (4607182418800017408 : UInt64) q2 = z := ⟨_, rfl⟩
  obtain ⟨m1, hm⟩ : ∃ z : UInt64, FP.dmul q2 x3 = z := ⟨_, rfl⟩
  obtain ⟨r1, hr⟩ : ∃ z : UInt64, FP.ddiv m1 x5 = z := ⟨_, rfl⟩
  obtain ⟨x4, hx4⟩ : ∃ z : UInt64, FP.dadd s1 r1 = z := ⟨_, rfl⟩
  obtain ⟨k1, k2, k3, dS⟩ := own_scale one_dy hs hm hr hx4 dB d3 d5 hP bj bc bd bP bE hns
  refine s_aloadN A0 d3_0 (pc' := 1) rfl rfl rfl ?_
  refine g_getF X0 hx hZ hown (hw _ (List.mem_of_getElem? (i := 16) rfl)) Via.refl e0 Fk (hb hby d3_1) (pc' := 4) rfl ?_
  intro T1 X1 e1
  have A1 := wk X1 hx hby
  refine s_dloadN A1 d3_4 (pc' := 5) rfl rfl ?_
  refine s_dconst1 A1 d3_5 (pc' := 6) rfl (v := 4607182418800017408) rfl ?_
  refine s_aloadN A1 d3_6 (pc' := 7) rfl rfl rfl ?_
  refine g_getF X1 hx hZ hown (hw _ (List.mem_of_getElem? (i := 18) rfl)) Via.refl e1 Fb (hb hby d3_7) (pc' := 10) rfl ?_
  intro T2 X2 e2
  have A2 := wk X2 hx hby
  refine s_dsub A2 d3_10 (pc' := 11) rfl hs k1 ?_
  refine s_aloadN A2 d3_11 (pc' := 12) rfl rfl rfl ?_
  refine g_getF X2 hx hZ hown (hw _ (List.mem_of_getElem? (i := 18) rfl)) Via.refl e2 Fb (hb hby d3_12) (pc' := 15) rfl ?_
  intro T3 X3 e3
  have A3 := wk X3 hx hby
  refine s_dloadN A3 d3_15 (pc' := 16) rfl rfl ?_
  refine s_dmul A3 d3_16 (pc' := 17) rfl hm k2 ?_
  refine s_dload A3 d3_17 (pc' := 19) rfl rfl ?_
  refine s_ddiv A3 d3_19 (pc' := 20) rfl hr k3 ?_
  refine s_dadd A3 d3_20 (pc' := 21) rfl hx4 dS.noNaN ?_
  refine g_static X3 hx hZ (y := (⟨"com/example/prox2/prox2/scoring/Bm25", "saturation", "(DDD)D"⟩ : MethodName)) hown (hw _ (List.mem_of_getElem? (i := 27) rfl)) (hw _ (List.mem_of_getElem? (i := 28) rfl)) (hw _ (List.mem_of_getElem? (i := 6) rfl)) (hw _ (List.mem_of_getElem? (i := 29) rfl)) (by decide) (argsL := [(.double q1), (.double x1), (.double x4)]) (rest := []) (c_satn l Z a0 hw [] q1 x1 x4 i f ns (4 + E) h0 n0 Z0 dk bi dF dS bf bn (by omega)) pd_0 rfl rfl (hb hby d3_21) e3 (by rw [hml]; rfl) (pc' := 24) rfl (by decide) (W := 0) (Nat.le_of_eq rfl) (by decide) (by decide) (by decide) ?_
  intro v4 T4 L4 X4 hQ4
  have A4 := wk X4 hx hby
  have e4 : T4.heap = T4.heap := rfl
  obtain ⟨w4, aa4, bb4, rfl, hw4, da4, db4, N4, hh4⟩ := hQ4
  have e4 : T4.heap = h0 := hh4
  have fr4 := Fr.app N0 N4
  show Go p e below m (Fini s 0 0 (fun v h L => ∃ w aa bb : UInt64, v = some (.double w) ∧ FP.ddiv aa bb = w ∧ Dy ((i + 4) * f) 2 aa ∧ Dy (i * ns + f * ((2 ^ (2 + (4 + E)) : Nat) : Int)) (2 + (4 + E)) bb ∧ Fr n0 L ∧ h = h0)) T4 24 #[.val (.ref a), .val (.double x1), .second, .val (.double x3), .second, .val (.double x5), .second] [(.double w4)]
  exact g_retD X4 hx hlk hret (hb hby d3_24) ⟨_, aa4, bb4, rfl, hw4, da4, db4, fr4, e4⟩ (by decide) (by decide)
theorem ef_c_dwh (m : MethodId) (x0 : Addr) (x1 : UInt64) (x2 : UInt64) (x3 : UInt64) : entryFrame m #[(.ref x0), (.double x1), (.double x2), (.double x3)] 7 = mkF m 0 #[.val (.ref x0), .val (.double x1), .second, .val (.double x2), .second, .val (.double x3), .second] [] := by first | (simp [entryFrame, mkF, argsToLocals, Value.category, maxLocals]; done) | rfl
set_option maxRecDepth 65536 in
set_option maxHeartbeats 40000000 in
theorem c_dwh (l : Launch) (Z : State) (a0 : Array Value) (hw : ∀ d ∈ tables_1, d.before a0 Z = true) (ws : List Jvm.Cond) (a : Addr) (x1 x3 x5 q1 q2 : UInt64) (i f j c d P ns : Int) (E : Nat) (h0 : Heap) (n0 : Nat) (Z0 : n0 ≤ h0.size) (dK : Dy KK 0 q1) (H1 : FP.dadd q1 (4607182418800017408 : UInt64) = q1) (HD : FP.ddiv q1 q1 = (4607182418800017408 : UInt64)) (Fk : Fld Z h0 a "com/example/prox2/prox2/scoring/Bm25" "k1" "D" (.double q1)) (Fb : Fld Z h0 a "com/example/prox2/prox2/scoring/Bm25" "b" "D" (.double q2)) (dF : Dy f 0 x1) (d3 : Dy (c * d) 0 x3) (d5 : Dy (c * P) 0 x5) (dB : Dy j 4 q2) (hP : P = ((2 ^ E : Nat) : Int)) (bf : 1 ≤ f ∧ f ≤ 65536) (bj : 0 ≤ j ∧ j ≤ 16) (bc : 1 ≤ c ∧ c ≤ 8) (bd : 0 ≤ d ∧ d ≤ 65535) (bP : 1 ≤ P ∧ P ≤ 32768) (bE : E ≤ 15) (hns : ns = (16 - j) * P + j * d) (bn : 0 ≤ ns ∧ ns < 2097152) :
    Ctr l Z (⟨"com/example/prox2/prox2/scoring/Bm25", "documentWeight", "(DDD)D"⟩ : MethodName) prog_34_method_3_code 7 (some .double) ws ({ frames := 1, cells := 0, slots := 0, locals := 23 } : Room) #[(.ref a), (.double x1), (.double x3), (.double x5)] h0 (fun v h L => ∃ w x4 : UInt64, v = some (.double w) ∧ Dy ns (4 + E) x4 ∧ (0 < ns → Jvm.FP.Core.val64 w = Jvm.FP.Core.val64 (FP.ddiv x1 x4)) ∧ (ns = 0 → Jvm.FP.Core.DFin w ∧ zv w = zv q1) ∧ Fr n0 L ∧ h = h0) := by
  refine enter pn_3 ?_
  intro p e s m below meth c T0 X0 hx hby hml hret hlk hZ hown hnm e0
  have A0 := wk X0 hx hby
  have N0 := Fr.nil n0
  refine goIn (ef_c_dwh m a x1 x3 x5) ?_
  show Go p e below m (Fini s 0 0 (fun v h L => ∃ w x4 : UInt64, v = some (.double w) ∧ Dy ns (4 + E) x4 ∧ (0 < ns → Jvm.FP.Core.val64 w = Jvm.FP.Core.val64 (FP.ddiv x1 x4)) ∧ (ns = 0 → Jvm.FP.Core.DFin w ∧ zv w = zv q1) ∧ Fr n0 L ∧ h = h0)) T0 0 #[.val (.ref a), .val (.double x1), .second, .val (.double x3), .second, .val (.double x5), .second] []
  obtain ⟨s1, hs⟩ : ∃ z : UInt64, FP.dsub (4607182418800017408 : UInt64) q2 = z := ⟨_, rfl⟩
  obtain ⟨m1, hm⟩ : ∃ z : UInt64, FP.dmul q2 x3 = z := ⟨_, rfl⟩
  obtain ⟨r1, hr⟩ : ∃ z : UInt64, FP.ddiv m1 x5 = z := ⟨_, rfl⟩
  obtain ⟨x4, hx4⟩ : ∃ z : UInt64, FP.dadd s1 r1 = z := ⟨_, rfl⟩
  obtain ⟨k1, k2, k3, dS⟩ := own_scale one_dy hs hm hr hx4 dB d3 d5 hP bj bc bd bP bE hns
  refine s_aloadN A0 d3_0 (pc' := 1) rfl rfl rfl ?_
  refine g_getF X0 hx hZ hown (hw _ (List.mem_of_getElem? (i := 16) rfl)) Via.refl e0 Fk (hb hby d3_1) (pc' := 4) rfl ?_
  intro T1 X1 e1
  have A1 := wk X1 hx hby
  refine s_dloadN A1 d3_4 (pc' := 5) rfl rfl ?_
  refine s_dconst1 A1 d3_5 (pc' := 6) rfl (v := 4607182418800017408) rfl ?_
  refine s_aloadN A1 d3_6 (pc' := 7) rfl rfl rfl ?_
  refine g_getF X1 hx hZ hown (hw _ (List.mem_of_getElem? (i := 18) rfl)) Via.refl e1 Fb (hb hby d3_7) (pc' := 10) rfl ?_
  intro T2 X2 e2
  have A2 := wk X2 hx hby
  refine s_dsub A2 d3_10 (pc' := 11) rfl hs k1 ?_
  refine s_aloadN A2 d3_11 (pc' := 12) rfl rfl rfl ?_
  refine g_getF X2 hx hZ hown (hw _ (List.mem_of_getElem? (i := 18) rfl)) Via.refl e2 Fb (hb hby d3_12) (pc' := 15) rfl ?_
  intro T3 X3 e3
  have A3 := wk X3 hx hby
  refine s_dloadN A3 d3_15 (pc' := 16) rfl rfl ?_
  refine s_dmul A3 d3_16 (pc' := 17) rfl hm k2 ?_
  refine s_dload A3 d3_17 (pc' := 19) rfl rfl ?_
  refine s_ddiv A3 d3_19 (pc' := 20) rfl hr k3 ?_
  refine s_dadd A3 d3_20 (pc' := 21) rfl hx4 dS.noNaN ?_
  refine g_static X3 hx hZ (y := (⟨"com/example/prox2/prox2/scoring/Bm25", "saturation", "(DDD)D"⟩ : MethodName)) hown (hw _ (List.mem_of_getElem? (i := 27) rfl)) (hw _ (List.mem_of_getElem? (i := 28) rfl)) (hw _ (List.mem_of_getElem? (i := 6) rfl)) (hw _ (List.mem_of_getElem? (i := 29) rfl)) (by decide) (argsL := [(.double q1), (.double x1), (.double x4)]) (rest := []) (c_sath l Z a0 hw [] q1 x1 x4 f ns (4 + E) h0 n0 Z0 dK H1 HD dF dS bf bn (by omega)) pd_0 rfl rfl (hb hby d3_21) e3 (by rw [hml]; rfl) (pc' := 24) rfl (by decide) (W := 0) (Nat.le_of_eq rfl) (by decide) (by decide) (by decide) ?_
  intro v4 T4 L4 X4 hQ4
  have A4 := wk X4 hx hby
  have e4 : T4.heap = T4.heap := rfl
  obtain ⟨w4, rfl, ra4, rb4, N4, hh4⟩ := hQ4
  have e4 : T4.heap = h0 := hh4
  have fr4 := Fr.app N0 N4
  show Go p e below m (Fini s 0 0 (fun v h L => ∃ w x4 : UInt64, v = some (.double w) ∧ Dy ns (4 + E) x4 ∧ (0 < ns → Jvm.FP.Core.val64 w = Jvm.FP.Core.val64 (FP.ddiv x1 x4)) ∧ (ns = 0 → Jvm.FP.Core.DFin w ∧ zv w = zv q1) ∧ Fr n0 L ∧ h = h0)) T4 24 #[.val (.ref a), .val (.double x1), .second, .val (.double x3), .second, .val (.double x5), .second] [(.double w4)]
  exact g_retD X4 hx hlk hret (hb hby d3_24) ⟨_, x4, rfl, dS, ra4, rb4, fr4, e4⟩ (by decide) (by decide)
theorem ef_c_law (m : MethodId) (x0 : Int32) (x1 : Int32) (x2 : Int32) (x3 : Int32) (x4 : Int32) : entryFrame m #[(.int x0), (.int x1), (.int x2), (.int x3), (.int x4)] maxLocals = mkF m 0 #[.val (.int x0), .val (.int x1), .val (.int x2), .val (.int x3), .val (.int x4), .unset, .unset, .unset, .unset, .unset, .unset, .unset, .unset, .unset, .unset, .unset, .unset, .unset, .unset, .unset, .unset, .unset, .unset, .unset, .unset, .unset, .unset, .unset, .unset, .unset, .unset, .unset, .unset] [] := by first | (simp [entryFrame, mkF, argsToLocals, Value.category, maxLocals]; done) | rfl
set_option maxRecDepth 65536 in
set_option maxHeartbeats 40000000 in
theorem c_law (l : Launch) (Z : State) (a0 : Array Value) (hw : ∀ d ∈ tables_1, d.before a0 Z = true) (ws : List Jvm.Cond) (p0 p1 p2 p3 p4 : Int32) (h0 : Heap) (n0 : Nat) (Z0 : n0 ≤ h0.size)  :
    Ctr l Z x code maxLocals ret ws room_1 #[(.int p0), (.int p1), (.int p2), (.int p3), (.int p4)] h0 (fun v h L => v = some (.int 1) ∧ Fr n0 L) := by
  refine enter pn_0 ?_
  intro p e s m below meth c T0 X0 hx hby hml hret hlk hZ hown hnm e0
  have A0 := wk X0 hx hby
  have N0 := Fr.nil n0
  refine goIn (ef_c_law m p0 p1 p2 p3 p4) ?_
  show Go p e below m (Fini s room_1.cells room_1.slots (fun v h L => v = some (.int 1) ∧ Fr n0 L)) T0 0 #[.val (.int p0), .val (.int p1), .val (.int p2), .val (.int p3), .val (.int p4), .unset, .unset, .unset, .unset, .unset, .unset, .unset, .unset, .unset, .unset, .unset, .unset, .unset, .unset, .unset, .unset, .unset, .unset, .unset, .unset, .unset, .unset, .unset, .unset, .unset, .unset, .unset, .unset] []
  refine s_iloadN A0 at_0 (pc' := 1) rfl rfl ?_
  refine s_sipush A0 at_1 (pc' := 4) rfl (v := (4096 : Int32)) (by decide) ?_
  obtain ⟨z1, hz1⟩ : ∃ v : Int32, (p0 &&& (4096 : Int32)) = v := ⟨_, rfl⟩
  have q1 : 0 ≤ z1.toInt ∧ z1.toInt ≤ 4096 := hz1 ▸ iand_b (M := 4096) p0 (4096 : Int32) (by decide) (by decide)
  refine s_iand A0 at_4 (pc' := 5) rfl hz1 ?_
  refine s_ifeq A0 at_5 (pY := 12) (pN := 8) (by decide) (by decide) rfl ?_ ?_
  · intro c5
    replace c5 := iz_eq c5
    refine s_iconst A0 at_12 (pc' := 13) rfl (v := (0 : Int32)) (by decide) ?_
    refine s_istore A0 at_13 (pc' := 15) rfl (ls' := #[.val (.int p0), .val (.int p1), .val (.int p2), .val (.int p3), .val (.int p4), .val (.int (0 : Int32)), .unset, .unset, .unset, .unset, .unset, .unset, .unset, .unset, .unset, .unset, .unset, .unset, .unset, .unset, .unset, .unset, .unset, .unset, .unset, .unset, .unset, .unset, .unset, .unset, .unset, .unset, .unset]) rfl ?_
    refine s_iloadN A0 at_15 (pc' := 16) rfl rfl ?_
    refine s_sipush A0 at_16 (pc' := 19) rfl (v := (4095 : Int32)) (by decide) ?_
    obtain ⟨z2, hz2⟩ : ∃ v : Int32, (p0 &&& (4095 : Int32)) = v := ⟨_, rfl⟩
    have q2 : 0 ≤ z2.toInt ∧ z2.toInt ≤ 4095 := hz2 ▸ iand_b (M := 4095) p0 (4095 : Int32) (by decide) (by decide)
    refine s_iand A0 at_19 (pc' := 20) rfl hz2 ?_
    obtain ⟨z3, hz3⟩ : ∃ v : Int64, z2.toInt64 = v := ⟨_, rfl⟩
    have q3 : z3.toInt = z2.toInt := hz3 ▸ i2l_ex (n := z2.toInt) rfl
    refine s_i2l A0 at_20 (pc' := 21) rfl hz3 ?_
    refine s_lstore A0 at_21 (pc' := 23) rfl (ls' := #[.val (.int p0), .val (.int p1), .val (.int p2), .val (.int p3), .val (.int p4), .val (.int (0 : Int32)), .val (.long z3), .second, .unset, .unset, .unset, .unset, .unset, .unset, .unset, .unset, .unset, .unset, .unset, .unset, .unset, .unset, .unset, .unset, .unset, .unset, .unset, .unset, .unset, .unset, .unset, .unset, .unset]) rfl ?_
    refine s_iloadN A0 at_23 (pc' := 24) rfl rfl ?_
    refine g_ldcI X0 hx hZ (v := (2147483647 : Int32)) hown (hw _ (List.mem_of_getElem? (i := 0) rfl)) (hb hby at_24) (pc' := 26) rfl ?_
    obtain ⟨z4, hz4⟩ : ∃ v : Int32, (p1 &&& (2147483647 : Int32)) = v := ⟨_, rfl⟩
    have q4 : 0 ≤ z4.toInt ∧ z4.toInt ≤ 2147483647 := hz4 ▸ iand_b (M := 2147483647) p1 (2147483647 : Int32) (by decide) (by decide)
    refine s_iand A0 at_26 (pc' := 27) rfl hz4 ?_
    refine s_bipush A0 at_27 (pc' := 29) rfl (v := (17 : Int32)) (by decide) ?_
    obtain ⟨z5, hz5⟩ : ∃ v : Int32, (z4 - (z4 / (17 : Int32)) * (17 : Int32)) = v := ⟨_, rfl⟩
    refine s_irem A0 at_29 (pc' := 30) rfl (by decide) hz5 ?_
    have rb_z5 := own_rem (M := 17) hz5 q4.1 (by decide) (by decide)
    refine s_istore A0 at_30 (pc' := 32) rfl (ls' := #[.val (.int p0), .val (.int p1), .val (.int p2), .val (.int p3), .val (.int p4), .val (.int (0 : Int32)), .val (.long z3), .second, .val (.int z5), .unset, .unset, .unset, .unset, .unset, .unset, .unset, .unset, .unset, .unset, .unset, .unset, .unset, .unset, .unset, .unset, .unset, .unset, .unset, .unset, .unset, .unset, .unset, .unset]) rfl ?_
    refine s_iloadN A0 at_32 (pc' := 33) rfl rfl ?_
    refine g_ldcI X0 hx hZ (v := (65535 : Int32)) hown (hw _ (List.mem_of_getElem? (i := 1) rfl)) (hb hby at_33) (pc' := 35) rfl ?_
    obtain ⟨z6, hz6⟩ : ∃ v : Int32, (p2 &&& (65535 : Int32)) = v := ⟨_, rfl⟩
    have q6 : 0 ≤ z6.toInt ∧ z6.toInt ≤ 65535 := hz6 ▸ iand_b (M := 65535) p2 (65535 : Int32) (by decide) (by decide)
    refine s_iand A0 at_35 (pc' := 36) rfl hz6 ?_
    refine s_iconst A0 at_36 (pc' := 37) rfl (v := (1 : Int32)) (by decide) ?_
    obtain ⟨z7, hz7⟩ : ∃ v : Int32, (z6 + (1 : Int32)) = v := ⟨_, rfl⟩
    have q7 : z7.toInt = (z6.toInt + 1) := hz7 ▸ iadd_ex (n := z6.toInt) (m := 1) rfl (by decide) (by omega)
    refine s_iadd A0 at_37 (pc' := 38) rfl hz7 ?_
    obtain ⟨z8, hz8⟩ : ∃ v : Int64, z7.toInt64 = v := ⟨_, rfl⟩
    have q8 : z8.toInt = (z6.toInt + 1) := hz8 ▸ i2l_ex (n := (z6.toInt + 1)) q7
    refine s_i2l A0 at_38 (pc' := 39) rfl hz8 ?_
    refine s_lstore A0 at_39 (pc' := 41) rfl (ls' := #[.val (.int p0), .val (.int p1), .val (.int p2), .val (.int p3), .val (.int p4), .val (.int (0 : Int32)), .val (.long z3), .second, .val (.int z5), .val (.long z8), .second, .unset, .unset, .unset, .unset, .unset, .unset, .unset, .unset, .unset, .unset, .unset, .unset, .unset, .unset, .unset, .unset, .unset, .unset, .unset, .unset, .unset, .unset]) rfl ?_
    refine s_iloadN A0 at_41 (pc' := 42) rfl rfl ?_
    refine g_ldcI X0 hx hZ (v := (65535 : Int32)) hown (hw _ (List.mem_of_getElem? (i := 1) rfl)) (hb hby at_42) (pc' := 44) rfl ?_
    obtain ⟨z9, hz9⟩ : ∃ v : Int32, (p3 &&& (65535 : Int32)) = v := ⟨_, rfl⟩
    have q9 : 0 ≤ z9.toInt ∧ z9.toInt ≤ 65535 := hz9 ▸ iand_b (M := 65535) p3 (65535 : Int32) (by decide) (by decide)
    refine s_iand A0 at_44 (pc' := 45) rfl hz9 ?_
    obtain ⟨z10, hz10⟩ : ∃ v : Int64, z9.toInt64 = v := ⟨_, rfl⟩
    have q10 : z10.toInt = z9.toInt := hz10 ▸ i2l_ex (n := z9.toInt) rfl
    refine s_i2l A0 at_45 (pc' := 46) rfl hz10 ?_
    refine s_lstore A0 at_46 (pc' := 48) rfl (ls' := #[.val (.int p0), .val (.int p1), .val (.int p2), .val (.int p3), .val (.int p4), .val (.int (0 : Int32)), .val (.long z3), .second, .val (.int z5), .val (.long z8), .second, .val (.long z10), .second, .unset, .unset, .unset, .unset, .unset, .unset, .unset, .unset, .unset, .unset, .unset, .unset, .unset, .unset, .unset, .unset, .unset, .unset, .unset, .unset]) rfl ?_
    refine s_iload A0 at_48 (pc' := 50) rfl rfl ?_
    refine s_sipush A0 at_50 (pc' := 53) rfl (v := (255 : Int32)) (by decide) ?_
    obtain ⟨z11, hz11⟩ : ∃ v : Int32, (p4 &&& (255 : Int32)) = v := ⟨_, rfl⟩
    have q11 : 0 ≤ z11.toInt ∧ z11.toInt ≤ 255 := hz11 ▸ iand_b (M := 255) p4 (255 : Int32) (by decide) (by decide)
    refine s_iand A0 at_53 (pc' := 54) rfl hz11 ?_
    refine s_bipush A0 at_54 (pc' := 56) rfl (v := (16 : Int32)) (by decide) ?_
    obtain ⟨z12, hz12⟩ : ∃ v : Int32, (z11 - (z11 / (16 : Int32)) * (16 : Int32)) = v := ⟨_, rfl⟩
    refine s_irem A0 at_56 (pc' := 57) rfl (by decide) hz12 ?_
    have rb_z12 := own_rem (M := 16) hz12 q11.1 (by decide) (by decide)
    refine s_istore A0 at_57 (pc' := 59) rfl (ls' := #[.val (.int p0), .val (.int p1), .val (.int p2), .val (.int p3), .val (.int p4), .val (.int (0 : Int32)), .val (.long z3), .second, .val (.int z5), .val (.long z8), .second, .val (.long z10), .second, .val (.int z12), .unset, .unset, .unset, .unset, .unset, .unset, .unset, .unset, .unset, .unset, .unset, .unset, .unset, .unset, .unset, .unset, .unset, .unset, .unset]) rfl ?_
    refine s_iload A0 at_59 (pc' := 61) rfl rfl ?_
    refine s_bipush A0 at_61 (pc' := 63) rfl (v := (8 : Int32)) (by decide) ?_
    obtain ⟨z13, hz13⟩ : ∃ v : Int32, (XT.ushr p4 (8 : Int32)) = v := ⟨_, rfl⟩
    refine s_iushr A0 at_63 (pc' := 64) rfl hz13 ?_
    refine s_bipush A0 at_64 (pc' := 66) rfl (v := (7 : Int32)) (by decide) ?_
    obtain ⟨z14, hz14⟩ : ∃ v : Int32, (z13 &&& (7 : Int32)) = v := ⟨_, rfl⟩
    have q14 : 0 ≤ z14.toInt ∧ z14.toInt ≤ 7 := hz14 ▸ iand_b (M := 7) z13 (7 : Int32) (by decide) (by decide)
    refine s_iand A0 at_66 (pc' := 67) rfl hz14 ?_
    refine s_iconst A0 at_67 (pc' := 68) rfl (v := (1 : Int32)) (by decide) ?_
    obtain ⟨z15, hz15⟩ : ∃ v : Int32, (z14 + (1 : Int32)) = v := ⟨_, rfl⟩
    have q15 : z15.toInt = (z14.toInt + 1) := hz15 ▸ iadd_ex (n := z14.toInt) (m := 1) rfl (by decide) (by omega)
    refine s_iadd A0 at_68 (pc' := 69) rfl hz15 ?_
    obtain ⟨z16, hz16⟩ : ∃ v : Int64, z15.toInt64 = v := ⟨_, rfl⟩
    have q16 : z16.toInt = (z14.toInt + 1) := hz16 ▸ i2l_ex (n := (z14.toInt + 1)) q15
    refine s_i2l A0 at_69 (pc' := 70) rfl hz16 ?_
    refine s_lstore A0 at_70 (pc' := 72) rfl (ls' := #[.val (.int p0), .val (.int p1), .val (.int p2), .val (.int p3), .val (.int p4), .val (.int (0 : Int32)), .val (.long z3), .second, .val (.int z5), .val (.long z8), .second, .val (.long z10), .second, .val (.int z12), .val (.long z16), .second, .unset, .unset, .unset, .unset, .unset, .unset, .unset, .unset, .unset, .unset, .unset, .unset, .unset, .unset, .unset, .unset, .unset]) rfl ?_
    refine s_lconst A0 at_72 (pc' := 73) rfl (v := 1) (by decide) ?_
    refine s_iload A0 at_73 (pc' := 75) rfl rfl ?_
    obtain ⟨z17, hz17⟩ : ∃ v : Int64, ((1 : Int64) <<< (z12.toInt64 &&& 63)) = v := ⟨_, rfl⟩
    have qP : z17.toInt = ((2 ^ z12.toInt.toNat : Nat) : Int) := hz17 ▸ own_shl (by omega)
    have bP := own_pw (E := z12.toInt.toNat) (by omega)
    rw [← qP] at bP
    refine s_lshl A0 at_75 (pc' := 76) rfl hz17 ?_
    refine s_lstore A0 at_76 (pc' := 78) rfl (ls' := #[.val (.int p0), .val (.int p1), .val (.int p2), .val (.int p3), .val (.int p4), .val (.int (0 : Int32)), .val (.long z3), .second, .val (.int z5), .val (.long z8), .second, .val (.long z10), .second, .val (.int z12), .val (.long z16), .second, .val (.long z17), .second, .unset, .unset, .unset, .unset, .unset, .unset, .unset, .unset, .unset, .unset, .unset, .unset, .unset, .unset, .unset]) rfl ?_
    refine g_ldcJ X0 hx hZ (v := (16 : Int64)) hown (hw _ (List.mem_of_getElem? (i := 2) rfl)) (hb hby at_78) (pc' := 81) rfl ?_
    refine s_lload A0 at_81 (pc' := 83) rfl rfl ?_
    obtain ⟨z18, hz18⟩ : ∃ v : Int64, ((16 : Int64) * z17) = v := ⟨_, rfl⟩
    have q18 : z18.toInt = (16 * z17.toInt) := hz18 ▸ lmul_ex (n := 16) (m := z17.toInt) (by decide) rfl (by omega)
    refine s_lmul A0 at_83 (pc' := 84) rfl hz18 ?_
    refine s_lstore A0 at_84 (pc' := 86) rfl (ls' := #[.val (.int p0), .val (.int p1), .val (.int p2), .val (.int p3), .val (.int p4), .val (.int (0 : Int32)), .val (.long z3), .second, .val (.int z5), .val (.long z8), .second, .val (.long z10), .second, .val (.int z12), .val (.long z16), .second, .val (.long z17), .second, .val (.long z18), .second, .unset, .unset, .unset, .unset, .unset, .unset, .unset, .unset, .unset, .unset, .unset, .unset, .unset]) rfl ?_
    refine s_bipush A0 at_86 (pc' := 88) rfl (v := (16 : Int32)) (by decide) ?_
    refine s_iload A0 at_88 (pc' := 90) rfl rfl ?_
    obtain ⟨z19, hz19⟩ : ∃ v : Int32, ((16 : Int32) - z5) = v := ⟨_, rfl⟩
    have q19 : z19.toInt = (16 - z5.toInt) := hz19 ▸ isub_ex (n := 16) (m := z5.toInt) (by decide) rfl (by omega)
    refine s_isub A0 at_90 (pc' := 91) rfl hz19 ?_
    obtain ⟨z20, hz20⟩ : ∃ v : Int64, z19.toInt64 = v := ⟨_, rfl⟩
    have q20 : z20.toInt = (16 - z5.toInt) := hz20 ▸ i2l_ex (n := (16 - z5.toInt)) q19
    refine s_i2l A0 at_91 (pc' := 92) rfl hz20 ?_
    refine s_lload A0 at_92 (pc' := 94) rfl rfl ?_
    obtain ⟨z21, hz21⟩ : ∃ v : Int64, (z20 * z17) = v := ⟨_, rfl⟩
    have q21 : z21.toInt = ((16 - z5.toInt) * z17.toInt) := hz21 ▸ lmul_ex (n := (16 - z5.toInt)) (m := z17.toInt) q20 rfl (own_lb (A := 16) (B := 32768) (by omega) (by omega) (by decide))
    refine s_lmul A0 at_94 (pc' := 95) rfl hz21 ?_
    refine s_iload A0 at_95 (pc' := 97) rfl rfl ?_
    obtain ⟨z22, hz22⟩ : ∃ v : Int64, z5.toInt64 = v := ⟨_, rfl⟩
    have q22 : z22.toInt = z5.toInt := hz22 ▸ i2l_ex (n := z5.toInt) rfl
    refine s_i2l A0 at_97 (pc' := 98) rfl hz22 ?_
    refine s_lload A0 at_98 (pc' := 100) rfl rfl ?_
    obtain ⟨z23, hz23⟩ : ∃ v : Int64, (z22 * z10) = v := ⟨_, rfl⟩
    have q23 : z23.toInt = (z5.toInt * z9.toInt) := hz23 ▸ lmul_ex (n := z5.toInt) (m := z9.toInt) q22 q10 (own_lb (A := 16) (B := 65535) (by omega) (by omega) (by decide))
    refine s_lmul A0 at_100 (pc' := 101) rfl hz23 ?_
    obtain ⟨z24, hz24⟩ : ∃ v : Int64, (z21 + z23) = v := ⟨_, rfl⟩
    have q24 : z24.toInt = (((16 - z5.toInt) * z17.toInt) + (z5.toInt * z9.toInt)) := hz24 ▸ ladd_ex (n := ((16 - z5.toInt) * z17.toInt)) (m := (z5.toInt * z9.toInt)) q21 q23 (own_ab (own_mc (A := 16) (B := 32768) (C := 524288) (by omega) (by omega) (by decide)) (own_mc (A := 16) (B := 65535) (C := 1048560) (by omega) (by omega) (by decide)) (by decide))
    refine s_ladd A0 at_101 (pc' := 102) rfl hz24 ?_
    refine s_lstore A0 at_102 (pc' := 104) rfl (ls' := #[.val (.int p0), .val (.int p1), .val (.int p2), .val (.int p3), .val (.int p4), .val (.int (0 : Int32)), .val (.long z3), .second, .val (.int z5), .val (.long z8), .second, .val (.long z10), .second, .val (.int z12), .val (.long z16), .second, .val (.long z17), .second, .val (.long z18), .second, .val (.long z24), .second, .unset, .unset, .unset, .unset, .unset, .unset, .unset, .unset, .unset, .unset, .unset]) rfl ?_
    have hns : z24.toInt = (16 - z5.toInt) * z17.toInt + z5.toInt * z10.toInt := by rw [q24, q10]
    have nsb : 0 ≤ z24.toInt ∧ z24.toInt < 2097152 := by
      have h1 := mb (n := 16 - z5.toInt) (m := z17.toInt) (A := 16) (B := 32768) (by omega) (by omega)
      have h2 := mb (n := z5.toInt) (m := z10.toInt) (A := 16) (B := 65535) (by omega) (by omega)
      rw [hns]; omega
    have hdn := own_den (E := z12.toInt.toNat) (D := z18.toInt) (P := z17.toInt) (by omega) qP
    refine s_iload A0 at_104 (pc' := 106) rfl rfl ?_
    refine s_ifeq A0 at_106 (pY := 115) (pN := 109) (by decide) (by decide) rfl (fun _ => ?_) (fun c => absurd c (by decide))
    refine s_lload A0 at_115 (pc' := 117) rfl rfl ?_
    obtain ⟨z25, hz25⟩ : ∃ v : UInt64, FP.l2d z3 = v := ⟨_, rfl⟩
    have q25 : Dy z3.toInt 0 z25 := hz25 ▸ Dy.l2d' (n := z3.toInt) rfl (by omega)
    refine s_l2d A0 at_117 (pc' := 118) rfl hz25 ?_
    refine g_ldcD X0 hx hZ (v := (4616189618054758400 : UInt64)) hown (hw _ (List.mem_of_getElem? (i := 3) rfl)) (hb hby at_118) (pc' := 121) rfl ?_
    obtain ⟨z26, hz26⟩ : ∃ v : UInt64, (FP.ddiv z25 (4616189618054758400 : UInt64)) = v := ⟨_, rfl⟩
    have q26 : Dy z3.toInt 2 z26 := hz26 ▸ Dy.div q25 own_lit4616189618054758400 (by decide) (by omega) (by omega) (by decide)
    refine s_ddiv A0 at_121 (pc' := 122) rfl hz26 q26.noNaN ?_
    refine s_dstore A0 at_122 (pc' := 124) rfl (ls' := #[.val (.int p0), .val (.int p1), .val (.int p2), .val (.int p3), .val (.int p4), .val (.int (0 : Int32)), .val (.long z3), .second, .val (.int z5), .val (.long z8), .second, .val (.long z10), .second, .val (.int z12), .val (.long z16), .second, .val (.long z17), .second, .val (.long z18), .second, .val (.long z24), .second, .val (.double z26), .second, .unset, .unset, .unset, .unset, .unset, .unset, .unset, .unset, .unset]) rfl ?_
    refine g_new X0 hx hZ hown (hw _ (List.mem_of_getElem? (i := 4) rfl)) (hw _ (List.mem_of_getElem? (i := 5) rfl)) (hw _ (List.mem_of_getElem? (i := 6) rfl)) e0 (hb hby at_124) (pc' := 127) rfl (by decide) (by decide) ?_
    intro T27 h27 a27 X27 e27 E27 ga27 Ex27 D27
    have A27 := wk X27 hx hby
    have la28 : a27 < h27.size := Ex27.lt
    have kp29 := Keep.ext (Keep.refl h0 []) E27
    have F27f0 : Fld Z h27 a27 "com/example/prox2/prox2/scoring/Bm25" "k1" "D" (.double 0) := D27 (Or.inr (hw _ (List.mem_of_getElem? (i := 17) rfl))) (ty := .double) (by decide)
    have F27f1 : Fld Z h27 a27 "com/example/prox2/prox2/scoring/Bm25" "b" "D" (.double 0) := D27 (Or.inr (hw _ (List.mem_of_getElem? (i := 19) rfl))) (ty := .double) (by decide)
    have F27f2 : Fld Z h27 a27 "com/example/prox2/prox2/scoring/Bm25" "k3" "D" (.double 0) := D27 (Or.inr (hw _ (List.mem_of_getElem? (i := 21) rfl))) (ty := .double) (by decide)
    refine s_dup A27 at_127 (pc' := 128) rfl rfl ?_
    refine s_dload A27 at_128 (pc' := 130) rfl rfl ?_
    refine s_iload A27 at_130 (pc' := 132) rfl rfl ?_
    obtain ⟨z30, hz30⟩ : ∃ v : UInt64, FP.i2d z5 = v := ⟨_, rfl⟩
    have q30 : Dy z5.toInt 0 z30 := hz30 ▸ Dy.i2d' (n := z5.toInt) rfl
    refine s_i2d A27 at_132 (pc' := 133) rfl hz30 ?_
    refine g_ldcD X27 hx hZ (v := (4625196817309499392 : UInt64)) hown (hw _ (List.mem_of_getElem? (i := 7) rfl)) (hb hby at_133) (pc' := 136) rfl ?_
    obtain ⟨z31, hz31⟩ : ∃ v : UInt64, (FP.ddiv z30 (4625196817309499392 : UInt64)) = v := ⟨_, rfl⟩
    have q31 : Dy z5.toInt 4 z31 := hz31 ▸ Dy.div q30 own_lit4625196817309499392 (by decide) (by omega) (by omega) (by decide)
    refine s_ddiv A27 at_136 (pc' := 137) rfl hz31 q31.noNaN ?_
    refine g_ldcD X27 hx hZ (v := (4620693217682128896 : UInt64)) hown (hw _ (List.mem_of_getElem? (i := 8) rfl)) (hb hby at_137) (pc' := 140) rfl ?_
    have ge33 : h0.size ≤ a27 := by rw [ga27]; exact (Nat.le_refl _)
    have gn32 : n0 ≤ a27 := Nat.le_trans Z0 ge33
    have sz35 : h0.size ≤ h27.size := E27.1
    have zs34 : n0 ≤ h27.size := Nat.le_trans Z0 sz35
    refine g_special X27 hx hZ (y := (⟨"com/example/prox2/prox2/scoring/Bm25", "<init>", "(DDD)V"⟩ : MethodName)) rfl hown (hw _ (List.mem_of_getElem? (i := 9) rfl)) (hw _ (List.mem_of_getElem? (i := 10) rfl)) (hw _ (List.mem_of_getElem? (i := 6) rfl)) (hw _ (List.mem_of_getElem? (i := 11) rfl)) (by decide) (a := a27) (argsL := [(.double z26), (.double z31), (.double (4620693217682128896 : UInt64))]) (rest := [(.ref a27)]) (c_bm l Z a0 hw [] a27 z26 z31 (4620693217682128896 : UInt64) z3.toInt z5.toInt 8 2 0 h27 n0 zs34 Ex27 gn32 F27f0 F27f1 F27f2 q26 q31 own_lit4620693217682128896 (by omega) (by omega) (by omega)) pd_1 rfl rfl (hb hby at_140) e27 (by rw [hml]; rfl) (pc' := 143) rfl (by decide) (W := 1) (Nat.le_of_eq rfl) (by decide) (by decide) (by decide) ?_
    intro v36 T36 L36 X36 hQ36
    have A36 := wk X36 hx hby
    have e36 : T36.heap = T36.heap := rfl
    obtain ⟨rfl, N36, K36, Ea36, Fk36, Fb36, Fz36⟩ := hQ36
    have kp37 := Keep.trans kp29 K36 (allS (P := fun x => x ∈ [] ∨ h0.size ≤ x) (Or.inr ge33) all0)
    have fr36 := Fr.app N0 N36
    show Go p e below m (Fini s room_1.cells room_1.slots (fun v h L => v = some (.int 1) ∧ Fr n0 L)) T36 143 #[.val (.int p0), .val (.int p1), .val (.int p2), .val (.int p3), .val (.int p4), .val (.int (0 : Int32)), .val (.long z3), .second, .val (.int z5), .val (.long z8), .second, .val (.long z10), .second, .val (.int z12), .val (.long z16), .second, .val (.long z17), .second, .val (.long z18), .second, .val (.long z24), .second, .val (.double z26), .second, .unset, .unset, .unset, .unset, .unset, .unset, .unset, .unset, .unset] [(.ref a27)]
    refine s_astore A36 at_143 (pc' := 145) rfl (ls' := #[.val (.int p0), .val (.int p1), .val (.int p2), .val (.int p3), .val (.int p4), .val (.int (0 : Int32)), .val (.long z3), .second, .val (.int z5), .val (.long z8), .second, .val (.long z10), .second, .val (.int z12), .val (.long z16), .second, .val (.long z17), .second, .val (.long z18), .second, .val (.long z24), .second, .val (.double z26), .second, .val (.ref a27), .unset, .unset, .unset, .unset, .unset, .unset, .unset, .unset]) rfl rfl ?_
    refine s_aload A36 at_145 (pc' := 147) rfl rfl rfl ?_
    refine s_lload A36 at_147 (pc' := 149) rfl rfl ?_
    obtain ⟨z38, hz38⟩ : ∃ v : UInt64, FP.l2d z8 = v := ⟨_, rfl⟩
    have q38 : Dy z8.toInt 0 z38 := hz38 ▸ Dy.l2d' (n := z8.toInt) rfl (by omega)
    refine s_l2d A36 at_149 (pc' := 150) rfl hz38 ?_
    refine s_lload A36 at_150 (pc' := 152) rfl rfl ?_
    refine s_lload A36 at_152 (pc' := 154) rfl rfl ?_
    obtain ⟨z39, hz39⟩ : ∃ v : Int64, (z16 * z10) = v := ⟨_, rfl⟩
    have q39 : z39.toInt = (z16.toInt * z10.toInt) := hz39 ▸ lmul_ex (n := z16.toInt) (m := z10.toInt) rfl rfl (own_lb (A := 8) (B := 65535) (by omega) (by omega) (by decide))
    refine s_lmul A36 at_154 (pc' := 155) rfl hz39 ?_
    obtain ⟨z40, hz40⟩ : ∃ v : UInt64, FP.l2d z39 = v := ⟨_, rfl⟩
    have q40 : Dy (z16.toInt * z10.toInt) 0 z40 := hz40 ▸ Dy.l2d' (n := (z16.toInt * z10.toInt)) q39 (own_nb (own_mc (A := 8) (B := 65535) (C := 524280) (by omega) (by omega) (by decide)) (by decide))
    refine s_l2d A36 at_155 (pc' := 156) rfl hz40 ?_
    refine s_lload A36 at_156 (pc' := 158) rfl rfl ?_
    refine s_lload A36 at_158 (pc' := 160) rfl rfl ?_
    obtain ⟨z41, hz41⟩ : ∃ v : Int64, (z16 * z17) = v := ⟨_, rfl⟩
    have q41 : z41.toInt = (z16.toInt * z17.toInt) := hz41 ▸ lmul_ex (n := z16.toInt) (m := z17.toInt) rfl rfl (own_lb (A := 8) (B := 32768) (by omega) (by omega) (by decide))
    refine s_lmul A36 at_160 (pc' := 161) rfl hz41 ?_
    obtain ⟨z42, hz42⟩ : ∃ v : UInt64, FP.l2d z41 = v := ⟨_, rfl⟩
    have q42 : Dy (z16.toInt * z17.toInt) 0 z42 := hz42 ▸ Dy.l2d' (n := (z16.toInt * z17.toInt)) q41 (own_nb (own_mc (A := 8) (B := 32768) (C := 262144) (by omega) (by omega) (by decide)) (by decide))
    refine s_l2d A36 at_161 (pc' := 162) rfl hz42 ?_
    have sz44 : h0.size ≤ T36.heap.size := (Nat.le_trans sz35 K36.1)
    have zs43 : n0 ≤ T36.heap.size := Nat.le_trans Z0 sz44
    refine g_virtual X36 hx hZ (y := (⟨"com/example/prox2/prox2/scoring/Bm25", "documentWeight", "(DDD)D"⟩ : MethodName)) hown (hw _ (List.mem_of_getElem? (i := 22) rfl)) (hw _ (List.mem_of_getElem? (i := 23) rfl)) (hw _ (List.mem_of_getElem? (i := 25) rfl)) (hw _ (List.mem_of_getElem? (i := 24) rfl)) (hw _ (List.mem_of_getElem? (i := 6) rfl)) (hw _ (List.mem_of_getElem? (i := 26) rfl)) (by decide) Ea36 (argsL := [(.double z38), (.double z40), (.double z42)]) (rest := []) (c_dwn l Z a0 hw [] a27 z38 z40 z42 z26 z31 z3.toInt z8.toInt z5.toInt z16.toInt z10.toInt z17.toInt z24.toInt z12.toInt.toNat T36.heap n0 zs43 q26 (by omega) Fk36 Fb36 q38 q40 q42 q31 qP (by omega) (by omega) (by omega) (by omega) bP (by omega) hns nsb) pd_0 rfl rfl (hb hby at_162) e36 (by rw [hml]; rfl) (pc' := 165) rfl (by decide) (W := 0) (Nat.le_of_eq rfl) (by decide) (by decide) (by decide) ?_
    intro v45 T45 L45 X45 hQ45
    have A45 := wk X45 hx hby
    have e45 : T45.heap = T45.heap := rfl
    obtain ⟨w45, aa45, bb45, rfl, hw45, da45, db45, N45, hh45⟩ := hQ45
    have e45 : T45.heap = T36.heap := hh45
    have fr45 := Fr.app fr36 N45
    show Go p e below m (Fini s room_1.cells room_1.slots (fun v h L => v = some (.int 1) ∧ Fr n0 L)) T45 165 #[.val (.int p0), .val (.int p1), .val (.int p2), .val (.int p3), .val (.int p4), .val (.int (0 : Int32)), .val (.long z3), .second, .val (.int z5), .val (.long z8), .second, .val (.long z10), .second, .val (.int z12), .val (.long z16), .second, .val (.long z17), .second, .val (.long z18), .second, .val (.long z24), .second, .val (.double z26), .second, .val (.ref a27), .unset, .unset, .unset, .unset, .unset, .unset, .unset, .unset] [(.double w45)]
    refine s_dstore A45 at_165 (pc' := 167) rfl (ls' := #[.val (.int p0), .val (.int p1), .val (.int p2), .val (.int p3), .val (.int p4), .val (.int (0 : Int32)), .val (.long z3), .second, .val (.int z5), .val (.long z8), .second, .val (.long z10), .second, .val (.int z12), .val (.long z16), .second, .val (.long z17), .second, .val (.long z18), .second, .val (.long z24), .second, .val (.double z26), .second, .val (.ref a27), .val (.double w45), .second, .unset, .unset, .unset, .unset, .unset, .unset]) rfl ?_
    refine s_iload A45 at_167 (pc' := 169) rfl rfl ?_
    refine s_ifeq A45 at_169 (pY := 202) (pN := 172) (by decide) (by decide) rfl (fun _ => ?_) (fun c => absurd c (by decide))
    refine s_lload A45 at_202 (pc' := 204) rfl rfl ?_
    refine g_ldcJ X45 hx hZ (v := (4 : Int64)) hown (hw _ (List.mem_of_getElem? (i := 30) rfl)) (hb hby at_204) (pc' := 207) rfl ?_
    obtain ⟨z46, hz46⟩ : ∃ v : Int64, (z3 + (4 : Int64)) = v := ⟨_, rfl⟩
    have q46 : z46.toInt = (z3.toInt + 4) := hz46 ▸ ladd_ex (n := z3.toInt) (m := 4) rfl (by decide) (by omega)
    refine s_ladd A45 at_207 (pc' := 208) rfl hz46 ?_
    refine s_lload A45 at_208 (pc' := 210) rfl rfl ?_
    obtain ⟨z47, hz47⟩ : ∃ v : Int64, (z46 * z8) = v := ⟨_, rfl⟩
    have q47 : z47.toInt = ((z3.toInt + 4) * z8.toInt) := hz47 ▸ lmul_ex (n := (z3.toInt + 4)) (m := z8.toInt) q46 rfl (own_lb (A := 4099) (B := 65536) (by omega) (by omega) (by decide))
    refine s_lmul A45 at_210 (pc' := 211) rfl hz47 ?_
    refine s_lload A45 at_211 (pc' := 213) rfl rfl ?_
    obtain ⟨z48, hz48⟩ : ∃ v : Int64, (z47 * z18) = v := ⟨_, rfl⟩
    have q48 : z48.toInt = (((z3.toInt + 4) * z8.toInt) * z18.toInt) := hz48 ▸ lmul_ex (n := ((z3.toInt + 4) * z8.toInt)) (m := z18.toInt) q47 rfl (own_lb (A := 268632064) (B := 524288) (own_mc (A := 4099) (B := 65536) (C := 268632064) (by omega) (by omega) (by decide)) (by omega) (by decide))
    refine s_lmul A45 at_213 (pc' := 214) rfl hz48 ?_
    refine s_lstore A45 at_214 (pc' := 216) rfl (ls' := #[.val (.int p0), .val (.int p1), .val (.int p2), .val (.int p3), .val (.int p4), .val (.int (0 : Int32)), .val (.long z3), .second, .val (.int z5), .val (.long z8), .second, .val (.long z10), .second, .val (.int z12), .val (.long z16), .second, .val (.long z17), .second, .val (.long z18), .second, .val (.long z24), .second, .val (.double z26), .second, .val (.ref a27), .val (.double w45), .second, .unset, .unset, .val (.long z48), .second, .unset, .unset]) rfl ?_
    refine s_lload A45 at_216 (pc' := 218) rfl rfl ?_
    refine s_lload A45 at_218 (pc' := 220) rfl rfl ?_
    obtain ⟨z49, hz49⟩ : ∃ v : Int64, (z3 * z24) = v := ⟨_, rfl⟩
    have q49 : z49.toInt = (z3.toInt * z24.toInt) := hz49 ▸ lmul_ex (n := z3.toInt) (m := z24.toInt) rfl rfl (own_lb (A := 4095) (B := 2097151) (by omega) (by omega) (by decide))
    refine s_lmul A45 at_220 (pc' := 221) rfl hz49 ?_
    refine g_ldcJ X45 hx hZ (v := (4 : Int64)) hown (hw _ (List.mem_of_getElem? (i := 30) rfl)) (hb hby at_221) (pc' := 224) rfl ?_
    refine s_lload A45 at_224 (pc' := 226) rfl rfl ?_
    obtain ⟨z50, hz50⟩ : ∃ v : Int64, ((4 : Int64) * z18) = v := ⟨_, rfl⟩
    have q50 : z50.toInt = (4 * z18.toInt) := hz50 ▸ lmul_ex (n := 4) (m := z18.toInt) (by decide) rfl (by omega)
    refine s_lmul A45 at_226 (pc' := 227) rfl hz50 ?_
    refine s_lload A45 at_227 (pc' := 229) rfl rfl ?_
    obtain ⟨z51, hz51⟩ : ∃ v : Int64, (z50 * z8) = v := ⟨_, rfl⟩
    have q51 : z51.toInt = ((4 * z18.toInt) * z8.toInt) := hz51 ▸ lmul_ex (n := (4 * z18.toInt)) (m := z8.toInt) q50 rfl (own_lb (A := 2097152) (B := 65536) (by omega) (by omega) (by decide))
    refine s_lmul A45 at_229 (pc' := 230) rfl hz51 ?_
    obtain ⟨z52, hz52⟩ : ∃ v : Int64, (z49 + z51) = v := ⟨_, rfl⟩
    have q52 : z52.toInt = ((z3.toInt * z24.toInt) + ((4 * z18.toInt) * z8.toInt)) := hz52 ▸ ladd_ex (n := (z3.toInt * z24.toInt)) (m := ((4 * z18.toInt) * z8.toInt)) q49 q51 (own_ab (own_mc (A := 4095) (B := 2097151) (C := 8587833345) (by omega) (by omega) (by decide)) (own_mc (A := 2097152) (B := 65536) (C := 137438953472) (by omega) (by omega) (by decide)) (by decide))
    refine s_ladd A45 at_230 (pc' := 231) rfl hz52 ?_
    refine s_lstore A45 at_231 (pc' := 233) rfl (ls' := #[.val (.int p0), .val (.int p1), .val (.int p2), .val (.int p3), .val (.int p4), .val (.int (0 : Int32)), .val (.long z3), .second, .val (.int z5), .val (.long z8), .second, .val (.long z10), .second, .val (.int z12), .val (.long z16), .second, .val (.long z17), .second, .val (.long z18), .second, .val (.long z24), .second, .val (.double z26), .second, .val (.ref a27), .val (.double w45), .second, .unset, .unset, .val (.long z48), .second, .val (.long z52), .second]) rfl ?_
    refine s_lload A45 at_233 (pc' := 235) rfl rfl ?_
    obtain ⟨z53, hz53⟩ : ∃ v : UInt64, FP.l2d z48 = v := ⟨_, rfl⟩
    have q53 : Dy (((z3.toInt + 4) * z8.toInt) * z18.toInt) 0 z53 := hz53 ▸ Dy.l2d' (n := (((z3.toInt + 4) * z8.toInt) * z18.toInt)) q48 (own_nb (own_mc (A := 268632064) (B := 524288) (C := 140840567570432) (own_mc (A := 4099) (B := 65536) (C := 268632064) (by omega) (by omega) (by decide)) (by omega) (by decide)) (by decide))
    refine s_l2d A45 at_235 (pc' := 236) rfl hz53 ?_
    refine s_lload A45 at_236 (pc' := 238) rfl rfl ?_
    obtain ⟨z54, hz54⟩ : ∃ v : UInt64, FP.l2d z52 = v := ⟨_, rfl⟩
    have q54 : Dy ((z3.toInt * z24.toInt) + ((4 * z18.toInt) * z8.toInt)) 0 z54 := hz54 ▸ Dy.l2d' (n := ((z3.toInt * z24.toInt) + ((4 * z18.toInt) * z8.toInt))) q52 (own_nb (own_sm (own_mc (A := 4095) (B := 2097151) (C := 8587833345) (by omega) (by omega) (by decide)) (own_mc (A := 2097152) (B := 65536) (C := 137438953472) (by omega) (by omega) (by decide))) (by decide))
    refine s_l2d A45 at_238 (pc' := 239) rfl hz54 ?_
    obtain ⟨z55, hz55⟩ : ∃ v : UInt64, (FP.ddiv z53 z54) = v := ⟨_, rfl⟩
    have q55 : Jvm.FP.Core.DFin z55 := hz55 ▸ div_whole q53 q54 (Int.add_pos_of_nonneg_of_pos (own_mc (A := 4095) (B := 2097151) (C := 8587833345) (by omega) (by omega) (by decide)).1 (Int.mul_pos (by omega) (by omega)))
    refine s_ddiv A45 at_239 (pc' := 240) rfl hz55 (DFin.nn64 q55) ?_
    refine s_dstore A45 at_240 (pc' := 242) rfl (ls' := #[.val (.int p0), .val (.int p1), .val (.int p2), .val (.int p3), .val (.int p4), .val (.int (0 : Int32)), .val (.long z3), .second, .val (.int z5), .val (.long z8), .second, .val (.long z10), .second, .val (.int z12), .val (.long z16), .second, .val (.long z17), .second, .val (.long z18), .second, .val (.long z24), .second, .val (.double z26), .second, .val (.ref a27), .val (.double w45), .second, .val (.double z55), .second, .val (.long z48), .second, .val (.long z52), .second]) rfl ?_
    refine s_dload A45 at_242 (pc' := 244) rfl rfl ?_
    refine s_dload A45 at_244 (pc' := 246) rfl rfl ?_
    refine s_dcmp A45 at_246 (pc' := 247) rfl (show cmpValue (FP.dcmp w45 z55) .l = (0 : Int32) from (by rw [← hw45, ← hz55]; exact own_finN da45 db45 q53 q54 hdn (by omega) (by omega) (by omega) .l)) ?_
    refine s_ifne A45 at_247 (pY := 254) (pN := 250) (by decide) (by decide) rfl (fun c => absurd c (by decide)) (fun _ => ?_)
    refine s_iconst A45 at_250 (pc' := 251) rfl (v := (1 : Int32)) (by decide) ?_
    refine s_goto A45 at_251 (pc' := 255) (by decide) (by decide) ?_
    exact g_retZ X45 hx hlk hret (by decide) (hb hby at_255) ⟨rfl, fr45⟩ (by decide) (by decide)
  · intro c5
    replace c5 := iz_ne c5
    refine s_iconst A0 at_8 (pc' := 9) rfl (v := (1 : Int32)) (by decide) ?_
    refine s_goto A0 at_9 (pc' := 13) (by decide) (by decide) ?_
    refine s_istore A0 at_13 (pc' := 15) rfl (ls' := #[.val (.int p0), .val (.int p1), .val (.int p2), .val (.int p3), .val (.int p4), .val (.int (1 : Int32)), .unset, .unset, .unset, .unset, .unset, .unset, .unset, .unset, .unset, .unset, .unset, .unset, .unset, .unset, .unset, .unset, .unset, .unset, .unset, .unset, .unset, .unset, .unset, .unset, .unset, .unset, .unset]) rfl ?_
    refine s_iloadN A0 at_15 (pc' := 16) rfl rfl ?_
    refine s_sipush A0 at_16 (pc' := 19) rfl (v := (4095 : Int32)) (by decide) ?_
    obtain ⟨z56, hz56⟩ : ∃ v : Int32, (p0 &&& (4095 : Int32)) = v := ⟨_, rfl⟩
    have q56 : 0 ≤ z56.toInt ∧ z56.toInt ≤ 4095 := hz56 ▸ iand_b (M := 4095) p0 (4095 : Int32) (by decide) (by decide)
    refine s_iand A0 at_19 (pc' := 20) rfl hz56 ?_
    obtain ⟨z57, hz57⟩ : ∃ v : Int64, z56.toInt64 = v := ⟨_, rfl⟩
    have q57 : z57.toInt = z56.toInt := hz57 ▸ i2l_ex (n := z56.toInt) rfl
    refine s_i2l A0 at_20 (pc' := 21) rfl hz57 ?_
    refine s_lstore A0 at_21 (pc' := 23) rfl (ls' := #[.val (.int p0), .val (.int p1), .val (.int p2), .val (.int p3), .val (.int p4), .val (.int (1 : Int32)), .val (.long z57), .second, .unset, .unset, .unset, .unset, .unset, .unset, .unset, .unset, .unset, .unset, .unset, .unset, .unset, .unset, .unset, .unset, .unset, .unset, .unset, .unset, .unset, .unset, .unset, .unset, .unset]) rfl ?_
    refine s_iloadN A0 at_23 (pc' := 24) rfl rfl ?_
    refine g_ldcI X0 hx hZ (v := (2147483647 : Int32)) hown (hw _ (List.mem_of_getElem? (i := 0) rfl)) (hb hby at_24) (pc' := 26) rfl ?_
    obtain ⟨z58, hz58⟩ : ∃ v : Int32, (p1 &&& (2147483647 : Int32)) = v := ⟨_, rfl⟩
    have q58 : 0 ≤ z58.toInt ∧ z58.toInt ≤ 2147483647 := hz58 ▸ iand_b (M := 2147483647) p1 (2147483647 : Int32) (by decide) (by decide)
    refine s_iand A0 at_26 (pc' := 27) rfl hz58 ?_
    refine s_bipush A0 at_27 (pc' := 29) rfl (v := (17 : Int32)) (by decide) ?_
    obtain ⟨z59, hz59⟩ : ∃ v : Int32, (z58 - (z58 / (17 : Int32)) * (17 : Int32)) = v := ⟨_, rfl⟩
    refine s_irem A0 at_29 (pc' := 30) rfl (by decide) hz59 ?_
    have rb_z59 := own_rem (M := 17) hz59 q58.1 (by decide) (by decide)
    refine s_istore A0 at_30 (pc' := 32) rfl (ls' := #[.val (.int p0), .val (.int p1), .val (.int p2), .val (.int p3), .val (.int p4), .val (.int (1 : Int32)), .val (.long z57), .second, .val (.int z59), .unset, .unset, .unset, .unset, .unset, .unset, .unset, .unset, .unset, .unset, .unset, .unset, .unset, .unset, .unset, .unset, .unset, .unset, .unset, .unset, .unset, .unset, .unset, .unset]) rfl ?_
    refine s_iloadN A0 at_32 (pc' := 33) rfl rfl ?_
    refine g_ldcI X0 hx hZ (v := (65535 : Int32)) hown (hw _ (List.mem_of_getElem? (i := 1) rfl)) (hb hby at_33) (pc' := 35) rfl ?_
    obtain ⟨z60, hz60⟩ : ∃ v : Int32, (p2 &&& (65535 : Int32)) = v := ⟨_, rfl⟩
    have q60 : 0 ≤ z60.toInt ∧ z60.toInt ≤ 65535 := hz60 ▸ iand_b (M := 65535) p2 (65535 : Int32) (by decide) (by decide)
    refine s_iand A0 at_35 (pc' := 36) rfl hz60 ?_
    refine s_iconst A0 at_36 (pc' := 37) rfl (v := (1 : Int32)) (by decide) ?_
    obtain ⟨z61, hz61⟩ : ∃ v : Int32, (z60 + (1 : Int32)) = v := ⟨_, rfl⟩
    have q61 : z61.toInt = (z60.toInt + 1) := hz61 ▸ iadd_ex (n := z60.toInt) (m := 1) rfl (by decide) (by omega)
    refine s_iadd A0 at_37 (pc' := 38) rfl hz61 ?_
    obtain ⟨z62, hz62⟩ : ∃ v : Int64, z61.toInt64 = v := ⟨_, rfl⟩
    have q62 : z62.toInt = (z60.toInt + 1) := hz62 ▸ i2l_ex (n := (z60.toInt + 1)) q61
    refine s_i2l A0 at_38 (pc' := 39) rfl hz62 ?_
    refine s_lstore A0 at_39 (pc' := 41) rfl (ls' := #[.val (.int p0), .val (.int p1), .val (.int p2), .val (.int p3), .val (.int p4), .val (.int (1 : Int32)), .val (.long z57), .second, .val (.int z59), .val (.long z62), .second, .unset, .unset, .unset, .unset, .unset, .unset, .unset, .unset, .unset, .unset, .unset, .unset, .unset, .unset, .unset, .unset, .unset, .unset, .unset, .unset, .unset, .unset]) rfl ?_
    refine s_iloadN A0 at_41 (pc' := 42) rfl rfl ?_
    refine g_ldcI X0 hx hZ (v := (65535 : Int32)) hown (hw _ (List.mem_of_getElem? (i := 1) rfl)) (hb hby at_42) (pc' := 44) rfl ?_
    obtain ⟨z63, hz63⟩ : ∃ v : Int32, (p3 &&& (65535 : Int32)) = v := ⟨_, rfl⟩
    have q63 : 0 ≤ z63.toInt ∧ z63.toInt ≤ 65535 := hz63 ▸ iand_b (M := 65535) p3 (65535 : Int32) (by decide) (by decide)
    refine s_iand A0 at_44 (pc' := 45) rfl hz63 ?_
    obtain ⟨z64, hz64⟩ : ∃ v : Int64, z63.toInt64 = v := ⟨_, rfl⟩
    have q64 : z64.toInt = z63.toInt := hz64 ▸ i2l_ex (n := z63.toInt) rfl
    refine s_i2l A0 at_45 (pc' := 46) rfl hz64 ?_
    refine s_lstore A0 at_46 (pc' := 48) rfl (ls' := #[.val (.int p0), .val (.int p1), .val (.int p2), .val (.int p3), .val (.int p4), .val (.int (1 : Int32)), .val (.long z57), .second, .val (.int z59), .val (.long z62), .second, .val (.long z64), .second, .unset, .unset, .unset, .unset, .unset, .unset, .unset, .unset, .unset, .unset, .unset, .unset, .unset, .unset, .unset, .unset, .unset, .unset, .unset, .unset]) rfl ?_
    refine s_iload A0 at_48 (pc' := 50) rfl rfl ?_
    refine s_sipush A0 at_50 (pc' := 53) rfl (v := (255 : Int32)) (by decide) ?_
    obtain ⟨z65, hz65⟩ : ∃ v : Int32, (p4 &&& (255 : Int32)) = v := ⟨_, rfl⟩
    have q65 : 0 ≤ z65.toInt ∧ z65.toInt ≤ 255 := hz65 ▸ iand_b (M := 255) p4 (255 : Int32) (by decide) (by decide)
    refine s_iand A0 at_53 (pc' := 54) rfl hz65 ?_
    refine s_bipush A0 at_54 (pc' := 56) rfl (v := (16 : Int32)) (by decide) ?_
    obtain ⟨z66, hz66⟩ : ∃ v : Int32, (z65 - (z65 / (16 : Int32)) * (16 : Int32)) = v := ⟨_, rfl⟩
    refine s_irem A0 at_56 (pc' := 57) rfl (by decide) hz66 ?_
    have rb_z66 := own_rem (M := 16) hz66 q65.1 (by decide) (by decide)
    refine s_istore A0 at_57 (pc' := 59) rfl (ls' := #[.val (.int p0), .val (.int p1), .val (.int p2), .val (.int p3), .val (.int p4), .val (.int (1 : Int32)), .val (.long z57), .second, .val (.int z59), .val (.long z62), .second, .val (.long z64), .second, .val (.int z66), .unset, .unset, .unset, .unset, .unset, .unset, .unset, .unset, .unset, .unset, .unset, .unset, .unset, .unset, .unset, .unset, .unset, .unset, .unset]) rfl ?_
    refine s_iload A0 at_59 (pc' := 61) rfl rfl ?_
    refine s_bipush A0 at_61 (pc' := 63) rfl (v := (8 : Int32)) (by decide) ?_
    obtain ⟨z67, hz67⟩ : ∃ v : Int32, (XT.ushr p4 (8 : Int32)) = v := ⟨_, rfl⟩
    refine s_iushr A0 at_63 (pc' := 64) rfl hz67 ?_
    refine s_bipush A0 at_64 (pc' := 66) rfl (v := (7 : Int32)) (by decide) ?_
    obtain ⟨z68, hz68⟩ : ∃ v : Int32, (z67 &&& (7 : Int32)) = v := ⟨_, rfl⟩
    have q68 : 0 ≤ z68.toInt ∧ z68.toInt ≤ 7 := hz68 ▸ iand_b (M := 7) z67 (7 : Int32) (by decide) (by decide)
    refine s_iand A0 at_66 (pc' := 67) rfl hz68 ?_
    refine s_iconst A0 at_67 (pc' := 68) rfl (v := (1 : Int32)) (by decide) ?_
    obtain ⟨z69, hz69⟩ : ∃ v : Int32, (z68 + (1 : Int32)) = v := ⟨_, rfl⟩
    have q69 : z69.toInt = (z68.toInt + 1) := hz69 ▸ iadd_ex (n := z68.toInt) (m := 1) rfl (by decide) (by omega)
    refine s_iadd A0 at_68 (pc' := 69) rfl hz69 ?_
    obtain ⟨z70, hz70⟩ : ∃ v : Int64, z69.toInt64 = v := ⟨_, rfl⟩
    have q70 : z70.toInt = (z68.toInt + 1) := hz70 ▸ i2l_ex (n := (z68.toInt + 1)) q69
    refine s_i2l A0 at_69 (pc' := 70) rfl hz70 ?_
    refine s_lstore A0 at_70 (pc' := 72) rfl (ls' := #[.val (.int p0), .val (.int p1), .val (.int p2), .val (.int p3), .val (.int p4), .val (.int (1 : Int32)), .val (.long z57), .second, .val (.int z59), .val (.long z62), .second, .val (.long z64), .second, .val (.int z66), .val (.long z70), .second, .unset, .unset, .unset, .unset, .unset, .unset, .unset, .unset, .unset, .unset, .unset, .unset, .unset, .unset, .unset, .unset, .unset]) rfl ?_
    refine s_lconst A0 at_72 (pc' := 73) rfl (v := 1) (by decide) ?_
    refine s_iload A0 at_73 (pc' := 75) rfl rfl ?_
    obtain ⟨z71, hz71⟩ : ∃ v : Int64, ((1 : Int64) <<< (z66.toInt64 &&& 63)) = v := ⟨_, rfl⟩
    have qP : z71.toInt = ((2 ^ z66.toInt.toNat : Nat) : Int) := hz71 ▸ own_shl (by omega)
    have bP := own_pw (E := z66.toInt.toNat) (by omega)
    rw [← qP] at bP
    refine s_lshl A0 at_75 (pc' := 76) rfl hz71 ?_
    refine s_lstore A0 at_76 (pc' := 78) rfl (ls' := #[.val (.int p0), .val (.int p1), .val (.int p2), .val (.int p3), .val (.int p4), .val (.int (1 : Int32)), .val (.long z57), .second, .val (.int z59), .val (.long z62), .second, .val (.long z64), .second, .val (.int z66), .val (.long z70), .second, .val (.long z71), .second, .unset, .unset, .unset, .unset, .unset, .unset, .unset, .unset, .unset, .unset, .unset, .unset, .unset, .unset, .unset]) rfl ?_
    refine g_ldcJ X0 hx hZ (v := (16 : Int64)) hown (hw _ (List.mem_of_getElem? (i := 2) rfl)) (hb hby at_78) (pc' := 81) rfl ?_
    refine s_lload A0 at_81 (pc' := 83) rfl rfl ?_
    obtain ⟨z72, hz72⟩ : ∃ v : Int64, ((16 : Int64) * z71) = v := ⟨_, rfl⟩
    have q72 : z72.toInt = (16 * z71.toInt) := hz72 ▸ lmul_ex (n := 16) (m := z71.toInt) (by decide) rfl (by omega)
    refine s_lmul A0 at_83 (pc' := 84) rfl hz72 ?_
    refine s_lstore A0 at_84 (pc' := 86) rfl (ls' := #[.val (.int p0), .val (.int p1), .val (.int p2), .val (.int p3), .val (.int p4), .val (.int (1 : Int32)), .val (.long z57), .second, .val (.int z59), .val (.long z62), .second, .val (.long z64), .second, .val (.int z66), .val (.long z70), .second, .val (.long z71), .second, .val (.long z72), .second, .unset, .unset, .unset, .unset, .unset, .unset, .unset, .unset, .unset, .unset, .unset, .unset, .unset]) rfl ?_
    refine s_bipush A0 at_86 (pc' := 88) rfl (v := (16 : Int32)) (by decide) ?_
    refine s_iload A0 at_88 (pc' := 90) rfl rfl ?_
    obtain ⟨z73, hz73⟩ : ∃ v : Int32, ((16 : Int32) - z59) = v := ⟨_, rfl⟩
    have q73 : z73.toInt = (16 - z59.toInt) := hz73 ▸ isub_ex (n := 16) (m := z59.toInt) (by decide) rfl (by omega)
    refine s_isub A0 at_90 (pc' := 91) rfl hz73 ?_
    obtain ⟨z74, hz74⟩ : ∃ v : Int64, z73.toInt64 = v := ⟨_, rfl⟩
    have q74 : z74.toInt = (16 - z59.toInt) := hz74 ▸ i2l_ex (n := (16 - z59.toInt)) q73
    refine s_i2l A0 at_91 (pc' := 92) rfl hz74 ?_
    refine s_lload A0 at_92 (pc' := 94) rfl rfl ?_
    obtain ⟨z75, hz75⟩ : ∃ v : Int64, (z74 * z71) = v := ⟨_, rfl⟩
    have q75 : z75.toInt = ((16 - z59.toInt) * z71.toInt) := hz75 ▸ lmul_ex (n := (16 - z59.toInt)) (m := z71.toInt) q74 rfl (own_lb (A := 16) (B := 32768) (by omega) (by omega) (by decide))
    refine s_lmul A0 at_94 (pc' := 95) rfl hz75 ?_
    refine s_iload A0 at_95 (pc' := 97) rfl rfl ?_
    obtain ⟨z76, hz76⟩ : ∃ v : Int64, z59.toInt64 = v := ⟨_, rfl⟩
    have q76 : z76.toInt = z59.toInt := hz76 ▸ i2l_ex (n := z59.toInt) rfl
    refine s_i2l A0 at_97 (pc' := 98) rfl hz76 ?_
    refine s_lload A0 at_98 (pc' := 100) rfl rfl ?_
    obtain ⟨z77, hz77⟩ : ∃ v : Int64, (z76 * z64) = v := ⟨_, rfl⟩
    have q77 : z77.toInt = (z59.toInt * z63.toInt) := hz77 ▸ lmul_ex (n := z59.toInt) (m := z63.toInt) q76 q64 (own_lb (A := 16) (B := 65535) (by omega) (by omega) (by decide))
    refine s_lmul A0 at_100 (pc' := 101) rfl hz77 ?_
    obtain ⟨z78, hz78⟩ : ∃ v : Int64, (z75 + z77) = v := ⟨_, rfl⟩
    have q78 : z78.toInt = (((16 - z59.toInt) * z71.toInt) + (z59.toInt * z63.toInt)) := hz78 ▸ ladd_ex (n := ((16 - z59.toInt) * z71.toInt)) (m := (z59.toInt * z63.toInt)) q75 q77 (own_ab (own_mc (A := 16) (B := 32768) (C := 524288) (by omega) (by omega) (by decide)) (own_mc (A := 16) (B := 65535) (C := 1048560) (by omega) (by omega) (by decide)) (by decide))
    refine s_ladd A0 at_101 (pc' := 102) rfl hz78 ?_
    refine s_lstore A0 at_102 (pc' := 104) rfl (ls' := #[.val (.int p0), .val (.int p1), .val (.int p2), .val (.int p3), .val (.int p4), .val (.int (1 : Int32)), .val (.long z57), .second, .val (.int z59), .val (.long z62), .second, .val (.long z64), .second, .val (.int z66), .val (.long z70), .second, .val (.long z71), .second, .val (.long z72), .second, .val (.long z78), .second, .unset, .unset, .unset, .unset, .unset, .unset, .unset, .unset, .unset, .unset, .unset]) rfl ?_
    have hns : z78.toInt = (16 - z59.toInt) * z71.toInt + z59.toInt * z64.toInt := by rw [q78, q64]
    have nsb : 0 ≤ z78.toInt ∧ z78.toInt < 2097152 := by
      have h1 := mb (n := 16 - z59.toInt) (m := z71.toInt) (A := 16) (B := 32768) (by omega) (by omega)
      have h2 := mb (n := z59.toInt) (m := z64.toInt) (A := 16) (B := 65535) (by omega) (by omega)
      rw [hns]; omega
    have hdn := own_den (E := z66.toInt.toNat) (D := z72.toInt) (P := z71.toInt) (by omega) qP
    refine s_iload A0 at_104 (pc' := 106) rfl rfl ?_
    refine s_ifeq A0 at_106 (pY := 115) (pN := 109) (by decide) (by decide) rfl (fun c => absurd c (by decide)) (fun _ => ?_)
    refine g_ldcD X0 hx hZ (v := (9214364837600034816 : UInt64)) hown (hw _ (List.mem_of_getElem? (i := 31) rfl)) (hb hby at_109) (pc' := 112) rfl ?_
    refine s_goto A0 at_112 (pc' := 122) (by decide) (by decide) ?_
    refine s_dstore A0 at_122 (pc' := 124) rfl (ls' := #[.val (.int p0), .val (.int p1), .val (.int p2), .val (.int p3), .val (.int p4), .val (.int (1 : Int32)), .val (.long z57), .second, .val (.int z59), .val (.long z62), .second, .val (.long z64), .second, .val (.int z66), .val (.long z70), .second, .val (.long z71), .second, .val (.long z72), .second, .val (.long z78), .second, .val (.double (9214364837600034816 : UInt64)), .second, .unset, .unset, .unset, .unset, .unset, .unset, .unset, .unset, .unset]) rfl ?_
    obtain ⟨kx, hkx, dK, H1, HD⟩ := own_Kall
    rw [← hkx]
    refine g_new X0 hx hZ hown (hw _ (List.mem_of_getElem? (i := 4) rfl)) (hw _ (List.mem_of_getElem? (i := 5) rfl)) (hw _ (List.mem_of_getElem? (i := 6) rfl)) e0 (hb hby at_124) (pc' := 127) rfl (by decide) (by decide) ?_
    intro T79 h79 a79 X79 e79 E79 ga79 Ex79 D79
    have A79 := wk X79 hx hby
    have la80 : a79 < h79.size := Ex79.lt
    have kp81 := Keep.ext (Keep.refl h0 []) E79
    have F79f0 : Fld Z h79 a79 "com/example/prox2/prox2/scoring/Bm25" "k1" "D" (.double 0) := D79 (Or.inr (hw _ (List.mem_of_getElem? (i := 17) rfl))) (ty := .double) (by decide)
    have F79f1 : Fld Z h79 a79 "com/example/prox2/prox2/scoring/Bm25" "b" "D" (.double 0) := D79 (Or.inr (hw _ (List.mem_of_getElem? (i := 19) rfl))) (ty := .double) (by decide)
    have F79f2 : Fld Z h79 a79 "com/example/prox2/prox2/scoring/Bm25" "k3" "D" (.double 0) := D79 (Or.inr (hw _ (List.mem_of_getElem? (i := 21) rfl))) (ty := .double) (by decide)
    refine s_dup A79 at_127 (pc' := 128) rfl rfl ?_
    refine s_dload A79 at_128 (pc' := 130) rfl rfl ?_
    refine s_iload A79 at_130 (pc' := 132) rfl rfl ?_
    obtain ⟨z82, hz82⟩ : ∃ v : UInt64, FP.i2d z59 = v := ⟨_, rfl⟩
    have q82 : Dy z59.toInt 0 z82 := hz82 ▸ Dy.i2d' (n := z59.toInt) rfl
    refine s_i2d A79 at_132 (pc' := 133) rfl hz82 ?_
    refine g_ldcD X79 hx hZ (v := (4625196817309499392 : UInt64)) hown (hw _ (List.mem_of_getElem? (i := 7) rfl)) (hb hby at_133) (pc' := 136) rfl ?_
    obtain ⟨z83, hz83⟩ : ∃ v : UInt64, (FP.ddiv z82 (4625196817309499392 : UInt64)) = v := ⟨_, rfl⟩
    have q83 : Dy z59.toInt 4 z83 := hz83 ▸ Dy.div q82 own_lit4625196817309499392 (by decide) (by omega) (by omega) (by decide)
    refine s_ddiv A79 at_136 (pc' := 137) rfl hz83 q83.noNaN ?_
    refine g_ldcD X79 hx hZ (v := (4620693217682128896 : UInt64)) hown (hw _ (List.mem_of_getElem? (i := 8) rfl)) (hb hby at_137) (pc' := 140) rfl ?_
    have ge85 : h0.size ≤ a79 := by rw [ga79]; exact (Nat.le_refl _)
    have gn84 : n0 ≤ a79 := Nat.le_trans Z0 ge85
    have sz87 : h0.size ≤ h79.size := E79.1
    have zs86 : n0 ≤ h79.size := Nat.le_trans Z0 sz87
    refine g_special X79 hx hZ (y := (⟨"com/example/prox2/prox2/scoring/Bm25", "<init>", "(DDD)V"⟩ : MethodName)) rfl hown (hw _ (List.mem_of_getElem? (i := 9) rfl)) (hw _ (List.mem_of_getElem? (i := 10) rfl)) (hw _ (List.mem_of_getElem? (i := 6) rfl)) (hw _ (List.mem_of_getElem? (i := 11) rfl)) (by decide) (a := a79) (argsL := [(.double kx), (.double z83), (.double (4620693217682128896 : UInt64))]) (rest := [(.ref a79)]) (c_bm l Z a0 hw [] a79 kx z83 (4620693217682128896 : UInt64) KK z59.toInt 8 0 0 h79 n0 zs86 Ex79 gn84 F79f0 F79f1 F79f2 dK q83 own_lit4620693217682128896 (Int.le_of_lt KK_pos) (by omega) (by omega)) pd_1 rfl rfl (hb hby at_140) e79 (by rw [hml]; rfl) (pc' := 143) rfl (by decide) (W := 1) (Nat.le_of_eq rfl) (by decide) (by decide) (by decide) ?_
    intro v88 T88 L88 X88 hQ88
    have A88 := wk X88 hx hby
    have e88 : T88.heap = T88.heap := rfl
    obtain ⟨rfl, N88, K88, Ea88, Fk88, Fb88, Fz88⟩ := hQ88
    have kp89 := Keep.trans kp81 K88 (allS (P := fun x => x ∈ [] ∨ h0.size ≤ x) (Or.inr ge85) all0)
    have fr88 := Fr.app N0 N88
    show Go p e below m (Fini s room_1.cells room_1.slots (fun v h L => v = some (.int 1) ∧ Fr n0 L)) T88 143 #[.val (.int p0), .val (.int p1), .val (.int p2), .val (.int p3), .val (.int p4), .val (.int (1 : Int32)), .val (.long z57), .second, .val (.int z59), .val (.long z62), .second, .val (.long z64), .second, .val (.int z66), .val (.long z70), .second, .val (.long z71), .second, .val (.long z72), .second, .val (.long z78), .second, .val (.double kx), .second, .unset, .unset, .unset, .unset, .unset, .unset, .unset, .unset, .unset] [(.ref a79)]
    refine s_astore A88 at_143 (pc' := 145) rfl (ls' := #[.val (.int p0), .val (.int p1), .val (.int p2), .val (.int p3), .val (.int p4), .val (.int (1 : Int32)), .val (.long z57), .second, .val (.int z59), .val (.long z62), .second, .val (.long z64), .second, .val (.int z66), .val (.long z70), .second, .val (.long z71), .second, .val (.long z72), .second, .val (.long z78), .second, .val (.double kx), .second, .val (.ref a79), .unset, .unset, .unset, .unset, .unset, .unset, .unset, .unset]) rfl rfl ?_
    refine s_aload A88 at_145 (pc' := 147) rfl rfl rfl ?_
    refine s_lload A88 at_147 (pc' := 149) rfl rfl ?_
    obtain ⟨z90, hz90⟩ : ∃ v : UInt64, FP.l2d z62 = v := ⟨_, rfl⟩
    have q90 : Dy z62.toInt 0 z90 := hz90 ▸ Dy.l2d' (n := z62.toInt) rfl (by omega)
    refine s_l2d A88 at_149 (pc' := 150) rfl hz90 ?_
    refine s_lload A88 at_150 (pc' := 152) rfl rfl ?_
    refine s_lload A88 at_152 (pc' := 154) rfl rfl ?_
    obtain ⟨z91, hz91⟩ : ∃ v : Int64, (z70 * z64) = v := ⟨_, rfl⟩
    have q91 : z91.toInt = (z70.toInt * z64.toInt) := hz91 ▸ lmul_ex (n := z70.toInt) (m := z64.toInt) rfl rfl (own_lb (A := 8) (B := 65535) (by omega) (by omega) (by decide))
    refine s_lmul A88 at_154 (pc' := 155) rfl hz91 ?_
    obtain ⟨z92, hz92⟩ : ∃ v : UInt64, FP.l2d z91 = v := ⟨_, rfl⟩
    have q92 : Dy (z70.toInt * z64.toInt) 0 z92 := hz92 ▸ Dy.l2d' (n := (z70.toInt * z64.toInt)) q91 (own_nb (own_mc (A := 8) (B := 65535) (C := 524280) (by omega) (by omega) (by decide)) (by decide))
    refine s_l2d A88 at_155 (pc' := 156) rfl hz92 ?_
    refine s_lload A88 at_156 (pc' := 158) rfl rfl ?_
    refine s_lload A88 at_158 (pc' := 160) rfl rfl ?_
    obtain ⟨z93, hz93⟩ : ∃ v : Int64, (z70 * z71) = v := ⟨_, rfl⟩
    have q93 : z93.toInt = (z70.toInt * z71.toInt) := hz93 ▸ lmul_ex (n := z70.toInt) (m := z71.toInt) rfl rfl (own_lb (A := 8) (B := 32768) (by omega) (by omega) (by decide))
    refine s_lmul A88 at_160 (pc' := 161) rfl hz93 ?_
    obtain ⟨z94, hz94⟩ : ∃ v : UInt64, FP.l2d z93 = v := ⟨_, rfl⟩
    have q94 : Dy (z70.toInt * z71.toInt) 0 z94 := hz94 ▸ Dy.l2d' (n := (z70.toInt * z71.toInt)) q93 (own_nb (own_mc (A := 8) (B := 32768) (C := 262144) (by omega) (by omega) (by decide)) (by decide))
    refine s_l2d A88 at_161 (pc' := 162) rfl hz94 ?_
    have sz96 : h0.size ≤ T88.heap.size := (Nat.le_trans sz87 K88.1)
    have zs95 : n0 ≤ T88.heap.size := Nat.le_trans Z0 sz96
    refine g_virtual X88 hx hZ (y := (⟨"com/example/prox2/prox2/scoring/Bm25", "documentWeight", "(DDD)D"⟩ : MethodName)) hown (hw _ (List.mem_of_getElem? (i := 22) rfl)) (hw _ (List.mem_of_getElem? (i := 23) rfl)) (hw _ (List.mem_of_getElem? (i := 25) rfl)) (hw _ (List.mem_of_getElem? (i := 24) rfl)) (hw _ (List.mem_of_getElem? (i := 6) rfl)) (hw _ (List.mem_of_getElem? (i := 26) rfl)) (by decide) Ea88 (argsL := [(.double z90), (.double z92), (.double z94)]) (rest := []) (c_dwh l Z a0 hw [] a79 z90 z92 z94 kx z83 z57.toInt z62.toInt z59.toInt z70.toInt z64.toInt z71.toInt z78.toInt z66.toInt.toNat T88.heap n0 zs95 dK H1 HD Fk88 Fb88 q90 q92 q94 q83 qP (by omega) (by omega) (by omega) (by omega) bP (by omega) hns nsb) pd_0 rfl rfl (hb hby at_162) e88 (by rw [hml]; rfl) (pc' := 165) rfl (by decide) (W := 0) (Nat.le_of_eq rfl) (by decide) (by decide) (by decide) ?_
    intro v97 T97 L97 X97 hQ97
    have A97 := wk X97 hx hby
    have e97 : T97.heap = T97.heap := rfl
    obtain ⟨w97, x497, rfl, dS97, ra97, rb97, N97, hh97⟩ := hQ97
    have e97 : T97.heap = T88.heap := hh97
    have fr97 := Fr.app fr88 N97
    show Go p e below m (Fini s room_1.cells room_1.slots (fun v h L => v = some (.int 1) ∧ Fr n0 L)) T97 165 #[.val (.int p0), .val (.int p1), .val (.int p2), .val (.int p3), .val (.int p4), .val (.int (1 : Int32)), .val (.long z57), .second, .val (.int z59), .val (.long z62), .second, .val (.long z64), .second, .val (.int z66), .val (.long z70), .second, .val (.long z71), .second, .val (.long z72), .second, .val (.long z78), .second, .val (.double kx), .second, .val (.ref a79), .unset, .unset, .unset, .unset, .unset, .unset, .unset, .unset] [(.double w97)]
    refine s_dstore A97 at_165 (pc' := 167) rfl (ls' := #[.val (.int p0), .val (.int p1), .val (.int p2), .val (.int p3), .val (.int p4), .val (.int (1 : Int32)), .val (.long z57), .second, .val (.int z59), .val (.long z62), .second, .val (.long z64), .second, .val (.int z66), .val (.long z70), .second, .val (.long z71), .second, .val (.long z72), .second, .val (.long z78), .second, .val (.double kx), .second, .val (.ref a79), .val (.double w97), .second, .unset, .unset, .unset, .unset, .unset, .unset]) rfl ?_
    refine s_iload A97 at_167 (pc' := 169) rfl rfl ?_
    refine s_ifeq A97 at_169 (pY := 202) (pN := 172) (by decide) (by decide) rfl (fun c => absurd c (by decide)) (fun _ => ?_)
    refine s_lload A97 at_172 (pc' := 174) rfl rfl ?_
    refine s_lconst A97 at_174 (pc' := 175) rfl (v := 0) (by decide) ?_
    refine s_lcmp A97 at_175 (pc' := 176) rfl (cmpL_ex (n := z78.toInt) (m := 0) rfl (by decide)) ?_
    refine s_ifne A97 at_176 (pY := 187) (pN := 179) (by decide) (by decide) rfl ?_ ?_
    · intro c176
      replace c176 := cmpI_ne c176
      refine s_lload A97 at_187 (pc' := 189) rfl rfl ?_
      refine s_lload A97 at_189 (pc' := 191) rfl rfl ?_
      obtain ⟨z98, hz98⟩ : ∃ v : Int64, (z62 * z72) = v := ⟨_, rfl⟩
      have q98 : z98.toInt = (z62.toInt * z72.toInt) := hz98 ▸ lmul_ex (n := z62.toInt) (m := z72.toInt) rfl rfl (own_lb (A := 65536) (B := 524288) (by omega) (by omega) (by decide))
      refine s_lmul A97 at_191 (pc' := 192) rfl hz98 ?_
      obtain ⟨z99, hz99⟩ : ∃ v : UInt64, FP.l2d z98 = v := ⟨_, rfl⟩
      have q99 : Dy (z62.toInt * z72.toInt) 0 z99 := hz99 ▸ Dy.l2d' (n := (z62.toInt * z72.toInt)) q98 (own_nb (own_mc (A := 65536) (B := 524288) (C := 34359738368) (by omega) (by omega) (by decide)) (by decide))
      refine s_l2d A97 at_192 (pc' := 193) rfl hz99 ?_
      refine s_lload A97 at_193 (pc' := 195) rfl rfl ?_
      obtain ⟨z100, hz100⟩ : ∃ v : UInt64, FP.l2d z78 = v := ⟨_, rfl⟩
      have q100 : Dy z78.toInt 0 z100 := hz100 ▸ Dy.l2d' (n := z78.toInt) rfl (by omega)
      refine s_l2d A97 at_195 (pc' := 196) rfl hz100 ?_
      obtain ⟨z101, hz101⟩ : ∃ v : UInt64, (FP.ddiv z99 z100) = v := ⟨_, rfl⟩
      have q101 : Jvm.FP.Core.DFin z101 := hz101 ▸ div_whole q99 q100 (by omega)
      refine s_ddiv A97 at_196 (pc' := 197) rfl hz101 (DFin.nn64 q101) ?_
      refine s_dstore A97 at_197 (pc' := 199) rfl (ls' := #[.val (.int p0), .val (.int p1), .val (.int p2), .val (.int p3), .val (.int p4), .val (.int (1 : Int32)), .val (.long z57), .second, .val (.int z59), .val (.long z62), .second, .val (.long z64), .second, .val (.int z66), .val (.long z70), .second, .val (.long z71), .second, .val (.long z72), .second, .val (.long z78), .second, .val (.double kx), .second, .val (.ref a79), .val (.double w97), .second, .val (.double z101), .second, .unset, .unset, .unset, .unset]) rfl ?_
      refine s_goto A97 at_199 (pc' := 242) (by decide) (by decide) ?_
      refine s_dload A97 at_242 (pc' := 244) rfl rfl ?_
      refine s_dload A97 at_244 (pc' := 246) rfl rfl ?_
      refine s_dcmp A97 at_246 (pc' := 247) rfl (show cmpValue (FP.dcmp w97 z101) .l = (0 : Int32) from (by rw [← hz101]; exact own_finH (ra97 (by omega)) q90 dS97 q99 q100 hdn (by omega) (by omega) .l)) ?_
      refine s_ifne A97 at_247 (pY := 254) (pN := 250) (by decide) (by decide) rfl (fun c => absurd c (by decide)) (fun _ => ?_)
      refine s_iconst A97 at_250 (pc' := 251) rfl (v := (1 : Int32)) (by decide) ?_
      refine s_goto A97 at_251 (pc' := 255) (by decide) (by decide) ?_
      exact g_retZ X97 hx hlk hret (by decide) (hb hby at_255) ⟨rfl, fr97⟩ (by decide) (by decide)
    · intro c176
      replace c176 := cmpI_eq c176
      refine g_ldcD X97 hx hZ (v := (9214364837600034816 : UInt64)) hown (hw _ (List.mem_of_getElem? (i := 31) rfl)) (hb hby at_179) (pc' := 182) rfl ?_
      refine s_dstore A97 at_182 (pc' := 184) rfl (ls' := #[.val (.int p0), .val (.int p1), .val (.int p2), .val (.int p3), .val (.int p4), .val (.int (1 : Int32)), .val (.long z57), .second, .val (.int z59), .val (.long z62), .second, .val (.long z64), .second, .val (.int z66), .val (.long z70), .second, .val (.long z71), .second, .val (.long z72), .second, .val (.long z78), .second, .val (.double kx), .second, .val (.ref a79), .val (.double w97), .second, .val (.double (9214364837600034816 : UInt64)), .second, .unset, .unset, .unset, .unset]) rfl ?_
      refine s_goto A97 at_184 (pc' := 242) (by decide) (by decide) ?_
      refine s_dload A97 at_242 (pc' := 244) rfl rfl ?_
      refine s_dload A97 at_244 (pc' := 246) rfl rfl ?_
      refine s_dcmp A97 at_246 (pc' := 247) rfl (show cmpValue (FP.dcmp w97 (9214364837600034816 : UInt64)) .l = (0 : Int32) from (eq_zv (rb97 (by omega)).1 own_K.1 ((rb97 (by omega)).2.trans (Dy.same dK own_K)) .l)) ?_
      refine s_ifne A97 at_247 (pY := 254) (pN := 250) (by decide) (by decide) rfl (fun c => absurd c (by decide)) (fun _ => ?_)
      refine s_iconst A97 at_250 (pc' := 251) rfl (v := (1 : Int32)) (by decide) ?_
      refine s_goto A97 at_251 (pc' := 255) (by decide) (by decide) ?_
      exact g_retZ X97 hx hlk hret (by decide) (hb hby at_255) ⟨rfl, fr97⟩ (by decide) (by decide)
set_option maxRecDepth 65536 in
set_option maxHeartbeats 40000000 in
theorem comes_1 {Post : Tables → Env → Array Value → State → Outcome → State → Prop} (hpost : ∀ tb e args s v u, (limb_1_1.after args s (.returned v) u = true ∧ limb_1_2.after args s (.returned v) u = true ∧ True) → FrameEnd s (.returned v) u (Jvm.fieldLocs frame_1_writes args s ++ Jvm.arrayLocs frame_1_arrays args s ++ Jvm.staticLocs frame_1_statics s) 16 128 → Post tb e args s (.returned v) u) :
    ArmFor flags0 classFile x code maxLocals ret World_1 tables_1 room_1 Calls_1 rest_1 Pre_1 Post := by
  intro l hfl _ _ p e ha hc hk s m args below hf hA hF happ hP
  obtain ⟨hcalls, hrest, hpre⟩ := hP
  obtain ⟨-, -, -, hnamed, -, -, -, hat⟩ := (Spec.applies_iff hf).mp happ
  obtain ⟨hg, hn⟩ := and_e (Cond.before_iff.mp (show (Jvm.Cond.and given_1 narrow_1).before args s = true from hpre))
  obtain ⟨h1, g0⟩ := and_e hg
  obtain ⟨w0, w1, w2, w3, w4, rfl⟩ : ∃ w0 w1 w2 w3 w4 : Value, args = #[w0, w1, w2, w3, w4] := by
    have hs : args.size = 5 := by simpa [Cond.value, given_1] using h1
    obtain ⟨L⟩ := args
    match L, hs with
    | [w0, w1, w2, w3, w4], _ => exact ⟨w0, w1, w2, w3, w4, rfl⟩
  have hw := fun d (hd : d ∈ tables_1) => atoms_spec (ws := Jvm.Cond.code x code maxLocals ret :: tables_1) hat d (List.mem_cons_of_mem _ hd)
  have hfit : Fit s := fun {y c} hc i hi => by
    obtain ⟨ha, rfl⟩ := Array.getElem?_eq_some_iff.mp hc
    have q := List.all_eq_true.mp ((Array.all_eq_true_iff_forall_mem.mp hF) _ (Array.getElem_mem ha)) i (List.mem_range.mpr hi)
    simpa [Array.getElem?_eq_getElem hi] using q
  obtain ⟨k0, g1⟩ := and_e g0
  obtain ⟨i0, j0⟩ := is_v k0
  obtain rfl : w0 = (.int i0) := Option.some.inj j0
  obtain ⟨k1, g2⟩ := and_e g1
  obtain ⟨i1, j1⟩ := is_v k1
  obtain rfl : w1 = (.int i1) := Option.some.inj j1
  obtain ⟨k2, g3⟩ := and_e g2
  obtain ⟨i2, j2⟩ := is_v k2
  obtain rfl : w2 = (.int i2) := Option.some.inj j2
  obtain ⟨k3, g4⟩ := and_e g3
  obtain ⟨i3, j3⟩ := is_v k3
  obtain rfl : w3 = (.int i3) := Option.some.inj j3
  obtain ⟨i4, j4⟩ := is_v g4
  obtain rfl : w4 = (.int i4) := Option.some.inj j4
  obtain ⟨n, o, r1, r2, r3, _, L, rfl, ⟨rfl, N⟩, hq⟩ := c_law l s _ hw tables_1 i0 i1 i2 i3 i4 s.heap s.heap.size (Nat.le_refl _)  p e ha hc hk s m _ below hf ((Spec.applies_iff_loose hf).mp happ).1 ⟨rfl, State.Warmed39.refl s, rfl⟩ trivial
  refine ⟨n, _, r1, r2, r3, hpost _ _ _ _ _ _ ⟨Cond.after_iff.mpr rfl, Cond.after_iff.mpr (eq_i res_at (Term.int_eval (1)) rfl), trivial⟩ ⟨hq.1, hq.2.1, (hq.2.2.sift fun y hy => Or.inr (N y hy)).mono (by decide) (by decide)⟩⟩
theorem main_1_1 : Claimed_1_1 := comes_1 fun _ _ _ _ _ _ h hF => ⟨h.1, hF⟩
theorem main_1_2 : Claimed_1_2 := comes_1 fun _ _ _ _ _ _ h hF => ⟨h.2.1, hF⟩
end Jvm.Pilot.@@N@@
namespace Jvm.Pilot.@@N@@
open Jvm Jvm.ClassFile Sem Op Lib Jvm.Free Jvm.Stand Jvm.Pilot.@@N@@.Jvm.D
/-! MADE BY PROGRAM (witnessworld.py) out of the Statement's table words and the real class files: 10 classes; the members and pool entries that the words name. The judged class is class 1, her method 1. -/
namespace start1
open Jvm.ClassFile
def u (s : String) : CpInfo := .utf8 (stringToUtf16 s)
/-- a pool by its gaps: so many unusable entries, then the entry; so many at the end -/
def gap : Nat → List CpInfo → List CpInfo
  | 0, r => r
  | n + 1, r => .unusable :: gap n r
def poolList (es : List (Nat × CpInfo)) (last : Nat) : List CpInfo := es.foldr (fun e r => gap e.1 (e.2 :: r)) (gap last [])
def pool (es : List (Nat × CpInfo)) (last : Nat) : Array CpInfo := ⟨poolList es last⟩
def fileOf (pool : Array CpInfo) (this : Nat) (attrs : Array Attribute := #[]) (ms : Array MethodInfo := #[]) (fl : Nat := 33) (sup : Nat := 0) (ifs : Array Nat := #[]) (fds : Array FieldInfo := #[]) : ClassFile where
  minorVersion := 0
  majorVersion := 65
  constantPool := pool
  accessFlags := fl
  thisClass := this
  superClass := sup
  interfaces := ifs
  fields := fds
  methods := ms
  attributes := attrs
def plain (name : String) (sup : Option ClassId) : Class where
  name := name
  kind := .ordinary
  loader := none
  accessFlags := 33
  super := sup
  interfaces := #[]
  cf := none
  fields := #[]
  methods := #[]
  instanceTypes := #[]
  staticTypes := #[]
  resolved := #[]
  callSites := []
  init := .initialized
  statics := none
  mirror := none

def pool0 : Array CpInfo := pool [(5, u "<init>"), (0, u "()V"), (1, .class_ 10), (1, u "java/lang/Object")] 113

def k0c0 : Code := { maxStack := 0, maxLocals := 1, code := object_method_1_code, exceptionTable := #[], attributes := #[] }
def k0m0 : Method := { name := "<init>", desc := "()V", sig := { parameters := [], returnType := none }, accessFlags := 1, code := some k0c0 }
/-- java/lang/Object -/
def k0 : Class := { plain "java/lang/Object" none with
  accessFlags := 33
  interfaces := #[]
  cf := some (fileOf pool0 8 #[] #[{ accessFlags := 1, nameIndex := 5, descriptorIndex := 6, attributes := #[] }] 33 0 #[] #[])
  fields := #[]
  methods := #[k0m0]
  instanceTypes := #[]
  staticTypes := #[]
  resolved := Array.replicate 124 none
  statics := none }

def pool1 : Array CpInfo := pool [(2, .class_ 4), (1, u "java/lang/Object"), (0, u "<init>"), (0, u "()V"), (0, .integer 2147483647), (0, .integer 65535), (0, .long 16), (1, .double 9214364837600034816), (1, .double 4616189618054758400), (1, .class_ 16), (0, u "com/example/prox2/prox2/scoring/Bm25"), (0, .double 4625196817309499392), (1, .double 4620693217682128896), (1, .methodref 15 22), (0, .nameAndType 5 23), (0, u "(DDD)V"), (0, .methodref 15 25), (0, .nameAndType 26 27), (0, u "documentWeight"), (0, u "(DDD)D"), (0, .long 4), (1, .class_ 31), (0, u "com/example/prox2/prox2/scoring/Bm25DocumentWeightPinLaw"), (2, u "law"), (0, u "(IIIII)Z")] 3

def k1m0 : Method := { name := "<init>", desc := "()V", sig := { parameters := [], returnType := none }, accessFlags := 1, code := none }
def k1c1 : Code := { maxStack := 9, maxLocals := 33, code := code, exceptionTable := #[], attributes := #[] }
def k1m1 : Method := { name := "law", desc := "(IIIII)Z", sig := { parameters := [.int, .int, .int, .int, .int], returnType := some .boolean }, accessFlags := 9, code := some k1c1 }
/-- com/example/prox2/prox2/scoring/Bm25DocumentWeightPinLaw -/
def k1 : Class := { plain "com/example/prox2/prox2/scoring/Bm25DocumentWeightPinLaw" (some 0) with
  accessFlags := 49
  interfaces := #[]
  cf := some (fileOf pool1 30 #[] #[{ accessFlags := 1, nameIndex := 5, descriptorIndex := 6, attributes := #[] }, { accessFlags := 9, nameIndex := 34, descriptorIndex := 35, attributes := #[] }] 49 2 #[] #[])
  fields := #[]
  methods := #[k1m0, k1m1]
  instanceTypes := #[]
  staticTypes := #[]
  resolved := Array.replicate 39 none
  statics := none }

def pool2 : Array CpInfo := pool [(2, .class_ 4), (1, u "com/example/prox2/prox2/scoring/RankingModel"), (2, .class_ 8), (0, u "java/lang/Object")] 7

/-- com/example/prox2/prox2/scoring/RankingModel -/
def k2 : Class := { plain "com/example/prox2/prox2/scoring/RankingModel" (some 0) with
  accessFlags := 1537
  interfaces := #[]
  cf := some (fileOf pool2 2 #[] #[] 1537 7 #[] #[])
  fields := #[]
  methods := #[]
  instanceTypes := #[]
  staticTypes := #[]
  resolved := Array.replicate 16 none
  statics := none }

def pool3 : Array CpInfo := pool [(1, .methodref 2 3), (0, .class_ 4), (0, .nameAndType 5 6), (0, u "java/lang/Object"), (0, u "<init>"), (0, u "()V"), (2, .double 9218868437227405312), (12, .fieldref 23 24), (0, .class_ 25), (0, .nameAndType 26 27), (0, u "com/example/prox2/prox2/scoring/Bm25"), (0, u "k1"), (0, u "D"), (0, .fieldref 23 29), (0, .nameAndType 30 27), (0, u "b"), (0, .fieldref 23 32), (0, .nameAndType 33 27), (0, u "k3"), (31, .methodref 23 66), (0, .nameAndType 67 68), (0, u "saturation"), (0, u "(DDD)D"), (10, u "documentWeight"), (0, .class_ 81), (0, u "com/example/prox2/prox2/scoring/RankingModel"), (0, u "DEFAULT_K1"), (3, u "DEFAULT_B"), (2, u "DEFAULT_K3"), (2, u "LARGEST_PLAIN_K1"), (0, u "(DDD)V")] 47

def k3c0 : Code := { maxStack := 4, maxLocals := 7, code := prog_34_method_1_code, exceptionTable := #[], attributes := #[] }
def k3m0 : Method := { name := "<init>", desc := "(DDD)V", sig := { parameters := [.double, .double, .double], returnType := none }, accessFlags := 1, code := some k3c0 }
def k3c1 : Code := { maxStack := 10, maxLocals := 7, code := prog_34_method_3_code, exceptionTable := #[], attributes := #[] }
def k3m1 : Method := { name := "documentWeight", desc := "(DDD)D", sig := { parameters := [.double, .double, .double], returnType := some .double }, accessFlags := 1, code := some k3c1 }
def k3c2 : Code := { maxStack := 10, maxLocals := 12, code := prog_34_method_5_code, exceptionTable := #[], attributes := #[] }
def k3m2 : Method := { name := "saturation", desc := "(DDD)D", sig := { parameters := [.double, .double, .double], returnType := some .double }, accessFlags := 10, code := some k3c2 }
/-- com/example/prox2/prox2/scoring/Bm25 -/
def k3 : Class := { plain "com/example/prox2/prox2/scoring/Bm25" (some 0) with
  accessFlags := 33
  interfaces := #[2]
  cf := some (fileOf pool3 23 #[] #[{ accessFlags := 1, nameIndex := 5, descriptorIndex := 93, attributes := #[] }, { accessFlags := 1, nameIndex := 79, descriptorIndex := 68, attributes := #[] }, { accessFlags := 10, nameIndex := 67, descriptorIndex := 68, attributes := #[] }] 33 2 #[80] #[{ accessFlags := 25, nameIndex := 82, descriptorIndex := 27, attributes := #[] }, { accessFlags := 25, nameIndex := 86, descriptorIndex := 27, attributes := #[] }, { accessFlags := 25, nameIndex := 89, descriptorIndex := 27, attributes := #[] }, { accessFlags := 26, nameIndex := 92, descriptorIndex := 27, attributes := #[] }, { accessFlags := 18, nameIndex := 26, descriptorIndex := 27, attributes := #[] }, { accessFlags := 18, nameIndex := 30, descriptorIndex := 27, attributes := #[] }, { accessFlags := 18, nameIndex := 33, descriptorIndex := 27, attributes := #[] }])
  fields := #[{ name := "DEFAULT_K1", type := .double, accessFlags := 25, slot := 0, constantValue := 0 }, { name := "DEFAULT_B", type := .double, accessFlags := 25, slot := 1, constantValue := 0 }, { name := "DEFAULT_K3", type := .double, accessFlags := 25, slot := 2, constantValue := 0 }, { name := "LARGEST_PLAIN_K1", type := .double, accessFlags := 26, slot := 3, constantValue := 0 }, { name := "k1", type := .double, accessFlags := 18, slot := 0, constantValue := 0 }, { name := "b", type := .double, accessFlags := 18, slot := 1, constantValue := 0 }, { name := "k3", type := .double, accessFlags := 18, slot := 2, constantValue := 0 }]
  methods := #[k3m0, k3m1, k3m2]
  instanceTypes := #[.double, .double, .double]
  staticTypes := #[.double, .double, .double, .double]
  resolved := Array.replicate 141 none
  statics := none }

def pool4 : Array CpInfo := pool [(1, u "java/lang/Cloneable"), (0, .class_ 1), (0, u "java/lang/Object"), (0, .class_ 3)] 3

/-- java/lang/Cloneable -/
def k4 : Class := { plain "java/lang/Cloneable" (some 0) with
  accessFlags := 1537
  interfaces := #[]
  cf := some (fileOf pool4 2 #[] #[] 1537 4 #[] #[])
  fields := #[]
  methods := #[]
  instanceTypes := #[]
  staticTypes := #[]
  resolved := Array.replicate 8 none
  statics := none }

def pool5 : Array CpInfo := pool [(1, u "java/io/Serializable"), (0, .class_ 1), (0, u "java/lang/Object"), (0, .class_ 3)] 3

/-- java/io/Serializable -/
def k5 : Class := { plain "java/io/Serializable" (some 0) with
  accessFlags := 1537
  interfaces := #[]
  cf := some (fileOf pool5 2 #[] #[] 1537 4 #[] #[])
  fields := #[]
  methods := #[]
  instanceTypes := #[]
  staticTypes := #[]
  resolved := Array.replicate 8 none
  statics := none }

/-- the primitive byte -/
def k6 : Class := { plain "byte" none with kind := .primitive 'B', accessFlags := 0x411 }
/-- [B -/
def k7 : Class := { plain "[B" (some 0) with kind := .array 6 .byte, interfaces := #[4, 5], accessFlags := 1041 }

/-- the primitive int -/
def k8 : Class := { plain "int" none with kind := .primitive 'I', accessFlags := 0x411 }
/-- [I -/
def k9 : Class := { plain "[I" (some 0) with kind := .array 8 .int, interfaces := #[4, 5], accessFlags := 1041 }

def heap : Heap := #[]
def classes : Array Class := #[k0, k1, k2, k3, k4, k5, k6, k7, k8, k9]
def interned : List (Array UInt16 × Addr) := []
def slotsUsed : Nat := 0
def theMethod : MethodId := ⟨1, 1⟩
def args0 : Array Value := #[.int 1, .int 2, .int 3, .int 4, .int 5]
def aboutOver (below : List Frame) : State where
  vm := { classes := classes, interned := interned.toArray }
  heap := heap
  slotsUsed := slotsUsed
  threads := #[{ frames := .invoking theMethod args0 :: below }]
def below0 : List Frame := [.native { method := ⟨0, 0⟩, args := #[] }]
def about1 : State := aboutOver below0
def p0 : Program := .bare "" "" ""
def e0 : Env := launch0.env 0 0 0
theorem w_frames : about1.frames = Frame.invoking theMethod args0 :: below0 := rfl
set_option maxRecDepth 65536 in
theorem w_args : argsFit about1.vm theMethod args0 = true := by decide +kernel
set_option maxRecDepth 65536 in
theorem w_heap : heapFits about1 = true := by decide +kernel
set_option maxRecDepth 65536 in
theorem w_runnable : about1.curStatus? = some .runnable := by decide +kernel
set_option maxRecDepth 65536 in
theorem w_alone : about1.alone = true := by decide +kernel
set_option maxRecDepth 65536 in
theorem w_named : about1.methodNamed? x = some theMethod := by decide +kernel
set_option maxRecDepth 65536 in
theorem w_hears : about1.hears theMethod below0 = true := by decide +kernel
set_option maxRecDepth 65536 in
theorem w_ripe : about1.ripe theMethod args0 below0 = true := by decide +kernel
theorem w_running : about1.status = .running := rfl
set_option maxRecDepth 65536 in
theorem w_room : about1.hasRoom e0.platform room_1 = true :=
  launch0.hasRoom_least _ room_1 (by decide +kernel) (by decide +kernel) (by decide +kernel) (by decide +kernel) (by decide +kernel) (by decide +kernel)
theorem allAtoms_all (ts : List Jvm.Cond) (a : Array Jvm.Value) (st : Jvm.State) : (allAtoms ts).before a st = ts.all (fun c => c.before a st) := by
  induction ts with
  | nil => rfl
  | cons c t ih =>
    show (Jvm.Cond.and c (allAtoms t)).before a st = _
    rw [Jvm.Cond.before_and, ih, List.all_cons]
def words1 : List Jvm.Cond := Jvm.Cond.code x code maxLocals ret :: tables_1
/-- a 'code' word, met by the world's own term for the bytes: nothing is compared byte by byte -/
theorem code_word {y : MethodName} {bytes : ByteArray} {mx : Nat} {rt : Option FieldType} {a : Array Value} {s : State} {m : MethodId} {meth : Method} {c : Code} (h1 : s.methodNamed? y = some m) (h2 : s.vm.method? m = some meth) (h3 : meth.code = some c) (h4 : c.code = bytes)
    (h5 : (c.maxLocals == mx && c.exceptionTable.isEmpty && decide (c.maxStack ≤ mostOperands) && decide (meth.sig.returnType = rt) && !meth.locks && decide (parseMethodDescriptor y.desc = some meth.sig)) = true) : (Jvm.Cond.code y bytes mx rt).before a s = true := by
  simp only [Bool.and_eq_true, beq_iff_eq, Bool.not_eq_true', decide_eq_true_eq] at h5
  obtain ⟨⟨⟨⟨⟨g1, g2⟩, g3⟩, g4⟩, g5⟩, g6⟩ := h5
  simp [Cond.before, Cond.holds, Cond.value, h1, h2, h3, h4, g1, g2, g3, g4, g5, g6]
def isCode : Jvm.Cond → Bool
  | .code _ _ _ _ => true
  | _ => false
theorem all_split {L : List Jvm.Cond} {P : Jvm.Cond → Bool} (h1 : L.all (fun c => isCode c || P c) = true) (h2 : ∀ c ∈ L.filter isCode, P c = true) : L.all P = true := by
  refine List.all_eq_true.mpr fun c hc => ?_
  have h := List.all_eq_true.mp h1 c hc
  rcases Bool.eq_false_or_eq_true (isCode c) with hi | hi
  · exact h2 c (List.mem_filter.mpr ⟨hc, hi⟩)
  · simpa [hi] using h
set_option maxRecDepth 65536 in
theorem w_c0 : (Jvm.Cond.code x code maxLocals ret).before args0 about1 = true := code_word (m := ⟨1, 1⟩) (meth := k1m1) (c := k1c1) (by decide +kernel) rfl rfl rfl (by decide +kernel)
set_option maxRecDepth 65536 in
theorem w_c1 : (Jvm.Cond.code ({ cls := "com/example/prox2/prox2/scoring/Bm25", name := "<init>", desc := "(DDD)V" } : Jvm.MethodName) prog_34_method_1_code (7 : Nat) (Option.none : Option Jvm.ClassFile.FieldType)).before args0 about1 = true := code_word (m := ⟨3, 0⟩) (meth := k3m0) (c := k3c0) (by decide +kernel) rfl rfl rfl (by decide +kernel)
set_option maxRecDepth 65536 in
theorem w_c2 : (Jvm.Cond.code ({ cls := "java/lang/Object", name := "<init>", desc := "()V" } : Jvm.MethodName) object_method_1_code (1 : Nat) (Option.none : Option Jvm.ClassFile.FieldType)).before args0 about1 = true := code_word (m := ⟨0, 0⟩) (meth := k0m0) (c := k0c0) (by decide +kernel) rfl rfl rfl (by decide +kernel)
set_option maxRecDepth 65536 in
theorem w_c3 : (Jvm.Cond.code ({ cls := "com/example/prox2/prox2/scoring/Bm25", name := "documentWeight", desc := "(DDD)D" } : Jvm.MethodName) prog_34_method_3_code (7 : Nat) (Option.some Jvm.ClassFile.FieldType.double)).before args0 about1 = true := code_word (m := ⟨3, 1⟩) (meth := k3m1) (c := k3c1) (by decide +kernel) rfl rfl rfl (by decide +kernel)
set_option maxRecDepth 65536 in
theorem w_c4 : (Jvm.Cond.code ({ cls := "com/example/prox2/prox2/scoring/Bm25", name := "saturation", desc := "(DDD)D" } : Jvm.MethodName) prog_34_method_5_code (12 : Nat) (Option.some Jvm.ClassFile.FieldType.double)).before args0 about1 = true := code_word (m := ⟨3, 2⟩) (meth := k3m2) (c := k3c2) (by decide +kernel) rfl rfl rfl (by decide +kernel)
def codes1 : List Jvm.Cond := [Jvm.Cond.code x code maxLocals ret, Jvm.Cond.code ({ cls := "com/example/prox2/prox2/scoring/Bm25", name := "<init>", desc := "(DDD)V" } : Jvm.MethodName) prog_34_method_1_code (7 : Nat) (Option.none : Option Jvm.ClassFile.FieldType), Jvm.Cond.code ({ cls := "java/lang/Object", name := "<init>", desc := "()V" } : Jvm.MethodName) object_method_1_code (1 : Nat) (Option.none : Option Jvm.ClassFile.FieldType), Jvm.Cond.code ({ cls := "com/example/prox2/prox2/scoring/Bm25", name := "documentWeight", desc := "(DDD)D" } : Jvm.MethodName) prog_34_method_3_code (7 : Nat) (Option.some Jvm.ClassFile.FieldType.double), Jvm.Cond.code ({ cls := "com/example/prox2/prox2/scoring/Bm25", name := "saturation", desc := "(DDD)D" } : Jvm.MethodName) prog_34_method_5_code (12 : Nat) (Option.some Jvm.ClassFile.FieldType.double)]
set_option maxRecDepth 65536 in
theorem codes_eq : words1.filter isCode = codes1 := rfl
theorem w_codes : ∀ c ∈ words1.filter isCode, c.before args0 about1 = true := by
  rw [codes_eq]
  intro c hc
  simp only [codes1, List.mem_cons, List.not_mem_nil, or_false] at hc
  rcases hc with rfl | rfl | rfl | rfl | rfl
  · exact w_c0
  · exact w_c1
  · exact w_c2
  · exact w_c3
  · exact w_c4
set_option maxRecDepth 65536 in
theorem w_t1 : (words1.take 24).all (fun c => isCode c || c.before args0 about1) = true := by decide +kernel
set_option maxRecDepth 65536 in
theorem w_t2 : (words1.drop 24).all (fun c => isCode c || c.before args0 about1) = true := by decide +kernel
theorem w_tables : (allAtoms (Jvm.Cond.code x code maxLocals ret :: tables_1)).before args0 about1 = true := by
  rw [allAtoms_all]
  show words1.all (fun c => c.before args0 about1) = true
  refine all_split ?_ w_codes
  rw [← List.take_append_drop 24 words1, List.all_append, w_t1, w_t2]
  rfl
set_option maxRecDepth 65536 in
theorem w_case : (Jvm.Cond.and given_1 narrow_1).before args0 about1 = true := by decide +kernel
theorem w_applies : (headSpec (Jvm.Cond.code x code maxLocals ret :: tables_1) room_1).applies x e0.platform about1 = true :=
  (Spec.applies_iff w_frames).mpr ⟨w_running, w_runnable, w_alone, w_named, w_hears, w_ripe, w_room, w_tables⟩
theorem atStart : AtStart classFile x code maxLocals ret World_1 tables_1 room_1 Calls_1 rest_1 Pre_1 launch0 p0 e0 about1 theMethod args0 below0 :=
  ⟨lists_1, trivial, launch0.admits_env _ _ _, launch0.least_env, fairChoices_fair.cas, fairChoices_fair.clock, w_frames, w_args, w_heap, w_applies, trivial, trivial, w_case⟩
end start1
theorem witness_1 : WitnessClaimed_1 := ⟨start1.p0, start1.e0, start1.about1, start1.theMethod, start1.args0, start1.below0, start1.atStart⟩
end Jvm.Pilot.@@N@@
