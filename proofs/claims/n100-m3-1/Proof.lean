import JvmDerived
import JvmDerived.Pilot.@@N@@Statement
import JvmDerived.Pilot.@@N@@Code
set_option linter.unusedVariables false
set_option linter.unusedSimpArgs false
namespace Jvm.Own
open Sem ClassFile Op Lib Jvm.Stand Jvm.Free Jvm.LawKit Jvm.RoadKit
/-- from here the run comes back, and F says how -/
def Go (p : Program) (e : Env) (below : List Frame) (m : MethodId) (F : Outcome → State → Prop) (T : State) (pc : Nat) (ls : Array Slot) (st : List Value) : Prop :=
  ∃ V o, Steps p.tables e below (T.setTop (mkF m pc ls st)) V ∧ V.status = .running ∧ Ended V below o ∧ F o V
def Fini (s : State) (rc rs : Nat) (Q : Option Value → Heap → List Loc → Prop) (o : Outcome) (V : State) : Prop := ∃ v L, o = .returned v ∧ Q v V.heap L ∧ FrameEnd s o V L rc rs
abbrev Ctr (l : Launch) (Z : State) (y : MethodName) (bytes : ByteArray) (maxL : Nat) (ret : Option FieldType) (ws : List Cond) (rm : Room) (as' : Array Value) (h : Heap) (Q : Option Value → Heap → List Loc → Prop) : Prop :=
  MetFree l y (head1 (Cond.code y bytes maxL ret :: ws) rm) (fun a U => a = as' ∧ Z.Warmed39 U.vm ∧ U.heap = h) (fun _ _ _ _ _ => True) (fun _ U o U' => ∃ v L, o = .returned v ∧ Q v U'.heap L ∧ FrameEnd U o U' L rm.cells rm.slots)
theorem enter {l : Launch} {Z : State} {y : MethodName} {bytes : ByteArray} {maxL : Nat} {ret : Option FieldType} {ws : List Cond} {rm : Room} {as' : Array Value} {h : Heap} {Q : Option Value → Heap → List Loc → Prop} (hpn : plainFor y = true)
    (body : ∀ (p : Program) (e : Env) (s : State) (m : MethodId) (below : List Frame) (meth : Method) (c : Code) (T : State), Stand p l e rm s m as' below meth c T [] 0 0 → p.tables.exec = Jvm.exec → c.code = bytes → c.maxLocals = maxL → meth.sig.returnType = ret → meth.locks = false → Z.Warmed39 s.vm → s.vm.findClass y.cls = some m.cls → meth.name = y.name → T.heap = h →
      ∃ V o, Steps p.tables e below (T.setTop (entryFrame m as' maxL)) V ∧ V.status = .running ∧ Ended V below o ∧ Fini s rm.cells rm.slots Q o V) : Ctr l Z y bytes maxL ret ws rm as' h Q := by
  refine MetFree.of_bodySF hpn hisR ?_
  intro p e s m args below meth c s₁ Bd hml0 hP hK
  obtain ⟨rfl, hZ, hh⟩ := hP
  exact body p e s m below meth c s₁ (Stand.of_body Bd) Bd.exec Bd.bytes hml0 Bd.returns Bd.notSynchronized hZ (findClass_of_methodNamed Bd.named) (name_of_methodNamed Bd.named Bd.method).1 (by rw [← hh, Bd.state]; rfl)
theorem goIn {p : Program} {e : Env} {below : List Frame} {m : MethodId} {F : Outcome → State → Prop} {T : State} {as' : Array Value} {n : Nat} {ls : Array Slot} (q : entryFrame m as' n = mkF m 0 ls []) (k : Go p e below m F T 0 ls []) :
    ∃ V o, Steps p.tables e below (T.setTop (entryFrame m as' n)) V ∧ V.status = .running ∧ Ended V below o ∧ F o V := by rw [q]; exact k
def Wk (p : Program) (below : List Frame) (m : MethodId) (c : Code) (b : ByteArray) (T : State) : Prop := At T m c below ∧ p.tables.exec = Jvm.exec ∧ c.code = b
theorem Go.of {p : Program} {e : Env} {below : List Frame} {m : MethodId} {F : Outcome → State → Prop} {T T' : State} {pc pc' : Nat} {ls ls' : Array Slot} {st st' : List Value} (k : Go p e below m F T' pc' ls' st')
    (q : ∀ t, Steps p.tables e below (T'.setTop (mkF m pc' ls' st')) t → Steps p.tables e below (T.setTop (mkF m pc ls st)) t) : Go p e below m F T pc ls st := by
  obtain ⟨V, o, h1, h2⟩ := k
  exact ⟨V, o, q V h1, h2⟩
section Plain
variable {p : Program} {l : Launch} {e : Env} {R : Room} {s : State} {m : MethodId} {args : Array Value} {below : List Frame} {meth : Method} {c : Code} {T : State} {locs : List Loc} {cells slots : Nat} {Z : State} {a0 : Array Value} {h : Heap} {b : ByteArray} {F : Outcome → State → Prop} {pc pc' : Nat} {ls : Array Slot} {rest : List Value}
theorem wk (X : Stand p l e R s m args below meth c T locs cells slots) (hx : p.tables.exec = Jvm.exec) (hby : c.code = b) : Wk p below m c b T := ⟨X.here, hx, hby⟩
theorem s_iconst {i : Int} {v : Int32} (A : Wk p below m c b T) (hd : decode b pc = .ok (.iconst i, 1)) (hp : pc + 1 = pc') (hv : Int32.ofInt i = v) (k : Go p e below m F T pc' ls (.int v :: rest)) : Go p e below m F T pc ls rest := by
  subst hp hv
  exact k.of fun t k => XS.iconst A.1 A.2.1 rfl (hb A.2.2 hd) k
theorem s_bipush {i : Int} {v : Int32} (A : Wk p below m c b T) (hd : decode b pc = .ok (.bipush i, 2)) (hp : pc + 2 = pc') (hv : (Int8.ofInt i).toInt32 = v) (k : Go p e below m F T pc' ls (.int v :: rest)) : Go p e below m F T pc ls rest := by
  subst hp hv
  exact k.of fun t k => XS.bipush A.1 A.2.1 rfl (hb A.2.2 hd) k
theorem s_sipush {i : Int} {v : Int32} (A : Wk p below m c b T) (hd : decode b pc = .ok (.sipush i, 3)) (hp : pc + 3 = pc') (hv : (Int16.ofInt i).toInt32 = v) (k : Go p e below m F T pc' ls (.int v :: rest)) : Go p e below m F T pc ls rest := by
  subst hp hv
  exact k.of fun t k => XS.sipush A.1 A.2.1 rfl (hb A.2.2 hd) k
theorem s_lconst {i : Fin 2} {v : Int64} (A : Wk p below m c b T) (hd : decode b pc = .ok (.lconst i, 1)) (hp : pc + 1 = pc') (hv : Int64.ofNat i = v) (k : Go p e below m F T pc' ls (.long v :: rest)) : Go p e below m F T pc ls rest := by
  subst hp hv
  exact k.of fun t k => XT.lconst A.1 A.2.1 rfl (hb A.2.2 hd) k
theorem s_dconst0 {v : UInt64} (A : Wk p below m c b T) (hd : decode b pc = .ok (.dconst 0, 1)) (hp : pc + 1 = pc') (hv : FP.dconst0 = v) (k : Go p e below m F T pc' ls (.double v :: rest)) : Go p e below m F T pc ls rest := by
  subst hp hv
  exact k.of fun t k => XS.dconst0 A.1 A.2.1 rfl (hb A.2.2 hd) rfl k
theorem s_dconst1 {v : UInt64} (A : Wk p below m c b T) (hd : decode b pc = .ok (.dconst 1, 1)) (hp : pc + 1 = pc') (hv : FP.dconst1 = v) (k : Go p e below m F T pc' ls (.double v :: rest)) : Go p e below m F T pc ls rest := by
  subst hp hv
  exact k.of fun t k => XS.dconst1 A.1 A.2.1 rfl (hb A.2.2 hd) rfl k
theorem s_aconstNull  (A : Wk p below m c b T) (hd : decode b pc = .ok (.aconst_null, 1)) (hp : pc + 1 = pc')  (k : Go p e below m F T pc' ls (.null :: rest)) : Go p e below m F T pc ls rest := by
  subst hp
  exact k.of fun t k => XS.aconstNull A.1 A.2.1 rfl (hb A.2.2 hd) k
theorem s_iloadN {i : Fin 4} {v : Int32} (A : Wk p below m c b T) (hd : decode b pc = .ok (.iload_n i, 1)) (hp : pc + 1 = pc') (hl : ls[i.val]? = some (.val (.int v))) (k : Go p e below m F T pc' ls (.int v :: rest)) : Go p e below m F T pc ls rest := by
  subst hp
  exact k.of fun t k => XS.iloadN A.1 A.2.1 rfl (hb A.2.2 hd) hl k
theorem s_iload {i : Nat} {v : Int32} (A : Wk p below m c b T) (hd : decode b pc = .ok (.iload i, 2)) (hp : pc + 2 = pc') (hl : ls[i]? = some (.val (.int v))) (k : Go p e below m F T pc' ls (.int v :: rest)) : Go p e below m F T pc ls rest := by
  subst hp
  exact k.of fun t k => XS.iload A.1 A.2.1 rfl (hb A.2.2 hd) hl k
theorem s_lloadN {i : Fin 4} {v : Int64} (A : Wk p below m c b T) (hd : decode b pc = .ok (.lload_n i, 1)) (hp : pc + 1 = pc') (hl : ls[i.val]? = some (.val (.long v))) (k : Go p e below m F T pc' ls (.long v :: rest)) : Go p e below m F T pc ls rest := by
  subst hp
  exact k.of fun t k => XT.lloadN A.1 A.2.1 rfl (hb A.2.2 hd) hl k
theorem s_lload {i : Nat} {v : Int64} (A : Wk p below m c b T) (hd : decode b pc = .ok (.lload i, 2)) (hp : pc + 2 = pc') (hl : ls[i]? = some (.val (.long v))) (k : Go p e below m F T pc' ls (.long v :: rest)) : Go p e below m F T pc ls rest := by
  subst hp
  exact k.of fun t k => XT.lload A.1 A.2.1 rfl (hb A.2.2 hd) hl k
theorem s_dloadN {i : Fin 4} {v : UInt64} (A : Wk p below m c b T) (hd : decode b pc = .ok (.dload_n i, 1)) (hp : pc + 1 = pc') (hl : ls[i.val]? = some (.val (.double v))) (k : Go p e below m F T pc' ls (.double v :: rest)) : Go p e below m F T pc ls rest := by
  subst hp
  exact k.of fun t k => XS.dloadN A.1 A.2.1 rfl (hb A.2.2 hd) hl k
theorem s_dload {i : Nat} {v : UInt64} (A : Wk p below m c b T) (hd : decode b pc = .ok (.dload i, 2)) (hp : pc + 2 = pc') (hl : ls[i]? = some (.val (.double v))) (k : Go p e below m F T pc' ls (.double v :: rest)) : Go p e below m F T pc ls rest := by
  subst hp
  exact k.of fun t k => XS.dload A.1 A.2.1 rfl (hb A.2.2 hd) hl k
theorem s_aloadN {i : Fin 4} {v : Value} (A : Wk p below m c b T) (hd : decode b pc = .ok (.aload_n i, 1)) (hp : pc + 1 = pc') (hl : ls[i.val]? = some (.val v)) (hv : v.isRef = true) (k : Go p e below m F T pc' ls (v :: rest)) : Go p e below m F T pc ls rest := by
  subst hp
  exact k.of fun t k => XS.aloadN A.1 A.2.1 rfl (hb A.2.2 hd) hl hv k
theorem s_aload {i : Nat} {v : Value} (A : Wk p below m c b T) (hd : decode b pc = .ok (.aload i, 2)) (hp : pc + 2 = pc') (hl : ls[i]? = some (.val v)) (hv : v.isRef = true) (k : Go p e below m F T pc' ls (v :: rest)) : Go p e below m F T pc ls rest := by
  subst hp
  exact k.of fun t k => XS.aload A.1 A.2.1 rfl (hb A.2.2 hd) hl hv k
theorem s_istoreN {i : Fin 4} {v : Int32} {ls' : Array Slot} (A : Wk p below m c b T) (hd : decode b pc = .ok (.istore_n i, 1)) (hp : pc + 1 = pc') (hl : storeLocals ls i.val (.int v) = some ls') (k : Go p e below m F T pc' ls' rest) : Go p e below m F T pc ls (.int v :: rest) := by
  subst hp
  exact k.of fun t k => XS.istoreN A.1 A.2.1 rfl (hb A.2.2 hd) rfl hl k
theorem s_istore {i : Nat} {v : Int32} {ls' : Array Slot} (A : Wk p below m c b T) (hd : decode b pc = .ok (.istore i, 2)) (hp : pc + 2 = pc') (hl : storeLocals ls i (.int v) = some ls') (k : Go p e below m F T pc' ls' rest) : Go p e below m F T pc ls (.int v :: rest) := by
  subst hp
  exact k.of fun t k => XS.istore A.1 A.2.1 rfl (hb A.2.2 hd) rfl hl k
theorem s_lstoreN {i : Fin 4} {v : Int64} {ls' : Array Slot} (A : Wk p below m c b T) (hd : decode b pc = .ok (.lstore_n i, 1)) (hp : pc + 1 = pc') (hl : storeLocals ls i.val (.long v) = some ls') (k : Go p e below m F T pc' ls' rest) : Go p e below m F T pc ls (.long v :: rest) := by
  subst hp
  exact k.of fun t k => XT.lstoreN A.1 A.2.1 rfl (hb A.2.2 hd) rfl hl k
theorem s_lstore {i : Nat} {v : Int64} {ls' : Array Slot} (A : Wk p below m c b T) (hd : decode b pc = .ok (.lstore i, 2)) (hp : pc + 2 = pc') (hl : storeLocals ls i (.long v) = some ls') (k : Go p e below m F T pc' ls' rest) : Go p e below m F T pc ls (.long v :: rest) := by
  subst hp
  exact k.of fun t k => XT.lstore A.1 A.2.1 rfl (hb A.2.2 hd) rfl hl k
theorem s_dstoreN {i : Fin 4} {v : UInt64} {ls' : Array Slot} (A : Wk p below m c b T) (hd : decode b pc = .ok (.dstore_n i, 1)) (hp : pc + 1 = pc') (hl : storeLocals ls i.val (.double v) = some ls') (k : Go p e below m F T pc' ls' rest) : Go p e below m F T pc ls (.double v :: rest) := by
  subst hp
  exact k.of fun t k => XS.dstoreN A.1 A.2.1 rfl (hb A.2.2 hd) rfl hl k
theorem s_dstore {i : Nat} {v : UInt64} {ls' : Array Slot} (A : Wk p below m c b T) (hd : decode b pc = .ok (.dstore i, 2)) (hp : pc + 2 = pc') (hl : storeLocals ls i (.double v) = some ls') (k : Go p e below m F T pc' ls' rest) : Go p e below m F T pc ls (.double v :: rest) := by
  subst hp
  exact k.of fun t k => XS.dstore A.1 A.2.1 rfl (hb A.2.2 hd) rfl hl k
theorem s_astoreN {i : Fin 4} {v : Value} {ls' : Array Slot} (A : Wk p below m c b T) (hd : decode b pc = .ok (.astore_n i, 1)) (hp : pc + 1 = pc') (hv : v.isRef = true) (hl : storeLocals ls i.val v = some ls') (k : Go p e below m F T pc' ls' rest) : Go p e below m F T pc ls (v :: rest) := by
  subst hp
  exact k.of fun t k => XS.astoreN A.1 A.2.1 rfl (hb A.2.2 hd) rfl hv hl k
theorem s_astore {i : Nat} {v : Value} {ls' : Array Slot} (A : Wk p below m c b T) (hd : decode b pc = .ok (.astore i, 2)) (hp : pc + 2 = pc') (hv : v.isRef = true) (hl : storeLocals ls i v = some ls') (k : Go p e below m F T pc' ls' rest) : Go p e below m F T pc ls (v :: rest) := by
  subst hp
  exact k.of fun t k => XS.astore A.1 A.2.1 rfl (hb A.2.2 hd) rfl hv hl k
theorem s_iinc {i : Nat} {cst : Int} {x v : Int32} {ls' : Array Slot} (A : Wk p below m c b T) (hd : decode b pc = .ok (.iinc i cst, 3)) (hp : pc + 3 = pc') (hl : ls[i]? = some (.val (.int x))) (hv : x + Int32.ofInt cst = v) (hl' : storeLocals ls i (.int v) = some ls') (k : Go p e below m F T pc' ls' rest) : Go p e below m F T pc ls rest := by
  subst hp hv
  exact k.of fun t k => XS.iinc A.1 A.2.1 rfl (hb A.2.2 hd) hl hl' k
theorem s_iadd {x y v : Int32} (A : Wk p below m c b T) (hd : decode b pc = .ok (.iadd, 1)) (hp : pc + 1 = pc') (hv : x + y = v) (k : Go p e below m F T pc' ls (.int v :: rest)) : Go p e below m F T pc ls (.int y :: .int x :: rest) := by
  subst hp hv
  exact k.of fun t k => XS.iadd A.1 A.2.1 rfl (hb A.2.2 hd) rfl k
theorem s_isub {x y v : Int32} (A : Wk p below m c b T) (hd : decode b pc = .ok (.isub, 1)) (hp : pc + 1 = pc') (hv : x - y = v) (k : Go p e below m F T pc' ls (.int v :: rest)) : Go p e below m F T pc ls (.int y :: .int x :: rest) := by
  subst hp hv
  exact k.of fun t k => XS.isub A.1 A.2.1 rfl (hb A.2.2 hd) rfl k
theorem s_imul {x y v : Int32} (A : Wk p below m c b T) (hd : decode b pc = .ok (.imul, 1)) (hp : pc + 1 = pc') (hv : x * y = v) (k : Go p e below m F T pc' ls (.int v :: rest)) : Go p e below m F T pc ls (.int y :: .int x :: rest) := by
  subst hp hv
  exact k.of fun t k => XS.imul A.1 A.2.1 rfl (hb A.2.2 hd) rfl k
theorem s_iand {x y v : Int32} (A : Wk p below m c b T) (hd : decode b pc = .ok (.iand, 1)) (hp : pc + 1 = pc') (hv : x &&& y = v) (k : Go p e below m F T pc' ls (.int v :: rest)) : Go p e below m F T pc ls (.int y :: .int x :: rest) := by
  subst hp hv
  exact k.of fun t k => XS.iand A.1 A.2.1 rfl (hb A.2.2 hd) rfl k
theorem s_ior {x y v : Int32} (A : Wk p below m c b T) (hd : decode b pc = .ok (.ior, 1)) (hp : pc + 1 = pc') (hv : x ||| y = v) (k : Go p e below m F T pc' ls (.int v :: rest)) : Go p e below m F T pc ls (.int y :: .int x :: rest) := by
  subst hp hv
  exact k.of fun t k => XT.ior A.1 A.2.1 rfl (hb A.2.2 hd) rfl k
theorem s_ixor {x y v : Int32} (A : Wk p below m c b T) (hd : decode b pc = .ok (.ixor, 1)) (hp : pc + 1 = pc') (hv : x ^^^ y = v) (k : Go p e below m F T pc' ls (.int v :: rest)) : Go p e below m F T pc ls (.int y :: .int x :: rest) := by
  subst hp hv
  exact k.of fun t k => XT.ixor A.1 A.2.1 rfl (hb A.2.2 hd) rfl k
theorem s_idiv {x y v : Int32} (A : Wk p below m c b T) (hd : decode b pc = .ok (.idiv, 1)) (hp : pc + 1 = pc') (hy : y ≠ 0) (hv : x / y = v) (k : Go p e below m F T pc' ls (.int v :: rest)) : Go p e below m F T pc ls (.int y :: .int x :: rest) := by
  subst hp hv
  exact k.of fun t k => XS.idiv A.1 A.2.1 rfl (hb A.2.2 hd) rfl hy k
theorem s_irem {x y v : Int32} (A : Wk p below m c b T) (hd : decode b pc = .ok (.irem, 1)) (hp : pc + 1 = pc') (hy : y ≠ 0) (hv : x - (x / y) * y = v) (k : Go p e below m F T pc' ls (.int v :: rest)) : Go p e below m F T pc ls (.int y :: .int x :: rest) := by
  subst hp hv
  exact k.of fun t k => XS.irem A.1 A.2.1 rfl (hb A.2.2 hd) rfl hy k
theorem s_ladd {x y v : Int64} (A : Wk p below m c b T) (hd : decode b pc = .ok (.ladd, 1)) (hp : pc + 1 = pc') (hv : x + y = v) (k : Go p e below m F T pc' ls (.long v :: rest)) : Go p e below m F T pc ls (.long y :: .long x :: rest) := by
  subst hp hv
  exact k.of fun t k => XT.ladd A.1 A.2.1 rfl (hb A.2.2 hd) rfl k
theorem s_lsub {x y v : Int64} (A : Wk p below m c b T) (hd : decode b pc = .ok (.lsub, 1)) (hp : pc + 1 = pc') (hv : x - y = v) (k : Go p e below m F T pc' ls (.long v :: rest)) : Go p e below m F T pc ls (.long y :: .long x :: rest) := by
  subst hp hv
  exact k.of fun t k => XT.lsub A.1 A.2.1 rfl (hb A.2.2 hd) rfl k
theorem s_lmul {x y v : Int64} (A : Wk p below m c b T) (hd : decode b pc = .ok (.lmul, 1)) (hp : pc + 1 = pc') (hv : x * y = v) (k : Go p e below m F T pc' ls (.long v :: rest)) : Go p e below m F T pc ls (.long y :: .long x :: rest) := by
  subst hp hv
  exact k.of fun t k => XT.lmul A.1 A.2.1 rfl (hb A.2.2 hd) rfl k
theorem s_land {x y v : Int64} (A : Wk p below m c b T) (hd : decode b pc = .ok (.land, 1)) (hp : pc + 1 = pc') (hv : x &&& y = v) (k : Go p e below m F T pc' ls (.long v :: rest)) : Go p e below m F T pc ls (.long y :: .long x :: rest) := by
  subst hp hv
  exact k.of fun t k => XT.land A.1 A.2.1 rfl (hb A.2.2 hd) rfl k
theorem s_lor {x y v : Int64} (A : Wk p below m c b T) (hd : decode b pc = .ok (.lor, 1)) (hp : pc + 1 = pc') (hv : x ||| y = v) (k : Go p e below m F T pc' ls (.long v :: rest)) : Go p e below m F T pc ls (.long y :: .long x :: rest) := by
  subst hp hv
  exact k.of fun t k => XT.lor A.1 A.2.1 rfl (hb A.2.2 hd) rfl k
theorem s_lxor {x y v : Int64} (A : Wk p below m c b T) (hd : decode b pc = .ok (.lxor, 1)) (hp : pc + 1 = pc') (hv : x ^^^ y = v) (k : Go p e below m F T pc' ls (.long v :: rest)) : Go p e below m F T pc ls (.long y :: .long x :: rest) := by
  subst hp hv
  exact k.of fun t k => XT.lxor A.1 A.2.1 rfl (hb A.2.2 hd) rfl k
theorem s_ldiv {x y v : Int64} (A : Wk p below m c b T) (hd : decode b pc = .ok (.ldiv, 1)) (hp : pc + 1 = pc') (hy : y ≠ 0) (hv : x / y = v) (k : Go p e below m F T pc' ls (.long v :: rest)) : Go p e below m F T pc ls (.long y :: .long x :: rest) := by
  subst hp hv
  exact k.of fun t k => XT.ldiv A.1 A.2.1 rfl (hb A.2.2 hd) rfl hy k
theorem s_lrem {x y v : Int64} (A : Wk p below m c b T) (hd : decode b pc = .ok (.lrem, 1)) (hp : pc + 1 = pc') (hy : y ≠ 0) (hv : x - (x / y) * y = v) (k : Go p e below m F T pc' ls (.long v :: rest)) : Go p e below m F T pc ls (.long y :: .long x :: rest) := by
  subst hp hv
  exact k.of fun t k => XT.lrem A.1 A.2.1 rfl (hb A.2.2 hd) rfl hy k
theorem s_ishl {x v : Int32} {y : Int32} (A : Wk p below m c b T) (hd : decode b pc = .ok (.ishl, 1)) (hp : pc + 1 = pc') (hv : x <<< (y &&& 31) = v) (k : Go p e below m F T pc' ls (.int v :: rest)) : Go p e below m F T pc ls (.int y :: .int x :: rest) := by
  subst hp hv
  exact k.of fun t k => XT.ishl A.1 A.2.1 rfl (hb A.2.2 hd) rfl k
theorem s_ishr {x v : Int32} {y : Int32} (A : Wk p below m c b T) (hd : decode b pc = .ok (.ishr, 1)) (hp : pc + 1 = pc') (hv : x >>> (y &&& 31) = v) (k : Go p e below m F T pc' ls (.int v :: rest)) : Go p e below m F T pc ls (.int y :: .int x :: rest) := by
  subst hp hv
  exact k.of fun t k => XT.ishr A.1 A.2.1 rfl (hb A.2.2 hd) rfl k
theorem s_iushr {x v : Int32} {y : Int32} (A : Wk p below m c b T) (hd : decode b pc = .ok (.iushr, 1)) (hp : pc + 1 = pc') (hv : XT.ushr x y = v) (k : Go p e below m F T pc' ls (.int v :: rest)) : Go p e below m F T pc ls (.int y :: .int x :: rest) := by
  subst hp hv
  exact k.of fun t k => XT.iushr A.1 A.2.1 rfl (hb A.2.2 hd) rfl k
theorem s_lshl {x v : Int64} {y : Int32} (A : Wk p below m c b T) (hd : decode b pc = .ok (.lshl, 1)) (hp : pc + 1 = pc') (hv : x <<< (y.toInt64 &&& 63) = v) (k : Go p e below m F T pc' ls (.long v :: rest)) : Go p e below m F T pc ls (.int y :: .long x :: rest) := by
  subst hp hv
  exact k.of fun t k => XT.lshl A.1 A.2.1 rfl (hb A.2.2 hd) rfl k
theorem s_lshr {x v : Int64} {y : Int32} (A : Wk p below m c b T) (hd : decode b pc = .ok (.lshr, 1)) (hp : pc + 1 = pc') (hv : x >>> (y.toInt64 &&& 63) = v) (k : Go p e below m F T pc' ls (.long v :: rest)) : Go p e below m F T pc ls (.int y :: .long x :: rest) := by
  subst hp hv
  exact k.of fun t k => XT.lshr A.1 A.2.1 rfl (hb A.2.2 hd) rfl k
theorem s_lushr {x v : Int64} {y : Int32} (A : Wk p below m c b T) (hd : decode b pc = .ok (.lushr, 1)) (hp : pc + 1 = pc') (hv : XT.ushrL x y = v) (k : Go p e below m F T pc' ls (.long v :: rest)) : Go p e below m F T pc ls (.int y :: .long x :: rest) := by
  subst hp hv
  exact k.of fun t k => XT.lushr A.1 A.2.1 rfl (hb A.2.2 hd) rfl k
theorem s_i2b {x v : Int32} (A : Wk p below m c b T) (hd : decode b pc = .ok (.i2b, 1)) (hp : pc + 1 = pc') (hv : x.toInt8.toInt32 = v) (k : Go p e below m F T pc' ls (.int v :: rest)) : Go p e below m F T pc ls (.int x :: rest) := by
  subst hp hv
  exact k.of fun t k => XT.i2b A.1 A.2.1 rfl (hb A.2.2 hd) rfl k
theorem s_i2c {x v : Int32} (A : Wk p below m c b T) (hd : decode b pc = .ok (.i2c, 1)) (hp : pc + 1 = pc') (hv : x.toUInt32.toUInt16.toUInt32.toInt32 = v) (k : Go p e below m F T pc' ls (.int v :: rest)) : Go p e below m F T pc ls (.int x :: rest) := by
  subst hp hv
  exact k.of fun t k => XT.i2c A.1 A.2.1 rfl (hb A.2.2 hd) rfl k
theorem s_i2s {x v : Int32} (A : Wk p below m c b T) (hd : decode b pc = .ok (.i2s, 1)) (hp : pc + 1 = pc') (hv : x.toInt16.toInt32 = v) (k : Go p e below m F T pc' ls (.int v :: rest)) : Go p e below m F T pc ls (.int x :: rest) := by
  subst hp hv
  exact k.of fun t k => XT.i2s A.1 A.2.1 rfl (hb A.2.2 hd) rfl k
theorem s_lneg {x v : Int64} (A : Wk p below m c b T) (hd : decode b pc = .ok (.lneg, 1)) (hp : pc + 1 = pc') (hv : -x = v) (k : Go p e below m F T pc' ls (.long v :: rest)) : Go p e below m F T pc ls (.long x :: rest) := by
  subst hp hv
  exact k.of fun t k => XT.lneg A.1 A.2.1 rfl (hb A.2.2 hd) rfl k
theorem s_dupX1 {x y : Value} (A : Wk p below m c b T) (hd : decode b pc = .ok (.dup_x1, 1)) (hp : pc + 1 = pc') (hc : x.category = 1) (hc' : y.category = 1) (k : Go p e below m F T pc' ls (x :: y :: x :: rest)) : Go p e below m F T pc ls (x :: y :: rest) := by
  subst hp
  exact k.of fun t k => XT.dupX1 A.1 A.2.1 rfl (hb A.2.2 hd) rfl hc hc' k
theorem s_dup2 {x y : Value} (A : Wk p below m c b T) (hd : decode b pc = .ok (.dup2, 1)) (hp : pc + 1 = pc') (hc : x.category = 1) (hc' : y.category = 1) (k : Go p e below m F T pc' ls (x :: y :: x :: y :: rest)) : Go p e below m F T pc ls (x :: y :: rest) := by
  subst hp
  exact k.of fun t k => XT.dup2 A.1 A.2.1 rfl (hb A.2.2 hd) rfl hc hc' k
theorem s_i2l {x : Int32} {v : Int64} (A : Wk p below m c b T) (hd : decode b pc = .ok (.i2l, 1)) (hp : pc + 1 = pc') (hv : x.toInt64 = v) (k : Go p e below m F T pc' ls (.long v :: rest)) : Go p e below m F T pc ls (.int x :: rest) := by
  subst hp hv
  exact k.of fun t k => XT.i2l A.1 A.2.1 rfl (hb A.2.2 hd) rfl k
theorem s_l2i {x : Int64} {v : Int32} (A : Wk p below m c b T) (hd : decode b pc = .ok (.l2i, 1)) (hp : pc + 1 = pc') (hv : x.toInt32 = v) (k : Go p e below m F T pc' ls (.int v :: rest)) : Go p e below m F T pc ls (.long x :: rest) := by
  subst hp hv
  exact k.of fun t k => XT.l2i A.1 A.2.1 rfl (hb A.2.2 hd) rfl k
theorem s_ineg {x v : Int32} (A : Wk p below m c b T) (hd : decode b pc = .ok (.ineg, 1)) (hp : pc + 1 = pc') (hv : -x = v) (k : Go p e below m F T pc' ls (.int v :: rest)) : Go p e below m F T pc ls (.int x :: rest) := by
  subst hp hv
  exact k.of fun t k => XS.ineg A.1 A.2.1 rfl (hb A.2.2 hd) rfl k
theorem s_i2d {x : Int32} {v : UInt64} (A : Wk p below m c b T) (hd : decode b pc = .ok (.i2d, 1)) (hp : pc + 1 = pc') (hv : FP.i2d x = v) (k : Go p e below m F T pc' ls (.double v :: rest)) : Go p e below m F T pc ls (.int x :: rest) := by
  subst hp hv
  exact k.of fun t k => XS.i2dS A.1 A.2.1 rfl (hb A.2.2 hd) rfl rfl k
theorem s_l2d {x : Int64} {v : UInt64} (A : Wk p below m c b T) (hd : decode b pc = .ok (.l2d, 1)) (hp : pc + 1 = pc') (hv : FP.l2d x = v) (k : Go p e below m F T pc' ls (.double v :: rest)) : Go p e below m F T pc ls (.long x :: rest) := by
  subst hp hv
  exact k.of fun t k => XS.l2dS A.1 A.2.1 rfl (hb A.2.2 hd) rfl rfl k
theorem s_dneg {x v : UInt64} (A : Wk p below m c b T) (hd : decode b pc = .ok (.dneg, 1)) (hp : pc + 1 = pc') (hv : FP.dneg x = v) (k : Go p e below m F T pc' ls (.double v :: rest)) : Go p e below m F T pc ls (.double x :: rest) := by
  subst hp hv
  exact k.of fun t k => XS.dnegS A.1 A.2.1 rfl (hb A.2.2 hd) rfl rfl k
theorem s_dadd {x y v : UInt64} (A : Wk p below m c b T) (hd : decode b pc = .ok (.dadd, 1)) (hp : pc + 1 = pc') (hv : FP.dadd x y = v) (hn : Jvm.Free.Fl.NoNaN64 v) (k : Go p e below m F T pc' ls (.double v :: rest)) : Go p e below m F T pc ls (.double y :: .double x :: rest) := by
  subst hp hv
  exact k.of fun t k => XS.daddS A.1 A.2.1 rfl (hb A.2.2 hd) rfl hn rfl k
theorem s_dsub {x y v : UInt64} (A : Wk p below m c b T) (hd : decode b pc = .ok (.dsub, 1)) (hp : pc + 1 = pc') (hv : FP.dsub x y = v) (hn : Jvm.Free.Fl.NoNaN64 v) (k : Go p e below m F T pc' ls (.double v :: rest)) : Go p e below m F T pc ls (.double y :: .double x :: rest) := by
  subst hp hv
  exact k.of fun t k => XS.dsubS A.1 A.2.1 rfl (hb A.2.2 hd) rfl hn rfl k
theorem s_dmul {x y v : UInt64} (A : Wk p below m c b T) (hd : decode b pc = .ok (.dmul, 1)) (hp : pc + 1 = pc') (hv : FP.dmul x y = v) (hn : Jvm.Free.Fl.NoNaN64 v) (k : Go p e below m F T pc' ls (.double v :: rest)) : Go p e below m F T pc ls (.double y :: .double x :: rest) := by
  subst hp hv
  exact k.of fun t k => XS.dmulS A.1 A.2.1 rfl (hb A.2.2 hd) rfl hn rfl k
theorem s_ddiv {x y v : UInt64} (A : Wk p below m c b T) (hd : decode b pc = .ok (.ddiv, 1)) (hp : pc + 1 = pc') (hv : FP.ddiv x y = v) (hn : Jvm.Free.Fl.NoNaN64 v) (k : Go p e below m F T pc' ls (.double v :: rest)) : Go p e below m F T pc ls (.double y :: .double x :: rest) := by
  subst hp hv
  exact k.of fun t k => XS.ddivS A.1 A.2.1 rfl (hb A.2.2 hd) rfl hn rfl k
theorem s_dcmp {o : CmpOp} {x y : UInt64} {v : Int32} (A : Wk p below m c b T) (hd : decode b pc = .ok (.dcmp o, 1)) (hp : pc + 1 = pc') (hv : cmpValue (FP.dcmp x y) o = v) (k : Go p e below m F T pc' ls (.int v :: rest)) : Go p e below m F T pc ls (.double y :: .double x :: rest) := by
  subst hp hv
  exact k.of fun t k => XS.dcmpS A.1 A.2.1 rfl (hb A.2.2 hd) rfl rfl k
theorem s_lcmp {x y : Int64} {v : Int32} (A : Wk p below m c b T) (hd : decode b pc = .ok (.lcmp, 1)) (hp : pc + 1 = pc') (hv : XT.cmpL x y = v) (k : Go p e below m F T pc' ls (.int v :: rest)) : Go p e below m F T pc ls (.long y :: .long x :: rest) := by
  subst hp hv
  exact k.of fun t k => XT.lcmp A.1 A.2.1 rfl (hb A.2.2 hd) rfl k
theorem s_dup {x : Value} (A : Wk p below m c b T) (hd : decode b pc = .ok (.dup, 1)) (hp : pc + 1 = pc') (hc : x.category = 1) (k : Go p e below m F T pc' ls (x :: x :: rest)) : Go p e below m F T pc ls (x :: rest) := by
  subst hp
  exact k.of fun t k => XS.dup A.1 A.2.1 rfl (hb A.2.2 hd) rfl hc k
theorem s_pop {x : Value} (A : Wk p below m c b T) (hd : decode b pc = .ok (.pop, 1)) (hp : pc + 1 = pc') (hc : x.category = 1) (k : Go p e below m F T pc' ls rest) : Go p e below m F T pc ls (x :: rest) := by
  subst hp
  exact k.of fun t k => XT.pop A.1 A.2.1 rfl (hb A.2.2 hd) rfl hc k
theorem s_goto {o : Int} (A : Wk p below m c b T) (hd : decode b pc = .ok (.goto o, 3)) (ho : 0 ≤ (pc : Int) + o) (hp : ((pc : Int) + o).toNat = pc') {st : List Value} (k : Go p e below m F T pc' ls st) : Go p e below m F T pc ls st := by
  exact k.of fun t k => XS.goto A.1 A.2.1 rfl rfl (hb A.2.2 hd) ho hp k
theorem n32_lt {x y : Int32} (h : ¬ x < y) : x ≥ y := Int32.not_lt.mp h
theorem n32_le {x y : Int32} (h : ¬ x ≤ y) : x > y := Int32.not_le.mp h
theorem s_ifeq {o : Int} {pY pN : Nat} {x : Int32} (A : Wk p below m c b T) (hd : decode b pc = .ok (.ifCond .eq o, 3)) (ho : 0 ≤ (pc : Int) + o) (hY : ((pc : Int) + o).toNat = pY) (hN : pc + 3 = pN) (kY : x = 0 → Go p e below m F T pY ls rest) (kN : x ≠ 0 → Go p e below m F T pN ls rest) : Go p e below m F T pc ls (.int x :: rest) := by
  subst hN
  cases q : ifCond.holds .eq x with
  | true => exact (kY (beq_iff_eq.mp q)).of fun t k => XS.ifYes A.1 A.2.1 rfl rfl (hb A.2.2 hd) rfl q ho hY k
  | false => exact (kN (beq_eq_false_iff_ne.mp q)).of fun t k => XS.ifNo A.1 A.2.1 rfl (hb A.2.2 hd) rfl q k
theorem s_ifne {o : Int} {pY pN : Nat} {x : Int32} (A : Wk p below m c b T) (hd : decode b pc = .ok (.ifCond .ne o, 3)) (ho : 0 ≤ (pc : Int) + o) (hY : ((pc : Int) + o).toNat = pY) (hN : pc + 3 = pN) (kY : x ≠ 0 → Go p e below m F T pY ls rest) (kN : x = 0 → Go p e below m F T pN ls rest) : Go p e below m F T pc ls (.int x :: rest) := by
  subst hN
  cases q : ifCond.holds .ne x with
  | true => exact (kY (bne_iff_ne.mp q)).of fun t k => XS.ifYes A.1 A.2.1 rfl rfl (hb A.2.2 hd) rfl q ho hY k
  | false => exact (kN (bne_eq_false_iff_eq.mp q)).of fun t k => XS.ifNo A.1 A.2.1 rfl (hb A.2.2 hd) rfl q k
theorem s_iflt {o : Int} {pY pN : Nat} {x : Int32} (A : Wk p below m c b T) (hd : decode b pc = .ok (.ifCond .lt o, 3)) (ho : 0 ≤ (pc : Int) + o) (hY : ((pc : Int) + o).toNat = pY) (hN : pc + 3 = pN) (kY : x < 0 → Go p e below m F T pY ls rest) (kN : x ≥ 0 → Go p e below m F T pN ls rest) : Go p e below m F T pc ls (.int x :: rest) := by
  subst hN
  cases q : ifCond.holds .lt x with
  | true => exact (kY (of_decide_eq_true q)).of fun t k => XS.ifYes A.1 A.2.1 rfl rfl (hb A.2.2 hd) rfl q ho hY k
  | false => exact (kN (n32_lt (of_decide_eq_false q))).of fun t k => XS.ifNo A.1 A.2.1 rfl (hb A.2.2 hd) rfl q k
theorem s_ifge {o : Int} {pY pN : Nat} {x : Int32} (A : Wk p below m c b T) (hd : decode b pc = .ok (.ifCond .ge o, 3)) (ho : 0 ≤ (pc : Int) + o) (hY : ((pc : Int) + o).toNat = pY) (hN : pc + 3 = pN) (kY : x ≥ 0 → Go p e below m F T pY ls rest) (kN : x < 0 → Go p e below m F T pN ls rest) : Go p e below m F T pc ls (.int x :: rest) := by
  subst hN
  cases q : ifCond.holds .ge x with
  | true => exact (kY (of_decide_eq_true q)).of fun t k => XS.ifYes A.1 A.2.1 rfl rfl (hb A.2.2 hd) rfl q ho hY k
  | false => exact (kN (n32_le (of_decide_eq_false q))).of fun t k => XS.ifNo A.1 A.2.1 rfl (hb A.2.2 hd) rfl q k
theorem s_ifgt {o : Int} {pY pN : Nat} {x : Int32} (A : Wk p below m c b T) (hd : decode b pc = .ok (.ifCond .gt o, 3)) (ho : 0 ≤ (pc : Int) + o) (hY : ((pc : Int) + o).toNat = pY) (hN : pc + 3 = pN) (kY : x > 0 → Go p e below m F T pY ls rest) (kN : x ≤ 0 → Go p e below m F T pN ls rest) : Go p e below m F T pc ls (.int x :: rest) := by
  subst hN
  cases q : ifCond.holds .gt x with
  | true => exact (kY (of_decide_eq_true q)).of fun t k => XS.ifYes A.1 A.2.1 rfl rfl (hb A.2.2 hd) rfl q ho hY k
  | false => exact (kN (n32_lt (of_decide_eq_false q))).of fun t k => XS.ifNo A.1 A.2.1 rfl (hb A.2.2 hd) rfl q k
theorem s_ifle {o : Int} {pY pN : Nat} {x : Int32} (A : Wk p below m c b T) (hd : decode b pc = .ok (.ifCond .le o, 3)) (ho : 0 ≤ (pc : Int) + o) (hY : ((pc : Int) + o).toNat = pY) (hN : pc + 3 = pN) (kY : x ≤ 0 → Go p e below m F T pY ls rest) (kN : x > 0 → Go p e below m F T pN ls rest) : Go p e below m F T pc ls (.int x :: rest) := by
  subst hN
  cases q : ifCond.holds .le x with
  | true => exact (kY (of_decide_eq_true q)).of fun t k => XS.ifYes A.1 A.2.1 rfl rfl (hb A.2.2 hd) rfl q ho hY k
  | false => exact (kN (n32_le (of_decide_eq_false q))).of fun t k => XS.ifNo A.1 A.2.1 rfl (hb A.2.2 hd) rfl q k
theorem s_icmpeq {o : Int} {pY pN : Nat} {x y : Int32} (A : Wk p below m c b T) (hd : decode b pc = .ok (.if_icmp .eq o, 3)) (ho : 0 ≤ (pc : Int) + o) (hY : ((pc : Int) + o).toNat = pY) (hN : pc + 3 = pN) (kY : x = y → Go p e below m F T pY ls rest) (kN : x ≠ y → Go p e below m F T pN ls rest) : Go p e below m F T pc ls (.int y :: .int x :: rest) := by
  subst hN
  cases q : if_icmp.holds .eq x y with
  | true => exact (kY (beq_iff_eq.mp q)).of fun t k => XS.icmpYes A.1 A.2.1 rfl rfl (hb A.2.2 hd) rfl q ho hY k
  | false => exact (kN (beq_eq_false_iff_ne.mp q)).of fun t k => XS.icmpNo A.1 A.2.1 rfl (hb A.2.2 hd) rfl q k
theorem s_icmpne {o : Int} {pY pN : Nat} {x y : Int32} (A : Wk p below m c b T) (hd : decode b pc = .ok (.if_icmp .ne o, 3)) (ho : 0 ≤ (pc : Int) + o) (hY : ((pc : Int) + o).toNat = pY) (hN : pc + 3 = pN) (kY : x ≠ y → Go p e below m F T pY ls rest) (kN : x = y → Go p e below m F T pN ls rest) : Go p e below m F T pc ls (.int y :: .int x :: rest) := by
  subst hN
  cases q : if_icmp.holds .ne x y with
  | true => exact (kY (bne_iff_ne.mp q)).of fun t k => XS.icmpYes A.1 A.2.1 rfl rfl (hb A.2.2 hd) rfl q ho hY k
  | false => exact (kN (bne_eq_false_iff_eq.mp q)).of fun t k => XS.icmpNo A.1 A.2.1 rfl (hb A.2.2 hd) rfl q k
theorem s_icmplt {o : Int} {pY pN : Nat} {x y : Int32} (A : Wk p below m c b T) (hd : decode b pc = .ok (.if_icmp .lt o, 3)) (ho : 0 ≤ (pc : Int) + o) (hY : ((pc : Int) + o).toNat = pY) (hN : pc + 3 = pN) (kY : x < y → Go p e below m F T pY ls rest) (kN : x ≥ y → Go p e below m F T pN ls rest) : Go p e below m F T pc ls (.int y :: .int x :: rest) := by
  subst hN
  cases q : if_icmp.holds .lt x y with
  | true => exact (kY (of_decide_eq_true q)).of fun t k => XS.icmpYes A.1 A.2.1 rfl rfl (hb A.2.2 hd) rfl q ho hY k
  | false => exact (kN (n32_lt (of_decide_eq_false q))).of fun t k => XS.icmpNo A.1 A.2.1 rfl (hb A.2.2 hd) rfl q k
theorem s_icmpge {o : Int} {pY pN : Nat} {x y : Int32} (A : Wk p below m c b T) (hd : decode b pc = .ok (.if_icmp .ge o, 3)) (ho : 0 ≤ (pc : Int) + o) (hY : ((pc : Int) + o).toNat = pY) (hN : pc + 3 = pN) (kY : x ≥ y → Go p e below m F T pY ls rest) (kN : x < y → Go p e below m F T pN ls rest) : Go p e below m F T pc ls (.int y :: .int x :: rest) := by
  subst hN
  cases q : if_icmp.holds .ge x y with
  | true => exact (kY (of_decide_eq_true q)).of fun t k => XS.icmpYes A.1 A.2.1 rfl rfl (hb A.2.2 hd) rfl q ho hY k
  | false => exact (kN (n32_le (of_decide_eq_false q))).of fun t k => XS.icmpNo A.1 A.2.1 rfl (hb A.2.2 hd) rfl q k
theorem s_icmpgt {o : Int} {pY pN : Nat} {x y : Int32} (A : Wk p below m c b T) (hd : decode b pc = .ok (.if_icmp .gt o, 3)) (ho : 0 ≤ (pc : Int) + o) (hY : ((pc : Int) + o).toNat = pY) (hN : pc + 3 = pN) (kY : x > y → Go p e below m F T pY ls rest) (kN : x ≤ y → Go p e below m F T pN ls rest) : Go p e below m F T pc ls (.int y :: .int x :: rest) := by
  subst hN
  cases q : if_icmp.holds .gt x y with
  | true => exact (kY (of_decide_eq_true q)).of fun t k => XS.icmpYes A.1 A.2.1 rfl rfl (hb A.2.2 hd) rfl q ho hY k
  | false => exact (kN (n32_lt (of_decide_eq_false q))).of fun t k => XS.icmpNo A.1 A.2.1 rfl (hb A.2.2 hd) rfl q k
theorem s_icmple {o : Int} {pY pN : Nat} {x y : Int32} (A : Wk p below m c b T) (hd : decode b pc = .ok (.if_icmp .le o, 3)) (ho : 0 ≤ (pc : Int) + o) (hY : ((pc : Int) + o).toNat = pY) (hN : pc + 3 = pN) (kY : x ≤ y → Go p e below m F T pY ls rest) (kN : x > y → Go p e below m F T pN ls rest) : Go p e below m F T pc ls (.int y :: .int x :: rest) := by
  subst hN
  cases q : if_icmp.holds .le x y with
  | true => exact (kY (of_decide_eq_true q)).of fun t k => XS.icmpYes A.1 A.2.1 rfl rfl (hb A.2.2 hd) rfl q ho hY k
  | false => exact (kN (n32_le (of_decide_eq_false q))).of fun t k => XS.icmpNo A.1 A.2.1 rfl (hb A.2.2 hd) rfl q k
theorem s_nonnullY {o : Int} {a : Addr} (A : Wk p below m c b T) (hd : decode b pc = .ok (.ifnonnull o, 3)) (ho : 0 ≤ (pc : Int) + o) (hp : ((pc : Int) + o).toNat = pc') (k : Go p e below m F T pc' ls rest) : Go p e below m F T pc ls (.ref a :: rest) := by
  exact k.of fun t k => XT.ifnonnullYes A.1 A.2.1 rfl rfl (hb A.2.2 hd) rfl ho hp k
theorem s_acmpeq {o : Int} {pY pN : Nat} {x y : Value} (A : Wk p below m c b T) (hx' : x.isRef = true) (hy' : y.isRef = true) (hd : decode b pc = .ok (.if_acmp .eq o, 3)) (ho : 0 ≤ (pc : Int) + o) (hY : ((pc : Int) + o).toNat = pY) (hN : pc + 3 = pN) (kY : x = y → Go p e below m F T pY ls rest) (kN : x ≠ y → Go p e below m F T pN ls rest) : Go p e below m F T pc ls (y :: x :: rest) := by
  subst hN
  by_cases q : x = y
  · exact (kY q).of fun t k => XT.acmpYes A.1 A.2.1 rfl rfl (hb A.2.2 hd) rfl hx' hy' (decide_eq_true q) ho hY k
  · exact (kN q).of fun t k => XT.acmpNo A.1 A.2.1 rfl (hb A.2.2 hd) rfl hx' hy' (decide_eq_false q) k
theorem s_acmpne {o : Int} {pY pN : Nat} {x y : Value} (A : Wk p below m c b T) (hx' : x.isRef = true) (hy' : y.isRef = true) (hd : decode b pc = .ok (.if_acmp .ne o, 3)) (ho : 0 ≤ (pc : Int) + o) (hY : ((pc : Int) + o).toNat = pY) (hN : pc + 3 = pN) (kY : x ≠ y → Go p e below m F T pY ls rest) (kN : x = y → Go p e below m F T pN ls rest) : Go p e below m F T pc ls (y :: x :: rest) := by
  subst hN
  by_cases q : x = y
  · exact (kN q).of fun t k => XT.acmpNo A.1 A.2.1 rfl (hb A.2.2 hd) rfl hx' hy' (decide_eq_false (fun r => r q)) k
  · exact (kY q).of fun t k => XT.acmpYes A.1 A.2.1 rfl rfl (hb A.2.2 hd) rfl hx' hy' (decide_eq_true q) ho hY k
theorem s_tsw {dflt low high : Int} {offs : Array Int} {len : Nat} {o : Int} {i : Int32} (A : Wk p below m c b T) (hd : decode b pc = .ok (.tableswitch dflt low high offs, len)) (hin : ¬ (i.toInt < low ∨ i.toInt > high)) (hoff : offs[(i.toInt - low).toNat]? = some o) (ho : 0 ≤ (pc : Int) + o) (hp : ((pc : Int) + o).toNat = pc') (k : Go p e below m F T pc' ls rest) : Go p e below m F T pc ls (.int i :: rest) := by
  exact k.of fun t k => XS.tswIn A.1 A.2.1 rfl rfl (hb A.2.2 hd) rfl hin hoff ho hp k
end Plain
section Heap
variable {p : Program} {l : Launch} {e : Env} {R : Room} {s : State} {m : MethodId} {args : Array Value} {below : List Frame} {meth : Method} {c : Code} {T : State} {locs : List Loc} {cells slots : Nat} {Z : State} {a0 : Array Value} {h : Heap} {b : ByteArray} {F : Outcome → State → Prop} {pc pc' : Nat} {ls : Array Slot} {rest : List Value}
theorem g_ldcI (X : Stand p l e R s m args below meth c T locs cells slots) (hx : p.tables.exec = Jvm.exec) (hZ : Z.Warmed39 s.vm) {own : String} {i : Nat} {v : Int32} (hown : s.vm.findClass own = some m.cls) (w : (Cond.constant own i v).before a0 Z = true) (hd : decode c.code pc = .ok (.ldc i, 2)) (hp : pc + 2 = pc') (k : Go p e below m F T pc' ls (.int v :: rest)) : Go p e below m F T pc ls rest := by
  subst hp
  exact k.of fun t k => X.ldcInt hx hown (mvT hZ w) (g := mkF m pc ls rest) rfl hd t k
theorem g_ldcwI (X : Stand p l e R s m args below meth c T locs cells slots) (hx : p.tables.exec = Jvm.exec) (hZ : Z.Warmed39 s.vm) {own : String} {i : Nat} {v : Int32} (hown : s.vm.findClass own = some m.cls) (w : (Cond.constant own i v).before a0 Z = true) (hd : decode c.code pc = .ok (.ldc_w i, 3)) (hp : pc + 3 = pc') (k : Go p e below m F T pc' ls (.int v :: rest)) : Go p e below m F T pc ls rest := by
  subst hp
  exact k.of fun t k => X.ldcwInt hx hown (mvT hZ w) (g := mkF m pc ls rest) rfl hd t k
theorem g_ldcJ (X : Stand p l e R s m args below meth c T locs cells slots) (hx : p.tables.exec = Jvm.exec) (hZ : Z.Warmed39 s.vm) {own : String} {i : Nat} {v : Int64} (hown : s.vm.findClass own = some m.cls) (w : (Cond.constantLong own i v).before a0 Z = true) (hd : decode c.code pc = .ok (.ldc2_w i, 3)) (hp : pc + 3 = pc') (k : Go p e below m F T pc' ls (.long v :: rest)) : Go p e below m F T pc ls rest := by
  subst hp
  exact k.of fun t k => X.ldc2Long hx hown (mvT hZ w) (g := mkF m pc ls rest) rfl hd t k
theorem g_ldcD (X : Stand p l e R s m args below meth c T locs cells slots) (hx : p.tables.exec = Jvm.exec) (hZ : Z.Warmed39 s.vm) {own : String} {i : Nat} {v : UInt64} (hown : s.vm.findClass own = some m.cls) (w : (Cond.constantDouble own i v).before a0 Z = true) (hd : decode c.code pc = .ok (.ldc2_w i, 3)) (hp : pc + 3 = pc') (k : Go p e below m F T pc' ls (.double v :: rest)) : Go p e below m F T pc ls rest := by
  subst hp
  exact k.of fun t k => X.ldc2DoubleC hx hown (mvT hZ w) (g := mkF m pc ls rest) rfl hd t k
theorem g_getF (X : Stand p l e R s m args below meth c T locs cells slots) (hx : p.tables.exec = Jvm.exec) (hZ : Z.Warmed39 s.vm) {own R0 O n d : String} {i : Nat} (hown : s.vm.findClass own = some m.cls) (w : (Cond.fieldLink own i R0 n d).before a0 Z = true) (via : Via Z R0 O n d) (eT : T.heap = h) {a : Addr} {v : Value} (F0 : Fld Z h a O n d v) (hd : decode c.code pc = .ok (.getfield i, 3)) (hp : pc + 3 = pc') (k : ∀ T', Stand p l e R s m args below meth c T' locs cells slots → T'.heap = h → Go p e below m F T' pc' ls (v :: rest)) : Go p e below m F T pc ls (.ref a :: rest) := by
  subst hp
  obtain ⟨T', X', e', st⟩ := getF X hx hZ hown (host := "") (Or.inl w) via eT F0 (g := mkF m pc ls (.ref a :: rest)) rfl rfl hd
  exact (k T' X' e').of st
theorem g_getFN (X : Stand p l e R s m args below meth c T locs cells slots) (hx : p.tables.exec = Jvm.exec) (hZ : Z.Warmed39 s.vm) {own R0 O n d host : String} {i : Nat} (hown : s.vm.findClass own = some m.cls) (w : (Cond.fieldLinkNest own i R0 n d host).before a0 Z = true) (via : Via Z R0 O n d) (eT : T.heap = h) {a : Addr} {v : Value} (F0 : Fld Z h a O n d v) (hd : decode c.code pc = .ok (.getfield i, 3)) (hp : pc + 3 = pc') (k : ∀ T', Stand p l e R s m args below meth c T' locs cells slots → T'.heap = h → Go p e below m F T' pc' ls (v :: rest)) : Go p e below m F T pc ls (.ref a :: rest) := by
  subst hp
  obtain ⟨T', X', e', st⟩ := getF X hx hZ hown (host := host) (Or.inr w) via eT F0 (g := mkF m pc ls (.ref a :: rest)) rfl rfl hd
  exact (k T' X' e').of st
theorem g_putF (X : Stand p l e R s m args below meth c T locs cells slots) (hx : p.tables.exec = Jvm.exec) (hZ : Z.Warmed39 s.vm) {own R0 O n d C : String} {i kk : Nat} {ty : FieldType} (hown : s.vm.findClass own = some m.cls) (w : (Cond.fieldLink own i R0 n d).before a0 Z = true) (via : Via Z R0 O n d) (eT : T.heap = h) {a : Addr} {v old : Value} (F0 : Fld Z h a O n d old) (E : Exa Z h a C) (L : (Cond.lays C O n d).before a0 Z = true ∨ ((Cond.laysFinal C O n d).before a0 Z = true ∧ own = O ∧ meth.name = "<init>")) (wi : (Cond.instantiable C kk).before a0 Z = true) (hty : parseFieldDescriptor d = some ty) (hn : narrow ty v = v) (hf : fits ty v = true) (hd : decode c.code pc = .ok (.putfield i, 3)) (hp : pc + 3 = pc') (k : ∀ T' h', Stand p l e R s m args below meth c T' (locs ++ [⟨a, RoadKit.slotOf Z O n d⟩]) cells slots → T'.heap = h' → Wr h h' a (RoadKit.slotOf Z O n d) v → Go p e below m F T' pc' ls rest) : Go p e below m F T pc ls (v :: .ref a :: rest) := by
  subst hp
  obtain ⟨T', h', X', e', W', st⟩ := putF X hx hZ hown (host := "") (Or.inl w) via eT F0 E L wi hty hn hf (g := mkF m pc ls (v :: .ref a :: rest)) rfl rfl hd
  exact (k T' h' X' e' W').of st
theorem g_getS (X : Stand p l e R s m args below meth c T locs cells slots) (hx : p.tables.exec = Jvm.exec) (hZ : Z.Warmed39 s.vm) {own R0 O n d : String} {i : Nat} (hown : s.vm.findClass own = some m.cls) (w : (Cond.fieldLink own i R0 n d).before a0 Z = true) (via : Via Z R0 O n d) (eT : T.heap = h) {v : Value} (F0 : Sta Z h O n d v) (hd : decode c.code pc = .ok (.getstatic i, 3)) (hp : pc + 3 = pc') (k : ∀ T', Stand p l e R s m args below meth c T' locs cells slots → T'.heap = h → Go p e below m F T' pc' ls (v :: rest)) : Go p e below m F T pc ls rest := by
  subst hp
  obtain ⟨T', X', e', st⟩ := getS X hx hZ hown (host := "") w via eT F0 (g := mkF m pc ls rest) rfl hd
  exact (k T' X' e').of st
theorem g_new (X : Stand p l e R s m args below meth c T locs cells slots) (hx : p.tables.exec = Jvm.exec) (hZ : Z.Warmed39 s.vm) {own C : String} {i n : Nat} (hown : s.vm.findClass own = some m.cls) (w : (Cond.classLink own i C).before a0 Z = true) (wi : (Cond.instantiable C n).before a0 Z = true) (wz : (Cond.initialized C).before a0 Z = true) (eT : T.heap = h) (hd : decode c.code pc = .ok (.new i, 3)) (hp : pc + 3 = pc') (hc : cells + 1 ≤ R.cells) (hl : slots + n ≤ R.slots) (k : ∀ T' h' a, Stand p l e R s m args below meth c T' locs (cells + 1) (slots + n) → T'.heap = h' → Ext h h' → a = h.size → Exa Z h' a C → (∀ {O nm d : String} {ty : FieldType}, Laid Z a0 C O nm d → parseFieldDescriptor d = some ty → Fld Z h' a O nm d (defaultValue ty)) → Go p e below m F T' pc' ls (.ref a :: rest)) : Go p e below m F T pc ls rest := by
  subst hp
  obtain ⟨T', h', X', e', E', A', D', -, st⟩ := newO X hx hZ hown w wi wz eT (g := mkF m pc ls rest) rfl hd hc hl
  exact (k T' h' _ X' e' E' rfl A' D').of st
theorem g_initO (X : Stand p l e R s m args below meth c T locs cells slots) (hx : p.tables.exec = Jvm.exec) (hZ : Z.Warmed39 s.vm) {own : String} {i : Nat} (hown : s.vm.findClass own = some m.cls) (w1 : (Cond.methodLink own i Lib.objectInit).before a0 Z = true) (w2 : (Cond.instanceMethod Lib.objectInit).before a0 Z = true) (w3 : (Cond.code Lib.objectInit ⟨#[0xb1]⟩ 1 none).before a0 Z = true) (eT : T.heap = h) (hsize : ls.size = c.maxLocals) {a : Addr} (hd : decode c.code pc = .ok (.invokespecial i, 3)) (hp : pc + 3 = pc') (hf : 1 ≤ R.frames) {W : Nat} (hW : 2 * 0 + (rest.map fun v => v.category).sum ≤ W) (hl : W + 12 ≤ R.locals) (k : ∀ T', Stand p l e R s m args below meth c T' locs cells slots → T'.heap = h → Go p e below m F T' pc' ls rest) : Go p e below m F T pc ls (.ref a :: rest) := by
  subst hp
  obtain ⟨T', X', e', st⟩ := initO X hx hZ hown w1 w2 w3 eT (g := mkF m pc ls (.ref a :: rest)) rfl hsize rfl hd hf hW hl
  exact (k T' X' e').of st
theorem g_static (X : Stand p l e R s m args below meth c T locs cells slots) (hx : p.tables.exec = Jvm.exec) (hZ : Z.Warmed39 s.vm) {own : String} {i : Nat} {y : MethodName} {bytes : ByteArray} {maxL : Nat} {ret : Option FieldType} {rm : Room} {Q : Option Value → Heap → List Loc → Prop} (hown : s.vm.findClass own = some m.cls) (w1 : (Cond.methodLink own i y).before a0 Z = true) (w2 : (Cond.static y).before a0 Z = true) (w3 : (Cond.initialized y.cls).before a0 Z = true) (w4 : (Cond.code y bytes maxL ret).before a0 Z = true) (hy : y.cls ≠ "java/lang/invoke/MethodHandle" ∧ y.cls ≠ "java/lang/invoke/VarHandle")
    {argsL st : List Value} {ps : List FieldType} {rt : Option FieldType} (hM : Ctr l Z y bytes maxL ret [] rm argsL.toArray h Q) (hpd : parseMethodDescriptor y.desc = some ⟨ps, rt⟩) (hlen : argsL.length = ps.length) (hst : st = argsL.reverse ++ rest) (hd : decode c.code pc = .ok (.invokestatic i, 3)) (eT : T.heap = h) (hsize : ls.size = c.maxLocals) (hp : pc + 3 = pc') (hf : rm.frames + 1 ≤ R.frames) {W : Nat} (hW : 2 * 0 + (rest.map fun v => v.category).sum ≤ W) (hl : W + (maxL + 11) + rm.locals ≤ R.locals) (hc : cells + rm.cells ≤ R.cells) (hs : slots + rm.slots ≤ R.slots)
    (k : ∀ v T' L, Stand p l e R s m args below meth c T' (locs ++ L) (cells + rm.cells) (slots + rm.slots) → Q v T'.heap L → Go p e below m F T' pc' ls (v.toList ++ rest)) : Go p e below m F T pc ls st := by
  subst hp hst
  obtain ⟨v, _, ⟨T', L', k', n'⟩, -, X', ⟨L, hQ, l1, l2, l3⟩, stp⟩ := Jvm.LawKit.callS X hx (y := y) hown (mvT hZ w1) (mvT hZ w2) (mvT hZ w3) (mvT hZ w4) hy (backOf (W := W) hM hZ w4 w3 hf hl) (g := mkF m pc ls (argsL.reverse ++ rest)) rfl hsize (argsL := argsL) (rest := rest) (lenOf hpd hlen) rfl hW hd (fun _ _ => ⟨rfl, eT, hc, hs⟩)
  dsimp only [Pt.U, Pt.locs, Pt.cells, Pt.slots] at X' l1 l2 l3 stp hQ
  subst l1 l2 l3
  exact (k v T' L X' hQ).of stp
theorem g_special (X : Stand p l e R s m args below meth c T locs cells slots) (hx : p.tables.exec = Jvm.exec) (hZ : Z.Warmed39 s.vm) {own : String} {i : Nat} {y : MethodName} {bytes : ByteArray} {maxL : Nat} {rm : Room} {Q : Option Value → Heap → List Loc → Prop} (hy1 : y.name = "<init>") (hown : s.vm.findClass own = some m.cls) (w1 : (Cond.methodLink own i y).before a0 Z = true) (w2 : (Cond.instanceMethod y).before a0 Z = true) (w3 : (Cond.initialized y.cls).before a0 Z = true) (w4 : (Cond.code y bytes maxL none).before a0 Z = true) (hy : y.cls ≠ "java/lang/invoke/MethodHandle" ∧ y.cls ≠ "java/lang/invoke/VarHandle")
    {a : Addr} {argsL st : List Value} {ps : List FieldType} {rt : Option FieldType} (hM : Ctr l Z y bytes maxL none [] rm (.ref a :: argsL).toArray h Q) (hpd : parseMethodDescriptor y.desc = some ⟨ps, rt⟩) (hlen : argsL.length = ps.length) (hst : st = argsL.reverse ++ .ref a :: rest) (hd : decode c.code pc = .ok (.invokespecial i, 3)) (eT : T.heap = h) (hsize : ls.size = c.maxLocals) (hp : pc + 3 = pc') (hf : rm.frames + 1 ≤ R.frames) {W : Nat} (hW : 2 * 0 + (rest.map fun v => v.category).sum ≤ W) (hl : W + (maxL + 11) + rm.locals ≤ R.locals) (hc : cells + rm.cells ≤ R.cells) (hs : slots + rm.slots ≤ R.slots)
    (k : ∀ v T' L, Stand p l e R s m args below meth c T' (locs ++ L) (cells + rm.cells) (slots + rm.slots) → Q v T'.heap L → Go p e below m F T' pc' ls (v.toList ++ rest)) : Go p e below m F T pc ls st := by
  subst hp hst
  obtain ⟨v, _, ⟨T', L', k', n'⟩, -, X', ⟨L, hQ, l1, l2, l3⟩, stp⟩ := X.specialBack hx (y := y) hy1 hown (mvT hZ w1) (mvT hZ w2) (mvT hZ w4) hy (backOf (W := W) hM hZ w4 w3 hf hl) (g := mkF m pc ls (argsL.reverse ++ .ref a :: rest)) rfl hsize (Steps.refl _) (a := a) (argsL := argsL) (rest := rest) (lenOf hpd hlen) rfl hW hd (fun _ _ => ⟨rfl, eT, hc, hs⟩)
  dsimp only [Pt.U, Pt.locs, Pt.cells, Pt.slots] at X' l1 l2 l3 stp hQ
  subst l1 l2 l3
  exact (k v T' L X' hQ).of fun t q => stp.trans q
theorem g_virtual (X : Stand p l e R s m args below meth c T locs cells slots) (hx : p.tables.exec = Jvm.exec) (hZ : Z.Warmed39 s.vm) {own C : String} {i : Nat} {y : MethodName} {bytes : ByteArray} {maxL : Nat} {ret : Option FieldType} {rm : Room} {Q : Option Value → Heap → List Loc → Prop} (hown : s.vm.findClass own = some m.cls) (w1 : (Cond.methodLink own i y).before a0 Z = true) (w2 : (Cond.declares y).before a0 Z = true) (w5 : (Cond.selects C y y).before a0 Z = true) (w6 : (Cond.instanceMethod y).before a0 Z = true) (w3 : (Cond.initialized y.cls).before a0 Z = true) (w4 : (Cond.code y bytes maxL ret).before a0 Z = true) (hy : y.cls ≠ "java/lang/invoke/MethodHandle" ∧ y.cls ≠ "java/lang/invoke/VarHandle")
    {a : Addr} (Ea : Exa Z h a C) {argsL st : List Value} {ps : List FieldType} {rt : Option FieldType} (hM : Ctr l Z y bytes maxL ret [] rm (.ref a :: argsL).toArray h Q) (hpd : parseMethodDescriptor y.desc = some ⟨ps, rt⟩) (hlen : argsL.length = ps.length) (hst : st = argsL.reverse ++ .ref a :: rest) (hd : decode c.code pc = .ok (.invokevirtual i, 3)) (eT : T.heap = h) (hsize : ls.size = c.maxLocals) (hp : pc + 3 = pc') (hf : rm.frames + 1 ≤ R.frames) {W : Nat} (hW : 2 * 0 + (rest.map fun v => v.category).sum ≤ W) (hl : W + (maxL + 11) + rm.locals ≤ R.locals) (hc : cells + rm.cells ≤ R.cells) (hs : slots + rm.slots ≤ R.slots)
    (k : ∀ v T' L, Stand p l e R s m args below meth c T' (locs ++ L) (cells + rm.cells) (slots + rm.slots) → Q v T'.heap L → Go p e below m F T' pc' ls (v.toList ++ rest)) : Go p e below m F T pc ls st := by
  subst hp hst
  obtain ⟨cq, kq, qa, qb, qc⟩ := isOf hZ eT Ea
  obtain ⟨v, _, ⟨T', L', k', n'⟩, -, X', ⟨L, hQ, l1, l2, l3⟩, stp⟩ := X.virtualBack hx (y := y) (z := y) hown (mvT hZ w1) (mvT hZ w2) (notFace_of_selects (args := #[]) (mvT hZ w5)) (mvT hZ w5) (mvT hZ w6) hy (backOf (W := W) hM hZ w4 w3 hf hl) qa qc (g := mkF m pc ls (argsL.reverse ++ .ref a :: rest)) rfl hsize (Steps.refl _) (argsL := argsL) (rest := rest) (lenOf hpd hlen) rfl hW hd (fun _ _ => ⟨rfl, eT, hc, hs⟩)
  dsimp only [Pt.U, Pt.locs, Pt.cells, Pt.slots] at X' l1 l2 l3 stp hQ
  subst l1 l2 l3
  exact (k v T' L X' hQ).of fun t q => stp.trans q
theorem g_virtualUp (X : Stand p l e R s m args below meth c T locs cells slots) (hx : p.tables.exec = Jvm.exec) (hZ : Z.Warmed39 s.vm) {own C owner : String} {i : Nat} {x y : MethodName} {bytes : ByteArray} {maxL : Nat} {ret : Option FieldType} {rm : Room} {Q : Option Value → Heap → List Loc → Prop} (hown : s.vm.findClass own = some m.cls) (w1 : (Cond.methodLink own i x).before a0 Z = true) (w7 : (Cond.sameMethod x.cls owner x.name x.desc).before a0 Z = true) (w2 : (Cond.declares ⟨owner, x.name, x.desc⟩).before a0 Z = true) (ho : owner ≠ "java/lang/invoke/MethodHandle" ∧ owner ≠ "java/lang/invoke/VarHandle") (w5 : (Cond.selects C x y).before a0 Z = true) (w6 : (Cond.instanceMethod y).before a0 Z = true) (w3 : (Cond.initialized y.cls).before a0 Z = true) (w4 : (Cond.code y bytes maxL ret).before a0 Z = true)
    {a : Addr} (Ea : Exa Z h a C) {argsL st : List Value} {ps : List FieldType} {rt : Option FieldType} (hM : Ctr l Z y bytes maxL ret [] rm (.ref a :: argsL).toArray h Q) (hpd : parseMethodDescriptor x.desc = some ⟨ps, rt⟩) (hlen : argsL.length = ps.length) (hst : st = argsL.reverse ++ .ref a :: rest) (hd : decode c.code pc = .ok (.invokevirtual i, 3)) (eT : T.heap = h) (hsize : ls.size = c.maxLocals) (hp : pc + 3 = pc') (hf : rm.frames + 1 ≤ R.frames) {W : Nat} (hW : 2 * 0 + (rest.map fun v => v.category).sum ≤ W) (hl : W + (maxL + 11) + rm.locals ≤ R.locals) (hc : cells + rm.cells ≤ R.cells) (hs : slots + rm.slots ≤ R.slots)
    (k : ∀ v T' L, Stand p l e R s m args below meth c T' (locs ++ L) (cells + rm.cells) (slots + rm.slots) → Q v T'.heap L → Go p e below m F T' pc' ls (v.toList ++ rest)) : Go p e below m F T pc ls st := by
  subst hp hst
  obtain ⟨cq, kq, qa, qb, qc⟩ := isOf hZ eT Ea
  obtain ⟨v, _, ⟨T', L', k', n'⟩, -, X', ⟨L, hQ, l1, l2, l3⟩, stp⟩ := X.virtualBackUp hx (x := x) (y := y) (owner := owner) hown (mvT hZ w1) (mvT hZ w7) (mvT hZ w2) ho (mvT hZ w5) (mvT hZ w6) (backOf (W := W) hM hZ w4 w3 hf hl) qa qc (g := mkF m pc ls (argsL.reverse ++ .ref a :: rest)) rfl hsize (Steps.refl _) (argsL := argsL) (rest := rest) (lenOf hpd hlen) rfl hW hd (fun _ _ => ⟨rfl, eT, hc, hs⟩)
  dsimp only [Pt.U, Pt.locs, Pt.cells, Pt.slots] at X' l1 l2 l3 stp hQ
  subst l1 l2 l3
  exact (k v T' L X' hQ).of fun t q => stp.trans q
theorem g_retV (X : Stand p l e R s m args below meth c T locs cells slots) (hx : p.tables.exec = Jvm.exec) {Q : Option Value → Heap → List Loc → Prop} {rc rs : Nat} (hlk : meth.locks = false) (hret : meth.sig.returnType = none) (hd : decode c.code pc = .ok (.return_, 1)) (hQ : Q none T.heap locs) (hc : cells ≤ rc) (hs : slots ≤ rs) : Go p e below m (Fini s rc rs Q) T pc ls [] := by
  obtain ⟨fs, hr, hrun, hended, hW, hsame⟩ := X.leave (v := none) (fun _ => rfl)
  exact ⟨_, _, X.returnOut hx hret hd hr, hrun, hended, _, _, rfl, hQ, ⟨_, rfl⟩, hW, hsame.mono hc hs⟩
theorem g_ret (X : Stand p l e R s m args below meth c T locs cells slots) (hx : p.tables.exec = Jvm.exec) {Q : Option Value → Heap → List Loc → Prop} {rc rs : Nat} (hlk : meth.locks = false) {t : FieldType} {w : Value} {i : Instr} (hret : meth.sig.returnType = some t) (hn : narrow t w = w)
    (hi : (i = .ireturn ∧ (t = .int ∨ t = .boolean ∨ t = .byte ∨ t = .char ∨ t = .short) ∧ ∃ z, w = .int z) ∨ (i = .lreturn ∧ t = .long ∧ ∃ z, w = .long z) ∨ (i = .dreturn ∧ t = .double ∧ ∃ z, w = .double z) ∨ (i = .freturn ∧ t = .float ∧ ∃ z, w = .float z) ∨ (i = .areturn ∧ t.isReference = true ∧ w.isRef = true))
    (hd : decode c.code pc = .ok (i, 1)) (hQ : Q (some w) T.heap locs) (hc : cells ≤ rc) (hs : slots ≤ rs) : Go p e below m (Fini s rc rs Q) T pc ls (w :: rest) := by
  obtain ⟨fs, hr, hrun, hended, hW, hsame⟩ := X.leave (v := some w) (fun h => by rw [hret] at h; cases h)
  exact ⟨_, _, retOut X hx hret hn hi hd hr, hrun, hended, _, _, rfl, hQ, ⟨_, rfl⟩, hW, hsame.mono hc hs⟩
theorem g_retZ (X : Stand p l e R s m args below meth c T locs cells slots) (hx : p.tables.exec = Jvm.exec) {Q : Option Value → Heap → List Loc → Prop} {rc rs : Nat} (hlk : meth.locks = false) {z : Int32} (hret : meth.sig.returnType = some .boolean) (hz : z = 0 ∨ z = 1) (hd : decode c.code pc = .ok (.ireturn, 1)) (hQ : Q (some (.int z)) T.heap locs) (hc : cells ≤ rc) (hs : slots ≤ rs) : Go p e below m (Fini s rc rs Q) T pc ls (.int z :: rest) :=
  g_ret X hx hlk hret (by rcases hz with rfl | rfl <;> rfl) (Or.inl ⟨rfl, Or.inr (Or.inl rfl), _, rfl⟩) hd hQ hc hs
theorem g_retI (X : Stand p l e R s m args below meth c T locs cells slots) (hx : p.tables.exec = Jvm.exec) {Q : Option Value → Heap → List Loc → Prop} {rc rs : Nat} (hlk : meth.locks = false) {z : Int32} (hret : meth.sig.returnType = some .int) (hd : decode c.code pc = .ok (.ireturn, 1)) (hQ : Q (some (.int z)) T.heap locs) (hc : cells ≤ rc) (hs : slots ≤ rs) : Go p e below m (Fini s rc rs Q) T pc ls (.int z :: rest) :=
  g_ret X hx hlk hret rfl (Or.inl ⟨rfl, Or.inl rfl, _, rfl⟩) hd hQ hc hs
theorem g_retJ (X : Stand p l e R s m args below meth c T locs cells slots) (hx : p.tables.exec = Jvm.exec) {Q : Option Value → Heap → List Loc → Prop} {rc rs : Nat} (hlk : meth.locks = false) {z : Int64} (hret : meth.sig.returnType = some .long) (hd : decode c.code pc = .ok (.lreturn, 1)) (hQ : Q (some (.long z)) T.heap locs) (hc : cells ≤ rc) (hs : slots ≤ rs) : Go p e below m (Fini s rc rs Q) T pc ls (.long z :: rest) :=
  g_ret X hx hlk hret rfl (Or.inr (Or.inl ⟨rfl, rfl, _, rfl⟩)) hd hQ hc hs
theorem g_retD (X : Stand p l e R s m args below meth c T locs cells slots) (hx : p.tables.exec = Jvm.exec) {Q : Option Value → Heap → List Loc → Prop} {rc rs : Nat} (hlk : meth.locks = false) {z : UInt64} (hret : meth.sig.returnType = some .double) (hd : decode c.code pc = .ok (.dreturn, 1)) (hQ : Q (some (.double z)) T.heap locs) (hc : cells ≤ rc) (hs : slots ≤ rs) : Go p e below m (Fini s rc rs Q) T pc ls (.double z :: rest) :=
  g_ret X hx hlk hret rfl (Or.inr (Or.inr (Or.inl ⟨rfl, rfl, _, rfl⟩))) hd hQ hc hs
theorem g_retA (X : Stand p l e R s m args below meth c T locs cells slots) (hx : p.tables.exec = Jvm.exec) {Q : Option Value → Heap → List Loc → Prop} {rc rs : Nat} (hlk : meth.locks = false) {t : FieldType} {w : Value} (hret : meth.sig.returnType = some t) (ht : t.isReference = true) (hw : w.isRef = true) (hn : narrow t w = w) (hd : decode c.code pc = .ok (.areturn, 1)) (hQ : Q (some w) T.heap locs) (hc : cells ≤ rc) (hs : slots ≤ rs) : Go p e below m (Fini s rc rs Q) T pc ls (w :: rest) :=
  g_ret X hx hlk hret hn (Or.inr (Or.inr (Or.inr (Or.inr ⟨rfl, ht, hw⟩)))) hd hQ hc hs
end Heap
end Jvm.Own
namespace Jvm.Own
open Sem ClassFile Op Lib Jvm.Free
/-! comparisons as whole numbers -/
def cmpI (n m : Int) : Int32 := if n < m then -1 else if n = m then 0 else 1
theorem cmpI_eq {n m : Int} (h : cmpI n m = 0) : n = m := by
  unfold cmpI at h
  by_cases a : n < m
  · rw [if_pos a] at h; exact absurd h (by decide)
  · by_cases b : n = m
    · exact b
    · rw [if_neg a, if_neg b] at h; exact absurd h (by decide)
theorem cmpI_ne {n m : Int} (h : cmpI n m ≠ 0) : n ≠ m := by
  intro b; subst b; exact h (by unfold cmpI; rw [if_neg (by omega), if_pos rfl])
theorem cmpI_lt {n m : Int} (h : cmpI n m < 0) : n < m := by
  unfold cmpI at h
  by_cases a : n < m
  · exact a
  · by_cases b : n = m
    · rw [if_neg a, if_pos b] at h; exact absurd h (by decide)
    · rw [if_neg a, if_neg b] at h; exact absurd h (by decide)
theorem cmpI_ge {n m : Int} (h : cmpI n m ≥ 0) : m ≤ n := by
  by_cases a : n < m
  · unfold cmpI at h; rw [if_pos a] at h; exact absurd h (by decide)
  · omega
theorem cmpI_gt {n m : Int} (h : cmpI n m > 0) : m < n := by
  by_cases a : n < m
  · unfold cmpI at h; rw [if_pos a] at h; exact absurd h (by decide)
  · by_cases b : n = m
    · unfold cmpI at h; rw [if_neg a, if_pos b] at h; exact absurd h (by decide)
    · omega
theorem cmpI_le {n m : Int} (h : cmpI n m ≤ 0) : n ≤ m := by
  by_cases a : n < m
  · omega
  · by_cases b : n = m
    · omega
    · unfold cmpI at h; rw [if_neg a, if_neg b] at h; exact absurd h (by decide)
theorem cmpI_some (n m : Int) (o : CmpOp) : cmpValue (some (compare n m)) o = cmpI n m := by
  unfold cmpI
  rw [Jvm.FP.Core.compare_ite]
  by_cases a : n < m
  · rw [if_pos a, if_pos a]; cases o <;> rfl
  · by_cases b : n = m
    · rw [if_neg a, if_pos b, if_neg a, if_pos b]; cases o <;> rfl
    · rw [if_neg a, if_neg b, if_neg a, if_neg b]; cases o <;> rfl
theorem cmpL_I (x y : Int64) : XT.cmpL x y = cmpI x.toInt y.toInt := by
  unfold XT.cmpL cmpI
  by_cases a : y < x
  · have a' := Int64.lt_iff_toInt_lt.mp a
    rw [if_pos a, if_neg (by omega), if_neg (by omega)]
  · have a' : ¬ y.toInt < x.toInt := fun q => a (Int64.lt_iff_toInt_lt.mpr q)
    by_cases b : x = y
    · subst b; rw [if_neg a, if_pos rfl, if_neg (by omega), if_pos rfl]
    · have b' : x.toInt ≠ y.toInt := fun q => b (Int64.toInt_inj.mp q)
      rw [if_neg a, if_neg b, if_pos (by omega)]
theorem i_eq {x y : Int32} (h : x = y) : x.toInt = y.toInt := by rw [h]
theorem i_ne {x y : Int32} (h : x ≠ y) : x.toInt ≠ y.toInt := fun q => h (Int32.toInt_inj.mp q)
theorem i_lt {x y : Int32} (h : x < y) : x.toInt < y.toInt := Int32.lt_iff_toInt_lt.mp h
theorem i_ge {x y : Int32} (h : x ≥ y) : y.toInt ≤ x.toInt := Int32.le_iff_toInt_le.mp h
theorem i_gt {x y : Int32} (h : x > y) : y.toInt < x.toInt := Int32.lt_iff_toInt_lt.mp h
theorem i_le {x y : Int32} (h : x ≤ y) : x.toInt ≤ y.toInt := Int32.le_iff_toInt_le.mp h
theorem iz_eq {x : Int32} (h : x = 0) : x.toInt = 0 := by rw [h]; rfl
theorem iz_ne {x : Int32} (h : x ≠ 0) : x.toInt ≠ 0 := fun q => h (Int32.toInt_inj.mp q)
theorem iz_lt {x : Int32} (h : x < 0) : x.toInt < 0 := Int32.lt_iff_toInt_lt.mp h
theorem iz_ge {x : Int32} (h : x ≥ 0) : 0 ≤ x.toInt := Int32.le_iff_toInt_le.mp h
theorem iz_gt {x : Int32} (h : x > 0) : 0 < x.toInt := Int32.lt_iff_toInt_lt.mp h
theorem iz_le {x : Int32} (h : x ≤ 0) : x.toInt ≤ 0 := Int32.le_iff_toInt_le.mp h
theorem cmpL_ex {x y : Int64} {n m : Int} (hx : x.toInt = n) (hy : y.toInt = m) : XT.cmpL x y = cmpI n m := by rw [cmpL_I, hx, hy]
theorem small32 {y : Int32} (h : y.toBitVec.toNat < 2147483648) : y.toInt = (y.toBitVec.toNat : Int) := by
  have : y.toInt = y.toBitVec.toInt := rfl
  rw [this, BitVec.toInt_eq_toNat_cond, if_pos (by omega)]
theorem nn32 {y : Int32} (h : 0 ≤ y.toInt) : y.toBitVec.toNat < 2147483648 := by
  have e : y.toInt = y.toBitVec.toInt := rfl
  rw [e, BitVec.toInt_eq_toNat_cond] at h
  by_cases q : 2 * y.toBitVec.toNat < 2 ^ 32
  · omega
  · rw [if_neg q] at h; have := y.toBitVec.isLt; omega
theorem iand_b (x y : Int32) {M : Int} (h0 : 0 ≤ y.toInt) (hM : y.toInt ≤ M) : 0 ≤ (x &&& y).toInt ∧ (x &&& y).toInt ≤ M := by
  have h1 := nn32 h0
  have e : (x &&& y).toBitVec.toNat = x.toBitVec.toNat &&& y.toBitVec.toNat := by simp [Int32.toBitVec_and, BitVec.toNat_and]
  have hle : (x &&& y).toBitVec.toNat ≤ y.toBitVec.toNat := by rw [e]; exact Nat.and_le_right
  have e1 := small32 (y := x &&& y) (by omega)
  have e2 := small32 h1
  omega
theorem small64 {y : Int64} (h : y.toBitVec.toNat < 9223372036854775808) : y.toInt = (y.toBitVec.toNat : Int) := by
  have : y.toInt = y.toBitVec.toInt := rfl
  rw [this, BitVec.toInt_eq_toNat_cond, if_pos (by omega)]
theorem nn64 {y : Int64} (h : 0 ≤ y.toInt) : y.toBitVec.toNat < 9223372036854775808 := by
  have e : y.toInt = y.toBitVec.toInt := rfl
  rw [e, BitVec.toInt_eq_toNat_cond] at h
  by_cases q : 2 * y.toBitVec.toNat < 2 ^ 64
  · omega
  · rw [if_neg q] at h; have := y.toBitVec.isLt; omega
theorem land_b (x y : Int64) {M : Int} (h0 : 0 ≤ y.toInt) (hM : y.toInt ≤ M) : 0 ≤ (x &&& y).toInt ∧ (x &&& y).toInt ≤ M := by
  have h1 := nn64 h0
  have e : (x &&& y).toBitVec.toNat = x.toBitVec.toNat &&& y.toBitVec.toNat := by simp [Int64.toBitVec_and, BitVec.toNat_and]
  have hle : (x &&& y).toBitVec.toNat ≤ y.toBitVec.toNat := by rw [e]; exact Nat.and_le_right
  have e1 := small64 (y := x &&& y) (by omega)
  have e2 := small64 h1
  omega
theorem i32b (v : Int32) : -2147483648 ≤ v.toInt ∧ v.toInt < 2147483648 := ⟨v.le_toInt, v.toInt_lt⟩
theorem i64b (v : Int64) : -9223372036854775808 ≤ v.toInt ∧ v.toInt < 9223372036854775808 := ⟨v.le_toInt, v.toInt_lt⟩
theorem iadd_ex {x y : Int32} {n m : Int} (hx : x.toInt = n) (hy : y.toInt = m) (h : -2147483648 ≤ n + m ∧ n + m < 2147483648) : (x + y).toInt = n + m := by
  rw [Int32.toInt_add, hx, hy]; exact Int.bmod_eq_of_le (by omega) (by omega)
theorem isub_ex {x y : Int32} {n m : Int} (hx : x.toInt = n) (hy : y.toInt = m) (h : -2147483648 ≤ n - m ∧ n - m < 2147483648) : (x - y).toInt = n - m := by
  rw [Int32.toInt_sub, hx, hy]; exact Int.bmod_eq_of_le (by omega) (by omega)
theorem imul_ex {x y : Int32} {n m : Int} (hx : x.toInt = n) (hy : y.toInt = m) (h : -2147483648 ≤ n * m ∧ n * m < 2147483648) : (x * y).toInt = n * m := by
  rw [Int32.toInt_mul, hx, hy]; exact Int.bmod_eq_of_le (by omega) (by omega)
theorem ladd_ex {x y : Int64} {n m : Int} (hx : x.toInt = n) (hy : y.toInt = m) (h : -9223372036854775808 ≤ n + m ∧ n + m < 9223372036854775808) : (x + y).toInt = n + m := by
  rw [Int64.toInt_add, hx, hy]; exact Int.bmod_eq_of_le (by omega) (by omega)
theorem lsub_ex {x y : Int64} {n m : Int} (hx : x.toInt = n) (hy : y.toInt = m) (h : -9223372036854775808 ≤ n - m ∧ n - m < 9223372036854775808) : (x - y).toInt = n - m := by
  rw [Int64.toInt_sub, hx, hy]; exact Int.bmod_eq_of_le (by omega) (by omega)
theorem lmul_ex {x y : Int64} {n m : Int} (hx : x.toInt = n) (hy : y.toInt = m) (h : -9223372036854775808 ≤ n * m ∧ n * m < 9223372036854775808) : (x * y).toInt = n * m := by
  rw [Int64.toInt_mul, hx, hy]; exact Int.bmod_eq_of_le (by omega) (by omega)
theorem i2l_ex {x : Int32} {n : Int} (hx : x.toInt = n) : x.toInt64.toInt = n := by rw [Int32.toInt_toInt64, hx]
theorem pinI {args : Array Value} {s : State} {C n d K O f : String} {k : Int32} (hx : (Cond.exactly (Term.static C n d) K).value args s none s [] = some true) (he : (Cond.eq (Term.field (Term.static C n d) O f "I") (Term.int k)).value args s none s [] = some true) (hi : (Cond.initialized C).before args s = true) (hl : (Cond.laysStatic C n d).before args s = true) : ∃ r, RoadKit.Sta s s.heap C n d (.ref r) ∧ RoadKit.Exa s s.heap r K ∧ RoadKit.Fld s s.heap r O f "I" (.int k) := by
  obtain ⟨r, hr⟩ := RoadKit.exa_v hx
  refine ⟨r, RoadKit.Sta.start hr (Or.inr ⟨hi, hl⟩), RoadKit.Exa.start hr hx, ?_⟩
  obtain ⟨x, y, h1, h2, h3, h4⟩ := RoadKit.cmp_v (Or.inl he)
  rw [RoadKit.fld_at hr] at h1
  obtain rfl : Value.int k = y := Option.some.inj ((Term.int_eval k).symm.trans h2)
  obtain ⟨z, rfl⟩ := h4
  have q := RoadKit.gotT (Cond.eq_ints ((RoadKit.fld_at hr).trans h1) (Term.int_eval k)) he
  subst q
  exact RoadKit.Fld.start h1
theorem pinD {args : Array Value} {s : State} {C n d K O f : String} {k : Int64} (hx : (Cond.exactly (Term.static C n d) K).value args s none s [] = some true) (he : (Cond.eq (Term.field (Term.static C n d) O f "D") (Term.op1 .bitsD (Term.long k))).value args s none s [] = some true) (hi : (Cond.initialized C).before args s = true) (hl : (Cond.laysStatic C n d).before args s = true) : ∃ r, RoadKit.Sta s s.heap C n d (.ref r) ∧ RoadKit.Exa s s.heap r K ∧ RoadKit.Fld s s.heap r O f "D" (.double k.toUInt64) := by
  obtain ⟨r, hr⟩ := RoadKit.exa_v hx
  refine ⟨r, RoadKit.Sta.start hr (Or.inr ⟨hi, hl⟩), RoadKit.Exa.start hr hx, ?_⟩
  obtain ⟨x, y, h1, h2, h3, h4⟩ := RoadKit.cmp_v (Or.inl he)
  have h5 : (Term.op1 .bitsD (Term.long k)).eval args s none [] s = some (.double k.toUInt64) := RoadKit.op1_f (RoadKit.long_at k)
  obtain rfl : Value.double k.toUInt64 = y := Option.some.inj (h5.symm.trans h2)
  obtain ⟨z, rfl⟩ := h4
  have q : z = k.toUInt64 := by simpa [Cond.value, h1, h5] using he
  subst q
  rw [RoadKit.fld_at hr] at h1
  exact RoadKit.Fld.start h1
end Jvm.Own
namespace Jvm.Own
open Jvm.FP.Core
/-! doubles by their values: zval in units of 2^-1074 -/
/-! plain arithmetic, with the unit as a letter -/
theorem ar_mul {a b J K N M O : Nat} (hm : a * J = N * O) (gm : b * K = M * O) : a * b * (J * K) = N * M * (O * O) := by
  calc a * b * (J * K) = (a * J) * (b * K) := by ac_rfl
    _ = N * O * (M * O) := by rw [hm, gm]
    _ = _ := by ac_rfl
theorem ar_z {ab JK NM O z : Nat} (hp : 0 < JK) (q : ab * JK = NM * (O * O)) (hz : z * JK = NM * O) : ab = z * O := by
  apply Nat.eq_of_mul_eq_mul_right hp
  calc ab * JK = NM * O * O := by rw [q]; ac_rfl
    _ = z * JK * O := by rw [hz]
    _ = _ := by ac_rfl
theorem ar_i {X Y J K N M O s : Int} (hO : O ≠ 0) (hx : X * J = N * O) (hy : Y * K = M * O) (hs : s * O = X * Y) : s * (J * K) = N * M * O := by
  apply Int.eq_of_mul_eq_mul_right hO
  calc s * (J * K) * O = s * O * (J * K) := by ac_rfl
    _ = (X * J) * (Y * K) := by rw [hs]; ac_rfl
    _ = N * M * O * O := by rw [hx, hy]; ac_rfl
theorem ar_d {x y z J K I N M W O : Nat} (hp : 0 < J * K * I) (hx : x * J = N * O) (hy : y * K = M * O) (hz : z * I = W * O) (hw : N * K * I = W * M * J) : x * O = z * y := by
  apply Nat.eq_of_mul_eq_mul_right hp
  calc x * O * (J * K * I) = (x * J) * O * (K * I) := by ac_rfl
    _ = (N * K * I) * (O * O) := by rw [hx]; ac_rfl
    _ = (W * O) * (M * O) * J := by rw [hw]; ac_rfl
    _ = (z * I) * (y * K) * J := by rw [hz, hy]
    _ = _ := by ac_rfl
theorem ar_q {q X Y J K I N M W O : Int} (hY : Y ≠ 0) (hJ : J ≠ 0) (hK : K ≠ 0) (hx : X * J = N * O) (hy : Y * K = M * O) (hs : q * Y = X * O) (hw : N * K * I = W * M * J) : q * I = W * O := by
  apply Int.eq_of_mul_eq_mul_right hY
  apply Int.eq_of_mul_eq_mul_right hJ
  apply Int.eq_of_mul_eq_mul_right hK
  calc q * I * Y * J * K = (q * Y) * I * J * K := by ac_rfl
    _ = (X * J) * K * I * O := by rw [hs]; ac_rfl
    _ = (N * K * I) * O * O := by rw [hx]; ac_rfl
    _ = W * (M * O) * J * O := by rw [hw]; ac_rfl
    _ = W * O * Y * J * K := by rw [← hy]; ac_rfl
theorem ar_p {c d P Q X Y W : Nat} (e : P * Q = X * Y * W) : c * d * P * Q = c * X * (d * Y) * 1 * W := by
  rw [Nat.mul_assoc (c * d), e]; ac_rfl
theorem ar_up {X J K N O : Int} (h : X * J = N * O) : X * (J * K) = N * K * O := by
  calc X * (J * K) = X * J * K := by ac_rfl
    _ = N * O * K := by rw [h]
    _ = _ := by ac_rfl
abbrev rr (s : Bool) (A B : Nat) : Datum := roundRatio b64 s A B 0
theorem one_pow : one64 = 2 ^ 1074 := rfl
theorem one_ne : (one64 : Int) ≠ 0 := by have := one64_pos; omega
theorem fin_u {x : UInt64} {s : Bool} {c : Nat} {q : Int} (h : val64 x = .fin s c q) : sgn (val64 x) = s ∧ zmag b64 (val64 x) = c * 2 ^ (q + 1074).toNat ∧ -1074 ≤ q := by
  have hf := val64_fits x
  rw [h] at hf ⊢
  have h2 := hf.2.1
  rw [qmin_b64] at h2
  refine ⟨rfl, ?_, h2⟩
  show inUnits c q b64.qmin = _
  rw [qmin_b64]
  show c * 2 ^ (q - -1074).toNat = _
  rw [show q - -1074 = q + 1074 by omega]
theorem zv_eq (x : UInt64) : zval b64 (val64 x) = signed (sgn (val64 x)) (zmag b64 (val64 x)) := rfl
theorem ddiv_rr {x y : UInt64} (hx : DFin x) (hy : DFin y) (hz : zmag b64 (val64 y) ≠ 0) : val64 (ddiv x y) = rr (sgn (val64 x) != sgn (val64 y)) (zmag b64 (val64 x)) (zmag b64 (val64 y)) := by
  obtain ⟨s, c, q, ex⟩ := hx
  obtain ⟨t, d, r, ey⟩ := hy
  obtain ⟨h1, h2, h3⟩ := fin_u ex
  obtain ⟨g1, g2, g3⟩ := fin_u ey
  rw [g2] at hz
  have hd : d ≠ 0 := fun k => hz (by rw [k, Nat.zero_mul])
  rw [val64_ddiv, h1, h2, g1, g2, ex, ey]
  show (if d = 0 then _ else roundRatio b64 (s != t) c d (q - r)) = _
  rw [if_neg hd]
  refine roundRatio_congr (Nat.pos_of_ne_zero hd) (Nat.pos_of_ne_zero hz) ?_
  have e : 2 ^ (r + 1074).toNat * 2 ^ (q - r - 0).toNat = 2 ^ (q + 1074).toNat * 2 ^ (0 - (q - r)).toNat := by
    rw [← Nat.pow_add, ← Nat.pow_add]
    congr 1
    omega
  calc c * (d * 2 ^ (r + 1074).toNat) * 2 ^ (q - r - 0).toNat = c * d * (2 ^ (r + 1074).toNat * 2 ^ (q - r - 0).toNat) := by ac_rfl
    _ = c * d * (2 ^ (q + 1074).toNat * 2 ^ (0 - (q - r)).toNat) := by rw [e]
    _ = c * 2 ^ (q + 1074).toNat * d * 2 ^ (0 - (q - r)).toNat := by ac_rfl
theorem dmul_rr {x y : UInt64} (hx : DFin x) (hy : DFin y) : val64 (dmul x y) = rr (sgn (val64 x) != sgn (val64 y)) (zmag b64 (val64 x) * zmag b64 (val64 y)) (2 ^ 2148) := by
  obtain ⟨s, c, q, ex⟩ := hx
  obtain ⟨t, d, r, ey⟩ := hy
  obtain ⟨h1, h2, h3⟩ := fin_u ex
  obtain ⟨g1, g2, g3⟩ := fin_u ey
  rw [val64_dmul, h1, h2, g1, g2, ex, ey]
  show roundRatio b64 (s != t) (c * d) 1 (q + r) = _
  refine roundRatio_congr Nat.one_pos (Nat.two_pow_pos _) ?_
  have e : 2 ^ 2148 * 2 ^ (q + r - 0).toNat = 2 ^ (q + 1074).toNat * 2 ^ (r + 1074).toNat * 2 ^ (0 - (q + r)).toNat := by
    rw [← Nat.pow_add, ← Nat.pow_add, ← Nat.pow_add]
    congr 1
    omega
  exact ar_p e
theorem sum_rr {X Y : Datum} (fx : FP.Core.fits b64 X) (fy : FP.Core.fits b64 Y) (hx : ∃ s c q, X = .fin s c q) (hy : ∃ s c q, Y = .fin s c q) : ∃ sg, round b64 (exactSum X Y) = rr sg (zval b64 X + zval b64 Y).natAbs one64 ∧ signed sg (zval b64 X + zval b64 Y).natAbs = zval b64 X + zval b64 Y := by
  obtain ⟨s, c, q, rfl⟩ := hx
  obtain ⟨t, d, r, rfl⟩ := hy
  obtain ⟨sg, n, e, e1, e2, e3⟩ := sum_units fx fy
  have e4 : (zval b64 (.fin s c q) + zval b64 (.fin t d r)).natAbs = inUnits n e b64.qmin := by rw [← e3, natAbs_signed]
  refine ⟨sg, ?_, by rw [e4, e3]⟩
  rw [e4, e1]
  show roundRatio b64 sg n 1 e = _
  refine roundRatio_congr Nat.one_pos one64_pos ?_
  rw [qmin_b64] at e2 ⊢
  show n * one64 * 2 ^ (e - 0).toNat = n * 2 ^ (e - -1074).toNat * 1 * 2 ^ (0 - e).toNat
  rw [one_pow, Nat.mul_assoc, ← Nat.pow_add, Nat.mul_one, Nat.mul_assoc n, ← Nat.pow_add]
  congr 2
  omega
theorem dadd_rr {x y : UInt64} (hx : DFin x) (hy : DFin y) : ∃ sg, val64 (dadd x y) = rr sg (zval b64 (val64 x) + zval b64 (val64 y)).natAbs one64 ∧ signed sg (zval b64 (val64 x) + zval b64 (val64 y)).natAbs = zval b64 (val64 x) + zval b64 (val64 y) := by
  obtain ⟨sg, h1, h2⟩ := sum_rr (val64_fits x) (val64_fits y) hx hy
  exact ⟨sg, by rw [val64_dadd, h1], h2⟩
theorem dsub_rr {x y : UInt64} (hx : DFin x) (hy : DFin y) : ∃ sg, val64 (dsub x y) = rr sg (zval b64 (val64 x) - zval b64 (val64 y)).natAbs one64 ∧ signed sg (zval b64 (val64 x) - zval b64 (val64 y)).natAbs = zval b64 (val64 x) - zval b64 (val64 y) := by
  obtain ⟨t, d, r, ey⟩ := hy
  obtain ⟨sg, h1, h2⟩ := sum_rr (val64_fits x) (negate_fits (val64_fits y)) hx ⟨!t, d, r, by rw [ey]; rfl⟩
  rw [zval_negate, ← Int.sub_eq_add_neg] at h1 h2
  exact ⟨sg, by rw [val64_dsub, h1], h2⟩
/-- a whole number of units that a double holds -/
def Rep (z : Nat) : Prop := ∃ V : Datum, FP.Core.fits b64 V ∧ (∃ s c q, V = .fin s c q) ∧ zmag b64 V = z
theorem rep_pow {n k : Nat} (hn : n < 2 ^ 53) (hk : k ≤ 2045) : Rep (n * 2 ^ k) := by
  obtain ⟨c', q', h1, h2⟩ := round_exact good_b64 false (c := n) (q := (k : Int) - 1074) (by exact hn) (by rw [qmin_b64]; omega) (by show (k : Int) - 1074 ≤ 971; omega)
  refine ⟨.fin false c' q', by rw [← h1]; exact round_fits good_b64 _, ⟨_, _, _, rfl⟩, ?_⟩
  show inUnits c' q' b64.qmin = _
  rw [h2, qmin_b64]
  show n * 2 ^ ((k : Int) - 1074 - -1074).toNat = _
  congr 2
  omega
theorem rep_pow' {n k : Nat} (hn : n ≤ 2 ^ 53) (hk : k ≤ 2044) : Rep (n * 2 ^ k) := by
  by_cases h : n < 2 ^ 53
  · exact rep_pow h (by omega)
  · have e : n * 2 ^ k = 2 ^ 52 * 2 ^ (k + 1) := by
      rw [show n = 2 ^ 53 by omega, ← Nat.pow_add, ← Nat.pow_add]; congr 1; omega
    rw [e]; exact rep_pow (by decide) (by omega)
theorem rep_val {x : UInt64} (h : DFin x) : Rep (zmag b64 (val64 x)) := ⟨_, val64_fits x, h, rfl⟩
theorem in_u (A : Nat) : inUnits A 0 b64.qmin = A * one64 := by rw [qmin_b64]; rfl
theorem rr_le {s : Bool} {A B z : Nat} (hB : 0 < B) (hz : Rep z) (h : A * one64 ≤ z * B) : zmag b64 (rr s A B) ≤ z := by
  obtain ⟨V, f, ⟨t, c, q, rfl⟩, rfl⟩ := hz
  refine zmag_roundRatio_le good_b64 hB f (by intro k; cases k) (Int.le_refl _) (by rw [qmin_b64]; omega) ?_
  rw [in_u, Int.sub_self]
  simpa using h
theorem rr_ge {s : Bool} {A B z : Nat} (hB : 0 < B) (hz : Rep z) (h : z * B ≤ A * one64) : z ≤ zmag b64 (rr s A B) := by
  obtain ⟨V, f, ⟨t, c, q, rfl⟩, rfl⟩ := hz
  refine zmag_roundRatio_ge good_b64 hB f (Int.le_refl _) (by rw [qmin_b64]; omega) ?_
  rw [in_u, Int.sub_self]
  simpa using h
theorem rep_top {z : Nat} (hz : Rep z) : z < b64.tails * 2 ^ (b64.exps - 2) := by
  obtain ⟨V, f, ⟨t, c, q, rfl⟩, rfl⟩ := hz
  exact zmag_lt_top good_b64 f
theorem rr_fin {s : Bool} {A B z : Nat} (hz : Rep z) (h : zmag b64 (rr s A B) ≤ z) : ∃ c q, rr s A B = .fin s c q := by
  rcases roundRatio_cases b64 s A B 0 with k | k
  · exact k
  · rw [show rr s A B = .inf s from k] at h
    have := rep_top hz
    have e : zmag b64 (.inf s) = b64.tails * 2 ^ (b64.exps - 2) := rfl
    rw [e] at h
    exact absurd this (Nat.not_lt.mpr h)
theorem rr_sgn (s : Bool) (A B : Nat) : sgn (rr s A B) = s := sgn_roundRatio b64 s A B 0
theorem of_rr {x : UInt64} {s : Bool} {A B z : Nat} (hx : val64 x = rr s A B) (hB : 0 < B) (hz : Rep z) (h : A * one64 = z * B) : DFin x ∧ zval b64 (val64 x) = signed s z := by
  have h1 := rr_le (s := s) hB hz (Nat.le_of_eq h)
  have h2 := rr_ge (s := s) hB hz (Nat.le_of_eq h.symm)
  obtain ⟨c, q, e⟩ := rr_fin hz h1
  refine ⟨⟨s, c, q, by rw [hx, e]⟩, ?_⟩
  rw [zv_eq, hx, rr_sgn, Nat.le_antisymm h1 h2]
/-- the double is n / 2^j -/
def Dy (n : Int) (j : Nat) (x : UInt64) : Prop := DFin x ∧ zval b64 (val64 x) * ((2 ^ j : Nat) : Int) = n * (one64 : Int)
theorem p2_ne (j : Nat) : ((2 ^ j : Nat) : Int) ≠ 0 := by have := Nat.two_pow_pos j; omega
theorem Dy.mag {n : Int} {j : Nat} {x : UInt64} (h : Dy n j x) : zmag b64 (val64 x) * 2 ^ j = n.natAbs * one64 := by
  have := congrArg Int.natAbs h.2
  rw [Int.natAbs_mul, Int.natAbs_mul, zv_eq, natAbs_signed, Int.natAbs_natCast, Int.natAbs_natCast] at this
  exact this
theorem Dy.noNaN {n : Int} {j : Nat} {x : UInt64} (h : Dy n j x) : Jvm.Free.Fl.NoNaN64 x := (Jvm.Free.Fl.fin64_core.mpr h.1).noNaN
theorem rep_dy {N z j : Nat} (hn : N ≤ 2 ^ 53) (hj : j ≤ 1074) (h : z * 2 ^ j = N * one64) : Rep z := by
  have e : z = N * 2 ^ (1074 - j) := by
    apply Nat.eq_of_mul_eq_mul_right (Nat.two_pow_pos j)
    rw [h, one_pow, Nat.mul_assoc, ← Nat.pow_add]
    congr 2; omega
  rw [e]; exact rep_pow' hn (by omega)
theorem Dy.of_int {n : Int} {x : UInt64} (h : DInt n x) : Dy n 0 x := by
  refine ⟨?_, ?_⟩
  · unfold DInt at h
    cases e : val64 x with
    | nan => rw [e] at h; exact h.elim
    | inf s => rw [e] at h; exact h.elim
    | fin s c q => exact ⟨s, c, q, e⟩
  · rw [DInt_zval h]; simp
theorem Dy.i2d (v : Int32) : Dy v.toInt 0 (FP.i2d v) := Dy.of_int (i2d_int v)
theorem Dy.l2d {v : Int64} (h : v.toInt.natAbs ≤ 2 ^ 53) : Dy v.toInt 0 (FP.l2d v) := Dy.of_int (l2d_int h)
theorem Dy.up {n : Int} {j : Nat} {x : UInt64} (h : Dy n j x) (k : Nat) : Dy (n * ((2 ^ k : Nat) : Int)) (j + k) x := by
  refine ⟨h.1, ?_⟩
  rw [Nat.pow_add, Int.natCast_mul]
  exact ar_up h.2
theorem Dy.cmp {n m : Int} {j : Nat} {x y : UInt64} (h : Dy n j x) (g : Dy m j y) : FP.dcmp x y = some (compare n m) := by
  have hp : (0 : Int) < ((2 ^ j : Nat) : Int) := by have := Nat.two_pow_pos j; omega
  have ho : (0 : Int) < (one64 : Int) := by have := one64_pos; omega
  rw [show FP.dcmp x y = _ from dcmp_zval h.1.ne_nan g.1.ne_nan, ← compare_mul_pos _ _ _ hp, h.2, g.2, compare_mul_pos _ _ _ ho]
theorem Dy.add {n m : Int} {j : Nat} {x y : UInt64} (h : Dy n j x) (g : Dy m j y) (hb : (n + m).natAbs ≤ 2 ^ 53) (hj : j ≤ 1074) : Dy (n + m) j (FP.dadd x y) := by
  obtain ⟨sg, e1, e2⟩ := dadd_rr h.1 g.1
  have e : (zval b64 (val64 x) + zval b64 (val64 y)) * ((2 ^ j : Nat) : Int) = (n + m) * (one64 : Int) := by rw [Int.add_mul, Int.add_mul, h.2, g.2]
  have e' := congrArg Int.natAbs e
  rw [Int.natAbs_mul, Int.natAbs_mul, Int.natAbs_natCast, Int.natAbs_natCast] at e'
  obtain ⟨d1, d2⟩ := of_rr (x := FP.dadd x y) e1 one64_pos (rep_dy hb hj e') rfl
  exact ⟨d1, by rw [d2, e2, e]⟩
theorem Dy.sub {n m : Int} {j : Nat} {x y : UInt64} (h : Dy n j x) (g : Dy m j y) (hb : (n - m).natAbs ≤ 2 ^ 53) (hj : j ≤ 1074) : Dy (n - m) j (FP.dsub x y) := by
  obtain ⟨sg, e1, e2⟩ := dsub_rr h.1 g.1
  have e : (zval b64 (val64 x) - zval b64 (val64 y)) * ((2 ^ j : Nat) : Int) = (n - m) * (one64 : Int) := by rw [Int.sub_mul, Int.sub_mul, h.2, g.2]
  have e' := congrArg Int.natAbs e
  rw [Int.natAbs_mul, Int.natAbs_mul, Int.natAbs_natCast, Int.natAbs_natCast] at e'
  obtain ⟨d1, d2⟩ := of_rr (x := FP.dsub x y) e1 one64_pos (rep_dy hb hj e') rfl
  exact ⟨d1, by rw [d2, e2, e]⟩
theorem one_sq : one64 * one64 = 2 ^ 2148 := by rw [one_pow, ← Nat.pow_add]
theorem Dy.mul {n m : Int} {j k : Nat} {x y : UInt64} (h : Dy n j x) (g : Dy m k y) (hb : (n * m).natAbs ≤ 2 ^ 53) (hj : j + k ≤ 1074) : Dy (n * m) (j + k) (FP.dmul x y) := by
  have e1 := dmul_rr h.1 g.1
  have q1 := ar_mul h.mag g.mag
  rw [← Nat.pow_add, ← Int.natAbs_mul] at q1
  obtain ⟨z, hz⟩ : ∃ z, z = (n * m).natAbs * 2 ^ (1074 - (j + k)) := ⟨_, rfl⟩
  have hz1 : z * 2 ^ (j + k) = (n * m).natAbs * one64 := by
    rw [hz, one_pow, Nat.mul_assoc, ← Nat.pow_add]; congr 2; omega
  have hz2 := ar_z (Nat.two_pow_pos (j + k)) q1 hz1
  have hR : Rep z := by rw [hz]; exact rep_pow' hb (by omega)
  obtain ⟨d1, d2⟩ := of_rr (x := FP.dmul x y) e1 (Nat.two_pow_pos _) hR (by rw [hz2, Nat.mul_assoc, one_sq])
  refine ⟨d1, ?_⟩
  have hs : signed (sgn (val64 x) != sgn (val64 y)) z * (one64 : Int) = zval b64 (val64 x) * zval b64 (val64 y) := by rw [← signed_mul, ← hz2, signed_xor, zv_eq, zv_eq]
  rw [d2, Nat.pow_add, Int.natCast_mul]
  exact ar_i one_ne h.2 g.2 hs
theorem zm_ne {n : Int} {j : Nat} {x : UInt64} (h : Dy n j x) (hn : n ≠ 0) : zmag b64 (val64 x) ≠ 0 := by
  intro k
  have := h.mag
  rw [k, Nat.zero_mul] at this
  have h1 : n.natAbs * one64 ≠ 0 := Nat.mul_ne_zero (by omega) (by have := one64_pos; omega)
  exact h1 this.symm
theorem signed_div (s t : Bool) (a b : Nat) : signed (s != t) a * signed t b = signed s (a * b) := by rw [← signed_xor]; congr 1; cases s <;> cases t <;> rfl
theorem Dy.div {n m w : Int} {j k i : Nat} {x y : UInt64} (h : Dy n j x) (g : Dy m k y) (hm0 : m ≠ 0) (hw : n * ((2 ^ k : Nat) : Int) * ((2 ^ i : Nat) : Int) = w * m * ((2 ^ j : Nat) : Int)) (hb : w.natAbs ≤ 2 ^ 53) (hi : i ≤ 1074) : Dy w i (FP.ddiv x y) := by
  have hz0 := zm_ne g hm0
  have e1 := ddiv_rr h.1 g.1 hz0
  obtain ⟨z, hz⟩ : ∃ z, z = w.natAbs * 2 ^ (1074 - i) := ⟨_, rfl⟩
  have hz1 : z * 2 ^ i = w.natAbs * one64 := by
    rw [hz, one_pow, Nat.mul_assoc, ← Nat.pow_add]; congr 2; omega
  have hw' := congrArg Int.natAbs hw
  simp only [Int.natAbs_mul, Int.natAbs_natCast] at hw'
  have hz2 := ar_d (Nat.mul_pos (Nat.mul_pos (Nat.two_pow_pos j) (Nat.two_pow_pos k)) (Nat.two_pow_pos i)) h.mag g.mag hz1 hw'
  have hR : Rep z := by rw [hz]; exact rep_pow' hb (by omega)
  obtain ⟨d1, d2⟩ := of_rr (x := FP.ddiv x y) e1 (Nat.pos_of_ne_zero hz0) hR hz2
  refine ⟨d1, ?_⟩
  have hs : zval b64 (val64 (FP.ddiv x y)) * zval b64 (val64 y) = zval b64 (val64 x) * (one64 : Int) := by
    rw [d2, zv_eq y, signed_div, ← hz2, signed_mul, zv_eq x]
  have hy0 : zval b64 (val64 y) ≠ 0 := by
    intro q; rw [zv_eq, signed_eq_zero] at q; exact hz0 q
  exact ar_q hy0 (p2_ne j) (p2_ne k) h.2 g.2 hs hw
end Jvm.Own
namespace Jvm.Own
open Jvm.FP.Core Sem ClassFile Op Lib Jvm.Free
theorem Dy.to {n n' : Int} {j j' : Nat} {x : UInt64} (h : Dy n j x) (k : Nat) (hj : j + k = j') (hn : n * ((2 ^ k : Nat) : Int) = n') : Dy n' j' x := by subst hj hn; exact h.up k
theorem Dy.cl {n m : Int} {j : Nat} {x y : UInt64} (h : Dy n j x) (g : Dy m j y) (o : CmpOp) : cmpValue (FP.dcmp x y) o = cmpI n m := by rw [h.cmp g, cmpI_some]
theorem Dy.lit {n : Int} {j : Nat} {x : UInt64} (h1 : x.toNat % 2 ^ 63 < 9218868437227405312) (h2 : zval b64 (val64 x) * ((2 ^ j : Nat) : Int) = n * (one64 : Int)) : Dy n j x := ⟨(fin_bits x).mpr h1, h2⟩
theorem Dy.i2d' {v : Int32} {n : Int} (h : v.toInt = n) : Dy n 0 (FP.i2d v) := h ▸ Dy.i2d v
theorem Dy.l2d' {v : Int64} {n : Int} (h : v.toInt = n) (hb : n.natAbs ≤ 2 ^ 53) : Dy n 0 (FP.l2d v) := by subst h; exact Dy.l2d hb
end Jvm.Own
namespace Jvm.Own
open Jvm.FP.Core Sem ClassFile Op Lib Jvm.Free
/-! the quotient, rounded: between what stands around it -/
abbrev zv (x : UInt64) : Int := zval b64 (val64 x)
theorem Zc {x y : UInt64} (hx : DFin x) (hy : DFin y) (o : CmpOp) : cmpValue (FP.dcmp x y) o = cmpI (zv x) (zv y) := by
  rw [show FP.dcmp x y = _ from dcmp_zval hx.ne_nan hy.ne_nan, cmpI_some]
theorem Dy.same {n : Int} {j : Nat} {x y : UInt64} (h : Dy n j x) (g : Dy n j y) : zv x = zv y := by
  apply Int.eq_of_mul_eq_mul_right (p2_ne j)
  rw [h.2, g.2]
theorem sg_le (s : Bool) (z : Nat) : signed s z ≤ (z : Int) := by cases s <;> simp [signed] <;> omega
theorem sg_ge (s : Bool) (z : Nat) : -(z : Int) ≤ signed s z := by cases s <;> simp [signed] <;> omega
theorem sg_nn {s : Bool} {z : Nat} (h : 0 ≤ signed s z) : signed s z = (z : Int) := by
  cases s
  · rfl
  · have e : signed true z = -(z : Int) := rfl
    rw [e] at h ⊢; omega
theorem sg_np {s : Bool} {z : Nat} (h : signed s z ≤ 0) : signed s z = -(z : Int) := by
  cases s
  · have e : signed false z = (z : Int) := rfl
    rw [e] at h ⊢; omega
  · rfl
theorem Dy.nn {n : Int} {j : Nat} {x : UInt64} (h : Dy n j x) (hn : 0 ≤ n) : 0 ≤ zv x := by
  have hp : (0 : Int) < ((2 ^ j : Nat) : Int) := by have := Nat.two_pow_pos j; omega
  have e : zv x * ((2 ^ j : Nat) : Int) = n * (one64 : Int) := h.2
  have q : 0 ≤ zv x * ((2 ^ j : Nat) : Int) := by rw [e]; exact Int.mul_nonneg hn (Int.natCast_nonneg _)
  exact Int.nonneg_of_mul_nonneg_left q hp
theorem Dy.np {n : Int} {j : Nat} {x : UInt64} (h : Dy n j x) (hn : n ≤ 0) : zv x ≤ 0 := by
  have hp : (0 : Int) < ((2 ^ j : Nat) : Int) := by have := Nat.two_pow_pos j; omega
  have e : zv x * ((2 ^ j : Nat) : Int) = n * (one64 : Int) := h.2
  have q : 0 ≤ -zv x * ((2 ^ j : Nat) : Int) := by
    rw [Int.neg_mul, e, ← Int.neg_mul]; exact Int.mul_nonneg (by omega) (Int.natCast_nonneg _)
  have := Int.nonneg_of_mul_nonneg_left q hp
  omega
theorem Dy.pos_sgn {n : Int} {j : Nat} {x : UInt64} (h : Dy n j x) (hn : 0 < n) : sgn (val64 x) = false := by
  have h0 := h.nn (by omega)
  have hz := zm_ne h (by omega)
  rw [show zv x = signed (sgn (val64 x)) (zmag b64 (val64 x)) from rfl] at h0
  cases e : sgn (val64 x)
  · rfl
  · rw [e] at h0
    have e2 : signed true (zmag b64 (val64 x)) = -(zmag b64 (val64 x) : Int) := rfl
    rw [e2] at h0; omega
theorem zmul_le {a b A B c d P : Nat} (hP : 0 < P) (h1 : a * P = A) (h2 : b * P = B) (h : A ≤ B) : a ≤ b := by
  subst h1 h2; exact Nat.le_of_mul_le_mul_right h hP
/-- the magnitude of x / y against V's -/
theorem ar_le {x y V I K J N M v O : Nat} (hp : 0 < I * K * J) (hx : x * I = N * O) (hy : y * K = M * O) (hV : V * J = v * O) (h : N * K * J ≤ v * M * I) : x * O ≤ V * y := by
  apply Nat.le_of_mul_le_mul_right (c := I * K * J) _ hp
  calc x * O * (I * K * J) = (x * I) * (O * (K * J)) := by ac_rfl
    _ = (N * K * J) * (O * O) := by rw [hx]; ac_rfl
    _ ≤ (v * M * I) * (O * O) := Nat.mul_le_mul_right _ h
    _ = (v * O) * (M * O) * I := by ac_rfl
    _ = (V * J) * (y * K) * I := by rw [hV, hy]
    _ = V * y * (I * K * J) := by ac_rfl
theorem ar_ge {x y V I K J N M v O : Nat} (hp : 0 < I * K * J) (hx : x * I = N * O) (hy : y * K = M * O) (hV : V * J = v * O) (h : v * M * I ≤ N * K * J) : V * y ≤ x * O := by
  apply Nat.le_of_mul_le_mul_right (c := I * K * J) _ hp
  calc V * y * (I * K * J) = (V * J) * (y * K) * I := by ac_rfl
    _ = (v * O) * (M * O) * I := by rw [hV, hy]
    _ = (v * M * I) * (O * O) := by ac_rfl
    _ ≤ (N * K * J) * (O * O) := Nat.mul_le_mul_right _ h
    _ = (x * I) * (O * (K * J)) := by rw [hx]; ac_rfl
    _ = x * O * (I * K * J) := by ac_rfl
theorem p3_pos (i k j : Nat) : 0 < 2 ^ i * 2 ^ k * 2 ^ j := Nat.mul_pos (Nat.mul_pos (Nat.two_pow_pos i) (Nat.two_pow_pos k)) (Nat.two_pow_pos j)
theorem mag_le_of {n m v : Int} {i k j : Nat} {x y V : UInt64} (hx : Dy n i x) (hy : Dy m k y) (hV : Dy v j V) (h : n.natAbs * 2 ^ k * 2 ^ j ≤ v.natAbs * m.natAbs * 2 ^ i) : zmag b64 (val64 x) * one64 ≤ zmag b64 (val64 V) * zmag b64 (val64 y) := ar_le (p3_pos i k j) hx.mag hy.mag hV.mag h
theorem mag_ge_of {n m v : Int} {i k j : Nat} {x y V : UInt64} (hx : Dy n i x) (hy : Dy m k y) (hV : Dy v j V) (h : v.natAbs * m.natAbs * 2 ^ i ≤ n.natAbs * 2 ^ k * 2 ^ j) : zmag b64 (val64 V) * zmag b64 (val64 y) ≤ zmag b64 (val64 x) * one64 := ar_ge (p3_pos i k j) hx.mag hy.mag hV.mag h
theorem zv_div {n m : Int} {i k : Nat} {x y : UInt64} (hx : Dy n i x) (hy : Dy m k y) (hm : 0 < m) : zv (FP.ddiv x y) = signed (sgn (val64 x)) (zmag b64 (rr (sgn (val64 x)) (zmag b64 (val64 x)) (zmag b64 (val64 y)))) ∧ val64 (FP.ddiv x y) = rr (sgn (val64 x)) (zmag b64 (val64 x)) (zmag b64 (val64 y)) := by
  have e := ddiv_rr hx.1 hy.1 (zm_ne hy (by omega))
  rw [hy.pos_sgn hm] at e
  have es : (sgn (val64 x) != false) = sgn (val64 x) := by cases sgn (val64 x) <;> rfl
  rw [es] at e
  refine ⟨?_, e⟩
  show signed (sgn (val64 (ddiv x y))) (zmag b64 (val64 (ddiv x y))) = _
  rw [e, rr_sgn]
theorem rr_zero (s : Bool) (B : Nat) : zmag b64 (rr s 0 B) = 0 := by
  show zmag b64 (roundRatio b64 s 0 B 0) = 0
  unfold roundRatio
  rw [if_pos rfl]
  show 0 * _ = 0
  rw [Nat.zero_mul]
theorem Dy.neg_sgn {n : Int} {j : Nat} {x : UInt64} (h : Dy n j x) (hn : n < 0) : sgn (val64 x) = true := by
  have h0 := h.np (by omega)
  have hz := zm_ne h (by omega)
  rw [show zv x = signed (sgn (val64 x)) (zmag b64 (val64 x)) from rfl] at h0
  cases e : sgn (val64 x)
  · rw [e] at h0
    have e2 : signed false (zmag b64 (val64 x)) = (zmag b64 (val64 x) : Int) := rfl
    rw [e2] at h0; omega
  · rfl
theorem nat_le_of {n m v : Int} {P Q R : Nat} (hn : 0 ≤ n) (hm : 0 < m) (hv : 0 ≤ v) (h : n * (P : Int) * (Q : Int) ≤ v * m * (R : Int)) : n.natAbs * P * Q ≤ v.natAbs * m.natAbs * R := by
  apply Int.ofNat_le.mp
  simp only [Int.natCast_mul, Int.natAbs_of_nonneg hn, Int.natAbs_of_nonneg hv, Int.natAbs_of_nonneg (Int.le_of_lt hm)]
  exact h
theorem nat_ge_of {n m v : Int} {P Q R : Nat} (hn : 0 ≤ n) (hm : 0 < m) (hv : 0 ≤ v) (h : v * m * (R : Int) ≤ n * (P : Int) * (Q : Int)) : v.natAbs * m.natAbs * R ≤ n.natAbs * P * Q := by
  apply Int.ofNat_le.mp
  simp only [Int.natCast_mul, Int.natAbs_of_nonneg hn, Int.natAbs_of_nonneg hv, Int.natAbs_of_nonneg (Int.le_of_lt hm)]
  exact h
theorem neg_side {n m v P Q R : Int} (h : n * P * Q ≤ v * m * R) : (-v) * m * R ≤ (-n) * P * Q := by
  rw [Int.neg_mul, Int.neg_mul, Int.neg_mul, Int.neg_mul]; omega
theorem neg_side' {n m v P Q R : Int} (h : v * m * R ≤ n * P * Q) : (-n) * P * Q ≤ (-v) * m * R := by
  rw [Int.neg_mul, Int.neg_mul, Int.neg_mul, Int.neg_mul]; omega
theorem p2_pos (k : Nat) : (0 : Int) < ((2 ^ k : Nat) : Int) := by have := Nat.two_pow_pos k; omega
theorem div_le {n m v : Int} {i k j : Nat} {x y V : UInt64} (hx : Dy n i x) (hy : Dy m k y) (hm : 0 < m) (hV : Dy v j V) (h : n * ((2 ^ k : Nat) : Int) * ((2 ^ j : Nat) : Int) ≤ v * m * ((2 ^ i : Nat) : Int)) : zv (FP.ddiv x y) ≤ zv V := by
  obtain ⟨e, -⟩ := zv_div hx hy hm
  have hz : 0 < zmag b64 (val64 y) := Nat.pos_of_ne_zero (zm_ne hy (by omega))
  have pk := p2_pos k; have pj := p2_pos j; have pi := p2_pos i
  rw [e]
  by_cases hn : 0 ≤ n
  · have hv : 0 ≤ v := by
      have q : 0 ≤ v * m * ((2 ^ i : Nat) : Int) := Int.le_trans (Int.mul_nonneg (Int.mul_nonneg hn (Int.le_of_lt pk)) (Int.le_of_lt pj)) h
      exact Int.nonneg_of_mul_nonneg_left (Int.nonneg_of_mul_nonneg_left q pi) hm
    have hr := rr_le (s := sgn (val64 x)) hz (rep_val hV.1) (mag_le_of hx hy hV (nat_le_of hn hm hv h))
    have h0 := hV.nn hv
    rw [show zv V = signed (sgn (val64 V)) (zmag b64 (val64 V)) from rfl] at h0 ⊢
    rw [sg_nn h0]
    exact Int.le_trans (sg_le _ _) (Int.ofNat_le.mpr hr)
  · have hn' : n < 0 := by omega
    rw [hx.neg_sgn hn']
    by_cases hv : 0 ≤ v
    · have h0 := hV.nn hv
      have : signed true (zmag b64 (rr true (zmag b64 (val64 x)) (zmag b64 (val64 y)))) ≤ 0 := by
        show -((zmag b64 (rr true (zmag b64 (val64 x)) (zmag b64 (val64 y))) : Nat) : Int) ≤ 0
        omega
      omega
    · have h2 := neg_side h
      have h3 := nat_ge_of (n := -n) (v := -v) (by omega) hm (by omega) h2
      rw [Int.natAbs_neg, Int.natAbs_neg] at h3
      have hr := rr_ge (s := true) hz (rep_val hV.1) (mag_ge_of hx hy hV h3)
      have h0 := hV.np (by omega)
      rw [show zv V = signed (sgn (val64 V)) (zmag b64 (val64 V)) from rfl] at h0 ⊢
      rw [sg_np h0]
      show -((zmag b64 (rr true (zmag b64 (val64 x)) (zmag b64 (val64 y))) : Nat) : Int) ≤ _
      omega
theorem div_ge {n m v : Int} {i k j : Nat} {x y V : UInt64} (hx : Dy n i x) (hy : Dy m k y) (hm : 0 < m) (hV : Dy v j V) (h : v * m * ((2 ^ i : Nat) : Int) ≤ n * ((2 ^ k : Nat) : Int) * ((2 ^ j : Nat) : Int)) : zv V ≤ zv (FP.ddiv x y) := by
  obtain ⟨e, -⟩ := zv_div hx hy hm
  have hz : 0 < zmag b64 (val64 y) := Nat.pos_of_ne_zero (zm_ne hy (by omega))
  have pk := p2_pos k; have pj := p2_pos j; have pi := p2_pos i
  rw [e]
  by_cases hn : n ≤ 0
  · have hv : v ≤ 0 := by
      have q : 0 ≤ (-v) * m * ((2 ^ i : Nat) : Int) := Int.le_trans (Int.mul_nonneg (Int.mul_nonneg (by omega : 0 ≤ -n) (Int.le_of_lt pk)) (Int.le_of_lt pj)) (neg_side' h)
      have := Int.nonneg_of_mul_nonneg_left (Int.nonneg_of_mul_nonneg_left q pi) hm
      omega
    have h3 := nat_le_of (n := -n) (v := -v) (by omega) hm (by omega) (neg_side' h)
    rw [Int.natAbs_neg, Int.natAbs_neg] at h3
    have hr := rr_le (s := sgn (val64 x)) hz (rep_val hV.1) (mag_le_of hx hy hV h3)
    have h0 := hV.np hv
    rw [show zv V = signed (sgn (val64 V)) (zmag b64 (val64 V)) from rfl] at h0 ⊢
    rw [sg_np h0]
    exact Int.le_trans (Int.neg_le_neg (Int.ofNat_le.mpr hr)) (sg_ge _ _)
  · have hn' : 0 < n := by omega
    rw [hx.pos_sgn hn']
    by_cases hv : v ≤ 0
    · have h0 := hV.np hv
      have : 0 ≤ signed false (zmag b64 (rr false (zmag b64 (val64 x)) (zmag b64 (val64 y)))) := by
        show 0 ≤ ((zmag b64 (rr false (zmag b64 (val64 x)) (zmag b64 (val64 y))) : Nat) : Int)
        omega
      omega
    · have h3 := nat_ge_of (by omega) hm (by omega) h
      have hr := rr_ge (s := false) hz (rep_val hV.1) (mag_ge_of hx hy hV h3)
      have h0 := hV.nn (by omega)
      rw [show zv V = signed (sgn (val64 V)) (zmag b64 (val64 V)) from rfl] at h0 ⊢
      rw [sg_nn h0]
      show _ ≤ ((zmag b64 (rr false (zmag b64 (val64 x)) (zmag b64 (val64 y))) : Nat) : Int)
      omega
theorem div_fin {n m v : Int} {i k j : Nat} {x y V : UInt64} (hx : Dy n i x) (hy : Dy m k y) (hm : 0 < m) (hV : Dy v j V) (h : n.natAbs * 2 ^ k * 2 ^ j ≤ v.natAbs * m.natAbs * 2 ^ i) : DFin (FP.ddiv x y) := by
  obtain ⟨-, e⟩ := zv_div hx hy hm
  have hz : 0 < zmag b64 (val64 y) := Nat.pos_of_ne_zero (zm_ne hy (by omega))
  obtain ⟨c, q, r⟩ := rr_fin (rep_val hV.1) (rr_le (s := sgn (val64 x)) hz (rep_val hV.1) (mag_le_of hx hy hV h))
  exact ⟨_, c, q, by rw [show val64 (FP.ddiv x y) = _ from e, r]⟩
theorem DFin.nn64 {x : UInt64} (h : DFin x) : Jvm.Free.Fl.NoNaN64 x := (Jvm.Free.Fl.fin64_core.mpr h).noNaN
/-- a quotient of whole numbers that are small: it is finite -/
theorem div_whole {n m : Int} {x y : UInt64} (hx : Dy n 0 x) (hy : Dy m 0 y) (hm : 0 < m) : DFin (FP.ddiv x y) := by
  refine div_fin hx hy hm hx ?_
  have : 1 ≤ m.natAbs := by omega
  simp only [Nat.pow_zero, Nat.mul_one]
  exact Nat.le_mul_of_pos_right _ (by omega)
end Jvm.Own
namespace Jvm.Own
open Sem ClassFile Op Lib Jvm.Stand Jvm.Free Jvm.LawKit Jvm.RoadKit
/-! arrays whose whole list of values is known -/
def Ars (Z : State) (h : Heap) (a : Addr) (ty : FieldType) (vs : List Value) : Prop := ∃ c : Cell, Arr Z h a c ty ∧ c.slots.toList = vs ∧ ∀ v ∈ vs, fits ty v = true
section ArsFacts
variable {Z : State} {h h' : Heap} {a b : Addr} {ty : FieldType} {vs : List Value} {sl : Nat} {w : Value} {ws : List Addr}
theorem Ars.ext (E : Ext h h') (F : Ars Z h a ty vs) : Ars Z h' a ty vs := by
  obtain ⟨c, A, r⟩ := F; exact ⟨c, A.ext E, r⟩
theorem Ars.other (W : Wr h h' b sl w) (F : Ars Z h a ty vs) (q : a ≠ b) : Ars Z h' a ty vs := by
  obtain ⟨c, A, r⟩ := F; exact ⟨c, A.other W q, r⟩
theorem Ars.keep (F : Ars Z h a ty vs) (K : Keep h h' ws) (q : a ∉ ws) : Ars Z h' a ty vs := by
  obtain ⟨c, A, r⟩ := F; exact ⟨c, ⟨K.2.1 _ _ A.1 q, A.2⟩, r⟩
theorem Ars.lt (F : Ars Z h a ty vs) : a < h.size := by
  obtain ⟨c, A, r⟩ := F; exact A.lt
theorem Ars.set (W : Wr h h' a sl w) (F : Ars Z h a ty vs) (hw : fits ty w = true) : Ars Z h' a ty (vs.set sl w) := by
  obtain ⟨c, A, r1, r2⟩ := F
  refine ⟨_, A.same W, ?_, ?_⟩
  · show (c.slots.setIfInBounds sl w).toList = _
    rw [Array.toList_setIfInBounds, r1]
  · intro v hv
    rcases List.mem_or_eq_of_mem_set hv with q | rfl
    · exact r2 v q
    · exact hw
theorem Ars.new {cA : ClassId} {n : Int32} {k : Nat} (A : Arr Z h a (newA cA ty n) ty) (hk : n.toNatClampNeg = k) (hf : fits ty (defaultValue ty) = true) : Ars Z h a ty (List.replicate k (defaultValue ty)) := by
  subst hk
  refine ⟨_, A, ?_, ?_⟩
  · show (Array.replicate _ _).toList = _
    rw [Array.toList_replicate]
  · intro v hv; rw [List.eq_of_mem_replicate hv]; exact hf
theorem Ars.size {c : Cell} (r : c.slots.toList = vs) : c.slots.size = vs.length := by rw [← r, Array.length_toList]
theorem Ars.at {c : Cell} (r : c.slots.toList = vs) {i : Nat} {v : Value} (hv : vs[i]? = some v) : c.slots[i]? = some v ∧ i < c.slots.size := by
  rw [← r, Array.getElem?_toList] at hv
  exact ⟨hv, (Array.getElem?_eq_some_iff.mp hv).1⟩
end ArsFacts
section ArsSteps
variable {p : Program} {l : Launch} {e : Env} {R : Room} {s : State} {m : MethodId} {args : Array Value} {below : List Frame} {meth : Method} {c : Code} {T : State} {locs : List Loc} {cells slots : Nat} {Z : State} {a0 : Array Value} {h : Heap} {b : ByteArray} {F : Outcome → State → Prop} {pc pc' : Nat} {ls : Array Slot} {rest : List Value} {a : Addr} {vs : List Value} {v : Value} {j : Int32} {i : Nat}
theorem g_len (X : Stand p l e R s m args below meth c T locs cells slots) (hx : p.tables.exec = Jvm.exec) (hZ : Z.Warmed39 s.vm) (eT : T.heap = h) {ty : FieldType} (V : Ars Z h a ty vs) {n : Int32} (hn : vs.length.toInt32 = n) (hd : decode c.code pc = .ok (.arraylength, 1)) (hp : pc + 1 = pc') (k : Go p e below m F T pc' ls (.int n :: rest)) : Go p e below m F T pc ls (.ref a :: rest) := by
  subst hp hn
  obtain ⟨cl, A, r1, r2⟩ := V
  rw [← Ars.size r1] at k
  exact k.of fun t k => X.arraylength hx (by rw [eT]; exact A.1) (State.isArrayOf_alike hZ.alike A.2.1) (g := mkF m pc ls (.ref a :: rest)) rfl rfl hd t k
theorem g_iaload (X : Stand p l e R s m args below meth c T locs cells slots) (hx : p.tables.exec = Jvm.exec) (hZ : Z.Warmed39 s.vm) (eT : T.heap = h) (V : Ars Z h a .int vs) (hj : ¬ j < 0) (hi : j.toNatClampNeg = i) (hv : vs[i]? = some v) (hd : decode c.code pc = .ok (.iaload, 1)) (hp : pc + 1 = pc') (k : Go p e below m F T pc' ls (v :: rest)) : Go p e below m F T pc ls (.int j :: .ref a :: rest) := by
  subst hp hi
  obtain ⟨cl, A, r1, r2⟩ := V
  obtain ⟨q1, q2⟩ := Ars.at r1 hv
  exact k.of fun t k => X.iaload hx (by rw [eT]; exact A.1) (State.isArrayOf_alike hZ.alike A.2.1) A.2.2 (fun q => q.elim hj fun q => absurd q2 (Nat.not_lt.mpr q)) q1 (g := mkF m pc ls (.int j :: .ref a :: rest)) rfl rfl hd t k
theorem g_caload (X : Stand p l e R s m args below meth c T locs cells slots) (hx : p.tables.exec = Jvm.exec) (hZ : Z.Warmed39 s.vm) (eT : T.heap = h) (V : Ars Z h a .char vs) (hj : ¬ j < 0) (hi : j.toNatClampNeg = i) (hv : vs[i]? = some v) (hd : decode c.code pc = .ok (.caload, 1)) (hp : pc + 1 = pc') (k : Go p e below m F T pc' ls (v :: rest)) : Go p e below m F T pc ls (.int j :: .ref a :: rest) := by
  subst hp hi
  obtain ⟨cl, A, r1, r2⟩ := V
  obtain ⟨q1, q2⟩ := Ars.at r1 hv
  exact k.of fun t k => X.caload hx (by rw [eT]; exact A.1) (State.isArrayOf_alike hZ.alike A.2.1) A.2.2 (fun q => q.elim hj fun q => absurd q2 (Nat.not_lt.mpr q)) q1 (g := mkF m pc ls (.int j :: .ref a :: rest)) rfl rfl hd t k
theorem g_baload (X : Stand p l e R s m args below meth c T locs cells slots) (hx : p.tables.exec = Jvm.exec) (hZ : Z.Warmed39 s.vm) (eT : T.heap = h) (V : Ars Z h a .byte vs) (hj : ¬ j < 0) (hi : j.toNatClampNeg = i) (hv : vs[i]? = some v) (hd : decode c.code pc = .ok (.baload, 1)) (hp : pc + 1 = pc') (k : Go p e below m F T pc' ls (v :: rest)) : Go p e below m F T pc ls (.int j :: .ref a :: rest) := by
  subst hp hi
  obtain ⟨cl, A, r1, r2⟩ := V
  obtain ⟨q1, q2⟩ := Ars.at r1 hv
  exact k.of fun t k => X.baloadBytes hx (by rw [eT]; exact A.1) (State.isArrayOf_alike hZ.alike A.2.1) A.2.2 (fun q => q.elim hj fun q => absurd q2 (Nat.not_lt.mpr q)) q1 (g := mkF m pc ls (.int j :: .ref a :: rest)) rfl rfl hd t k
theorem g_daload (X : Stand p l e R s m args below meth c T locs cells slots) (hx : p.tables.exec = Jvm.exec) (hZ : Z.Warmed39 s.vm) (eT : T.heap = h) (V : Ars Z h a .double vs) (hj : ¬ j < 0) (hi : j.toNatClampNeg = i) (hv : vs[i]? = some v) (hd : decode c.code pc = .ok (.daload, 1)) (hp : pc + 1 = pc') (k : Go p e below m F T pc' ls (v :: rest)) : Go p e below m F T pc ls (.int j :: .ref a :: rest) := by
  subst hp hi
  obtain ⟨cl, A, r1, r2⟩ := V
  obtain ⟨q1, q2⟩ := Ars.at r1 hv
  exact k.of fun t k => X.daload hx (by rw [eT]; exact A.1) (State.isArrayOf_alike hZ.alike A.2.1) A.2.2 (fun q => q.elim hj fun q => absurd q2 (Nat.not_lt.mpr q)) q1 (g := mkF m pc ls (.int j :: .ref a :: rest)) rfl rfl hd t k
theorem g_laload (X : Stand p l e R s m args below meth c T locs cells slots) (hx : p.tables.exec = Jvm.exec) (hZ : Z.Warmed39 s.vm) (eT : T.heap = h) (V : Ars Z h a .long vs) (hj : ¬ j < 0) (hi : j.toNatClampNeg = i) (hv : vs[i]? = some v) (hd : decode c.code pc = .ok (.laload, 1)) (hp : pc + 1 = pc') (k : Go p e below m F T pc' ls (v :: rest)) : Go p e below m F T pc ls (.int j :: .ref a :: rest) := by
  subst hp hi
  obtain ⟨cl, A, r1, r2⟩ := V
  obtain ⟨q1, q2⟩ := Ars.at r1 hv
  exact k.of fun t k => X.laload hx (by rw [eT]; exact A.1) (State.isArrayOf_alike hZ.alike A.2.1) A.2.2 (fun q => q.elim hj fun q => absurd q2 (Nat.not_lt.mpr q)) q1 (g := mkF m pc ls (.int j :: .ref a :: rest)) rfl rfl hd t k
theorem g_aaload (X : Stand p l e R s m args below meth c T locs cells slots) (hx : p.tables.exec = Jvm.exec) (hZ : Z.Warmed39 s.vm) (eT : T.heap = h) {ty : FieldType} (hty : ty.isReference = true) (V : Ars Z h a ty vs) (hj : ¬ j < 0) (hi : j.toNatClampNeg = i) (hv : vs[i]? = some v) (hd : decode c.code pc = .ok (.aaload, 1)) (hp : pc + 1 = pc') (k : Go p e below m F T pc' ls (v :: rest)) : Go p e below m F T pc ls (.int j :: .ref a :: rest) := by
  subst hp hi
  obtain ⟨cl, A, r1, r2⟩ := V
  obtain ⟨q1, q2⟩ := Ars.at r1 hv
  exact k.of fun t k => X.aaload hx (by rw [eT]; exact A.1) (State.isArrayOf_alike hZ.alike A.2.1) hty A.2.2 (fun q => q.elim hj fun q => absurd q2 (Nat.not_lt.mpr q)) q1 (g := mkF m pc ls (.int j :: .ref a :: rest)) rfl rfl hd t k
theorem g_iastore (X : Stand p l e R s m args below meth c T locs cells slots) (hx : p.tables.exec = Jvm.exec) (hZ : Z.Warmed39 s.vm) (eT : T.heap = h) {x : Int32} (V : Ars Z h a .int vs) (hj : ¬ j < 0) (hi : j.toNatClampNeg = i) (hb : i < vs.length) (hv : (.int x) = v) (hd : decode c.code pc = .ok (.iastore, 1)) (hp : pc + 1 = pc') (k : ∀ T' h', Stand p l e R s m args below meth c T' (locs ++ [⟨a, i⟩]) cells slots → T'.heap = h' → Wr h h' a i v → Ars Z h' a .int (vs.set i v) → Go p e below m F T' pc' ls rest) : Go p e below m F T pc ls (.int x :: .int j :: .ref a :: rest) := by
  subst hp hi hv
  obtain ⟨cl, A, r1, r2⟩ := V
  obtain ⟨T', h', X', e', W', st⟩ := stI X hx hZ eT A (j := j) (x := x) (fun q => q.elim hj fun q => absurd (Ars.size r1 ▸ hb) (Nat.not_lt.mpr q)) (g := mkF m pc ls (.int x :: .int j :: .ref a :: rest)) rfl rfl hd
  exact (k T' h' X' e' W' (Ars.set W' ⟨cl, A, r1, r2⟩ rfl)).of st
theorem g_castore (X : Stand p l e R s m args below meth c T locs cells slots) (hx : p.tables.exec = Jvm.exec) (hZ : Z.Warmed39 s.vm) (eT : T.heap = h) {x : Int32} (V : Ars Z h a .char vs) (hj : ¬ j < 0) (hi : j.toNatClampNeg = i) (hb : i < vs.length) (hv : (.int (nar .char x)) = v) (hd : decode c.code pc = .ok (.castore, 1)) (hp : pc + 1 = pc') (k : ∀ T' h', Stand p l e R s m args below meth c T' (locs ++ [⟨a, i⟩]) cells slots → T'.heap = h' → Wr h h' a i v → Ars Z h' a .char (vs.set i v) → Go p e below m F T' pc' ls rest) : Go p e below m F T pc ls (.int x :: .int j :: .ref a :: rest) := by
  subst hp hi hv
  obtain ⟨cl, A, r1, r2⟩ := V
  obtain ⟨T', h', X', e', W', st⟩ := stC X hx hZ eT A (j := j) (x := x) (fun q => q.elim hj fun q => absurd (Ars.size r1 ▸ hb) (Nat.not_lt.mpr q)) (g := mkF m pc ls (.int x :: .int j :: .ref a :: rest)) rfl rfl hd
  exact (k T' h' X' e' W' (Ars.set W' ⟨cl, A, r1, r2⟩ (fits_nar_char x))).of st
theorem g_bastore (X : Stand p l e R s m args below meth c T locs cells slots) (hx : p.tables.exec = Jvm.exec) (hZ : Z.Warmed39 s.vm) (eT : T.heap = h) {x : Int32} (V : Ars Z h a .byte vs) (hj : ¬ j < 0) (hi : j.toNatClampNeg = i) (hb : i < vs.length) (hv : (.int (nar .byte x)) = v) (hd : decode c.code pc = .ok (.bastore, 1)) (hp : pc + 1 = pc') (k : ∀ T' h', Stand p l e R s m args below meth c T' (locs ++ [⟨a, i⟩]) cells slots → T'.heap = h' → Wr h h' a i v → Ars Z h' a .byte (vs.set i v) → Go p e below m F T' pc' ls rest) : Go p e below m F T pc ls (.int x :: .int j :: .ref a :: rest) := by
  subst hp hi hv
  obtain ⟨cl, A, r1, r2⟩ := V
  obtain ⟨T', h', X', e', W', st⟩ := stB X hx hZ eT A (j := j) (x := x) (fun q => q.elim hj fun q => absurd (Ars.size r1 ▸ hb) (Nat.not_lt.mpr q)) (g := mkF m pc ls (.int x :: .int j :: .ref a :: rest)) rfl rfl hd
  exact (k T' h' X' e' W' (Ars.set W' ⟨cl, A, r1, r2⟩ (fits_nar_byte x))).of st
theorem g_dastore (X : Stand p l e R s m args below meth c T locs cells slots) (hx : p.tables.exec = Jvm.exec) (hZ : Z.Warmed39 s.vm) (eT : T.heap = h) {x : UInt64} (V : Ars Z h a .double vs) (hj : ¬ j < 0) (hi : j.toNatClampNeg = i) (hb : i < vs.length) (hv : (.double x) = v) (hd : decode c.code pc = .ok (.dastore, 1)) (hp : pc + 1 = pc') (k : ∀ T' h', Stand p l e R s m args below meth c T' (locs ++ [⟨a, i⟩]) cells slots → T'.heap = h' → Wr h h' a i v → Ars Z h' a .double (vs.set i v) → Go p e below m F T' pc' ls rest) : Go p e below m F T pc ls (.double x :: .int j :: .ref a :: rest) := by
  subst hp hi hv
  obtain ⟨cl, A, r1, r2⟩ := V
  obtain ⟨T', h', X', e', W', st⟩ := stD X hx hZ eT A (j := j) (x := x) (fun q => q.elim hj fun q => absurd (Ars.size r1 ▸ hb) (Nat.not_lt.mpr q)) (g := mkF m pc ls (.double x :: .int j :: .ref a :: rest)) rfl rfl hd
  exact (k T' h' X' e' W' (Ars.set W' ⟨cl, A, r1, r2⟩ rfl)).of st
theorem g_lastore (X : Stand p l e R s m args below meth c T locs cells slots) (hx : p.tables.exec = Jvm.exec) (hZ : Z.Warmed39 s.vm) (eT : T.heap = h) {x : Int64} (V : Ars Z h a .long vs) (hj : ¬ j < 0) (hi : j.toNatClampNeg = i) (hb : i < vs.length) (hv : (.long x) = v) (hd : decode c.code pc = .ok (.lastore, 1)) (hp : pc + 1 = pc') (k : ∀ T' h', Stand p l e R s m args below meth c T' (locs ++ [⟨a, i⟩]) cells slots → T'.heap = h' → Wr h h' a i v → Ars Z h' a .long (vs.set i v) → Go p e below m F T' pc' ls rest) : Go p e below m F T pc ls (.long x :: .int j :: .ref a :: rest) := by
  subst hp hi hv
  obtain ⟨cl, A, r1, r2⟩ := V
  obtain ⟨T', h', X', e', W', st⟩ := stJ X hx hZ eT A (j := j) (x := x) (fun q => q.elim hj fun q => absurd (Ars.size r1 ▸ hb) (Nat.not_lt.mpr q)) (g := mkF m pc ls (.long x :: .int j :: .ref a :: rest)) rfl rfl hd
  exact (k T' h' X' e' W' (Ars.set W' ⟨cl, A, r1, r2⟩ rfl)).of st
theorem g_newarray (X : Stand p l e R s m args below meth c T locs cells slots) (hx : p.tables.exec = Jvm.exec) (hZ : Z.Warmed39 s.vm) (eT : T.heap = h) {aty : ArrayType} (w : (Cond.arrayClass (newarray.typeOf aty)).before a0 Z = true) {n : Int32} {k0 : Nat} (hn : ¬ n < 0) (hk : n.toNatClampNeg = k0) (hb : k0 * 8 ≤ 536870912) (hc : cells + 1 ≤ R.cells) (hl : slots + k0 ≤ R.slots) {ad : String} (had : "[" ++ (newarray.typeOf aty).toString = ad) (hf : fits (newarray.typeOf aty) (defaultValue (newarray.typeOf aty)) = true) (hd : decode c.code pc = .ok (.newarray aty, 2)) (hp : pc + 2 = pc')
    (k : ∀ T' h' a, Stand p l e R s m args below meth c T' locs (cells + 1) (slots + k0) → T'.heap = h' → Ext h h' → a = h.size → Ars Z h' a (newarray.typeOf aty) (List.replicate k0 (defaultValue (newarray.typeOf aty))) → Exa Z h' a ad → Go p e below m F T' pc' ls (.ref a :: rest)) : Go p e below m F T pc ls (.int n :: rest) := by
  subst hp
  obtain ⟨T', h', cA, X', e', E', A', Ea', st⟩ := newPE X hx hZ w eT (g := mkF m pc ls (.int n :: rest)) rfl hd rfl hn (cap := k0) (by omega) hb hc hl had
  exact (k T' h' _ X' e' E' rfl (Ars.new A' hk hf) Ea').of st
end ArsSteps
end Jvm.Own
namespace Jvm.Own
open Sem ClassFile Op Lib Jvm.Stand Jvm.Free Jvm.LawKit Jvm.RoadKit
theorem Old.ext' {Z : State} {h h' : Heap} {n0 : Nat} (E : Ext h h') (X : Old Z n0 h) : Old Z n0 h' := X.ext E
end Jvm.Own
namespace Jvm.Own
open Sem ClassFile Op Lib Bundle Jvm.Stand Jvm.Free Jvm.LawKit Jvm.RoadKit
def FinH (Z : State) (EL : List (String × Nat)) (s : State) (h : Heap) (rc rs : Nat) (Q : Option Value → Heap → List Loc → Prop) (o : Outcome) (V : State) : Prop := ∃ v L, o = .returned v ∧ Q v V.heap L ∧ CHr Z EL s.vm h V.vm V.heap ∧ ReturnedEndW s o V L rc rs
abbrev CtrH (l : Launch) (Z : State) (EL : List (String × Nat)) (y : MethodName) (bytes : ByteArray) (maxL : Nat) (ret : Option FieldType) (ws : List Cond) (rm : Room) (as' : Array Value) (h : Heap) (Q : Option Value → Heap → List Loc → Prop) : Prop :=
  MetFree l y (head1 (Cond.code y bytes maxL ret :: ws) rm) (fun a U => a = as' ∧ Z.Warmed39 U.vm ∧ U.heap = h ∧ CHv Z EL U.vm h) (fun _ _ _ _ _ => True) (fun _ U o U' => ∃ v L, o = .returned v ∧ Q v U'.heap L ∧ CHr Z EL U.vm U.heap U'.vm U'.heap ∧ ReturnedEndW U o U' L rm.cells rm.slots)
theorem enterH {l : Launch} {Z : State} {EL : List (String × Nat)} {y : MethodName} {bytes : ByteArray} {maxL : Nat} {ret : Option FieldType} {ws : List Cond} {rm : Room} {as' : Array Value} {h : Heap} {Q : Option Value → Heap → List Loc → Prop} (hpn : plainFor y = true)
    (body : ∀ (p : Program) (e : Env) (s : State) (m : MethodId) (below : List Frame) (meth : Method) (c : Code) (T : State), Stand p l e rm (s.setVm s.vm) m as' below meth c T [] 0 0 → p.tables.exec = Jvm.exec → c.code = bytes → c.maxLocals = maxL → meth.sig.returnType = ret → meth.locks = false → Z.Warmed39 (s.setVm s.vm).vm → (s.setVm s.vm).vm.findClass y.cls = some m.cls → meth.name = y.name → T.heap = h → CHr Z EL s.vm h s.vm h → s.Since s.vm 0 →
      ∃ V o, Steps p.tables e below (T.setTop (entryFrame m as' maxL)) V ∧ V.status = .running ∧ Ended V below o ∧ FinH Z EL s h rm.cells rm.slots Q o V) : CtrH l Z EL y bytes maxL ret ws rm as' h Q := by
  refine MetFree.of_bodySF hpn hisR ?_
  intro p e s m args below meth c s₁ Bd hml0 hP hK
  obtain ⟨rfl, hZ, hh, hC⟩ := hP
  obtain ⟨V, o, r1, r2, r3, v, L, r4, r5, r6, r7⟩ := body p e s m below meth c s₁ (Stand.of_body Bd) Bd.exec Bd.bytes hml0 Bd.returns Bd.notSynchronized hZ (findClass_of_methodNamed Bd.named) (name_of_methodNamed Bd.named Bd.method).1 (by rw [← hh, Bd.state]; rfl) (CHr.refl hC) (State.WarmedH.since (State.WarmedH.refl s) 0)
  exact ⟨V, o, r1, r2, r3, v, L, r4, r5, by rw [hh]; exact r6, r7⟩
theorem Safe.nil {Z : State} {vm : Vm} {h : Heap} {x : Addr} : Safe Z [] vm h x := fun ⟨_, hp, _⟩ => absurd hp List.not_mem_nil
theorem CHv.nil {Z : State} {vm : Vm} {h : Heap} : CHv Z [] vm h := fun _ hp => absurd hp List.not_mem_nil
theorem CHr.nil {Z : State} {vm vm1 : Vm} {h h' : Heap} (q : h.size ≤ h'.size) : CHr Z [] vm h vm1 h' := ⟨CHv.nil, q, fun _ ⟨_, hp, _⟩ => absurd hp List.not_mem_nil⟩
section HSteps
variable {p : Program} {l : Launch} {e : Env} {R : Room} {s : State} {m : MethodId} {args : Array Value} {below : List Frame} {meth : Method} {c : Code} {T : State} {locs : List Loc} {cells slots : Nat} {Z : State} {a0 : Array Value} {EL : List (String × Nat)} {h hA : Heap} {vm0 vmA : Vm} {F : Outcome → State → Prop} {pc pc' : Nat} {ls : Array Slot} {rest : List Value}
theorem g_ldcO (X : Stand p l e R (s.setVm vm0) m args below meth c T locs cells slots) (hx : p.tables.exec = Jvm.exec) (hZ : Z.Warmed39 (s.setVm vm0).vm) {own text : String} {i : Nat} (hown : (s.setVm vm0).vm.findClass own = some m.cls) (w : (Cond.stringLink own i text).before a0 Z = true) (wS : ∀ a ∈ Bundle.stringAtoms, a.before a0 Z = true) (eT : T.heap = h) {k0 : Nat} (hS : s.Since vm0 k0) (hk : k0 ≤ h.size) (hEL : EW Z a0 EL) (C : CHr Z EL vmA hA vm0 h) (hd : decode c.code pc = .ok (.ldc i, 2)) (hp : pc + 2 = pc') {n : Nat} (hn : 4 * text.toList.length ≤ n) (hbig : n ≤ 536870912) (hc : cells + 2 ≤ R.cells) (hl : slots + (n + 4) ≤ R.slots)
    (k : ∀ a T' h' k1, Stand p l e R (s.setVm T'.vm) m args below meth c T' locs (cells + 2) (slots + (n + 4)) → T'.heap = h' → Ext h h' → s.Since T'.vm k1 → k1 ≤ h'.size → Z.Warmed39 (s.setVm T'.vm).vm → (s.setVm T'.vm).vm.findClass own = some m.cls → CHr Z EL vmA hA T'.vm h' → (∀ x, x < h.size → Safe Z EL vm0 h x → Safe Z EL T'.vm h' x) → Go p e below m F T' pc' ls (.ref a :: rest)) : Go p e below m F T pc ls rest := by
  subst hp
  obtain ⟨a, T', h', k1, X', e', E', hS', hk', hZ', ho', C', -, st⟩ := ldcOH X hx hZ hown w wS eT hS hk hEL C.1 (g := mkF m pc ls rest) rfl hd hn hbig hc hl
  exact (k a T' h' k1 X' e' E' hS' hk' hZ' ho' (C.trans C') (fun x q S => C'.safe q S)).of st
theorem g_ldcR (X : Stand p l e R (s.setVm vm0) m args below meth c T locs cells slots) (hx : p.tables.exec = Jvm.exec) (hZ : Z.Warmed39 (s.setVm vm0).vm) {own text : String} {i : Nat} (hown : (s.setVm vm0).vm.findClass own = some m.cls) (w : (Cond.stringLink own i text).before a0 Z = true) (wS : ∀ a ∈ Bundle.stringAtoms, a.before a0 Z = true) (eT : T.heap = h) {k0 : Nat} (hS : s.Since vm0 k0) (hk : k0 ≤ h.size) (hEL : EW Z a0 EL) (C : CHr Z EL vmA hA vm0 h) (hmem : (own, i) ∈ EL) {vs : List Value} {z : Int32} (ht : (∀ c ∈ text.toList, c.toNat < 256) ∧ text.toList.map (fun c => Value.int (Jvm.Lit.byteI c.toNat.toUInt16)) = vs) (hz : ¬ z < 0) (hlz : z.toNatClampNeg = vs.length) (hd : decode c.code pc = .ok (.ldc i, 2)) (hp : pc + 2 = pc') {n : Nat} (hn : 4 * text.toList.length ≤ n) (hbig : n ≤ 536870912) (hc : cells + 2 ≤ R.cells) (hl : slots + (n + 4) ≤ R.slots)
    (k : ∀ a T' h' k1 b kb, Stand p l e R (s.setVm T'.vm) m args below meth c T' locs (cells + 2) (slots + (n + 4)) → T'.heap = h' → Ext h h' → s.Since T'.vm k1 → k1 ≤ h'.size → Z.Warmed39 (s.setVm T'.vm).vm → (s.setVm T'.vm).vm.findClass own = some m.cls → CHr Z EL vmA hA T'.vm h' → (∀ x, x < h.size → Safe Z EL vm0 h x → Safe Z EL T'.vm h' x) → Exa Z h' a "java/lang/String" → Fld Z h' a "java/lang/String" "coder" "B" (.int 0) → Fld Z h' a "java/lang/String" "value" "[B" (.ref b) → Arv Z h' b kb .byte z vs (.int 0) → (∀ x, Safe Z EL T'.vm h' x → x ≠ a ∧ x ≠ b) → Go p e below m F T' pc' ls (.ref a :: rest)) : Go p e below m F T pc ls rest := by
  subst hp
  obtain ⟨a, T', h', k1, b, kb, X', e', E', hS', hk', hZ', ho', x1, x2, x3, x4, -, -, C', -, x5, st⟩ := ldcCH X hx hZ hown w wS eT hS hk hEL hmem C.1 ht hz hlz (g := mkF m pc ls rest) rfl hd hn hbig hc hl
  exact (k a T' h' k1 b kb X' e' E' hS' hk' hZ' ho' (C.trans C') (fun x q S => C'.safe q S) x1 x2 x3 x4 x5).of st
theorem g_staticH (X : Stand p l e R (s.setVm vm0) m args below meth c T locs cells slots) (hx : p.tables.exec = Jvm.exec) (hZ : Z.Warmed39 (s.setVm vm0).vm) {own : String} {i : Nat} {y : MethodName} {bytes : ByteArray} {maxL : Nat} {ret : Option FieldType} {rm : Room} {Q : Option Value → Heap → List Loc → Prop} (hown : (s.setVm vm0).vm.findClass own = some m.cls) (w1 : (Cond.methodLink own i y).before a0 Z = true) (w2 : (Cond.static y).before a0 Z = true) (w3 : (Cond.initialized y.cls).before a0 Z = true) (w4 : (Cond.code y bytes maxL ret).before a0 Z = true) (hy : y.cls ≠ "java/lang/invoke/MethodHandle" ∧ y.cls ≠ "java/lang/invoke/VarHandle") {k0 : Nat} (hS : s.Since vm0 k0) (hk : k0 ≤ h.size) (hEL : EW Z a0 EL) (C : CHr Z EL vmA hA vm0 h)
    {argsL st : List Value} {ps : List FieldType} {rt : Option FieldType} (hM : CtrH l Z EL y bytes maxL ret [] rm argsL.toArray h Q) (hpd : parseMethodDescriptor y.desc = some ⟨ps, rt⟩) (hlen : argsL.length = ps.length) (hst : st = argsL.reverse ++ rest) (hd : decode c.code pc = .ok (.invokestatic i, 3)) (eT : T.heap = h) (hsize : ls.size = c.maxLocals) (hp : pc + 3 = pc') (hf : rm.frames + 1 ≤ R.frames) {W : Nat} (hW : 2 * 0 + (rest.map fun v => v.category).sum ≤ W) (hl : W + (maxL + 11) + rm.locals ≤ R.locals) (hc : cells + rm.cells ≤ R.cells) (hs : slots + rm.slots ≤ R.slots)
    (k : ∀ v T' L, Stand p l e R (s.setVm T'.vm) m args below meth c T' (locs ++ L) (cells + rm.cells) (slots + rm.slots) → s.Since T'.vm T'.heap.size → Z.Warmed39 (s.setVm T'.vm).vm → (s.setVm T'.vm).vm.findClass own = some m.cls → CHr Z EL vmA hA T'.vm T'.heap → (∀ x, x < h.size → Safe Z EL vm0 h x → Safe Z EL T'.vm T'.heap x) → Q v T'.heap L → Go p e below m F T' pc' ls (v.toList ++ rest)) : Go p e below m F T pc ls st := by
  subst hp hst
  obtain ⟨v, _, ⟨T', L', k', n'⟩, -, X', h2, hg, ⟨L, hQ, l1, l2, l3, C'⟩, stp⟩ := callSS X hx (y := y) hown (mvT hZ w1) (mvT hZ w2) (mvT hZ w3) (mvT hZ w4) hy (backOfSH (W := W) hM hZ w4 w3 hf hl hEL C.1) (g := mkF m pc ls (argsL.reverse ++ rest)) rfl hsize (argsL := argsL) (rest := rest) (lenOf hpd hlen) rfl hW hd (fun _ _ => ⟨rfl, eT, hc, hs⟩)
  dsimp only [Pt.U, Pt.locs, Pt.cells, Pt.slots] at X' h2 hg l1 l2 l3 stp hQ C'
  subst l1 l2 l3
  obtain ⟨X2, S2, Z2, O2⟩ := rebS hS hk X' h2 (by rw [← eT]; exact hg) hZ hown
  exact (k v T' L X2 S2 Z2 O2 (C.trans C') (fun x q S => C'.safe q S) hQ).of fun t q => stp.trans q
theorem g_specialH (X : Stand p l e R (s.setVm vm0) m args below meth c T locs cells slots) (hx : p.tables.exec = Jvm.exec) (hZ : Z.Warmed39 (s.setVm vm0).vm) {own : String} {i : Nat} {y : MethodName} {bytes : ByteArray} {maxL : Nat} {rm : Room} {Q : Option Value → Heap → List Loc → Prop} (hy1 : y.name = "<init>") (hown : (s.setVm vm0).vm.findClass own = some m.cls) (w1 : (Cond.methodLink own i y).before a0 Z = true) (w2 : (Cond.instanceMethod y).before a0 Z = true) (w3 : (Cond.initialized y.cls).before a0 Z = true) (w4 : (Cond.code y bytes maxL none).before a0 Z = true) (hy : y.cls ≠ "java/lang/invoke/MethodHandle" ∧ y.cls ≠ "java/lang/invoke/VarHandle") {k0 : Nat} (hS : s.Since vm0 k0) (hk : k0 ≤ h.size) (hEL : EW Z a0 EL) (C : CHr Z EL vmA hA vm0 h)
    {a : Addr} {argsL st : List Value} {ps : List FieldType} {rt : Option FieldType} (hM : CtrH l Z EL y bytes maxL none [] rm (.ref a :: argsL).toArray h Q) (hpd : parseMethodDescriptor y.desc = some ⟨ps, rt⟩) (hlen : argsL.length = ps.length) (hst : st = argsL.reverse ++ .ref a :: rest) (hd : decode c.code pc = .ok (.invokespecial i, 3)) (eT : T.heap = h) (hsize : ls.size = c.maxLocals) (hp : pc + 3 = pc') (hf : rm.frames + 1 ≤ R.frames) {W : Nat} (hW : 2 * 0 + (rest.map fun v => v.category).sum ≤ W) (hl : W + (maxL + 11) + rm.locals ≤ R.locals) (hc : cells + rm.cells ≤ R.cells) (hs : slots + rm.slots ≤ R.slots)
    (k : ∀ v T' L, Stand p l e R (s.setVm T'.vm) m args below meth c T' (locs ++ L) (cells + rm.cells) (slots + rm.slots) → s.Since T'.vm T'.heap.size → Z.Warmed39 (s.setVm T'.vm).vm → (s.setVm T'.vm).vm.findClass own = some m.cls → CHr Z EL vmA hA T'.vm T'.heap → (∀ x, x < h.size → Safe Z EL vm0 h x → Safe Z EL T'.vm T'.heap x) → Q v T'.heap L → Go p e below m F T' pc' ls (v.toList ++ rest)) : Go p e below m F T pc ls st := by
  subst hp hst
  obtain ⟨v, _, ⟨T', L', k', n'⟩, -, X', h2, hg, ⟨L, hQ, l1, l2, l3, C'⟩, stp⟩ := X.specialBackS hx (y := y) hy1 hown (mvT hZ w1) (mvT hZ w2) (mvT hZ w4) hy (backOfSH (W := W) hM hZ w4 w3 hf hl hEL C.1) (g := mkF m pc ls (argsL.reverse ++ .ref a :: rest)) rfl hsize (Steps.refl _) (a := a) (argsL := argsL) (rest := rest) (lenOf hpd hlen) rfl hW hd (fun _ _ => ⟨rfl, eT, hc, hs⟩)
  dsimp only [Pt.U, Pt.locs, Pt.cells, Pt.slots] at X' h2 hg l1 l2 l3 stp hQ C'
  subst l1 l2 l3
  obtain ⟨X2, S2, Z2, O2⟩ := rebS hS hk X' h2 (by rw [← eT]; exact hg) hZ hown
  exact (k v T' L X2 S2 Z2 O2 (C.trans C') (fun x q S => C'.safe q S) hQ).of fun t q => stp.trans q
theorem rw_mono {s t : State} {o : Outcome} {L : List Loc} {k n k' n' : Nat} (h : ReturnedEndW s o t L k n) (hk : k ≤ k') (hn : n ≤ n') : ReturnedEndW s o t L k' n' := ⟨h.1, h.2.1, h.2.2.1, h.2.2.2.mono hk hn⟩
theorem h_retV (X : Stand p l e R (s.setVm vm0) m args below meth c T locs cells slots) (hx : p.tables.exec = Jvm.exec) (hZ : Z.Warmed39 (s.setVm vm0).vm) {Q : Option Value → Heap → List Loc → Prop} {rc rs : Nat} (hlk : meth.locks = false) {k0 : Nat} (hS : s.Since vm0 k0) (eT : T.heap = h) (hk : k0 ≤ h.size) (hEL : EW Z a0 EL) (C : CHr Z EL s.vm hA vm0 h) (hret : meth.sig.returnType = none) (hd : decode c.code pc = .ok (.return_, 1)) (hQ : Q none T.heap locs) (hc : cells ≤ rc) (hs : slots ≤ rs) : Go p e below m (FinH Z EL s hA rc rs Q) T pc ls [] := by
  subst eT
  obtain ⟨fs, hr, hrun, hended, hE⟩ := X.leaveW hS hk (v := none) (fun _ => rfl)
  have hV := C.trans (CHv.at X hZ hEL C.1)
  exact ⟨_, _, X.returnOut hx hret hd hr, hrun, hended, _, _, rfl, hQ, hV, rw_mono hE hc hs⟩
theorem h_ret (X : Stand p l e R (s.setVm vm0) m args below meth c T locs cells slots) (hx : p.tables.exec = Jvm.exec) (hZ : Z.Warmed39 (s.setVm vm0).vm) {Q : Option Value → Heap → List Loc → Prop} {rc rs : Nat} (hlk : meth.locks = false) {k0 : Nat} (hS : s.Since vm0 k0) (eT : T.heap = h) (hk : k0 ≤ h.size) (hEL : EW Z a0 EL) (C : CHr Z EL s.vm hA vm0 h) {t : FieldType} {w : Value} {i : Instr} (hret : meth.sig.returnType = some t) (hn : narrow t w = w)
    (hi : (i = .ireturn ∧ (t = .int ∨ t = .boolean ∨ t = .byte ∨ t = .char ∨ t = .short) ∧ ∃ z, w = .int z) ∨ (i = .lreturn ∧ t = .long ∧ ∃ z, w = .long z) ∨ (i = .dreturn ∧ t = .double ∧ ∃ z, w = .double z) ∨ (i = .freturn ∧ t = .float ∧ ∃ z, w = .float z) ∨ (i = .areturn ∧ t.isReference = true ∧ w.isRef = true))
    (hd : decode c.code pc = .ok (i, 1)) (hQ : Q (some w) T.heap locs) (hc : cells ≤ rc) (hs : slots ≤ rs) : Go p e below m (FinH Z EL s hA rc rs Q) T pc ls (w :: rest) := by
  subst eT
  obtain ⟨fs, hr, hrun, hended, hE⟩ := X.leaveW hS hk (v := some w) (fun h => by rw [hret] at h; cases h)
  have hV := C.trans (CHv.at X hZ hEL C.1)
  exact ⟨_, _, retOut X hx hret hn hi hd hr, hrun, hended, _, _, rfl, hQ, hV, rw_mono hE hc hs⟩
end HSteps
end Jvm.Own
namespace Jvm.Pilot.@@N@@
open Jvm Jvm.ClassFile Sem Op Lib Jvm.Free Jvm.Stand Jvm.LawKit Jvm.RoadKit Bundle Jvm.Own Jvm.Pilot.@@N@@.Jvm.D
theorem own_narb (c : Int32) : nar .byte c.toInt8.toInt32 = c.toInt8.toInt32 := by
  show (c.toInt8.toInt32).toInt8.toInt32 = _
  rw [Int8.toInt8_toInt32]
theorem own_i2c {z : Int32} (h : 0 ≤ z.toInt ∧ z.toInt ≤ 65535) : z.toUInt32.toUInt16.toUInt32.toInt32 = z := by
  have h1 := nn32 h.1
  have e0 := small32 h1
  apply Int32.toInt_inj.mp
  have e : (z.toUInt32.toUInt16.toUInt32.toInt32).toBitVec.toNat = z.toBitVec.toNat := by
    have q : (z.toUInt32.toUInt16.toUInt32.toInt32).toBitVec.toNat = z.toBitVec.toNat % 65536 := by
      simp [UInt32.toBitVec_toInt32]
    rw [q]; omega
  rw [small32 (by rw [e]; exact h1), e, e0]
theorem own_sa {Z : State} {a0 : Array Value} (hw : ∀ d ∈ tables_1, d.before a0 Z = true) : ∀ a ∈ Bundle.stringAtoms, a.before a0 Z = true := by
  intro a ha
  simp only [Bundle.stringAtoms, Bundle.sN, List.mem_cons, List.not_mem_nil, or_false] at ha
  rcases ha with rfl | rfl | rfl | rfl | rfl | rfl | rfl
  · exact (hw _ (List.mem_of_getElem? (i := 6) rfl))
  · exact (hw _ (List.mem_of_getElem? (i := 5) rfl))
  · exact (hw _ (List.mem_of_getElem? (i := 19) rfl))
  · exact (hw _ (List.mem_of_getElem? (i := 20) rfl))
  · exact (hw _ (List.mem_of_getElem? (i := 21) rfl))
  · exact (hw _ (List.mem_of_getElem? (i := 22) rfl))
  · exact (hw _ (List.mem_of_getElem? (i := 23) rfl))
theorem Ars.safe {Z : State} {EL : List (String × Nat)} {vm : Vm} {h : Heap} {a : Addr} {ty : FieldType} {vs : List Value} (hal : Z.vm.Alike vm) (F : Ars Z h a ty vs) (ht : ty ≠ .byte) : Safe Z EL vm h a := by
  obtain ⟨c, A, -⟩ := F; exact Jvm.RoadKit.Safe.arr hal A ht
theorem Ars.empty {Z : State} {h : Heap} {b : Addr} {k : ClassId} (A : Arv Z h b k .byte 0 [] (.int 0)) : Ars Z h b .byte [] := by
  obtain ⟨c, A, -, hs, -, -, -⟩ := A
  refine ⟨c, A, ?_, fun v hv => nomatch hv⟩
  have : c.slots.toList.length = 0 := by rw [Array.length_toList, hs]; rfl
  exact List.length_eq_zero_iff.mp this
theorem own_mt : (∀ c ∈ ("" : String).toList, c.toNat < 256) ∧ ("" : String).toList.map (fun c => Value.int (Jvm.Lit.byteI c.toNat.toUInt16)) = [] := ⟨by simp, by simp⟩
open Jvm.Free.SB Jvm.Free.SBG in
theorem Safe.null {Z : State} {EL : List (String × Nat)} {vm : Vm} {h : Heap} {x : Addr} (hal : Z.vm.Alike vm) (E : Exa Z h x "java/lang/String") (F : Fld Z h x "java/lang/String" "value" "[B" .null) : Safe Z EL vm h x := fun B => by
  obtain ⟨p, -, u, a, -, q, -, G, rfl | rfl⟩ := B
  · obtain ⟨cS, ⟨⟨s1, s2, s3, ⟨cv, kv, iv, s4, s4'⟩, -, s6, s7, s8, -⟩, -⟩, -⟩ := G
    obtain ⟨kv', z4⟩ := ff_back (U := Wst Z vm h) hal s4
    obtain ⟨cell, c1, k1, i1, f1, e1, e2, -, -, -, -, e7⟩ := F
    cases (show h[q.sa]? = some q.sC from s1).symm.trans e1
    have e4 := z4.symm.trans e2
    simp only [Option.some.injEq, Prod.mk.injEq] at e4
    rw [← e4.2.2.2, show q.sC.slots[q.fSV.slot]? = _ from s8] at e7
    cases e7
  · obtain ⟨cell, k, e1, e2, e3, -, -⟩ := E
    cases (show h[q.sd]? = some q.SA from G.hd).symm.trans e1
    obtain ⟨cS, -, -, f, -⟩ := G
    have f : vm.findClass "[B" = some q.SA.cls := f
    rw [hal.findClass] at f
    obtain ⟨k1, q1, q2⟩ := Vm.findClass_spec f
    obtain ⟨k2, q3, q4⟩ := Vm.findClass_spec e2
    cases q1.symm.trans q3
    exact absurd (q2.symm.trans q4) (by decide)
theorem own_by {P : Int32 → Prop} (H : ∀ n : Fin 256, P (Int32.ofNat n.val)) {c : Int32} (h : 0 ≤ c.toInt ∧ c.toInt ≤ 255) : P c := by
  have e : Int32.ofNat c.toInt.toNat = c := by
    apply Int32.toInt_inj.mp
    rw [Int32.toInt_ofNat_of_lt (by omega)]; omega
  have := H ⟨c.toInt.toNat, by omega⟩
  rw [← e]; exact this
theorem own_and255 {c : Int32} (h : 0 ≤ c.toInt ∧ c.toInt ≤ 255) : (c.toInt8.toInt32 &&& 255) = c := own_by (P := fun c => (c.toInt8.toInt32 &&& 255) = c) (by decide +kernel) h
theorem own_lo {c : Int32} (h : 0 ≤ c.toInt ∧ c.toInt ≤ 255) : (c.toInt8.toInt32).toInt = c.toInt ∨ 128 ≤ c.toInt ∧ (c.toInt8.toInt32).toInt = c.toInt - 256 := own_by (P := fun c => (c.toInt8.toInt32).toInt = c.toInt ∨ 128 ≤ c.toInt ∧ (c.toInt8.toInt32).toInt = c.toInt - 256) (by decide +kernel) h
theorem own_rem {x z y : Int32} {M : Int} (hz : (x - x / y * y) = z) (hx : 0 ≤ x.toInt) (hy : y.toInt = M) (hM : 0 < M ∧ M < 100) : 0 ≤ z.toInt ∧ z.toInt < M := by
  subst hz
  have bx := i32b x
  have e0 : (x / y).toInt = x.toInt / M := by
    rw [Int32.toInt_div, hy, Int.tdiv_eq_ediv_of_nonneg hx]
    have h1 : 0 ≤ x.toInt / M := Int.ediv_nonneg hx (by omega)
    have h2 : x.toInt / M ≤ x.toInt := Int.ediv_le_self _ hx
    exact Int.bmod_eq_of_le (by omega) (by omega)
  have em := Int.mul_ediv_add_emod x.toInt M
  have b1 := Int.emod_nonneg x.toInt (by omega : M ≠ 0)
  have b2 := Int.emod_lt_of_pos x.toInt hM.1
  rw [Int.mul_comm] at em
  have e1 : (x / y * y).toInt = x.toInt / M * M := imul_ex e0 hy (by omega)
  have e2 : (x - x / y * y).toInt = x.toInt - x.toInt / M * M := isub_ex rfl e1 (by omega)
  rw [e2]; omega
theorem own_dz {n : Int} {x : UInt64} (h : n = 0) (d : Dy 0 0 x) : Dy n 0 x := h ▸ d
theorem own_c3 {z : Int32} (h : 0 ≤ z.toInt ∧ z.toInt < 3) : z = 0 ∨ z = 1 ∨ z = 2 := by
  have k : ∀ y : Int32, z.toInt = y.toInt → z = y := fun y q => Int32.toInt_inj.mp q
  have e0 : (0 : Int32).toInt = 0 := by decide
  have e1 : (1 : Int32).toInt = 1 := by decide
  have e2 : (2 : Int32).toInt = 2 := by decide
  rcases (by omega : z.toInt = 0 ∨ z.toInt = 1 ∨ z.toInt = 2) with q | q | q
  · exact Or.inl (k 0 (by omega))
  · exact Or.inr (Or.inl (k 1 (by omega)))
  · exact Or.inr (Or.inr (k 2 (by omega)))
theorem pd_0 : parseMethodDescriptor "([CI[BII)I" = some ⟨[(.array .char), .int, (.array .byte), .int, .int], some .int⟩ := by decide +kernel
theorem pd_1 : parseMethodDescriptor "([CII)[B" = some ⟨[(.array .char), .int, .int], some (.array .byte)⟩ := by decide +kernel
theorem pd_2 : parseMethodDescriptor "([BI)B" = some ⟨[(.array .byte), .int], some .byte⟩ := by decide +kernel
theorem pd_3 : parseMethodDescriptor "([CIILjava/lang/Void;)V" = some ⟨[(.array .char), .int, .int, (.object "java/lang/Void")], none⟩ := by decide +kernel
theorem pd_4 : parseMethodDescriptor "([C)V" = some ⟨[(.array .char)], none⟩ := by decide +kernel
theorem pd_5 : parseMethodDescriptor "()B" = some ⟨[], some .byte⟩ := by decide +kernel
theorem pd_6 : parseMethodDescriptor "(IILjava/util/function/BiFunction;)I" = some ⟨[.int, .int, (.object "java/util/function/BiFunction")], some .int⟩ := by decide +kernel
theorem pd_7 : parseMethodDescriptor "()Z" = some ⟨[], some .boolean⟩ := by decide +kernel
theorem pd_8 : parseMethodDescriptor "(II)V" = some ⟨[.int, .int], none⟩ := by decide +kernel
theorem pd_9 : parseMethodDescriptor "()I" = some ⟨[], some .int⟩ := by decide +kernel
theorem pd_10 : parseMethodDescriptor "(II)I" = some ⟨[.int, .int], some .int⟩ := by decide +kernel
theorem pd_11 : parseMethodDescriptor "(DD)I" = some ⟨[.double, .double], some .int⟩ := by decide +kernel
theorem pd_12 : parseMethodDescriptor "(Ljava/lang/String;Ljava/lang/String;)I" = some ⟨[(.object "java/lang/String"), (.object "java/lang/String")], some .int⟩ := by decide +kernel
theorem pd_13 : parseMethodDescriptor "(I)I" = some ⟨[.int], some .int⟩ := by decide +kernel
theorem pd_14 : parseMethodDescriptor "(ICC)Ljava/lang/String;" = some ⟨[.int, .char, .char], some (.object "java/lang/String")⟩ := by decide +kernel
theorem pd_15 : parseMethodDescriptor "(DLjava/lang/String;DLjava/lang/String;)I" = some ⟨[.double, (.object "java/lang/String"), .double, (.object "java/lang/String")], some .int⟩ := by decide +kernel
theorem pd_16 : parseMethodDescriptor "(ICCICC)I" = some ⟨[.int, .char, .char, .int, .char, .char], some .int⟩ := by decide +kernel
theorem own_lit9223372036854775808 : Dy (0) 0 (9223372036854775808 : UInt64) := Dy.lit (by decide) (by decide +kernel)
theorem pn_8 : plainFor (⟨"java/lang/StringUTF16", "compress", "([CI[BII)I"⟩ : MethodName) = true := by decide +kernel
theorem pn_7 : plainFor (⟨"java/lang/StringUTF16", "compress", "([CII)[B"⟩ : MethodName) = true := by decide +kernel
theorem pn_9 : plainFor (⟨"java/lang/StringUTF16", "coderFromArrayLen", "([BI)B"⟩ : MethodName) = true := by decide +kernel
theorem pn_3 : plainFor (⟨"java/lang/String", "<init>", "([CIILjava/lang/Void;)V"⟩ : MethodName) = true := by decide +kernel
theorem pn_2 : plainFor (⟨"java/lang/String", "<init>", "([C)V"⟩ : MethodName) = true := by decide +kernel
theorem pn_1 : plainFor (⟨"com/example/prox2/prox2/format/RunOrderComparePinLaw", "make", "(ICC)Ljava/lang/String;"⟩ : MethodName) = true := by decide +kernel
theorem pn_16 : plainFor (⟨"java/lang/String", "isLatin1", "()Z"⟩ : MethodName) = true := by decide +kernel
theorem pn_12 : plainFor (⟨"java/lang/String", "coder", "()B"⟩ : MethodName) = true := by decide +kernel
theorem pn_11 : plainFor (⟨"java/lang/String", "length", "()I"⟩ : MethodName) = true := by decide +kernel
theorem pn_18 : plainFor (⟨"jdk/internal/util/Preconditions", "checkIndex", "(IILjava/util/function/BiFunction;)I"⟩ : MethodName) = true := by decide +kernel
theorem pn_17 : plainFor (⟨"java/lang/String", "checkIndex", "(II)V"⟩ : MethodName) = true := by decide +kernel
theorem pn_15 : plainFor (⟨"java/lang/String", "codePointAt", "(I)I"⟩ : MethodName) = true := by decide +kernel
theorem pn_13 : plainFor (⟨"java/lang/Integer", "compare", "(II)I"⟩ : MethodName) = true := by decide +kernel
theorem pn_19 : plainFor (⟨"java/lang/Character", "charCount", "(I)I"⟩ : MethodName) = true := by decide +kernel
theorem pn_6 : plainFor (⟨"com/example/prox2/prox2/format/RunOrder", "compareScores", "(DD)I"⟩ : MethodName) = true := by decide +kernel
theorem pn_10 : plainFor (⟨"com/example/prox2/prox2/format/RunOrder", "compareAsText", "(Ljava/lang/String;Ljava/lang/String;)I"⟩ : MethodName) = true := by decide +kernel
theorem pn_5 : plainFor (⟨"com/example/prox2/prox2/format/RunOrder", "compare", "(DLjava/lang/String;DLjava/lang/String;)I"⟩ : MethodName) = true := by decide +kernel
theorem pn_14 : plainFor (⟨"com/example/prox2/prox2/format/RunOrderComparePinLaw", "cmp", "(ICCICC)I"⟩ : MethodName) = true := by decide +kernel
theorem pn_0 : plainFor x = true := by decide +kernel
theorem d8_0 : decode jdk_52_method_21_code 0 = .ok (.iconst 0, 1) := by decide +kernel
theorem d8_1 : decode jdk_52_method_21_code 1 = .ok (.istore 5, 2) := by decide +kernel
theorem d8_3 : decode jdk_52_method_21_code 3 = .ok (.iload 5, 2) := by decide +kernel
theorem d8_5 : decode jdk_52_method_21_code 5 = .ok (.iload 4, 2) := by decide +kernel
theorem d8_7 : decode jdk_52_method_21_code 7 = .ok (.if_icmp .ge 37, 3) := by decide +kernel
theorem d8_10 : decode jdk_52_method_21_code 10 = .ok (.aload_n 0, 1) := by decide +kernel
theorem d8_11 : decode jdk_52_method_21_code 11 = .ok (.iload_n 1, 1) := by decide +kernel
theorem d8_12 : decode jdk_52_method_21_code 12 = .ok (.caload, 1) := by decide +kernel
theorem d8_13 : decode jdk_52_method_21_code 13 = .ok (.istore 6, 2) := by decide +kernel
theorem d8_15 : decode jdk_52_method_21_code 15 = .ok (.iload 6, 2) := by decide +kernel
theorem d8_17 : decode jdk_52_method_21_code 17 = .ok (.sipush 255, 3) := by decide +kernel
theorem d8_20 : decode jdk_52_method_21_code 20 = .ok (.if_icmp .le 6, 3) := by decide +kernel
theorem d8_23 : decode jdk_52_method_21_code 23 = .ok (.iload 5, 2) := by decide +kernel
theorem d8_25 : decode jdk_52_method_21_code 25 = .ok (.ireturn, 1) := by decide +kernel
theorem d8_26 : decode jdk_52_method_21_code 26 = .ok (.aload_n 2, 1) := by decide +kernel
theorem d8_27 : decode jdk_52_method_21_code 27 = .ok (.iload_n 3, 1) := by decide +kernel
theorem d8_28 : decode jdk_52_method_21_code 28 = .ok (.iload 6, 2) := by decide +kernel
theorem d8_30 : decode jdk_52_method_21_code 30 = .ok (.i2b, 1) := by decide +kernel
theorem d8_31 : decode jdk_52_method_21_code 31 = .ok (.bastore, 1) := by decide +kernel
theorem d8_32 : decode jdk_52_method_21_code 32 = .ok (.iinc 1 1, 3) := by decide +kernel
theorem d8_35 : decode jdk_52_method_21_code 35 = .ok (.iinc 3 1, 3) := by decide +kernel
theorem d8_38 : decode jdk_52_method_21_code 38 = .ok (.iinc 5 1, 3) := by decide +kernel
theorem d8_41 : decode jdk_52_method_21_code 41 = .ok (.goto (-38), 3) := by decide +kernel
theorem d8_44 : decode jdk_52_method_21_code 44 = .ok (.iload 4, 2) := by decide +kernel
theorem d8_46 : decode jdk_52_method_21_code 46 = .ok (.ireturn, 1) := by decide +kernel
theorem ef_c_cmp5_1 (m : MethodId) (x0 : Addr) (x1 : Int32) (x2 : Addr) (x3 : Int32) (x4 : Int32) : entryFrame m #[(.ref x0), (.int x1), (.ref x2), (.int x3), (.int x4)] 7 = mkF m 0 #[.val (.ref x0), .val (.int x1), .val (.ref x2), .val (.int x3), .val (.int x4), .unset, .unset] [] := by first | (simp [entryFrame, mkF, argsToLocals, Value.category, maxLocals]; done) | rfl
set_option maxRecDepth 65536 in
set_option maxHeartbeats 40000000 in
theorem c_cmp5_1 (l : Launch) (Z : State) (a0 : Array Value) (hw : ∀ d ∈ tables_1, d.before a0 Z = true) (ws : List Jvm.Cond) (a d : Addr) (c0 : Int32) (h0 : Heap) (n0 : Nat) (Z0 : n0 ≤ h0.size) (A : Ars Z h0 a .char [(.int c0)]) (D : Ars Z h0 d .byte [(.int 0)]) (hne : a ≠ d) (gd : n0 ≤ d) (C0 : 0 ≤ c0.toInt ∧ c0.toInt ≤ 255) :
    Ctr l Z (⟨"java/lang/StringUTF16", "compress", "([CI[BII)I"⟩ : MethodName) jdk_52_method_21_code 7 (some .int) ws ({ frames := 0, cells := 0, slots := 0, locals := 0 } : Room) #[(.ref a), (.int (0 : Int32)), (.ref d), (.int (0 : Int32)), (.int (1 : Int32))] h0 (fun v h L => v = some (.int 1) ∧ Fr n0 L ∧ Keep h0 h [d] ∧ Ars Z h d .byte [(.int c0.toInt8.toInt32)]) := by
  refine enter pn_8 ?_
  intro p e s m below meth c T0 X0 hx hby hml hret hlk hZ hown hnm e0
  have A0 := wk X0 hx hby
  have N0 := Fr.nil n0
  refine goIn (ef_c_cmp5_1 m a (0 : Int32) d (0 : Int32) (1 : Int32)) ?_
  show Go p e below m (Fini s 0 0 (fun v h L => v = some (.int 1) ∧ Fr n0 L ∧ Keep h0 h [d] ∧ Ars Z h d .byte [(.int c0.toInt8.toInt32)])) T0 0 #[.val (.ref a), .val (.int (0 : Int32)), .val (.ref d), .val (.int (0 : Int32)), .val (.int (1 : Int32)), .unset, .unset] []
  refine s_iconst A0 d8_0 (pc' := 1) rfl (v := (0 : Int32)) (by decide) ?_
  refine s_istore A0 d8_1 (pc' := 3) rfl (ls' := #[.val (.ref a), .val (.int (0 : Int32)), .val (.ref d), .val (.int (0 : Int32)), .val (.int (1 : Int32)), .val (.int (0 : Int32)), .unset]) rfl ?_
  refine s_iload A0 d8_3 (pc' := 5) rfl rfl ?_
  refine s_iload A0 d8_5 (pc' := 7) rfl rfl ?_
  refine s_icmpge A0 d8_7 (pY := 44) (pN := 10) (by decide) (by decide) rfl (fun c => absurd c (by decide)) (fun _ => ?_)
  refine s_aloadN A0 d8_10 (pc' := 11) rfl rfl rfl ?_
  refine s_iloadN A0 d8_11 (pc' := 12) rfl rfl ?_
  refine g_caload X0 hx hZ e0 A (by decide) (i := 0) (by decide) (v := (.int c0)) rfl (hb hby d8_12) (pc' := 13) rfl ?_
  refine s_istore A0 d8_13 (pc' := 15) rfl (ls' := #[.val (.ref a), .val (.int (0 : Int32)), .val (.ref d), .val (.int (0 : Int32)), .val (.int (1 : Int32)), .val (.int (0 : Int32)), .val (.int c0)]) rfl ?_
  refine s_iload A0 d8_15 (pc' := 17) rfl rfl ?_
  refine s_sipush A0 d8_17 (pc' := 20) rfl (v := (255 : Int32)) (by decide) ?_
  refine s_icmple A0 d8_20 (pY := 26) (pN := 23) (by decide) (by decide) rfl ?_ ?_
  · intro c20
    replace c20 := i_le c20
    rw [show (255 : Int32).toInt = 255 from by decide] at c20
    refine s_aloadN A0 d8_26 (pc' := 27) rfl rfl rfl ?_
    refine s_iloadN A0 d8_27 (pc' := 28) rfl rfl ?_
    refine s_iload A0 d8_28 (pc' := 30) rfl rfl ?_
    refine s_i2b A0 d8_30 (pc' := 31) rfl rfl ?_
    refine g_bastore X0 hx hZ e0 D (by decide) (i := 0) (by decide) (by simp) (v := (.int c0.toInt8.toInt32)) (congrArg Value.int (own_narb c0)) (hb hby d8_31) (pc' := 32) rfl ?_
    intro T1 h1 X1 e1 W1 Ar1
    have A1 := wk X1 hx hby
    have Ar1 : Ars Z h1 d .byte [(.int c0.toInt8.toInt32)] := Ar1
    have kp2 := Keep.wr (Keep.refl h0 [d]) W1 (Or.inl (List.mem_of_getElem? (i := 0) rfl))
    have fr2 := Fr.snoc X1 N0 gd
    refine s_iinc A1 d8_32 (pc' := 35) rfl (v := (1 : Int32)) (ls' := #[.val (.ref a), .val (.int (1 : Int32)), .val (.ref d), .val (.int (0 : Int32)), .val (.int (1 : Int32)), .val (.int (0 : Int32)), .val (.int c0)]) rfl (by decide) rfl ?_
    refine s_iinc A1 d8_35 (pc' := 38) rfl (v := (1 : Int32)) (ls' := #[.val (.ref a), .val (.int (1 : Int32)), .val (.ref d), .val (.int (1 : Int32)), .val (.int (1 : Int32)), .val (.int (0 : Int32)), .val (.int c0)]) rfl (by decide) rfl ?_
    refine s_iinc A1 d8_38 (pc' := 41) rfl (v := (1 : Int32)) (ls' := #[.val (.ref a), .val (.int (1 : Int32)), .val (.ref d), .val (.int (1 : Int32)), .val (.int (1 : Int32)), .val (.int (1 : Int32)), .val (.int c0)]) rfl (by decide) rfl ?_
    refine s_goto A1 d8_41 (pc' := 3) (by decide) (by decide) ?_
    refine s_iload A1 d8_3 (pc' := 5) rfl rfl ?_
    refine s_iload A1 d8_5 (pc' := 7) rfl rfl ?_
    refine s_icmpge A1 d8_7 (pY := 44) (pN := 10) (by decide) (by decide) rfl (fun _ => ?_) (fun c => absurd c (by decide))
    refine s_iload A1 d8_44 (pc' := 46) rfl rfl ?_
    exact g_retI X1 hx hlk hret (hb hby d8_46) (by rw [e1]; exact ⟨rfl, fr2, kp2, Ar1⟩) (by decide) (by decide)
  · intro c20
    replace c20 := i_gt c20
    rw [show (255 : Int32).toInt = 255 from by decide] at c20
    exfalso; omega
theorem d7_0 : decode jdk_52_method_16_code 0 = .ok (.iload_n 2, 1) := by decide +kernel
theorem d7_1 : decode jdk_52_method_16_code 1 = .ok (.newarray .byte, 2) := by decide +kernel
theorem d7_3 : decode jdk_52_method_16_code 3 = .ok (.astore_n 3, 1) := by decide +kernel
theorem d7_4 : decode jdk_52_method_16_code 4 = .ok (.aload_n 0, 1) := by decide +kernel
theorem d7_5 : decode jdk_52_method_16_code 5 = .ok (.iload_n 1, 1) := by decide +kernel
theorem d7_6 : decode jdk_52_method_16_code 6 = .ok (.aload_n 3, 1) := by decide +kernel
theorem d7_7 : decode jdk_52_method_16_code 7 = .ok (.iconst 0, 1) := by decide +kernel
theorem d7_8 : decode jdk_52_method_16_code 8 = .ok (.iload_n 2, 1) := by decide +kernel
theorem d7_9 : decode jdk_52_method_16_code 9 = .ok (.invokestatic 115, 3) := by decide +kernel
theorem d7_12 : decode jdk_52_method_16_code 12 = .ok (.istore 4, 2) := by decide +kernel
theorem d7_14 : decode jdk_52_method_16_code 14 = .ok (.iload 4, 2) := by decide +kernel
theorem d7_16 : decode jdk_52_method_16_code 16 = .ok (.iload_n 2, 1) := by decide +kernel
theorem d7_17 : decode jdk_52_method_16_code 17 = .ok (.if_icmp .eq 40, 3) := by decide +kernel
theorem d7_20 : decode jdk_52_method_16_code 20 = .ok (.aload_n 0, 1) := by decide +kernel
theorem d7_21 : decode jdk_52_method_16_code 21 = .ok (.iload_n 1, 1) := by decide +kernel
theorem d7_22 : decode jdk_52_method_16_code 22 = .ok (.iload_n 2, 1) := by decide +kernel
theorem d7_23 : decode jdk_52_method_16_code 23 = .ok (.invokestatic 119, 3) := by decide +kernel
theorem d7_26 : decode jdk_52_method_16_code 26 = .ok (.astore 5, 2) := by decide +kernel
theorem d7_28 : decode jdk_52_method_16_code 28 = .ok (.aload 5, 2) := by decide +kernel
theorem d7_30 : decode jdk_52_method_16_code 30 = .ok (.iload 4, 2) := by decide +kernel
theorem d7_32 : decode jdk_52_method_16_code 32 = .ok (.invokestatic 71, 3) := by decide +kernel
theorem d7_35 : decode jdk_52_method_16_code 35 = .ok (.sipush 255, 3) := by decide +kernel
theorem d7_38 : decode jdk_52_method_16_code 38 = .ok (.if_icmp .gt 16, 3) := by decide +kernel
theorem d7_41 : decode jdk_52_method_16_code 41 = .ok (.aload 5, 2) := by decide +kernel
theorem d7_43 : decode jdk_52_method_16_code 43 = .ok (.iconst 0, 1) := by decide +kernel
theorem d7_44 : decode jdk_52_method_16_code 44 = .ok (.aload_n 3, 1) := by decide +kernel
theorem d7_45 : decode jdk_52_method_16_code 45 = .ok (.iconst 0, 1) := by decide +kernel
theorem d7_46 : decode jdk_52_method_16_code 46 = .ok (.iload_n 2, 1) := by decide +kernel
theorem d7_47 : decode jdk_52_method_16_code 47 = .ok (.invokestatic 123, 3) := by decide +kernel
theorem d7_50 : decode jdk_52_method_16_code 50 = .ok (.iload_n 2, 1) := by decide +kernel
theorem d7_51 : decode jdk_52_method_16_code 51 = .ok (.if_icmp .eq 6, 3) := by decide +kernel
theorem d7_54 : decode jdk_52_method_16_code 54 = .ok (.aload 5, 2) := by decide +kernel
theorem d7_56 : decode jdk_52_method_16_code 56 = .ok (.areturn, 1) := by decide +kernel
theorem d7_57 : decode jdk_52_method_16_code 57 = .ok (.aload_n 3, 1) := by decide +kernel
theorem d7_58 : decode jdk_52_method_16_code 58 = .ok (.areturn, 1) := by decide +kernel
theorem ef_c_cmp3_1 (m : MethodId) (x0 : Addr) (x1 : Int32) (x2 : Int32) : entryFrame m #[(.ref x0), (.int x1), (.int x2)] 6 = mkF m 0 #[.val (.ref x0), .val (.int x1), .val (.int x2), .unset, .unset, .unset] [] := by first | (simp [entryFrame, mkF, argsToLocals, Value.category, maxLocals]; done) | rfl
set_option maxRecDepth 65536 in
set_option maxHeartbeats 40000000 in
theorem c_cmp3_1 (l : Launch) (Z : State) (a0 : Array Value) (hw : ∀ d ∈ tables_1, d.before a0 Z = true) (ws : List Jvm.Cond) (a : Addr) (c0 : Int32) (h0 : Heap) (n0 : Nat) (Z0 : n0 ≤ h0.size) (A : Ars Z h0 a .char [(.int c0)]) (C0 : 0 ≤ c0.toInt ∧ c0.toInt ≤ 255) :
    Ctr l Z (⟨"java/lang/StringUTF16", "compress", "([CII)[B"⟩ : MethodName) jdk_52_method_16_code 6 (some (.array .byte)) ws ({ frames := 1, cells := 1, slots := 1, locals := 18 } : Room) #[(.ref a), (.int (0 : Int32)), (.int (1 : Int32))] h0 (fun v h L => ∃ d, v = some (.ref d) ∧ Fr n0 L ∧ Keep h0 h [] ∧ Ars Z h d .byte [(.int c0.toInt8.toInt32)] ∧ h0.size ≤ d) := by
  refine enter pn_7 ?_
  intro p e s m below meth c T0 X0 hx hby hml hret hlk hZ hown hnm e0
  have A0 := wk X0 hx hby
  have N0 := Fr.nil n0
  refine goIn (ef_c_cmp3_1 m a (0 : Int32) (1 : Int32)) ?_
  show Go p e below m (Fini s 1 1 (fun v h L => ∃ d, v = some (.ref d) ∧ Fr n0 L ∧ Keep h0 h [] ∧ Ars Z h d .byte [(.int c0.toInt8.toInt32)] ∧ h0.size ≤ d)) T0 0 #[.val (.ref a), .val (.int (0 : Int32)), .val (.int (1 : Int32)), .unset, .unset, .unset] []
  refine s_iloadN A0 d7_0 (pc' := 1) rfl rfl ?_
  refine g_newarray X0 hx hZ e0 (hw _ (List.mem_of_getElem? (i := 19) rfl)) (by decide) (k0 := 1) (by decide) (by decide) (by decide) (by decide) (ad := "[B") (by decide) rfl (hb hby d7_1) (pc' := 3) rfl ?_
  intro T1 h1 a1 X1 e1 E1 ga1 Ar1 Ex1
  have A1 := wk X1 hx hby
  have Ar1 : Ars Z h1 a1 .byte [(.int 0)] := Ar1
  have la2 : a1 < h1.size := Ex1.lt
  have kp3 := Keep.ext (Keep.refl h0 []) E1
  refine s_astoreN A1 d7_3 (pc' := 4) rfl (ls' := #[.val (.ref a), .val (.int (0 : Int32)), .val (.int (1 : Int32)), .val (.ref a1), .unset, .unset]) rfl rfl ?_
  refine s_aloadN A1 d7_4 (pc' := 5) rfl rfl rfl ?_
  refine s_iloadN A1 d7_5 (pc' := 6) rfl rfl ?_
  refine s_aloadN A1 d7_6 (pc' := 7) rfl rfl rfl ?_
  refine s_iconst A1 d7_7 (pc' := 8) rfl (v := (0 : Int32)) (by decide) ?_
  refine s_iloadN A1 d7_8 (pc' := 9) rfl rfl ?_
  have f4 := (Ars.ext E1 A)
  have ge6 : h0.size ≤ a1 := by rw [ga1]; exact (Nat.le_refl _)
  have gn5 : n0 ≤ a1 := Nat.le_trans Z0 ge6
  have ne7 : a ≠ a1 := by rw [ga1]; exact Nat.ne_of_lt (Nat.lt_of_lt_of_le A.lt (Nat.le_refl _))
  have sz9 : h0.size ≤ h1.size := E1.1
  have zs8 : n0 ≤ h1.size := Nat.le_trans Z0 sz9
  refine g_static X1 hx hZ (y := (⟨"java/lang/StringUTF16", "compress", "([CI[BII)I"⟩ : MethodName)) hown (hw _ (List.mem_of_getElem? (i := 38) rfl)) (hw _ (List.mem_of_getElem? (i := 39) rfl)) (hw _ (List.mem_of_getElem? (i := 36) rfl)) (hw _ (List.mem_of_getElem? (i := 40) rfl)) (by decide) (argsL := [(.ref a), (.int (0 : Int32)), (.ref a1), (.int (0 : Int32)), (.int (1 : Int32))]) (rest := []) (c_cmp5_1 l Z a0 hw [] a a1 c0 h1 n0 zs8 f4 Ar1 ne7 gn5 C0) pd_0 rfl rfl (hb hby d7_9) e1 (by rw [hml]; rfl) (pc' := 12) rfl (by decide) (W := 0) (Nat.le_of_eq rfl) (by decide) (by decide) (by decide) ?_
  intro v10 T10 L10 X10 hQ10
  have A10 := wk X10 hx hby
  have e10 : T10.heap = T10.heap := rfl
  obtain ⟨rfl, N10, K10, Ar10⟩ := hQ10
  have kp11 := Keep.trans kp3 K10 (allS (P := fun x => x ∈ [] ∨ h0.size ≤ x) (Or.inr ge6) all0)
  have fr10 := Fr.app N0 N10
  show Go p e below m (Fini s 1 1 (fun v h L => ∃ d, v = some (.ref d) ∧ Fr n0 L ∧ Keep h0 h [] ∧ Ars Z h d .byte [(.int c0.toInt8.toInt32)] ∧ h0.size ≤ d)) T10 12 #[.val (.ref a), .val (.int (0 : Int32)), .val (.int (1 : Int32)), .val (.ref a1), .unset, .unset] [(.int (1 : Int32))]
  refine s_istore A10 d7_12 (pc' := 14) rfl (ls' := #[.val (.ref a), .val (.int (0 : Int32)), .val (.int (1 : Int32)), .val (.ref a1), .val (.int (1 : Int32)), .unset]) rfl ?_
  refine s_iload A10 d7_14 (pc' := 16) rfl rfl ?_
  refine s_iloadN A10 d7_16 (pc' := 17) rfl rfl ?_
  refine s_icmpeq A10 d7_17 (pY := 57) (pN := 20) (by decide) (by decide) rfl (fun _ => ?_) (fun c => absurd c (by decide))
  refine s_aloadN A10 d7_57 (pc' := 58) rfl rfl rfl ?_
  exact g_retA X10 hx hlk hret rfl rfl rfl (hb hby d7_58) (by rw [e10]; exact ⟨_, rfl, fr10, kp11, Ar10, ge6⟩) (by decide) (by decide)
theorem d9_0 : decode jdk_52_method_15_code 0 = .ok (.iload_n 1, 1) := by decide +kernel
theorem d9_1 : decode jdk_52_method_15_code 1 = .ok (.aload_n 0, 1) := by decide +kernel
theorem d9_2 : decode jdk_52_method_15_code 2 = .ok (.arraylength, 1) := by decide +kernel
theorem d9_3 : decode jdk_52_method_15_code 3 = .ok (.isub, 1) := by decide +kernel
theorem d9_4 : decode jdk_52_method_15_code 4 = .ok (.bipush 31, 2) := by decide +kernel
theorem d9_6 : decode jdk_52_method_15_code 6 = .ok (.iushr, 1) := by decide +kernel
theorem d9_7 : decode jdk_52_method_15_code 7 = .ok (.i2b, 1) := by decide +kernel
theorem d9_8 : decode jdk_52_method_15_code 8 = .ok (.ireturn, 1) := by decide +kernel
theorem ef_c_codl_1 (m : MethodId) (x0 : Addr) (x1 : Int32) : entryFrame m #[(.ref x0), (.int x1)] 2 = mkF m 0 #[.val (.ref x0), .val (.int x1)] [] := by first | (simp [entryFrame, mkF, argsToLocals, Value.category, maxLocals]; done) | rfl
set_option maxRecDepth 65536 in
set_option maxHeartbeats 40000000 in
theorem c_codl_1 (l : Launch) (Z : State) (a0 : Array Value) (hw : ∀ d ∈ tables_1, d.before a0 Z = true) (ws : List Jvm.Cond) (d : Addr) (c0 : Int32) (h0 : Heap) (n0 : Nat) (Z0 : n0 ≤ h0.size) (D : Ars Z h0 d .byte [(.int c0.toInt8.toInt32)]) :
    Ctr l Z (⟨"java/lang/StringUTF16", "coderFromArrayLen", "([BI)B"⟩ : MethodName) jdk_52_method_15_code 2 (some .byte) ws ({ frames := 0, cells := 0, slots := 0, locals := 0 } : Room) #[(.ref d), (.int (1 : Int32))] h0 (fun v h L => v = some (.int 0) ∧ Fr n0 L ∧ h = h0) := by
  refine enter pn_9 ?_
  intro p e s m below meth c T0 X0 hx hby hml hret hlk hZ hown hnm e0
  have A0 := wk X0 hx hby
  have N0 := Fr.nil n0
  refine goIn (ef_c_codl_1 m d (1 : Int32)) ?_
  show Go p e below m (Fini s 0 0 (fun v h L => v = some (.int 0) ∧ Fr n0 L ∧ h = h0)) T0 0 #[.val (.ref d), .val (.int (1 : Int32))] []
  refine s_iloadN A0 d9_0 (pc' := 1) rfl rfl ?_
  refine s_aloadN A0 d9_1 (pc' := 2) rfl rfl rfl ?_
  refine g_len X0 hx hZ e0 D (n := (1 : Int32)) rfl (hb hby d9_2) (pc' := 3) rfl ?_
  refine s_isub A0 d9_3 (pc' := 4) rfl (v := (0 : Int32)) (by decide) ?_
  refine s_bipush A0 d9_4 (pc' := 6) rfl (v := (31 : Int32)) (by decide) ?_
  refine s_iushr A0 d9_6 (pc' := 7) rfl (v := (0 : Int32)) (by decide) ?_
  refine s_i2b A0 d9_7 (pc' := 8) rfl (v := (0 : Int32)) (by decide) ?_
  exact g_ret X0 hx hlk hret rfl (Or.inl ⟨rfl, by simp, _, rfl⟩) (hb hby d9_8) ⟨rfl, N0, e0⟩ (by decide) (by decide)
theorem d3_0 : decode jdk_42_method_149_code 0 = .ok (.aload_n 0, 1) := by decide +kernel
theorem d3_1 : decode jdk_42_method_149_code 1 = .ok (.invokespecial 1, 3) := by decide +kernel
theorem d3_4 : decode jdk_42_method_149_code 4 = .ok (.iload_n 3, 1) := by decide +kernel
theorem d3_5 : decode jdk_42_method_149_code 5 = .ok (.ifCond .ne 22, 3) := by decide +kernel
theorem d3_8 : decode jdk_42_method_149_code 8 = .ok (.aload_n 0, 1) := by decide +kernel
theorem d3_9 : decode jdk_42_method_149_code 9 = .ok (.ldc 7, 2) := by decide +kernel
theorem d3_11 : decode jdk_42_method_149_code 11 = .ok (.getfield 9, 3) := by decide +kernel
theorem d3_14 : decode jdk_42_method_149_code 14 = .ok (.putfield 9, 3) := by decide +kernel
theorem d3_17 : decode jdk_42_method_149_code 17 = .ok (.aload_n 0, 1) := by decide +kernel
theorem d3_18 : decode jdk_42_method_149_code 18 = .ok (.ldc 7, 2) := by decide +kernel
theorem d3_20 : decode jdk_42_method_149_code 20 = .ok (.getfield 15, 3) := by decide +kernel
theorem d3_23 : decode jdk_42_method_149_code 23 = .ok (.putfield 15, 3) := by decide +kernel
theorem d3_26 : decode jdk_42_method_149_code 26 = .ok (.return_, 1) := by decide +kernel
theorem d3_27 : decode jdk_42_method_149_code 27 = .ok (.getstatic 38, 3) := by decide +kernel
theorem d3_30 : decode jdk_42_method_149_code 30 = .ok (.ifCond .eq 28, 3) := by decide +kernel
theorem d3_33 : decode jdk_42_method_149_code 33 = .ok (.aload_n 1, 1) := by decide +kernel
theorem d3_34 : decode jdk_42_method_149_code 34 = .ok (.iload_n 2, 1) := by decide +kernel
theorem d3_35 : decode jdk_42_method_149_code 35 = .ok (.iload_n 3, 1) := by decide +kernel
theorem d3_36 : decode jdk_42_method_149_code 36 = .ok (.invokestatic 177, 3) := by decide +kernel
theorem d3_39 : decode jdk_42_method_149_code 39 = .ok (.astore 5, 2) := by decide +kernel
theorem d3_41 : decode jdk_42_method_149_code 41 = .ok (.aload_n 0, 1) := by decide +kernel
theorem d3_42 : decode jdk_42_method_149_code 42 = .ok (.aload 5, 2) := by decide +kernel
theorem d3_44 : decode jdk_42_method_149_code 44 = .ok (.iload_n 3, 1) := by decide +kernel
theorem d3_45 : decode jdk_42_method_149_code 45 = .ok (.invokestatic 47, 3) := by decide +kernel
theorem d3_48 : decode jdk_42_method_149_code 48 = .ok (.putfield 15, 3) := by decide +kernel
theorem d3_51 : decode jdk_42_method_149_code 51 = .ok (.aload_n 0, 1) := by decide +kernel
theorem d3_52 : decode jdk_42_method_149_code 52 = .ok (.aload 5, 2) := by decide +kernel
theorem d3_54 : decode jdk_42_method_149_code 54 = .ok (.putfield 9, 3) := by decide +kernel
theorem d3_57 : decode jdk_42_method_149_code 57 = .ok (.return_, 1) := by decide +kernel
theorem d3_58 : decode jdk_42_method_149_code 58 = .ok (.aload_n 0, 1) := by decide +kernel
theorem d3_59 : decode jdk_42_method_149_code 59 = .ok (.iconst 1, 1) := by decide +kernel
theorem d3_60 : decode jdk_42_method_149_code 60 = .ok (.putfield 15, 3) := by decide +kernel
theorem d3_63 : decode jdk_42_method_149_code 63 = .ok (.aload_n 0, 1) := by decide +kernel
theorem d3_64 : decode jdk_42_method_149_code 64 = .ok (.aload_n 1, 1) := by decide +kernel
theorem d3_65 : decode jdk_42_method_149_code 65 = .ok (.iload_n 2, 1) := by decide +kernel
theorem d3_66 : decode jdk_42_method_149_code 66 = .ok (.iload_n 3, 1) := by decide +kernel
theorem d3_67 : decode jdk_42_method_149_code 67 = .ok (.invokestatic 180, 3) := by decide +kernel
theorem d3_70 : decode jdk_42_method_149_code 70 = .ok (.putfield 9, 3) := by decide +kernel
theorem d3_73 : decode jdk_42_method_149_code 73 = .ok (.return_, 1) := by decide +kernel
theorem ef_c_init4_1 (m : MethodId) (x0 : Addr) (x1 : Addr) (x2 : Int32) (x3 : Int32) : entryFrame m #[(.ref x0), (.ref x1), (.int x2), (.int x3), .null] 6 = mkF m 0 #[.val (.ref x0), .val (.ref x1), .val (.int x2), .val (.int x3), .val .null, .unset] [] := by first | (simp [entryFrame, mkF, argsToLocals, Value.category, maxLocals]; done) | rfl
set_option maxRecDepth 65536 in
set_option maxHeartbeats 40000000 in
theorem c_init4_1 (l : Launch) (Z : State) (a0 : Array Value) (hw : ∀ d ∈ tables_1, d.before a0 Z = true) (ws : List Jvm.Cond) (a ch : Addr) (cz : Int32) (c0 : Int32) (h0 : Heap) (n0 : Nat) (Z0 : n0 ≤ h0.size) (Ea : Exa Z h0 a "java/lang/String") (ga : n0 ≤ a) (F0 : Fld Z h0 a "java/lang/String" "value" "[B" .null) (F1 : Fld Z h0 a "java/lang/String" "coder" "B" (.int 0)) (A : Ars Z h0 ch .char [(.int c0)]) (hne : a ≠ ch) (O : Old Z n0 h0) (S : Sta Z Z.heap "java/lang/String" "COMPACT_STRINGS" "Z" (.int cz)) (hcz : ¬ cz = 0) (C0 : 0 ≤ c0.toInt ∧ c0.toInt ≤ 255) :
    Ctr l Z (⟨"java/lang/String", "<init>", "([CIILjava/lang/Void;)V"⟩ : MethodName) jdk_42_method_149_code 6 none ws ({ frames := 2, cells := 1, slots := 1, locals := 35 } : Room) #[(.ref a), (.ref ch), (.int (0 : Int32)), (.int (1 : Int32)), .null] h0 (fun v h L => v = none ∧ Fr n0 L ∧ Keep h0 h [a] ∧ ∃ d, Fld Z h a "java/lang/String" "value" "[B" (.ref d) ∧ Fld Z h a "java/lang/String" "coder" "B" (.int 0) ∧ Ars Z h d .byte [(.int c0.toInt8.toInt32)] ∧ h0.size ≤ d) := by
  refine enter pn_3 ?_
  intro p e s m below meth c T0 X0 hx hby hml hret hlk hZ hown hnm e0
  have A0 := wk X0 hx hby
  have N0 := Fr.nil n0
  refine goIn (ef_c_init4_1 m a ch (0 : Int32) (1 : Int32)) ?_
  show Go p e below m (Fini s 1 1 (fun v h L => v = none ∧ Fr n0 L ∧ Keep h0 h [a] ∧ ∃ d, Fld Z h a "java/lang/String" "value" "[B" (.ref d) ∧ Fld Z h a "java/lang/String" "coder" "B" (.int 0) ∧ Ars Z h d .byte [(.int c0.toInt8.toInt32)] ∧ h0.size ≤ d)) T0 0 #[.val (.ref a), .val (.ref ch), .val (.int (0 : Int32)), .val (.int (1 : Int32)), .val .null, .unset] []
  refine s_aloadN A0 d3_0 (pc' := 1) rfl rfl rfl ?_
  refine g_initO X0 hx hZ hown (hw _ (List.mem_of_getElem? (i := 15) rfl)) (hw _ (List.mem_of_getElem? (i := 16) rfl)) (hw _ (List.mem_of_getElem? (i := 17) rfl)) e0 (by rw [hml]; rfl) (hb hby d3_1) (pc' := 4) rfl (by decide) (W := 0) (Nat.le_of_eq rfl) (by decide) ?_
  intro T1 X1 e1
  have A1 := wk X1 hx hby
  refine s_iloadN A1 d3_4 (pc' := 5) rfl rfl ?_
  refine s_ifne A1 d3_5 (pY := 27) (pN := 8) (by decide) (by decide) rfl (fun _ => ?_) (fun c => absurd c (by decide))
  have Sc := Sta.ext O.2 S
  refine g_getS X1 hx hZ hown (hw _ (List.mem_of_getElem? (i := 33) rfl)) Via.refl e1 Sc (hb hby d3_27) (pc' := 30) rfl ?_
  intro T2 X2 e2
  have A2 := wk X2 hx hby
  refine s_ifeq A2 d3_30 (pY := 58) (pN := 33) (by decide) (by decide) rfl ?_ ?_
  · intro c30
    replace c30 := iz_eq c30
    exact absurd (show cz = 0 from Int32.toInt_inj.mp c30) hcz
  · intro c30
    replace c30 := iz_ne c30
    refine s_aloadN A2 d3_33 (pc' := 34) rfl rfl rfl ?_
    refine s_iloadN A2 d3_34 (pc' := 35) rfl rfl ?_
    refine s_iloadN A2 d3_35 (pc' := 36) rfl rfl ?_
    refine g_static X2 hx hZ (y := (⟨"java/lang/StringUTF16", "compress", "([CII)[B"⟩ : MethodName)) hown (hw _ (List.mem_of_getElem? (i := 34) rfl)) (hw _ (List.mem_of_getElem? (i := 35) rfl)) (hw _ (List.mem_of_getElem? (i := 36) rfl)) (hw _ (List.mem_of_getElem? (i := 37) rfl)) (by decide) (argsL := [(.ref ch), (.int (0 : Int32)), (.int (1 : Int32))]) (rest := []) (c_cmp3_1 l Z a0 hw [] ch c0 h0 n0 Z0 A C0) pd_1 rfl rfl (hb hby d3_36) e2 (by rw [hml]; rfl) (pc' := 39) rfl (by decide) (W := 0) (Nat.le_of_eq rfl) (by decide) (by decide) (by decide) ?_
    intro v3 T3 L3 X3 hQ3
    have A3 := wk X3 hx hby
    have e3 : T3.heap = T3.heap := rfl
    obtain ⟨d, rfl, N3, K3, Ar3, gd3⟩ := hQ3
    have kp4 := Keep.trans (Keep.refl h0 [a]) K3 (fun x hx => absurd hx nin0)
    have fr3 := Fr.app N0 N3
    show Go p e below m (Fini s 1 1 (fun v h L => v = none ∧ Fr n0 L ∧ Keep h0 h [a] ∧ ∃ d, Fld Z h a "java/lang/String" "value" "[B" (.ref d) ∧ Fld Z h a "java/lang/String" "coder" "B" (.int 0) ∧ Ars Z h d .byte [(.int c0.toInt8.toInt32)] ∧ h0.size ≤ d)) T3 39 #[.val (.ref a), .val (.ref ch), .val (.int (0 : Int32)), .val (.int (1 : Int32)), .val .null, .unset] [(.ref d)]
    have gd0 : h0.size ≤ d := Nat.le_trans (Nat.le_refl _) gd3
    have nad : a ≠ d := Nat.ne_of_lt (Nat.lt_of_lt_of_le Ea.lt gd0)
    refine s_astore A3 d3_39 (pc' := 41) rfl (ls' := #[.val (.ref a), .val (.ref ch), .val (.int (0 : Int32)), .val (.int (1 : Int32)), .val .null, .val (.ref d)]) rfl rfl ?_
    refine s_aloadN A3 d3_41 (pc' := 42) rfl rfl rfl ?_
    refine s_aload A3 d3_42 (pc' := 44) rfl rfl rfl ?_
    refine s_iloadN A3 d3_44 (pc' := 45) rfl rfl ?_
    have sz6 : h0.size ≤ T3.heap.size := K3.1
    have zs5 : n0 ≤ T3.heap.size := Nat.le_trans Z0 sz6
    refine g_static X3 hx hZ (y := (⟨"java/lang/StringUTF16", "coderFromArrayLen", "([BI)B"⟩ : MethodName)) hown (hw _ (List.mem_of_getElem? (i := 41) rfl)) (hw _ (List.mem_of_getElem? (i := 42) rfl)) (hw _ (List.mem_of_getElem? (i := 36) rfl)) (hw _ (List.mem_of_getElem? (i := 43) rfl)) (by decide) (argsL := [(.ref d), (.int (1 : Int32))]) (rest := [(.ref a)]) (c_codl_1 l Z a0 hw [] d c0 T3.heap n0 zs5 Ar3) pd_2 rfl rfl (hb hby d3_45) e3 (by rw [hml]; rfl) (pc' := 48) rfl (by decide) (W := 1) (Nat.le_of_eq rfl) (by decide) (by decide) (by decide) ?_
    intro v7 T7 L7 X7 hQ7
    have A7 := wk X7 hx hby
    have e7 : T7.heap = T7.heap := rfl
    obtain ⟨rfl, N7, hh7⟩ := hQ7
    have e7 : T7.heap = T3.heap := hh7
    have fr7 := Fr.app fr3 N7
    show Go p e below m (Fini s 1 1 (fun v h L => v = none ∧ Fr n0 L ∧ Keep h0 h [a] ∧ ∃ d, Fld Z h a "java/lang/String" "value" "[B" (.ref d) ∧ Fld Z h a "java/lang/String" "coder" "B" (.int 0) ∧ Ars Z h d .byte [(.int c0.toInt8.toInt32)] ∧ h0.size ≤ d)) T7 48 #[.val (.ref a), .val (.ref ch), .val (.int (0 : Int32)), .val (.int (1 : Int32)), .val .null, .val (.ref d)] [(.int (0 : Int32)), (.ref a)]
    have f8 := (Fld.keep F1 K3 nin0)
    have f9 := (Exa.keep Ea K3)
    refine g_putF X7 hx hZ hown (hw _ (List.mem_of_getElem? (i := 25) rfl)) Via.refl e7 f8 f9 (Or.inr ⟨(hw _ (List.mem_of_getElem? (i := 21) rfl)), rfl, hnm⟩) (hw _ (List.mem_of_getElem? (i := 5) rfl)) (ty := .byte) (by decide) rfl rfl (hb hby d3_48) (pc' := 51) rfl ?_
    intro T10 h10 X10 e10 W10
    have A10 := wk X10 hx hby
    have F10 := Fld.same W10 f8
    have kp11 := Keep.wr kp4 W10 (Or.inl (List.mem_of_getElem? (i := 0) rfl))
    have fr11 := Fr.snoc X10 fr7 ga
    refine s_aloadN A10 d3_51 (pc' := 52) rfl rfl rfl ?_
    refine s_aload A10 d3_52 (pc' := 54) rfl rfl rfl ?_
    have f12 := (Fld.other W10 (Fld.keep F0 K3 nin0) (Or.inr (slot_ne (Or.inr (hw _ (List.mem_of_getElem? (i := 20) rfl))) (Or.inr (hw _ (List.mem_of_getElem? (i := 21) rfl))) (by decide) (t := (.array .byte)) (by decide) (t' := .byte) (by decide))))
    have f13 := (Exa.wr W10 f9)
    refine g_putF X10 hx hZ hown (hw _ (List.mem_of_getElem? (i := 24) rfl)) Via.refl e10 f12 f13 (Or.inr ⟨(hw _ (List.mem_of_getElem? (i := 20) rfl)), rfl, hnm⟩) (hw _ (List.mem_of_getElem? (i := 5) rfl)) (ty := (.array .byte)) (by decide) rfl rfl (hb hby d3_54) (pc' := 57) rfl ?_
    intro T14 h14 X14 e14 W14
    have A14 := wk X14 hx hby
    have F14 := Fld.same W14 f12
    have kp15 := Keep.wr kp11 W14 (Or.inl (List.mem_of_getElem? (i := 0) rfl))
    have fr15 := Fr.snoc X14 fr11 ga
    have f16 := (Fld.other W14 F10 (Or.inr (slot_ne (Or.inr (hw _ (List.mem_of_getElem? (i := 21) rfl))) (Or.inr (hw _ (List.mem_of_getElem? (i := 20) rfl))) (by decide) (t := .byte) (by decide) (t' := (.array .byte)) (by decide))))
    have f17 := (Ars.other W14 (Ars.other W10 Ar3 nad.symm) nad.symm)
    exact g_retV X14 hx hlk hret (hb hby d3_57) (by rw [e14]; exact ⟨rfl, fr15, kp15, d, F14, f16, f17, gd0⟩) (by decide) (by decide)
theorem d2_0 : decode jdk_42_method_3_code 0 = .ok (.aload_n 0, 1) := by decide +kernel
theorem d2_1 : decode jdk_42_method_3_code 1 = .ok (.aload_n 1, 1) := by decide +kernel
theorem d2_2 : decode jdk_42_method_3_code 2 = .ok (.iconst 0, 1) := by decide +kernel
theorem d2_3 : decode jdk_42_method_3_code 3 = .ok (.aload_n 1, 1) := by decide +kernel
theorem d2_4 : decode jdk_42_method_3_code 4 = .ok (.arraylength, 1) := by decide +kernel
theorem d2_5 : decode jdk_42_method_3_code 5 = .ok (.aconst_null, 1) := by decide +kernel
theorem d2_6 : decode jdk_42_method_3_code 6 = .ok (.invokespecial 27, 3) := by decide +kernel
theorem d2_9 : decode jdk_42_method_3_code 9 = .ok (.return_, 1) := by decide +kernel
theorem ef_c_str_1 (m : MethodId) (x0 : Addr) (x1 : Addr) : entryFrame m #[(.ref x0), (.ref x1)] 2 = mkF m 0 #[.val (.ref x0), .val (.ref x1)] [] := by first | (simp [entryFrame, mkF, argsToLocals, Value.category, maxLocals]; done) | rfl
set_option maxRecDepth 65536 in
set_option maxHeartbeats 40000000 in
theorem c_str_1 (l : Launch) (Z : State) (a0 : Array Value) (hw : ∀ d ∈ tables_1, d.before a0 Z = true) (ws : List Jvm.Cond) (a ch : Addr) (cz : Int32) (c0 : Int32) (h0 : Heap) (n0 : Nat) (Z0 : n0 ≤ h0.size) (Ea : Exa Z h0 a "java/lang/String") (ga : n0 ≤ a) (F0 : Fld Z h0 a "java/lang/String" "value" "[B" .null) (F1 : Fld Z h0 a "java/lang/String" "coder" "B" (.int 0)) (A : Ars Z h0 ch .char [(.int c0)]) (hne : a ≠ ch) (O : Old Z n0 h0) (S : Sta Z Z.heap "java/lang/String" "COMPACT_STRINGS" "Z" (.int cz)) (hcz : ¬ cz = 0) (C0 : 0 ≤ c0.toInt ∧ c0.toInt ≤ 255) :
    Ctr l Z (⟨"java/lang/String", "<init>", "([C)V"⟩ : MethodName) jdk_42_method_3_code 2 none ws ({ frames := 3, cells := 1, slots := 1, locals := 52 } : Room) #[(.ref a), (.ref ch)] h0 (fun v h L => v = none ∧ Fr n0 L ∧ Keep h0 h [a] ∧ ∃ d, Fld Z h a "java/lang/String" "value" "[B" (.ref d) ∧ Fld Z h a "java/lang/String" "coder" "B" (.int 0) ∧ Ars Z h d .byte [(.int c0.toInt8.toInt32)] ∧ h0.size ≤ d) := by
  refine enter pn_2 ?_
  intro p e s m below meth c T0 X0 hx hby hml hret hlk hZ hown hnm e0
  have A0 := wk X0 hx hby
  have N0 := Fr.nil n0
  refine goIn (ef_c_str_1 m a ch) ?_
  show Go p e below m (Fini s 1 1 (fun v h L => v = none ∧ Fr n0 L ∧ Keep h0 h [a] ∧ ∃ d, Fld Z h a "java/lang/String" "value" "[B" (.ref d) ∧ Fld Z h a "java/lang/String" "coder" "B" (.int 0) ∧ Ars Z h d .byte [(.int c0.toInt8.toInt32)] ∧ h0.size ≤ d)) T0 0 #[.val (.ref a), .val (.ref ch)] []
  refine s_aloadN A0 d2_0 (pc' := 1) rfl rfl rfl ?_
  refine s_aloadN A0 d2_1 (pc' := 2) rfl rfl rfl ?_
  refine s_iconst A0 d2_2 (pc' := 3) rfl (v := (0 : Int32)) (by decide) ?_
  refine s_aloadN A0 d2_3 (pc' := 4) rfl rfl rfl ?_
  refine g_len X0 hx hZ e0 A (n := (1 : Int32)) rfl (hb hby d2_4) (pc' := 5) rfl ?_
  refine s_aconstNull A0 d2_5 (pc' := 6) rfl  ?_
  refine g_special X0 hx hZ (y := (⟨"java/lang/String", "<init>", "([CIILjava/lang/Void;)V"⟩ : MethodName)) rfl hown (hw _ (List.mem_of_getElem? (i := 11) rfl)) (hw _ (List.mem_of_getElem? (i := 12) rfl)) (hw _ (List.mem_of_getElem? (i := 6) rfl)) (hw _ (List.mem_of_getElem? (i := 14) rfl)) (by decide) (a := a) (argsL := [(.ref ch), (.int (0 : Int32)), (.int (1 : Int32)), .null]) (rest := []) (c_init4_1 l Z a0 hw [] a ch cz c0 h0 n0 Z0 Ea ga F0 F1 A hne O S hcz C0) pd_3 rfl rfl (hb hby d2_6) e0 (by rw [hml]; rfl) (pc' := 9) rfl (by decide) (W := 0) (Nat.le_of_eq rfl) (by decide) (by decide) (by decide) ?_
  intro v1 T1 L1 X1 hQ1
  have A1 := wk X1 hx hby
  have e1 : T1.heap = T1.heap := rfl
  obtain ⟨rfl, N1, K1, d, V1, C1, Ar1, gd1⟩ := hQ1
  have kp2 := Keep.trans (Keep.refl h0 [a]) K1 (allS (P := fun x => x ∈ [a] ∨ h0.size ≤ x) (Or.inl (List.mem_of_getElem? (i := 0) rfl)) all0)
  have fr1 := Fr.app N0 N1
  show Go p e below m (Fini s 1 1 (fun v h L => v = none ∧ Fr n0 L ∧ Keep h0 h [a] ∧ ∃ d, Fld Z h a "java/lang/String" "value" "[B" (.ref d) ∧ Fld Z h a "java/lang/String" "coder" "B" (.int 0) ∧ Ars Z h d .byte [(.int c0.toInt8.toInt32)] ∧ h0.size ≤ d)) T1 9 #[.val (.ref a), .val (.ref ch)] []
  exact g_retV X1 hx hlk hret (hb hby d2_9) (by exact ⟨rfl, fr1, K1, d, V1, C1, Ar1, gd1⟩) (by decide) (by decide)
theorem ef_c_cmp5_2 (m : MethodId) (x0 : Addr) (x1 : Int32) (x2 : Addr) (x3 : Int32) (x4 : Int32) : entryFrame m #[(.ref x0), (.int x1), (.ref x2), (.int x3), (.int x4)] 7 = mkF m 0 #[.val (.ref x0), .val (.int x1), .val (.ref x2), .val (.int x3), .val (.int x4), .unset, .unset] [] := by first | (simp [entryFrame, mkF, argsToLocals, Value.category, maxLocals]; done) | rfl
set_option maxRecDepth 65536 in
set_option maxHeartbeats 40000000 in
theorem c_cmp5_2 (l : Launch) (Z : State) (a0 : Array Value) (hw : ∀ d ∈ tables_1, d.before a0 Z = true) (ws : List Jvm.Cond) (a d : Addr) (c0 c1 : Int32) (h0 : Heap) (n0 : Nat) (Z0 : n0 ≤ h0.size) (A : Ars Z h0 a .char [(.int c0), (.int c1)]) (D : Ars Z h0 d .byte [(.int 0), (.int 0)]) (hne : a ≠ d) (gd : n0 ≤ d) (C0 : 0 ≤ c0.toInt ∧ c0.toInt ≤ 255) (C1 : 0 ≤ c1.toInt ∧ c1.toInt ≤ 255) :
    Ctr l Z (⟨"java/lang/StringUTF16", "compress", "([CI[BII)I"⟩ : MethodName) jdk_52_method_21_code 7 (some .int) ws ({ frames := 0, cells := 0, slots := 0, locals := 0 } : Room) #[(.ref a), (.int (0 : Int32)), (.ref d), (.int (0 : Int32)), (.int (2 : Int32))] h0 (fun v h L => v = some (.int 2) ∧ Fr n0 L ∧ Keep h0 h [d] ∧ Ars Z h d .byte [(.int c0.toInt8.toInt32), (.int c1.toInt8.toInt32)]) := by
  refine enter pn_8 ?_
  intro p e s m below meth c T0 X0 hx hby hml hret hlk hZ hown hnm e0
  have A0 := wk X0 hx hby
  have N0 := Fr.nil n0
  refine goIn (ef_c_cmp5_2 m a (0 : Int32) d (0 : Int32) (2 : Int32)) ?_
  show Go p e below m (Fini s 0 0 (fun v h L => v = some (.int 2) ∧ Fr n0 L ∧ Keep h0 h [d] ∧ Ars Z h d .byte [(.int c0.toInt8.toInt32), (.int c1.toInt8.toInt32)])) T0 0 #[.val (.ref a), .val (.int (0 : Int32)), .val (.ref d), .val (.int (0 : Int32)), .val (.int (2 : Int32)), .unset, .unset] []
  refine s_iconst A0 d8_0 (pc' := 1) rfl (v := (0 : Int32)) (by decide) ?_
  refine s_istore A0 d8_1 (pc' := 3) rfl (ls' := #[.val (.ref a), .val (.int (0 : Int32)), .val (.ref d), .val (.int (0 : Int32)), .val (.int (2 : Int32)), .val (.int (0 : Int32)), .unset]) rfl ?_
  refine s_iload A0 d8_3 (pc' := 5) rfl rfl ?_
  refine s_iload A0 d8_5 (pc' := 7) rfl rfl ?_
  refine s_icmpge A0 d8_7 (pY := 44) (pN := 10) (by decide) (by decide) rfl (fun c => absurd c (by decide)) (fun _ => ?_)
  refine s_aloadN A0 d8_10 (pc' := 11) rfl rfl rfl ?_
  refine s_iloadN A0 d8_11 (pc' := 12) rfl rfl ?_
  refine g_caload X0 hx hZ e0 A (by decide) (i := 0) (by decide) (v := (.int c0)) rfl (hb hby d8_12) (pc' := 13) rfl ?_
  refine s_istore A0 d8_13 (pc' := 15) rfl (ls' := #[.val (.ref a), .val (.int (0 : Int32)), .val (.ref d), .val (.int (0 : Int32)), .val (.int (2 : Int32)), .val (.int (0 : Int32)), .val (.int c0)]) rfl ?_
  refine s_iload A0 d8_15 (pc' := 17) rfl rfl ?_
  refine s_sipush A0 d8_17 (pc' := 20) rfl (v := (255 : Int32)) (by decide) ?_
  refine s_icmple A0 d8_20 (pY := 26) (pN := 23) (by decide) (by decide) rfl ?_ ?_
  · intro c20
    replace c20 := i_le c20
    rw [show (255 : Int32).toInt = 255 from by decide] at c20
    refine s_aloadN A0 d8_26 (pc' := 27) rfl rfl rfl ?_
    refine s_iloadN A0 d8_27 (pc' := 28) rfl rfl ?_
    refine s_iload A0 d8_28 (pc' := 30) rfl rfl ?_
    refine s_i2b A0 d8_30 (pc' := 31) rfl rfl ?_
    refine g_bastore X0 hx hZ e0 D (by decide) (i := 0) (by decide) (by simp) (v := (.int c0.toInt8.toInt32)) (congrArg Value.int (own_narb c0)) (hb hby d8_31) (pc' := 32) rfl ?_
    intro T1 h1 X1 e1 W1 Ar1
    have A1 := wk X1 hx hby
    have Ar1 : Ars Z h1 d .byte [(.int c0.toInt8.toInt32), (.int 0)] := Ar1
    have kp2 := Keep.wr (Keep.refl h0 [d]) W1 (Or.inl (List.mem_of_getElem? (i := 0) rfl))
    have fr2 := Fr.snoc X1 N0 gd
    refine s_iinc A1 d8_32 (pc' := 35) rfl (v := (1 : Int32)) (ls' := #[.val (.ref a), .val (.int (1 : Int32)), .val (.ref d), .val (.int (0 : Int32)), .val (.int (2 : Int32)), .val (.int (0 : Int32)), .val (.int c0)]) rfl (by decide) rfl ?_
    refine s_iinc A1 d8_35 (pc' := 38) rfl (v := (1 : Int32)) (ls' := #[.val (.ref a), .val (.int (1 : Int32)), .val (.ref d), .val (.int (1 : Int32)), .val (.int (2 : Int32)), .val (.int (0 : Int32)), .val (.int c0)]) rfl (by decide) rfl ?_
    refine s_iinc A1 d8_38 (pc' := 41) rfl (v := (1 : Int32)) (ls' := #[.val (.ref a), .val (.int (1 : Int32)), .val (.ref d), .val (.int (1 : Int32)), .val (.int (2 : Int32)), .val (.int (1 : Int32)), .val (.int c0)]) rfl (by decide) rfl ?_
    refine s_goto A1 d8_41 (pc' := 3) (by decide) (by decide) ?_
    refine s_iload A1 d8_3 (pc' := 5) rfl rfl ?_
    refine s_iload A1 d8_5 (pc' := 7) rfl rfl ?_
    refine s_icmpge A1 d8_7 (pY := 44) (pN := 10) (by decide) (by decide) rfl (fun c => absurd c (by decide)) (fun _ => ?_)
    refine s_aloadN A1 d8_10 (pc' := 11) rfl rfl rfl ?_
    refine s_iloadN A1 d8_11 (pc' := 12) rfl rfl ?_
    have f3 := (Ars.other W1 A hne)
    refine g_caload X1 hx hZ e1 f3 (by decide) (i := 1) (by decide) (v := (.int c1)) rfl (hb hby d8_12) (pc' := 13) rfl ?_
    refine s_istore A1 d8_13 (pc' := 15) rfl (ls' := #[.val (.ref a), .val (.int (1 : Int32)), .val (.ref d), .val (.int (1 : Int32)), .val (.int (2 : Int32)), .val (.int (1 : Int32)), .val (.int c1)]) rfl ?_
    refine s_iload A1 d8_15 (pc' := 17) rfl rfl ?_
    refine s_sipush A1 d8_17 (pc' := 20) rfl (v := (255 : Int32)) (by decide) ?_
    refine s_icmple A1 d8_20 (pY := 26) (pN := 23) (by decide) (by decide) rfl ?_ ?_
    · intro c20_4
      replace c20_4 := i_le c20_4
      rw [show (255 : Int32).toInt = 255 from by decide] at c20_4
      refine s_aloadN A1 d8_26 (pc' := 27) rfl rfl rfl ?_
      refine s_iloadN A1 d8_27 (pc' := 28) rfl rfl ?_
      refine s_iload A1 d8_28 (pc' := 30) rfl rfl ?_
      refine s_i2b A1 d8_30 (pc' := 31) rfl rfl ?_
      refine g_bastore X1 hx hZ e1 Ar1 (by decide) (i := 1) (by decide) (by simp) (v := (.int c1.toInt8.toInt32)) (congrArg Value.int (own_narb c1)) (hb hby d8_31) (pc' := 32) rfl ?_
      intro T5 h5 X5 e5 W5 Ar5
      have A5 := wk X5 hx hby
      have Ar5 : Ars Z h5 d .byte [(.int c0.toInt8.toInt32), (.int c1.toInt8.toInt32)] := Ar5
      have kp6 := Keep.wr kp2 W5 (Or.inl (List.mem_of_getElem? (i := 0) rfl))
      have fr6 := Fr.snoc X5 fr2 gd
      refine s_iinc A5 d8_32 (pc' := 35) rfl (v := (2 : Int32)) (ls' := #[.val (.ref a), .val (.int (2 : Int32)), .val (.ref d), .val (.int (1 : Int32)), .val (.int (2 : Int32)), .val (.int (1 : Int32)), .val (.int c1)]) rfl (by decide) rfl ?_
      refine s_iinc A5 d8_35 (pc' := 38) rfl (v := (2 : Int32)) (ls' := #[.val (.ref a), .val (.int (2 : Int32)), .val (.ref d), .val (.int (2 : Int32)), .val (.int (2 : Int32)), .val (.int (1 : Int32)), .val (.int c1)]) rfl (by decide) rfl ?_
      refine s_iinc A5 d8_38 (pc' := 41) rfl (v := (2 : Int32)) (ls' := #[.val (.ref a), .val (.int (2 : Int32)), .val (.ref d), .val (.int (2 : Int32)), .val (.int (2 : Int32)), .val (.int (2 : Int32)), .val (.int c1)]) rfl (by decide) rfl ?_
      refine s_goto A5 d8_41 (pc' := 3) (by decide) (by decide) ?_
      refine s_iload A5 d8_3 (pc' := 5) rfl rfl ?_
      refine s_iload A5 d8_5 (pc' := 7) rfl rfl ?_
      refine s_icmpge A5 d8_7 (pY := 44) (pN := 10) (by decide) (by decide) rfl (fun _ => ?_) (fun c => absurd c (by decide))
      refine s_iload A5 d8_44 (pc' := 46) rfl rfl ?_
      exact g_retI X5 hx hlk hret (hb hby d8_46) (by rw [e5]; exact ⟨rfl, fr6, kp6, Ar5⟩) (by decide) (by decide)
    · intro c20_4
      replace c20_4 := i_gt c20_4
      rw [show (255 : Int32).toInt = 255 from by decide] at c20_4
      exfalso; omega
  · intro c20
    replace c20 := i_gt c20
    rw [show (255 : Int32).toInt = 255 from by decide] at c20
    exfalso; omega
theorem ef_c_cmp3_2 (m : MethodId) (x0 : Addr) (x1 : Int32) (x2 : Int32) : entryFrame m #[(.ref x0), (.int x1), (.int x2)] 6 = mkF m 0 #[.val (.ref x0), .val (.int x1), .val (.int x2), .unset, .unset, .unset] [] := by first | (simp [entryFrame, mkF, argsToLocals, Value.category, maxLocals]; done) | rfl
set_option maxRecDepth 65536 in
set_option maxHeartbeats 40000000 in
theorem c_cmp3_2 (l : Launch) (Z : State) (a0 : Array Value) (hw : ∀ d ∈ tables_1, d.before a0 Z = true) (ws : List Jvm.Cond) (a : Addr) (c0 c1 : Int32) (h0 : Heap) (n0 : Nat) (Z0 : n0 ≤ h0.size) (A : Ars Z h0 a .char [(.int c0), (.int c1)]) (C0 : 0 ≤ c0.toInt ∧ c0.toInt ≤ 255) (C1 : 0 ≤ c1.toInt ∧ c1.toInt ≤ 255) :
    Ctr l Z (⟨"java/lang/StringUTF16", "compress", "([CII)[B"⟩ : MethodName) jdk_52_method_16_code 6 (some (.array .byte)) ws ({ frames := 1, cells := 1, slots := 2, locals := 18 } : Room) #[(.ref a), (.int (0 : Int32)), (.int (2 : Int32))] h0 (fun v h L => ∃ d, v = some (.ref d) ∧ Fr n0 L ∧ Keep h0 h [] ∧ Ars Z h d .byte [(.int c0.toInt8.toInt32), (.int c1.toInt8.toInt32)] ∧ h0.size ≤ d) := by
  refine enter pn_7 ?_
  intro p e s m below meth c T0 X0 hx hby hml hret hlk hZ hown hnm e0
  have A0 := wk X0 hx hby
  have N0 := Fr.nil n0
  refine goIn (ef_c_cmp3_2 m a (0 : Int32) (2 : Int32)) ?_
  show Go p e below m (Fini s 1 2 (fun v h L => ∃ d, v = some (.ref d) ∧ Fr n0 L ∧ Keep h0 h [] ∧ Ars Z h d .byte [(.int c0.toInt8.toInt32), (.int c1.toInt8.toInt32)] ∧ h0.size ≤ d)) T0 0 #[.val (.ref a), .val (.int (0 : Int32)), .val (.int (2 : Int32)), .unset, .unset, .unset] []
  refine s_iloadN A0 d7_0 (pc' := 1) rfl rfl ?_
  refine g_newarray X0 hx hZ e0 (hw _ (List.mem_of_getElem? (i := 19) rfl)) (by decide) (k0 := 2) (by decide) (by decide) (by decide) (by decide) (ad := "[B") (by decide) rfl (hb hby d7_1) (pc' := 3) rfl ?_
  intro T1 h1 a1 X1 e1 E1 ga1 Ar1 Ex1
  have A1 := wk X1 hx hby
  have Ar1 : Ars Z h1 a1 .byte [(.int 0), (.int 0)] := Ar1
  have la2 : a1 < h1.size := Ex1.lt
  have kp3 := Keep.ext (Keep.refl h0 []) E1
  refine s_astoreN A1 d7_3 (pc' := 4) rfl (ls' := #[.val (.ref a), .val (.int (0 : Int32)), .val (.int (2 : Int32)), .val (.ref a1), .unset, .unset]) rfl rfl ?_
  refine s_aloadN A1 d7_4 (pc' := 5) rfl rfl rfl ?_
  refine s_iloadN A1 d7_5 (pc' := 6) rfl rfl ?_
  refine s_aloadN A1 d7_6 (pc' := 7) rfl rfl rfl ?_
  refine s_iconst A1 d7_7 (pc' := 8) rfl (v := (0 : Int32)) (by decide) ?_
  refine s_iloadN A1 d7_8 (pc' := 9) rfl rfl ?_
  have f4 := (Ars.ext E1 A)
  have ge6 : h0.size ≤ a1 := by rw [ga1]; exact (Nat.le_refl _)
  have gn5 : n0 ≤ a1 := Nat.le_trans Z0 ge6
  have ne7 : a ≠ a1 := by rw [ga1]; exact Nat.ne_of_lt (Nat.lt_of_lt_of_le A.lt (Nat.le_refl _))
  have sz9 : h0.size ≤ h1.size := E1.1
  have zs8 : n0 ≤ h1.size := Nat.le_trans Z0 sz9
  refine g_static X1 hx hZ (y := (⟨"java/lang/StringUTF16", "compress", "([CI[BII)I"⟩ : MethodName)) hown (hw _ (List.mem_of_getElem? (i := 38) rfl)) (hw _ (List.mem_of_getElem? (i := 39) rfl)) (hw _ (List.mem_of_getElem? (i := 36) rfl)) (hw _ (List.mem_of_getElem? (i := 40) rfl)) (by decide) (argsL := [(.ref a), (.int (0 : Int32)), (.ref a1), (.int (0 : Int32)), (.int (2 : Int32))]) (rest := []) (c_cmp5_2 l Z a0 hw [] a a1 c0 c1 h1 n0 zs8 f4 Ar1 ne7 gn5 C0 C1) pd_0 rfl rfl (hb hby d7_9) e1 (by rw [hml]; rfl) (pc' := 12) rfl (by decide) (W := 0) (Nat.le_of_eq rfl) (by decide) (by decide) (by decide) ?_
  intro v10 T10 L10 X10 hQ10
  have A10 := wk X10 hx hby
  have e10 : T10.heap = T10.heap := rfl
  obtain ⟨rfl, N10, K10, Ar10⟩ := hQ10
  have kp11 := Keep.trans kp3 K10 (allS (P := fun x => x ∈ [] ∨ h0.size ≤ x) (Or.inr ge6) all0)
  have fr10 := Fr.app N0 N10
  show Go p e below m (Fini s 1 2 (fun v h L => ∃ d, v = some (.ref d) ∧ Fr n0 L ∧ Keep h0 h [] ∧ Ars Z h d .byte [(.int c0.toInt8.toInt32), (.int c1.toInt8.toInt32)] ∧ h0.size ≤ d)) T10 12 #[.val (.ref a), .val (.int (0 : Int32)), .val (.int (2 : Int32)), .val (.ref a1), .unset, .unset] [(.int (2 : Int32))]
  refine s_istore A10 d7_12 (pc' := 14) rfl (ls' := #[.val (.ref a), .val (.int (0 : Int32)), .val (.int (2 : Int32)), .val (.ref a1), .val (.int (2 : Int32)), .unset]) rfl ?_
  refine s_iload A10 d7_14 (pc' := 16) rfl rfl ?_
  refine s_iloadN A10 d7_16 (pc' := 17) rfl rfl ?_
  refine s_icmpeq A10 d7_17 (pY := 57) (pN := 20) (by decide) (by decide) rfl (fun _ => ?_) (fun c => absurd c (by decide))
  refine s_aloadN A10 d7_57 (pc' := 58) rfl rfl rfl ?_
  exact g_retA X10 hx hlk hret rfl rfl rfl (hb hby d7_58) (by rw [e10]; exact ⟨_, rfl, fr10, kp11, Ar10, ge6⟩) (by decide) (by decide)
theorem ef_c_codl_2 (m : MethodId) (x0 : Addr) (x1 : Int32) : entryFrame m #[(.ref x0), (.int x1)] 2 = mkF m 0 #[.val (.ref x0), .val (.int x1)] [] := by first | (simp [entryFrame, mkF, argsToLocals, Value.category, maxLocals]; done) | rfl
set_option maxRecDepth 65536 in
set_option maxHeartbeats 40000000 in
theorem c_codl_2 (l : Launch) (Z : State) (a0 : Array Value) (hw : ∀ d ∈ tables_1, d.before a0 Z = true) (ws : List Jvm.Cond) (d : Addr) (c0 c1 : Int32) (h0 : Heap) (n0 : Nat) (Z0 : n0 ≤ h0.size) (D : Ars Z h0 d .byte [(.int c0.toInt8.toInt32), (.int c1.toInt8.toInt32)]) :
    Ctr l Z (⟨"java/lang/StringUTF16", "coderFromArrayLen", "([BI)B"⟩ : MethodName) jdk_52_method_15_code 2 (some .byte) ws ({ frames := 0, cells := 0, slots := 0, locals := 0 } : Room) #[(.ref d), (.int (2 : Int32))] h0 (fun v h L => v = some (.int 0) ∧ Fr n0 L ∧ h = h0) := by
  refine enter pn_9 ?_
  intro p e s m below meth c T0 X0 hx hby hml hret hlk hZ hown hnm e0
  have A0 := wk X0 hx hby
  have N0 := Fr.nil n0
  refine goIn (ef_c_codl_2 m d (2 : Int32)) ?_
  show Go p e below m (Fini s 0 0 (fun v h L => v = some (.int 0) ∧ Fr n0 L ∧ h = h0)) T0 0 #[.val (.ref d), .val (.int (2 : Int32))] []
  refine s_iloadN A0 d9_0 (pc' := 1) rfl rfl ?_
  refine s_aloadN A0 d9_1 (pc' := 2) rfl rfl rfl ?_
  refine g_len X0 hx hZ e0 D (n := (2 : Int32)) rfl (hb hby d9_2) (pc' := 3) rfl ?_
  refine s_isub A0 d9_3 (pc' := 4) rfl (v := (0 : Int32)) (by decide) ?_
  refine s_bipush A0 d9_4 (pc' := 6) rfl (v := (31 : Int32)) (by decide) ?_
  refine s_iushr A0 d9_6 (pc' := 7) rfl (v := (0 : Int32)) (by decide) ?_
  refine s_i2b A0 d9_7 (pc' := 8) rfl (v := (0 : Int32)) (by decide) ?_
  exact g_ret X0 hx hlk hret rfl (Or.inl ⟨rfl, by simp, _, rfl⟩) (hb hby d9_8) ⟨rfl, N0, e0⟩ (by decide) (by decide)
theorem ef_c_init4_2 (m : MethodId) (x0 : Addr) (x1 : Addr) (x2 : Int32) (x3 : Int32) : entryFrame m #[(.ref x0), (.ref x1), (.int x2), (.int x3), .null] 6 = mkF m 0 #[.val (.ref x0), .val (.ref x1), .val (.int x2), .val (.int x3), .val .null, .unset] [] := by first | (simp [entryFrame, mkF, argsToLocals, Value.category, maxLocals]; done) | rfl
set_option maxRecDepth 65536 in
set_option maxHeartbeats 40000000 in
theorem c_init4_2 (l : Launch) (Z : State) (a0 : Array Value) (hw : ∀ d ∈ tables_1, d.before a0 Z = true) (ws : List Jvm.Cond) (a ch : Addr) (cz : Int32) (c0 c1 : Int32) (h0 : Heap) (n0 : Nat) (Z0 : n0 ≤ h0.size) (Ea : Exa Z h0 a "java/lang/String") (ga : n0 ≤ a) (F0 : Fld Z h0 a "java/lang/String" "value" "[B" .null) (F1 : Fld Z h0 a "java/lang/String" "coder" "B" (.int 0)) (A : Ars Z h0 ch .char [(.int c0), (.int c1)]) (hne : a ≠ ch) (O : Old Z n0 h0) (S : Sta Z Z.heap "java/lang/String" "COMPACT_STRINGS" "Z" (.int cz)) (hcz : ¬ cz = 0) (C0 : 0 ≤ c0.toInt ∧ c0.toInt ≤ 255) (C1 : 0 ≤ c1.toInt ∧ c1.toInt ≤ 255) :
    Ctr l Z (⟨"java/lang/String", "<init>", "([CIILjava/lang/Void;)V"⟩ : MethodName) jdk_42_method_149_code 6 none ws ({ frames := 2, cells := 1, slots := 2, locals := 35 } : Room) #[(.ref a), (.ref ch), (.int (0 : Int32)), (.int (2 : Int32)), .null] h0 (fun v h L => v = none ∧ Fr n0 L ∧ Keep h0 h [a] ∧ ∃ d, Fld Z h a "java/lang/String" "value" "[B" (.ref d) ∧ Fld Z h a "java/lang/String" "coder" "B" (.int 0) ∧ Ars Z h d .byte [(.int c0.toInt8.toInt32), (.int c1.toInt8.toInt32)] ∧ h0.size ≤ d) := by
  refine enter pn_3 ?_
  intro p e s m below meth c T0 X0 hx hby hml hret hlk hZ hown hnm e0
  have A0 := wk X0 hx hby
  have N0 := Fr.nil n0
  refine goIn (ef_c_init4_2 m a ch (0 : Int32) (2 : Int32)) ?_
  show Go p e below m (Fini s 1 2 (fun v h L => v = none ∧ Fr n0 L ∧ Keep h0 h [a] ∧ ∃ d, Fld Z h a "java/lang/String" "value" "[B" (.ref d) ∧ Fld Z h a "java/lang/String" "coder" "B" (.int 0) ∧ Ars Z h d .byte [(.int c0.toInt8.toInt32), (.int c1.toInt8.toInt32)] ∧ h0.size ≤ d)) T0 0 #[.val (.ref a), .val (.ref ch), .val (.int (0 : Int32)), .val (.int (2 : Int32)), .val .null, .unset] []
  refine s_aloadN A0 d3_0 (pc' := 1) rfl rfl rfl ?_
  refine g_initO X0 hx hZ hown (hw _ (List.mem_of_getElem? (i := 15) rfl)) (hw _ (List.mem_of_getElem? (i := 16) rfl)) (hw _ (List.mem_of_getElem? (i := 17) rfl)) e0 (by rw [hml]; rfl) (hb hby d3_1) (pc' := 4) rfl (by decide) (W := 0) (Nat.le_of_eq rfl) (by decide) ?_
  intro T1 X1 e1
  have A1 := wk X1 hx hby
  refine s_iloadN A1 d3_4 (pc' := 5) rfl rfl ?_
  refine s_ifne A1 d3_5 (pY := 27) (pN := 8) (by decide) (by decide) rfl (fun _ => ?_) (fun c => absurd c (by decide))
  have Sc := Sta.ext O.2 S
  refine g_getS X1 hx hZ hown (hw _ (List.mem_of_getElem? (i := 33) rfl)) Via.refl e1 Sc (hb hby d3_27) (pc' := 30) rfl ?_
  intro T2 X2 e2
  have A2 := wk X2 hx hby
  refine s_ifeq A2 d3_30 (pY := 58) (pN := 33) (by decide) (by decide) rfl ?_ ?_
  · intro c30
    replace c30 := iz_eq c30
    exact absurd (show cz = 0 from Int32.toInt_inj.mp c30) hcz
  · intro c30
    replace c30 := iz_ne c30
    refine s_aloadN A2 d3_33 (pc' := 34) rfl rfl rfl ?_
    refine s_iloadN A2 d3_34 (pc' := 35) rfl rfl ?_
    refine s_iloadN A2 d3_35 (pc' := 36) rfl rfl ?_
    refine g_static X2 hx hZ (y := (⟨"java/lang/StringUTF16", "compress", "([CII)[B"⟩ : MethodName)) hown (hw _ (List.mem_of_getElem? (i := 34) rfl)) (hw _ (List.mem_of_getElem? (i := 35) rfl)) (hw _ (List.mem_of_getElem? (i := 36) rfl)) (hw _ (List.mem_of_getElem? (i := 37) rfl)) (by decide) (argsL := [(.ref ch), (.int (0 : Int32)), (.int (2 : Int32))]) (rest := []) (c_cmp3_2 l Z a0 hw [] ch c0 c1 h0 n0 Z0 A C0 C1) pd_1 rfl rfl (hb hby d3_36) e2 (by rw [hml]; rfl) (pc' := 39) rfl (by decide) (W := 0) (Nat.le_of_eq rfl) (by decide) (by decide) (by decide) ?_
    intro v3 T3 L3 X3 hQ3
    have A3 := wk X3 hx hby
    have e3 : T3.heap = T3.heap := rfl
    obtain ⟨d, rfl, N3, K3, Ar3, gd3⟩ := hQ3
    have kp4 := Keep.trans (Keep.refl h0 [a]) K3 (fun x hx => absurd hx nin0)
    have fr3 := Fr.app N0 N3
    show Go p e below m (Fini s 1 2 (fun v h L => v = none ∧ Fr n0 L ∧ Keep h0 h [a] ∧ ∃ d, Fld Z h a "java/lang/String" "value" "[B" (.ref d) ∧ Fld Z h a "java/lang/String" "coder" "B" (.int 0) ∧ Ars Z h d .byte [(.int c0.toInt8.toInt32), (.int c1.toInt8.toInt32)] ∧ h0.size ≤ d)) T3 39 #[.val (.ref a), .val (.ref ch), .val (.int (0 : Int32)), .val (.int (2 : Int32)), .val .null, .unset] [(.ref d)]
    have gd0 : h0.size ≤ d := Nat.le_trans (Nat.le_refl _) gd3
    have nad : a ≠ d := Nat.ne_of_lt (Nat.lt_of_lt_of_le Ea.lt gd0)
    refine s_astore A3 d3_39 (pc' := 41) rfl (ls' := #[.val (.ref a), .val (.ref ch), .val (.int (0 : Int32)), .val (.int (2 : Int32)), .val .null, .val (.ref d)]) rfl rfl ?_
    refine s_aloadN A3 d3_41 (pc' := 42) rfl rfl rfl ?_
    refine s_aload A3 d3_42 (pc' := 44) rfl rfl rfl ?_
    refine s_iloadN A3 d3_44 (pc' := 45) rfl rfl ?_
    have sz6 : h0.size ≤ T3.heap.size := K3.1
    have zs5 : n0 ≤ T3.heap.size := Nat.le_trans Z0 sz6
    refine g_static X3 hx hZ (y := (⟨"java/lang/StringUTF16", "coderFromArrayLen", "([BI)B"⟩ : MethodName)) hown (hw _ (List.mem_of_getElem? (i := 41) rfl)) (hw _ (List.mem_of_getElem? (i := 42) rfl)) (hw _ (List.mem_of_getElem? (i := 36) rfl)) (hw _ (List.mem_of_getElem? (i := 43) rfl)) (by decide) (argsL := [(.ref d), (.int (2 : Int32))]) (rest := [(.ref a)]) (c_codl_2 l Z a0 hw [] d c0 c1 T3.heap n0 zs5 Ar3) pd_2 rfl rfl (hb hby d3_45) e3 (by rw [hml]; rfl) (pc' := 48) rfl (by decide) (W := 1) (Nat.le_of_eq rfl) (by decide) (by decide) (by decide) ?_
    intro v7 T7 L7 X7 hQ7
    have A7 := wk X7 hx hby
    have e7 : T7.heap = T7.heap := rfl
    obtain ⟨rfl, N7, hh7⟩ := hQ7
    have e7 : T7.heap = T3.heap := hh7
    have fr7 := Fr.app fr3 N7
    show Go p e below m (Fini s 1 2 (fun v h L => v = none ∧ Fr n0 L ∧ Keep h0 h [a] ∧ ∃ d, Fld Z h a "java/lang/String" "value" "[B" (.ref d) ∧ Fld Z h a "java/lang/String" "coder" "B" (.int 0) ∧ Ars Z h d .byte [(.int c0.toInt8.toInt32), (.int c1.toInt8.toInt32)] ∧ h0.size ≤ d)) T7 48 #[.val (.ref a), .val (.ref ch), .val (.int (0 : Int32)), .val (.int (2 : Int32)), .val .null, .val (.ref d)] [(.int (0 : Int32)), (.ref a)]
    have f8 := (Fld.keep F1 K3 nin0)
    have f9 := (Exa.keep Ea K3)
    refine g_putF X7 hx hZ hown (hw _ (List.mem_of_getElem? (i := 25) rfl)) Via.refl e7 f8 f9 (Or.inr ⟨(hw _ (List.mem_of_getElem? (i := 21) rfl)), rfl, hnm⟩) (hw _ (List.mem_of_getElem? (i := 5) rfl)) (ty := .byte) (by decide) rfl rfl (hb hby d3_48) (pc' := 51) rfl ?_
    intro T10 h10 X10 e10 W10
    have A10 := wk X10 hx hby
    have F10 := Fld.same W10 f8
    have kp11 := Keep.wr kp4 W10 (Or.inl (List.mem_of_getElem? (i := 0) rfl))
    have fr11 := Fr.snoc X10 fr7 ga
    refine s_aloadN A10 d3_51 (pc' := 52) rfl rfl rfl ?_
    refine s_aload A10 d3_52 (pc' := 54) rfl rfl rfl ?_
    have f12 := (Fld.other W10 (Fld.keep F0 K3 nin0) (Or.inr (slot_ne (Or.inr (hw _ (List.mem_of_getElem? (i := 20) rfl))) (Or.inr (hw _ (List.mem_of_getElem? (i := 21) rfl))) (by decide) (t := (.array .byte)) (by decide) (t' := .byte) (by decide))))
    have f13 := (Exa.wr W10 f9)
    refine g_putF X10 hx hZ hown (hw _ (List.mem_of_getElem? (i := 24) rfl)) Via.refl e10 f12 f13 (Or.inr ⟨(hw _ (List.mem_of_getElem? (i := 20) rfl)), rfl, hnm⟩) (hw _ (List.mem_of_getElem? (i := 5) rfl)) (ty := (.array .byte)) (by decide) rfl rfl (hb hby d3_54) (pc' := 57) rfl ?_
    intro T14 h14 X14 e14 W14
    have A14 := wk X14 hx hby
    have F14 := Fld.same W14 f12
    have kp15 := Keep.wr kp11 W14 (Or.inl (List.mem_of_getElem? (i := 0) rfl))
    have fr15 := Fr.snoc X14 fr11 ga
    have f16 := (Fld.other W14 F10 (Or.inr (slot_ne (Or.inr (hw _ (List.mem_of_getElem? (i := 21) rfl))) (Or.inr (hw _ (List.mem_of_getElem? (i := 20) rfl))) (by decide) (t := .byte) (by decide) (t' := (.array .byte)) (by decide))))
    have f17 := (Ars.other W14 (Ars.other W10 Ar3 nad.symm) nad.symm)
    exact g_retV X14 hx hlk hret (hb hby d3_57) (by rw [e14]; exact ⟨rfl, fr15, kp15, d, F14, f16, f17, gd0⟩) (by decide) (by decide)
theorem ef_c_str_2 (m : MethodId) (x0 : Addr) (x1 : Addr) : entryFrame m #[(.ref x0), (.ref x1)] 2 = mkF m 0 #[.val (.ref x0), .val (.ref x1)] [] := by first | (simp [entryFrame, mkF, argsToLocals, Value.category, maxLocals]; done) | rfl
set_option maxRecDepth 65536 in
set_option maxHeartbeats 40000000 in
theorem c_str_2 (l : Launch) (Z : State) (a0 : Array Value) (hw : ∀ d ∈ tables_1, d.before a0 Z = true) (ws : List Jvm.Cond) (a ch : Addr) (cz : Int32) (c0 c1 : Int32) (h0 : Heap) (n0 : Nat) (Z0 : n0 ≤ h0.size) (Ea : Exa Z h0 a "java/lang/String") (ga : n0 ≤ a) (F0 : Fld Z h0 a "java/lang/String" "value" "[B" .null) (F1 : Fld Z h0 a "java/lang/String" "coder" "B" (.int 0)) (A : Ars Z h0 ch .char [(.int c0), (.int c1)]) (hne : a ≠ ch) (O : Old Z n0 h0) (S : Sta Z Z.heap "java/lang/String" "COMPACT_STRINGS" "Z" (.int cz)) (hcz : ¬ cz = 0) (C0 : 0 ≤ c0.toInt ∧ c0.toInt ≤ 255) (C1 : 0 ≤ c1.toInt ∧ c1.toInt ≤ 255) :
    Ctr l Z (⟨"java/lang/String", "<init>", "([C)V"⟩ : MethodName) jdk_42_method_3_code 2 none ws ({ frames := 3, cells := 1, slots := 2, locals := 52 } : Room) #[(.ref a), (.ref ch)] h0 (fun v h L => v = none ∧ Fr n0 L ∧ Keep h0 h [a] ∧ ∃ d, Fld Z h a "java/lang/String" "value" "[B" (.ref d) ∧ Fld Z h a "java/lang/String" "coder" "B" (.int 0) ∧ Ars Z h d .byte [(.int c0.toInt8.toInt32), (.int c1.toInt8.toInt32)] ∧ h0.size ≤ d) := by
  refine enter pn_2 ?_
  intro p e s m below meth c T0 X0 hx hby hml hret hlk hZ hown hnm e0
  have A0 := wk X0 hx hby
  have N0 := Fr.nil n0
  refine goIn (ef_c_str_2 m a ch) ?_
  show Go p e below m (Fini s 1 2 (fun v h L => v = none ∧ Fr n0 L ∧ Keep h0 h [a] ∧ ∃ d, Fld Z h a "java/lang/String" "value" "[B" (.ref d) ∧ Fld Z h a "java/lang/String" "coder" "B" (.int 0) ∧ Ars Z h d .byte [(.int c0.toInt8.toInt32), (.int c1.toInt8.toInt32)] ∧ h0.size ≤ d)) T0 0 #[.val (.ref a), .val (.ref ch)] []
  refine s_aloadN A0 d2_0 (pc' := 1) rfl rfl rfl ?_
  refine s_aloadN A0 d2_1 (pc' := 2) rfl rfl rfl ?_
  refine s_iconst A0 d2_2 (pc' := 3) rfl (v := (0 : Int32)) (by decide) ?_
  refine s_aloadN A0 d2_3 (pc' := 4) rfl rfl rfl ?_
  refine g_len X0 hx hZ e0 A (n := (2 : Int32)) rfl (hb hby d2_4) (pc' := 5) rfl ?_
  refine s_aconstNull A0 d2_5 (pc' := 6) rfl  ?_
  refine g_special X0 hx hZ (y := (⟨"java/lang/String", "<init>", "([CIILjava/lang/Void;)V"⟩ : MethodName)) rfl hown (hw _ (List.mem_of_getElem? (i := 11) rfl)) (hw _ (List.mem_of_getElem? (i := 12) rfl)) (hw _ (List.mem_of_getElem? (i := 6) rfl)) (hw _ (List.mem_of_getElem? (i := 14) rfl)) (by decide) (a := a) (argsL := [(.ref ch), (.int (0 : Int32)), (.int (2 : Int32)), .null]) (rest := []) (c_init4_2 l Z a0 hw [] a ch cz c0 c1 h0 n0 Z0 Ea ga F0 F1 A hne O S hcz C0 C1) pd_3 rfl rfl (hb hby d2_6) e0 (by rw [hml]; rfl) (pc' := 9) rfl (by decide) (W := 0) (Nat.le_of_eq rfl) (by decide) (by decide) (by decide) ?_
  intro v1 T1 L1 X1 hQ1
  have A1 := wk X1 hx hby
  have e1 : T1.heap = T1.heap := rfl
  obtain ⟨rfl, N1, K1, d, V1, C1, Ar1, gd1⟩ := hQ1
  have kp2 := Keep.trans (Keep.refl h0 [a]) K1 (allS (P := fun x => x ∈ [a] ∨ h0.size ≤ x) (Or.inl (List.mem_of_getElem? (i := 0) rfl)) all0)
  have fr1 := Fr.app N0 N1
  show Go p e below m (Fini s 1 2 (fun v h L => v = none ∧ Fr n0 L ∧ Keep h0 h [a] ∧ ∃ d, Fld Z h a "java/lang/String" "value" "[B" (.ref d) ∧ Fld Z h a "java/lang/String" "coder" "B" (.int 0) ∧ Ars Z h d .byte [(.int c0.toInt8.toInt32), (.int c1.toInt8.toInt32)] ∧ h0.size ≤ d)) T1 9 #[.val (.ref a), .val (.ref ch)] []
  exact g_retV X1 hx hlk hret (hb hby d2_9) (by exact ⟨rfl, fr1, K1, d, V1, C1, Ar1, gd1⟩) (by decide) (by decide)
theorem ef_c_init4_0 (m : MethodId) (x0 : Addr) (x1 : Addr) (x2 : Int32) (x3 : Int32) : entryFrame m #[(.ref x0), (.ref x1), (.int x2), (.int x3), .null] 6 = mkF m 0 #[.val (.ref x0), .val (.ref x1), .val (.int x2), .val (.int x3), .val .null, .unset] [] := by first | (simp [entryFrame, mkF, argsToLocals, Value.category, maxLocals]; done) | rfl
set_option maxRecDepth 65536 in
set_option maxHeartbeats 40000000 in
theorem c_init4_0 (l : Launch) (Z : State) (a0 : Array Value) (hw : ∀ d ∈ tables_1, d.before a0 Z = true) (ws : List Jvm.Cond) (a ch : Addr) (h0 : Heap) (n0 : Nat) (Z0 : n0 ≤ h0.size) (Ea : Exa Z h0 a "java/lang/String") (ga : n0 ≤ a) (F0 : Fld Z h0 a "java/lang/String" "value" "[B" .null) (F1 : Fld Z h0 a "java/lang/String" "coder" "B" (.int 0)) (hEL : EW Z a0 consts_1) :
    CtrH l Z consts_1 (⟨"java/lang/String", "<init>", "([CIILjava/lang/Void;)V"⟩ : MethodName) jdk_42_method_149_code 6 none ws ({ frames := 1, cells := 4, slots := 8, locals := 12 } : Room) #[(.ref a), (.ref ch), (.int (0 : Int32)), (.int (0 : Int32)), .null] h0 (fun v h L => v = none ∧ Fr n0 L ∧ Keep h0 h [a] ∧ ∃ d, Fld Z h a "java/lang/String" "value" "[B" (.ref d) ∧ Fld Z h a "java/lang/String" "coder" "B" (.int 0) ∧ Ars Z h d .byte []) := by
  refine enterH pn_3 ?_
  intro p e s m below meth c T0 X0 hx hby hml hret hlk hZ hown hnm e0 CH0 hS0
  have A0 := wk X0 hx hby
  have N0 := Fr.nil n0
  refine goIn (ef_c_init4_0 m a ch (0 : Int32) (0 : Int32)) ?_
  show Go p e below m (FinH Z consts_1 s h0 4 8 (fun v h L => v = none ∧ Fr n0 L ∧ Keep h0 h [a] ∧ ∃ d, Fld Z h a "java/lang/String" "value" "[B" (.ref d) ∧ Fld Z h a "java/lang/String" "coder" "B" (.int 0) ∧ Ars Z h d .byte [])) T0 0 #[.val (.ref a), .val (.ref ch), .val (.int (0 : Int32)), .val (.int (0 : Int32)), .val .null, .unset] []
  have sa0 : Safe Z consts_1 s.vm h0 a := Safe.null hZ.alike Ea F0
  refine s_aloadN A0 d3_0 (pc' := 1) rfl rfl rfl ?_
  refine g_initO X0 hx hZ hown (hw _ (List.mem_of_getElem? (i := 15) rfl)) (hw _ (List.mem_of_getElem? (i := 16) rfl)) (hw _ (List.mem_of_getElem? (i := 17) rfl)) e0 (by rw [hml]; rfl) (hb hby d3_1) (pc' := 4) rfl (by decide) (W := 0) (Nat.le_of_eq rfl) (by decide) ?_
  intro T1 X1 e1
  have A1 := wk X1 hx hby
  refine s_iloadN A1 d3_4 (pc' := 5) rfl rfl ?_
  refine s_ifne A1 d3_5 (pY := 27) (pN := 8) (by decide) (by decide) rfl (fun c => absurd c (by decide)) (fun _ => ?_)
  refine s_aloadN A1 d3_8 (pc' := 9) rfl rfl rfl ?_
  refine g_ldcR X1 hx hZ hown (hw _ (List.mem_of_getElem? (i := 18) rfl)) (own_sa hw) e1 hS0 (Nat.zero_le _) hEL CH0 (List.mem_of_getElem? (i := 0) rfl) (vs := []) (z := 0) own_mt (by decide) rfl (hb hby d3_9) (pc' := 11) rfl (n := 0) (by decide) (by decide) (by decide) (by decide) ?_
  intro a2 T2 h2 k2 b2 kb2 X2 e2 E2 hS2 hk2 hZ hown ch2 sx2 Ex2 Fc2 Fv2 Av2 nn2
  have A2 := wk X2 hx hby
  have sg2_0 := sx2 a Ea.lt sa0
  have kp3 := Keep.ext (Keep.refl h0 [a]) E2
  have Ab2 := Ars.empty Av2
  have nb2 := nn2 a sg2_0
  refine g_getF X2 hx hZ hown (hw _ (List.mem_of_getElem? (i := 24) rfl)) Via.refl e2 Fv2 (hb hby d3_11) (pc' := 14) rfl ?_
  intro T4 X4 e4
  have A4 := wk X4 hx hby
  have f5 := (Fld.ext E2 F0)
  have f6 := (Exa.ext E2 Ea)
  refine g_putF X4 hx hZ hown (hw _ (List.mem_of_getElem? (i := 24) rfl)) Via.refl e4 f5 f6 (Or.inr ⟨(hw _ (List.mem_of_getElem? (i := 20) rfl)), rfl, hnm⟩) (hw _ (List.mem_of_getElem? (i := 5) rfl)) (ty := (.array .byte)) (by decide) rfl rfl (hb hby d3_14) (pc' := 17) rfl ?_
  intro T7 h7 X7 e7 W7
  have A7 := wk X7 hx hby
  have F7 := Fld.same W7 f5
  have kp8 := Keep.wr kp3 W7 (Or.inl (List.mem_of_getElem? (i := 0) rfl))
  have fr8 := Fr.snoc X7 N0 ga
  have ch8 := CHr.trans ch2 (CHr.wr W7 sg2_0 ch2.1)
  have sf8_0 := Safe.wr W7 sg2_0 ch2.1 sg2_0
  refine s_aloadN A7 d3_17 (pc' := 18) rfl rfl rfl ?_
  have sz10 : h2.size ≤ h7.size := (Nat.le_of_eq (Wr.size W7).symm)
  refine g_ldcR X7 hx hZ hown (hw _ (List.mem_of_getElem? (i := 18) rfl)) (own_sa hw) e7 hS2 (Nat.le_trans hk2 sz10) hEL ch8 (List.mem_of_getElem? (i := 0) rfl) (vs := []) (z := 0) own_mt (by decide) rfl (hb hby d3_18) (pc' := 20) rfl (n := 0) (by decide) (by decide) (by decide) (by decide) ?_
  intro a9 T9 h9 k9 b9 kb9 X9 e9 E9 hS9 hk9 hZ hown ch9 sx9 Ex9 Fc9 Fv9 Av9 nn9
  have A9 := wk X9 hx hby
  have f11 := (Exa.wr W7 f6)
  have sg9_0 := sx9 a f11.lt sf8_0
  have kp12 := Keep.ext kp8 E9
  have Ab9 := Ars.empty Av9
  have nb9 := nn9 a sg9_0
  refine g_getF X9 hx hZ hown (hw _ (List.mem_of_getElem? (i := 25) rfl)) Via.refl e9 Fc9 (hb hby d3_20) (pc' := 23) rfl ?_
  intro T13 X13 e13
  have A13 := wk X13 hx hby
  have f14 := (Fld.ext E9 (Fld.other W7 (Fld.ext E2 F1) (Or.inr (slot_ne (Or.inr (hw _ (List.mem_of_getElem? (i := 21) rfl))) (Or.inr (hw _ (List.mem_of_getElem? (i := 20) rfl))) (by decide) (t := .byte) (by decide) (t' := (.array .byte)) (by decide)))))
  have f15 := (Exa.ext E9 f11)
  refine g_putF X13 hx hZ hown (hw _ (List.mem_of_getElem? (i := 25) rfl)) Via.refl e13 f14 f15 (Or.inr ⟨(hw _ (List.mem_of_getElem? (i := 21) rfl)), rfl, hnm⟩) (hw _ (List.mem_of_getElem? (i := 5) rfl)) (ty := .byte) (by decide) rfl rfl (hb hby d3_23) (pc' := 26) rfl ?_
  intro T16 h16 X16 e16 W16
  have A16 := wk X16 hx hby
  have F16 := Fld.same W16 f14
  have kp17 := Keep.wr kp12 W16 (Or.inl (List.mem_of_getElem? (i := 0) rfl))
  have fr17 := Fr.snoc X16 fr8 ga
  have ch17 := CHr.trans ch9 (CHr.wr W16 sg9_0 ch9.1)
  have sf17_0 := Safe.wr W16 sg9_0 ch9.1 sg9_0
  have f18 := (Fld.other W16 (Fld.ext E9 F7) (Or.inr (slot_ne (Or.inr (hw _ (List.mem_of_getElem? (i := 20) rfl))) (Or.inr (hw _ (List.mem_of_getElem? (i := 21) rfl))) (by decide) (t := (.array .byte)) (by decide) (t' := .byte) (by decide))))
  have f19 := (Ars.other W16 (Ars.ext E9 (Ars.other W7 Ab2 nb2.2.symm)) nb2.2.symm)
  have sz20 : h9.size ≤ h16.size := (Nat.le_of_eq (Wr.size W16).symm)
  exact h_retV X16 hx hZ hlk hS9 e16 (Nat.le_trans hk9 sz20) hEL ch17 hret (hb hby d3_26) (by rw [e16]; exact ⟨rfl, fr17, kp17, b2, f18, F16, f19⟩) (by decide) (by decide)
theorem ef_c_str_0 (m : MethodId) (x0 : Addr) (x1 : Addr) : entryFrame m #[(.ref x0), (.ref x1)] 2 = mkF m 0 #[.val (.ref x0), .val (.ref x1)] [] := by first | (simp [entryFrame, mkF, argsToLocals, Value.category, maxLocals]; done) | rfl
set_option maxRecDepth 65536 in
set_option maxHeartbeats 40000000 in
theorem c_str_0 (l : Launch) (Z : State) (a0 : Array Value) (hw : ∀ d ∈ tables_1, d.before a0 Z = true) (ws : List Jvm.Cond) (a ch : Addr) (h0 : Heap) (n0 : Nat) (Z0 : n0 ≤ h0.size) (Ea : Exa Z h0 a "java/lang/String") (ga : n0 ≤ a) (F0 : Fld Z h0 a "java/lang/String" "value" "[B" .null) (F1 : Fld Z h0 a "java/lang/String" "coder" "B" (.int 0)) (A : Ars Z h0 ch .char []) (hEL : EW Z a0 consts_1) :
    CtrH l Z consts_1 (⟨"java/lang/String", "<init>", "([C)V"⟩ : MethodName) jdk_42_method_3_code 2 none ws ({ frames := 2, cells := 4, slots := 8, locals := 29 } : Room) #[(.ref a), (.ref ch)] h0 (fun v h L => v = none ∧ Fr n0 L ∧ Keep h0 h [a] ∧ ∃ d, Fld Z h a "java/lang/String" "value" "[B" (.ref d) ∧ Fld Z h a "java/lang/String" "coder" "B" (.int 0) ∧ Ars Z h d .byte []) := by
  refine enterH pn_2 ?_
  intro p e s m below meth c T0 X0 hx hby hml hret hlk hZ hown hnm e0 CH0 hS0
  have A0 := wk X0 hx hby
  have N0 := Fr.nil n0
  refine goIn (ef_c_str_0 m a ch) ?_
  show Go p e below m (FinH Z consts_1 s h0 4 8 (fun v h L => v = none ∧ Fr n0 L ∧ Keep h0 h [a] ∧ ∃ d, Fld Z h a "java/lang/String" "value" "[B" (.ref d) ∧ Fld Z h a "java/lang/String" "coder" "B" (.int 0) ∧ Ars Z h d .byte [])) T0 0 #[.val (.ref a), .val (.ref ch)] []
  refine s_aloadN A0 d2_0 (pc' := 1) rfl rfl rfl ?_
  refine s_aloadN A0 d2_1 (pc' := 2) rfl rfl rfl ?_
  refine s_iconst A0 d2_2 (pc' := 3) rfl (v := (0 : Int32)) (by decide) ?_
  refine s_aloadN A0 d2_3 (pc' := 4) rfl rfl rfl ?_
  refine g_len X0 hx hZ e0 A (n := (0 : Int32)) rfl (hb hby d2_4) (pc' := 5) rfl ?_
  refine s_aconstNull A0 d2_5 (pc' := 6) rfl  ?_
  refine g_specialH X0 hx hZ (y := (⟨"java/lang/String", "<init>", "([CIILjava/lang/Void;)V"⟩ : MethodName)) rfl hown (hw _ (List.mem_of_getElem? (i := 11) rfl)) (hw _ (List.mem_of_getElem? (i := 12) rfl)) (hw _ (List.mem_of_getElem? (i := 6) rfl)) (hw _ (List.mem_of_getElem? (i := 14) rfl)) (by decide) hS0 (Nat.zero_le _) hEL CH0 (a := a) (argsL := [(.ref ch), (.int (0 : Int32)), (.int (0 : Int32)), .null]) (rest := []) (c_init4_0 l Z a0 hw [] a ch h0 n0 Z0 Ea ga F0 F1 hEL) pd_3 rfl rfl (hb hby d2_6) e0 (by rw [hml]; rfl) (pc' := 9) rfl (by decide) (W := 0) (Nat.le_of_eq rfl) (by decide) (by decide) (by decide) ?_
  intro v1 T1 L1 X1 hS1 hZ hown ch1 sx1 hQ1
  have A1 := wk X1 hx hby
  have e1 : T1.heap = T1.heap := rfl
  obtain ⟨rfl, N1, K1, d, V1, C1, Ar1⟩ := hQ1
  have kp2 := Keep.trans (Keep.refl h0 [a]) K1 (allS (P := fun x => x ∈ [a] ∨ h0.size ≤ x) (Or.inl (List.mem_of_getElem? (i := 0) rfl)) all0)
  have fr1 := Fr.app N0 N1
  show Go p e below m (FinH Z consts_1 s h0 4 8 (fun v h L => v = none ∧ Fr n0 L ∧ Keep h0 h [a] ∧ ∃ d, Fld Z h a "java/lang/String" "value" "[B" (.ref d) ∧ Fld Z h a "java/lang/String" "coder" "B" (.int 0) ∧ Ars Z h d .byte [])) T1 9 #[.val (.ref a), .val (.ref ch)] []
  exact h_retV X1 hx hZ hlk hS1 e1 (Nat.le_refl _) hEL ch1 hret (hb hby d2_9) (by exact ⟨rfl, fr1, K1, d, V1, C1, Ar1⟩) (by decide) (by decide)
theorem d1_0 : decode method_3_code 0 = .ok (.iload_n 0, 1) := by decide +kernel
theorem d1_1 : decode method_3_code 1 = .ok (.ifCond .ne 14, 3) := by decide +kernel
theorem d1_4 : decode method_3_code 4 = .ok (.new 25, 3) := by decide +kernel
theorem d1_7 : decode method_3_code 7 = .ok (.dup, 1) := by decide +kernel
theorem d1_8 : decode method_3_code 8 = .ok (.iconst 0, 1) := by decide +kernel
theorem d1_9 : decode method_3_code 9 = .ok (.newarray .char, 2) := by decide +kernel
theorem d1_11 : decode method_3_code 11 = .ok (.invokespecial 27, 3) := by decide +kernel
theorem d1_14 : decode method_3_code 14 = .ok (.areturn, 1) := by decide +kernel
theorem d1_15 : decode method_3_code 15 = .ok (.iload_n 0, 1) := by decide +kernel
theorem d1_16 : decode method_3_code 16 = .ok (.iconst 1, 1) := by decide +kernel
theorem d1_17 : decode method_3_code 17 = .ok (.if_icmp .ne 18, 3) := by decide +kernel
theorem d1_20 : decode method_3_code 20 = .ok (.new 25, 3) := by decide +kernel
theorem d1_23 : decode method_3_code 23 = .ok (.dup, 1) := by decide +kernel
theorem d1_24 : decode method_3_code 24 = .ok (.iconst 1, 1) := by decide +kernel
theorem d1_25 : decode method_3_code 25 = .ok (.newarray .char, 2) := by decide +kernel
theorem d1_27 : decode method_3_code 27 = .ok (.dup, 1) := by decide +kernel
theorem d1_28 : decode method_3_code 28 = .ok (.iconst 0, 1) := by decide +kernel
theorem d1_29 : decode method_3_code 29 = .ok (.iload_n 1, 1) := by decide +kernel
theorem d1_30 : decode method_3_code 30 = .ok (.castore, 1) := by decide +kernel
theorem d1_31 : decode method_3_code 31 = .ok (.invokespecial 27, 3) := by decide +kernel
theorem d1_34 : decode method_3_code 34 = .ok (.areturn, 1) := by decide +kernel
theorem d1_35 : decode method_3_code 35 = .ok (.new 25, 3) := by decide +kernel
theorem d1_38 : decode method_3_code 38 = .ok (.dup, 1) := by decide +kernel
theorem d1_39 : decode method_3_code 39 = .ok (.iconst 2, 1) := by decide +kernel
theorem d1_40 : decode method_3_code 40 = .ok (.newarray .char, 2) := by decide +kernel
theorem d1_42 : decode method_3_code 42 = .ok (.dup, 1) := by decide +kernel
theorem d1_43 : decode method_3_code 43 = .ok (.iconst 0, 1) := by decide +kernel
theorem d1_44 : decode method_3_code 44 = .ok (.iload_n 1, 1) := by decide +kernel
theorem d1_45 : decode method_3_code 45 = .ok (.castore, 1) := by decide +kernel
theorem d1_46 : decode method_3_code 46 = .ok (.dup, 1) := by decide +kernel
theorem d1_47 : decode method_3_code 47 = .ok (.iconst 1, 1) := by decide +kernel
theorem d1_48 : decode method_3_code 48 = .ok (.iload_n 2, 1) := by decide +kernel
theorem d1_49 : decode method_3_code 49 = .ok (.castore, 1) := by decide +kernel
theorem d1_50 : decode method_3_code 50 = .ok (.invokespecial 27, 3) := by decide +kernel
theorem d1_53 : decode method_3_code 53 = .ok (.areturn, 1) := by decide +kernel
theorem ef_c_make_0 (m : MethodId) (x0 : Int32) (x1 : Int32) (x2 : Int32) : entryFrame m #[(.int x0), (.int x1), (.int x2)] 3 = mkF m 0 #[.val (.int x0), .val (.int x1), .val (.int x2)] [] := by first | (simp [entryFrame, mkF, argsToLocals, Value.category, maxLocals]; done) | rfl
set_option maxRecDepth 65536 in
set_option maxHeartbeats 40000000 in
theorem c_make_0 (l : Launch) (Z : State) (a0 : Array Value) (hw : ∀ d ∈ tables_1, d.before a0 Z = true) (ws : List Jvm.Cond) (cz c0 c1 : Int32) (h0 : Heap) (n0 : Nat) (Z0 : n0 ≤ h0.size) (O : Old Z n0 h0) (SC : Sta Z Z.heap "java/lang/String" "COMPACT_STRINGS" "Z" (.int cz)) (hcz : ¬ cz = 0) (C0 : 0 ≤ c0.toInt ∧ c0.toInt ≤ 255) (C1 : 0 ≤ c1.toInt ∧ c1.toInt ≤ 255) (hEL : EW Z a0 consts_1) :
    CtrH l Z consts_1 (⟨"com/example/prox2/prox2/format/RunOrderComparePinLaw", "make", "(ICC)Ljava/lang/String;"⟩ : MethodName) method_3_code 3 (some (.object "java/lang/String")) ws ({ frames := 3, cells := 6, slots := 12, locals := 43 } : Room) #[(.int (0 : Int32)), (.int c0), (.int c1)] h0 (fun v h L => ∃ a d, v = some (.ref a) ∧ Fr n0 L ∧ Keep h0 h [] ∧ Exa Z h a "java/lang/String" ∧ Fld Z h a "java/lang/String" "value" "[B" (.ref d) ∧ Fld Z h a "java/lang/String" "coder" "B" (.int 0) ∧ Ars Z h d .byte []) := by
  refine enterH pn_1 ?_
  intro p e s m below meth c T0 X0 hx hby hml hret hlk hZ hown hnm e0 CH0 hS0
  have A0 := wk X0 hx hby
  have N0 := Fr.nil n0
  refine goIn (ef_c_make_0 m (0 : Int32) c0 c1) ?_
  show Go p e below m (FinH Z consts_1 s h0 6 12 (fun v h L => ∃ a d, v = some (.ref a) ∧ Fr n0 L ∧ Keep h0 h [] ∧ Exa Z h a "java/lang/String" ∧ Fld Z h a "java/lang/String" "value" "[B" (.ref d) ∧ Fld Z h a "java/lang/String" "coder" "B" (.int 0) ∧ Ars Z h d .byte [])) T0 0 #[.val (.int (0 : Int32)), .val (.int c0), .val (.int c1)] []
  refine s_iloadN A0 d1_0 (pc' := 1) rfl rfl ?_
  refine s_ifne A0 d1_1 (pY := 15) (pN := 4) (by decide) (by decide) rfl (fun c => absurd c (by decide)) (fun _ => ?_)
  refine g_new X0 hx hZ hown (hw _ (List.mem_of_getElem? (i := 4) rfl)) (hw _ (List.mem_of_getElem? (i := 5) rfl)) (hw _ (List.mem_of_getElem? (i := 6) rfl)) e0 (hb hby d1_4) (pc' := 7) rfl (by decide) (by decide) ?_
  intro T1 h1 a1 X1 e1 E1 ga1 Ex1 D1
  have A1 := wk X1 hx hby
  have la2 : a1 < h1.size := Ex1.lt
  have kp3 := Keep.ext (Keep.refl h0 []) E1
  have ch3 := CHr.trans CH0 (CHr.ext E1 CH0.1)
  have F1f0 : Fld Z h1 a1 "java/lang/String" "value" "[B" .null := D1 (Or.inr (hw _ (List.mem_of_getElem? (i := 20) rfl))) (ty := (.array .byte)) (by decide)
  have F1f1 : Fld Z h1 a1 "java/lang/String" "coder" "B" (.int 0) := D1 (Or.inr (hw _ (List.mem_of_getElem? (i := 21) rfl))) (ty := .byte) (by decide)
  refine s_dup A1 d1_7 (pc' := 8) rfl rfl ?_
  refine s_iconst A1 d1_8 (pc' := 9) rfl (v := (0 : Int32)) (by decide) ?_
  refine g_newarray X1 hx hZ e1 (hw _ (List.mem_of_getElem? (i := 7) rfl)) (by decide) (k0 := 0) (by decide) (by decide) (by decide) (by decide) (ad := "[C") (by decide) rfl (hb hby d1_9) (pc' := 11) rfl ?_
  intro T4 h4 a4 X4 e4 E4 ga4 Ar4 Ex4
  have A4 := wk X4 hx hby
  have Ar4 : Ars Z h4 a4 .char [] := Ar4
  have la5 : a4 < h4.size := Ex4.lt
  have kp6 := Keep.ext kp3 E4
  have ch6 := CHr.trans ch3 (CHr.ext E4 ch3.1)
  have f7 := (Exa.ext E4 Ex1)
  have f8 := (Fld.ext E4 F1f0)
  have f9 := (Fld.ext E4 F1f1)
  have ge11 : h0.size ≤ a1 := by rw [ga1]; exact (Nat.le_refl _)
  have gn10 : n0 ≤ a1 := Nat.le_trans Z0 ge11
  have sz14 : h0.size ≤ h4.size := (Nat.le_trans E1.1 E4.1)
  have zs13 : n0 ≤ h4.size := Nat.le_trans Z0 sz14
  refine g_specialH X4 hx hZ (y := (⟨"java/lang/String", "<init>", "([C)V"⟩ : MethodName)) rfl hown (hw _ (List.mem_of_getElem? (i := 8) rfl)) (hw _ (List.mem_of_getElem? (i := 9) rfl)) (hw _ (List.mem_of_getElem? (i := 6) rfl)) (hw _ (List.mem_of_getElem? (i := 10) rfl)) (by decide) hS0 (Nat.zero_le _) hEL ch6 (a := a1) (argsL := [(.ref a4)]) (rest := [(.ref a1)]) (c_str_0 l Z a0 hw [] a1 a4 h4 n0 zs13 f7 gn10 f8 f9 Ar4 hEL) pd_4 rfl rfl (hb hby d1_11) e4 (by rw [hml]; rfl) (pc' := 14) rfl (by decide) (W := 1) (Nat.le_of_eq rfl) (by decide) (by decide) (by decide) ?_
  intro v12 T12 L12 X12 hS12 hZ hown ch12 sx12 hQ12
  have A12 := wk X12 hx hby
  have e12 : T12.heap = T12.heap := rfl
  obtain ⟨rfl, N12, K12, d12, V12, C12, Ar12⟩ := hQ12
  have kp15 := Keep.trans kp6 K12 (allS (P := fun x => x ∈ [] ∨ h0.size ≤ x) (Or.inr ge11) all0)
  have fr12 := Fr.app N0 N12
  show Go p e below m (FinH Z consts_1 s h0 6 12 (fun v h L => ∃ a d, v = some (.ref a) ∧ Fr n0 L ∧ Keep h0 h [] ∧ Exa Z h a "java/lang/String" ∧ Fld Z h a "java/lang/String" "value" "[B" (.ref d) ∧ Fld Z h a "java/lang/String" "coder" "B" (.int 0) ∧ Ars Z h d .byte [])) T12 14 #[.val (.int (0 : Int32)), .val (.int c0), .val (.int c1)] [(.ref a1)]
  have f16 := (Exa.keep f7 K12)
  exact h_ret X12 hx hZ hlk hS12 e12 (Nat.le_refl _) hEL ch12 hret rfl (Or.inr (Or.inr (Or.inr (Or.inr ⟨rfl, rfl, rfl⟩)))) (hb hby d1_14) (by rw [e12]; exact ⟨_, _, rfl, fr12, kp15, f16, V12, C12, Ar12⟩) (by decide) (by decide)
theorem ef_c_make_1 (m : MethodId) (x0 : Int32) (x1 : Int32) (x2 : Int32) : entryFrame m #[(.int x0), (.int x1), (.int x2)] 3 = mkF m 0 #[.val (.int x0), .val (.int x1), .val (.int x2)] [] := by first | (simp [entryFrame, mkF, argsToLocals, Value.category, maxLocals]; done) | rfl
set_option maxRecDepth 65536 in
set_option maxHeartbeats 40000000 in
theorem c_make_1 (l : Launch) (Z : State) (a0 : Array Value) (hw : ∀ d ∈ tables_1, d.before a0 Z = true) (ws : List Jvm.Cond) (cz c0 c1 : Int32) (h0 : Heap) (n0 : Nat) (Z0 : n0 ≤ h0.size) (O : Old Z n0 h0) (SC : Sta Z Z.heap "java/lang/String" "COMPACT_STRINGS" "Z" (.int cz)) (hcz : ¬ cz = 0) (C0 : 0 ≤ c0.toInt ∧ c0.toInt ≤ 255) (C1 : 0 ≤ c1.toInt ∧ c1.toInt ≤ 255) (hEL : EW Z a0 consts_1) :
    CtrH l Z consts_1 (⟨"com/example/prox2/prox2/format/RunOrderComparePinLaw", "make", "(ICC)Ljava/lang/String;"⟩ : MethodName) method_3_code 3 (some (.object "java/lang/String")) ws ({ frames := 4, cells := 3, slots := 6, locals := 66 } : Room) #[(.int (1 : Int32)), (.int c0), (.int c1)] h0 (fun v h L => ∃ a d, v = some (.ref a) ∧ Fr n0 L ∧ Keep h0 h [] ∧ Exa Z h a "java/lang/String" ∧ Fld Z h a "java/lang/String" "value" "[B" (.ref d) ∧ Fld Z h a "java/lang/String" "coder" "B" (.int 0) ∧ Ars Z h d .byte [(.int c0.toInt8.toInt32)]) := by
  refine enterH pn_1 ?_
  intro p e s m below meth c T0 X0 hx hby hml hret hlk hZ hown hnm e0 CH0 hS0
  have A0 := wk X0 hx hby
  have N0 := Fr.nil n0
  refine goIn (ef_c_make_1 m (1 : Int32) c0 c1) ?_
  show Go p e below m (FinH Z consts_1 s h0 3 6 (fun v h L => ∃ a d, v = some (.ref a) ∧ Fr n0 L ∧ Keep h0 h [] ∧ Exa Z h a "java/lang/String" ∧ Fld Z h a "java/lang/String" "value" "[B" (.ref d) ∧ Fld Z h a "java/lang/String" "coder" "B" (.int 0) ∧ Ars Z h d .byte [(.int c0.toInt8.toInt32)])) T0 0 #[.val (.int (1 : Int32)), .val (.int c0), .val (.int c1)] []
  refine s_iloadN A0 d1_0 (pc' := 1) rfl rfl ?_
  refine s_ifne A0 d1_1 (pY := 15) (pN := 4) (by decide) (by decide) rfl (fun _ => ?_) (fun c => absurd c (by decide))
  refine s_iloadN A0 d1_15 (pc' := 16) rfl rfl ?_
  refine s_iconst A0 d1_16 (pc' := 17) rfl (v := (1 : Int32)) (by decide) ?_
  refine s_icmpne A0 d1_17 (pY := 35) (pN := 20) (by decide) (by decide) rfl (fun c => absurd c (by decide)) (fun _ => ?_)
  refine g_new X0 hx hZ hown (hw _ (List.mem_of_getElem? (i := 4) rfl)) (hw _ (List.mem_of_getElem? (i := 5) rfl)) (hw _ (List.mem_of_getElem? (i := 6) rfl)) e0 (hb hby d1_20) (pc' := 23) rfl (by decide) (by decide) ?_
  intro T1 h1 a1 X1 e1 E1 ga1 Ex1 D1
  have A1 := wk X1 hx hby
  have la2 : a1 < h1.size := Ex1.lt
  have kp3 := Keep.ext (Keep.refl h0 []) E1
  have ch3 := CHr.trans CH0 (CHr.ext E1 CH0.1)
  have F1f0 : Fld Z h1 a1 "java/lang/String" "value" "[B" .null := D1 (Or.inr (hw _ (List.mem_of_getElem? (i := 20) rfl))) (ty := (.array .byte)) (by decide)
  have F1f1 : Fld Z h1 a1 "java/lang/String" "coder" "B" (.int 0) := D1 (Or.inr (hw _ (List.mem_of_getElem? (i := 21) rfl))) (ty := .byte) (by decide)
  refine s_dup A1 d1_23 (pc' := 24) rfl rfl ?_
  refine s_iconst A1 d1_24 (pc' := 25) rfl (v := (1 : Int32)) (by decide) ?_
  refine g_newarray X1 hx hZ e1 (hw _ (List.mem_of_getElem? (i := 7) rfl)) (by decide) (k0 := 1) (by decide) (by decide) (by decide) (by decide) (ad := "[C") (by decide) rfl (hb hby d1_25) (pc' := 27) rfl ?_
  intro T4 h4 a4 X4 e4 E4 ga4 Ar4 Ex4
  have A4 := wk X4 hx hby
  have Ar4 : Ars Z h4 a4 .char [(.int 0)] := Ar4
  have la5 : a4 < h4.size := Ex4.lt
  have kp6 := Keep.ext kp3 E4
  have ch6 := CHr.trans ch3 (CHr.ext E4 ch3.1)
  refine s_dup A4 d1_27 (pc' := 28) rfl rfl ?_
  refine s_iconst A4 d1_28 (pc' := 29) rfl (v := (0 : Int32)) (by decide) ?_
  refine s_iloadN A4 d1_29 (pc' := 30) rfl rfl ?_
  refine g_castore X4 hx hZ e4 Ar4 (by decide) (i := 0) (by decide) (by simp) (v := (.int c0)) (congrArg Value.int (own_i2c (z := c0) (by omega))) (hb hby d1_30) (pc' := 31) rfl ?_
  intro T7 h7 X7 e7 W7 Ar7
  have A7 := wk X7 hx hby
  have Ar7 : Ars Z h7 a4 .char [(.int c0)] := Ar7
  have sz10 : h0.size ≤ h1.size := E1.1
  have ge9 : h0.size ≤ a4 := by rw [ga4]; exact sz10
  have gn8 : n0 ≤ a4 := Nat.le_trans Z0 ge9
  have kp11 := Keep.wr kp6 W7 (Or.inr ge9)
  have fr11 := Fr.snoc X7 N0 gn8
  have ch11 := CHr.trans ch6 (CHr.wr W7 (Ars.safe hZ.alike Ar4 (by decide)) ch6.1)
  have f12 := (Exa.wr W7 (Exa.ext E4 Ex1))
  have ne13 : a1 ≠ a4 := by rw [ga4]; exact Nat.ne_of_lt (Nat.lt_of_lt_of_le la2 (Nat.le_refl _))
  have f14 := (Fld.other W7 (Fld.ext E4 F1f0) (Or.inl ne13))
  have f15 := (Fld.other W7 (Fld.ext E4 F1f1) (Or.inl ne13))
  have ge17 : h0.size ≤ a1 := by rw [ga1]; exact (Nat.le_refl _)
  have gn16 : n0 ≤ a1 := Nat.le_trans Z0 ge17
  have f18 := (Old.wr (Old.ext' E4 (Old.ext' E1 O)) W7 gn8)
  have sz20 : h0.size ≤ h7.size := (Nat.le_trans (Nat.le_trans sz10 E4.1) (Nat.le_of_eq (Wr.size W7).symm))
  have zs19 : n0 ≤ h7.size := Nat.le_trans Z0 sz20
  refine g_special X7 hx hZ (y := (⟨"java/lang/String", "<init>", "([C)V"⟩ : MethodName)) rfl hown (hw _ (List.mem_of_getElem? (i := 8) rfl)) (hw _ (List.mem_of_getElem? (i := 9) rfl)) (hw _ (List.mem_of_getElem? (i := 6) rfl)) (hw _ (List.mem_of_getElem? (i := 10) rfl)) (by decide) (a := a1) (argsL := [(.ref a4)]) (rest := [(.ref a1)]) (c_str_1 l Z a0 hw [] a1 a4 cz c0 h7 n0 zs19 f12 gn16 f14 f15 Ar7 ne13 f18 SC hcz (by omega)) pd_4 rfl rfl (hb hby d1_31) e7 (by rw [hml]; rfl) (pc' := 34) rfl (by decide) (W := 1) (Nat.le_of_eq rfl) (by decide) (by decide) (by decide) ?_
  intro v21 T21 L21 X21 hQ21
  have A21 := wk X21 hx hby
  have e21 : T21.heap = T21.heap := rfl
  obtain ⟨rfl, N21, K21, d21, V21, C21, Ar21, gd21⟩ := hQ21
  have kp22 := Keep.trans kp11 K21 (allS (P := fun x => x ∈ [] ∨ h0.size ≤ x) (Or.inr ge17) all0)
  have ch22 := CHr.trans ch11 (CHr.keep K21 (allS (P := fun x => Safe Z consts_1 s.vm h7 x) (Safe.null hZ.alike f12 f14) all0) ch11.1)
  have fr21 := Fr.app fr11 N21
  show Go p e below m (FinH Z consts_1 s h0 3 6 (fun v h L => ∃ a d, v = some (.ref a) ∧ Fr n0 L ∧ Keep h0 h [] ∧ Exa Z h a "java/lang/String" ∧ Fld Z h a "java/lang/String" "value" "[B" (.ref d) ∧ Fld Z h a "java/lang/String" "coder" "B" (.int 0) ∧ Ars Z h d .byte [(.int c0.toInt8.toInt32)])) T21 34 #[.val (.int (1 : Int32)), .val (.int c0), .val (.int c1)] [(.ref a1)]
  have f23 := (Exa.keep f12 K21)
  exact h_ret X21 hx hZ hlk hS0 e21 (Nat.zero_le _) hEL ch22 hret rfl (Or.inr (Or.inr (Or.inr (Or.inr ⟨rfl, rfl, rfl⟩)))) (hb hby d1_34) (by rw [e21]; exact ⟨_, _, rfl, fr21, kp22, f23, V21, C21, Ar21⟩) (by decide) (by decide)
theorem ef_c_make_2 (m : MethodId) (x0 : Int32) (x1 : Int32) (x2 : Int32) : entryFrame m #[(.int x0), (.int x1), (.int x2)] 3 = mkF m 0 #[.val (.int x0), .val (.int x1), .val (.int x2)] [] := by first | (simp [entryFrame, mkF, argsToLocals, Value.category, maxLocals]; done) | rfl
set_option maxRecDepth 65536 in
set_option maxHeartbeats 40000000 in
theorem c_make_2 (l : Launch) (Z : State) (a0 : Array Value) (hw : ∀ d ∈ tables_1, d.before a0 Z = true) (ws : List Jvm.Cond) (cz c0 c1 : Int32) (h0 : Heap) (n0 : Nat) (Z0 : n0 ≤ h0.size) (O : Old Z n0 h0) (SC : Sta Z Z.heap "java/lang/String" "COMPACT_STRINGS" "Z" (.int cz)) (hcz : ¬ cz = 0) (C0 : 0 ≤ c0.toInt ∧ c0.toInt ≤ 255) (C1 : 0 ≤ c1.toInt ∧ c1.toInt ≤ 255) (hEL : EW Z a0 consts_1) :
    CtrH l Z consts_1 (⟨"com/example/prox2/prox2/format/RunOrderComparePinLaw", "make", "(ICC)Ljava/lang/String;"⟩ : MethodName) method_3_code 3 (some (.object "java/lang/String")) ws ({ frames := 4, cells := 3, slots := 8, locals := 66 } : Room) #[(.int (2 : Int32)), (.int c0), (.int c1)] h0 (fun v h L => ∃ a d, v = some (.ref a) ∧ Fr n0 L ∧ Keep h0 h [] ∧ Exa Z h a "java/lang/String" ∧ Fld Z h a "java/lang/String" "value" "[B" (.ref d) ∧ Fld Z h a "java/lang/String" "coder" "B" (.int 0) ∧ Ars Z h d .byte [(.int c0.toInt8.toInt32), (.int c1.toInt8.toInt32)]) := by
  refine enterH pn_1 ?_
  intro p e s m below meth c T0 X0 hx hby hml hret hlk hZ hown hnm e0 CH0 hS0
  have A0 := wk X0 hx hby
  have N0 := Fr.nil n0
  refine goIn (ef_c_make_2 m (2 : Int32) c0 c1) ?_
  show Go p e below m (FinH Z consts_1 s h0 3 8 (fun v h L => ∃ a d, v = some (.ref a) ∧ Fr n0 L ∧ Keep h0 h [] ∧ Exa Z h a "java/lang/String" ∧ Fld Z h a "java/lang/String" "value" "[B" (.ref d) ∧ Fld Z h a "java/lang/String" "coder" "B" (.int 0) ∧ Ars Z h d .byte [(.int c0.toInt8.toInt32), (.int c1.toInt8.toInt32)])) T0 0 #[.val (.int (2 : Int32)), .val (.int c0), .val (.int c1)] []
  refine s_iloadN A0 d1_0 (pc' := 1) rfl rfl ?_
  refine s_ifne A0 d1_1 (pY := 15) (pN := 4) (by decide) (by decide) rfl (fun _ => ?_) (fun c => absurd c (by decide))
  refine s_iloadN A0 d1_15 (pc' := 16) rfl rfl ?_
  refine s_iconst A0 d1_16 (pc' := 17) rfl (v := (1 : Int32)) (by decide) ?_
  refine s_icmpne A0 d1_17 (pY := 35) (pN := 20) (by decide) (by decide) rfl (fun _ => ?_) (fun c => absurd c (by decide))
  refine g_new X0 hx hZ hown (hw _ (List.mem_of_getElem? (i := 4) rfl)) (hw _ (List.mem_of_getElem? (i := 5) rfl)) (hw _ (List.mem_of_getElem? (i := 6) rfl)) e0 (hb hby d1_35) (pc' := 38) rfl (by decide) (by decide) ?_
  intro T1 h1 a1 X1 e1 E1 ga1 Ex1 D1
  have A1 := wk X1 hx hby
  have la2 : a1 < h1.size := Ex1.lt
  have kp3 := Keep.ext (Keep.refl h0 []) E1
  have ch3 := CHr.trans CH0 (CHr.ext E1 CH0.1)
  have F1f0 : Fld Z h1 a1 "java/lang/String" "value" "[B" .null := D1 (Or.inr (hw _ (List.mem_of_getElem? (i := 20) rfl))) (ty := (.array .byte)) (by decide)
  have F1f1 : Fld Z h1 a1 "java/lang/String" "coder" "B" (.int 0) := D1 (Or.inr (hw _ (List.mem_of_getElem? (i := 21) rfl))) (ty := .byte) (by decide)
  refine s_dup A1 d1_38 (pc' := 39) rfl rfl ?_
  refine s_iconst A1 d1_39 (pc' := 40) rfl (v := (2 : Int32)) (by decide) ?_
  refine g_newarray X1 hx hZ e1 (hw _ (List.mem_of_getElem? (i := 7) rfl)) (by decide) (k0 := 2) (by decide) (by decide) (by decide) (by decide) (ad := "[C") (by decide) rfl (hb hby d1_40) (pc' := 42) rfl ?_
  intro T4 h4 a4 X4 e4 E4 ga4 Ar4 Ex4
  have A4 := wk X4 hx hby
  have Ar4 : Ars Z h4 a4 .char [(.int 0), (.int 0)] := Ar4
  have la5 : a4 < h4.size := Ex4.lt
  have kp6 := Keep.ext kp3 E4
  have ch6 := CHr.trans ch3 (CHr.ext E4 ch3.1)
  refine s_dup A4 d1_42 (pc' := 43) rfl rfl ?_
  refine s_iconst A4 d1_43 (pc' := 44) rfl (v := (0 : Int32)) (by decide) ?_
  refine s_iloadN A4 d1_44 (pc' := 45) rfl rfl ?_
  refine g_castore X4 hx hZ e4 Ar4 (by decide) (i := 0) (by decide) (by simp) (v := (.int c0)) (congrArg Value.int (own_i2c (z := c0) (by omega))) (hb hby d1_45) (pc' := 46) rfl ?_
  intro T7 h7 X7 e7 W7 Ar7
  have A7 := wk X7 hx hby
  have Ar7 : Ars Z h7 a4 .char [(.int c0), (.int 0)] := Ar7
  have sz10 : h0.size ≤ h1.size := E1.1
  have ge9 : h0.size ≤ a4 := by rw [ga4]; exact sz10
  have gn8 : n0 ≤ a4 := Nat.le_trans Z0 ge9
  have kp11 := Keep.wr kp6 W7 (Or.inr ge9)
  have fr11 := Fr.snoc X7 N0 gn8
  have ch11 := CHr.trans ch6 (CHr.wr W7 (Ars.safe hZ.alike Ar4 (by decide)) ch6.1)
  refine s_dup A7 d1_46 (pc' := 47) rfl rfl ?_
  refine s_iconst A7 d1_47 (pc' := 48) rfl (v := (1 : Int32)) (by decide) ?_
  refine s_iloadN A7 d1_48 (pc' := 49) rfl rfl ?_
  refine g_castore X7 hx hZ e7 Ar7 (by decide) (i := 1) (by decide) (by simp) (v := (.int c1)) (congrArg Value.int (own_i2c (z := c1) (by omega))) (hb hby d1_49) (pc' := 50) rfl ?_
  intro T12 h12 X12 e12 W12 Ar12
  have A12 := wk X12 hx hby
  have Ar12 : Ars Z h12 a4 .char [(.int c0), (.int c1)] := Ar12
  have kp13 := Keep.wr kp11 W12 (Or.inr ge9)
  have fr13 := Fr.snoc X12 fr11 gn8
  have ch13 := CHr.trans ch11 (CHr.wr W12 (Ars.safe hZ.alike Ar7 (by decide)) ch11.1)
  have f14 := (Exa.wr W12 (Exa.wr W7 (Exa.ext E4 Ex1)))
  have ne15 : a1 ≠ a4 := by rw [ga4]; exact Nat.ne_of_lt (Nat.lt_of_lt_of_le la2 (Nat.le_refl _))
  have f16 := (Fld.other W12 (Fld.other W7 (Fld.ext E4 F1f0) (Or.inl ne15)) (Or.inl ne15))
  have f17 := (Fld.other W12 (Fld.other W7 (Fld.ext E4 F1f1) (Or.inl ne15)) (Or.inl ne15))
  have ge19 : h0.size ≤ a1 := by rw [ga1]; exact (Nat.le_refl _)
  have gn18 : n0 ≤ a1 := Nat.le_trans Z0 ge19
  have f20 := (Old.wr (Old.wr (Old.ext' E4 (Old.ext' E1 O)) W7 gn8) W12 gn8)
  have sz22 : h0.size ≤ h12.size := (Nat.le_trans (Nat.le_trans (Nat.le_trans sz10 E4.1) (Nat.le_of_eq (Wr.size W7).symm)) (Nat.le_of_eq (Wr.size W12).symm))
  have zs21 : n0 ≤ h12.size := Nat.le_trans Z0 sz22
  refine g_special X12 hx hZ (y := (⟨"java/lang/String", "<init>", "([C)V"⟩ : MethodName)) rfl hown (hw _ (List.mem_of_getElem? (i := 8) rfl)) (hw _ (List.mem_of_getElem? (i := 9) rfl)) (hw _ (List.mem_of_getElem? (i := 6) rfl)) (hw _ (List.mem_of_getElem? (i := 10) rfl)) (by decide) (a := a1) (argsL := [(.ref a4)]) (rest := [(.ref a1)]) (c_str_2 l Z a0 hw [] a1 a4 cz c0 c1 h12 n0 zs21 f14 gn18 f16 f17 Ar12 ne15 f20 SC hcz (by omega) (by omega)) pd_4 rfl rfl (hb hby d1_50) e12 (by rw [hml]; rfl) (pc' := 53) rfl (by decide) (W := 1) (Nat.le_of_eq rfl) (by decide) (by decide) (by decide) ?_
  intro v23 T23 L23 X23 hQ23
  have A23 := wk X23 hx hby
  have e23 : T23.heap = T23.heap := rfl
  obtain ⟨rfl, N23, K23, d23, V23, C23, Ar23, gd23⟩ := hQ23
  have kp24 := Keep.trans kp13 K23 (allS (P := fun x => x ∈ [] ∨ h0.size ≤ x) (Or.inr ge19) all0)
  have ch24 := CHr.trans ch13 (CHr.keep K23 (allS (P := fun x => Safe Z consts_1 s.vm h12 x) (Safe.null hZ.alike f14 f16) all0) ch13.1)
  have fr23 := Fr.app fr13 N23
  show Go p e below m (FinH Z consts_1 s h0 3 8 (fun v h L => ∃ a d, v = some (.ref a) ∧ Fr n0 L ∧ Keep h0 h [] ∧ Exa Z h a "java/lang/String" ∧ Fld Z h a "java/lang/String" "value" "[B" (.ref d) ∧ Fld Z h a "java/lang/String" "coder" "B" (.int 0) ∧ Ars Z h d .byte [(.int c0.toInt8.toInt32), (.int c1.toInt8.toInt32)])) T23 53 #[.val (.int (2 : Int32)), .val (.int c0), .val (.int c1)] [(.ref a1)]
  have f25 := (Exa.keep f14 K23)
  exact h_ret X23 hx hZ hlk hS0 e23 (Nat.zero_le _) hEL ch24 hret rfl (Or.inr (Or.inr (Or.inr (Or.inr ⟨rfl, rfl, rfl⟩)))) (hb hby d1_53) (by rw [e23]; exact ⟨_, _, rfl, fr23, kp24, f25, V23, C23, Ar23⟩) (by decide) (by decide)
theorem d16_0 : decode jdk_42_method_154_code 0 = .ok (.getstatic 38, 3) := by decide +kernel
theorem d16_3 : decode jdk_42_method_154_code 3 = .ok (.ifCond .eq 14, 3) := by decide +kernel
theorem d16_6 : decode jdk_42_method_154_code 6 = .ok (.aload_n 0, 1) := by decide +kernel
theorem d16_7 : decode jdk_42_method_154_code 7 = .ok (.getfield 15, 3) := by decide +kernel
theorem d16_10 : decode jdk_42_method_154_code 10 = .ok (.ifCond .ne 7, 3) := by decide +kernel
theorem d16_13 : decode jdk_42_method_154_code 13 = .ok (.iconst 1, 1) := by decide +kernel
theorem d16_14 : decode jdk_42_method_154_code 14 = .ok (.goto 4, 3) := by decide +kernel
theorem d16_17 : decode jdk_42_method_154_code 17 = .ok (.iconst 0, 1) := by decide +kernel
theorem d16_18 : decode jdk_42_method_154_code 18 = .ok (.ireturn, 1) := by decide +kernel
theorem ef_c_lat (m : MethodId) (x0 : Addr) : entryFrame m #[(.ref x0)] 1 = mkF m 0 #[.val (.ref x0)] [] := by first | (simp [entryFrame, mkF, argsToLocals, Value.category, maxLocals]; done) | rfl
set_option maxRecDepth 65536 in
set_option maxHeartbeats 40000000 in
theorem c_lat (l : Launch) (Z : State) (a0 : Array Value) (hw : ∀ d ∈ tables_1, d.before a0 Z = true) (ws : List Jvm.Cond) (a : Addr) (cz : Int32) (h0 : Heap) (n0 : Nat) (Z0 : n0 ≤ h0.size) (Ea : Exa Z h0 a "java/lang/String") (Fc : Fld Z h0 a "java/lang/String" "coder" "B" (.int 0)) (O : Old Z n0 h0) (SC : Sta Z Z.heap "java/lang/String" "COMPACT_STRINGS" "Z" (.int cz)) (hcz : ¬ cz = 0) :
    Ctr l Z (⟨"java/lang/String", "isLatin1", "()Z"⟩ : MethodName) jdk_42_method_154_code 1 (some .boolean) ws ({ frames := 0, cells := 0, slots := 0, locals := 0 } : Room) #[(.ref a)] h0 (fun v h L => v = some (.int 1) ∧ Fr n0 L ∧ h = h0) := by
  refine enter pn_16 ?_
  intro p e s m below meth c T0 X0 hx hby hml hret hlk hZ hown hnm e0
  have A0 := wk X0 hx hby
  have N0 := Fr.nil n0
  refine goIn (ef_c_lat m a) ?_
  show Go p e below m (Fini s 0 0 (fun v h L => v = some (.int 1) ∧ Fr n0 L ∧ h = h0)) T0 0 #[.val (.ref a)] []
  have Sc1 := Sta.ext O.2 SC
  refine g_getS X0 hx hZ hown (hw _ (List.mem_of_getElem? (i := 33) rfl)) Via.refl e0 Sc1 (hb hby d16_0) (pc' := 3) rfl ?_
  intro T2 X2 e2
  have A2 := wk X2 hx hby
  refine s_ifeq A2 d16_3 (pY := 17) (pN := 6) (by decide) (by decide) rfl ?_ ?_
  · intro c3
    replace c3 := iz_eq c3
    exact absurd (show cz = 0 from Int32.toInt_inj.mp c3) hcz
  · intro c3
    replace c3 := iz_ne c3
    refine s_aloadN A2 d16_6 (pc' := 7) rfl rfl rfl ?_
    refine g_getF X2 hx hZ hown (hw _ (List.mem_of_getElem? (i := 25) rfl)) Via.refl e2 Fc (hb hby d16_7) (pc' := 10) rfl ?_
    intro T3 X3 e3
    have A3 := wk X3 hx hby
    refine s_ifne A3 d16_10 (pY := 17) (pN := 13) (by decide) (by decide) rfl (fun c => absurd c (by decide)) (fun _ => ?_)
    refine s_iconst A3 d16_13 (pc' := 14) rfl (v := (1 : Int32)) (by decide) ?_
    refine s_goto A3 d16_14 (pc' := 18) (by decide) (by decide) ?_
    exact g_retZ X3 hx hlk hret (by decide) (hb hby d16_18) ⟨rfl, N0, e3⟩ (by decide) (by decide)
theorem d12_0 : decode jdk_42_method_152_code 0 = .ok (.getstatic 38, 3) := by decide +kernel
theorem d12_3 : decode jdk_42_method_152_code 3 = .ok (.ifCond .eq 10, 3) := by decide +kernel
theorem d12_6 : decode jdk_42_method_152_code 6 = .ok (.aload_n 0, 1) := by decide +kernel
theorem d12_7 : decode jdk_42_method_152_code 7 = .ok (.getfield 15, 3) := by decide +kernel
theorem d12_10 : decode jdk_42_method_152_code 10 = .ok (.goto 4, 3) := by decide +kernel
theorem d12_13 : decode jdk_42_method_152_code 13 = .ok (.iconst 1, 1) := by decide +kernel
theorem d12_14 : decode jdk_42_method_152_code 14 = .ok (.ireturn, 1) := by decide +kernel
theorem ef_c_cod0 (m : MethodId) (x0 : Addr) : entryFrame m #[(.ref x0)] 1 = mkF m 0 #[.val (.ref x0)] [] := by first | (simp [entryFrame, mkF, argsToLocals, Value.category, maxLocals]; done) | rfl
set_option maxRecDepth 65536 in
set_option maxHeartbeats 40000000 in
theorem c_cod0 (l : Launch) (Z : State) (a0 : Array Value) (hw : ∀ d ∈ tables_1, d.before a0 Z = true) (ws : List Jvm.Cond) (a : Addr) (cz : Int32) (h0 : Heap) (n0 : Nat) (Z0 : n0 ≤ h0.size) (Ea : Exa Z h0 a "java/lang/String") (Fc : Fld Z h0 a "java/lang/String" "coder" "B" (.int 0)) (O : Old Z n0 h0) (SC : Sta Z Z.heap "java/lang/String" "COMPACT_STRINGS" "Z" (.int cz)) (hcz : ¬ cz = 0) :
    Ctr l Z (⟨"java/lang/String", "coder", "()B"⟩ : MethodName) jdk_42_method_152_code 1 (some .byte) ws ({ frames := 0, cells := 0, slots := 0, locals := 0 } : Room) #[(.ref a)] h0 (fun v h L => v = some (.int 0) ∧ Fr n0 L ∧ h = h0) := by
  refine enter pn_12 ?_
  intro p e s m below meth c T0 X0 hx hby hml hret hlk hZ hown hnm e0
  have A0 := wk X0 hx hby
  have N0 := Fr.nil n0
  refine goIn (ef_c_cod0 m a) ?_
  show Go p e below m (Fini s 0 0 (fun v h L => v = some (.int 0) ∧ Fr n0 L ∧ h = h0)) T0 0 #[.val (.ref a)] []
  have Sc1 := Sta.ext O.2 SC
  refine g_getS X0 hx hZ hown (hw _ (List.mem_of_getElem? (i := 33) rfl)) Via.refl e0 Sc1 (hb hby d12_0) (pc' := 3) rfl ?_
  intro T2 X2 e2
  have A2 := wk X2 hx hby
  refine s_ifeq A2 d12_3 (pY := 13) (pN := 6) (by decide) (by decide) rfl ?_ ?_
  · intro c3
    replace c3 := iz_eq c3
    exact absurd (show cz = 0 from Int32.toInt_inj.mp c3) hcz
  · intro c3
    replace c3 := iz_ne c3
    refine s_aloadN A2 d12_6 (pc' := 7) rfl rfl rfl ?_
    refine g_getF X2 hx hZ hown (hw _ (List.mem_of_getElem? (i := 25) rfl)) Via.refl e2 Fc (hb hby d12_7) (pc' := 10) rfl ?_
    intro T3 X3 e3
    have A3 := wk X3 hx hby
    refine s_goto A3 d12_10 (pc' := 14) (by decide) (by decide) ?_
    exact g_ret X3 hx hlk hret rfl (Or.inl ⟨rfl, by simp, _, rfl⟩) (hb hby d12_14) ⟨rfl, N0, e3⟩ (by decide) (by decide)
theorem d11_0 : decode jdk_42_method_54_code 0 = .ok (.aload_n 0, 1) := by decide +kernel
theorem d11_1 : decode jdk_42_method_54_code 1 = .ok (.getfield 9, 3) := by decide +kernel
theorem d11_4 : decode jdk_42_method_54_code 4 = .ok (.arraylength, 1) := by decide +kernel
theorem d11_5 : decode jdk_42_method_54_code 5 = .ok (.aload_n 0, 1) := by decide +kernel
theorem d11_6 : decode jdk_42_method_54_code 6 = .ok (.invokevirtual 335, 3) := by decide +kernel
theorem d11_9 : decode jdk_42_method_54_code 9 = .ok (.ishr, 1) := by decide +kernel
theorem d11_10 : decode jdk_42_method_54_code 10 = .ok (.ireturn, 1) := by decide +kernel
theorem ef_c_len_0 (m : MethodId) (x0 : Addr) : entryFrame m #[(.ref x0)] 1 = mkF m 0 #[.val (.ref x0)] [] := by first | (simp [entryFrame, mkF, argsToLocals, Value.category, maxLocals]; done) | rfl
set_option maxRecDepth 65536 in
set_option maxHeartbeats 40000000 in
theorem c_len_0 (l : Launch) (Z : State) (a0 : Array Value) (hw : ∀ d ∈ tables_1, d.before a0 Z = true) (ws : List Jvm.Cond) (a d : Addr) (cz : Int32)  (h0 : Heap) (n0 : Nat) (Z0 : n0 ≤ h0.size) (Ea : Exa Z h0 a "java/lang/String") (Fv : Fld Z h0 a "java/lang/String" "value" "[B" (.ref d)) (Fc : Fld Z h0 a "java/lang/String" "coder" "B" (.int 0)) (D : Ars Z h0 d .byte []) (O : Old Z n0 h0) (SC : Sta Z Z.heap "java/lang/String" "COMPACT_STRINGS" "Z" (.int cz)) (hcz : ¬ cz = 0) :
    Ctr l Z (⟨"java/lang/String", "length", "()I"⟩ : MethodName) jdk_42_method_54_code 1 (some .int) ws ({ frames := 1, cells := 0, slots := 0, locals := 13 } : Room) #[(.ref a)] h0 (fun v h L => v = some (.int 0) ∧ Fr n0 L ∧ h = h0) := by
  refine enter pn_11 ?_
  intro p e s m below meth c T0 X0 hx hby hml hret hlk hZ hown hnm e0
  have A0 := wk X0 hx hby
  have N0 := Fr.nil n0
  refine goIn (ef_c_len_0 m a) ?_
  show Go p e below m (Fini s 0 0 (fun v h L => v = some (.int 0) ∧ Fr n0 L ∧ h = h0)) T0 0 #[.val (.ref a)] []
  refine s_aloadN A0 d11_0 (pc' := 1) rfl rfl rfl ?_
  refine g_getF X0 hx hZ hown (hw _ (List.mem_of_getElem? (i := 24) rfl)) Via.refl e0 Fv (hb hby d11_1) (pc' := 4) rfl ?_
  intro T1 X1 e1
  have A1 := wk X1 hx hby
  refine g_len X1 hx hZ e1 D (n := (0 : Int32)) rfl (hb hby d11_4) (pc' := 5) rfl ?_
  refine s_aloadN A1 d11_5 (pc' := 6) rfl rfl rfl ?_
  refine g_virtual X1 hx hZ (y := (⟨"java/lang/String", "coder", "()B"⟩ : MethodName)) hown (hw _ (List.mem_of_getElem? (i := 52) rfl)) (hw _ (List.mem_of_getElem? (i := 53) rfl)) (hw _ (List.mem_of_getElem? (i := 55) rfl)) (hw _ (List.mem_of_getElem? (i := 54) rfl)) (hw _ (List.mem_of_getElem? (i := 6) rfl)) (hw _ (List.mem_of_getElem? (i := 56) rfl)) (by decide) Ea (argsL := []) (rest := [(.int (0 : Int32))]) (c_cod0 l Z a0 hw [] a cz h0 n0 Z0 Ea Fc O SC hcz) pd_5 rfl rfl (hb hby d11_6) e1 (by rw [hml]; rfl) (pc' := 9) rfl (by decide) (W := 1) (Nat.le_of_eq rfl) (by decide) (by decide) (by decide) ?_
  intro v2 T2 L2 X2 hQ2
  have A2 := wk X2 hx hby
  have e2 : T2.heap = T2.heap := rfl
  obtain ⟨rfl, N2, hh2⟩ := hQ2
  have e2 : T2.heap = h0 := hh2
  have fr2 := Fr.app N0 N2
  show Go p e below m (Fini s 0 0 (fun v h L => v = some (.int 0) ∧ Fr n0 L ∧ h = h0)) T2 9 #[.val (.ref a)] [(.int (0 : Int32)), (.int (0 : Int32))]
  refine s_ishr A2 d11_9 (pc' := 10) rfl (v := (0 : Int32)) (by decide) ?_
  exact g_retI X2 hx hlk hret (hb hby d11_10) ⟨rfl, fr2, e2⟩ (by decide) (by decide)
theorem ef_c_len_1 (m : MethodId) (x0 : Addr) : entryFrame m #[(.ref x0)] 1 = mkF m 0 #[.val (.ref x0)] [] := by first | (simp [entryFrame, mkF, argsToLocals, Value.category, maxLocals]; done) | rfl
set_option maxRecDepth 65536 in
set_option maxHeartbeats 40000000 in
theorem c_len_1 (l : Launch) (Z : State) (a0 : Array Value) (hw : ∀ d ∈ tables_1, d.before a0 Z = true) (ws : List Jvm.Cond) (a d : Addr) (cz : Int32) (c0 : Int32) (h0 : Heap) (n0 : Nat) (Z0 : n0 ≤ h0.size) (Ea : Exa Z h0 a "java/lang/String") (Fv : Fld Z h0 a "java/lang/String" "value" "[B" (.ref d)) (Fc : Fld Z h0 a "java/lang/String" "coder" "B" (.int 0)) (D : Ars Z h0 d .byte [(.int c0.toInt8.toInt32)]) (O : Old Z n0 h0) (SC : Sta Z Z.heap "java/lang/String" "COMPACT_STRINGS" "Z" (.int cz)) (hcz : ¬ cz = 0) :
    Ctr l Z (⟨"java/lang/String", "length", "()I"⟩ : MethodName) jdk_42_method_54_code 1 (some .int) ws ({ frames := 1, cells := 0, slots := 0, locals := 13 } : Room) #[(.ref a)] h0 (fun v h L => v = some (.int 1) ∧ Fr n0 L ∧ h = h0) := by
  refine enter pn_11 ?_
  intro p e s m below meth c T0 X0 hx hby hml hret hlk hZ hown hnm e0
  have A0 := wk X0 hx hby
  have N0 := Fr.nil n0
  refine goIn (ef_c_len_1 m a) ?_
  show Go p e below m (Fini s 0 0 (fun v h L => v = some (.int 1) ∧ Fr n0 L ∧ h = h0)) T0 0 #[.val (.ref a)] []
  refine s_aloadN A0 d11_0 (pc' := 1) rfl rfl rfl ?_
  refine g_getF X0 hx hZ hown (hw _ (List.mem_of_getElem? (i := 24) rfl)) Via.refl e0 Fv (hb hby d11_1) (pc' := 4) rfl ?_
  intro T1 X1 e1
  have A1 := wk X1 hx hby
  refine g_len X1 hx hZ e1 D (n := (1 : Int32)) rfl (hb hby d11_4) (pc' := 5) rfl ?_
  refine s_aloadN A1 d11_5 (pc' := 6) rfl rfl rfl ?_
  refine g_virtual X1 hx hZ (y := (⟨"java/lang/String", "coder", "()B"⟩ : MethodName)) hown (hw _ (List.mem_of_getElem? (i := 52) rfl)) (hw _ (List.mem_of_getElem? (i := 53) rfl)) (hw _ (List.mem_of_getElem? (i := 55) rfl)) (hw _ (List.mem_of_getElem? (i := 54) rfl)) (hw _ (List.mem_of_getElem? (i := 6) rfl)) (hw _ (List.mem_of_getElem? (i := 56) rfl)) (by decide) Ea (argsL := []) (rest := [(.int (1 : Int32))]) (c_cod0 l Z a0 hw [] a cz h0 n0 Z0 Ea Fc O SC hcz) pd_5 rfl rfl (hb hby d11_6) e1 (by rw [hml]; rfl) (pc' := 9) rfl (by decide) (W := 1) (Nat.le_of_eq rfl) (by decide) (by decide) (by decide) ?_
  intro v2 T2 L2 X2 hQ2
  have A2 := wk X2 hx hby
  have e2 : T2.heap = T2.heap := rfl
  obtain ⟨rfl, N2, hh2⟩ := hQ2
  have e2 : T2.heap = h0 := hh2
  have fr2 := Fr.app N0 N2
  show Go p e below m (Fini s 0 0 (fun v h L => v = some (.int 1) ∧ Fr n0 L ∧ h = h0)) T2 9 #[.val (.ref a)] [(.int (0 : Int32)), (.int (1 : Int32))]
  refine s_ishr A2 d11_9 (pc' := 10) rfl (v := (1 : Int32)) (by decide) ?_
  exact g_retI X2 hx hlk hret (hb hby d11_10) ⟨rfl, fr2, e2⟩ (by decide) (by decide)
theorem ef_c_len_2 (m : MethodId) (x0 : Addr) : entryFrame m #[(.ref x0)] 1 = mkF m 0 #[.val (.ref x0)] [] := by first | (simp [entryFrame, mkF, argsToLocals, Value.category, maxLocals]; done) | rfl
set_option maxRecDepth 65536 in
set_option maxHeartbeats 40000000 in
theorem c_len_2 (l : Launch) (Z : State) (a0 : Array Value) (hw : ∀ d ∈ tables_1, d.before a0 Z = true) (ws : List Jvm.Cond) (a d : Addr) (cz : Int32) (c0 c1 : Int32) (h0 : Heap) (n0 : Nat) (Z0 : n0 ≤ h0.size) (Ea : Exa Z h0 a "java/lang/String") (Fv : Fld Z h0 a "java/lang/String" "value" "[B" (.ref d)) (Fc : Fld Z h0 a "java/lang/String" "coder" "B" (.int 0)) (D : Ars Z h0 d .byte [(.int c0.toInt8.toInt32), (.int c1.toInt8.toInt32)]) (O : Old Z n0 h0) (SC : Sta Z Z.heap "java/lang/String" "COMPACT_STRINGS" "Z" (.int cz)) (hcz : ¬ cz = 0) :
    Ctr l Z (⟨"java/lang/String", "length", "()I"⟩ : MethodName) jdk_42_method_54_code 1 (some .int) ws ({ frames := 1, cells := 0, slots := 0, locals := 13 } : Room) #[(.ref a)] h0 (fun v h L => v = some (.int 2) ∧ Fr n0 L ∧ h = h0) := by
  refine enter pn_11 ?_
  intro p e s m below meth c T0 X0 hx hby hml hret hlk hZ hown hnm e0
  have A0 := wk X0 hx hby
  have N0 := Fr.nil n0
  refine goIn (ef_c_len_2 m a) ?_
  show Go p e below m (Fini s 0 0 (fun v h L => v = some (.int 2) ∧ Fr n0 L ∧ h = h0)) T0 0 #[.val (.ref a)] []
  refine s_aloadN A0 d11_0 (pc' := 1) rfl rfl rfl ?_
  refine g_getF X0 hx hZ hown (hw _ (List.mem_of_getElem? (i := 24) rfl)) Via.refl e0 Fv (hb hby d11_1) (pc' := 4) rfl ?_
  intro T1 X1 e1
  have A1 := wk X1 hx hby
  refine g_len X1 hx hZ e1 D (n := (2 : Int32)) rfl (hb hby d11_4) (pc' := 5) rfl ?_
  refine s_aloadN A1 d11_5 (pc' := 6) rfl rfl rfl ?_
  refine g_virtual X1 hx hZ (y := (⟨"java/lang/String", "coder", "()B"⟩ : MethodName)) hown (hw _ (List.mem_of_getElem? (i := 52) rfl)) (hw _ (List.mem_of_getElem? (i := 53) rfl)) (hw _ (List.mem_of_getElem? (i := 55) rfl)) (hw _ (List.mem_of_getElem? (i := 54) rfl)) (hw _ (List.mem_of_getElem? (i := 6) rfl)) (hw _ (List.mem_of_getElem? (i := 56) rfl)) (by decide) Ea (argsL := []) (rest := [(.int (2 : Int32))]) (c_cod0 l Z a0 hw [] a cz h0 n0 Z0 Ea Fc O SC hcz) pd_5 rfl rfl (hb hby d11_6) e1 (by rw [hml]; rfl) (pc' := 9) rfl (by decide) (W := 1) (Nat.le_of_eq rfl) (by decide) (by decide) (by decide) ?_
  intro v2 T2 L2 X2 hQ2
  have A2 := wk X2 hx hby
  have e2 : T2.heap = T2.heap := rfl
  obtain ⟨rfl, N2, hh2⟩ := hQ2
  have e2 : T2.heap = h0 := hh2
  have fr2 := Fr.app N0 N2
  show Go p e below m (Fini s 0 0 (fun v h L => v = some (.int 2) ∧ Fr n0 L ∧ h = h0)) T2 9 #[.val (.ref a)] [(.int (0 : Int32)), (.int (2 : Int32))]
  refine s_ishr A2 d11_9 (pc' := 10) rfl (v := (2 : Int32)) (by decide) ?_
  exact g_retI X2 hx hlk hret (hb hby d11_10) ⟨rfl, fr2, e2⟩ (by decide) (by decide)
theorem d18_0 : decode jdk_41_method_11_code 0 = .ok (.iload_n 0, 1) := by decide +kernel
theorem d18_1 : decode jdk_41_method_11_code 1 = .ok (.ifCond .lt 8, 3) := by decide +kernel
theorem d18_4 : decode jdk_41_method_11_code 4 = .ok (.iload_n 0, 1) := by decide +kernel
theorem d18_5 : decode jdk_41_method_11_code 5 = .ok (.iload_n 1, 1) := by decide +kernel
theorem d18_6 : decode jdk_41_method_11_code 6 = .ok (.if_icmp .lt 10, 3) := by decide +kernel
theorem d18_9 : decode jdk_41_method_11_code 9 = .ok (.aload_n 2, 1) := by decide +kernel
theorem d18_10 : decode jdk_41_method_11_code 10 = .ok (.iload_n 0, 1) := by decide +kernel
theorem d18_11 : decode jdk_41_method_11_code 11 = .ok (.iload_n 1, 1) := by decide +kernel
theorem d18_12 : decode jdk_41_method_11_code 12 = .ok (.invokestatic 95, 3) := by decide +kernel
theorem d18_15 : decode jdk_41_method_11_code 15 = .ok (.athrow, 1) := by decide +kernel
theorem d18_16 : decode jdk_41_method_11_code 16 = .ok (.iload_n 0, 1) := by decide +kernel
theorem d18_17 : decode jdk_41_method_11_code 17 = .ok (.ireturn, 1) := by decide +kernel
theorem ef_c_pciN_0_1 (m : MethodId) (x0 : Int32) (x1 : Int32) : entryFrame m #[(.int x0), (.int x1), .null] 3 = mkF m 0 #[.val (.int x0), .val (.int x1), .val .null] [] := by first | (simp [entryFrame, mkF, argsToLocals, Value.category, maxLocals]; done) | rfl
set_option maxRecDepth 65536 in
set_option maxHeartbeats 40000000 in
theorem c_pciN_0_1 (l : Launch) (Z : State) (a0 : Array Value) (hw : ∀ d ∈ tables_1, d.before a0 Z = true) (ws : List Jvm.Cond)  (h0 : Heap) (n0 : Nat) (Z0 : n0 ≤ h0.size)  :
    Ctr l Z (⟨"jdk/internal/util/Preconditions", "checkIndex", "(IILjava/util/function/BiFunction;)I"⟩ : MethodName) jdk_41_method_11_code 3 (some .int) ws ({ frames := 0, cells := 0, slots := 0, locals := 0 } : Room) #[(.int (0 : Int32)), (.int (1 : Int32)), .null] h0 (fun v h L => v = some (.int 0) ∧ Fr n0 L ∧ h = h0) := by
  refine enter pn_18 ?_
  intro p e s m below meth c T0 X0 hx hby hml hret hlk hZ hown hnm e0
  have A0 := wk X0 hx hby
  have N0 := Fr.nil n0
  refine goIn (ef_c_pciN_0_1 m (0 : Int32) (1 : Int32)) ?_
  show Go p e below m (Fini s 0 0 (fun v h L => v = some (.int 0) ∧ Fr n0 L ∧ h = h0)) T0 0 #[.val (.int (0 : Int32)), .val (.int (1 : Int32)), .val .null] []
  refine s_iloadN A0 d18_0 (pc' := 1) rfl rfl ?_
  refine s_iflt A0 d18_1 (pY := 9) (pN := 4) (by decide) (by decide) rfl (fun c => absurd c (by decide)) (fun _ => ?_)
  refine s_iloadN A0 d18_4 (pc' := 5) rfl rfl ?_
  refine s_iloadN A0 d18_5 (pc' := 6) rfl rfl ?_
  refine s_icmplt A0 d18_6 (pY := 16) (pN := 9) (by decide) (by decide) rfl (fun _ => ?_) (fun c => absurd c (by decide))
  refine s_iloadN A0 d18_16 (pc' := 17) rfl rfl ?_
  exact g_retI X0 hx hlk hret (hb hby d18_17) ⟨rfl, N0, e0⟩ (by decide) (by decide)
theorem ef_c_pciA_0_1 (m : MethodId) (x0 : Int32) (x1 : Int32) (x2 : Addr) : entryFrame m #[(.int x0), (.int x1), (.ref x2)] 3 = mkF m 0 #[.val (.int x0), .val (.int x1), .val (.ref x2)] [] := by first | (simp [entryFrame, mkF, argsToLocals, Value.category, maxLocals]; done) | rfl
set_option maxRecDepth 65536 in
set_option maxHeartbeats 40000000 in
theorem c_pciA_0_1 (l : Launch) (Z : State) (a0 : Array Value) (hw : ∀ d ∈ tables_1, d.before a0 Z = true) (ws : List Jvm.Cond) (f : Addr) (h0 : Heap) (n0 : Nat) (Z0 : n0 ≤ h0.size)  :
    Ctr l Z (⟨"jdk/internal/util/Preconditions", "checkIndex", "(IILjava/util/function/BiFunction;)I"⟩ : MethodName) jdk_41_method_11_code 3 (some .int) ws ({ frames := 0, cells := 0, slots := 0, locals := 0 } : Room) #[(.int (0 : Int32)), (.int (1 : Int32)), (.ref f)] h0 (fun v h L => v = some (.int 0) ∧ Fr n0 L ∧ h = h0) := by
  refine enter pn_18 ?_
  intro p e s m below meth c T0 X0 hx hby hml hret hlk hZ hown hnm e0
  have A0 := wk X0 hx hby
  have N0 := Fr.nil n0
  refine goIn (ef_c_pciA_0_1 m (0 : Int32) (1 : Int32) f) ?_
  show Go p e below m (Fini s 0 0 (fun v h L => v = some (.int 0) ∧ Fr n0 L ∧ h = h0)) T0 0 #[.val (.int (0 : Int32)), .val (.int (1 : Int32)), .val (.ref f)] []
  refine s_iloadN A0 d18_0 (pc' := 1) rfl rfl ?_
  refine s_iflt A0 d18_1 (pY := 9) (pN := 4) (by decide) (by decide) rfl (fun c => absurd c (by decide)) (fun _ => ?_)
  refine s_iloadN A0 d18_4 (pc' := 5) rfl rfl ?_
  refine s_iloadN A0 d18_5 (pc' := 6) rfl rfl ?_
  refine s_icmplt A0 d18_6 (pY := 16) (pN := 9) (by decide) (by decide) rfl (fun _ => ?_) (fun c => absurd c (by decide))
  refine s_iloadN A0 d18_16 (pc' := 17) rfl rfl ?_
  exact g_retI X0 hx hlk hret (hb hby d18_17) ⟨rfl, N0, e0⟩ (by decide) (by decide)
theorem d17_0 : decode jdk_42_method_155_code 0 = .ok (.iload_n 0, 1) := by decide +kernel
theorem d17_1 : decode jdk_42_method_155_code 1 = .ok (.iload_n 1, 1) := by decide +kernel
theorem d17_2 : decode jdk_42_method_155_code 2 = .ok (.getstatic 1053, 3) := by decide +kernel
theorem d17_5 : decode jdk_42_method_155_code 5 = .ok (.invokestatic 1059, 3) := by decide +kernel
theorem d17_8 : decode jdk_42_method_155_code 8 = .ok (.pop, 1) := by decide +kernel
theorem d17_9 : decode jdk_42_method_155_code 9 = .ok (.return_, 1) := by decide +kernel
theorem ef_c_chk_0_1 (m : MethodId) (x0 : Int32) (x1 : Int32) : entryFrame m #[(.int x0), (.int x1)] 2 = mkF m 0 #[.val (.int x0), .val (.int x1)] [] := by first | (simp [entryFrame, mkF, argsToLocals, Value.category, maxLocals]; done) | rfl
set_option maxRecDepth 65536 in
set_option maxHeartbeats 40000000 in
theorem c_chk_0_1 (l : Launch) (Z : State) (a0 : Array Value) (hw : ∀ d ∈ tables_1, d.before a0 Z = true) (ws : List Jvm.Cond) (fv : Value) (h0 : Heap) (n0 : Nat) (Z0 : n0 ≤ h0.size) (O : Old Z n0 h0) (SF : Sta Z Z.heap "jdk/internal/util/Preconditions" "SIOOBE_FORMATTER" "Ljava/util/function/BiFunction;" fv) (hfv : fv = .null ∨ ∃ f, fv = .ref f) :
    Ctr l Z (⟨"java/lang/String", "checkIndex", "(II)V"⟩ : MethodName) jdk_42_method_155_code 2 none ws ({ frames := 1, cells := 0, slots := 0, locals := 14 } : Room) #[(.int (0 : Int32)), (.int (1 : Int32))] h0 (fun v h L => v = none ∧ Fr n0 L ∧ h = h0) := by
  refine enter pn_17 ?_
  intro p e s m below meth c T0 X0 hx hby hml hret hlk hZ hown hnm e0
  have A0 := wk X0 hx hby
  have N0 := Fr.nil n0
  refine goIn (ef_c_chk_0_1 m (0 : Int32) (1 : Int32)) ?_
  show Go p e below m (Fini s 0 0 (fun v h L => v = none ∧ Fr n0 L ∧ h = h0)) T0 0 #[.val (.int (0 : Int32)), .val (.int (1 : Int32))] []
  rcases hfv with rfl | ⟨f, rfl⟩
  ·
    refine s_iloadN A0 d17_0 (pc' := 1) rfl rfl ?_
    refine s_iloadN A0 d17_1 (pc' := 2) rfl rfl ?_
    have Sf := Sta.ext O.2 SF
    refine g_getS X0 hx hZ hown (hw _ (List.mem_of_getElem? (i := 77) rfl)) Via.refl e0 Sf (hb hby d17_2) (pc' := 5) rfl ?_
    intro T1 X1 e1
    have A1 := wk X1 hx hby
    refine g_static X1 hx hZ (y := (⟨"jdk/internal/util/Preconditions", "checkIndex", "(IILjava/util/function/BiFunction;)I"⟩ : MethodName)) hown (hw _ (List.mem_of_getElem? (i := 79) rfl)) (hw _ (List.mem_of_getElem? (i := 80) rfl)) (hw _ (List.mem_of_getElem? (i := 78) rfl)) (hw _ (List.mem_of_getElem? (i := 81) rfl)) (by decide) (argsL := [(.int (0 : Int32)), (.int (1 : Int32)), .null]) (rest := []) (c_pciN_0_1 l Z a0 hw []  h0 n0 Z0) pd_6 rfl rfl (hb hby d17_5) e1 (by rw [hml]; rfl) (pc' := 8) rfl (by decide) (W := 0) (Nat.le_of_eq rfl) (by decide) (by decide) (by decide) ?_
    intro v2 T2 L2 X2 hQ2
    have A2 := wk X2 hx hby
    have e2 : T2.heap = T2.heap := rfl
    obtain ⟨rfl, N2, hh2⟩ := hQ2
    have e2 : T2.heap = h0 := hh2
    have fr2 := Fr.app N0 N2
    show Go p e below m (Fini s 0 0 (fun v h L => v = none ∧ Fr n0 L ∧ h = h0)) T2 8 #[.val (.int (0 : Int32)), .val (.int (1 : Int32))] [(.int (0 : Int32))]
    refine s_pop A2 d17_8 (pc' := 9) rfl rfl ?_
    exact g_retV X2 hx hlk hret (hb hby d17_9) ⟨rfl, fr2, e2⟩ (by decide) (by decide)
  refine s_iloadN A0 d17_0 (pc' := 1) rfl rfl ?_
  refine s_iloadN A0 d17_1 (pc' := 2) rfl rfl ?_
  have Sf := Sta.ext O.2 SF
  refine g_getS X0 hx hZ hown (hw _ (List.mem_of_getElem? (i := 77) rfl)) Via.refl e0 Sf (hb hby d17_2) (pc' := 5) rfl ?_
  intro T53 X53 e53
  have A53 := wk X53 hx hby
  refine g_static X53 hx hZ (y := (⟨"jdk/internal/util/Preconditions", "checkIndex", "(IILjava/util/function/BiFunction;)I"⟩ : MethodName)) hown (hw _ (List.mem_of_getElem? (i := 79) rfl)) (hw _ (List.mem_of_getElem? (i := 80) rfl)) (hw _ (List.mem_of_getElem? (i := 78) rfl)) (hw _ (List.mem_of_getElem? (i := 81) rfl)) (by decide) (argsL := [(.int (0 : Int32)), (.int (1 : Int32)), (.ref f)]) (rest := []) (c_pciA_0_1 l Z a0 hw [] f h0 n0 Z0) pd_6 rfl rfl (hb hby d17_5) e53 (by rw [hml]; rfl) (pc' := 8) rfl (by decide) (W := 0) (Nat.le_of_eq rfl) (by decide) (by decide) (by decide) ?_
  intro v54 T54 L54 X54 hQ54
  have A54 := wk X54 hx hby
  have e54 : T54.heap = T54.heap := rfl
  obtain ⟨rfl, N54, hh54⟩ := hQ54
  have e54 : T54.heap = h0 := hh54
  have fr54 := Fr.app N0 N54
  show Go p e below m (Fini s 0 0 (fun v h L => v = none ∧ Fr n0 L ∧ h = h0)) T54 8 #[.val (.int (0 : Int32)), .val (.int (1 : Int32))] [(.int (0 : Int32))]
  refine s_pop A54 d17_8 (pc' := 9) rfl rfl ?_
  exact g_retV X54 hx hlk hret (hb hby d17_9) ⟨rfl, fr54, e54⟩ (by decide) (by decide)
theorem d15_0 : decode jdk_42_method_57_code 0 = .ok (.aload_n 0, 1) := by decide +kernel
theorem d15_1 : decode jdk_42_method_57_code 1 = .ok (.invokevirtual 492, 3) := by decide +kernel
theorem d15_4 : decode jdk_42_method_57_code 4 = .ok (.ifCond .eq 23, 3) := by decide +kernel
theorem d15_7 : decode jdk_42_method_57_code 7 = .ok (.iload_n 1, 1) := by decide +kernel
theorem d15_8 : decode jdk_42_method_57_code 8 = .ok (.aload_n 0, 1) := by decide +kernel
theorem d15_9 : decode jdk_42_method_57_code 9 = .ok (.getfield 9, 3) := by decide +kernel
theorem d15_12 : decode jdk_42_method_57_code 12 = .ok (.arraylength, 1) := by decide +kernel
theorem d15_13 : decode jdk_42_method_57_code 13 = .ok (.invokestatic 499, 3) := by decide +kernel
theorem d15_16 : decode jdk_42_method_57_code 16 = .ok (.aload_n 0, 1) := by decide +kernel
theorem d15_17 : decode jdk_42_method_57_code 17 = .ok (.getfield 9, 3) := by decide +kernel
theorem d15_20 : decode jdk_42_method_57_code 20 = .ok (.iload_n 1, 1) := by decide +kernel
theorem d15_21 : decode jdk_42_method_57_code 21 = .ok (.baload, 1) := by decide +kernel
theorem d15_22 : decode jdk_42_method_57_code 22 = .ok (.sipush 255, 3) := by decide +kernel
theorem d15_25 : decode jdk_42_method_57_code 25 = .ok (.iand, 1) := by decide +kernel
theorem d15_26 : decode jdk_42_method_57_code 26 = .ok (.ireturn, 1) := by decide +kernel
theorem d15_27 : decode jdk_42_method_57_code 27 = .ok (.aload_n 0, 1) := by decide +kernel
theorem d15_28 : decode jdk_42_method_57_code 28 = .ok (.getfield 9, 3) := by decide +kernel
theorem d15_31 : decode jdk_42_method_57_code 31 = .ok (.arraylength, 1) := by decide +kernel
theorem d15_32 : decode jdk_42_method_57_code 32 = .ok (.iconst 1, 1) := by decide +kernel
theorem d15_33 : decode jdk_42_method_57_code 33 = .ok (.ishr, 1) := by decide +kernel
theorem d15_34 : decode jdk_42_method_57_code 34 = .ok (.istore_n 2, 1) := by decide +kernel
theorem d15_35 : decode jdk_42_method_57_code 35 = .ok (.iload_n 1, 1) := by decide +kernel
theorem d15_36 : decode jdk_42_method_57_code 36 = .ok (.iload_n 2, 1) := by decide +kernel
theorem d15_37 : decode jdk_42_method_57_code 37 = .ok (.invokestatic 499, 3) := by decide +kernel
theorem d15_40 : decode jdk_42_method_57_code 40 = .ok (.aload_n 0, 1) := by decide +kernel
theorem d15_41 : decode jdk_42_method_57_code 41 = .ok (.getfield 9, 3) := by decide +kernel
theorem d15_44 : decode jdk_42_method_57_code 44 = .ok (.iload_n 1, 1) := by decide +kernel
theorem d15_45 : decode jdk_42_method_57_code 45 = .ok (.iload_n 2, 1) := by decide +kernel
theorem d15_46 : decode jdk_42_method_57_code 46 = .ok (.invokestatic 502, 3) := by decide +kernel
theorem d15_49 : decode jdk_42_method_57_code 49 = .ok (.ireturn, 1) := by decide +kernel
theorem ef_c_cpa_0_1 (m : MethodId) (x0 : Addr) (x1 : Int32) : entryFrame m #[(.ref x0), (.int x1)] 3 = mkF m 0 #[.val (.ref x0), .val (.int x1), .unset] [] := by first | (simp [entryFrame, mkF, argsToLocals, Value.category, maxLocals]; done) | rfl
set_option maxRecDepth 65536 in
set_option maxHeartbeats 40000000 in
theorem c_cpa_0_1 (l : Launch) (Z : State) (a0 : Array Value) (hw : ∀ d ∈ tables_1, d.before a0 Z = true) (ws : List Jvm.Cond) (a d : Addr) (cz : Int32) (c0 : Int32) (fv : Value) (h0 : Heap) (n0 : Nat) (Z0 : n0 ≤ h0.size) (Ea : Exa Z h0 a "java/lang/String") (Fv : Fld Z h0 a "java/lang/String" "value" "[B" (.ref d)) (Fc : Fld Z h0 a "java/lang/String" "coder" "B" (.int 0)) (D : Ars Z h0 d .byte [(.int c0.toInt8.toInt32)]) (O : Old Z n0 h0) (SC : Sta Z Z.heap "java/lang/String" "COMPACT_STRINGS" "Z" (.int cz)) (hcz : ¬ cz = 0) (SF : Sta Z Z.heap "jdk/internal/util/Preconditions" "SIOOBE_FORMATTER" "Ljava/util/function/BiFunction;" fv) (hfv : fv = .null ∨ ∃ f, fv = .ref f) (C0 : 0 ≤ c0.toInt ∧ c0.toInt ≤ 255) :
    Ctr l Z (⟨"java/lang/String", "codePointAt", "(I)I"⟩ : MethodName) jdk_42_method_57_code 3 (some .int) ws ({ frames := 2, cells := 0, slots := 0, locals := 27 } : Room) #[(.ref a), (.int (0 : Int32))] h0 (fun v h L => v = some (.int c0) ∧ Fr n0 L ∧ h = h0) := by
  refine enter pn_15 ?_
  intro p e s m below meth c T0 X0 hx hby hml hret hlk hZ hown hnm e0
  have A0 := wk X0 hx hby
  have N0 := Fr.nil n0
  refine goIn (ef_c_cpa_0_1 m a (0 : Int32)) ?_
  show Go p e below m (Fini s 0 0 (fun v h L => v = some (.int c0) ∧ Fr n0 L ∧ h = h0)) T0 0 #[.val (.ref a), .val (.int (0 : Int32)), .unset] []
  refine s_aloadN A0 d15_0 (pc' := 1) rfl rfl rfl ?_
  refine g_virtual X0 hx hZ (y := (⟨"java/lang/String", "isLatin1", "()Z"⟩ : MethodName)) hown (hw _ (List.mem_of_getElem? (i := 69) rfl)) (hw _ (List.mem_of_getElem? (i := 70) rfl)) (hw _ (List.mem_of_getElem? (i := 72) rfl)) (hw _ (List.mem_of_getElem? (i := 71) rfl)) (hw _ (List.mem_of_getElem? (i := 6) rfl)) (hw _ (List.mem_of_getElem? (i := 73) rfl)) (by decide) Ea (argsL := []) (rest := []) (c_lat l Z a0 hw [] a cz h0 n0 Z0 Ea Fc O SC hcz) pd_7 rfl rfl (hb hby d15_1) e0 (by rw [hml]; rfl) (pc' := 4) rfl (by decide) (W := 0) (Nat.le_of_eq rfl) (by decide) (by decide) (by decide) ?_
  intro v1 T1 L1 X1 hQ1
  have A1 := wk X1 hx hby
  have e1 : T1.heap = T1.heap := rfl
  obtain ⟨rfl, N1, hh1⟩ := hQ1
  have e1 : T1.heap = h0 := hh1
  have fr1 := Fr.app N0 N1
  show Go p e below m (Fini s 0 0 (fun v h L => v = some (.int c0) ∧ Fr n0 L ∧ h = h0)) T1 4 #[.val (.ref a), .val (.int (0 : Int32)), .unset] [(.int (1 : Int32))]
  refine s_ifeq A1 d15_4 (pY := 27) (pN := 7) (by decide) (by decide) rfl (fun c => absurd c (by decide)) (fun _ => ?_)
  refine s_iloadN A1 d15_7 (pc' := 8) rfl rfl ?_
  refine s_aloadN A1 d15_8 (pc' := 9) rfl rfl rfl ?_
  refine g_getF X1 hx hZ hown (hw _ (List.mem_of_getElem? (i := 24) rfl)) Via.refl e1 Fv (hb hby d15_9) (pc' := 12) rfl ?_
  intro T2 X2 e2
  have A2 := wk X2 hx hby
  refine g_len X2 hx hZ e2 D (n := (1 : Int32)) rfl (hb hby d15_12) (pc' := 13) rfl ?_
  refine g_static X2 hx hZ (y := (⟨"java/lang/String", "checkIndex", "(II)V"⟩ : MethodName)) hown (hw _ (List.mem_of_getElem? (i := 74) rfl)) (hw _ (List.mem_of_getElem? (i := 75) rfl)) (hw _ (List.mem_of_getElem? (i := 6) rfl)) (hw _ (List.mem_of_getElem? (i := 76) rfl)) (by decide) (argsL := [(.int (0 : Int32)), (.int (1 : Int32))]) (rest := []) (c_chk_0_1 l Z a0 hw [] fv h0 n0 Z0 O SF hfv) pd_8 rfl rfl (hb hby d15_13) e2 (by rw [hml]; rfl) (pc' := 16) rfl (by decide) (W := 0) (Nat.le_of_eq rfl) (by decide) (by decide) (by decide) ?_
  intro v3 T3 L3 X3 hQ3
  have A3 := wk X3 hx hby
  have e3 : T3.heap = T3.heap := rfl
  obtain ⟨rfl, N3, hh3⟩ := hQ3
  have e3 : T3.heap = h0 := hh3
  have fr3 := Fr.app fr1 N3
  show Go p e below m (Fini s 0 0 (fun v h L => v = some (.int c0) ∧ Fr n0 L ∧ h = h0)) T3 16 #[.val (.ref a), .val (.int (0 : Int32)), .unset] []
  refine s_aloadN A3 d15_16 (pc' := 17) rfl rfl rfl ?_
  refine g_getF X3 hx hZ hown (hw _ (List.mem_of_getElem? (i := 24) rfl)) Via.refl e3 Fv (hb hby d15_17) (pc' := 20) rfl ?_
  intro T4 X4 e4
  have A4 := wk X4 hx hby
  refine s_iloadN A4 d15_20 (pc' := 21) rfl rfl ?_
  refine g_baload X4 hx hZ e4 D (by decide) (i := 0) (by decide) (v := (.int c0.toInt8.toInt32)) rfl (hb hby d15_21) (pc' := 22) rfl ?_
  refine s_sipush A4 d15_22 (pc' := 25) rfl (v := (255 : Int32)) (by decide) ?_
  refine s_iand A4 d15_25 (pc' := 26) rfl (own_and255 C0) ?_
  exact g_retI X4 hx hlk hret (hb hby d15_26) ⟨rfl, fr3, e4⟩ (by decide) (by decide)
theorem ef_c_pciN_0_2 (m : MethodId) (x0 : Int32) (x1 : Int32) : entryFrame m #[(.int x0), (.int x1), .null] 3 = mkF m 0 #[.val (.int x0), .val (.int x1), .val .null] [] := by first | (simp [entryFrame, mkF, argsToLocals, Value.category, maxLocals]; done) | rfl
set_option maxRecDepth 65536 in
set_option maxHeartbeats 40000000 in
theorem c_pciN_0_2 (l : Launch) (Z : State) (a0 : Array Value) (hw : ∀ d ∈ tables_1, d.before a0 Z = true) (ws : List Jvm.Cond)  (h0 : Heap) (n0 : Nat) (Z0 : n0 ≤ h0.size)  :
    Ctr l Z (⟨"jdk/internal/util/Preconditions", "checkIndex", "(IILjava/util/function/BiFunction;)I"⟩ : MethodName) jdk_41_method_11_code 3 (some .int) ws ({ frames := 0, cells := 0, slots := 0, locals := 0 } : Room) #[(.int (0 : Int32)), (.int (2 : Int32)), .null] h0 (fun v h L => v = some (.int 0) ∧ Fr n0 L ∧ h = h0) := by
  refine enter pn_18 ?_
  intro p e s m below meth c T0 X0 hx hby hml hret hlk hZ hown hnm e0
  have A0 := wk X0 hx hby
  have N0 := Fr.nil n0
  refine goIn (ef_c_pciN_0_2 m (0 : Int32) (2 : Int32)) ?_
  show Go p e below m (Fini s 0 0 (fun v h L => v = some (.int 0) ∧ Fr n0 L ∧ h = h0)) T0 0 #[.val (.int (0 : Int32)), .val (.int (2 : Int32)), .val .null] []
  refine s_iloadN A0 d18_0 (pc' := 1) rfl rfl ?_
  refine s_iflt A0 d18_1 (pY := 9) (pN := 4) (by decide) (by decide) rfl (fun c => absurd c (by decide)) (fun _ => ?_)
  refine s_iloadN A0 d18_4 (pc' := 5) rfl rfl ?_
  refine s_iloadN A0 d18_5 (pc' := 6) rfl rfl ?_
  refine s_icmplt A0 d18_6 (pY := 16) (pN := 9) (by decide) (by decide) rfl (fun _ => ?_) (fun c => absurd c (by decide))
  refine s_iloadN A0 d18_16 (pc' := 17) rfl rfl ?_
  exact g_retI X0 hx hlk hret (hb hby d18_17) ⟨rfl, N0, e0⟩ (by decide) (by decide)
theorem ef_c_pciA_0_2 (m : MethodId) (x0 : Int32) (x1 : Int32) (x2 : Addr) : entryFrame m #[(.int x0), (.int x1), (.ref x2)] 3 = mkF m 0 #[.val (.int x0), .val (.int x1), .val (.ref x2)] [] := by first | (simp [entryFrame, mkF, argsToLocals, Value.category, maxLocals]; done) | rfl
set_option maxRecDepth 65536 in
set_option maxHeartbeats 40000000 in
theorem c_pciA_0_2 (l : Launch) (Z : State) (a0 : Array Value) (hw : ∀ d ∈ tables_1, d.before a0 Z = true) (ws : List Jvm.Cond) (f : Addr) (h0 : Heap) (n0 : Nat) (Z0 : n0 ≤ h0.size)  :
    Ctr l Z (⟨"jdk/internal/util/Preconditions", "checkIndex", "(IILjava/util/function/BiFunction;)I"⟩ : MethodName) jdk_41_method_11_code 3 (some .int) ws ({ frames := 0, cells := 0, slots := 0, locals := 0 } : Room) #[(.int (0 : Int32)), (.int (2 : Int32)), (.ref f)] h0 (fun v h L => v = some (.int 0) ∧ Fr n0 L ∧ h = h0) := by
  refine enter pn_18 ?_
  intro p e s m below meth c T0 X0 hx hby hml hret hlk hZ hown hnm e0
  have A0 := wk X0 hx hby
  have N0 := Fr.nil n0
  refine goIn (ef_c_pciA_0_2 m (0 : Int32) (2 : Int32) f) ?_
  show Go p e below m (Fini s 0 0 (fun v h L => v = some (.int 0) ∧ Fr n0 L ∧ h = h0)) T0 0 #[.val (.int (0 : Int32)), .val (.int (2 : Int32)), .val (.ref f)] []
  refine s_iloadN A0 d18_0 (pc' := 1) rfl rfl ?_
  refine s_iflt A0 d18_1 (pY := 9) (pN := 4) (by decide) (by decide) rfl (fun c => absurd c (by decide)) (fun _ => ?_)
  refine s_iloadN A0 d18_4 (pc' := 5) rfl rfl ?_
  refine s_iloadN A0 d18_5 (pc' := 6) rfl rfl ?_
  refine s_icmplt A0 d18_6 (pY := 16) (pN := 9) (by decide) (by decide) rfl (fun _ => ?_) (fun c => absurd c (by decide))
  refine s_iloadN A0 d18_16 (pc' := 17) rfl rfl ?_
  exact g_retI X0 hx hlk hret (hb hby d18_17) ⟨rfl, N0, e0⟩ (by decide) (by decide)
theorem ef_c_chk_0_2 (m : MethodId) (x0 : Int32) (x1 : Int32) : entryFrame m #[(.int x0), (.int x1)] 2 = mkF m 0 #[.val (.int x0), .val (.int x1)] [] := by first | (simp [entryFrame, mkF, argsToLocals, Value.category, maxLocals]; done) | rfl
set_option maxRecDepth 65536 in
set_option maxHeartbeats 40000000 in
theorem c_chk_0_2 (l : Launch) (Z : State) (a0 : Array Value) (hw : ∀ d ∈ tables_1, d.before a0 Z = true) (ws : List Jvm.Cond) (fv : Value) (h0 : Heap) (n0 : Nat) (Z0 : n0 ≤ h0.size) (O : Old Z n0 h0) (SF : Sta Z Z.heap "jdk/internal/util/Preconditions" "SIOOBE_FORMATTER" "Ljava/util/function/BiFunction;" fv) (hfv : fv = .null ∨ ∃ f, fv = .ref f) :
    Ctr l Z (⟨"java/lang/String", "checkIndex", "(II)V"⟩ : MethodName) jdk_42_method_155_code 2 none ws ({ frames := 1, cells := 0, slots := 0, locals := 14 } : Room) #[(.int (0 : Int32)), (.int (2 : Int32))] h0 (fun v h L => v = none ∧ Fr n0 L ∧ h = h0) := by
  refine enter pn_17 ?_
  intro p e s m below meth c T0 X0 hx hby hml hret hlk hZ hown hnm e0
  have A0 := wk X0 hx hby
  have N0 := Fr.nil n0
  refine goIn (ef_c_chk_0_2 m (0 : Int32) (2 : Int32)) ?_
  show Go p e below m (Fini s 0 0 (fun v h L => v = none ∧ Fr n0 L ∧ h = h0)) T0 0 #[.val (.int (0 : Int32)), .val (.int (2 : Int32))] []
  rcases hfv with rfl | ⟨f, rfl⟩
  ·
    refine s_iloadN A0 d17_0 (pc' := 1) rfl rfl ?_
    refine s_iloadN A0 d17_1 (pc' := 2) rfl rfl ?_
    have Sf := Sta.ext O.2 SF
    refine g_getS X0 hx hZ hown (hw _ (List.mem_of_getElem? (i := 77) rfl)) Via.refl e0 Sf (hb hby d17_2) (pc' := 5) rfl ?_
    intro T1 X1 e1
    have A1 := wk X1 hx hby
    refine g_static X1 hx hZ (y := (⟨"jdk/internal/util/Preconditions", "checkIndex", "(IILjava/util/function/BiFunction;)I"⟩ : MethodName)) hown (hw _ (List.mem_of_getElem? (i := 79) rfl)) (hw _ (List.mem_of_getElem? (i := 80) rfl)) (hw _ (List.mem_of_getElem? (i := 78) rfl)) (hw _ (List.mem_of_getElem? (i := 81) rfl)) (by decide) (argsL := [(.int (0 : Int32)), (.int (2 : Int32)), .null]) (rest := []) (c_pciN_0_2 l Z a0 hw []  h0 n0 Z0) pd_6 rfl rfl (hb hby d17_5) e1 (by rw [hml]; rfl) (pc' := 8) rfl (by decide) (W := 0) (Nat.le_of_eq rfl) (by decide) (by decide) (by decide) ?_
    intro v2 T2 L2 X2 hQ2
    have A2 := wk X2 hx hby
    have e2 : T2.heap = T2.heap := rfl
    obtain ⟨rfl, N2, hh2⟩ := hQ2
    have e2 : T2.heap = h0 := hh2
    have fr2 := Fr.app N0 N2
    show Go p e below m (Fini s 0 0 (fun v h L => v = none ∧ Fr n0 L ∧ h = h0)) T2 8 #[.val (.int (0 : Int32)), .val (.int (2 : Int32))] [(.int (0 : Int32))]
    refine s_pop A2 d17_8 (pc' := 9) rfl rfl ?_
    exact g_retV X2 hx hlk hret (hb hby d17_9) ⟨rfl, fr2, e2⟩ (by decide) (by decide)
  refine s_iloadN A0 d17_0 (pc' := 1) rfl rfl ?_
  refine s_iloadN A0 d17_1 (pc' := 2) rfl rfl ?_
  have Sf := Sta.ext O.2 SF
  refine g_getS X0 hx hZ hown (hw _ (List.mem_of_getElem? (i := 77) rfl)) Via.refl e0 Sf (hb hby d17_2) (pc' := 5) rfl ?_
  intro T53 X53 e53
  have A53 := wk X53 hx hby
  refine g_static X53 hx hZ (y := (⟨"jdk/internal/util/Preconditions", "checkIndex", "(IILjava/util/function/BiFunction;)I"⟩ : MethodName)) hown (hw _ (List.mem_of_getElem? (i := 79) rfl)) (hw _ (List.mem_of_getElem? (i := 80) rfl)) (hw _ (List.mem_of_getElem? (i := 78) rfl)) (hw _ (List.mem_of_getElem? (i := 81) rfl)) (by decide) (argsL := [(.int (0 : Int32)), (.int (2 : Int32)), (.ref f)]) (rest := []) (c_pciA_0_2 l Z a0 hw [] f h0 n0 Z0) pd_6 rfl rfl (hb hby d17_5) e53 (by rw [hml]; rfl) (pc' := 8) rfl (by decide) (W := 0) (Nat.le_of_eq rfl) (by decide) (by decide) (by decide) ?_
  intro v54 T54 L54 X54 hQ54
  have A54 := wk X54 hx hby
  have e54 : T54.heap = T54.heap := rfl
  obtain ⟨rfl, N54, hh54⟩ := hQ54
  have e54 : T54.heap = h0 := hh54
  have fr54 := Fr.app N0 N54
  show Go p e below m (Fini s 0 0 (fun v h L => v = none ∧ Fr n0 L ∧ h = h0)) T54 8 #[.val (.int (0 : Int32)), .val (.int (2 : Int32))] [(.int (0 : Int32))]
  refine s_pop A54 d17_8 (pc' := 9) rfl rfl ?_
  exact g_retV X54 hx hlk hret (hb hby d17_9) ⟨rfl, fr54, e54⟩ (by decide) (by decide)
theorem ef_c_cpa_0_2 (m : MethodId) (x0 : Addr) (x1 : Int32) : entryFrame m #[(.ref x0), (.int x1)] 3 = mkF m 0 #[.val (.ref x0), .val (.int x1), .unset] [] := by first | (simp [entryFrame, mkF, argsToLocals, Value.category, maxLocals]; done) | rfl
set_option maxRecDepth 65536 in
set_option maxHeartbeats 40000000 in
theorem c_cpa_0_2 (l : Launch) (Z : State) (a0 : Array Value) (hw : ∀ d ∈ tables_1, d.before a0 Z = true) (ws : List Jvm.Cond) (a d : Addr) (cz : Int32) (c0 c1 : Int32) (fv : Value) (h0 : Heap) (n0 : Nat) (Z0 : n0 ≤ h0.size) (Ea : Exa Z h0 a "java/lang/String") (Fv : Fld Z h0 a "java/lang/String" "value" "[B" (.ref d)) (Fc : Fld Z h0 a "java/lang/String" "coder" "B" (.int 0)) (D : Ars Z h0 d .byte [(.int c0.toInt8.toInt32), (.int c1.toInt8.toInt32)]) (O : Old Z n0 h0) (SC : Sta Z Z.heap "java/lang/String" "COMPACT_STRINGS" "Z" (.int cz)) (hcz : ¬ cz = 0) (SF : Sta Z Z.heap "jdk/internal/util/Preconditions" "SIOOBE_FORMATTER" "Ljava/util/function/BiFunction;" fv) (hfv : fv = .null ∨ ∃ f, fv = .ref f) (C0 : 0 ≤ c0.toInt ∧ c0.toInt ≤ 255) (C1 : 0 ≤ c1.toInt ∧ c1.toInt ≤ 255) :
    Ctr l Z (⟨"java/lang/String", "codePointAt", "(I)I"⟩ : MethodName) jdk_42_method_57_code 3 (some .int) ws ({ frames := 2, cells := 0, slots := 0, locals := 27 } : Room) #[(.ref a), (.int (0 : Int32))] h0 (fun v h L => v = some (.int c0) ∧ Fr n0 L ∧ h = h0) := by
  refine enter pn_15 ?_
  intro p e s m below meth c T0 X0 hx hby hml hret hlk hZ hown hnm e0
  have A0 := wk X0 hx hby
  have N0 := Fr.nil n0
  refine goIn (ef_c_cpa_0_2 m a (0 : Int32)) ?_
  show Go p e below m (Fini s 0 0 (fun v h L => v = some (.int c0) ∧ Fr n0 L ∧ h = h0)) T0 0 #[.val (.ref a), .val (.int (0 : Int32)), .unset] []
  refine s_aloadN A0 d15_0 (pc' := 1) rfl rfl rfl ?_
  refine g_virtual X0 hx hZ (y := (⟨"java/lang/String", "isLatin1", "()Z"⟩ : MethodName)) hown (hw _ (List.mem_of_getElem? (i := 69) rfl)) (hw _ (List.mem_of_getElem? (i := 70) rfl)) (hw _ (List.mem_of_getElem? (i := 72) rfl)) (hw _ (List.mem_of_getElem? (i := 71) rfl)) (hw _ (List.mem_of_getElem? (i := 6) rfl)) (hw _ (List.mem_of_getElem? (i := 73) rfl)) (by decide) Ea (argsL := []) (rest := []) (c_lat l Z a0 hw [] a cz h0 n0 Z0 Ea Fc O SC hcz) pd_7 rfl rfl (hb hby d15_1) e0 (by rw [hml]; rfl) (pc' := 4) rfl (by decide) (W := 0) (Nat.le_of_eq rfl) (by decide) (by decide) (by decide) ?_
  intro v1 T1 L1 X1 hQ1
  have A1 := wk X1 hx hby
  have e1 : T1.heap = T1.heap := rfl
  obtain ⟨rfl, N1, hh1⟩ := hQ1
  have e1 : T1.heap = h0 := hh1
  have fr1 := Fr.app N0 N1
  show Go p e below m (Fini s 0 0 (fun v h L => v = some (.int c0) ∧ Fr n0 L ∧ h = h0)) T1 4 #[.val (.ref a), .val (.int (0 : Int32)), .unset] [(.int (1 : Int32))]
  refine s_ifeq A1 d15_4 (pY := 27) (pN := 7) (by decide) (by decide) rfl (fun c => absurd c (by decide)) (fun _ => ?_)
  refine s_iloadN A1 d15_7 (pc' := 8) rfl rfl ?_
  refine s_aloadN A1 d15_8 (pc' := 9) rfl rfl rfl ?_
  refine g_getF X1 hx hZ hown (hw _ (List.mem_of_getElem? (i := 24) rfl)) Via.refl e1 Fv (hb hby d15_9) (pc' := 12) rfl ?_
  intro T2 X2 e2
  have A2 := wk X2 hx hby
  refine g_len X2 hx hZ e2 D (n := (2 : Int32)) rfl (hb hby d15_12) (pc' := 13) rfl ?_
  refine g_static X2 hx hZ (y := (⟨"java/lang/String", "checkIndex", "(II)V"⟩ : MethodName)) hown (hw _ (List.mem_of_getElem? (i := 74) rfl)) (hw _ (List.mem_of_getElem? (i := 75) rfl)) (hw _ (List.mem_of_getElem? (i := 6) rfl)) (hw _ (List.mem_of_getElem? (i := 76) rfl)) (by decide) (argsL := [(.int (0 : Int32)), (.int (2 : Int32))]) (rest := []) (c_chk_0_2 l Z a0 hw [] fv h0 n0 Z0 O SF hfv) pd_8 rfl rfl (hb hby d15_13) e2 (by rw [hml]; rfl) (pc' := 16) rfl (by decide) (W := 0) (Nat.le_of_eq rfl) (by decide) (by decide) (by decide) ?_
  intro v3 T3 L3 X3 hQ3
  have A3 := wk X3 hx hby
  have e3 : T3.heap = T3.heap := rfl
  obtain ⟨rfl, N3, hh3⟩ := hQ3
  have e3 : T3.heap = h0 := hh3
  have fr3 := Fr.app fr1 N3
  show Go p e below m (Fini s 0 0 (fun v h L => v = some (.int c0) ∧ Fr n0 L ∧ h = h0)) T3 16 #[.val (.ref a), .val (.int (0 : Int32)), .unset] []
  refine s_aloadN A3 d15_16 (pc' := 17) rfl rfl rfl ?_
  refine g_getF X3 hx hZ hown (hw _ (List.mem_of_getElem? (i := 24) rfl)) Via.refl e3 Fv (hb hby d15_17) (pc' := 20) rfl ?_
  intro T4 X4 e4
  have A4 := wk X4 hx hby
  refine s_iloadN A4 d15_20 (pc' := 21) rfl rfl ?_
  refine g_baload X4 hx hZ e4 D (by decide) (i := 0) (by decide) (v := (.int c0.toInt8.toInt32)) rfl (hb hby d15_21) (pc' := 22) rfl ?_
  refine s_sipush A4 d15_22 (pc' := 25) rfl (v := (255 : Int32)) (by decide) ?_
  refine s_iand A4 d15_25 (pc' := 26) rfl (own_and255 C0) ?_
  exact g_retI X4 hx hlk hret (hb hby d15_26) ⟨rfl, fr3, e4⟩ (by decide) (by decide)
theorem ef_c_pciN_1_2 (m : MethodId) (x0 : Int32) (x1 : Int32) : entryFrame m #[(.int x0), (.int x1), .null] 3 = mkF m 0 #[.val (.int x0), .val (.int x1), .val .null] [] := by first | (simp [entryFrame, mkF, argsToLocals, Value.category, maxLocals]; done) | rfl
set_option maxRecDepth 65536 in
set_option maxHeartbeats 40000000 in
theorem c_pciN_1_2 (l : Launch) (Z : State) (a0 : Array Value) (hw : ∀ d ∈ tables_1, d.before a0 Z = true) (ws : List Jvm.Cond)  (h0 : Heap) (n0 : Nat) (Z0 : n0 ≤ h0.size)  :
    Ctr l Z (⟨"jdk/internal/util/Preconditions", "checkIndex", "(IILjava/util/function/BiFunction;)I"⟩ : MethodName) jdk_41_method_11_code 3 (some .int) ws ({ frames := 0, cells := 0, slots := 0, locals := 0 } : Room) #[(.int (1 : Int32)), (.int (2 : Int32)), .null] h0 (fun v h L => v = some (.int 1) ∧ Fr n0 L ∧ h = h0) := by
  refine enter pn_18 ?_
  intro p e s m below meth c T0 X0 hx hby hml hret hlk hZ hown hnm e0
  have A0 := wk X0 hx hby
  have N0 := Fr.nil n0
  refine goIn (ef_c_pciN_1_2 m (1 : Int32) (2 : Int32)) ?_
  show Go p e below m (Fini s 0 0 (fun v h L => v = some (.int 1) ∧ Fr n0 L ∧ h = h0)) T0 0 #[.val (.int (1 : Int32)), .val (.int (2 : Int32)), .val .null] []
  refine s_iloadN A0 d18_0 (pc' := 1) rfl rfl ?_
  refine s_iflt A0 d18_1 (pY := 9) (pN := 4) (by decide) (by decide) rfl (fun c => absurd c (by decide)) (fun _ => ?_)
  refine s_iloadN A0 d18_4 (pc' := 5) rfl rfl ?_
  refine s_iloadN A0 d18_5 (pc' := 6) rfl rfl ?_
  refine s_icmplt A0 d18_6 (pY := 16) (pN := 9) (by decide) (by decide) rfl (fun _ => ?_) (fun c => absurd c (by decide))
  refine s_iloadN A0 d18_16 (pc' := 17) rfl rfl ?_
  exact g_retI X0 hx hlk hret (hb hby d18_17) ⟨rfl, N0, e0⟩ (by decide) (by decide)
theorem ef_c_pciA_1_2 (m : MethodId) (x0 : Int32) (x1 : Int32) (x2 : Addr) : entryFrame m #[(.int x0), (.int x1), (.ref x2)] 3 = mkF m 0 #[.val (.int x0), .val (.int x1), .val (.ref x2)] [] := by first | (simp [entryFrame, mkF, argsToLocals, Value.category, maxLocals]; done) | rfl
set_option maxRecDepth 65536 in
set_option maxHeartbeats 40000000 in
theorem c_pciA_1_2 (l : Launch) (Z : State) (a0 : Array Value) (hw : ∀ d ∈ tables_1, d.before a0 Z = true) (ws : List Jvm.Cond) (f : Addr) (h0 : Heap) (n0 : Nat) (Z0 : n0 ≤ h0.size)  :
    Ctr l Z (⟨"jdk/internal/util/Preconditions", "checkIndex", "(IILjava/util/function/BiFunction;)I"⟩ : MethodName) jdk_41_method_11_code 3 (some .int) ws ({ frames := 0, cells := 0, slots := 0, locals := 0 } : Room) #[(.int (1 : Int32)), (.int (2 : Int32)), (.ref f)] h0 (fun v h L => v = some (.int 1) ∧ Fr n0 L ∧ h = h0) := by
  refine enter pn_18 ?_
  intro p e s m below meth c T0 X0 hx hby hml hret hlk hZ hown hnm e0
  have A0 := wk X0 hx hby
  have N0 := Fr.nil n0
  refine goIn (ef_c_pciA_1_2 m (1 : Int32) (2 : Int32) f) ?_
  show Go p e below m (Fini s 0 0 (fun v h L => v = some (.int 1) ∧ Fr n0 L ∧ h = h0)) T0 0 #[.val (.int (1 : Int32)), .val (.int (2 : Int32)), .val (.ref f)] []
  refine s_iloadN A0 d18_0 (pc' := 1) rfl rfl ?_
  refine s_iflt A0 d18_1 (pY := 9) (pN := 4) (by decide) (by decide) rfl (fun c => absurd c (by decide)) (fun _ => ?_)
  refine s_iloadN A0 d18_4 (pc' := 5) rfl rfl ?_
  refine s_iloadN A0 d18_5 (pc' := 6) rfl rfl ?_
  refine s_icmplt A0 d18_6 (pY := 16) (pN := 9) (by decide) (by decide) rfl (fun _ => ?_) (fun c => absurd c (by decide))
  refine s_iloadN A0 d18_16 (pc' := 17) rfl rfl ?_
  exact g_retI X0 hx hlk hret (hb hby d18_17) ⟨rfl, N0, e0⟩ (by decide) (by decide)
theorem ef_c_chk_1_2 (m : MethodId) (x0 : Int32) (x1 : Int32) : entryFrame m #[(.int x0), (.int x1)] 2 = mkF m 0 #[.val (.int x0), .val (.int x1)] [] := by first | (simp [entryFrame, mkF, argsToLocals, Value.category, maxLocals]; done) | rfl
set_option maxRecDepth 65536 in
set_option maxHeartbeats 40000000 in
theorem c_chk_1_2 (l : Launch) (Z : State) (a0 : Array Value) (hw : ∀ d ∈ tables_1, d.before a0 Z = true) (ws : List Jvm.Cond) (fv : Value) (h0 : Heap) (n0 : Nat) (Z0 : n0 ≤ h0.size) (O : Old Z n0 h0) (SF : Sta Z Z.heap "jdk/internal/util/Preconditions" "SIOOBE_FORMATTER" "Ljava/util/function/BiFunction;" fv) (hfv : fv = .null ∨ ∃ f, fv = .ref f) :
    Ctr l Z (⟨"java/lang/String", "checkIndex", "(II)V"⟩ : MethodName) jdk_42_method_155_code 2 none ws ({ frames := 1, cells := 0, slots := 0, locals := 14 } : Room) #[(.int (1 : Int32)), (.int (2 : Int32))] h0 (fun v h L => v = none ∧ Fr n0 L ∧ h = h0) := by
  refine enter pn_17 ?_
  intro p e s m below meth c T0 X0 hx hby hml hret hlk hZ hown hnm e0
  have A0 := wk X0 hx hby
  have N0 := Fr.nil n0
  refine goIn (ef_c_chk_1_2 m (1 : Int32) (2 : Int32)) ?_
  show Go p e below m (Fini s 0 0 (fun v h L => v = none ∧ Fr n0 L ∧ h = h0)) T0 0 #[.val (.int (1 : Int32)), .val (.int (2 : Int32))] []
  rcases hfv with rfl | ⟨f, rfl⟩
  ·
    refine s_iloadN A0 d17_0 (pc' := 1) rfl rfl ?_
    refine s_iloadN A0 d17_1 (pc' := 2) rfl rfl ?_
    have Sf := Sta.ext O.2 SF
    refine g_getS X0 hx hZ hown (hw _ (List.mem_of_getElem? (i := 77) rfl)) Via.refl e0 Sf (hb hby d17_2) (pc' := 5) rfl ?_
    intro T1 X1 e1
    have A1 := wk X1 hx hby
    refine g_static X1 hx hZ (y := (⟨"jdk/internal/util/Preconditions", "checkIndex", "(IILjava/util/function/BiFunction;)I"⟩ : MethodName)) hown (hw _ (List.mem_of_getElem? (i := 79) rfl)) (hw _ (List.mem_of_getElem? (i := 80) rfl)) (hw _ (List.mem_of_getElem? (i := 78) rfl)) (hw _ (List.mem_of_getElem? (i := 81) rfl)) (by decide) (argsL := [(.int (1 : Int32)), (.int (2 : Int32)), .null]) (rest := []) (c_pciN_1_2 l Z a0 hw []  h0 n0 Z0) pd_6 rfl rfl (hb hby d17_5) e1 (by rw [hml]; rfl) (pc' := 8) rfl (by decide) (W := 0) (Nat.le_of_eq rfl) (by decide) (by decide) (by decide) ?_
    intro v2 T2 L2 X2 hQ2
    have A2 := wk X2 hx hby
    have e2 : T2.heap = T2.heap := rfl
    obtain ⟨rfl, N2, hh2⟩ := hQ2
    have e2 : T2.heap = h0 := hh2
    have fr2 := Fr.app N0 N2
    show Go p e below m (Fini s 0 0 (fun v h L => v = none ∧ Fr n0 L ∧ h = h0)) T2 8 #[.val (.int (1 : Int32)), .val (.int (2 : Int32))] [(.int (1 : Int32))]
    refine s_pop A2 d17_8 (pc' := 9) rfl rfl ?_
    exact g_retV X2 hx hlk hret (hb hby d17_9) ⟨rfl, fr2, e2⟩ (by decide) (by decide)
  refine s_iloadN A0 d17_0 (pc' := 1) rfl rfl ?_
  refine s_iloadN A0 d17_1 (pc' := 2) rfl rfl ?_
  have Sf := Sta.ext O.2 SF
  refine g_getS X0 hx hZ hown (hw _ (List.mem_of_getElem? (i := 77) rfl)) Via.refl e0 Sf (hb hby d17_2) (pc' := 5) rfl ?_
  intro T53 X53 e53
  have A53 := wk X53 hx hby
  refine g_static X53 hx hZ (y := (⟨"jdk/internal/util/Preconditions", "checkIndex", "(IILjava/util/function/BiFunction;)I"⟩ : MethodName)) hown (hw _ (List.mem_of_getElem? (i := 79) rfl)) (hw _ (List.mem_of_getElem? (i := 80) rfl)) (hw _ (List.mem_of_getElem? (i := 78) rfl)) (hw _ (List.mem_of_getElem? (i := 81) rfl)) (by decide) (argsL := [(.int (1 : Int32)), (.int (2 : Int32)), (.ref f)]) (rest := []) (c_pciA_1_2 l Z a0 hw [] f h0 n0 Z0) pd_6 rfl rfl (hb hby d17_5) e53 (by rw [hml]; rfl) (pc' := 8) rfl (by decide) (W := 0) (Nat.le_of_eq rfl) (by decide) (by decide) (by decide) ?_
  intro v54 T54 L54 X54 hQ54
  have A54 := wk X54 hx hby
  have e54 : T54.heap = T54.heap := rfl
  obtain ⟨rfl, N54, hh54⟩ := hQ54
  have e54 : T54.heap = h0 := hh54
  have fr54 := Fr.app N0 N54
  show Go p e below m (Fini s 0 0 (fun v h L => v = none ∧ Fr n0 L ∧ h = h0)) T54 8 #[.val (.int (1 : Int32)), .val (.int (2 : Int32))] [(.int (1 : Int32))]
  refine s_pop A54 d17_8 (pc' := 9) rfl rfl ?_
  exact g_retV X54 hx hlk hret (hb hby d17_9) ⟨rfl, fr54, e54⟩ (by decide) (by decide)
theorem ef_c_cpa_1_2 (m : MethodId) (x0 : Addr) (x1 : Int32) : entryFrame m #[(.ref x0), (.int x1)] 3 = mkF m 0 #[.val (.ref x0), .val (.int x1), .unset] [] := by first | (simp [entryFrame, mkF, argsToLocals, Value.category, maxLocals]; done) | rfl
set_option maxRecDepth 65536 in
set_option maxHeartbeats 40000000 in
theorem c_cpa_1_2 (l : Launch) (Z : State) (a0 : Array Value) (hw : ∀ d ∈ tables_1, d.before a0 Z = true) (ws : List Jvm.Cond) (a d : Addr) (cz : Int32) (c0 c1 : Int32) (fv : Value) (h0 : Heap) (n0 : Nat) (Z0 : n0 ≤ h0.size) (Ea : Exa Z h0 a "java/lang/String") (Fv : Fld Z h0 a "java/lang/String" "value" "[B" (.ref d)) (Fc : Fld Z h0 a "java/lang/String" "coder" "B" (.int 0)) (D : Ars Z h0 d .byte [(.int c0.toInt8.toInt32), (.int c1.toInt8.toInt32)]) (O : Old Z n0 h0) (SC : Sta Z Z.heap "java/lang/String" "COMPACT_STRINGS" "Z" (.int cz)) (hcz : ¬ cz = 0) (SF : Sta Z Z.heap "jdk/internal/util/Preconditions" "SIOOBE_FORMATTER" "Ljava/util/function/BiFunction;" fv) (hfv : fv = .null ∨ ∃ f, fv = .ref f) (C0 : 0 ≤ c0.toInt ∧ c0.toInt ≤ 255) (C1 : 0 ≤ c1.toInt ∧ c1.toInt ≤ 255) :
    Ctr l Z (⟨"java/lang/String", "codePointAt", "(I)I"⟩ : MethodName) jdk_42_method_57_code 3 (some .int) ws ({ frames := 2, cells := 0, slots := 0, locals := 27 } : Room) #[(.ref a), (.int (1 : Int32))] h0 (fun v h L => v = some (.int c1) ∧ Fr n0 L ∧ h = h0) := by
  refine enter pn_15 ?_
  intro p e s m below meth c T0 X0 hx hby hml hret hlk hZ hown hnm e0
  have A0 := wk X0 hx hby
  have N0 := Fr.nil n0
  refine goIn (ef_c_cpa_1_2 m a (1 : Int32)) ?_
  show Go p e below m (Fini s 0 0 (fun v h L => v = some (.int c1) ∧ Fr n0 L ∧ h = h0)) T0 0 #[.val (.ref a), .val (.int (1 : Int32)), .unset] []
  refine s_aloadN A0 d15_0 (pc' := 1) rfl rfl rfl ?_
  refine g_virtual X0 hx hZ (y := (⟨"java/lang/String", "isLatin1", "()Z"⟩ : MethodName)) hown (hw _ (List.mem_of_getElem? (i := 69) rfl)) (hw _ (List.mem_of_getElem? (i := 70) rfl)) (hw _ (List.mem_of_getElem? (i := 72) rfl)) (hw _ (List.mem_of_getElem? (i := 71) rfl)) (hw _ (List.mem_of_getElem? (i := 6) rfl)) (hw _ (List.mem_of_getElem? (i := 73) rfl)) (by decide) Ea (argsL := []) (rest := []) (c_lat l Z a0 hw [] a cz h0 n0 Z0 Ea Fc O SC hcz) pd_7 rfl rfl (hb hby d15_1) e0 (by rw [hml]; rfl) (pc' := 4) rfl (by decide) (W := 0) (Nat.le_of_eq rfl) (by decide) (by decide) (by decide) ?_
  intro v1 T1 L1 X1 hQ1
  have A1 := wk X1 hx hby
  have e1 : T1.heap = T1.heap := rfl
  obtain ⟨rfl, N1, hh1⟩ := hQ1
  have e1 : T1.heap = h0 := hh1
  have fr1 := Fr.app N0 N1
  show Go p e below m (Fini s 0 0 (fun v h L => v = some (.int c1) ∧ Fr n0 L ∧ h = h0)) T1 4 #[.val (.ref a), .val (.int (1 : Int32)), .unset] [(.int (1 : Int32))]
  refine s_ifeq A1 d15_4 (pY := 27) (pN := 7) (by decide) (by decide) rfl (fun c => absurd c (by decide)) (fun _ => ?_)
  refine s_iloadN A1 d15_7 (pc' := 8) rfl rfl ?_
  refine s_aloadN A1 d15_8 (pc' := 9) rfl rfl rfl ?_
  refine g_getF X1 hx hZ hown (hw _ (List.mem_of_getElem? (i := 24) rfl)) Via.refl e1 Fv (hb hby d15_9) (pc' := 12) rfl ?_
  intro T2 X2 e2
  have A2 := wk X2 hx hby
  refine g_len X2 hx hZ e2 D (n := (2 : Int32)) rfl (hb hby d15_12) (pc' := 13) rfl ?_
  refine g_static X2 hx hZ (y := (⟨"java/lang/String", "checkIndex", "(II)V"⟩ : MethodName)) hown (hw _ (List.mem_of_getElem? (i := 74) rfl)) (hw _ (List.mem_of_getElem? (i := 75) rfl)) (hw _ (List.mem_of_getElem? (i := 6) rfl)) (hw _ (List.mem_of_getElem? (i := 76) rfl)) (by decide) (argsL := [(.int (1 : Int32)), (.int (2 : Int32))]) (rest := []) (c_chk_1_2 l Z a0 hw [] fv h0 n0 Z0 O SF hfv) pd_8 rfl rfl (hb hby d15_13) e2 (by rw [hml]; rfl) (pc' := 16) rfl (by decide) (W := 0) (Nat.le_of_eq rfl) (by decide) (by decide) (by decide) ?_
  intro v3 T3 L3 X3 hQ3
  have A3 := wk X3 hx hby
  have e3 : T3.heap = T3.heap := rfl
  obtain ⟨rfl, N3, hh3⟩ := hQ3
  have e3 : T3.heap = h0 := hh3
  have fr3 := Fr.app fr1 N3
  show Go p e below m (Fini s 0 0 (fun v h L => v = some (.int c1) ∧ Fr n0 L ∧ h = h0)) T3 16 #[.val (.ref a), .val (.int (1 : Int32)), .unset] []
  refine s_aloadN A3 d15_16 (pc' := 17) rfl rfl rfl ?_
  refine g_getF X3 hx hZ hown (hw _ (List.mem_of_getElem? (i := 24) rfl)) Via.refl e3 Fv (hb hby d15_17) (pc' := 20) rfl ?_
  intro T4 X4 e4
  have A4 := wk X4 hx hby
  refine s_iloadN A4 d15_20 (pc' := 21) rfl rfl ?_
  refine g_baload X4 hx hZ e4 D (by decide) (i := 1) (by decide) (v := (.int c1.toInt8.toInt32)) rfl (hb hby d15_21) (pc' := 22) rfl ?_
  refine s_sipush A4 d15_22 (pc' := 25) rfl (v := (255 : Int32)) (by decide) ?_
  refine s_iand A4 d15_25 (pc' := 26) rfl (own_and255 C1) ?_
  exact g_retI X4 hx hlk hret (hb hby d15_26) ⟨rfl, fr3, e4⟩ (by decide) (by decide)
theorem d13_0 : decode jdk_33_method_40_code 0 = .ok (.iload_n 0, 1) := by decide +kernel
theorem d13_1 : decode jdk_33_method_40_code 1 = .ok (.iload_n 1, 1) := by decide +kernel
theorem d13_2 : decode jdk_33_method_40_code 2 = .ok (.if_icmp .ge 7, 3) := by decide +kernel
theorem d13_5 : decode jdk_33_method_40_code 5 = .ok (.iconst (-1), 1) := by decide +kernel
theorem d13_6 : decode jdk_33_method_40_code 6 = .ok (.goto 13, 3) := by decide +kernel
theorem d13_9 : decode jdk_33_method_40_code 9 = .ok (.iload_n 0, 1) := by decide +kernel
theorem d13_10 : decode jdk_33_method_40_code 10 = .ok (.iload_n 1, 1) := by decide +kernel
theorem d13_11 : decode jdk_33_method_40_code 11 = .ok (.if_icmp .ne 7, 3) := by decide +kernel
theorem d13_14 : decode jdk_33_method_40_code 14 = .ok (.iconst 0, 1) := by decide +kernel
theorem d13_15 : decode jdk_33_method_40_code 15 = .ok (.goto 4, 3) := by decide +kernel
theorem d13_18 : decode jdk_33_method_40_code 18 = .ok (.iconst 1, 1) := by decide +kernel
theorem d13_19 : decode jdk_33_method_40_code 19 = .ok (.ireturn, 1) := by decide +kernel
theorem ef_c_icmp (m : MethodId) (x0 : Int32) (x1 : Int32) : entryFrame m #[(.int x0), (.int x1)] 2 = mkF m 0 #[.val (.int x0), .val (.int x1)] [] := by first | (simp [entryFrame, mkF, argsToLocals, Value.category, maxLocals]; done) | rfl
set_option maxRecDepth 65536 in
set_option maxHeartbeats 40000000 in
theorem c_icmp (l : Launch) (Z : State) (a0 : Array Value) (hw : ∀ d ∈ tables_1, d.before a0 Z = true) (ws : List Jvm.Cond) (x y : Int32) (h0 : Heap) (n0 : Nat) (Z0 : n0 ≤ h0.size)  :
    Ctr l Z (⟨"java/lang/Integer", "compare", "(II)I"⟩ : MethodName) jdk_33_method_40_code 2 (some .int) ws ({ frames := 0, cells := 0, slots := 0, locals := 0 } : Room) #[(.int x), (.int y)] h0 (fun v h L => ∃ z : Int32, v = some (.int z) ∧ (x.toInt < y.toInt ∧ z.toInt = -1 ∨ x.toInt = y.toInt ∧ z.toInt = 0 ∨ y.toInt < x.toInt ∧ z.toInt = 1) ∧ Fr n0 L ∧ h = h0) := by
  refine enter pn_13 ?_
  intro p e s m below meth c T0 X0 hx hby hml hret hlk hZ hown hnm e0
  have A0 := wk X0 hx hby
  have N0 := Fr.nil n0
  refine goIn (ef_c_icmp m x y) ?_
  show Go p e below m (Fini s 0 0 (fun v h L => ∃ z : Int32, v = some (.int z) ∧ (x.toInt < y.toInt ∧ z.toInt = -1 ∨ x.toInt = y.toInt ∧ z.toInt = 0 ∨ y.toInt < x.toInt ∧ z.toInt = 1) ∧ Fr n0 L ∧ h = h0)) T0 0 #[.val (.int x), .val (.int y)] []
  refine s_iloadN A0 d13_0 (pc' := 1) rfl rfl ?_
  refine s_iloadN A0 d13_1 (pc' := 2) rfl rfl ?_
  refine s_icmpge A0 d13_2 (pY := 9) (pN := 5) (by decide) (by decide) rfl ?_ ?_
  · intro c2
    replace c2 := i_ge c2
    refine s_iloadN A0 d13_9 (pc' := 10) rfl rfl ?_
    refine s_iloadN A0 d13_10 (pc' := 11) rfl rfl ?_
    refine s_icmpne A0 d13_11 (pY := 18) (pN := 14) (by decide) (by decide) rfl ?_ ?_
    · intro c11
      replace c11 := i_ne c11
      refine s_iconst A0 d13_18 (pc' := 19) rfl (v := (1 : Int32)) (by decide) ?_
      exact g_retI X0 hx hlk hret (hb hby d13_19) ⟨_, rfl, by rw [show (1 : Int32).toInt = 1 from by decide] <;> omega, N0, e0⟩ (by decide) (by decide)
    · intro c11
      replace c11 := i_eq c11
      refine s_iconst A0 d13_14 (pc' := 15) rfl (v := (0 : Int32)) (by decide) ?_
      refine s_goto A0 d13_15 (pc' := 19) (by decide) (by decide) ?_
      exact g_retI X0 hx hlk hret (hb hby d13_19) ⟨_, rfl, by rw [show (0 : Int32).toInt = 0 from by decide] <;> omega, N0, e0⟩ (by decide) (by decide)
  · intro c2
    replace c2 := i_lt c2
    refine s_iconst A0 d13_5 (pc' := 6) rfl (v := (-1 : Int32)) (by decide) ?_
    refine s_goto A0 d13_6 (pc' := 19) (by decide) (by decide) ?_
    exact g_retI X0 hx hlk hret (hb hby d13_19) ⟨_, rfl, by rw [show (-1 : Int32).toInt = -1 from by decide] <;> omega, N0, e0⟩ (by decide) (by decide)
theorem d19_0 : decode jdk_89_method_18_code 0 = .ok (.iload_n 0, 1) := by decide +kernel
theorem d19_1 : decode jdk_89_method_18_code 1 = .ok (.ldc 73, 2) := by decide +kernel
theorem d19_3 : decode jdk_89_method_18_code 3 = .ok (.if_icmp .lt 7, 3) := by decide +kernel
theorem d19_6 : decode jdk_89_method_18_code 6 = .ok (.iconst 2, 1) := by decide +kernel
theorem d19_7 : decode jdk_89_method_18_code 7 = .ok (.goto 4, 3) := by decide +kernel
theorem d19_10 : decode jdk_89_method_18_code 10 = .ok (.iconst 1, 1) := by decide +kernel
theorem d19_11 : decode jdk_89_method_18_code 11 = .ok (.ireturn, 1) := by decide +kernel
theorem ef_c_cc (m : MethodId) (x0 : Int32) : entryFrame m #[(.int x0)] 1 = mkF m 0 #[.val (.int x0)] [] := by first | (simp [entryFrame, mkF, argsToLocals, Value.category, maxLocals]; done) | rfl
set_option maxRecDepth 65536 in
set_option maxHeartbeats 40000000 in
theorem c_cc (l : Launch) (Z : State) (a0 : Array Value) (hw : ∀ d ∈ tables_1, d.before a0 Z = true) (ws : List Jvm.Cond) (x : Int32) (h0 : Heap) (n0 : Nat) (Z0 : n0 ≤ h0.size) (Hx : x.toInt ≤ 255) :
    Ctr l Z (⟨"java/lang/Character", "charCount", "(I)I"⟩ : MethodName) jdk_89_method_18_code 1 (some .int) ws ({ frames := 0, cells := 0, slots := 0, locals := 0 } : Room) #[(.int x)] h0 (fun v h L => v = some (.int 1) ∧ Fr n0 L ∧ h = h0) := by
  refine enter pn_19 ?_
  intro p e s m below meth c T0 X0 hx hby hml hret hlk hZ hown hnm e0
  have A0 := wk X0 hx hby
  have N0 := Fr.nil n0
  refine goIn (ef_c_cc m x) ?_
  show Go p e below m (Fini s 0 0 (fun v h L => v = some (.int 1) ∧ Fr n0 L ∧ h = h0)) T0 0 #[.val (.int x)] []
  refine s_iloadN A0 d19_0 (pc' := 1) rfl rfl ?_
  refine g_ldcI X0 hx hZ (v := (65536 : Int32)) hown (hw _ (List.mem_of_getElem? (i := 86) rfl)) (hb hby d19_1) (pc' := 3) rfl ?_
  refine s_icmplt A0 d19_3 (pY := 10) (pN := 6) (by decide) (by decide) rfl ?_ ?_
  · intro c3
    replace c3 := i_lt c3
    rw [show (65536 : Int32).toInt = 65536 from by decide] at c3
    refine s_iconst A0 d19_10 (pc' := 11) rfl (v := (1 : Int32)) (by decide) ?_
    exact g_retI X0 hx hlk hret (hb hby d19_11) ⟨rfl, N0, e0⟩ (by decide) (by decide)
  · intro c3
    replace c3 := i_ge c3
    rw [show (65536 : Int32).toInt = 65536 from by decide] at c3
    exfalso; omega
theorem d6_0 : decode prog_17_method_7_code 0 = .ok (.iconst 0, 1) := by decide +kernel
theorem d6_1 : decode prog_17_method_7_code 1 = .ok (.istore 4, 2) := by decide +kernel
theorem d6_3 : decode prog_17_method_7_code 3 = .ok (.dload_n 0, 1) := by decide +kernel
theorem d6_4 : decode prog_17_method_7_code 4 = .ok (.dload_n 2, 1) := by decide +kernel
theorem d6_5 : decode prog_17_method_7_code 5 = .ok (.dcmp .l, 1) := by decide +kernel
theorem d6_6 : decode prog_17_method_7_code 6 = .ok (.ifCond .le 9, 3) := by decide +kernel
theorem d6_9 : decode prog_17_method_7_code 9 = .ok (.iconst (-1), 1) := by decide +kernel
theorem d6_10 : decode prog_17_method_7_code 10 = .ok (.istore 4, 2) := by decide +kernel
theorem d6_12 : decode prog_17_method_7_code 12 = .ok (.goto 12, 3) := by decide +kernel
theorem d6_15 : decode prog_17_method_7_code 15 = .ok (.dload_n 0, 1) := by decide +kernel
theorem d6_16 : decode prog_17_method_7_code 16 = .ok (.dload_n 2, 1) := by decide +kernel
theorem d6_17 : decode prog_17_method_7_code 17 = .ok (.dcmp .g, 1) := by decide +kernel
theorem d6_18 : decode prog_17_method_7_code 18 = .ok (.ifCond .ge 6, 3) := by decide +kernel
theorem d6_21 : decode prog_17_method_7_code 21 = .ok (.iconst 1, 1) := by decide +kernel
theorem d6_22 : decode prog_17_method_7_code 22 = .ok (.istore 4, 2) := by decide +kernel
theorem d6_24 : decode prog_17_method_7_code 24 = .ok (.iload 4, 2) := by decide +kernel
theorem d6_26 : decode prog_17_method_7_code 26 = .ok (.ireturn, 1) := by decide +kernel
theorem ef_c_cs (m : MethodId) (x0 : UInt64) (x1 : UInt64) : entryFrame m #[(.double x0), (.double x1)] 5 = mkF m 0 #[.val (.double x0), .second, .val (.double x1), .second, .unset] [] := by first | (simp [entryFrame, mkF, argsToLocals, Value.category, maxLocals]; done) | rfl
set_option maxRecDepth 65536 in
set_option maxHeartbeats 40000000 in
theorem c_cs (l : Launch) (Z : State) (a0 : Array Value) (hw : ∀ d ∈ tables_1, d.before a0 Z = true) (ws : List Jvm.Cond) (x y : UInt64) (nx ny : Int) (h0 : Heap) (n0 : Nat) (Z0 : n0 ≤ h0.size) (Hx : Dy nx 0 x) (Hy : Dy ny 0 y) :
    Ctr l Z (⟨"com/example/prox2/prox2/format/RunOrder", "compareScores", "(DD)I"⟩ : MethodName) prog_17_method_7_code 5 (some .int) ws ({ frames := 0, cells := 0, slots := 0, locals := 0 } : Room) #[(.double x), (.double y)] h0 (fun v h L => ∃ z : Int32, v = some (.int z) ∧ (ny < nx ∧ z.toInt = -1 ∨ nx < ny ∧ z.toInt = 1 ∨ nx = ny ∧ z.toInt = 0) ∧ Fr n0 L ∧ h = h0) := by
  refine enter pn_6 ?_
  intro p e s m below meth c T0 X0 hx hby hml hret hlk hZ hown hnm e0
  have A0 := wk X0 hx hby
  have N0 := Fr.nil n0
  refine goIn (ef_c_cs m x y) ?_
  show Go p e below m (Fini s 0 0 (fun v h L => ∃ z : Int32, v = some (.int z) ∧ (ny < nx ∧ z.toInt = -1 ∨ nx < ny ∧ z.toInt = 1 ∨ nx = ny ∧ z.toInt = 0) ∧ Fr n0 L ∧ h = h0)) T0 0 #[.val (.double x), .second, .val (.double y), .second, .unset] []
  refine s_iconst A0 d6_0 (pc' := 1) rfl (v := (0 : Int32)) (by decide) ?_
  refine s_istore A0 d6_1 (pc' := 3) rfl (ls' := #[.val (.double x), .second, .val (.double y), .second, .val (.int (0 : Int32))]) rfl ?_
  refine s_dloadN A0 d6_3 (pc' := 4) rfl rfl ?_
  refine s_dloadN A0 d6_4 (pc' := 5) rfl rfl ?_
  refine s_dcmp A0 d6_5 (pc' := 6) rfl (Dy.cl Hx Hy .l) ?_
  refine s_ifle A0 d6_6 (pY := 15) (pN := 9) (by decide) (by decide) rfl ?_ ?_
  · intro c6
    replace c6 := cmpI_le c6
    refine s_dloadN A0 d6_15 (pc' := 16) rfl rfl ?_
    refine s_dloadN A0 d6_16 (pc' := 17) rfl rfl ?_
    refine s_dcmp A0 d6_17 (pc' := 18) rfl (Dy.cl Hx Hy .g) ?_
    refine s_ifge A0 d6_18 (pY := 24) (pN := 21) (by decide) (by decide) rfl ?_ ?_
    · intro c18
      replace c18 := cmpI_ge c18
      refine s_iload A0 d6_24 (pc' := 26) rfl rfl ?_
      exact g_retI X0 hx hlk hret (hb hby d6_26) ⟨_, rfl, by rw [show (0 : Int32).toInt = 0 from by decide] <;> omega, N0, e0⟩ (by decide) (by decide)
    · intro c18
      replace c18 := cmpI_lt c18
      refine s_iconst A0 d6_21 (pc' := 22) rfl (v := (1 : Int32)) (by decide) ?_
      refine s_istore A0 d6_22 (pc' := 24) rfl (ls' := #[.val (.double x), .second, .val (.double y), .second, .val (.int (1 : Int32))]) rfl ?_
      refine s_iload A0 d6_24 (pc' := 26) rfl rfl ?_
      exact g_retI X0 hx hlk hret (hb hby d6_26) ⟨_, rfl, by rw [show (1 : Int32).toInt = 1 from by decide] <;> omega, N0, e0⟩ (by decide) (by decide)
  · intro c6
    replace c6 := cmpI_gt c6
    refine s_iconst A0 d6_9 (pc' := 10) rfl (v := (-1 : Int32)) (by decide) ?_
    refine s_istore A0 d6_10 (pc' := 12) rfl (ls' := #[.val (.double x), .second, .val (.double y), .second, .val (.int (-1 : Int32))]) rfl ?_
    refine s_goto A0 d6_12 (pc' := 24) (by decide) (by decide) ?_
    refine s_iload A0 d6_24 (pc' := 26) rfl rfl ?_
    exact g_retI X0 hx hlk hret (hb hby d6_26) ⟨_, rfl, by rw [show (-1 : Int32).toInt = -1 from by decide] <;> omega, N0, e0⟩ (by decide) (by decide)
theorem d10_0 : decode prog_17_method_6_code 0 = .ok (.iconst 0, 1) := by decide +kernel
theorem d10_1 : decode prog_17_method_6_code 1 = .ok (.istore_n 2, 1) := by decide +kernel
theorem d10_2 : decode prog_17_method_6_code 2 = .ok (.iconst 0, 1) := by decide +kernel
theorem d10_3 : decode prog_17_method_6_code 3 = .ok (.istore_n 3, 1) := by decide +kernel
theorem d10_4 : decode prog_17_method_6_code 4 = .ok (.iload_n 2, 1) := by decide +kernel
theorem d10_5 : decode prog_17_method_6_code 5 = .ok (.aload_n 0, 1) := by decide +kernel
theorem d10_6 : decode prog_17_method_6_code 6 = .ok (.invokevirtual 37, 3) := by decide +kernel
theorem d10_9 : decode prog_17_method_6_code 9 = .ok (.if_icmp .ge 59, 3) := by decide +kernel
theorem d10_12 : decode prog_17_method_6_code 12 = .ok (.iload_n 3, 1) := by decide +kernel
theorem d10_13 : decode prog_17_method_6_code 13 = .ok (.aload_n 1, 1) := by decide +kernel
theorem d10_14 : decode prog_17_method_6_code 14 = .ok (.invokevirtual 37, 3) := by decide +kernel
theorem d10_17 : decode prog_17_method_6_code 17 = .ok (.if_icmp .ge 51, 3) := by decide +kernel
theorem d10_20 : decode prog_17_method_6_code 20 = .ok (.aload_n 0, 1) := by decide +kernel
theorem d10_21 : decode prog_17_method_6_code 21 = .ok (.iload_n 2, 1) := by decide +kernel
theorem d10_22 : decode prog_17_method_6_code 22 = .ok (.invokevirtual 43, 3) := by decide +kernel
theorem d10_25 : decode prog_17_method_6_code 25 = .ok (.istore 4, 2) := by decide +kernel
theorem d10_27 : decode prog_17_method_6_code 27 = .ok (.aload_n 1, 1) := by decide +kernel
theorem d10_28 : decode prog_17_method_6_code 28 = .ok (.iload_n 3, 1) := by decide +kernel
theorem d10_29 : decode prog_17_method_6_code 29 = .ok (.invokevirtual 43, 3) := by decide +kernel
theorem d10_32 : decode prog_17_method_6_code 32 = .ok (.istore 5, 2) := by decide +kernel
theorem d10_34 : decode prog_17_method_6_code 34 = .ok (.iload 4, 2) := by decide +kernel
theorem d10_36 : decode prog_17_method_6_code 36 = .ok (.iload 5, 2) := by decide +kernel
theorem d10_38 : decode prog_17_method_6_code 38 = .ok (.if_icmp .eq 11, 3) := by decide +kernel
theorem d10_41 : decode prog_17_method_6_code 41 = .ok (.iload 4, 2) := by decide +kernel
theorem d10_43 : decode prog_17_method_6_code 43 = .ok (.iload 5, 2) := by decide +kernel
theorem d10_45 : decode prog_17_method_6_code 45 = .ok (.invokestatic 31, 3) := by decide +kernel
theorem d10_48 : decode prog_17_method_6_code 48 = .ok (.ireturn, 1) := by decide +kernel
theorem d10_49 : decode prog_17_method_6_code 49 = .ok (.iload_n 2, 1) := by decide +kernel
theorem d10_50 : decode prog_17_method_6_code 50 = .ok (.iload 4, 2) := by decide +kernel
theorem d10_52 : decode prog_17_method_6_code 52 = .ok (.invokestatic 47, 3) := by decide +kernel
theorem d10_55 : decode prog_17_method_6_code 55 = .ok (.iadd, 1) := by decide +kernel
theorem d10_56 : decode prog_17_method_6_code 56 = .ok (.istore_n 2, 1) := by decide +kernel
theorem d10_57 : decode prog_17_method_6_code 57 = .ok (.iload_n 3, 1) := by decide +kernel
theorem d10_58 : decode prog_17_method_6_code 58 = .ok (.iload 5, 2) := by decide +kernel
theorem d10_60 : decode prog_17_method_6_code 60 = .ok (.invokestatic 47, 3) := by decide +kernel
theorem d10_63 : decode prog_17_method_6_code 63 = .ok (.iadd, 1) := by decide +kernel
theorem d10_64 : decode prog_17_method_6_code 64 = .ok (.istore_n 3, 1) := by decide +kernel
theorem d10_65 : decode prog_17_method_6_code 65 = .ok (.goto (-61), 3) := by decide +kernel
theorem d10_68 : decode prog_17_method_6_code 68 = .ok (.aload_n 0, 1) := by decide +kernel
theorem d10_69 : decode prog_17_method_6_code 69 = .ok (.invokevirtual 37, 3) := by decide +kernel
theorem d10_72 : decode prog_17_method_6_code 72 = .ok (.iload_n 2, 1) := by decide +kernel
theorem d10_73 : decode prog_17_method_6_code 73 = .ok (.isub, 1) := by decide +kernel
theorem d10_74 : decode prog_17_method_6_code 74 = .ok (.aload_n 1, 1) := by decide +kernel
theorem d10_75 : decode prog_17_method_6_code 75 = .ok (.invokevirtual 37, 3) := by decide +kernel
theorem d10_78 : decode prog_17_method_6_code 78 = .ok (.iload_n 3, 1) := by decide +kernel
theorem d10_79 : decode prog_17_method_6_code 79 = .ok (.isub, 1) := by decide +kernel
theorem d10_80 : decode prog_17_method_6_code 80 = .ok (.invokestatic 31, 3) := by decide +kernel
theorem d10_83 : decode prog_17_method_6_code 83 = .ok (.ireturn, 1) := by decide +kernel
theorem ef_c_ct0_0 (m : MethodId) (x0 : Addr) (x1 : Addr) : entryFrame m #[(.ref x0), (.ref x1)] 6 = mkF m 0 #[.val (.ref x0), .val (.ref x1), .unset, .unset, .unset, .unset] [] := by first | (simp [entryFrame, mkF, argsToLocals, Value.category, maxLocals]; done) | rfl
set_option maxRecDepth 65536 in
set_option maxHeartbeats 40000000 in
theorem c_ct0_0 (l : Launch) (Z : State) (a0 : Array Value) (hw : ∀ d ∈ tables_1, d.before a0 Z = true) (ws : List Jvm.Cond) (a d b f : Addr) (cz : Int32) (fv : Value)   (h0 : Heap) (n0 : Nat) (Z0 : n0 ≤ h0.size) (Ea : Exa Z h0 a "java/lang/String") (Fv : Fld Z h0 a "java/lang/String" "value" "[B" (.ref d)) (Fc : Fld Z h0 a "java/lang/String" "coder" "B" (.int 0)) (D : Ars Z h0 d .byte []) (O : Old Z n0 h0) (SC : Sta Z Z.heap "java/lang/String" "COMPACT_STRINGS" "Z" (.int cz)) (hcz : ¬ cz = 0) (Eb : Exa Z h0 b "java/lang/String") (Gv : Fld Z h0 b "java/lang/String" "value" "[B" (.ref f)) (Gc : Fld Z h0 b "java/lang/String" "coder" "B" (.int 0)) (D2 : Ars Z h0 f .byte []) (SF : Sta Z Z.heap "jdk/internal/util/Preconditions" "SIOOBE_FORMATTER" "Ljava/util/function/BiFunction;" fv) (hfv : fv = .null ∨ ∃ f, fv = .ref f)   :
    Ctr l Z (⟨"com/example/prox2/prox2/format/RunOrder", "compareAsText", "(Ljava/lang/String;Ljava/lang/String;)I"⟩ : MethodName) prog_17_method_6_code 6 (some .int) ws ({ frames := 2, cells := 0, slots := 0, locals := 26 } : Room) #[(.ref a), (.ref b)] h0 (fun v h L => ∃ z : Int32, v = some (.int z) ∧ (z.toInt = 0) ∧ Fr n0 L ∧ h = h0) := by
  refine enter pn_10 ?_
  intro p e s m below meth c T0 X0 hx hby hml hret hlk hZ hown hnm e0
  have A0 := wk X0 hx hby
  have N0 := Fr.nil n0
  refine goIn (ef_c_ct0_0 m a b) ?_
  show Go p e below m (Fini s 0 0 (fun v h L => ∃ z : Int32, v = some (.int z) ∧ (z.toInt = 0) ∧ Fr n0 L ∧ h = h0)) T0 0 #[.val (.ref a), .val (.ref b), .unset, .unset, .unset, .unset] []
  refine s_iconst A0 d10_0 (pc' := 1) rfl (v := (0 : Int32)) (by decide) ?_
  refine s_istoreN A0 d10_1 (pc' := 2) rfl (ls' := #[.val (.ref a), .val (.ref b), .val (.int (0 : Int32)), .unset, .unset, .unset]) rfl ?_
  refine s_iconst A0 d10_2 (pc' := 3) rfl (v := (0 : Int32)) (by decide) ?_
  refine s_istoreN A0 d10_3 (pc' := 4) rfl (ls' := #[.val (.ref a), .val (.ref b), .val (.int (0 : Int32)), .val (.int (0 : Int32)), .unset, .unset]) rfl ?_
  refine s_iloadN A0 d10_4 (pc' := 5) rfl rfl ?_
  refine s_aloadN A0 d10_5 (pc' := 6) rfl rfl rfl ?_
  refine g_virtual X0 hx hZ (y := (⟨"java/lang/String", "length", "()I"⟩ : MethodName)) hown (hw _ (List.mem_of_getElem? (i := 47) rfl)) (hw _ (List.mem_of_getElem? (i := 48) rfl)) (hw _ (List.mem_of_getElem? (i := 50) rfl)) (hw _ (List.mem_of_getElem? (i := 49) rfl)) (hw _ (List.mem_of_getElem? (i := 6) rfl)) (hw _ (List.mem_of_getElem? (i := 51) rfl)) (by decide) Ea (argsL := []) (rest := [(.int (0 : Int32))]) (c_len_0 l Z a0 hw [] a d cz  h0 n0 Z0 Ea Fv Fc D O SC hcz) pd_9 rfl rfl (hb hby d10_6) e0 (by rw [hml]; rfl) (pc' := 9) rfl (by decide) (W := 1) (Nat.le_of_eq rfl) (by decide) (by decide) (by decide) ?_
  intro v1 T1 L1 X1 hQ1
  have A1 := wk X1 hx hby
  have e1 : T1.heap = T1.heap := rfl
  obtain ⟨rfl, N1, hh1⟩ := hQ1
  have e1 : T1.heap = h0 := hh1
  have fr1 := Fr.app N0 N1
  show Go p e below m (Fini s 0 0 (fun v h L => ∃ z : Int32, v = some (.int z) ∧ (z.toInt = 0) ∧ Fr n0 L ∧ h = h0)) T1 9 #[.val (.ref a), .val (.ref b), .val (.int (0 : Int32)), .val (.int (0 : Int32)), .unset, .unset] [(.int (0 : Int32)), (.int (0 : Int32))]
  refine s_icmpge A1 d10_9 (pY := 68) (pN := 12) (by decide) (by decide) rfl (fun _ => ?_) (fun c => absurd c (by decide))
  refine s_aloadN A1 d10_68 (pc' := 69) rfl rfl rfl ?_
  refine g_virtual X1 hx hZ (y := (⟨"java/lang/String", "length", "()I"⟩ : MethodName)) hown (hw _ (List.mem_of_getElem? (i := 47) rfl)) (hw _ (List.mem_of_getElem? (i := 48) rfl)) (hw _ (List.mem_of_getElem? (i := 50) rfl)) (hw _ (List.mem_of_getElem? (i := 49) rfl)) (hw _ (List.mem_of_getElem? (i := 6) rfl)) (hw _ (List.mem_of_getElem? (i := 51) rfl)) (by decide) Ea (argsL := []) (rest := []) (c_len_0 l Z a0 hw [] a d cz  h0 n0 Z0 Ea Fv Fc D O SC hcz) pd_9 rfl rfl (hb hby d10_69) e1 (by rw [hml]; rfl) (pc' := 72) rfl (by decide) (W := 0) (Nat.le_of_eq rfl) (by decide) (by decide) (by decide) ?_
  intro v2 T2 L2 X2 hQ2
  have A2 := wk X2 hx hby
  have e2 : T2.heap = T2.heap := rfl
  obtain ⟨rfl, N2, hh2⟩ := hQ2
  have e2 : T2.heap = h0 := hh2
  have fr2 := Fr.app fr1 N2
  show Go p e below m (Fini s 0 0 (fun v h L => ∃ z : Int32, v = some (.int z) ∧ (z.toInt = 0) ∧ Fr n0 L ∧ h = h0)) T2 72 #[.val (.ref a), .val (.ref b), .val (.int (0 : Int32)), .val (.int (0 : Int32)), .unset, .unset] [(.int (0 : Int32))]
  refine s_iloadN A2 d10_72 (pc' := 73) rfl rfl ?_
  refine s_isub A2 d10_73 (pc' := 74) rfl (v := (0 : Int32)) (by decide) ?_
  refine s_aloadN A2 d10_74 (pc' := 75) rfl rfl rfl ?_
  refine g_virtual X2 hx hZ (y := (⟨"java/lang/String", "length", "()I"⟩ : MethodName)) hown (hw _ (List.mem_of_getElem? (i := 47) rfl)) (hw _ (List.mem_of_getElem? (i := 48) rfl)) (hw _ (List.mem_of_getElem? (i := 50) rfl)) (hw _ (List.mem_of_getElem? (i := 49) rfl)) (hw _ (List.mem_of_getElem? (i := 6) rfl)) (hw _ (List.mem_of_getElem? (i := 51) rfl)) (by decide) Eb (argsL := []) (rest := [(.int (0 : Int32))]) (c_len_0 l Z a0 hw [] b f cz  h0 n0 Z0 Eb Gv Gc D2 O SC hcz) pd_9 rfl rfl (hb hby d10_75) e2 (by rw [hml]; rfl) (pc' := 78) rfl (by decide) (W := 1) (Nat.le_of_eq rfl) (by decide) (by decide) (by decide) ?_
  intro v3 T3 L3 X3 hQ3
  have A3 := wk X3 hx hby
  have e3 : T3.heap = T3.heap := rfl
  obtain ⟨rfl, N3, hh3⟩ := hQ3
  have e3 : T3.heap = h0 := hh3
  have fr3 := Fr.app fr2 N3
  show Go p e below m (Fini s 0 0 (fun v h L => ∃ z : Int32, v = some (.int z) ∧ (z.toInt = 0) ∧ Fr n0 L ∧ h = h0)) T3 78 #[.val (.ref a), .val (.ref b), .val (.int (0 : Int32)), .val (.int (0 : Int32)), .unset, .unset] [(.int (0 : Int32)), (.int (0 : Int32))]
  refine s_iloadN A3 d10_78 (pc' := 79) rfl rfl ?_
  refine s_isub A3 d10_79 (pc' := 80) rfl (v := (0 : Int32)) (by decide) ?_
  refine g_static X3 hx hZ (y := (⟨"java/lang/Integer", "compare", "(II)I"⟩ : MethodName)) hown (hw _ (List.mem_of_getElem? (i := 57) rfl)) (hw _ (List.mem_of_getElem? (i := 58) rfl)) (hw _ (List.mem_of_getElem? (i := 59) rfl)) (hw _ (List.mem_of_getElem? (i := 60) rfl)) (by decide) (argsL := [(.int (0 : Int32)), (.int (0 : Int32))]) (rest := []) (c_icmp l Z a0 hw [] (0 : Int32) (0 : Int32) h0 n0 Z0) pd_10 rfl rfl (hb hby d10_80) e3 (by rw [hml]; rfl) (pc' := 83) rfl (by decide) (W := 0) (Nat.le_of_eq rfl) (by decide) (by decide) (by decide) ?_
  intro v4 T4 L4 X4 hQ4
  have A4 := wk X4 hx hby
  have e4 : T4.heap = T4.heap := rfl
  obtain ⟨z4, rfl, q4, N4, hh4⟩ := hQ4
  have e4 : T4.heap = h0 := hh4
  have fr4 := Fr.app fr3 N4
  show Go p e below m (Fini s 0 0 (fun v h L => ∃ z : Int32, v = some (.int z) ∧ (z.toInt = 0) ∧ Fr n0 L ∧ h = h0)) T4 83 #[.val (.ref a), .val (.ref b), .val (.int (0 : Int32)), .val (.int (0 : Int32)), .unset, .unset] [(.int z4)]
  try rw [show (0 : Int32).toInt = 0 from by decide] at q4
  try rw [show (0 : Int32).toInt = 0 from by decide] at q4
  exact g_retI X4 hx hlk hret (hb hby d10_83) ⟨_, rfl, by omega, fr4, e4⟩ (by decide) (by decide)
theorem d5_0 : decode prog_17_method_4_code 0 = .ok (.dload_n 0, 1) := by decide +kernel
theorem d5_1 : decode prog_17_method_4_code 1 = .ok (.dload_n 3, 1) := by decide +kernel
theorem d5_2 : decode prog_17_method_4_code 2 = .ok (.invokestatic 23, 3) := by decide +kernel
theorem d5_5 : decode prog_17_method_4_code 5 = .ok (.istore 6, 2) := by decide +kernel
theorem d5_7 : decode prog_17_method_4_code 7 = .ok (.iload 6, 2) := by decide +kernel
theorem d5_9 : decode prog_17_method_4_code 9 = .ok (.ifCond .eq 8, 3) := by decide +kernel
theorem d5_12 : decode prog_17_method_4_code 12 = .ok (.iload 6, 2) := by decide +kernel
theorem d5_14 : decode prog_17_method_4_code 14 = .ok (.goto 9, 3) := by decide +kernel
theorem d5_17 : decode prog_17_method_4_code 17 = .ok (.aload 5, 2) := by decide +kernel
theorem d5_19 : decode prog_17_method_4_code 19 = .ok (.aload_n 2, 1) := by decide +kernel
theorem d5_20 : decode prog_17_method_4_code 20 = .ok (.invokestatic 27, 3) := by decide +kernel
theorem d5_23 : decode prog_17_method_4_code 23 = .ok (.ireturn, 1) := by decide +kernel
theorem ef_c_rc0_0 (m : MethodId) (x0 : UInt64) (x1 : Addr) (x2 : UInt64) (x3 : Addr) : entryFrame m #[(.double x0), (.ref x1), (.double x2), (.ref x3)] 7 = mkF m 0 #[.val (.double x0), .second, .val (.ref x1), .val (.double x2), .second, .val (.ref x3), .unset] [] := by first | (simp [entryFrame, mkF, argsToLocals, Value.category, maxLocals]; done) | rfl
set_option maxRecDepth 65536 in
set_option maxHeartbeats 40000000 in
theorem c_rc0_0 (l : Launch) (Z : State) (a0 : Array Value) (hw : ∀ d ∈ tables_1, d.before a0 Z = true) (ws : List Jvm.Cond) (x y : UInt64) (nx ny : Int) (a d b f : Addr) (cz : Int32) (fv : Value)   (h0 : Heap) (n0 : Nat) (Z0 : n0 ≤ h0.size) (Hx : Dy nx 0 x) (Hy : Dy ny 0 y) (Ea : Exa Z h0 a "java/lang/String") (Fv : Fld Z h0 a "java/lang/String" "value" "[B" (.ref d)) (Fc : Fld Z h0 a "java/lang/String" "coder" "B" (.int 0)) (D : Ars Z h0 d .byte []) (O : Old Z n0 h0) (SC : Sta Z Z.heap "java/lang/String" "COMPACT_STRINGS" "Z" (.int cz)) (hcz : ¬ cz = 0) (Eb : Exa Z h0 b "java/lang/String") (Gv : Fld Z h0 b "java/lang/String" "value" "[B" (.ref f)) (Gc : Fld Z h0 b "java/lang/String" "coder" "B" (.int 0)) (D2 : Ars Z h0 f .byte []) (SF : Sta Z Z.heap "jdk/internal/util/Preconditions" "SIOOBE_FORMATTER" "Ljava/util/function/BiFunction;" fv) (hfv : fv = .null ∨ ∃ f, fv = .ref f)   :
    Ctr l Z (⟨"com/example/prox2/prox2/format/RunOrder", "compare", "(DLjava/lang/String;DLjava/lang/String;)I"⟩ : MethodName) prog_17_method_4_code 7 (some .int) ws ({ frames := 3, cells := 0, slots := 0, locals := 43 } : Room) #[(.double x), (.ref b), (.double y), (.ref a)] h0 (fun v h L => ∃ z : Int32, v = some (.int z) ∧ (ny < nx ∧ z.toInt = -1 ∨ nx < ny ∧ z.toInt = 1 ∨ nx = ny ∧ (z.toInt = 0)) ∧ Fr n0 L ∧ h = h0) := by
  refine enter pn_5 ?_
  intro p e s m below meth c T0 X0 hx hby hml hret hlk hZ hown hnm e0
  have A0 := wk X0 hx hby
  have N0 := Fr.nil n0
  refine goIn (ef_c_rc0_0 m x b y a) ?_
  show Go p e below m (Fini s 0 0 (fun v h L => ∃ z : Int32, v = some (.int z) ∧ (ny < nx ∧ z.toInt = -1 ∨ nx < ny ∧ z.toInt = 1 ∨ nx = ny ∧ (z.toInt = 0)) ∧ Fr n0 L ∧ h = h0)) T0 0 #[.val (.double x), .second, .val (.ref b), .val (.double y), .second, .val (.ref a), .unset] []
  refine s_dloadN A0 d5_0 (pc' := 1) rfl rfl ?_
  refine s_dloadN A0 d5_1 (pc' := 2) rfl rfl ?_
  refine g_static X0 hx hZ (y := (⟨"com/example/prox2/prox2/format/RunOrder", "compareScores", "(DD)I"⟩ : MethodName)) hown (hw _ (List.mem_of_getElem? (i := 30) rfl)) (hw _ (List.mem_of_getElem? (i := 31) rfl)) (hw _ (List.mem_of_getElem? (i := 28) rfl)) (hw _ (List.mem_of_getElem? (i := 32) rfl)) (by decide) (argsL := [(.double x), (.double y)]) (rest := []) (c_cs l Z a0 hw [] x y nx ny h0 n0 Z0 Hx Hy) pd_11 rfl rfl (hb hby d5_2) e0 (by rw [hml]; rfl) (pc' := 5) rfl (by decide) (W := 0) (Nat.le_of_eq rfl) (by decide) (by decide) (by decide) ?_
  intro v1 T1 L1 X1 hQ1
  have A1 := wk X1 hx hby
  have e1 : T1.heap = T1.heap := rfl
  obtain ⟨z1, rfl, q1, N1, hh1⟩ := hQ1
  have e1 : T1.heap = h0 := hh1
  have fr1 := Fr.app N0 N1
  show Go p e below m (Fini s 0 0 (fun v h L => ∃ z : Int32, v = some (.int z) ∧ (ny < nx ∧ z.toInt = -1 ∨ nx < ny ∧ z.toInt = 1 ∨ nx = ny ∧ (z.toInt = 0)) ∧ Fr n0 L ∧ h = h0)) T1 5 #[.val (.double x), .second, .val (.ref b), .val (.double y), .second, .val (.ref a), .unset] [(.int z1)]
  refine s_istore A1 d5_5 (pc' := 7) rfl (ls' := #[.val (.double x), .second, .val (.ref b), .val (.double y), .second, .val (.ref a), .val (.int z1)]) rfl ?_
  refine s_iload A1 d5_7 (pc' := 9) rfl rfl ?_
  refine s_ifeq A1 d5_9 (pY := 17) (pN := 12) (by decide) (by decide) rfl ?_ ?_
  · intro c9
    replace c9 := iz_eq c9
    refine s_aload A1 d5_17 (pc' := 19) rfl rfl rfl ?_
    refine s_aloadN A1 d5_19 (pc' := 20) rfl rfl rfl ?_
    refine g_static X1 hx hZ (y := (⟨"com/example/prox2/prox2/format/RunOrder", "compareAsText", "(Ljava/lang/String;Ljava/lang/String;)I"⟩ : MethodName)) hown (hw _ (List.mem_of_getElem? (i := 44) rfl)) (hw _ (List.mem_of_getElem? (i := 45) rfl)) (hw _ (List.mem_of_getElem? (i := 28) rfl)) (hw _ (List.mem_of_getElem? (i := 46) rfl)) (by decide) (argsL := [(.ref a), (.ref b)]) (rest := []) (c_ct0_0 l Z a0 hw [] a d b f cz fv   h0 n0 Z0 Ea Fv Fc D O SC hcz Eb Gv Gc D2 SF hfv  ) pd_12 rfl rfl (hb hby d5_20) e1 (by rw [hml]; rfl) (pc' := 23) rfl (by decide) (W := 0) (Nat.le_of_eq rfl) (by decide) (by decide) (by decide) ?_
    intro v2 T2 L2 X2 hQ2
    have A2 := wk X2 hx hby
    have e2 : T2.heap = T2.heap := rfl
    obtain ⟨z2, rfl, q2, N2, hh2⟩ := hQ2
    have e2 : T2.heap = h0 := hh2
    have fr2 := Fr.app fr1 N2
    show Go p e below m (Fini s 0 0 (fun v h L => ∃ z : Int32, v = some (.int z) ∧ (ny < nx ∧ z.toInt = -1 ∨ nx < ny ∧ z.toInt = 1 ∨ nx = ny ∧ (z.toInt = 0)) ∧ Fr n0 L ∧ h = h0)) T2 23 #[.val (.double x), .second, .val (.ref b), .val (.double y), .second, .val (.ref a), .val (.int z1)] [(.int z2)]
    exact g_retI X2 hx hlk hret (hb hby d5_23) ⟨_, rfl, by omega, fr2, e2⟩ (by decide) (by decide)
  · intro c9
    replace c9 := iz_ne c9
    refine s_iload A1 d5_12 (pc' := 14) rfl rfl ?_
    refine s_goto A1 d5_14 (pc' := 23) (by decide) (by decide) ?_
    exact g_retI X1 hx hlk hret (hb hby d5_23) ⟨_, rfl, by omega, fr1, e1⟩ (by decide) (by decide)
theorem d14_0 : decode method_4_code 0 = .ok (.iload_n 0, 1) := by decide +kernel
theorem d14_1 : decode method_4_code 1 = .ok (.ifCond .le 53, 3) := by decide +kernel
theorem d14_4 : decode method_4_code 4 = .ok (.iload_n 3, 1) := by decide +kernel
theorem d14_5 : decode method_4_code 5 = .ok (.ifCond .le 49, 3) := by decide +kernel
theorem d14_8 : decode method_4_code 8 = .ok (.iload_n 1, 1) := by decide +kernel
theorem d14_9 : decode method_4_code 9 = .ok (.iload 4, 2) := by decide +kernel
theorem d14_11 : decode method_4_code 11 = .ok (.if_icmp .eq 15, 3) := by decide +kernel
theorem d14_14 : decode method_4_code 14 = .ok (.iload_n 1, 1) := by decide +kernel
theorem d14_15 : decode method_4_code 15 = .ok (.iload 4, 2) := by decide +kernel
theorem d14_17 : decode method_4_code 17 = .ok (.if_icmp .ge 7, 3) := by decide +kernel
theorem d14_20 : decode method_4_code 20 = .ok (.iconst (-1), 1) := by decide +kernel
theorem d14_21 : decode method_4_code 21 = .ok (.goto 4, 3) := by decide +kernel
theorem d14_24 : decode method_4_code 24 = .ok (.iconst 1, 1) := by decide +kernel
theorem d14_25 : decode method_4_code 25 = .ok (.ireturn, 1) := by decide +kernel
theorem d14_26 : decode method_4_code 26 = .ok (.iload_n 0, 1) := by decide +kernel
theorem d14_27 : decode method_4_code 27 = .ok (.iconst 1, 1) := by decide +kernel
theorem d14_28 : decode method_4_code 28 = .ok (.if_icmp .le 26, 3) := by decide +kernel
theorem d14_31 : decode method_4_code 31 = .ok (.iload_n 3, 1) := by decide +kernel
theorem d14_32 : decode method_4_code 32 = .ok (.iconst 1, 1) := by decide +kernel
theorem d14_33 : decode method_4_code 33 = .ok (.if_icmp .le 21, 3) := by decide +kernel
theorem d14_36 : decode method_4_code 36 = .ok (.iload_n 2, 1) := by decide +kernel
theorem d14_37 : decode method_4_code 37 = .ok (.iload 5, 2) := by decide +kernel
theorem d14_39 : decode method_4_code 39 = .ok (.if_icmp .eq 15, 3) := by decide +kernel
theorem d14_42 : decode method_4_code 42 = .ok (.iload_n 2, 1) := by decide +kernel
theorem d14_43 : decode method_4_code 43 = .ok (.iload 5, 2) := by decide +kernel
theorem d14_45 : decode method_4_code 45 = .ok (.if_icmp .ge 7, 3) := by decide +kernel
theorem d14_48 : decode method_4_code 48 = .ok (.iconst (-1), 1) := by decide +kernel
theorem d14_49 : decode method_4_code 49 = .ok (.goto 4, 3) := by decide +kernel
theorem d14_52 : decode method_4_code 52 = .ok (.iconst 1, 1) := by decide +kernel
theorem d14_53 : decode method_4_code 53 = .ok (.ireturn, 1) := by decide +kernel
theorem d14_54 : decode method_4_code 54 = .ok (.iload_n 0, 1) := by decide +kernel
theorem d14_55 : decode method_4_code 55 = .ok (.iload_n 3, 1) := by decide +kernel
theorem d14_56 : decode method_4_code 56 = .ok (.if_icmp .ge 7, 3) := by decide +kernel
theorem d14_59 : decode method_4_code 59 = .ok (.iconst (-1), 1) := by decide +kernel
theorem d14_60 : decode method_4_code 60 = .ok (.goto 13, 3) := by decide +kernel
theorem d14_63 : decode method_4_code 63 = .ok (.iload_n 0, 1) := by decide +kernel
theorem d14_64 : decode method_4_code 64 = .ok (.iload_n 3, 1) := by decide +kernel
theorem d14_65 : decode method_4_code 65 = .ok (.if_icmp .le 7, 3) := by decide +kernel
theorem d14_68 : decode method_4_code 68 = .ok (.iconst 1, 1) := by decide +kernel
theorem d14_69 : decode method_4_code 69 = .ok (.goto 4, 3) := by decide +kernel
theorem d14_72 : decode method_4_code 72 = .ok (.iconst 0, 1) := by decide +kernel
theorem d14_73 : decode method_4_code 73 = .ok (.ireturn, 1) := by decide +kernel
theorem ef_c_ck0_0 (m : MethodId) (x0 : Int32) (x1 : Int32) (x2 : Int32) (x3 : Int32) (x4 : Int32) (x5 : Int32) : entryFrame m #[(.int x0), (.int x1), (.int x2), (.int x3), (.int x4), (.int x5)] 6 = mkF m 0 #[.val (.int x0), .val (.int x1), .val (.int x2), .val (.int x3), .val (.int x4), .val (.int x5)] [] := by first | (simp [entryFrame, mkF, argsToLocals, Value.category, maxLocals]; done) | rfl
set_option maxRecDepth 65536 in
set_option maxHeartbeats 40000000 in
theorem c_ck0_0 (l : Launch) (Z : State) (a0 : Array Value) (hw : ∀ d ∈ tables_1, d.before a0 Z = true) (ws : List Jvm.Cond) (c0 c1 g0 g1 : Int32) (h0 : Heap) (n0 : Nat) (Z0 : n0 ≤ h0.size)  :
    Ctr l Z (⟨"com/example/prox2/prox2/format/RunOrderComparePinLaw", "cmp", "(ICCICC)I"⟩ : MethodName) method_4_code 6 (some .int) ws ({ frames := 0, cells := 0, slots := 0, locals := 0 } : Room) #[(.int (0 : Int32)), (.int c0), (.int c1), (.int (0 : Int32)), (.int g0), (.int g1)] h0 (fun v h L => ∃ z : Int32, v = some (.int z) ∧ (z.toInt = 0) ∧ Fr n0 L ∧ h = h0) := by
  refine enter pn_14 ?_
  intro p e s m below meth c T0 X0 hx hby hml hret hlk hZ hown hnm e0
  have A0 := wk X0 hx hby
  have N0 := Fr.nil n0
  refine goIn (ef_c_ck0_0 m (0 : Int32) c0 c1 (0 : Int32) g0 g1) ?_
  show Go p e below m (Fini s 0 0 (fun v h L => ∃ z : Int32, v = some (.int z) ∧ (z.toInt = 0) ∧ Fr n0 L ∧ h = h0)) T0 0 #[.val (.int (0 : Int32)), .val (.int c0), .val (.int c1), .val (.int (0 : Int32)), .val (.int g0), .val (.int g1)] []
  refine s_iloadN A0 d14_0 (pc' := 1) rfl rfl ?_
  refine s_ifle A0 d14_1 (pY := 54) (pN := 4) (by decide) (by decide) rfl (fun _ => ?_) (fun c => absurd c (by decide))
  refine s_iloadN A0 d14_54 (pc' := 55) rfl rfl ?_
  refine s_iloadN A0 d14_55 (pc' := 56) rfl rfl ?_
  refine s_icmpge A0 d14_56 (pY := 63) (pN := 59) (by decide) (by decide) rfl (fun _ => ?_) (fun c => absurd c (by decide))
  refine s_iloadN A0 d14_63 (pc' := 64) rfl rfl ?_
  refine s_iloadN A0 d14_64 (pc' := 65) rfl rfl ?_
  refine s_icmple A0 d14_65 (pY := 72) (pN := 68) (by decide) (by decide) rfl (fun _ => ?_) (fun c => absurd c (by decide))
  refine s_iconst A0 d14_72 (pc' := 73) rfl (v := (0 : Int32)) (by decide) ?_
  exact g_retI X0 hx hlk hret (hb hby d14_73) ⟨_, rfl, by rw [show (0 : Int32).toInt = 0 from by decide] <;> omega, N0, e0⟩ (by decide) (by decide)
theorem ef_c_ct0_1 (m : MethodId) (x0 : Addr) (x1 : Addr) : entryFrame m #[(.ref x0), (.ref x1)] 6 = mkF m 0 #[.val (.ref x0), .val (.ref x1), .unset, .unset, .unset, .unset] [] := by first | (simp [entryFrame, mkF, argsToLocals, Value.category, maxLocals]; done) | rfl
set_option maxRecDepth 65536 in
set_option maxHeartbeats 40000000 in
theorem c_ct0_1 (l : Launch) (Z : State) (a0 : Array Value) (hw : ∀ d ∈ tables_1, d.before a0 Z = true) (ws : List Jvm.Cond) (a d b f : Addr) (cz : Int32) (fv : Value)  (g0 : Int32) (h0 : Heap) (n0 : Nat) (Z0 : n0 ≤ h0.size) (Ea : Exa Z h0 a "java/lang/String") (Fv : Fld Z h0 a "java/lang/String" "value" "[B" (.ref d)) (Fc : Fld Z h0 a "java/lang/String" "coder" "B" (.int 0)) (D : Ars Z h0 d .byte []) (O : Old Z n0 h0) (SC : Sta Z Z.heap "java/lang/String" "COMPACT_STRINGS" "Z" (.int cz)) (hcz : ¬ cz = 0) (Eb : Exa Z h0 b "java/lang/String") (Gv : Fld Z h0 b "java/lang/String" "value" "[B" (.ref f)) (Gc : Fld Z h0 b "java/lang/String" "coder" "B" (.int 0)) (D2 : Ars Z h0 f .byte [(.int g0.toInt8.toInt32)]) (SF : Sta Z Z.heap "jdk/internal/util/Preconditions" "SIOOBE_FORMATTER" "Ljava/util/function/BiFunction;" fv) (hfv : fv = .null ∨ ∃ f, fv = .ref f)  (G0 : 0 ≤ g0.toInt ∧ g0.toInt ≤ 255) :
    Ctr l Z (⟨"com/example/prox2/prox2/format/RunOrder", "compareAsText", "(Ljava/lang/String;Ljava/lang/String;)I"⟩ : MethodName) prog_17_method_6_code 6 (some .int) ws ({ frames := 2, cells := 0, slots := 0, locals := 26 } : Room) #[(.ref a), (.ref b)] h0 (fun v h L => ∃ z : Int32, v = some (.int z) ∧ (z.toInt = -1) ∧ Fr n0 L ∧ h = h0) := by
  refine enter pn_10 ?_
  intro p e s m below meth c T0 X0 hx hby hml hret hlk hZ hown hnm e0
  have A0 := wk X0 hx hby
  have N0 := Fr.nil n0
  refine goIn (ef_c_ct0_1 m a b) ?_
  show Go p e below m (Fini s 0 0 (fun v h L => ∃ z : Int32, v = some (.int z) ∧ (z.toInt = -1) ∧ Fr n0 L ∧ h = h0)) T0 0 #[.val (.ref a), .val (.ref b), .unset, .unset, .unset, .unset] []
  refine s_iconst A0 d10_0 (pc' := 1) rfl (v := (0 : Int32)) (by decide) ?_
  refine s_istoreN A0 d10_1 (pc' := 2) rfl (ls' := #[.val (.ref a), .val (.ref b), .val (.int (0 : Int32)), .unset, .unset, .unset]) rfl ?_
  refine s_iconst A0 d10_2 (pc' := 3) rfl (v := (0 : Int32)) (by decide) ?_
  refine s_istoreN A0 d10_3 (pc' := 4) rfl (ls' := #[.val (.ref a), .val (.ref b), .val (.int (0 : Int32)), .val (.int (0 : Int32)), .unset, .unset]) rfl ?_
  refine s_iloadN A0 d10_4 (pc' := 5) rfl rfl ?_
  refine s_aloadN A0 d10_5 (pc' := 6) rfl rfl rfl ?_
  refine g_virtual X0 hx hZ (y := (⟨"java/lang/String", "length", "()I"⟩ : MethodName)) hown (hw _ (List.mem_of_getElem? (i := 47) rfl)) (hw _ (List.mem_of_getElem? (i := 48) rfl)) (hw _ (List.mem_of_getElem? (i := 50) rfl)) (hw _ (List.mem_of_getElem? (i := 49) rfl)) (hw _ (List.mem_of_getElem? (i := 6) rfl)) (hw _ (List.mem_of_getElem? (i := 51) rfl)) (by decide) Ea (argsL := []) (rest := [(.int (0 : Int32))]) (c_len_0 l Z a0 hw [] a d cz  h0 n0 Z0 Ea Fv Fc D O SC hcz) pd_9 rfl rfl (hb hby d10_6) e0 (by rw [hml]; rfl) (pc' := 9) rfl (by decide) (W := 1) (Nat.le_of_eq rfl) (by decide) (by decide) (by decide) ?_
  intro v1 T1 L1 X1 hQ1
  have A1 := wk X1 hx hby
  have e1 : T1.heap = T1.heap := rfl
  obtain ⟨rfl, N1, hh1⟩ := hQ1
  have e1 : T1.heap = h0 := hh1
  have fr1 := Fr.app N0 N1
  show Go p e below m (Fini s 0 0 (fun v h L => ∃ z : Int32, v = some (.int z) ∧ (z.toInt = -1) ∧ Fr n0 L ∧ h = h0)) T1 9 #[.val (.ref a), .val (.ref b), .val (.int (0 : Int32)), .val (.int (0 : Int32)), .unset, .unset] [(.int (0 : Int32)), (.int (0 : Int32))]
  refine s_icmpge A1 d10_9 (pY := 68) (pN := 12) (by decide) (by decide) rfl (fun _ => ?_) (fun c => absurd c (by decide))
  refine s_aloadN A1 d10_68 (pc' := 69) rfl rfl rfl ?_
  refine g_virtual X1 hx hZ (y := (⟨"java/lang/String", "length", "()I"⟩ : MethodName)) hown (hw _ (List.mem_of_getElem? (i := 47) rfl)) (hw _ (List.mem_of_getElem? (i := 48) rfl)) (hw _ (List.mem_of_getElem? (i := 50) rfl)) (hw _ (List.mem_of_getElem? (i := 49) rfl)) (hw _ (List.mem_of_getElem? (i := 6) rfl)) (hw _ (List.mem_of_getElem? (i := 51) rfl)) (by decide) Ea (argsL := []) (rest := []) (c_len_0 l Z a0 hw [] a d cz  h0 n0 Z0 Ea Fv Fc D O SC hcz) pd_9 rfl rfl (hb hby d10_69) e1 (by rw [hml]; rfl) (pc' := 72) rfl (by decide) (W := 0) (Nat.le_of_eq rfl) (by decide) (by decide) (by decide) ?_
  intro v2 T2 L2 X2 hQ2
  have A2 := wk X2 hx hby
  have e2 : T2.heap = T2.heap := rfl
  obtain ⟨rfl, N2, hh2⟩ := hQ2
  have e2 : T2.heap = h0 := hh2
  have fr2 := Fr.app fr1 N2
  show Go p e below m (Fini s 0 0 (fun v h L => ∃ z : Int32, v = some (.int z) ∧ (z.toInt = -1) ∧ Fr n0 L ∧ h = h0)) T2 72 #[.val (.ref a), .val (.ref b), .val (.int (0 : Int32)), .val (.int (0 : Int32)), .unset, .unset] [(.int (0 : Int32))]
  refine s_iloadN A2 d10_72 (pc' := 73) rfl rfl ?_
  refine s_isub A2 d10_73 (pc' := 74) rfl (v := (0 : Int32)) (by decide) ?_
  refine s_aloadN A2 d10_74 (pc' := 75) rfl rfl rfl ?_
  refine g_virtual X2 hx hZ (y := (⟨"java/lang/String", "length", "()I"⟩ : MethodName)) hown (hw _ (List.mem_of_getElem? (i := 47) rfl)) (hw _ (List.mem_of_getElem? (i := 48) rfl)) (hw _ (List.mem_of_getElem? (i := 50) rfl)) (hw _ (List.mem_of_getElem? (i := 49) rfl)) (hw _ (List.mem_of_getElem? (i := 6) rfl)) (hw _ (List.mem_of_getElem? (i := 51) rfl)) (by decide) Eb (argsL := []) (rest := [(.int (0 : Int32))]) (c_len_1 l Z a0 hw [] b f cz g0 h0 n0 Z0 Eb Gv Gc D2 O SC hcz) pd_9 rfl rfl (hb hby d10_75) e2 (by rw [hml]; rfl) (pc' := 78) rfl (by decide) (W := 1) (Nat.le_of_eq rfl) (by decide) (by decide) (by decide) ?_
  intro v3 T3 L3 X3 hQ3
  have A3 := wk X3 hx hby
  have e3 : T3.heap = T3.heap := rfl
  obtain ⟨rfl, N3, hh3⟩ := hQ3
  have e3 : T3.heap = h0 := hh3
  have fr3 := Fr.app fr2 N3
  show Go p e below m (Fini s 0 0 (fun v h L => ∃ z : Int32, v = some (.int z) ∧ (z.toInt = -1) ∧ Fr n0 L ∧ h = h0)) T3 78 #[.val (.ref a), .val (.ref b), .val (.int (0 : Int32)), .val (.int (0 : Int32)), .unset, .unset] [(.int (1 : Int32)), (.int (0 : Int32))]
  refine s_iloadN A3 d10_78 (pc' := 79) rfl rfl ?_
  refine s_isub A3 d10_79 (pc' := 80) rfl (v := (1 : Int32)) (by decide) ?_
  refine g_static X3 hx hZ (y := (⟨"java/lang/Integer", "compare", "(II)I"⟩ : MethodName)) hown (hw _ (List.mem_of_getElem? (i := 57) rfl)) (hw _ (List.mem_of_getElem? (i := 58) rfl)) (hw _ (List.mem_of_getElem? (i := 59) rfl)) (hw _ (List.mem_of_getElem? (i := 60) rfl)) (by decide) (argsL := [(.int (0 : Int32)), (.int (1 : Int32))]) (rest := []) (c_icmp l Z a0 hw [] (0 : Int32) (1 : Int32) h0 n0 Z0) pd_10 rfl rfl (hb hby d10_80) e3 (by rw [hml]; rfl) (pc' := 83) rfl (by decide) (W := 0) (Nat.le_of_eq rfl) (by decide) (by decide) (by decide) ?_
  intro v4 T4 L4 X4 hQ4
  have A4 := wk X4 hx hby
  have e4 : T4.heap = T4.heap := rfl
  obtain ⟨z4, rfl, q4, N4, hh4⟩ := hQ4
  have e4 : T4.heap = h0 := hh4
  have fr4 := Fr.app fr3 N4
  show Go p e below m (Fini s 0 0 (fun v h L => ∃ z : Int32, v = some (.int z) ∧ (z.toInt = -1) ∧ Fr n0 L ∧ h = h0)) T4 83 #[.val (.ref a), .val (.ref b), .val (.int (0 : Int32)), .val (.int (0 : Int32)), .unset, .unset] [(.int z4)]
  try rw [show (0 : Int32).toInt = 0 from by decide] at q4
  try rw [show (1 : Int32).toInt = 1 from by decide] at q4
  exact g_retI X4 hx hlk hret (hb hby d10_83) ⟨_, rfl, by omega, fr4, e4⟩ (by decide) (by decide)
theorem ef_c_rc0_1 (m : MethodId) (x0 : UInt64) (x1 : Addr) (x2 : UInt64) (x3 : Addr) : entryFrame m #[(.double x0), (.ref x1), (.double x2), (.ref x3)] 7 = mkF m 0 #[.val (.double x0), .second, .val (.ref x1), .val (.double x2), .second, .val (.ref x3), .unset] [] := by first | (simp [entryFrame, mkF, argsToLocals, Value.category, maxLocals]; done) | rfl
set_option maxRecDepth 65536 in
set_option maxHeartbeats 40000000 in
theorem c_rc0_1 (l : Launch) (Z : State) (a0 : Array Value) (hw : ∀ d ∈ tables_1, d.before a0 Z = true) (ws : List Jvm.Cond) (x y : UInt64) (nx ny : Int) (a d b f : Addr) (cz : Int32) (fv : Value)  (g0 : Int32) (h0 : Heap) (n0 : Nat) (Z0 : n0 ≤ h0.size) (Hx : Dy nx 0 x) (Hy : Dy ny 0 y) (Ea : Exa Z h0 a "java/lang/String") (Fv : Fld Z h0 a "java/lang/String" "value" "[B" (.ref d)) (Fc : Fld Z h0 a "java/lang/String" "coder" "B" (.int 0)) (D : Ars Z h0 d .byte []) (O : Old Z n0 h0) (SC : Sta Z Z.heap "java/lang/String" "COMPACT_STRINGS" "Z" (.int cz)) (hcz : ¬ cz = 0) (Eb : Exa Z h0 b "java/lang/String") (Gv : Fld Z h0 b "java/lang/String" "value" "[B" (.ref f)) (Gc : Fld Z h0 b "java/lang/String" "coder" "B" (.int 0)) (D2 : Ars Z h0 f .byte [(.int g0.toInt8.toInt32)]) (SF : Sta Z Z.heap "jdk/internal/util/Preconditions" "SIOOBE_FORMATTER" "Ljava/util/function/BiFunction;" fv) (hfv : fv = .null ∨ ∃ f, fv = .ref f)  (G0 : 0 ≤ g0.toInt ∧ g0.toInt ≤ 255) :
    Ctr l Z (⟨"com/example/prox2/prox2/format/RunOrder", "compare", "(DLjava/lang/String;DLjava/lang/String;)I"⟩ : MethodName) prog_17_method_4_code 7 (some .int) ws ({ frames := 3, cells := 0, slots := 0, locals := 43 } : Room) #[(.double x), (.ref b), (.double y), (.ref a)] h0 (fun v h L => ∃ z : Int32, v = some (.int z) ∧ (ny < nx ∧ z.toInt = -1 ∨ nx < ny ∧ z.toInt = 1 ∨ nx = ny ∧ (z.toInt = -1)) ∧ Fr n0 L ∧ h = h0) := by
  refine enter pn_5 ?_
  intro p e s m below meth c T0 X0 hx hby hml hret hlk hZ hown hnm e0
  have A0 := wk X0 hx hby
  have N0 := Fr.nil n0
  refine goIn (ef_c_rc0_1 m x b y a) ?_
  show Go p e below m (Fini s 0 0 (fun v h L => ∃ z : Int32, v = some (.int z) ∧ (ny < nx ∧ z.toInt = -1 ∨ nx < ny ∧ z.toInt = 1 ∨ nx = ny ∧ (z.toInt = -1)) ∧ Fr n0 L ∧ h = h0)) T0 0 #[.val (.double x), .second, .val (.ref b), .val (.double y), .second, .val (.ref a), .unset] []
  refine s_dloadN A0 d5_0 (pc' := 1) rfl rfl ?_
  refine s_dloadN A0 d5_1 (pc' := 2) rfl rfl ?_
  refine g_static X0 hx hZ (y := (⟨"com/example/prox2/prox2/format/RunOrder", "compareScores", "(DD)I"⟩ : MethodName)) hown (hw _ (List.mem_of_getElem? (i := 30) rfl)) (hw _ (List.mem_of_getElem? (i := 31) rfl)) (hw _ (List.mem_of_getElem? (i := 28) rfl)) (hw _ (List.mem_of_getElem? (i := 32) rfl)) (by decide) (argsL := [(.double x), (.double y)]) (rest := []) (c_cs l Z a0 hw [] x y nx ny h0 n0 Z0 Hx Hy) pd_11 rfl rfl (hb hby d5_2) e0 (by rw [hml]; rfl) (pc' := 5) rfl (by decide) (W := 0) (Nat.le_of_eq rfl) (by decide) (by decide) (by decide) ?_
  intro v1 T1 L1 X1 hQ1
  have A1 := wk X1 hx hby
  have e1 : T1.heap = T1.heap := rfl
  obtain ⟨z1, rfl, q1, N1, hh1⟩ := hQ1
  have e1 : T1.heap = h0 := hh1
  have fr1 := Fr.app N0 N1
  show Go p e below m (Fini s 0 0 (fun v h L => ∃ z : Int32, v = some (.int z) ∧ (ny < nx ∧ z.toInt = -1 ∨ nx < ny ∧ z.toInt = 1 ∨ nx = ny ∧ (z.toInt = -1)) ∧ Fr n0 L ∧ h = h0)) T1 5 #[.val (.double x), .second, .val (.ref b), .val (.double y), .second, .val (.ref a), .unset] [(.int z1)]
  refine s_istore A1 d5_5 (pc' := 7) rfl (ls' := #[.val (.double x), .second, .val (.ref b), .val (.double y), .second, .val (.ref a), .val (.int z1)]) rfl ?_
  refine s_iload A1 d5_7 (pc' := 9) rfl rfl ?_
  refine s_ifeq A1 d5_9 (pY := 17) (pN := 12) (by decide) (by decide) rfl ?_ ?_
  · intro c9
    replace c9 := iz_eq c9
    refine s_aload A1 d5_17 (pc' := 19) rfl rfl rfl ?_
    refine s_aloadN A1 d5_19 (pc' := 20) rfl rfl rfl ?_
    refine g_static X1 hx hZ (y := (⟨"com/example/prox2/prox2/format/RunOrder", "compareAsText", "(Ljava/lang/String;Ljava/lang/String;)I"⟩ : MethodName)) hown (hw _ (List.mem_of_getElem? (i := 44) rfl)) (hw _ (List.mem_of_getElem? (i := 45) rfl)) (hw _ (List.mem_of_getElem? (i := 28) rfl)) (hw _ (List.mem_of_getElem? (i := 46) rfl)) (by decide) (argsL := [(.ref a), (.ref b)]) (rest := []) (c_ct0_1 l Z a0 hw [] a d b f cz fv  g0 h0 n0 Z0 Ea Fv Fc D O SC hcz Eb Gv Gc D2 SF hfv  G0) pd_12 rfl rfl (hb hby d5_20) e1 (by rw [hml]; rfl) (pc' := 23) rfl (by decide) (W := 0) (Nat.le_of_eq rfl) (by decide) (by decide) (by decide) ?_
    intro v2 T2 L2 X2 hQ2
    have A2 := wk X2 hx hby
    have e2 : T2.heap = T2.heap := rfl
    obtain ⟨z2, rfl, q2, N2, hh2⟩ := hQ2
    have e2 : T2.heap = h0 := hh2
    have fr2 := Fr.app fr1 N2
    show Go p e below m (Fini s 0 0 (fun v h L => ∃ z : Int32, v = some (.int z) ∧ (ny < nx ∧ z.toInt = -1 ∨ nx < ny ∧ z.toInt = 1 ∨ nx = ny ∧ (z.toInt = -1)) ∧ Fr n0 L ∧ h = h0)) T2 23 #[.val (.double x), .second, .val (.ref b), .val (.double y), .second, .val (.ref a), .val (.int z1)] [(.int z2)]
    exact g_retI X2 hx hlk hret (hb hby d5_23) ⟨_, rfl, by omega, fr2, e2⟩ (by decide) (by decide)
  · intro c9
    replace c9 := iz_ne c9
    refine s_iload A1 d5_12 (pc' := 14) rfl rfl ?_
    refine s_goto A1 d5_14 (pc' := 23) (by decide) (by decide) ?_
    exact g_retI X1 hx hlk hret (hb hby d5_23) ⟨_, rfl, by omega, fr1, e1⟩ (by decide) (by decide)
theorem ef_c_ck0_1 (m : MethodId) (x0 : Int32) (x1 : Int32) (x2 : Int32) (x3 : Int32) (x4 : Int32) (x5 : Int32) : entryFrame m #[(.int x0), (.int x1), (.int x2), (.int x3), (.int x4), (.int x5)] 6 = mkF m 0 #[.val (.int x0), .val (.int x1), .val (.int x2), .val (.int x3), .val (.int x4), .val (.int x5)] [] := by first | (simp [entryFrame, mkF, argsToLocals, Value.category, maxLocals]; done) | rfl
set_option maxRecDepth 65536 in
set_option maxHeartbeats 40000000 in
theorem c_ck0_1 (l : Launch) (Z : State) (a0 : Array Value) (hw : ∀ d ∈ tables_1, d.before a0 Z = true) (ws : List Jvm.Cond) (c0 c1 g0 g1 : Int32) (h0 : Heap) (n0 : Nat) (Z0 : n0 ≤ h0.size)  :
    Ctr l Z (⟨"com/example/prox2/prox2/format/RunOrderComparePinLaw", "cmp", "(ICCICC)I"⟩ : MethodName) method_4_code 6 (some .int) ws ({ frames := 0, cells := 0, slots := 0, locals := 0 } : Room) #[(.int (0 : Int32)), (.int c0), (.int c1), (.int (1 : Int32)), (.int g0), (.int g1)] h0 (fun v h L => ∃ z : Int32, v = some (.int z) ∧ (z.toInt = -1) ∧ Fr n0 L ∧ h = h0) := by
  refine enter pn_14 ?_
  intro p e s m below meth c T0 X0 hx hby hml hret hlk hZ hown hnm e0
  have A0 := wk X0 hx hby
  have N0 := Fr.nil n0
  refine goIn (ef_c_ck0_1 m (0 : Int32) c0 c1 (1 : Int32) g0 g1) ?_
  show Go p e below m (Fini s 0 0 (fun v h L => ∃ z : Int32, v = some (.int z) ∧ (z.toInt = -1) ∧ Fr n0 L ∧ h = h0)) T0 0 #[.val (.int (0 : Int32)), .val (.int c0), .val (.int c1), .val (.int (1 : Int32)), .val (.int g0), .val (.int g1)] []
  refine s_iloadN A0 d14_0 (pc' := 1) rfl rfl ?_
  refine s_ifle A0 d14_1 (pY := 54) (pN := 4) (by decide) (by decide) rfl (fun _ => ?_) (fun c => absurd c (by decide))
  refine s_iloadN A0 d14_54 (pc' := 55) rfl rfl ?_
  refine s_iloadN A0 d14_55 (pc' := 56) rfl rfl ?_
  refine s_icmpge A0 d14_56 (pY := 63) (pN := 59) (by decide) (by decide) rfl (fun c => absurd c (by decide)) (fun _ => ?_)
  refine s_iconst A0 d14_59 (pc' := 60) rfl (v := (-1 : Int32)) (by decide) ?_
  refine s_goto A0 d14_60 (pc' := 73) (by decide) (by decide) ?_
  exact g_retI X0 hx hlk hret (hb hby d14_73) ⟨_, rfl, by rw [show (-1 : Int32).toInt = -1 from by decide] <;> omega, N0, e0⟩ (by decide) (by decide)
theorem ef_c_ct0_2 (m : MethodId) (x0 : Addr) (x1 : Addr) : entryFrame m #[(.ref x0), (.ref x1)] 6 = mkF m 0 #[.val (.ref x0), .val (.ref x1), .unset, .unset, .unset, .unset] [] := by first | (simp [entryFrame, mkF, argsToLocals, Value.category, maxLocals]; done) | rfl
set_option maxRecDepth 65536 in
set_option maxHeartbeats 40000000 in
theorem c_ct0_2 (l : Launch) (Z : State) (a0 : Array Value) (hw : ∀ d ∈ tables_1, d.before a0 Z = true) (ws : List Jvm.Cond) (a d b f : Addr) (cz : Int32) (fv : Value)  (g0 g1 : Int32) (h0 : Heap) (n0 : Nat) (Z0 : n0 ≤ h0.size) (Ea : Exa Z h0 a "java/lang/String") (Fv : Fld Z h0 a "java/lang/String" "value" "[B" (.ref d)) (Fc : Fld Z h0 a "java/lang/String" "coder" "B" (.int 0)) (D : Ars Z h0 d .byte []) (O : Old Z n0 h0) (SC : Sta Z Z.heap "java/lang/String" "COMPACT_STRINGS" "Z" (.int cz)) (hcz : ¬ cz = 0) (Eb : Exa Z h0 b "java/lang/String") (Gv : Fld Z h0 b "java/lang/String" "value" "[B" (.ref f)) (Gc : Fld Z h0 b "java/lang/String" "coder" "B" (.int 0)) (D2 : Ars Z h0 f .byte [(.int g0.toInt8.toInt32), (.int g1.toInt8.toInt32)]) (SF : Sta Z Z.heap "jdk/internal/util/Preconditions" "SIOOBE_FORMATTER" "Ljava/util/function/BiFunction;" fv) (hfv : fv = .null ∨ ∃ f, fv = .ref f)  (G0 : 0 ≤ g0.toInt ∧ g0.toInt ≤ 255) (G1 : 0 ≤ g1.toInt ∧ g1.toInt ≤ 255) :
    Ctr l Z (⟨"com/example/prox2/prox2/format/RunOrder", "compareAsText", "(Ljava/lang/String;Ljava/lang/String;)I"⟩ : MethodName) prog_17_method_6_code 6 (some .int) ws ({ frames := 2, cells := 0, slots := 0, locals := 26 } : Room) #[(.ref a), (.ref b)] h0 (fun v h L => ∃ z : Int32, v = some (.int z) ∧ (z.toInt = -1) ∧ Fr n0 L ∧ h = h0) := by
  refine enter pn_10 ?_
  intro p e s m below meth c T0 X0 hx hby hml hret hlk hZ hown hnm e0
  have A0 := wk X0 hx hby
  have N0 := Fr.nil n0
  refine goIn (ef_c_ct0_2 m a b) ?_
  show Go p e below m (Fini s 0 0 (fun v h L => ∃ z : Int32, v = some (.int z) ∧ (z.toInt = -1) ∧ Fr n0 L ∧ h = h0)) T0 0 #[.val (.ref a), .val (.ref b), .unset, .unset, .unset, .unset] []
  refine s_iconst A0 d10_0 (pc' := 1) rfl (v := (0 : Int32)) (by decide) ?_
  refine s_istoreN A0 d10_1 (pc' := 2) rfl (ls' := #[.val (.ref a), .val (.ref b), .val (.int (0 : Int32)), .unset, .unset, .unset]) rfl ?_
  refine s_iconst A0 d10_2 (pc' := 3) rfl (v := (0 : Int32)) (by decide) ?_
  refine s_istoreN A0 d10_3 (pc' := 4) rfl (ls' := #[.val (.ref a), .val (.ref b), .val (.int (0 : Int32)), .val (.int (0 : Int32)), .unset, .unset]) rfl ?_
  refine s_iloadN A0 d10_4 (pc' := 5) rfl rfl ?_
  refine s_aloadN A0 d10_5 (pc' := 6) rfl rfl rfl ?_
  refine g_virtual X0 hx hZ (y := (⟨"java/lang/String", "length", "()I"⟩ : MethodName)) hown (hw _ (List.mem_of_getElem? (i := 47) rfl)) (hw _ (List.mem_of_getElem? (i := 48) rfl)) (hw _ (List.mem_of_getElem? (i := 50) rfl)) (hw _ (List.mem_of_getElem? (i := 49) rfl)) (hw _ (List.mem_of_getElem? (i := 6) rfl)) (hw _ (List.mem_of_getElem? (i := 51) rfl)) (by decide) Ea (argsL := []) (rest := [(.int (0 : Int32))]) (c_len_0 l Z a0 hw [] a d cz  h0 n0 Z0 Ea Fv Fc D O SC hcz) pd_9 rfl rfl (hb hby d10_6) e0 (by rw [hml]; rfl) (pc' := 9) rfl (by decide) (W := 1) (Nat.le_of_eq rfl) (by decide) (by decide) (by decide) ?_
  intro v1 T1 L1 X1 hQ1
  have A1 := wk X1 hx hby
  have e1 : T1.heap = T1.heap := rfl
  obtain ⟨rfl, N1, hh1⟩ := hQ1
  have e1 : T1.heap = h0 := hh1
  have fr1 := Fr.app N0 N1
  show Go p e below m (Fini s 0 0 (fun v h L => ∃ z : Int32, v = some (.int z) ∧ (z.toInt = -1) ∧ Fr n0 L ∧ h = h0)) T1 9 #[.val (.ref a), .val (.ref b), .val (.int (0 : Int32)), .val (.int (0 : Int32)), .unset, .unset] [(.int (0 : Int32)), (.int (0 : Int32))]
  refine s_icmpge A1 d10_9 (pY := 68) (pN := 12) (by decide) (by decide) rfl (fun _ => ?_) (fun c => absurd c (by decide))
  refine s_aloadN A1 d10_68 (pc' := 69) rfl rfl rfl ?_
  refine g_virtual X1 hx hZ (y := (⟨"java/lang/String", "length", "()I"⟩ : MethodName)) hown (hw _ (List.mem_of_getElem? (i := 47) rfl)) (hw _ (List.mem_of_getElem? (i := 48) rfl)) (hw _ (List.mem_of_getElem? (i := 50) rfl)) (hw _ (List.mem_of_getElem? (i := 49) rfl)) (hw _ (List.mem_of_getElem? (i := 6) rfl)) (hw _ (List.mem_of_getElem? (i := 51) rfl)) (by decide) Ea (argsL := []) (rest := []) (c_len_0 l Z a0 hw [] a d cz  h0 n0 Z0 Ea Fv Fc D O SC hcz) pd_9 rfl rfl (hb hby d10_69) e1 (by rw [hml]; rfl) (pc' := 72) rfl (by decide) (W := 0) (Nat.le_of_eq rfl) (by decide) (by decide) (by decide) ?_
  intro v2 T2 L2 X2 hQ2
  have A2 := wk X2 hx hby
  have e2 : T2.heap = T2.heap := rfl
  obtain ⟨rfl, N2, hh2⟩ := hQ2
  have e2 : T2.heap = h0 := hh2
  have fr2 := Fr.app fr1 N2
  show Go p e below m (Fini s 0 0 (fun v h L => ∃ z : Int32, v = some (.int z) ∧ (z.toInt = -1) ∧ Fr n0 L ∧ h = h0)) T2 72 #[.val (.ref a), .val (.ref b), .val (.int (0 : Int32)), .val (.int (0 : Int32)), .unset, .unset] [(.int (0 : Int32))]
  refine s_iloadN A2 d10_72 (pc' := 73) rfl rfl ?_
  refine s_isub A2 d10_73 (pc' := 74) rfl (v := (0 : Int32)) (by decide) ?_
  refine s_aloadN A2 d10_74 (pc' := 75) rfl rfl rfl ?_
  refine g_virtual X2 hx hZ (y := (⟨"java/lang/String", "length", "()I"⟩ : MethodName)) hown (hw _ (List.mem_of_getElem? (i := 47) rfl)) (hw _ (List.mem_of_getElem? (i := 48) rfl)) (hw _ (List.mem_of_getElem? (i := 50) rfl)) (hw _ (List.mem_of_getElem? (i := 49) rfl)) (hw _ (List.mem_of_getElem? (i := 6) rfl)) (hw _ (List.mem_of_getElem? (i := 51) rfl)) (by decide) Eb (argsL := []) (rest := [(.int (0 : Int32))]) (c_len_2 l Z a0 hw [] b f cz g0 g1 h0 n0 Z0 Eb Gv Gc D2 O SC hcz) pd_9 rfl rfl (hb hby d10_75) e2 (by rw [hml]; rfl) (pc' := 78) rfl (by decide) (W := 1) (Nat.le_of_eq rfl) (by decide) (by decide) (by decide) ?_
  intro v3 T3 L3 X3 hQ3
  have A3 := wk X3 hx hby
  have e3 : T3.heap = T3.heap := rfl
  obtain ⟨rfl, N3, hh3⟩ := hQ3
  have e3 : T3.heap = h0 := hh3
  have fr3 := Fr.app fr2 N3
  show Go p e below m (Fini s 0 0 (fun v h L => ∃ z : Int32, v = some (.int z) ∧ (z.toInt = -1) ∧ Fr n0 L ∧ h = h0)) T3 78 #[.val (.ref a), .val (.ref b), .val (.int (0 : Int32)), .val (.int (0 : Int32)), .unset, .unset] [(.int (2 : Int32)), (.int (0 : Int32))]
  refine s_iloadN A3 d10_78 (pc' := 79) rfl rfl ?_
  refine s_isub A3 d10_79 (pc' := 80) rfl (v := (2 : Int32)) (by decide) ?_
  refine g_static X3 hx hZ (y := (⟨"java/lang/Integer", "compare", "(II)I"⟩ : MethodName)) hown (hw _ (List.mem_of_getElem? (i := 57) rfl)) (hw _ (List.mem_of_getElem? (i := 58) rfl)) (hw _ (List.mem_of_getElem? (i := 59) rfl)) (hw _ (List.mem_of_getElem? (i := 60) rfl)) (by decide) (argsL := [(.int (0 : Int32)), (.int (2 : Int32))]) (rest := []) (c_icmp l Z a0 hw [] (0 : Int32) (2 : Int32) h0 n0 Z0) pd_10 rfl rfl (hb hby d10_80) e3 (by rw [hml]; rfl) (pc' := 83) rfl (by decide) (W := 0) (Nat.le_of_eq rfl) (by decide) (by decide) (by decide) ?_
  intro v4 T4 L4 X4 hQ4
  have A4 := wk X4 hx hby
  have e4 : T4.heap = T4.heap := rfl
  obtain ⟨z4, rfl, q4, N4, hh4⟩ := hQ4
  have e4 : T4.heap = h0 := hh4
  have fr4 := Fr.app fr3 N4
  show Go p e below m (Fini s 0 0 (fun v h L => ∃ z : Int32, v = some (.int z) ∧ (z.toInt = -1) ∧ Fr n0 L ∧ h = h0)) T4 83 #[.val (.ref a), .val (.ref b), .val (.int (0 : Int32)), .val (.int (0 : Int32)), .unset, .unset] [(.int z4)]
  try rw [show (0 : Int32).toInt = 0 from by decide] at q4
  try rw [show (2 : Int32).toInt = 2 from by decide] at q4
  exact g_retI X4 hx hlk hret (hb hby d10_83) ⟨_, rfl, by omega, fr4, e4⟩ (by decide) (by decide)
theorem ef_c_rc0_2 (m : MethodId) (x0 : UInt64) (x1 : Addr) (x2 : UInt64) (x3 : Addr) : entryFrame m #[(.double x0), (.ref x1), (.double x2), (.ref x3)] 7 = mkF m 0 #[.val (.double x0), .second, .val (.ref x1), .val (.double x2), .second, .val (.ref x3), .unset] [] := by first | (simp [entryFrame, mkF, argsToLocals, Value.category, maxLocals]; done) | rfl
set_option maxRecDepth 65536 in
set_option maxHeartbeats 40000000 in
theorem c_rc0_2 (l : Launch) (Z : State) (a0 : Array Value) (hw : ∀ d ∈ tables_1, d.before a0 Z = true) (ws : List Jvm.Cond) (x y : UInt64) (nx ny : Int) (a d b f : Addr) (cz : Int32) (fv : Value)  (g0 g1 : Int32) (h0 : Heap) (n0 : Nat) (Z0 : n0 ≤ h0.size) (Hx : Dy nx 0 x) (Hy : Dy ny 0 y) (Ea : Exa Z h0 a "java/lang/String") (Fv : Fld Z h0 a "java/lang/String" "value" "[B" (.ref d)) (Fc : Fld Z h0 a "java/lang/String" "coder" "B" (.int 0)) (D : Ars Z h0 d .byte []) (O : Old Z n0 h0) (SC : Sta Z Z.heap "java/lang/String" "COMPACT_STRINGS" "Z" (.int cz)) (hcz : ¬ cz = 0) (Eb : Exa Z h0 b "java/lang/String") (Gv : Fld Z h0 b "java/lang/String" "value" "[B" (.ref f)) (Gc : Fld Z h0 b "java/lang/String" "coder" "B" (.int 0)) (D2 : Ars Z h0 f .byte [(.int g0.toInt8.toInt32), (.int g1.toInt8.toInt32)]) (SF : Sta Z Z.heap "jdk/internal/util/Preconditions" "SIOOBE_FORMATTER" "Ljava/util/function/BiFunction;" fv) (hfv : fv = .null ∨ ∃ f, fv = .ref f)  (G0 : 0 ≤ g0.toInt ∧ g0.toInt ≤ 255) (G1 : 0 ≤ g1.toInt ∧ g1.toInt ≤ 255) :
    Ctr l Z (⟨"com/example/prox2/prox2/format/RunOrder", "compare", "(DLjava/lang/String;DLjava/lang/String;)I"⟩ : MethodName) prog_17_method_4_code 7 (some .int) ws ({ frames := 3, cells := 0, slots := 0, locals := 43 } : Room) #[(.double x), (.ref b), (.double y), (.ref a)] h0 (fun v h L => ∃ z : Int32, v = some (.int z) ∧ (ny < nx ∧ z.toInt = -1 ∨ nx < ny ∧ z.toInt = 1 ∨ nx = ny ∧ (z.toInt = -1)) ∧ Fr n0 L ∧ h = h0) := by
  refine enter pn_5 ?_
  intro p e s m below meth c T0 X0 hx hby hml hret hlk hZ hown hnm e0
  have A0 := wk X0 hx hby
  have N0 := Fr.nil n0
  refine goIn (ef_c_rc0_2 m x b y a) ?_
  show Go p e below m (Fini s 0 0 (fun v h L => ∃ z : Int32, v = some (.int z) ∧ (ny < nx ∧ z.toInt = -1 ∨ nx < ny ∧ z.toInt = 1 ∨ nx = ny ∧ (z.toInt = -1)) ∧ Fr n0 L ∧ h = h0)) T0 0 #[.val (.double x), .second, .val (.ref b), .val (.double y), .second, .val (.ref a), .unset] []
  refine s_dloadN A0 d5_0 (pc' := 1) rfl rfl ?_
  refine s_dloadN A0 d5_1 (pc' := 2) rfl rfl ?_
  refine g_static X0 hx hZ (y := (⟨"com/example/prox2/prox2/format/RunOrder", "compareScores", "(DD)I"⟩ : MethodName)) hown (hw _ (List.mem_of_getElem? (i := 30) rfl)) (hw _ (List.mem_of_getElem? (i := 31) rfl)) (hw _ (List.mem_of_getElem? (i := 28) rfl)) (hw _ (List.mem_of_getElem? (i := 32) rfl)) (by decide) (argsL := [(.double x), (.double y)]) (rest := []) (c_cs l Z a0 hw [] x y nx ny h0 n0 Z0 Hx Hy) pd_11 rfl rfl (hb hby d5_2) e0 (by rw [hml]; rfl) (pc' := 5) rfl (by decide) (W := 0) (Nat.le_of_eq rfl) (by decide) (by decide) (by decide) ?_
  intro v1 T1 L1 X1 hQ1
  have A1 := wk X1 hx hby
  have e1 : T1.heap = T1.heap := rfl
  obtain ⟨z1, rfl, q1, N1, hh1⟩ := hQ1
  have e1 : T1.heap = h0 := hh1
  have fr1 := Fr.app N0 N1
  show Go p e below m (Fini s 0 0 (fun v h L => ∃ z : Int32, v = some (.int z) ∧ (ny < nx ∧ z.toInt = -1 ∨ nx < ny ∧ z.toInt = 1 ∨ nx = ny ∧ (z.toInt = -1)) ∧ Fr n0 L ∧ h = h0)) T1 5 #[.val (.double x), .second, .val (.ref b), .val (.double y), .second, .val (.ref a), .unset] [(.int z1)]
  refine s_istore A1 d5_5 (pc' := 7) rfl (ls' := #[.val (.double x), .second, .val (.ref b), .val (.double y), .second, .val (.ref a), .val (.int z1)]) rfl ?_
  refine s_iload A1 d5_7 (pc' := 9) rfl rfl ?_
  refine s_ifeq A1 d5_9 (pY := 17) (pN := 12) (by decide) (by decide) rfl ?_ ?_
  · intro c9
    replace c9 := iz_eq c9
    refine s_aload A1 d5_17 (pc' := 19) rfl rfl rfl ?_
    refine s_aloadN A1 d5_19 (pc' := 20) rfl rfl rfl ?_
    refine g_static X1 hx hZ (y := (⟨"com/example/prox2/prox2/format/RunOrder", "compareAsText", "(Ljava/lang/String;Ljava/lang/String;)I"⟩ : MethodName)) hown (hw _ (List.mem_of_getElem? (i := 44) rfl)) (hw _ (List.mem_of_getElem? (i := 45) rfl)) (hw _ (List.mem_of_getElem? (i := 28) rfl)) (hw _ (List.mem_of_getElem? (i := 46) rfl)) (by decide) (argsL := [(.ref a), (.ref b)]) (rest := []) (c_ct0_2 l Z a0 hw [] a d b f cz fv  g0 g1 h0 n0 Z0 Ea Fv Fc D O SC hcz Eb Gv Gc D2 SF hfv  G0 G1) pd_12 rfl rfl (hb hby d5_20) e1 (by rw [hml]; rfl) (pc' := 23) rfl (by decide) (W := 0) (Nat.le_of_eq rfl) (by decide) (by decide) (by decide) ?_
    intro v2 T2 L2 X2 hQ2
    have A2 := wk X2 hx hby
    have e2 : T2.heap = T2.heap := rfl
    obtain ⟨z2, rfl, q2, N2, hh2⟩ := hQ2
    have e2 : T2.heap = h0 := hh2
    have fr2 := Fr.app fr1 N2
    show Go p e below m (Fini s 0 0 (fun v h L => ∃ z : Int32, v = some (.int z) ∧ (ny < nx ∧ z.toInt = -1 ∨ nx < ny ∧ z.toInt = 1 ∨ nx = ny ∧ (z.toInt = -1)) ∧ Fr n0 L ∧ h = h0)) T2 23 #[.val (.double x), .second, .val (.ref b), .val (.double y), .second, .val (.ref a), .val (.int z1)] [(.int z2)]
    exact g_retI X2 hx hlk hret (hb hby d5_23) ⟨_, rfl, by omega, fr2, e2⟩ (by decide) (by decide)
  · intro c9
    replace c9 := iz_ne c9
    refine s_iload A1 d5_12 (pc' := 14) rfl rfl ?_
    refine s_goto A1 d5_14 (pc' := 23) (by decide) (by decide) ?_
    exact g_retI X1 hx hlk hret (hb hby d5_23) ⟨_, rfl, by omega, fr1, e1⟩ (by decide) (by decide)
theorem ef_c_ck0_2 (m : MethodId) (x0 : Int32) (x1 : Int32) (x2 : Int32) (x3 : Int32) (x4 : Int32) (x5 : Int32) : entryFrame m #[(.int x0), (.int x1), (.int x2), (.int x3), (.int x4), (.int x5)] 6 = mkF m 0 #[.val (.int x0), .val (.int x1), .val (.int x2), .val (.int x3), .val (.int x4), .val (.int x5)] [] := by first | (simp [entryFrame, mkF, argsToLocals, Value.category, maxLocals]; done) | rfl
set_option maxRecDepth 65536 in
set_option maxHeartbeats 40000000 in
theorem c_ck0_2 (l : Launch) (Z : State) (a0 : Array Value) (hw : ∀ d ∈ tables_1, d.before a0 Z = true) (ws : List Jvm.Cond) (c0 c1 g0 g1 : Int32) (h0 : Heap) (n0 : Nat) (Z0 : n0 ≤ h0.size)  :
    Ctr l Z (⟨"com/example/prox2/prox2/format/RunOrderComparePinLaw", "cmp", "(ICCICC)I"⟩ : MethodName) method_4_code 6 (some .int) ws ({ frames := 0, cells := 0, slots := 0, locals := 0 } : Room) #[(.int (0 : Int32)), (.int c0), (.int c1), (.int (2 : Int32)), (.int g0), (.int g1)] h0 (fun v h L => ∃ z : Int32, v = some (.int z) ∧ (z.toInt = -1) ∧ Fr n0 L ∧ h = h0) := by
  refine enter pn_14 ?_
  intro p e s m below meth c T0 X0 hx hby hml hret hlk hZ hown hnm e0
  have A0 := wk X0 hx hby
  have N0 := Fr.nil n0
  refine goIn (ef_c_ck0_2 m (0 : Int32) c0 c1 (2 : Int32) g0 g1) ?_
  show Go p e below m (Fini s 0 0 (fun v h L => ∃ z : Int32, v = some (.int z) ∧ (z.toInt = -1) ∧ Fr n0 L ∧ h = h0)) T0 0 #[.val (.int (0 : Int32)), .val (.int c0), .val (.int c1), .val (.int (2 : Int32)), .val (.int g0), .val (.int g1)] []
  refine s_iloadN A0 d14_0 (pc' := 1) rfl rfl ?_
  refine s_ifle A0 d14_1 (pY := 54) (pN := 4) (by decide) (by decide) rfl (fun _ => ?_) (fun c => absurd c (by decide))
  refine s_iloadN A0 d14_54 (pc' := 55) rfl rfl ?_
  refine s_iloadN A0 d14_55 (pc' := 56) rfl rfl ?_
  refine s_icmpge A0 d14_56 (pY := 63) (pN := 59) (by decide) (by decide) rfl (fun c => absurd c (by decide)) (fun _ => ?_)
  refine s_iconst A0 d14_59 (pc' := 60) rfl (v := (-1 : Int32)) (by decide) ?_
  refine s_goto A0 d14_60 (pc' := 73) (by decide) (by decide) ?_
  exact g_retI X0 hx hlk hret (hb hby d14_73) ⟨_, rfl, by rw [show (-1 : Int32).toInt = -1 from by decide] <;> omega, N0, e0⟩ (by decide) (by decide)
theorem ef_c_ct1_0 (m : MethodId) (x0 : Addr) (x1 : Addr) : entryFrame m #[(.ref x0), (.ref x1)] 6 = mkF m 0 #[.val (.ref x0), .val (.ref x1), .unset, .unset, .unset, .unset] [] := by first | (simp [entryFrame, mkF, argsToLocals, Value.category, maxLocals]; done) | rfl
set_option maxRecDepth 65536 in
set_option maxHeartbeats 40000000 in
theorem c_ct1_0 (l : Launch) (Z : State) (a0 : Array Value) (hw : ∀ d ∈ tables_1, d.before a0 Z = true) (ws : List Jvm.Cond) (a d b f : Addr) (cz : Int32) (fv : Value) (c0 : Int32)  (h0 : Heap) (n0 : Nat) (Z0 : n0 ≤ h0.size) (Ea : Exa Z h0 a "java/lang/String") (Fv : Fld Z h0 a "java/lang/String" "value" "[B" (.ref d)) (Fc : Fld Z h0 a "java/lang/String" "coder" "B" (.int 0)) (D : Ars Z h0 d .byte [(.int c0.toInt8.toInt32)]) (O : Old Z n0 h0) (SC : Sta Z Z.heap "java/lang/String" "COMPACT_STRINGS" "Z" (.int cz)) (hcz : ¬ cz = 0) (Eb : Exa Z h0 b "java/lang/String") (Gv : Fld Z h0 b "java/lang/String" "value" "[B" (.ref f)) (Gc : Fld Z h0 b "java/lang/String" "coder" "B" (.int 0)) (D2 : Ars Z h0 f .byte []) (SF : Sta Z Z.heap "jdk/internal/util/Preconditions" "SIOOBE_FORMATTER" "Ljava/util/function/BiFunction;" fv) (hfv : fv = .null ∨ ∃ f, fv = .ref f) (C0 : 0 ≤ c0.toInt ∧ c0.toInt ≤ 255)  :
    Ctr l Z (⟨"com/example/prox2/prox2/format/RunOrder", "compareAsText", "(Ljava/lang/String;Ljava/lang/String;)I"⟩ : MethodName) prog_17_method_6_code 6 (some .int) ws ({ frames := 2, cells := 0, slots := 0, locals := 26 } : Room) #[(.ref a), (.ref b)] h0 (fun v h L => ∃ z : Int32, v = some (.int z) ∧ (z.toInt = 1) ∧ Fr n0 L ∧ h = h0) := by
  refine enter pn_10 ?_
  intro p e s m below meth c T0 X0 hx hby hml hret hlk hZ hown hnm e0
  have A0 := wk X0 hx hby
  have N0 := Fr.nil n0
  refine goIn (ef_c_ct1_0 m a b) ?_
  show Go p e below m (Fini s 0 0 (fun v h L => ∃ z : Int32, v = some (.int z) ∧ (z.toInt = 1) ∧ Fr n0 L ∧ h = h0)) T0 0 #[.val (.ref a), .val (.ref b), .unset, .unset, .unset, .unset] []
  refine s_iconst A0 d10_0 (pc' := 1) rfl (v := (0 : Int32)) (by decide) ?_
  refine s_istoreN A0 d10_1 (pc' := 2) rfl (ls' := #[.val (.ref a), .val (.ref b), .val (.int (0 : Int32)), .unset, .unset, .unset]) rfl ?_
  refine s_iconst A0 d10_2 (pc' := 3) rfl (v := (0 : Int32)) (by decide) ?_
  refine s_istoreN A0 d10_3 (pc' := 4) rfl (ls' := #[.val (.ref a), .val (.ref b), .val (.int (0 : Int32)), .val (.int (0 : Int32)), .unset, .unset]) rfl ?_
  refine s_iloadN A0 d10_4 (pc' := 5) rfl rfl ?_
  refine s_aloadN A0 d10_5 (pc' := 6) rfl rfl rfl ?_
  refine g_virtual X0 hx hZ (y := (⟨"java/lang/String", "length", "()I"⟩ : MethodName)) hown (hw _ (List.mem_of_getElem? (i := 47) rfl)) (hw _ (List.mem_of_getElem? (i := 48) rfl)) (hw _ (List.mem_of_getElem? (i := 50) rfl)) (hw _ (List.mem_of_getElem? (i := 49) rfl)) (hw _ (List.mem_of_getElem? (i := 6) rfl)) (hw _ (List.mem_of_getElem? (i := 51) rfl)) (by decide) Ea (argsL := []) (rest := [(.int (0 : Int32))]) (c_len_1 l Z a0 hw [] a d cz c0 h0 n0 Z0 Ea Fv Fc D O SC hcz) pd_9 rfl rfl (hb hby d10_6) e0 (by rw [hml]; rfl) (pc' := 9) rfl (by decide) (W := 1) (Nat.le_of_eq rfl) (by decide) (by decide) (by decide) ?_
  intro v1 T1 L1 X1 hQ1
  have A1 := wk X1 hx hby
  have e1 : T1.heap = T1.heap := rfl
  obtain ⟨rfl, N1, hh1⟩ := hQ1
  have e1 : T1.heap = h0 := hh1
  have fr1 := Fr.app N0 N1
  show Go p e below m (Fini s 0 0 (fun v h L => ∃ z : Int32, v = some (.int z) ∧ (z.toInt = 1) ∧ Fr n0 L ∧ h = h0)) T1 9 #[.val (.ref a), .val (.ref b), .val (.int (0 : Int32)), .val (.int (0 : Int32)), .unset, .unset] [(.int (1 : Int32)), (.int (0 : Int32))]
  refine s_icmpge A1 d10_9 (pY := 68) (pN := 12) (by decide) (by decide) rfl (fun c => absurd c (by decide)) (fun _ => ?_)
  refine s_iloadN A1 d10_12 (pc' := 13) rfl rfl ?_
  refine s_aloadN A1 d10_13 (pc' := 14) rfl rfl rfl ?_
  refine g_virtual X1 hx hZ (y := (⟨"java/lang/String", "length", "()I"⟩ : MethodName)) hown (hw _ (List.mem_of_getElem? (i := 47) rfl)) (hw _ (List.mem_of_getElem? (i := 48) rfl)) (hw _ (List.mem_of_getElem? (i := 50) rfl)) (hw _ (List.mem_of_getElem? (i := 49) rfl)) (hw _ (List.mem_of_getElem? (i := 6) rfl)) (hw _ (List.mem_of_getElem? (i := 51) rfl)) (by decide) Eb (argsL := []) (rest := [(.int (0 : Int32))]) (c_len_0 l Z a0 hw [] b f cz  h0 n0 Z0 Eb Gv Gc D2 O SC hcz) pd_9 rfl rfl (hb hby d10_14) e1 (by rw [hml]; rfl) (pc' := 17) rfl (by decide) (W := 1) (Nat.le_of_eq rfl) (by decide) (by decide) (by decide) ?_
  intro v2 T2 L2 X2 hQ2
  have A2 := wk X2 hx hby
  have e2 : T2.heap = T2.heap := rfl
  obtain ⟨rfl, N2, hh2⟩ := hQ2
  have e2 : T2.heap = h0 := hh2
  have fr2 := Fr.app fr1 N2
  show Go p e below m (Fini s 0 0 (fun v h L => ∃ z : Int32, v = some (.int z) ∧ (z.toInt = 1) ∧ Fr n0 L ∧ h = h0)) T2 17 #[.val (.ref a), .val (.ref b), .val (.int (0 : Int32)), .val (.int (0 : Int32)), .unset, .unset] [(.int (0 : Int32)), (.int (0 : Int32))]
  refine s_icmpge A2 d10_17 (pY := 68) (pN := 20) (by decide) (by decide) rfl (fun _ => ?_) (fun c => absurd c (by decide))
  refine s_aloadN A2 d10_68 (pc' := 69) rfl rfl rfl ?_
  refine g_virtual X2 hx hZ (y := (⟨"java/lang/String", "length", "()I"⟩ : MethodName)) hown (hw _ (List.mem_of_getElem? (i := 47) rfl)) (hw _ (List.mem_of_getElem? (i := 48) rfl)) (hw _ (List.mem_of_getElem? (i := 50) rfl)) (hw _ (List.mem_of_getElem? (i := 49) rfl)) (hw _ (List.mem_of_getElem? (i := 6) rfl)) (hw _ (List.mem_of_getElem? (i := 51) rfl)) (by decide) Ea (argsL := []) (rest := []) (c_len_1 l Z a0 hw [] a d cz c0 h0 n0 Z0 Ea Fv Fc D O SC hcz) pd_9 rfl rfl (hb hby d10_69) e2 (by rw [hml]; rfl) (pc' := 72) rfl (by decide) (W := 0) (Nat.le_of_eq rfl) (by decide) (by decide) (by decide) ?_
  intro v3 T3 L3 X3 hQ3
  have A3 := wk X3 hx hby
  have e3 : T3.heap = T3.heap := rfl
  obtain ⟨rfl, N3, hh3⟩ := hQ3
  have e3 : T3.heap = h0 := hh3
  have fr3 := Fr.app fr2 N3
  show Go p e below m (Fini s 0 0 (fun v h L => ∃ z : Int32, v = some (.int z) ∧ (z.toInt = 1) ∧ Fr n0 L ∧ h = h0)) T3 72 #[.val (.ref a), .val (.ref b), .val (.int (0 : Int32)), .val (.int (0 : Int32)), .unset, .unset] [(.int (1 : Int32))]
  refine s_iloadN A3 d10_72 (pc' := 73) rfl rfl ?_
  refine s_isub A3 d10_73 (pc' := 74) rfl (v := (1 : Int32)) (by decide) ?_
  refine s_aloadN A3 d10_74 (pc' := 75) rfl rfl rfl ?_
  refine g_virtual X3 hx hZ (y := (⟨"java/lang/String", "length", "()I"⟩ : MethodName)) hown (hw _ (List.mem_of_getElem? (i := 47) rfl)) (hw _ (List.mem_of_getElem? (i := 48) rfl)) (hw _ (List.mem_of_getElem? (i := 50) rfl)) (hw _ (List.mem_of_getElem? (i := 49) rfl)) (hw _ (List.mem_of_getElem? (i := 6) rfl)) (hw _ (List.mem_of_getElem? (i := 51) rfl)) (by decide) Eb (argsL := []) (rest := [(.int (1 : Int32))]) (c_len_0 l Z a0 hw [] b f cz  h0 n0 Z0 Eb Gv Gc D2 O SC hcz) pd_9 rfl rfl (hb hby d10_75) e3 (by rw [hml]; rfl) (pc' := 78) rfl (by decide) (W := 1) (Nat.le_of_eq rfl) (by decide) (by decide) (by decide) ?_
  intro v4 T4 L4 X4 hQ4
  have A4 := wk X4 hx hby
  have e4 : T4.heap = T4.heap := rfl
  obtain ⟨rfl, N4, hh4⟩ := hQ4
  have e4 : T4.heap = h0 := hh4
  have fr4 := Fr.app fr3 N4
  show Go p e below m (Fini s 0 0 (fun v h L => ∃ z : Int32, v = some (.int z) ∧ (z.toInt = 1) ∧ Fr n0 L ∧ h = h0)) T4 78 #[.val (.ref a), .val (.ref b), .val (.int (0 : Int32)), .val (.int (0 : Int32)), .unset, .unset] [(.int (0 : Int32)), (.int (1 : Int32))]
  refine s_iloadN A4 d10_78 (pc' := 79) rfl rfl ?_
  refine s_isub A4 d10_79 (pc' := 80) rfl (v := (0 : Int32)) (by decide) ?_
  refine g_static X4 hx hZ (y := (⟨"java/lang/Integer", "compare", "(II)I"⟩ : MethodName)) hown (hw _ (List.mem_of_getElem? (i := 57) rfl)) (hw _ (List.mem_of_getElem? (i := 58) rfl)) (hw _ (List.mem_of_getElem? (i := 59) rfl)) (hw _ (List.mem_of_getElem? (i := 60) rfl)) (by decide) (argsL := [(.int (1 : Int32)), (.int (0 : Int32))]) (rest := []) (c_icmp l Z a0 hw [] (1 : Int32) (0 : Int32) h0 n0 Z0) pd_10 rfl rfl (hb hby d10_80) e4 (by rw [hml]; rfl) (pc' := 83) rfl (by decide) (W := 0) (Nat.le_of_eq rfl) (by decide) (by decide) (by decide) ?_
  intro v5 T5 L5 X5 hQ5
  have A5 := wk X5 hx hby
  have e5 : T5.heap = T5.heap := rfl
  obtain ⟨z5, rfl, q5, N5, hh5⟩ := hQ5
  have e5 : T5.heap = h0 := hh5
  have fr5 := Fr.app fr4 N5
  show Go p e below m (Fini s 0 0 (fun v h L => ∃ z : Int32, v = some (.int z) ∧ (z.toInt = 1) ∧ Fr n0 L ∧ h = h0)) T5 83 #[.val (.ref a), .val (.ref b), .val (.int (0 : Int32)), .val (.int (0 : Int32)), .unset, .unset] [(.int z5)]
  try rw [show (1 : Int32).toInt = 1 from by decide] at q5
  try rw [show (0 : Int32).toInt = 0 from by decide] at q5
  exact g_retI X5 hx hlk hret (hb hby d10_83) ⟨_, rfl, by omega, fr5, e5⟩ (by decide) (by decide)
theorem ef_c_rc1_0 (m : MethodId) (x0 : UInt64) (x1 : Addr) (x2 : UInt64) (x3 : Addr) : entryFrame m #[(.double x0), (.ref x1), (.double x2), (.ref x3)] 7 = mkF m 0 #[.val (.double x0), .second, .val (.ref x1), .val (.double x2), .second, .val (.ref x3), .unset] [] := by first | (simp [entryFrame, mkF, argsToLocals, Value.category, maxLocals]; done) | rfl
set_option maxRecDepth 65536 in
set_option maxHeartbeats 40000000 in
theorem c_rc1_0 (l : Launch) (Z : State) (a0 : Array Value) (hw : ∀ d ∈ tables_1, d.before a0 Z = true) (ws : List Jvm.Cond) (x y : UInt64) (nx ny : Int) (a d b f : Addr) (cz : Int32) (fv : Value) (c0 : Int32)  (h0 : Heap) (n0 : Nat) (Z0 : n0 ≤ h0.size) (Hx : Dy nx 0 x) (Hy : Dy ny 0 y) (Ea : Exa Z h0 a "java/lang/String") (Fv : Fld Z h0 a "java/lang/String" "value" "[B" (.ref d)) (Fc : Fld Z h0 a "java/lang/String" "coder" "B" (.int 0)) (D : Ars Z h0 d .byte [(.int c0.toInt8.toInt32)]) (O : Old Z n0 h0) (SC : Sta Z Z.heap "java/lang/String" "COMPACT_STRINGS" "Z" (.int cz)) (hcz : ¬ cz = 0) (Eb : Exa Z h0 b "java/lang/String") (Gv : Fld Z h0 b "java/lang/String" "value" "[B" (.ref f)) (Gc : Fld Z h0 b "java/lang/String" "coder" "B" (.int 0)) (D2 : Ars Z h0 f .byte []) (SF : Sta Z Z.heap "jdk/internal/util/Preconditions" "SIOOBE_FORMATTER" "Ljava/util/function/BiFunction;" fv) (hfv : fv = .null ∨ ∃ f, fv = .ref f) (C0 : 0 ≤ c0.toInt ∧ c0.toInt ≤ 255)  :
    Ctr l Z (⟨"com/example/prox2/prox2/format/RunOrder", "compare", "(DLjava/lang/String;DLjava/lang/String;)I"⟩ : MethodName) prog_17_method_4_code 7 (some .int) ws ({ frames := 3, cells := 0, slots := 0, locals := 43 } : Room) #[(.double x), (.ref b), (.double y), (.ref a)] h0 (fun v h L => ∃ z : Int32, v = some (.int z) ∧ (ny < nx ∧ z.toInt = -1 ∨ nx < ny ∧ z.toInt = 1 ∨ nx = ny ∧ (z.toInt = 1)) ∧ Fr n0 L ∧ h = h0) := by
  refine enter pn_5 ?_
  intro p e s m below meth c T0 X0 hx hby hml hret hlk hZ hown hnm e0
  have A0 := wk X0 hx hby
  have N0 := Fr.nil n0
  refine goIn (ef_c_rc1_0 m x b y a) ?_
  show Go p e below m (Fini s 0 0 (fun v h L => ∃ z : Int32, v = some (.int z) ∧ (ny < nx ∧ z.toInt = -1 ∨ nx < ny ∧ z.toInt = 1 ∨ nx = ny ∧ (z.toInt = 1)) ∧ Fr n0 L ∧ h = h0)) T0 0 #[.val (.double x), .second, .val (.ref b), .val (.double y), .second, .val (.ref a), .unset] []
  refine s_dloadN A0 d5_0 (pc' := 1) rfl rfl ?_
  refine s_dloadN A0 d5_1 (pc' := 2) rfl rfl ?_
  refine g_static X0 hx hZ (y := (⟨"com/example/prox2/prox2/format/RunOrder", "compareScores", "(DD)I"⟩ : MethodName)) hown (hw _ (List.mem_of_getElem? (i := 30) rfl)) (hw _ (List.mem_of_getElem? (i := 31) rfl)) (hw _ (List.mem_of_getElem? (i := 28) rfl)) (hw _ (List.mem_of_getElem? (i := 32) rfl)) (by decide) (argsL := [(.double x), (.double y)]) (rest := []) (c_cs l Z a0 hw [] x y nx ny h0 n0 Z0 Hx Hy) pd_11 rfl rfl (hb hby d5_2) e0 (by rw [hml]; rfl) (pc' := 5) rfl (by decide) (W := 0) (Nat.le_of_eq rfl) (by decide) (by decide) (by decide) ?_
  intro v1 T1 L1 X1 hQ1
  have A1 := wk X1 hx hby
  have e1 : T1.heap = T1.heap := rfl
  obtain ⟨z1, rfl, q1, N1, hh1⟩ := hQ1
  have e1 : T1.heap = h0 := hh1
  have fr1 := Fr.app N0 N1
  show Go p e below m (Fini s 0 0 (fun v h L => ∃ z : Int32, v = some (.int z) ∧ (ny < nx ∧ z.toInt = -1 ∨ nx < ny ∧ z.toInt = 1 ∨ nx = ny ∧ (z.toInt = 1)) ∧ Fr n0 L ∧ h = h0)) T1 5 #[.val (.double x), .second, .val (.ref b), .val (.double y), .second, .val (.ref a), .unset] [(.int z1)]
  refine s_istore A1 d5_5 (pc' := 7) rfl (ls' := #[.val (.double x), .second, .val (.ref b), .val (.double y), .second, .val (.ref a), .val (.int z1)]) rfl ?_
  refine s_iload A1 d5_7 (pc' := 9) rfl rfl ?_
  refine s_ifeq A1 d5_9 (pY := 17) (pN := 12) (by decide) (by decide) rfl ?_ ?_
  · intro c9
    replace c9 := iz_eq c9
    refine s_aload A1 d5_17 (pc' := 19) rfl rfl rfl ?_
    refine s_aloadN A1 d5_19 (pc' := 20) rfl rfl rfl ?_
    refine g_static X1 hx hZ (y := (⟨"com/example/prox2/prox2/format/RunOrder", "compareAsText", "(Ljava/lang/String;Ljava/lang/String;)I"⟩ : MethodName)) hown (hw _ (List.mem_of_getElem? (i := 44) rfl)) (hw _ (List.mem_of_getElem? (i := 45) rfl)) (hw _ (List.mem_of_getElem? (i := 28) rfl)) (hw _ (List.mem_of_getElem? (i := 46) rfl)) (by decide) (argsL := [(.ref a), (.ref b)]) (rest := []) (c_ct1_0 l Z a0 hw [] a d b f cz fv c0  h0 n0 Z0 Ea Fv Fc D O SC hcz Eb Gv Gc D2 SF hfv C0 ) pd_12 rfl rfl (hb hby d5_20) e1 (by rw [hml]; rfl) (pc' := 23) rfl (by decide) (W := 0) (Nat.le_of_eq rfl) (by decide) (by decide) (by decide) ?_
    intro v2 T2 L2 X2 hQ2
    have A2 := wk X2 hx hby
    have e2 : T2.heap = T2.heap := rfl
    obtain ⟨z2, rfl, q2, N2, hh2⟩ := hQ2
    have e2 : T2.heap = h0 := hh2
    have fr2 := Fr.app fr1 N2
    show Go p e below m (Fini s 0 0 (fun v h L => ∃ z : Int32, v = some (.int z) ∧ (ny < nx ∧ z.toInt = -1 ∨ nx < ny ∧ z.toInt = 1 ∨ nx = ny ∧ (z.toInt = 1)) ∧ Fr n0 L ∧ h = h0)) T2 23 #[.val (.double x), .second, .val (.ref b), .val (.double y), .second, .val (.ref a), .val (.int z1)] [(.int z2)]
    exact g_retI X2 hx hlk hret (hb hby d5_23) ⟨_, rfl, by omega, fr2, e2⟩ (by decide) (by decide)
  · intro c9
    replace c9 := iz_ne c9
    refine s_iload A1 d5_12 (pc' := 14) rfl rfl ?_
    refine s_goto A1 d5_14 (pc' := 23) (by decide) (by decide) ?_
    exact g_retI X1 hx hlk hret (hb hby d5_23) ⟨_, rfl, by omega, fr1, e1⟩ (by decide) (by decide)
theorem ef_c_ck1_0 (m : MethodId) (x0 : Int32) (x1 : Int32) (x2 : Int32) (x3 : Int32) (x4 : Int32) (x5 : Int32) : entryFrame m #[(.int x0), (.int x1), (.int x2), (.int x3), (.int x4), (.int x5)] 6 = mkF m 0 #[.val (.int x0), .val (.int x1), .val (.int x2), .val (.int x3), .val (.int x4), .val (.int x5)] [] := by first | (simp [entryFrame, mkF, argsToLocals, Value.category, maxLocals]; done) | rfl
set_option maxRecDepth 65536 in
set_option maxHeartbeats 40000000 in
theorem c_ck1_0 (l : Launch) (Z : State) (a0 : Array Value) (hw : ∀ d ∈ tables_1, d.before a0 Z = true) (ws : List Jvm.Cond) (c0 c1 g0 g1 : Int32) (h0 : Heap) (n0 : Nat) (Z0 : n0 ≤ h0.size)  :
    Ctr l Z (⟨"com/example/prox2/prox2/format/RunOrderComparePinLaw", "cmp", "(ICCICC)I"⟩ : MethodName) method_4_code 6 (some .int) ws ({ frames := 0, cells := 0, slots := 0, locals := 0 } : Room) #[(.int (1 : Int32)), (.int c0), (.int c1), (.int (0 : Int32)), (.int g0), (.int g1)] h0 (fun v h L => ∃ z : Int32, v = some (.int z) ∧ (z.toInt = 1) ∧ Fr n0 L ∧ h = h0) := by
  refine enter pn_14 ?_
  intro p e s m below meth c T0 X0 hx hby hml hret hlk hZ hown hnm e0
  have A0 := wk X0 hx hby
  have N0 := Fr.nil n0
  refine goIn (ef_c_ck1_0 m (1 : Int32) c0 c1 (0 : Int32) g0 g1) ?_
  show Go p e below m (Fini s 0 0 (fun v h L => ∃ z : Int32, v = some (.int z) ∧ (z.toInt = 1) ∧ Fr n0 L ∧ h = h0)) T0 0 #[.val (.int (1 : Int32)), .val (.int c0), .val (.int c1), .val (.int (0 : Int32)), .val (.int g0), .val (.int g1)] []
  refine s_iloadN A0 d14_0 (pc' := 1) rfl rfl ?_
  refine s_ifle A0 d14_1 (pY := 54) (pN := 4) (by decide) (by decide) rfl (fun c => absurd c (by decide)) (fun _ => ?_)
  refine s_iloadN A0 d14_4 (pc' := 5) rfl rfl ?_
  refine s_ifle A0 d14_5 (pY := 54) (pN := 8) (by decide) (by decide) rfl (fun _ => ?_) (fun c => absurd c (by decide))
  refine s_iloadN A0 d14_54 (pc' := 55) rfl rfl ?_
  refine s_iloadN A0 d14_55 (pc' := 56) rfl rfl ?_
  refine s_icmpge A0 d14_56 (pY := 63) (pN := 59) (by decide) (by decide) rfl (fun _ => ?_) (fun c => absurd c (by decide))
  refine s_iloadN A0 d14_63 (pc' := 64) rfl rfl ?_
  refine s_iloadN A0 d14_64 (pc' := 65) rfl rfl ?_
  refine s_icmple A0 d14_65 (pY := 72) (pN := 68) (by decide) (by decide) rfl (fun c => absurd c (by decide)) (fun _ => ?_)
  refine s_iconst A0 d14_68 (pc' := 69) rfl (v := (1 : Int32)) (by decide) ?_
  refine s_goto A0 d14_69 (pc' := 73) (by decide) (by decide) ?_
  exact g_retI X0 hx hlk hret (hb hby d14_73) ⟨_, rfl, by rw [show (1 : Int32).toInt = 1 from by decide] <;> omega, N0, e0⟩ (by decide) (by decide)
theorem ef_c_ct1_1 (m : MethodId) (x0 : Addr) (x1 : Addr) : entryFrame m #[(.ref x0), (.ref x1)] 6 = mkF m 0 #[.val (.ref x0), .val (.ref x1), .unset, .unset, .unset, .unset] [] := by first | (simp [entryFrame, mkF, argsToLocals, Value.category, maxLocals]; done) | rfl
set_option maxRecDepth 65536 in
set_option maxHeartbeats 40000000 in
theorem c_ct1_1 (l : Launch) (Z : State) (a0 : Array Value) (hw : ∀ d ∈ tables_1, d.before a0 Z = true) (ws : List Jvm.Cond) (a d b f : Addr) (cz : Int32) (fv : Value) (c0 : Int32) (g0 : Int32) (h0 : Heap) (n0 : Nat) (Z0 : n0 ≤ h0.size) (Ea : Exa Z h0 a "java/lang/String") (Fv : Fld Z h0 a "java/lang/String" "value" "[B" (.ref d)) (Fc : Fld Z h0 a "java/lang/String" "coder" "B" (.int 0)) (D : Ars Z h0 d .byte [(.int c0.toInt8.toInt32)]) (O : Old Z n0 h0) (SC : Sta Z Z.heap "java/lang/String" "COMPACT_STRINGS" "Z" (.int cz)) (hcz : ¬ cz = 0) (Eb : Exa Z h0 b "java/lang/String") (Gv : Fld Z h0 b "java/lang/String" "value" "[B" (.ref f)) (Gc : Fld Z h0 b "java/lang/String" "coder" "B" (.int 0)) (D2 : Ars Z h0 f .byte [(.int g0.toInt8.toInt32)]) (SF : Sta Z Z.heap "jdk/internal/util/Preconditions" "SIOOBE_FORMATTER" "Ljava/util/function/BiFunction;" fv) (hfv : fv = .null ∨ ∃ f, fv = .ref f) (C0 : 0 ≤ c0.toInt ∧ c0.toInt ≤ 255) (G0 : 0 ≤ g0.toInt ∧ g0.toInt ≤ 255) :
    Ctr l Z (⟨"com/example/prox2/prox2/format/RunOrder", "compareAsText", "(Ljava/lang/String;Ljava/lang/String;)I"⟩ : MethodName) prog_17_method_6_code 6 (some .int) ws ({ frames := 3, cells := 0, slots := 0, locals := 41 } : Room) #[(.ref a), (.ref b)] h0 (fun v h L => ∃ z : Int32, v = some (.int z) ∧ ((c0.toInt < g0.toInt ∧ z.toInt = -1 ∨ g0.toInt < c0.toInt ∧ z.toInt = 1 ∨ c0.toInt = g0.toInt ∧ z.toInt = 0)) ∧ Fr n0 L ∧ h = h0) := by
  refine enter pn_10 ?_
  intro p e s m below meth c T0 X0 hx hby hml hret hlk hZ hown hnm e0
  have A0 := wk X0 hx hby
  have N0 := Fr.nil n0
  refine goIn (ef_c_ct1_1 m a b) ?_
  show Go p e below m (Fini s 0 0 (fun v h L => ∃ z : Int32, v = some (.int z) ∧ ((c0.toInt < g0.toInt ∧ z.toInt = -1 ∨ g0.toInt < c0.toInt ∧ z.toInt = 1 ∨ c0.toInt = g0.toInt ∧ z.toInt = 0)) ∧ Fr n0 L ∧ h = h0)) T0 0 #[.val (.ref a), .val (.ref b), .unset, .unset, .unset, .unset] []
  refine s_iconst A0 d10_0 (pc' := 1) rfl (v := (0 : Int32)) (by decide) ?_
  refine s_istoreN A0 d10_1 (pc' := 2) rfl (ls' := #[.val (.ref a), .val (.ref b), .val (.int (0 : Int32)), .unset, .unset, .unset]) rfl ?_
  refine s_iconst A0 d10_2 (pc' := 3) rfl (v := (0 : Int32)) (by decide) ?_
  refine s_istoreN A0 d10_3 (pc' := 4) rfl (ls' := #[.val (.ref a), .val (.ref b), .val (.int (0 : Int32)), .val (.int (0 : Int32)), .unset, .unset]) rfl ?_
  refine s_iloadN A0 d10_4 (pc' := 5) rfl rfl ?_
  refine s_aloadN A0 d10_5 (pc' := 6) rfl rfl rfl ?_
  refine g_virtual X0 hx hZ (y := (⟨"java/lang/String", "length", "()I"⟩ : MethodName)) hown (hw _ (List.mem_of_getElem? (i := 47) rfl)) (hw _ (List.mem_of_getElem? (i := 48) rfl)) (hw _ (List.mem_of_getElem? (i := 50) rfl)) (hw _ (List.mem_of_getElem? (i := 49) rfl)) (hw _ (List.mem_of_getElem? (i := 6) rfl)) (hw _ (List.mem_of_getElem? (i := 51) rfl)) (by decide) Ea (argsL := []) (rest := [(.int (0 : Int32))]) (c_len_1 l Z a0 hw [] a d cz c0 h0 n0 Z0 Ea Fv Fc D O SC hcz) pd_9 rfl rfl (hb hby d10_6) e0 (by rw [hml]; rfl) (pc' := 9) rfl (by decide) (W := 1) (Nat.le_of_eq rfl) (by decide) (by decide) (by decide) ?_
  intro v1 T1 L1 X1 hQ1
  have A1 := wk X1 hx hby
  have e1 : T1.heap = T1.heap := rfl
  obtain ⟨rfl, N1, hh1⟩ := hQ1
  have e1 : T1.heap = h0 := hh1
  have fr1 := Fr.app N0 N1
  show Go p e below m (Fini s 0 0 (fun v h L => ∃ z : Int32, v = some (.int z) ∧ ((c0.toInt < g0.toInt ∧ z.toInt = -1 ∨ g0.toInt < c0.toInt ∧ z.toInt = 1 ∨ c0.toInt = g0.toInt ∧ z.toInt = 0)) ∧ Fr n0 L ∧ h = h0)) T1 9 #[.val (.ref a), .val (.ref b), .val (.int (0 : Int32)), .val (.int (0 : Int32)), .unset, .unset] [(.int (1 : Int32)), (.int (0 : Int32))]
  refine s_icmpge A1 d10_9 (pY := 68) (pN := 12) (by decide) (by decide) rfl (fun c => absurd c (by decide)) (fun _ => ?_)
  refine s_iloadN A1 d10_12 (pc' := 13) rfl rfl ?_
  refine s_aloadN A1 d10_13 (pc' := 14) rfl rfl rfl ?_
  refine g_virtual X1 hx hZ (y := (⟨"java/lang/String", "length", "()I"⟩ : MethodName)) hown (hw _ (List.mem_of_getElem? (i := 47) rfl)) (hw _ (List.mem_of_getElem? (i := 48) rfl)) (hw _ (List.mem_of_getElem? (i := 50) rfl)) (hw _ (List.mem_of_getElem? (i := 49) rfl)) (hw _ (List.mem_of_getElem? (i := 6) rfl)) (hw _ (List.mem_of_getElem? (i := 51) rfl)) (by decide) Eb (argsL := []) (rest := [(.int (0 : Int32))]) (c_len_1 l Z a0 hw [] b f cz g0 h0 n0 Z0 Eb Gv Gc D2 O SC hcz) pd_9 rfl rfl (hb hby d10_14) e1 (by rw [hml]; rfl) (pc' := 17) rfl (by decide) (W := 1) (Nat.le_of_eq rfl) (by decide) (by decide) (by decide) ?_
  intro v2 T2 L2 X2 hQ2
  have A2 := wk X2 hx hby
  have e2 : T2.heap = T2.heap := rfl
  obtain ⟨rfl, N2, hh2⟩ := hQ2
  have e2 : T2.heap = h0 := hh2
  have fr2 := Fr.app fr1 N2
  show Go p e below m (Fini s 0 0 (fun v h L => ∃ z : Int32, v = some (.int z) ∧ ((c0.toInt < g0.toInt ∧ z.toInt = -1 ∨ g0.toInt < c0.toInt ∧ z.toInt = 1 ∨ c0.toInt = g0.toInt ∧ z.toInt = 0)) ∧ Fr n0 L ∧ h = h0)) T2 17 #[.val (.ref a), .val (.ref b), .val (.int (0 : Int32)), .val (.int (0 : Int32)), .unset, .unset] [(.int (1 : Int32)), (.int (0 : Int32))]
  refine s_icmpge A2 d10_17 (pY := 68) (pN := 20) (by decide) (by decide) rfl (fun c => absurd c (by decide)) (fun _ => ?_)
  refine s_aloadN A2 d10_20 (pc' := 21) rfl rfl rfl ?_
  refine s_iloadN A2 d10_21 (pc' := 22) rfl rfl ?_
  refine g_virtual X2 hx hZ (y := (⟨"java/lang/String", "codePointAt", "(I)I"⟩ : MethodName)) hown (hw _ (List.mem_of_getElem? (i := 64) rfl)) (hw _ (List.mem_of_getElem? (i := 65) rfl)) (hw _ (List.mem_of_getElem? (i := 67) rfl)) (hw _ (List.mem_of_getElem? (i := 66) rfl)) (hw _ (List.mem_of_getElem? (i := 6) rfl)) (hw _ (List.mem_of_getElem? (i := 68) rfl)) (by decide) Ea (argsL := [(.int (0 : Int32))]) (rest := []) (c_cpa_0_1 l Z a0 hw [] a d cz c0 fv h0 n0 Z0 Ea Fv Fc D O SC hcz SF hfv C0) pd_13 rfl rfl (hb hby d10_22) e2 (by rw [hml]; rfl) (pc' := 25) rfl (by decide) (W := 0) (Nat.le_of_eq rfl) (by decide) (by decide) (by decide) ?_
  intro v3 T3 L3 X3 hQ3
  have A3 := wk X3 hx hby
  have e3 : T3.heap = T3.heap := rfl
  obtain ⟨rfl, N3, hh3⟩ := hQ3
  have e3 : T3.heap = h0 := hh3
  have fr3 := Fr.app fr2 N3
  show Go p e below m (Fini s 0 0 (fun v h L => ∃ z : Int32, v = some (.int z) ∧ ((c0.toInt < g0.toInt ∧ z.toInt = -1 ∨ g0.toInt < c0.toInt ∧ z.toInt = 1 ∨ c0.toInt = g0.toInt ∧ z.toInt = 0)) ∧ Fr n0 L ∧ h = h0)) T3 25 #[.val (.ref a), .val (.ref b), .val (.int (0 : Int32)), .val (.int (0 : Int32)), .unset, .unset] [(.int c0)]
  refine s_istore A3 d10_25 (pc' := 27) rfl (ls' := #[.val (.ref a), .val (.ref b), .val (.int (0 : Int32)), .val (.int (0 : Int32)), .val (.int c0), .unset]) rfl ?_
  refine s_aloadN A3 d10_27 (pc' := 28) rfl rfl rfl ?_
  refine s_iloadN A3 d10_28 (pc' := 29) rfl rfl ?_
  refine g_virtual X3 hx hZ (y := (⟨"java/lang/String", "codePointAt", "(I)I"⟩ : MethodName)) hown (hw _ (List.mem_of_getElem? (i := 64) rfl)) (hw _ (List.mem_of_getElem? (i := 65) rfl)) (hw _ (List.mem_of_getElem? (i := 67) rfl)) (hw _ (List.mem_of_getElem? (i := 66) rfl)) (hw _ (List.mem_of_getElem? (i := 6) rfl)) (hw _ (List.mem_of_getElem? (i := 68) rfl)) (by decide) Eb (argsL := [(.int (0 : Int32))]) (rest := []) (c_cpa_0_1 l Z a0 hw [] b f cz g0 fv h0 n0 Z0 Eb Gv Gc D2 O SC hcz SF hfv G0) pd_13 rfl rfl (hb hby d10_29) e3 (by rw [hml]; rfl) (pc' := 32) rfl (by decide) (W := 0) (Nat.le_of_eq rfl) (by decide) (by decide) (by decide) ?_
  intro v4 T4 L4 X4 hQ4
  have A4 := wk X4 hx hby
  have e4 : T4.heap = T4.heap := rfl
  obtain ⟨rfl, N4, hh4⟩ := hQ4
  have e4 : T4.heap = h0 := hh4
  have fr4 := Fr.app fr3 N4
  show Go p e below m (Fini s 0 0 (fun v h L => ∃ z : Int32, v = some (.int z) ∧ ((c0.toInt < g0.toInt ∧ z.toInt = -1 ∨ g0.toInt < c0.toInt ∧ z.toInt = 1 ∨ c0.toInt = g0.toInt ∧ z.toInt = 0)) ∧ Fr n0 L ∧ h = h0)) T4 32 #[.val (.ref a), .val (.ref b), .val (.int (0 : Int32)), .val (.int (0 : Int32)), .val (.int c0), .unset] [(.int g0)]
  refine s_istore A4 d10_32 (pc' := 34) rfl (ls' := #[.val (.ref a), .val (.ref b), .val (.int (0 : Int32)), .val (.int (0 : Int32)), .val (.int c0), .val (.int g0)]) rfl ?_
  refine s_iload A4 d10_34 (pc' := 36) rfl rfl ?_
  refine s_iload A4 d10_36 (pc' := 38) rfl rfl ?_
  refine s_icmpeq A4 d10_38 (pY := 49) (pN := 41) (by decide) (by decide) rfl ?_ ?_
  · intro c38
    replace c38 := i_eq c38
    refine s_iloadN A4 d10_49 (pc' := 50) rfl rfl ?_
    refine s_iload A4 d10_50 (pc' := 52) rfl rfl ?_
    refine g_static X4 hx hZ (y := (⟨"java/lang/Character", "charCount", "(I)I"⟩ : MethodName)) hown (hw _ (List.mem_of_getElem? (i := 82) rfl)) (hw _ (List.mem_of_getElem? (i := 83) rfl)) (hw _ (List.mem_of_getElem? (i := 84) rfl)) (hw _ (List.mem_of_getElem? (i := 85) rfl)) (by decide) (argsL := [(.int c0)]) (rest := [(.int (0 : Int32))]) (c_cc l Z a0 hw [] c0 h0 n0 Z0 (by omega)) pd_13 rfl rfl (hb hby d10_52) e4 (by rw [hml]; rfl) (pc' := 55) rfl (by decide) (W := 1) (Nat.le_of_eq rfl) (by decide) (by decide) (by decide) ?_
    intro v5 T5 L5 X5 hQ5
    have A5 := wk X5 hx hby
    have e5 : T5.heap = T5.heap := rfl
    obtain ⟨rfl, N5, hh5⟩ := hQ5
    have e5 : T5.heap = h0 := hh5
    have fr5 := Fr.app fr4 N5
    show Go p e below m (Fini s 0 0 (fun v h L => ∃ z : Int32, v = some (.int z) ∧ ((c0.toInt < g0.toInt ∧ z.toInt = -1 ∨ g0.toInt < c0.toInt ∧ z.toInt = 1 ∨ c0.toInt = g0.toInt ∧ z.toInt = 0)) ∧ Fr n0 L ∧ h = h0)) T5 55 #[.val (.ref a), .val (.ref b), .val (.int (0 : Int32)), .val (.int (0 : Int32)), .val (.int c0), .val (.int g0)] [(.int (1 : Int32)), (.int (0 : Int32))]
    refine s_iadd A5 d10_55 (pc' := 56) rfl (v := (1 : Int32)) (by decide) ?_
    refine s_istoreN A5 d10_56 (pc' := 57) rfl (ls' := #[.val (.ref a), .val (.ref b), .val (.int (1 : Int32)), .val (.int (0 : Int32)), .val (.int c0), .val (.int g0)]) rfl ?_
    refine s_iloadN A5 d10_57 (pc' := 58) rfl rfl ?_
    refine s_iload A5 d10_58 (pc' := 60) rfl rfl ?_
    refine g_static X5 hx hZ (y := (⟨"java/lang/Character", "charCount", "(I)I"⟩ : MethodName)) hown (hw _ (List.mem_of_getElem? (i := 82) rfl)) (hw _ (List.mem_of_getElem? (i := 83) rfl)) (hw _ (List.mem_of_getElem? (i := 84) rfl)) (hw _ (List.mem_of_getElem? (i := 85) rfl)) (by decide) (argsL := [(.int g0)]) (rest := [(.int (0 : Int32))]) (c_cc l Z a0 hw [] g0 h0 n0 Z0 (by omega)) pd_13 rfl rfl (hb hby d10_60) e5 (by rw [hml]; rfl) (pc' := 63) rfl (by decide) (W := 1) (Nat.le_of_eq rfl) (by decide) (by decide) (by decide) ?_
    intro v6 T6 L6 X6 hQ6
    have A6 := wk X6 hx hby
    have e6 : T6.heap = T6.heap := rfl
    obtain ⟨rfl, N6, hh6⟩ := hQ6
    have e6 : T6.heap = h0 := hh6
    have fr6 := Fr.app fr5 N6
    show Go p e below m (Fini s 0 0 (fun v h L => ∃ z : Int32, v = some (.int z) ∧ ((c0.toInt < g0.toInt ∧ z.toInt = -1 ∨ g0.toInt < c0.toInt ∧ z.toInt = 1 ∨ c0.toInt = g0.toInt ∧ z.toInt = 0)) ∧ Fr n0 L ∧ h = h0)) T6 63 #[.val (.ref a), .val (.ref b), .val (.int (1 : Int32)), .val (.int (0 : Int32)), .val (.int c0), .val (.int g0)] [(.int (1 : Int32)), (.int (0 : Int32))]
    refine s_iadd A6 d10_63 (pc' := 64) rfl (v := (1 : Int32)) (by decide) ?_
    refine s_istoreN A6 d10_64 (pc' := 65) rfl (ls' := #[.val (.ref a), .val (.ref b), .val (.int (1 : Int32)), .val (.int (1 : Int32)), .val (.int c0), .val (.int g0)]) rfl ?_
    refine s_goto A6 d10_65 (pc' := 4) (by decide) (by decide) ?_
    refine s_iloadN A6 d10_4 (pc' := 5) rfl rfl ?_
    refine s_aloadN A6 d10_5 (pc' := 6) rfl rfl rfl ?_
    refine g_virtual X6 hx hZ (y := (⟨"java/lang/String", "length", "()I"⟩ : MethodName)) hown (hw _ (List.mem_of_getElem? (i := 47) rfl)) (hw _ (List.mem_of_getElem? (i := 48) rfl)) (hw _ (List.mem_of_getElem? (i := 50) rfl)) (hw _ (List.mem_of_getElem? (i := 49) rfl)) (hw _ (List.mem_of_getElem? (i := 6) rfl)) (hw _ (List.mem_of_getElem? (i := 51) rfl)) (by decide) Ea (argsL := []) (rest := [(.int (1 : Int32))]) (c_len_1 l Z a0 hw [] a d cz c0 h0 n0 Z0 Ea Fv Fc D O SC hcz) pd_9 rfl rfl (hb hby d10_6) e6 (by rw [hml]; rfl) (pc' := 9) rfl (by decide) (W := 1) (Nat.le_of_eq rfl) (by decide) (by decide) (by decide) ?_
    intro v7 T7 L7 X7 hQ7
    have A7 := wk X7 hx hby
    have e7 : T7.heap = T7.heap := rfl
    obtain ⟨rfl, N7, hh7⟩ := hQ7
    have e7 : T7.heap = h0 := hh7
    have fr7 := Fr.app fr6 N7
    show Go p e below m (Fini s 0 0 (fun v h L => ∃ z : Int32, v = some (.int z) ∧ ((c0.toInt < g0.toInt ∧ z.toInt = -1 ∨ g0.toInt < c0.toInt ∧ z.toInt = 1 ∨ c0.toInt = g0.toInt ∧ z.toInt = 0)) ∧ Fr n0 L ∧ h = h0)) T7 9 #[.val (.ref a), .val (.ref b), .val (.int (1 : Int32)), .val (.int (1 : Int32)), .val (.int c0), .val (.int g0)] [(.int (1 : Int32)), (.int (1 : Int32))]
    refine s_icmpge A7 d10_9 (pY := 68) (pN := 12) (by decide) (by decide) rfl (fun _ => ?_) (fun c => absurd c (by decide))
    refine s_aloadN A7 d10_68 (pc' := 69) rfl rfl rfl ?_
    refine g_virtual X7 hx hZ (y := (⟨"java/lang/String", "length", "()I"⟩ : MethodName)) hown (hw _ (List.mem_of_getElem? (i := 47) rfl)) (hw _ (List.mem_of_getElem? (i := 48) rfl)) (hw _ (List.mem_of_getElem? (i := 50) rfl)) (hw _ (List.mem_of_getElem? (i := 49) rfl)) (hw _ (List.mem_of_getElem? (i := 6) rfl)) (hw _ (List.mem_of_getElem? (i := 51) rfl)) (by decide) Ea (argsL := []) (rest := []) (c_len_1 l Z a0 hw [] a d cz c0 h0 n0 Z0 Ea Fv Fc D O SC hcz) pd_9 rfl rfl (hb hby d10_69) e7 (by rw [hml]; rfl) (pc' := 72) rfl (by decide) (W := 0) (Nat.le_of_eq rfl) (by decide) (by decide) (by decide) ?_
    intro v8 T8 L8 X8 hQ8
    have A8 := wk X8 hx hby
    have e8 : T8.heap = T8.heap := rfl
    obtain ⟨rfl, N8, hh8⟩ := hQ8
    have e8 : T8.heap = h0 := hh8
    have fr8 := Fr.app fr7 N8
    show Go p e below m (Fini s 0 0 (fun v h L => ∃ z : Int32, v = some (.int z) ∧ ((c0.toInt < g0.toInt ∧ z.toInt = -1 ∨ g0.toInt < c0.toInt ∧ z.toInt = 1 ∨ c0.toInt = g0.toInt ∧ z.toInt = 0)) ∧ Fr n0 L ∧ h = h0)) T8 72 #[.val (.ref a), .val (.ref b), .val (.int (1 : Int32)), .val (.int (1 : Int32)), .val (.int c0), .val (.int g0)] [(.int (1 : Int32))]
    refine s_iloadN A8 d10_72 (pc' := 73) rfl rfl ?_
    refine s_isub A8 d10_73 (pc' := 74) rfl (v := (0 : Int32)) (by decide) ?_
    refine s_aloadN A8 d10_74 (pc' := 75) rfl rfl rfl ?_
    refine g_virtual X8 hx hZ (y := (⟨"java/lang/String", "length", "()I"⟩ : MethodName)) hown (hw _ (List.mem_of_getElem? (i := 47) rfl)) (hw _ (List.mem_of_getElem? (i := 48) rfl)) (hw _ (List.mem_of_getElem? (i := 50) rfl)) (hw _ (List.mem_of_getElem? (i := 49) rfl)) (hw _ (List.mem_of_getElem? (i := 6) rfl)) (hw _ (List.mem_of_getElem? (i := 51) rfl)) (by decide) Eb (argsL := []) (rest := [(.int (0 : Int32))]) (c_len_1 l Z a0 hw [] b f cz g0 h0 n0 Z0 Eb Gv Gc D2 O SC hcz) pd_9 rfl rfl (hb hby d10_75) e8 (by rw [hml]; rfl) (pc' := 78) rfl (by decide) (W := 1) (Nat.le_of_eq rfl) (by decide) (by decide) (by decide) ?_
    intro v9 T9 L9 X9 hQ9
    have A9 := wk X9 hx hby
    have e9 : T9.heap = T9.heap := rfl
    obtain ⟨rfl, N9, hh9⟩ := hQ9
    have e9 : T9.heap = h0 := hh9
    have fr9 := Fr.app fr8 N9
    show Go p e below m (Fini s 0 0 (fun v h L => ∃ z : Int32, v = some (.int z) ∧ ((c0.toInt < g0.toInt ∧ z.toInt = -1 ∨ g0.toInt < c0.toInt ∧ z.toInt = 1 ∨ c0.toInt = g0.toInt ∧ z.toInt = 0)) ∧ Fr n0 L ∧ h = h0)) T9 78 #[.val (.ref a), .val (.ref b), .val (.int (1 : Int32)), .val (.int (1 : Int32)), .val (.int c0), .val (.int g0)] [(.int (1 : Int32)), (.int (0 : Int32))]
    refine s_iloadN A9 d10_78 (pc' := 79) rfl rfl ?_
    refine s_isub A9 d10_79 (pc' := 80) rfl (v := (0 : Int32)) (by decide) ?_
    refine g_static X9 hx hZ (y := (⟨"java/lang/Integer", "compare", "(II)I"⟩ : MethodName)) hown (hw _ (List.mem_of_getElem? (i := 57) rfl)) (hw _ (List.mem_of_getElem? (i := 58) rfl)) (hw _ (List.mem_of_getElem? (i := 59) rfl)) (hw _ (List.mem_of_getElem? (i := 60) rfl)) (by decide) (argsL := [(.int (0 : Int32)), (.int (0 : Int32))]) (rest := []) (c_icmp l Z a0 hw [] (0 : Int32) (0 : Int32) h0 n0 Z0) pd_10 rfl rfl (hb hby d10_80) e9 (by rw [hml]; rfl) (pc' := 83) rfl (by decide) (W := 0) (Nat.le_of_eq rfl) (by decide) (by decide) (by decide) ?_
    intro v10 T10 L10 X10 hQ10
    have A10 := wk X10 hx hby
    have e10 : T10.heap = T10.heap := rfl
    obtain ⟨z10, rfl, q10, N10, hh10⟩ := hQ10
    have e10 : T10.heap = h0 := hh10
    have fr10 := Fr.app fr9 N10
    show Go p e below m (Fini s 0 0 (fun v h L => ∃ z : Int32, v = some (.int z) ∧ ((c0.toInt < g0.toInt ∧ z.toInt = -1 ∨ g0.toInt < c0.toInt ∧ z.toInt = 1 ∨ c0.toInt = g0.toInt ∧ z.toInt = 0)) ∧ Fr n0 L ∧ h = h0)) T10 83 #[.val (.ref a), .val (.ref b), .val (.int (1 : Int32)), .val (.int (1 : Int32)), .val (.int c0), .val (.int g0)] [(.int z10)]
    try rw [show (0 : Int32).toInt = 0 from by decide] at q10
    try rw [show (0 : Int32).toInt = 0 from by decide] at q10
    exact g_retI X10 hx hlk hret (hb hby d10_83) ⟨_, rfl, by omega, fr10, e10⟩ (by decide) (by decide)
  · intro c38
    replace c38 := i_ne c38
    refine s_iload A4 d10_41 (pc' := 43) rfl rfl ?_
    refine s_iload A4 d10_43 (pc' := 45) rfl rfl ?_
    refine g_static X4 hx hZ (y := (⟨"java/lang/Integer", "compare", "(II)I"⟩ : MethodName)) hown (hw _ (List.mem_of_getElem? (i := 57) rfl)) (hw _ (List.mem_of_getElem? (i := 58) rfl)) (hw _ (List.mem_of_getElem? (i := 59) rfl)) (hw _ (List.mem_of_getElem? (i := 60) rfl)) (by decide) (argsL := [(.int c0), (.int g0)]) (rest := []) (c_icmp l Z a0 hw [] c0 g0 h0 n0 Z0) pd_10 rfl rfl (hb hby d10_45) e4 (by rw [hml]; rfl) (pc' := 48) rfl (by decide) (W := 0) (Nat.le_of_eq rfl) (by decide) (by decide) (by decide) ?_
    intro v11 T11 L11 X11 hQ11
    have A11 := wk X11 hx hby
    have e11 : T11.heap = T11.heap := rfl
    obtain ⟨z11, rfl, q11, N11, hh11⟩ := hQ11
    have e11 : T11.heap = h0 := hh11
    have fr11 := Fr.app fr4 N11
    show Go p e below m (Fini s 0 0 (fun v h L => ∃ z : Int32, v = some (.int z) ∧ ((c0.toInt < g0.toInt ∧ z.toInt = -1 ∨ g0.toInt < c0.toInt ∧ z.toInt = 1 ∨ c0.toInt = g0.toInt ∧ z.toInt = 0)) ∧ Fr n0 L ∧ h = h0)) T11 48 #[.val (.ref a), .val (.ref b), .val (.int (0 : Int32)), .val (.int (0 : Int32)), .val (.int c0), .val (.int g0)] [(.int z11)]
    exact g_retI X11 hx hlk hret (hb hby d10_48) ⟨_, rfl, by omega, fr11, e11⟩ (by decide) (by decide)
theorem ef_c_rc1_1 (m : MethodId) (x0 : UInt64) (x1 : Addr) (x2 : UInt64) (x3 : Addr) : entryFrame m #[(.double x0), (.ref x1), (.double x2), (.ref x3)] 7 = mkF m 0 #[.val (.double x0), .second, .val (.ref x1), .val (.double x2), .second, .val (.ref x3), .unset] [] := by first | (simp [entryFrame, mkF, argsToLocals, Value.category, maxLocals]; done) | rfl
set_option maxRecDepth 65536 in
set_option maxHeartbeats 40000000 in
theorem c_rc1_1 (l : Launch) (Z : State) (a0 : Array Value) (hw : ∀ d ∈ tables_1, d.before a0 Z = true) (ws : List Jvm.Cond) (x y : UInt64) (nx ny : Int) (a d b f : Addr) (cz : Int32) (fv : Value) (c0 : Int32) (g0 : Int32) (h0 : Heap) (n0 : Nat) (Z0 : n0 ≤ h0.size) (Hx : Dy nx 0 x) (Hy : Dy ny 0 y) (Ea : Exa Z h0 a "java/lang/String") (Fv : Fld Z h0 a "java/lang/String" "value" "[B" (.ref d)) (Fc : Fld Z h0 a "java/lang/String" "coder" "B" (.int 0)) (D : Ars Z h0 d .byte [(.int c0.toInt8.toInt32)]) (O : Old Z n0 h0) (SC : Sta Z Z.heap "java/lang/String" "COMPACT_STRINGS" "Z" (.int cz)) (hcz : ¬ cz = 0) (Eb : Exa Z h0 b "java/lang/String") (Gv : Fld Z h0 b "java/lang/String" "value" "[B" (.ref f)) (Gc : Fld Z h0 b "java/lang/String" "coder" "B" (.int 0)) (D2 : Ars Z h0 f .byte [(.int g0.toInt8.toInt32)]) (SF : Sta Z Z.heap "jdk/internal/util/Preconditions" "SIOOBE_FORMATTER" "Ljava/util/function/BiFunction;" fv) (hfv : fv = .null ∨ ∃ f, fv = .ref f) (C0 : 0 ≤ c0.toInt ∧ c0.toInt ≤ 255) (G0 : 0 ≤ g0.toInt ∧ g0.toInt ≤ 255) :
    Ctr l Z (⟨"com/example/prox2/prox2/format/RunOrder", "compare", "(DLjava/lang/String;DLjava/lang/String;)I"⟩ : MethodName) prog_17_method_4_code 7 (some .int) ws ({ frames := 4, cells := 0, slots := 0, locals := 58 } : Room) #[(.double x), (.ref b), (.double y), (.ref a)] h0 (fun v h L => ∃ z : Int32, v = some (.int z) ∧ (ny < nx ∧ z.toInt = -1 ∨ nx < ny ∧ z.toInt = 1 ∨ nx = ny ∧ ((c0.toInt < g0.toInt ∧ z.toInt = -1 ∨ g0.toInt < c0.toInt ∧ z.toInt = 1 ∨ c0.toInt = g0.toInt ∧ z.toInt = 0))) ∧ Fr n0 L ∧ h = h0) := by
  refine enter pn_5 ?_
  intro p e s m below meth c T0 X0 hx hby hml hret hlk hZ hown hnm e0
  have A0 := wk X0 hx hby
  have N0 := Fr.nil n0
  refine goIn (ef_c_rc1_1 m x b y a) ?_
  show Go p e below m (Fini s 0 0 (fun v h L => ∃ z : Int32, v = some (.int z) ∧ (ny < nx ∧ z.toInt = -1 ∨ nx < ny ∧ z.toInt = 1 ∨ nx = ny ∧ ((c0.toInt < g0.toInt ∧ z.toInt = -1 ∨ g0.toInt < c0.toInt ∧ z.toInt = 1 ∨ c0.toInt = g0.toInt ∧ z.toInt = 0))) ∧ Fr n0 L ∧ h = h0)) T0 0 #[.val (.double x), .second, .val (.ref b), .val (.double y), .second, .val (.ref a), .unset] []
  refine s_dloadN A0 d5_0 (pc' := 1) rfl rfl ?_
  refine s_dloadN A0 d5_1 (pc' := 2) rfl rfl ?_
  refine g_static X0 hx hZ (y := (⟨"com/example/prox2/prox2/format/RunOrder", "compareScores", "(DD)I"⟩ : MethodName)) hown (hw _ (List.mem_of_getElem? (i := 30) rfl)) (hw _ (List.mem_of_getElem? (i := 31) rfl)) (hw _ (List.mem_of_getElem? (i := 28) rfl)) (hw _ (List.mem_of_getElem? (i := 32) rfl)) (by decide) (argsL := [(.double x), (.double y)]) (rest := []) (c_cs l Z a0 hw [] x y nx ny h0 n0 Z0 Hx Hy) pd_11 rfl rfl (hb hby d5_2) e0 (by rw [hml]; rfl) (pc' := 5) rfl (by decide) (W := 0) (Nat.le_of_eq rfl) (by decide) (by decide) (by decide) ?_
  intro v1 T1 L1 X1 hQ1
  have A1 := wk X1 hx hby
  have e1 : T1.heap = T1.heap := rfl
  obtain ⟨z1, rfl, q1, N1, hh1⟩ := hQ1
  have e1 : T1.heap = h0 := hh1
  have fr1 := Fr.app N0 N1
  show Go p e below m (Fini s 0 0 (fun v h L => ∃ z : Int32, v = some (.int z) ∧ (ny < nx ∧ z.toInt = -1 ∨ nx < ny ∧ z.toInt = 1 ∨ nx = ny ∧ ((c0.toInt < g0.toInt ∧ z.toInt = -1 ∨ g0.toInt < c0.toInt ∧ z.toInt = 1 ∨ c0.toInt = g0.toInt ∧ z.toInt = 0))) ∧ Fr n0 L ∧ h = h0)) T1 5 #[.val (.double x), .second, .val (.ref b), .val (.double y), .second, .val (.ref a), .unset] [(.int z1)]
  refine s_istore A1 d5_5 (pc' := 7) rfl (ls' := #[.val (.double x), .second, .val (.ref b), .val (.double y), .second, .val (.ref a), .val (.int z1)]) rfl ?_
  refine s_iload A1 d5_7 (pc' := 9) rfl rfl ?_
  refine s_ifeq A1 d5_9 (pY := 17) (pN := 12) (by decide) (by decide) rfl ?_ ?_
  · intro c9
    replace c9 := iz_eq c9
    refine s_aload A1 d5_17 (pc' := 19) rfl rfl rfl ?_
    refine s_aloadN A1 d5_19 (pc' := 20) rfl rfl rfl ?_
    refine g_static X1 hx hZ (y := (⟨"com/example/prox2/prox2/format/RunOrder", "compareAsText", "(Ljava/lang/String;Ljava/lang/String;)I"⟩ : MethodName)) hown (hw _ (List.mem_of_getElem? (i := 44) rfl)) (hw _ (List.mem_of_getElem? (i := 45) rfl)) (hw _ (List.mem_of_getElem? (i := 28) rfl)) (hw _ (List.mem_of_getElem? (i := 46) rfl)) (by decide) (argsL := [(.ref a), (.ref b)]) (rest := []) (c_ct1_1 l Z a0 hw [] a d b f cz fv c0 g0 h0 n0 Z0 Ea Fv Fc D O SC hcz Eb Gv Gc D2 SF hfv C0 G0) pd_12 rfl rfl (hb hby d5_20) e1 (by rw [hml]; rfl) (pc' := 23) rfl (by decide) (W := 0) (Nat.le_of_eq rfl) (by decide) (by decide) (by decide) ?_
    intro v2 T2 L2 X2 hQ2
    have A2 := wk X2 hx hby
    have e2 : T2.heap = T2.heap := rfl
    obtain ⟨z2, rfl, q2, N2, hh2⟩ := hQ2
    have e2 : T2.heap = h0 := hh2
    have fr2 := Fr.app fr1 N2
    show Go p e below m (Fini s 0 0 (fun v h L => ∃ z : Int32, v = some (.int z) ∧ (ny < nx ∧ z.toInt = -1 ∨ nx < ny ∧ z.toInt = 1 ∨ nx = ny ∧ ((c0.toInt < g0.toInt ∧ z.toInt = -1 ∨ g0.toInt < c0.toInt ∧ z.toInt = 1 ∨ c0.toInt = g0.toInt ∧ z.toInt = 0))) ∧ Fr n0 L ∧ h = h0)) T2 23 #[.val (.double x), .second, .val (.ref b), .val (.double y), .second, .val (.ref a), .val (.int z1)] [(.int z2)]
    exact g_retI X2 hx hlk hret (hb hby d5_23) ⟨_, rfl, by omega, fr2, e2⟩ (by decide) (by decide)
  · intro c9
    replace c9 := iz_ne c9
    refine s_iload A1 d5_12 (pc' := 14) rfl rfl ?_
    refine s_goto A1 d5_14 (pc' := 23) (by decide) (by decide) ?_
    exact g_retI X1 hx hlk hret (hb hby d5_23) ⟨_, rfl, by omega, fr1, e1⟩ (by decide) (by decide)
theorem ef_c_ck1_1 (m : MethodId) (x0 : Int32) (x1 : Int32) (x2 : Int32) (x3 : Int32) (x4 : Int32) (x5 : Int32) : entryFrame m #[(.int x0), (.int x1), (.int x2), (.int x3), (.int x4), (.int x5)] 6 = mkF m 0 #[.val (.int x0), .val (.int x1), .val (.int x2), .val (.int x3), .val (.int x4), .val (.int x5)] [] := by first | (simp [entryFrame, mkF, argsToLocals, Value.category, maxLocals]; done) | rfl
set_option maxRecDepth 65536 in
set_option maxHeartbeats 40000000 in
theorem c_ck1_1 (l : Launch) (Z : State) (a0 : Array Value) (hw : ∀ d ∈ tables_1, d.before a0 Z = true) (ws : List Jvm.Cond) (c0 c1 g0 g1 : Int32) (h0 : Heap) (n0 : Nat) (Z0 : n0 ≤ h0.size)  :
    Ctr l Z (⟨"com/example/prox2/prox2/format/RunOrderComparePinLaw", "cmp", "(ICCICC)I"⟩ : MethodName) method_4_code 6 (some .int) ws ({ frames := 0, cells := 0, slots := 0, locals := 0 } : Room) #[(.int (1 : Int32)), (.int c0), (.int c1), (.int (1 : Int32)), (.int g0), (.int g1)] h0 (fun v h L => ∃ z : Int32, v = some (.int z) ∧ ((c0.toInt < g0.toInt ∧ z.toInt = -1 ∨ g0.toInt < c0.toInt ∧ z.toInt = 1 ∨ c0.toInt = g0.toInt ∧ z.toInt = 0)) ∧ Fr n0 L ∧ h = h0) := by
  refine enter pn_14 ?_
  intro p e s m below meth c T0 X0 hx hby hml hret hlk hZ hown hnm e0
  have A0 := wk X0 hx hby
  have N0 := Fr.nil n0
  refine goIn (ef_c_ck1_1 m (1 : Int32) c0 c1 (1 : Int32) g0 g1) ?_
  show Go p e below m (Fini s 0 0 (fun v h L => ∃ z : Int32, v = some (.int z) ∧ ((c0.toInt < g0.toInt ∧ z.toInt = -1 ∨ g0.toInt < c0.toInt ∧ z.toInt = 1 ∨ c0.toInt = g0.toInt ∧ z.toInt = 0)) ∧ Fr n0 L ∧ h = h0)) T0 0 #[.val (.int (1 : Int32)), .val (.int c0), .val (.int c1), .val (.int (1 : Int32)), .val (.int g0), .val (.int g1)] []
  refine s_iloadN A0 d14_0 (pc' := 1) rfl rfl ?_
  refine s_ifle A0 d14_1 (pY := 54) (pN := 4) (by decide) (by decide) rfl (fun c => absurd c (by decide)) (fun _ => ?_)
  refine s_iloadN A0 d14_4 (pc' := 5) rfl rfl ?_
  refine s_ifle A0 d14_5 (pY := 54) (pN := 8) (by decide) (by decide) rfl (fun c => absurd c (by decide)) (fun _ => ?_)
  refine s_iloadN A0 d14_8 (pc' := 9) rfl rfl ?_
  refine s_iload A0 d14_9 (pc' := 11) rfl rfl ?_
  refine s_icmpeq A0 d14_11 (pY := 26) (pN := 14) (by decide) (by decide) rfl ?_ ?_
  · intro c11
    replace c11 := i_eq c11
    refine s_iloadN A0 d14_26 (pc' := 27) rfl rfl ?_
    refine s_iconst A0 d14_27 (pc' := 28) rfl (v := (1 : Int32)) (by decide) ?_
    refine s_icmple A0 d14_28 (pY := 54) (pN := 31) (by decide) (by decide) rfl (fun _ => ?_) (fun c => absurd c (by decide))
    refine s_iloadN A0 d14_54 (pc' := 55) rfl rfl ?_
    refine s_iloadN A0 d14_55 (pc' := 56) rfl rfl ?_
    refine s_icmpge A0 d14_56 (pY := 63) (pN := 59) (by decide) (by decide) rfl (fun _ => ?_) (fun c => absurd c (by decide))
    refine s_iloadN A0 d14_63 (pc' := 64) rfl rfl ?_
    refine s_iloadN A0 d14_64 (pc' := 65) rfl rfl ?_
    refine s_icmple A0 d14_65 (pY := 72) (pN := 68) (by decide) (by decide) rfl (fun _ => ?_) (fun c => absurd c (by decide))
    refine s_iconst A0 d14_72 (pc' := 73) rfl (v := (0 : Int32)) (by decide) ?_
    exact g_retI X0 hx hlk hret (hb hby d14_73) ⟨_, rfl, by rw [show (0 : Int32).toInt = 0 from by decide] <;> omega, N0, e0⟩ (by decide) (by decide)
  · intro c11
    replace c11 := i_ne c11
    refine s_iloadN A0 d14_14 (pc' := 15) rfl rfl ?_
    refine s_iload A0 d14_15 (pc' := 17) rfl rfl ?_
    refine s_icmpge A0 d14_17 (pY := 24) (pN := 20) (by decide) (by decide) rfl ?_ ?_
    · intro c17
      replace c17 := i_ge c17
      refine s_iconst A0 d14_24 (pc' := 25) rfl (v := (1 : Int32)) (by decide) ?_
      exact g_retI X0 hx hlk hret (hb hby d14_25) ⟨_, rfl, by rw [show (1 : Int32).toInt = 1 from by decide] <;> omega, N0, e0⟩ (by decide) (by decide)
    · intro c17
      replace c17 := i_lt c17
      refine s_iconst A0 d14_20 (pc' := 21) rfl (v := (-1 : Int32)) (by decide) ?_
      refine s_goto A0 d14_21 (pc' := 25) (by decide) (by decide) ?_
      exact g_retI X0 hx hlk hret (hb hby d14_25) ⟨_, rfl, by rw [show (-1 : Int32).toInt = -1 from by decide] <;> omega, N0, e0⟩ (by decide) (by decide)
theorem ef_c_ct1_2 (m : MethodId) (x0 : Addr) (x1 : Addr) : entryFrame m #[(.ref x0), (.ref x1)] 6 = mkF m 0 #[.val (.ref x0), .val (.ref x1), .unset, .unset, .unset, .unset] [] := by first | (simp [entryFrame, mkF, argsToLocals, Value.category, maxLocals]; done) | rfl
set_option maxRecDepth 65536 in
set_option maxHeartbeats 40000000 in
theorem c_ct1_2 (l : Launch) (Z : State) (a0 : Array Value) (hw : ∀ d ∈ tables_1, d.before a0 Z = true) (ws : List Jvm.Cond) (a d b f : Addr) (cz : Int32) (fv : Value) (c0 : Int32) (g0 g1 : Int32) (h0 : Heap) (n0 : Nat) (Z0 : n0 ≤ h0.size) (Ea : Exa Z h0 a "java/lang/String") (Fv : Fld Z h0 a "java/lang/String" "value" "[B" (.ref d)) (Fc : Fld Z h0 a "java/lang/String" "coder" "B" (.int 0)) (D : Ars Z h0 d .byte [(.int c0.toInt8.toInt32)]) (O : Old Z n0 h0) (SC : Sta Z Z.heap "java/lang/String" "COMPACT_STRINGS" "Z" (.int cz)) (hcz : ¬ cz = 0) (Eb : Exa Z h0 b "java/lang/String") (Gv : Fld Z h0 b "java/lang/String" "value" "[B" (.ref f)) (Gc : Fld Z h0 b "java/lang/String" "coder" "B" (.int 0)) (D2 : Ars Z h0 f .byte [(.int g0.toInt8.toInt32), (.int g1.toInt8.toInt32)]) (SF : Sta Z Z.heap "jdk/internal/util/Preconditions" "SIOOBE_FORMATTER" "Ljava/util/function/BiFunction;" fv) (hfv : fv = .null ∨ ∃ f, fv = .ref f) (C0 : 0 ≤ c0.toInt ∧ c0.toInt ≤ 255) (G0 : 0 ≤ g0.toInt ∧ g0.toInt ≤ 255) (G1 : 0 ≤ g1.toInt ∧ g1.toInt ≤ 255) :
    Ctr l Z (⟨"com/example/prox2/prox2/format/RunOrder", "compareAsText", "(Ljava/lang/String;Ljava/lang/String;)I"⟩ : MethodName) prog_17_method_6_code 6 (some .int) ws ({ frames := 3, cells := 0, slots := 0, locals := 41 } : Room) #[(.ref a), (.ref b)] h0 (fun v h L => ∃ z : Int32, v = some (.int z) ∧ ((c0.toInt < g0.toInt ∧ z.toInt = -1 ∨ g0.toInt < c0.toInt ∧ z.toInt = 1 ∨ c0.toInt = g0.toInt ∧ z.toInt = -1)) ∧ Fr n0 L ∧ h = h0) := by
  refine enter pn_10 ?_
  intro p e s m below meth c T0 X0 hx hby hml hret hlk hZ hown hnm e0
  have A0 := wk X0 hx hby
  have N0 := Fr.nil n0
  refine goIn (ef_c_ct1_2 m a b) ?_
  show Go p e below m (Fini s 0 0 (fun v h L => ∃ z : Int32, v = some (.int z) ∧ ((c0.toInt < g0.toInt ∧ z.toInt = -1 ∨ g0.toInt < c0.toInt ∧ z.toInt = 1 ∨ c0.toInt = g0.toInt ∧ z.toInt = -1)) ∧ Fr n0 L ∧ h = h0)) T0 0 #[.val (.ref a), .val (.ref b), .unset, .unset, .unset, .unset] []
  refine s_iconst A0 d10_0 (pc' := 1) rfl (v := (0 : Int32)) (by decide) ?_
  refine s_istoreN A0 d10_1 (pc' := 2) rfl (ls' := #[.val (.ref a), .val (.ref b), .val (.int (0 : Int32)), .unset, .unset, .unset]) rfl ?_
  refine s_iconst A0 d10_2 (pc' := 3) rfl (v := (0 : Int32)) (by decide) ?_
  refine s_istoreN A0 d10_3 (pc' := 4) rfl (ls' := #[.val (.ref a), .val (.ref b), .val (.int (0 : Int32)), .val (.int (0 : Int32)), .unset, .unset]) rfl ?_
  refine s_iloadN A0 d10_4 (pc' := 5) rfl rfl ?_
  refine s_aloadN A0 d10_5 (pc' := 6) rfl rfl rfl ?_
  refine g_virtual X0 hx hZ (y := (⟨"java/lang/String", "length", "()I"⟩ : MethodName)) hown (hw _ (List.mem_of_getElem? (i := 47) rfl)) (hw _ (List.mem_of_getElem? (i := 48) rfl)) (hw _ (List.mem_of_getElem? (i := 50) rfl)) (hw _ (List.mem_of_getElem? (i := 49) rfl)) (hw _ (List.mem_of_getElem? (i := 6) rfl)) (hw _ (List.mem_of_getElem? (i := 51) rfl)) (by decide) Ea (argsL := []) (rest := [(.int (0 : Int32))]) (c_len_1 l Z a0 hw [] a d cz c0 h0 n0 Z0 Ea Fv Fc D O SC hcz) pd_9 rfl rfl (hb hby d10_6) e0 (by rw [hml]; rfl) (pc' := 9) rfl (by decide) (W := 1) (Nat.le_of_eq rfl) (by decide) (by decide) (by decide) ?_
  intro v1 T1 L1 X1 hQ1
  have A1 := wk X1 hx hby
  have e1 : T1.heap = T1.heap := rfl
  obtain ⟨rfl, N1, hh1⟩ := hQ1
  have e1 : T1.heap = h0 := hh1
  have fr1 := Fr.app N0 N1
  show Go p e below m (Fini s 0 0 (fun v h L => ∃ z : Int32, v = some (.int z) ∧ ((c0.toInt < g0.toInt ∧ z.toInt = -1 ∨ g0.toInt < c0.toInt ∧ z.toInt = 1 ∨ c0.toInt = g0.toInt ∧ z.toInt = -1)) ∧ Fr n0 L ∧ h = h0)) T1 9 #[.val (.ref a), .val (.ref b), .val (.int (0 : Int32)), .val (.int (0 : Int32)), .unset, .unset] [(.int (1 : Int32)), (.int (0 : Int32))]
  refine s_icmpge A1 d10_9 (pY := 68) (pN := 12) (by decide) (by decide) rfl (fun c => absurd c (by decide)) (fun _ => ?_)
  refine s_iloadN A1 d10_12 (pc' := 13) rfl rfl ?_
  refine s_aloadN A1 d10_13 (pc' := 14) rfl rfl rfl ?_
  refine g_virtual X1 hx hZ (y := (⟨"java/lang/String", "length", "()I"⟩ : MethodName)) hown (hw _ (List.mem_of_getElem? (i := 47) rfl)) (hw _ (List.mem_of_getElem? (i := 48) rfl)) (hw _ (List.mem_of_getElem? (i := 50) rfl)) (hw _ (List.mem_of_getElem? (i := 49) rfl)) (hw _ (List.mem_of_getElem? (i := 6) rfl)) (hw _ (List.mem_of_getElem? (i := 51) rfl)) (by decide) Eb (argsL := []) (rest := [(.int (0 : Int32))]) (c_len_2 l Z a0 hw [] b f cz g0 g1 h0 n0 Z0 Eb Gv Gc D2 O SC hcz) pd_9 rfl rfl (hb hby d10_14) e1 (by rw [hml]; rfl) (pc' := 17) rfl (by decide) (W := 1) (Nat.le_of_eq rfl) (by decide) (by decide) (by decide) ?_
  intro v2 T2 L2 X2 hQ2
  have A2 := wk X2 hx hby
  have e2 : T2.heap = T2.heap := rfl
  obtain ⟨rfl, N2, hh2⟩ := hQ2
  have e2 : T2.heap = h0 := hh2
  have fr2 := Fr.app fr1 N2
  show Go p e below m (Fini s 0 0 (fun v h L => ∃ z : Int32, v = some (.int z) ∧ ((c0.toInt < g0.toInt ∧ z.toInt = -1 ∨ g0.toInt < c0.toInt ∧ z.toInt = 1 ∨ c0.toInt = g0.toInt ∧ z.toInt = -1)) ∧ Fr n0 L ∧ h = h0)) T2 17 #[.val (.ref a), .val (.ref b), .val (.int (0 : Int32)), .val (.int (0 : Int32)), .unset, .unset] [(.int (2 : Int32)), (.int (0 : Int32))]
  refine s_icmpge A2 d10_17 (pY := 68) (pN := 20) (by decide) (by decide) rfl (fun c => absurd c (by decide)) (fun _ => ?_)
  refine s_aloadN A2 d10_20 (pc' := 21) rfl rfl rfl ?_
  refine s_iloadN A2 d10_21 (pc' := 22) rfl rfl ?_
  refine g_virtual X2 hx hZ (y := (⟨"java/lang/String", "codePointAt", "(I)I"⟩ : MethodName)) hown (hw _ (List.mem_of_getElem? (i := 64) rfl)) (hw _ (List.mem_of_getElem? (i := 65) rfl)) (hw _ (List.mem_of_getElem? (i := 67) rfl)) (hw _ (List.mem_of_getElem? (i := 66) rfl)) (hw _ (List.mem_of_getElem? (i := 6) rfl)) (hw _ (List.mem_of_getElem? (i := 68) rfl)) (by decide) Ea (argsL := [(.int (0 : Int32))]) (rest := []) (c_cpa_0_1 l Z a0 hw [] a d cz c0 fv h0 n0 Z0 Ea Fv Fc D O SC hcz SF hfv C0) pd_13 rfl rfl (hb hby d10_22) e2 (by rw [hml]; rfl) (pc' := 25) rfl (by decide) (W := 0) (Nat.le_of_eq rfl) (by decide) (by decide) (by decide) ?_
  intro v3 T3 L3 X3 hQ3
  have A3 := wk X3 hx hby
  have e3 : T3.heap = T3.heap := rfl
  obtain ⟨rfl, N3, hh3⟩ := hQ3
  have e3 : T3.heap = h0 := hh3
  have fr3 := Fr.app fr2 N3
  show Go p e below m (Fini s 0 0 (fun v h L => ∃ z : Int32, v = some (.int z) ∧ ((c0.toInt < g0.toInt ∧ z.toInt = -1 ∨ g0.toInt < c0.toInt ∧ z.toInt = 1 ∨ c0.toInt = g0.toInt ∧ z.toInt = -1)) ∧ Fr n0 L ∧ h = h0)) T3 25 #[.val (.ref a), .val (.ref b), .val (.int (0 : Int32)), .val (.int (0 : Int32)), .unset, .unset] [(.int c0)]
  refine s_istore A3 d10_25 (pc' := 27) rfl (ls' := #[.val (.ref a), .val (.ref b), .val (.int (0 : Int32)), .val (.int (0 : Int32)), .val (.int c0), .unset]) rfl ?_
  refine s_aloadN A3 d10_27 (pc' := 28) rfl rfl rfl ?_
  refine s_iloadN A3 d10_28 (pc' := 29) rfl rfl ?_
  refine g_virtual X3 hx hZ (y := (⟨"java/lang/String", "codePointAt", "(I)I"⟩ : MethodName)) hown (hw _ (List.mem_of_getElem? (i := 64) rfl)) (hw _ (List.mem_of_getElem? (i := 65) rfl)) (hw _ (List.mem_of_getElem? (i := 67) rfl)) (hw _ (List.mem_of_getElem? (i := 66) rfl)) (hw _ (List.mem_of_getElem? (i := 6) rfl)) (hw _ (List.mem_of_getElem? (i := 68) rfl)) (by decide) Eb (argsL := [(.int (0 : Int32))]) (rest := []) (c_cpa_0_2 l Z a0 hw [] b f cz g0 g1 fv h0 n0 Z0 Eb Gv Gc D2 O SC hcz SF hfv G0 G1) pd_13 rfl rfl (hb hby d10_29) e3 (by rw [hml]; rfl) (pc' := 32) rfl (by decide) (W := 0) (Nat.le_of_eq rfl) (by decide) (by decide) (by decide) ?_
  intro v4 T4 L4 X4 hQ4
  have A4 := wk X4 hx hby
  have e4 : T4.heap = T4.heap := rfl
  obtain ⟨rfl, N4, hh4⟩ := hQ4
  have e4 : T4.heap = h0 := hh4
  have fr4 := Fr.app fr3 N4
  show Go p e below m (Fini s 0 0 (fun v h L => ∃ z : Int32, v = some (.int z) ∧ ((c0.toInt < g0.toInt ∧ z.toInt = -1 ∨ g0.toInt < c0.toInt ∧ z.toInt = 1 ∨ c0.toInt = g0.toInt ∧ z.toInt = -1)) ∧ Fr n0 L ∧ h = h0)) T4 32 #[.val (.ref a), .val (.ref b), .val (.int (0 : Int32)), .val (.int (0 : Int32)), .val (.int c0), .unset] [(.int g0)]
  refine s_istore A4 d10_32 (pc' := 34) rfl (ls' := #[.val (.ref a), .val (.ref b), .val (.int (0 : Int32)), .val (.int (0 : Int32)), .val (.int c0), .val (.int g0)]) rfl ?_
  refine s_iload A4 d10_34 (pc' := 36) rfl rfl ?_
  refine s_iload A4 d10_36 (pc' := 38) rfl rfl ?_
  refine s_icmpeq A4 d10_38 (pY := 49) (pN := 41) (by decide) (by decide) rfl ?_ ?_
  · intro c38
    replace c38 := i_eq c38
    refine s_iloadN A4 d10_49 (pc' := 50) rfl rfl ?_
    refine s_iload A4 d10_50 (pc' := 52) rfl rfl ?_
    refine g_static X4 hx hZ (y := (⟨"java/lang/Character", "charCount", "(I)I"⟩ : MethodName)) hown (hw _ (List.mem_of_getElem? (i := 82) rfl)) (hw _ (List.mem_of_getElem? (i := 83) rfl)) (hw _ (List.mem_of_getElem? (i := 84) rfl)) (hw _ (List.mem_of_getElem? (i := 85) rfl)) (by decide) (argsL := [(.int c0)]) (rest := [(.int (0 : Int32))]) (c_cc l Z a0 hw [] c0 h0 n0 Z0 (by omega)) pd_13 rfl rfl (hb hby d10_52) e4 (by rw [hml]; rfl) (pc' := 55) rfl (by decide) (W := 1) (Nat.le_of_eq rfl) (by decide) (by decide) (by decide) ?_
    intro v5 T5 L5 X5 hQ5
    have A5 := wk X5 hx hby
    have e5 : T5.heap = T5.heap := rfl
    obtain ⟨rfl, N5, hh5⟩ := hQ5
    have e5 : T5.heap = h0 := hh5
    have fr5 := Fr.app fr4 N5
    show Go p e below m (Fini s 0 0 (fun v h L => ∃ z : Int32, v = some (.int z) ∧ ((c0.toInt < g0.toInt ∧ z.toInt = -1 ∨ g0.toInt < c0.toInt ∧ z.toInt = 1 ∨ c0.toInt = g0.toInt ∧ z.toInt = -1)) ∧ Fr n0 L ∧ h = h0)) T5 55 #[.val (.ref a), .val (.ref b), .val (.int (0 : Int32)), .val (.int (0 : Int32)), .val (.int c0), .val (.int g0)] [(.int (1 : Int32)), (.int (0 : Int32))]
    refine s_iadd A5 d10_55 (pc' := 56) rfl (v := (1 : Int32)) (by decide) ?_
    refine s_istoreN A5 d10_56 (pc' := 57) rfl (ls' := #[.val (.ref a), .val (.ref b), .val (.int (1 : Int32)), .val (.int (0 : Int32)), .val (.int c0), .val (.int g0)]) rfl ?_
    refine s_iloadN A5 d10_57 (pc' := 58) rfl rfl ?_
    refine s_iload A5 d10_58 (pc' := 60) rfl rfl ?_
    refine g_static X5 hx hZ (y := (⟨"java/lang/Character", "charCount", "(I)I"⟩ : MethodName)) hown (hw _ (List.mem_of_getElem? (i := 82) rfl)) (hw _ (List.mem_of_getElem? (i := 83) rfl)) (hw _ (List.mem_of_getElem? (i := 84) rfl)) (hw _ (List.mem_of_getElem? (i := 85) rfl)) (by decide) (argsL := [(.int g0)]) (rest := [(.int (0 : Int32))]) (c_cc l Z a0 hw [] g0 h0 n0 Z0 (by omega)) pd_13 rfl rfl (hb hby d10_60) e5 (by rw [hml]; rfl) (pc' := 63) rfl (by decide) (W := 1) (Nat.le_of_eq rfl) (by decide) (by decide) (by decide) ?_
    intro v6 T6 L6 X6 hQ6
    have A6 := wk X6 hx hby
    have e6 : T6.heap = T6.heap := rfl
    obtain ⟨rfl, N6, hh6⟩ := hQ6
    have e6 : T6.heap = h0 := hh6
    have fr6 := Fr.app fr5 N6
    show Go p e below m (Fini s 0 0 (fun v h L => ∃ z : Int32, v = some (.int z) ∧ ((c0.toInt < g0.toInt ∧ z.toInt = -1 ∨ g0.toInt < c0.toInt ∧ z.toInt = 1 ∨ c0.toInt = g0.toInt ∧ z.toInt = -1)) ∧ Fr n0 L ∧ h = h0)) T6 63 #[.val (.ref a), .val (.ref b), .val (.int (1 : Int32)), .val (.int (0 : Int32)), .val (.int c0), .val (.int g0)] [(.int (1 : Int32)), (.int (0 : Int32))]
    refine s_iadd A6 d10_63 (pc' := 64) rfl (v := (1 : Int32)) (by decide) ?_
    refine s_istoreN A6 d10_64 (pc' := 65) rfl (ls' := #[.val (.ref a), .val (.ref b), .val (.int (1 : Int32)), .val (.int (1 : Int32)), .val (.int c0), .val (.int g0)]) rfl ?_
    refine s_goto A6 d10_65 (pc' := 4) (by decide) (by decide) ?_
    refine s_iloadN A6 d10_4 (pc' := 5) rfl rfl ?_
    refine s_aloadN A6 d10_5 (pc' := 6) rfl rfl rfl ?_
    refine g_virtual X6 hx hZ (y := (⟨"java/lang/String", "length", "()I"⟩ : MethodName)) hown (hw _ (List.mem_of_getElem? (i := 47) rfl)) (hw _ (List.mem_of_getElem? (i := 48) rfl)) (hw _ (List.mem_of_getElem? (i := 50) rfl)) (hw _ (List.mem_of_getElem? (i := 49) rfl)) (hw _ (List.mem_of_getElem? (i := 6) rfl)) (hw _ (List.mem_of_getElem? (i := 51) rfl)) (by decide) Ea (argsL := []) (rest := [(.int (1 : Int32))]) (c_len_1 l Z a0 hw [] a d cz c0 h0 n0 Z0 Ea Fv Fc D O SC hcz) pd_9 rfl rfl (hb hby d10_6) e6 (by rw [hml]; rfl) (pc' := 9) rfl (by decide) (W := 1) (Nat.le_of_eq rfl) (by decide) (by decide) (by decide) ?_
    intro v7 T7 L7 X7 hQ7
    have A7 := wk X7 hx hby
    have e7 : T7.heap = T7.heap := rfl
    obtain ⟨rfl, N7, hh7⟩ := hQ7
    have e7 : T7.heap = h0 := hh7
    have fr7 := Fr.app fr6 N7
    show Go p e below m (Fini s 0 0 (fun v h L => ∃ z : Int32, v = some (.int z) ∧ ((c0.toInt < g0.toInt ∧ z.toInt = -1 ∨ g0.toInt < c0.toInt ∧ z.toInt = 1 ∨ c0.toInt = g0.toInt ∧ z.toInt = -1)) ∧ Fr n0 L ∧ h = h0)) T7 9 #[.val (.ref a), .val (.ref b), .val (.int (1 : Int32)), .val (.int (1 : Int32)), .val (.int c0), .val (.int g0)] [(.int (1 : Int32)), (.int (1 : Int32))]
    refine s_icmpge A7 d10_9 (pY := 68) (pN := 12) (by decide) (by decide) rfl (fun _ => ?_) (fun c => absurd c (by decide))
    refine s_aloadN A7 d10_68 (pc' := 69) rfl rfl rfl ?_
    refine g_virtual X7 hx hZ (y := (⟨"java/lang/String", "length", "()I"⟩ : MethodName)) hown (hw _ (List.mem_of_getElem? (i := 47) rfl)) (hw _ (List.mem_of_getElem? (i := 48) rfl)) (hw _ (List.mem_of_getElem? (i := 50) rfl)) (hw _ (List.mem_of_getElem? (i := 49) rfl)) (hw _ (List.mem_of_getElem? (i := 6) rfl)) (hw _ (List.mem_of_getElem? (i := 51) rfl)) (by decide) Ea (argsL := []) (rest := []) (c_len_1 l Z a0 hw [] a d cz c0 h0 n0 Z0 Ea Fv Fc D O SC hcz) pd_9 rfl rfl (hb hby d10_69) e7 (by rw [hml]; rfl) (pc' := 72) rfl (by decide) (W := 0) (Nat.le_of_eq rfl) (by decide) (by decide) (by decide) ?_
    intro v8 T8 L8 X8 hQ8
    have A8 := wk X8 hx hby
    have e8 : T8.heap = T8.heap := rfl
    obtain ⟨rfl, N8, hh8⟩ := hQ8
    have e8 : T8.heap = h0 := hh8
    have fr8 := Fr.app fr7 N8
    show Go p e below m (Fini s 0 0 (fun v h L => ∃ z : Int32, v = some (.int z) ∧ ((c0.toInt < g0.toInt ∧ z.toInt = -1 ∨ g0.toInt < c0.toInt ∧ z.toInt = 1 ∨ c0.toInt = g0.toInt ∧ z.toInt = -1)) ∧ Fr n0 L ∧ h = h0)) T8 72 #[.val (.ref a), .val (.ref b), .val (.int (1 : Int32)), .val (.int (1 : Int32)), .val (.int c0), .val (.int g0)] [(.int (1 : Int32))]
    refine s_iloadN A8 d10_72 (pc' := 73) rfl rfl ?_
    refine s_isub A8 d10_73 (pc' := 74) rfl (v := (0 : Int32)) (by decide) ?_
    refine s_aloadN A8 d10_74 (pc' := 75) rfl rfl rfl ?_
    refine g_virtual X8 hx hZ (y := (⟨"java/lang/String", "length", "()I"⟩ : MethodName)) hown (hw _ (List.mem_of_getElem? (i := 47) rfl)) (hw _ (List.mem_of_getElem? (i := 48) rfl)) (hw _ (List.mem_of_getElem? (i := 50) rfl)) (hw _ (List.mem_of_getElem? (i := 49) rfl)) (hw _ (List.mem_of_getElem? (i := 6) rfl)) (hw _ (List.mem_of_getElem? (i := 51) rfl)) (by decide) Eb (argsL := []) (rest := [(.int (0 : Int32))]) (c_len_2 l Z a0 hw [] b f cz g0 g1 h0 n0 Z0 Eb Gv Gc D2 O SC hcz) pd_9 rfl rfl (hb hby d10_75) e8 (by rw [hml]; rfl) (pc' := 78) rfl (by decide) (W := 1) (Nat.le_of_eq rfl) (by decide) (by decide) (by decide) ?_
    intro v9 T9 L9 X9 hQ9
    have A9 := wk X9 hx hby
    have e9 : T9.heap = T9.heap := rfl
    obtain ⟨rfl, N9, hh9⟩ := hQ9
    have e9 : T9.heap = h0 := hh9
    have fr9 := Fr.app fr8 N9
    show Go p e below m (Fini s 0 0 (fun v h L => ∃ z : Int32, v = some (.int z) ∧ ((c0.toInt < g0.toInt ∧ z.toInt = -1 ∨ g0.toInt < c0.toInt ∧ z.toInt = 1 ∨ c0.toInt = g0.toInt ∧ z.toInt = -1)) ∧ Fr n0 L ∧ h = h0)) T9 78 #[.val (.ref a), .val (.ref b), .val (.int (1 : Int32)), .val (.int (1 : Int32)), .val (.int c0), .val (.int g0)] [(.int (2 : Int32)), (.int (0 : Int32))]
    refine s_iloadN A9 d10_78 (pc' := 79) rfl rfl ?_
    refine s_isub A9 d10_79 (pc' := 80) rfl (v := (1 : Int32)) (by decide) ?_
    refine g_static X9 hx hZ (y := (⟨"java/lang/Integer", "compare", "(II)I"⟩ : MethodName)) hown (hw _ (List.mem_of_getElem? (i := 57) rfl)) (hw _ (List.mem_of_getElem? (i := 58) rfl)) (hw _ (List.mem_of_getElem? (i := 59) rfl)) (hw _ (List.mem_of_getElem? (i := 60) rfl)) (by decide) (argsL := [(.int (0 : Int32)), (.int (1 : Int32))]) (rest := []) (c_icmp l Z a0 hw [] (0 : Int32) (1 : Int32) h0 n0 Z0) pd_10 rfl rfl (hb hby d10_80) e9 (by rw [hml]; rfl) (pc' := 83) rfl (by decide) (W := 0) (Nat.le_of_eq rfl) (by decide) (by decide) (by decide) ?_
    intro v10 T10 L10 X10 hQ10
    have A10 := wk X10 hx hby
    have e10 : T10.heap = T10.heap := rfl
    obtain ⟨z10, rfl, q10, N10, hh10⟩ := hQ10
    have e10 : T10.heap = h0 := hh10
    have fr10 := Fr.app fr9 N10
    show Go p e below m (Fini s 0 0 (fun v h L => ∃ z : Int32, v = some (.int z) ∧ ((c0.toInt < g0.toInt ∧ z.toInt = -1 ∨ g0.toInt < c0.toInt ∧ z.toInt = 1 ∨ c0.toInt = g0.toInt ∧ z.toInt = -1)) ∧ Fr n0 L ∧ h = h0)) T10 83 #[.val (.ref a), .val (.ref b), .val (.int (1 : Int32)), .val (.int (1 : Int32)), .val (.int c0), .val (.int g0)] [(.int z10)]
    try rw [show (0 : Int32).toInt = 0 from by decide] at q10
    try rw [show (1 : Int32).toInt = 1 from by decide] at q10
    exact g_retI X10 hx hlk hret (hb hby d10_83) ⟨_, rfl, by omega, fr10, e10⟩ (by decide) (by decide)
  · intro c38
    replace c38 := i_ne c38
    refine s_iload A4 d10_41 (pc' := 43) rfl rfl ?_
    refine s_iload A4 d10_43 (pc' := 45) rfl rfl ?_
    refine g_static X4 hx hZ (y := (⟨"java/lang/Integer", "compare", "(II)I"⟩ : MethodName)) hown (hw _ (List.mem_of_getElem? (i := 57) rfl)) (hw _ (List.mem_of_getElem? (i := 58) rfl)) (hw _ (List.mem_of_getElem? (i := 59) rfl)) (hw _ (List.mem_of_getElem? (i := 60) rfl)) (by decide) (argsL := [(.int c0), (.int g0)]) (rest := []) (c_icmp l Z a0 hw [] c0 g0 h0 n0 Z0) pd_10 rfl rfl (hb hby d10_45) e4 (by rw [hml]; rfl) (pc' := 48) rfl (by decide) (W := 0) (Nat.le_of_eq rfl) (by decide) (by decide) (by decide) ?_
    intro v11 T11 L11 X11 hQ11
    have A11 := wk X11 hx hby
    have e11 : T11.heap = T11.heap := rfl
    obtain ⟨z11, rfl, q11, N11, hh11⟩ := hQ11
    have e11 : T11.heap = h0 := hh11
    have fr11 := Fr.app fr4 N11
    show Go p e below m (Fini s 0 0 (fun v h L => ∃ z : Int32, v = some (.int z) ∧ ((c0.toInt < g0.toInt ∧ z.toInt = -1 ∨ g0.toInt < c0.toInt ∧ z.toInt = 1 ∨ c0.toInt = g0.toInt ∧ z.toInt = -1)) ∧ Fr n0 L ∧ h = h0)) T11 48 #[.val (.ref a), .val (.ref b), .val (.int (0 : Int32)), .val (.int (0 : Int32)), .val (.int c0), .val (.int g0)] [(.int z11)]
    exact g_retI X11 hx hlk hret (hb hby d10_48) ⟨_, rfl, by omega, fr11, e11⟩ (by decide) (by decide)
theorem ef_c_rc1_2 (m : MethodId) (x0 : UInt64) (x1 : Addr) (x2 : UInt64) (x3 : Addr) : entryFrame m #[(.double x0), (.ref x1), (.double x2), (.ref x3)] 7 = mkF m 0 #[.val (.double x0), .second, .val (.ref x1), .val (.double x2), .second, .val (.ref x3), .unset] [] := by first | (simp [entryFrame, mkF, argsToLocals, Value.category, maxLocals]; done) | rfl
set_option maxRecDepth 65536 in
set_option maxHeartbeats 40000000 in
theorem c_rc1_2 (l : Launch) (Z : State) (a0 : Array Value) (hw : ∀ d ∈ tables_1, d.before a0 Z = true) (ws : List Jvm.Cond) (x y : UInt64) (nx ny : Int) (a d b f : Addr) (cz : Int32) (fv : Value) (c0 : Int32) (g0 g1 : Int32) (h0 : Heap) (n0 : Nat) (Z0 : n0 ≤ h0.size) (Hx : Dy nx 0 x) (Hy : Dy ny 0 y) (Ea : Exa Z h0 a "java/lang/String") (Fv : Fld Z h0 a "java/lang/String" "value" "[B" (.ref d)) (Fc : Fld Z h0 a "java/lang/String" "coder" "B" (.int 0)) (D : Ars Z h0 d .byte [(.int c0.toInt8.toInt32)]) (O : Old Z n0 h0) (SC : Sta Z Z.heap "java/lang/String" "COMPACT_STRINGS" "Z" (.int cz)) (hcz : ¬ cz = 0) (Eb : Exa Z h0 b "java/lang/String") (Gv : Fld Z h0 b "java/lang/String" "value" "[B" (.ref f)) (Gc : Fld Z h0 b "java/lang/String" "coder" "B" (.int 0)) (D2 : Ars Z h0 f .byte [(.int g0.toInt8.toInt32), (.int g1.toInt8.toInt32)]) (SF : Sta Z Z.heap "jdk/internal/util/Preconditions" "SIOOBE_FORMATTER" "Ljava/util/function/BiFunction;" fv) (hfv : fv = .null ∨ ∃ f, fv = .ref f) (C0 : 0 ≤ c0.toInt ∧ c0.toInt ≤ 255) (G0 : 0 ≤ g0.toInt ∧ g0.toInt ≤ 255) (G1 : 0 ≤ g1.toInt ∧ g1.toInt ≤ 255) :
    Ctr l Z (⟨"com/example/prox2/prox2/format/RunOrder", "compare", "(DLjava/lang/String;DLjava/lang/String;)I"⟩ : MethodName) prog_17_method_4_code 7 (some .int) ws ({ frames := 4, cells := 0, slots := 0, locals := 58 } : Room) #[(.double x), (.ref b), (.double y), (.ref a)] h0 (fun v h L => ∃ z : Int32, v = some (.int z) ∧ (ny < nx ∧ z.toInt = -1 ∨ nx < ny ∧ z.toInt = 1 ∨ nx = ny ∧ ((c0.toInt < g0.toInt ∧ z.toInt = -1 ∨ g0.toInt < c0.toInt ∧ z.toInt = 1 ∨ c0.toInt = g0.toInt ∧ z.toInt = -1))) ∧ Fr n0 L ∧ h = h0) := by
  refine enter pn_5 ?_
  intro p e s m below meth c T0 X0 hx hby hml hret hlk hZ hown hnm e0
  have A0 := wk X0 hx hby
  have N0 := Fr.nil n0
  refine goIn (ef_c_rc1_2 m x b y a) ?_
  show Go p e below m (Fini s 0 0 (fun v h L => ∃ z : Int32, v = some (.int z) ∧ (ny < nx ∧ z.toInt = -1 ∨ nx < ny ∧ z.toInt = 1 ∨ nx = ny ∧ ((c0.toInt < g0.toInt ∧ z.toInt = -1 ∨ g0.toInt < c0.toInt ∧ z.toInt = 1 ∨ c0.toInt = g0.toInt ∧ z.toInt = -1))) ∧ Fr n0 L ∧ h = h0)) T0 0 #[.val (.double x), .second, .val (.ref b), .val (.double y), .second, .val (.ref a), .unset] []
  refine s_dloadN A0 d5_0 (pc' := 1) rfl rfl ?_
  refine s_dloadN A0 d5_1 (pc' := 2) rfl rfl ?_
  refine g_static X0 hx hZ (y := (⟨"com/example/prox2/prox2/format/RunOrder", "compareScores", "(DD)I"⟩ : MethodName)) hown (hw _ (List.mem_of_getElem? (i := 30) rfl)) (hw _ (List.mem_of_getElem? (i := 31) rfl)) (hw _ (List.mem_of_getElem? (i := 28) rfl)) (hw _ (List.mem_of_getElem? (i := 32) rfl)) (by decide) (argsL := [(.double x), (.double y)]) (rest := []) (c_cs l Z a0 hw [] x y nx ny h0 n0 Z0 Hx Hy) pd_11 rfl rfl (hb hby d5_2) e0 (by rw [hml]; rfl) (pc' := 5) rfl (by decide) (W := 0) (Nat.le_of_eq rfl) (by decide) (by decide) (by decide) ?_
  intro v1 T1 L1 X1 hQ1
  have A1 := wk X1 hx hby
  have e1 : T1.heap = T1.heap := rfl
  obtain ⟨z1, rfl, q1, N1, hh1⟩ := hQ1
  have e1 : T1.heap = h0 := hh1
  have fr1 := Fr.app N0 N1
  show Go p e below m (Fini s 0 0 (fun v h L => ∃ z : Int32, v = some (.int z) ∧ (ny < nx ∧ z.toInt = -1 ∨ nx < ny ∧ z.toInt = 1 ∨ nx = ny ∧ ((c0.toInt < g0.toInt ∧ z.toInt = -1 ∨ g0.toInt < c0.toInt ∧ z.toInt = 1 ∨ c0.toInt = g0.toInt ∧ z.toInt = -1))) ∧ Fr n0 L ∧ h = h0)) T1 5 #[.val (.double x), .second, .val (.ref b), .val (.double y), .second, .val (.ref a), .unset] [(.int z1)]
  refine s_istore A1 d5_5 (pc' := 7) rfl (ls' := #[.val (.double x), .second, .val (.ref b), .val (.double y), .second, .val (.ref a), .val (.int z1)]) rfl ?_
  refine s_iload A1 d5_7 (pc' := 9) rfl rfl ?_
  refine s_ifeq A1 d5_9 (pY := 17) (pN := 12) (by decide) (by decide) rfl ?_ ?_
  · intro c9
    replace c9 := iz_eq c9
    refine s_aload A1 d5_17 (pc' := 19) rfl rfl rfl ?_
    refine s_aloadN A1 d5_19 (pc' := 20) rfl rfl rfl ?_
    refine g_static X1 hx hZ (y := (⟨"com/example/prox2/prox2/format/RunOrder", "compareAsText", "(Ljava/lang/String;Ljava/lang/String;)I"⟩ : MethodName)) hown (hw _ (List.mem_of_getElem? (i := 44) rfl)) (hw _ (List.mem_of_getElem? (i := 45) rfl)) (hw _ (List.mem_of_getElem? (i := 28) rfl)) (hw _ (List.mem_of_getElem? (i := 46) rfl)) (by decide) (argsL := [(.ref a), (.ref b)]) (rest := []) (c_ct1_2 l Z a0 hw [] a d b f cz fv c0 g0 g1 h0 n0 Z0 Ea Fv Fc D O SC hcz Eb Gv Gc D2 SF hfv C0 G0 G1) pd_12 rfl rfl (hb hby d5_20) e1 (by rw [hml]; rfl) (pc' := 23) rfl (by decide) (W := 0) (Nat.le_of_eq rfl) (by decide) (by decide) (by decide) ?_
    intro v2 T2 L2 X2 hQ2
    have A2 := wk X2 hx hby
    have e2 : T2.heap = T2.heap := rfl
    obtain ⟨z2, rfl, q2, N2, hh2⟩ := hQ2
    have e2 : T2.heap = h0 := hh2
    have fr2 := Fr.app fr1 N2
    show Go p e below m (Fini s 0 0 (fun v h L => ∃ z : Int32, v = some (.int z) ∧ (ny < nx ∧ z.toInt = -1 ∨ nx < ny ∧ z.toInt = 1 ∨ nx = ny ∧ ((c0.toInt < g0.toInt ∧ z.toInt = -1 ∨ g0.toInt < c0.toInt ∧ z.toInt = 1 ∨ c0.toInt = g0.toInt ∧ z.toInt = -1))) ∧ Fr n0 L ∧ h = h0)) T2 23 #[.val (.double x), .second, .val (.ref b), .val (.double y), .second, .val (.ref a), .val (.int z1)] [(.int z2)]
    exact g_retI X2 hx hlk hret (hb hby d5_23) ⟨_, rfl, by omega, fr2, e2⟩ (by decide) (by decide)
  · intro c9
    replace c9 := iz_ne c9
    refine s_iload A1 d5_12 (pc' := 14) rfl rfl ?_
    refine s_goto A1 d5_14 (pc' := 23) (by decide) (by decide) ?_
    exact g_retI X1 hx hlk hret (hb hby d5_23) ⟨_, rfl, by omega, fr1, e1⟩ (by decide) (by decide)
theorem ef_c_ck1_2 (m : MethodId) (x0 : Int32) (x1 : Int32) (x2 : Int32) (x3 : Int32) (x4 : Int32) (x5 : Int32) : entryFrame m #[(.int x0), (.int x1), (.int x2), (.int x3), (.int x4), (.int x5)] 6 = mkF m 0 #[.val (.int x0), .val (.int x1), .val (.int x2), .val (.int x3), .val (.int x4), .val (.int x5)] [] := by first | (simp [entryFrame, mkF, argsToLocals, Value.category, maxLocals]; done) | rfl
set_option maxRecDepth 65536 in
set_option maxHeartbeats 40000000 in
theorem c_ck1_2 (l : Launch) (Z : State) (a0 : Array Value) (hw : ∀ d ∈ tables_1, d.before a0 Z = true) (ws : List Jvm.Cond) (c0 c1 g0 g1 : Int32) (h0 : Heap) (n0 : Nat) (Z0 : n0 ≤ h0.size)  :
    Ctr l Z (⟨"com/example/prox2/prox2/format/RunOrderComparePinLaw", "cmp", "(ICCICC)I"⟩ : MethodName) method_4_code 6 (some .int) ws ({ frames := 0, cells := 0, slots := 0, locals := 0 } : Room) #[(.int (1 : Int32)), (.int c0), (.int c1), (.int (2 : Int32)), (.int g0), (.int g1)] h0 (fun v h L => ∃ z : Int32, v = some (.int z) ∧ ((c0.toInt < g0.toInt ∧ z.toInt = -1 ∨ g0.toInt < c0.toInt ∧ z.toInt = 1 ∨ c0.toInt = g0.toInt ∧ z.toInt = -1)) ∧ Fr n0 L ∧ h = h0) := by
  refine enter pn_14 ?_
  intro p e s m below meth c T0 X0 hx hby hml hret hlk hZ hown hnm e0
  have A0 := wk X0 hx hby
  have N0 := Fr.nil n0
  refine goIn (ef_c_ck1_2 m (1 : Int32) c0 c1 (2 : Int32) g0 g1) ?_
  show Go p e below m (Fini s 0 0 (fun v h L => ∃ z : Int32, v = some (.int z) ∧ ((c0.toInt < g0.toInt ∧ z.toInt = -1 ∨ g0.toInt < c0.toInt ∧ z.toInt = 1 ∨ c0.toInt = g0.toInt ∧ z.toInt = -1)) ∧ Fr n0 L ∧ h = h0)) T0 0 #[.val (.int (1 : Int32)), .val (.int c0), .val (.int c1), .val (.int (2 : Int32)), .val (.int g0), .val (.int g1)] []
  refine s_iloadN A0 d14_0 (pc' := 1) rfl rfl ?_
  refine s_ifle A0 d14_1 (pY := 54) (pN := 4) (by decide) (by decide) rfl (fun c => absurd c (by decide)) (fun _ => ?_)
  refine s_iloadN A0 d14_4 (pc' := 5) rfl rfl ?_
  refine s_ifle A0 d14_5 (pY := 54) (pN := 8) (by decide) (by decide) rfl (fun c => absurd c (by decide)) (fun _ => ?_)
  refine s_iloadN A0 d14_8 (pc' := 9) rfl rfl ?_
  refine s_iload A0 d14_9 (pc' := 11) rfl rfl ?_
  refine s_icmpeq A0 d14_11 (pY := 26) (pN := 14) (by decide) (by decide) rfl ?_ ?_
  · intro c11
    replace c11 := i_eq c11
    refine s_iloadN A0 d14_26 (pc' := 27) rfl rfl ?_
    refine s_iconst A0 d14_27 (pc' := 28) rfl (v := (1 : Int32)) (by decide) ?_
    refine s_icmple A0 d14_28 (pY := 54) (pN := 31) (by decide) (by decide) rfl (fun _ => ?_) (fun c => absurd c (by decide))
    refine s_iloadN A0 d14_54 (pc' := 55) rfl rfl ?_
    refine s_iloadN A0 d14_55 (pc' := 56) rfl rfl ?_
    refine s_icmpge A0 d14_56 (pY := 63) (pN := 59) (by decide) (by decide) rfl (fun c => absurd c (by decide)) (fun _ => ?_)
    refine s_iconst A0 d14_59 (pc' := 60) rfl (v := (-1 : Int32)) (by decide) ?_
    refine s_goto A0 d14_60 (pc' := 73) (by decide) (by decide) ?_
    exact g_retI X0 hx hlk hret (hb hby d14_73) ⟨_, rfl, by rw [show (-1 : Int32).toInt = -1 from by decide] <;> omega, N0, e0⟩ (by decide) (by decide)
  · intro c11
    replace c11 := i_ne c11
    refine s_iloadN A0 d14_14 (pc' := 15) rfl rfl ?_
    refine s_iload A0 d14_15 (pc' := 17) rfl rfl ?_
    refine s_icmpge A0 d14_17 (pY := 24) (pN := 20) (by decide) (by decide) rfl ?_ ?_
    · intro c17
      replace c17 := i_ge c17
      refine s_iconst A0 d14_24 (pc' := 25) rfl (v := (1 : Int32)) (by decide) ?_
      exact g_retI X0 hx hlk hret (hb hby d14_25) ⟨_, rfl, by rw [show (1 : Int32).toInt = 1 from by decide] <;> omega, N0, e0⟩ (by decide) (by decide)
    · intro c17
      replace c17 := i_lt c17
      refine s_iconst A0 d14_20 (pc' := 21) rfl (v := (-1 : Int32)) (by decide) ?_
      refine s_goto A0 d14_21 (pc' := 25) (by decide) (by decide) ?_
      exact g_retI X0 hx hlk hret (hb hby d14_25) ⟨_, rfl, by rw [show (-1 : Int32).toInt = -1 from by decide] <;> omega, N0, e0⟩ (by decide) (by decide)
theorem ef_c_ct2_0 (m : MethodId) (x0 : Addr) (x1 : Addr) : entryFrame m #[(.ref x0), (.ref x1)] 6 = mkF m 0 #[.val (.ref x0), .val (.ref x1), .unset, .unset, .unset, .unset] [] := by first | (simp [entryFrame, mkF, argsToLocals, Value.category, maxLocals]; done) | rfl
set_option maxRecDepth 65536 in
set_option maxHeartbeats 40000000 in
theorem c_ct2_0 (l : Launch) (Z : State) (a0 : Array Value) (hw : ∀ d ∈ tables_1, d.before a0 Z = true) (ws : List Jvm.Cond) (a d b f : Addr) (cz : Int32) (fv : Value) (c0 c1 : Int32)  (h0 : Heap) (n0 : Nat) (Z0 : n0 ≤ h0.size) (Ea : Exa Z h0 a "java/lang/String") (Fv : Fld Z h0 a "java/lang/String" "value" "[B" (.ref d)) (Fc : Fld Z h0 a "java/lang/String" "coder" "B" (.int 0)) (D : Ars Z h0 d .byte [(.int c0.toInt8.toInt32), (.int c1.toInt8.toInt32)]) (O : Old Z n0 h0) (SC : Sta Z Z.heap "java/lang/String" "COMPACT_STRINGS" "Z" (.int cz)) (hcz : ¬ cz = 0) (Eb : Exa Z h0 b "java/lang/String") (Gv : Fld Z h0 b "java/lang/String" "value" "[B" (.ref f)) (Gc : Fld Z h0 b "java/lang/String" "coder" "B" (.int 0)) (D2 : Ars Z h0 f .byte []) (SF : Sta Z Z.heap "jdk/internal/util/Preconditions" "SIOOBE_FORMATTER" "Ljava/util/function/BiFunction;" fv) (hfv : fv = .null ∨ ∃ f, fv = .ref f) (C0 : 0 ≤ c0.toInt ∧ c0.toInt ≤ 255) (C1 : 0 ≤ c1.toInt ∧ c1.toInt ≤ 255)  :
    Ctr l Z (⟨"com/example/prox2/prox2/format/RunOrder", "compareAsText", "(Ljava/lang/String;Ljava/lang/String;)I"⟩ : MethodName) prog_17_method_6_code 6 (some .int) ws ({ frames := 2, cells := 0, slots := 0, locals := 26 } : Room) #[(.ref a), (.ref b)] h0 (fun v h L => ∃ z : Int32, v = some (.int z) ∧ (z.toInt = 1) ∧ Fr n0 L ∧ h = h0) := by
  refine enter pn_10 ?_
  intro p e s m below meth c T0 X0 hx hby hml hret hlk hZ hown hnm e0
  have A0 := wk X0 hx hby
  have N0 := Fr.nil n0
  refine goIn (ef_c_ct2_0 m a b) ?_
  show Go p e below m (Fini s 0 0 (fun v h L => ∃ z : Int32, v = some (.int z) ∧ (z.toInt = 1) ∧ Fr n0 L ∧ h = h0)) T0 0 #[.val (.ref a), .val (.ref b), .unset, .unset, .unset, .unset] []
  refine s_iconst A0 d10_0 (pc' := 1) rfl (v := (0 : Int32)) (by decide) ?_
  refine s_istoreN A0 d10_1 (pc' := 2) rfl (ls' := #[.val (.ref a), .val (.ref b), .val (.int (0 : Int32)), .unset, .unset, .unset]) rfl ?_
  refine s_iconst A0 d10_2 (pc' := 3) rfl (v := (0 : Int32)) (by decide) ?_
  refine s_istoreN A0 d10_3 (pc' := 4) rfl (ls' := #[.val (.ref a), .val (.ref b), .val (.int (0 : Int32)), .val (.int (0 : Int32)), .unset, .unset]) rfl ?_
  refine s_iloadN A0 d10_4 (pc' := 5) rfl rfl ?_
  refine s_aloadN A0 d10_5 (pc' := 6) rfl rfl rfl ?_
  refine g_virtual X0 hx hZ (y := (⟨"java/lang/String", "length", "()I"⟩ : MethodName)) hown (hw _ (List.mem_of_getElem? (i := 47) rfl)) (hw _ (List.mem_of_getElem? (i := 48) rfl)) (hw _ (List.mem_of_getElem? (i := 50) rfl)) (hw _ (List.mem_of_getElem? (i := 49) rfl)) (hw _ (List.mem_of_getElem? (i := 6) rfl)) (hw _ (List.mem_of_getElem? (i := 51) rfl)) (by decide) Ea (argsL := []) (rest := [(.int (0 : Int32))]) (c_len_2 l Z a0 hw [] a d cz c0 c1 h0 n0 Z0 Ea Fv Fc D O SC hcz) pd_9 rfl rfl (hb hby d10_6) e0 (by rw [hml]; rfl) (pc' := 9) rfl (by decide) (W := 1) (Nat.le_of_eq rfl) (by decide) (by decide) (by decide) ?_
  intro v1 T1 L1 X1 hQ1
  have A1 := wk X1 hx hby
  have e1 : T1.heap = T1.heap := rfl
  obtain ⟨rfl, N1, hh1⟩ := hQ1
  have e1 : T1.heap = h0 := hh1
  have fr1 := Fr.app N0 N1
  show Go p e below m (Fini s 0 0 (fun v h L => ∃ z : Int32, v = some (.int z) ∧ (z.toInt = 1) ∧ Fr n0 L ∧ h = h0)) T1 9 #[.val (.ref a), .val (.ref b), .val (.int (0 : Int32)), .val (.int (0 : Int32)), .unset, .unset] [(.int (2 : Int32)), (.int (0 : Int32))]
  refine s_icmpge A1 d10_9 (pY := 68) (pN := 12) (by decide) (by decide) rfl (fun c => absurd c (by decide)) (fun _ => ?_)
  refine s_iloadN A1 d10_12 (pc' := 13) rfl rfl ?_
  refine s_aloadN A1 d10_13 (pc' := 14) rfl rfl rfl ?_
  refine g_virtual X1 hx hZ (y := (⟨"java/lang/String", "length", "()I"⟩ : MethodName)) hown (hw _ (List.mem_of_getElem? (i := 47) rfl)) (hw _ (List.mem_of_getElem? (i := 48) rfl)) (hw _ (List.mem_of_getElem? (i := 50) rfl)) (hw _ (List.mem_of_getElem? (i := 49) rfl)) (hw _ (List.mem_of_getElem? (i := 6) rfl)) (hw _ (List.mem_of_getElem? (i := 51) rfl)) (by decide) Eb (argsL := []) (rest := [(.int (0 : Int32))]) (c_len_0 l Z a0 hw [] b f cz  h0 n0 Z0 Eb Gv Gc D2 O SC hcz) pd_9 rfl rfl (hb hby d10_14) e1 (by rw [hml]; rfl) (pc' := 17) rfl (by decide) (W := 1) (Nat.le_of_eq rfl) (by decide) (by decide) (by decide) ?_
  intro v2 T2 L2 X2 hQ2
  have A2 := wk X2 hx hby
  have e2 : T2.heap = T2.heap := rfl
  obtain ⟨rfl, N2, hh2⟩ := hQ2
  have e2 : T2.heap = h0 := hh2
  have fr2 := Fr.app fr1 N2
  show Go p e below m (Fini s 0 0 (fun v h L => ∃ z : Int32, v = some (.int z) ∧ (z.toInt = 1) ∧ Fr n0 L ∧ h = h0)) T2 17 #[.val (.ref a), .val (.ref b), .val (.int (0 : Int32)), .val (.int (0 : Int32)), .unset, .unset] [(.int (0 : Int32)), (.int (0 : Int32))]
  refine s_icmpge A2 d10_17 (pY := 68) (pN := 20) (by decide) (by decide) rfl (fun _ => ?_) (fun c => absurd c (by decide))
  refine s_aloadN A2 d10_68 (pc' := 69) rfl rfl rfl ?_
  refine g_virtual X2 hx hZ (y := (⟨"java/lang/String", "length", "()I"⟩ : MethodName)) hown (hw _ (List.mem_of_getElem? (i := 47) rfl)) (hw _ (List.mem_of_getElem? (i := 48) rfl)) (hw _ (List.mem_of_getElem? (i := 50) rfl)) (hw _ (List.mem_of_getElem? (i := 49) rfl)) (hw _ (List.mem_of_getElem? (i := 6) rfl)) (hw _ (List.mem_of_getElem? (i := 51) rfl)) (by decide) Ea (argsL := []) (rest := []) (c_len_2 l Z a0 hw [] a d cz c0 c1 h0 n0 Z0 Ea Fv Fc D O SC hcz) pd_9 rfl rfl (hb hby d10_69) e2 (by rw [hml]; rfl) (pc' := 72) rfl (by decide) (W := 0) (Nat.le_of_eq rfl) (by decide) (by decide) (by decide) ?_
  intro v3 T3 L3 X3 hQ3
  have A3 := wk X3 hx hby
  have e3 : T3.heap = T3.heap := rfl
  obtain ⟨rfl, N3, hh3⟩ := hQ3
  have e3 : T3.heap = h0 := hh3
  have fr3 := Fr.app fr2 N3
  show Go p e below m (Fini s 0 0 (fun v h L => ∃ z : Int32, v = some (.int z) ∧ (z.toInt = 1) ∧ Fr n0 L ∧ h = h0)) T3 72 #[.val (.ref a), .val (.ref b), .val (.int (0 : Int32)), .val (.int (0 : Int32)), .unset, .unset] [(.int (2 : Int32))]
  refine s_iloadN A3 d10_72 (pc' := 73) rfl rfl ?_
  refine s_isub A3 d10_73 (pc' := 74) rfl (v := (2 : Int32)) (by decide) ?_
  refine s_aloadN A3 d10_74 (pc' := 75) rfl rfl rfl ?_
  refine g_virtual X3 hx hZ (y := (⟨"java/lang/String", "length", "()I"⟩ : MethodName)) hown (hw _ (List.mem_of_getElem? (i := 47) rfl)) (hw _ (List.mem_of_getElem? (i := 48) rfl)) (hw _ (List.mem_of_getElem? (i := 50) rfl)) (hw _ (List.mem_of_getElem? (i := 49) rfl)) (hw _ (List.mem_of_getElem? (i := 6) rfl)) (hw _ (List.mem_of_getElem? (i := 51) rfl)) (by decide) Eb (argsL := []) (rest := [(.int (2 : Int32))]) (c_len_0 l Z a0 hw [] b f cz  h0 n0 Z0 Eb Gv Gc D2 O SC hcz) pd_9 rfl rfl (hb hby d10_75) e3 (by rw [hml]; rfl) (pc' := 78) rfl (by decide) (W := 1) (Nat.le_of_eq rfl) (by decide) (by decide) (by decide) ?_
  intro v4 T4 L4 X4 hQ4
  have A4 := wk X4 hx hby
  have e4 : T4.heap = T4.heap := rfl
  obtain ⟨rfl, N4, hh4⟩ := hQ4
  have e4 : T4.heap = h0 := hh4
  have fr4 := Fr.app fr3 N4
  show Go p e below m (Fini s 0 0 (fun v h L => ∃ z : Int32, v = some (.int z) ∧ (z.toInt = 1) ∧ Fr n0 L ∧ h = h0)) T4 78 #[.val (.ref a), .val (.ref b), .val (.int (0 : Int32)), .val (.int (0 : Int32)), .unset, .unset] [(.int (0 : Int32)), (.int (2 : Int32))]
  refine s_iloadN A4 d10_78 (pc' := 79) rfl rfl ?_
  refine s_isub A4 d10_79 (pc' := 80) rfl (v := (0 : Int32)) (by decide) ?_
  refine g_static X4 hx hZ (y := (⟨"java/lang/Integer", "compare", "(II)I"⟩ : MethodName)) hown (hw _ (List.mem_of_getElem? (i := 57) rfl)) (hw _ (List.mem_of_getElem? (i := 58) rfl)) (hw _ (List.mem_of_getElem? (i := 59) rfl)) (hw _ (List.mem_of_getElem? (i := 60) rfl)) (by decide) (argsL := [(.int (2 : Int32)), (.int (0 : Int32))]) (rest := []) (c_icmp l Z a0 hw [] (2 : Int32) (0 : Int32) h0 n0 Z0) pd_10 rfl rfl (hb hby d10_80) e4 (by rw [hml]; rfl) (pc' := 83) rfl (by decide) (W := 0) (Nat.le_of_eq rfl) (by decide) (by decide) (by decide) ?_
  intro v5 T5 L5 X5 hQ5
  have A5 := wk X5 hx hby
  have e5 : T5.heap = T5.heap := rfl
  obtain ⟨z5, rfl, q5, N5, hh5⟩ := hQ5
  have e5 : T5.heap = h0 := hh5
  have fr5 := Fr.app fr4 N5
  show Go p e below m (Fini s 0 0 (fun v h L => ∃ z : Int32, v = some (.int z) ∧ (z.toInt = 1) ∧ Fr n0 L ∧ h = h0)) T5 83 #[.val (.ref a), .val (.ref b), .val (.int (0 : Int32)), .val (.int (0 : Int32)), .unset, .unset] [(.int z5)]
  try rw [show (2 : Int32).toInt = 2 from by decide] at q5
  try rw [show (0 : Int32).toInt = 0 from by decide] at q5
  exact g_retI X5 hx hlk hret (hb hby d10_83) ⟨_, rfl, by omega, fr5, e5⟩ (by decide) (by decide)
theorem ef_c_rc2_0 (m : MethodId) (x0 : UInt64) (x1 : Addr) (x2 : UInt64) (x3 : Addr) : entryFrame m #[(.double x0), (.ref x1), (.double x2), (.ref x3)] 7 = mkF m 0 #[.val (.double x0), .second, .val (.ref x1), .val (.double x2), .second, .val (.ref x3), .unset] [] := by first | (simp [entryFrame, mkF, argsToLocals, Value.category, maxLocals]; done) | rfl
set_option maxRecDepth 65536 in
set_option maxHeartbeats 40000000 in
theorem c_rc2_0 (l : Launch) (Z : State) (a0 : Array Value) (hw : ∀ d ∈ tables_1, d.before a0 Z = true) (ws : List Jvm.Cond) (x y : UInt64) (nx ny : Int) (a d b f : Addr) (cz : Int32) (fv : Value) (c0 c1 : Int32)  (h0 : Heap) (n0 : Nat) (Z0 : n0 ≤ h0.size) (Hx : Dy nx 0 x) (Hy : Dy ny 0 y) (Ea : Exa Z h0 a "java/lang/String") (Fv : Fld Z h0 a "java/lang/String" "value" "[B" (.ref d)) (Fc : Fld Z h0 a "java/lang/String" "coder" "B" (.int 0)) (D : Ars Z h0 d .byte [(.int c0.toInt8.toInt32), (.int c1.toInt8.toInt32)]) (O : Old Z n0 h0) (SC : Sta Z Z.heap "java/lang/String" "COMPACT_STRINGS" "Z" (.int cz)) (hcz : ¬ cz = 0) (Eb : Exa Z h0 b "java/lang/String") (Gv : Fld Z h0 b "java/lang/String" "value" "[B" (.ref f)) (Gc : Fld Z h0 b "java/lang/String" "coder" "B" (.int 0)) (D2 : Ars Z h0 f .byte []) (SF : Sta Z Z.heap "jdk/internal/util/Preconditions" "SIOOBE_FORMATTER" "Ljava/util/function/BiFunction;" fv) (hfv : fv = .null ∨ ∃ f, fv = .ref f) (C0 : 0 ≤ c0.toInt ∧ c0.toInt ≤ 255) (C1 : 0 ≤ c1.toInt ∧ c1.toInt ≤ 255)  :
    Ctr l Z (⟨"com/example/prox2/prox2/format/RunOrder", "compare", "(DLjava/lang/String;DLjava/lang/String;)I"⟩ : MethodName) prog_17_method_4_code 7 (some .int) ws ({ frames := 3, cells := 0, slots := 0, locals := 43 } : Room) #[(.double x), (.ref b), (.double y), (.ref a)] h0 (fun v h L => ∃ z : Int32, v = some (.int z) ∧ (ny < nx ∧ z.toInt = -1 ∨ nx < ny ∧ z.toInt = 1 ∨ nx = ny ∧ (z.toInt = 1)) ∧ Fr n0 L ∧ h = h0) := by
  refine enter pn_5 ?_
  intro p e s m below meth c T0 X0 hx hby hml hret hlk hZ hown hnm e0
  have A0 := wk X0 hx hby
  have N0 := Fr.nil n0
  refine goIn (ef_c_rc2_0 m x b y a) ?_
  show Go p e below m (Fini s 0 0 (fun v h L => ∃ z : Int32, v = some (.int z) ∧ (ny < nx ∧ z.toInt = -1 ∨ nx < ny ∧ z.toInt = 1 ∨ nx = ny ∧ (z.toInt = 1)) ∧ Fr n0 L ∧ h = h0)) T0 0 #[.val (.double x), .second, .val (.ref b), .val (.double y), .second, .val (.ref a), .unset] []
  refine s_dloadN A0 d5_0 (pc' := 1) rfl rfl ?_
  refine s_dloadN A0 d5_1 (pc' := 2) rfl rfl ?_
  refine g_static X0 hx hZ (y := (⟨"com/example/prox2/prox2/format/RunOrder", "compareScores", "(DD)I"⟩ : MethodName)) hown (hw _ (List.mem_of_getElem? (i := 30) rfl)) (hw _ (List.mem_of_getElem? (i := 31) rfl)) (hw _ (List.mem_of_getElem? (i := 28) rfl)) (hw _ (List.mem_of_getElem? (i := 32) rfl)) (by decide) (argsL := [(.double x), (.double y)]) (rest := []) (c_cs l Z a0 hw [] x y nx ny h0 n0 Z0 Hx Hy) pd_11 rfl rfl (hb hby d5_2) e0 (by rw [hml]; rfl) (pc' := 5) rfl (by decide) (W := 0) (Nat.le_of_eq rfl) (by decide) (by decide) (by decide) ?_
  intro v1 T1 L1 X1 hQ1
  have A1 := wk X1 hx hby
  have e1 : T1.heap = T1.heap := rfl
  obtain ⟨z1, rfl, q1, N1, hh1⟩ := hQ1
  have e1 : T1.heap = h0 := hh1
  have fr1 := Fr.app N0 N1
  show Go p e below m (Fini s 0 0 (fun v h L => ∃ z : Int32, v = some (.int z) ∧ (ny < nx ∧ z.toInt = -1 ∨ nx < ny ∧ z.toInt = 1 ∨ nx = ny ∧ (z.toInt = 1)) ∧ Fr n0 L ∧ h = h0)) T1 5 #[.val (.double x), .second, .val (.ref b), .val (.double y), .second, .val (.ref a), .unset] [(.int z1)]
  refine s_istore A1 d5_5 (pc' := 7) rfl (ls' := #[.val (.double x), .second, .val (.ref b), .val (.double y), .second, .val (.ref a), .val (.int z1)]) rfl ?_
  refine s_iload A1 d5_7 (pc' := 9) rfl rfl ?_
  refine s_ifeq A1 d5_9 (pY := 17) (pN := 12) (by decide) (by decide) rfl ?_ ?_
  · intro c9
    replace c9 := iz_eq c9
    refine s_aload A1 d5_17 (pc' := 19) rfl rfl rfl ?_
    refine s_aloadN A1 d5_19 (pc' := 20) rfl rfl rfl ?_
    refine g_static X1 hx hZ (y := (⟨"com/example/prox2/prox2/format/RunOrder", "compareAsText", "(Ljava/lang/String;Ljava/lang/String;)I"⟩ : MethodName)) hown (hw _ (List.mem_of_getElem? (i := 44) rfl)) (hw _ (List.mem_of_getElem? (i := 45) rfl)) (hw _ (List.mem_of_getElem? (i := 28) rfl)) (hw _ (List.mem_of_getElem? (i := 46) rfl)) (by decide) (argsL := [(.ref a), (.ref b)]) (rest := []) (c_ct2_0 l Z a0 hw [] a d b f cz fv c0 c1  h0 n0 Z0 Ea Fv Fc D O SC hcz Eb Gv Gc D2 SF hfv C0 C1 ) pd_12 rfl rfl (hb hby d5_20) e1 (by rw [hml]; rfl) (pc' := 23) rfl (by decide) (W := 0) (Nat.le_of_eq rfl) (by decide) (by decide) (by decide) ?_
    intro v2 T2 L2 X2 hQ2
    have A2 := wk X2 hx hby
    have e2 : T2.heap = T2.heap := rfl
    obtain ⟨z2, rfl, q2, N2, hh2⟩ := hQ2
    have e2 : T2.heap = h0 := hh2
    have fr2 := Fr.app fr1 N2
    show Go p e below m (Fini s 0 0 (fun v h L => ∃ z : Int32, v = some (.int z) ∧ (ny < nx ∧ z.toInt = -1 ∨ nx < ny ∧ z.toInt = 1 ∨ nx = ny ∧ (z.toInt = 1)) ∧ Fr n0 L ∧ h = h0)) T2 23 #[.val (.double x), .second, .val (.ref b), .val (.double y), .second, .val (.ref a), .val (.int z1)] [(.int z2)]
    exact g_retI X2 hx hlk hret (hb hby d5_23) ⟨_, rfl, by omega, fr2, e2⟩ (by decide) (by decide)
  · intro c9
    replace c9 := iz_ne c9
    refine s_iload A1 d5_12 (pc' := 14) rfl rfl ?_
    refine s_goto A1 d5_14 (pc' := 23) (by decide) (by decide) ?_
    exact g_retI X1 hx hlk hret (hb hby d5_23) ⟨_, rfl, by omega, fr1, e1⟩ (by decide) (by decide)
theorem ef_c_ck2_0 (m : MethodId) (x0 : Int32) (x1 : Int32) (x2 : Int32) (x3 : Int32) (x4 : Int32) (x5 : Int32) : entryFrame m #[(.int x0), (.int x1), (.int x2), (.int x3), (.int x4), (.int x5)] 6 = mkF m 0 #[.val (.int x0), .val (.int x1), .val (.int x2), .val (.int x3), .val (.int x4), .val (.int x5)] [] := by first | (simp [entryFrame, mkF, argsToLocals, Value.category, maxLocals]; done) | rfl
set_option maxRecDepth 65536 in
set_option maxHeartbeats 40000000 in
theorem c_ck2_0 (l : Launch) (Z : State) (a0 : Array Value) (hw : ∀ d ∈ tables_1, d.before a0 Z = true) (ws : List Jvm.Cond) (c0 c1 g0 g1 : Int32) (h0 : Heap) (n0 : Nat) (Z0 : n0 ≤ h0.size)  :
    Ctr l Z (⟨"com/example/prox2/prox2/format/RunOrderComparePinLaw", "cmp", "(ICCICC)I"⟩ : MethodName) method_4_code 6 (some .int) ws ({ frames := 0, cells := 0, slots := 0, locals := 0 } : Room) #[(.int (2 : Int32)), (.int c0), (.int c1), (.int (0 : Int32)), (.int g0), (.int g1)] h0 (fun v h L => ∃ z : Int32, v = some (.int z) ∧ (z.toInt = 1) ∧ Fr n0 L ∧ h = h0) := by
  refine enter pn_14 ?_
  intro p e s m below meth c T0 X0 hx hby hml hret hlk hZ hown hnm e0
  have A0 := wk X0 hx hby
  have N0 := Fr.nil n0
  refine goIn (ef_c_ck2_0 m (2 : Int32) c0 c1 (0 : Int32) g0 g1) ?_
  show Go p e below m (Fini s 0 0 (fun v h L => ∃ z : Int32, v = some (.int z) ∧ (z.toInt = 1) ∧ Fr n0 L ∧ h = h0)) T0 0 #[.val (.int (2 : Int32)), .val (.int c0), .val (.int c1), .val (.int (0 : Int32)), .val (.int g0), .val (.int g1)] []
  refine s_iloadN A0 d14_0 (pc' := 1) rfl rfl ?_
  refine s_ifle A0 d14_1 (pY := 54) (pN := 4) (by decide) (by decide) rfl (fun c => absurd c (by decide)) (fun _ => ?_)
  refine s_iloadN A0 d14_4 (pc' := 5) rfl rfl ?_
  refine s_ifle A0 d14_5 (pY := 54) (pN := 8) (by decide) (by decide) rfl (fun _ => ?_) (fun c => absurd c (by decide))
  refine s_iloadN A0 d14_54 (pc' := 55) rfl rfl ?_
  refine s_iloadN A0 d14_55 (pc' := 56) rfl rfl ?_
  refine s_icmpge A0 d14_56 (pY := 63) (pN := 59) (by decide) (by decide) rfl (fun _ => ?_) (fun c => absurd c (by decide))
  refine s_iloadN A0 d14_63 (pc' := 64) rfl rfl ?_
  refine s_iloadN A0 d14_64 (pc' := 65) rfl rfl ?_
  refine s_icmple A0 d14_65 (pY := 72) (pN := 68) (by decide) (by decide) rfl (fun c => absurd c (by decide)) (fun _ => ?_)
  refine s_iconst A0 d14_68 (pc' := 69) rfl (v := (1 : Int32)) (by decide) ?_
  refine s_goto A0 d14_69 (pc' := 73) (by decide) (by decide) ?_
  exact g_retI X0 hx hlk hret (hb hby d14_73) ⟨_, rfl, by rw [show (1 : Int32).toInt = 1 from by decide] <;> omega, N0, e0⟩ (by decide) (by decide)
theorem ef_c_ct2_1 (m : MethodId) (x0 : Addr) (x1 : Addr) : entryFrame m #[(.ref x0), (.ref x1)] 6 = mkF m 0 #[.val (.ref x0), .val (.ref x1), .unset, .unset, .unset, .unset] [] := by first | (simp [entryFrame, mkF, argsToLocals, Value.category, maxLocals]; done) | rfl
set_option maxRecDepth 65536 in
set_option maxHeartbeats 40000000 in
theorem c_ct2_1 (l : Launch) (Z : State) (a0 : Array Value) (hw : ∀ d ∈ tables_1, d.before a0 Z = true) (ws : List Jvm.Cond) (a d b f : Addr) (cz : Int32) (fv : Value) (c0 c1 : Int32) (g0 : Int32) (h0 : Heap) (n0 : Nat) (Z0 : n0 ≤ h0.size) (Ea : Exa Z h0 a "java/lang/String") (Fv : Fld Z h0 a "java/lang/String" "value" "[B" (.ref d)) (Fc : Fld Z h0 a "java/lang/String" "coder" "B" (.int 0)) (D : Ars Z h0 d .byte [(.int c0.toInt8.toInt32), (.int c1.toInt8.toInt32)]) (O : Old Z n0 h0) (SC : Sta Z Z.heap "java/lang/String" "COMPACT_STRINGS" "Z" (.int cz)) (hcz : ¬ cz = 0) (Eb : Exa Z h0 b "java/lang/String") (Gv : Fld Z h0 b "java/lang/String" "value" "[B" (.ref f)) (Gc : Fld Z h0 b "java/lang/String" "coder" "B" (.int 0)) (D2 : Ars Z h0 f .byte [(.int g0.toInt8.toInt32)]) (SF : Sta Z Z.heap "jdk/internal/util/Preconditions" "SIOOBE_FORMATTER" "Ljava/util/function/BiFunction;" fv) (hfv : fv = .null ∨ ∃ f, fv = .ref f) (C0 : 0 ≤ c0.toInt ∧ c0.toInt ≤ 255) (C1 : 0 ≤ c1.toInt ∧ c1.toInt ≤ 255) (G0 : 0 ≤ g0.toInt ∧ g0.toInt ≤ 255) :
    Ctr l Z (⟨"com/example/prox2/prox2/format/RunOrder", "compareAsText", "(Ljava/lang/String;Ljava/lang/String;)I"⟩ : MethodName) prog_17_method_6_code 6 (some .int) ws ({ frames := 3, cells := 0, slots := 0, locals := 41 } : Room) #[(.ref a), (.ref b)] h0 (fun v h L => ∃ z : Int32, v = some (.int z) ∧ ((c0.toInt < g0.toInt ∧ z.toInt = -1 ∨ g0.toInt < c0.toInt ∧ z.toInt = 1 ∨ c0.toInt = g0.toInt ∧ z.toInt = 1)) ∧ Fr n0 L ∧ h = h0) := by
  refine enter pn_10 ?_
  intro p e s m below meth c T0 X0 hx hby hml hret hlk hZ hown hnm e0
  have A0 := wk X0 hx hby
  have N0 := Fr.nil n0
  refine goIn (ef_c_ct2_1 m a b) ?_
  show Go p e below m (Fini s 0 0 (fun v h L => ∃ z : Int32, v = some (.int z) ∧ ((c0.toInt < g0.toInt ∧ z.toInt = -1 ∨ g0.toInt < c0.toInt ∧ z.toInt = 1 ∨ c0.toInt = g0.toInt ∧ z.toInt = 1)) ∧ Fr n0 L ∧ h = h0)) T0 0 #[.val (.ref a), .val (.ref b), .unset, .unset, .unset, .unset] []
  refine s_iconst A0 d10_0 (pc' := 1) rfl (v := (0 : Int32)) (by decide) ?_
  refine s_istoreN A0 d10_1 (pc' := 2) rfl (ls' := #[.val (.ref a), .val (.ref b), .val (.int (0 : Int32)), .unset, .unset, .unset]) rfl ?_
  refine s_iconst A0 d10_2 (pc' := 3) rfl (v := (0 : Int32)) (by decide) ?_
  refine s_istoreN A0 d10_3 (pc' := 4) rfl (ls' := #[.val (.ref a), .val (.ref b), .val (.int (0 : Int32)), .val (.int (0 : Int32)), .unset, .unset]) rfl ?_
  refine s_iloadN A0 d10_4 (pc' := 5) rfl rfl ?_
  refine s_aloadN A0 d10_5 (pc' := 6) rfl rfl rfl ?_
  refine g_virtual X0 hx hZ (y := (⟨"java/lang/String", "length", "()I"⟩ : MethodName)) hown (hw _ (List.mem_of_getElem? (i := 47) rfl)) (hw _ (List.mem_of_getElem? (i := 48) rfl)) (hw _ (List.mem_of_getElem? (i := 50) rfl)) (hw _ (List.mem_of_getElem? (i := 49) rfl)) (hw _ (List.mem_of_getElem? (i := 6) rfl)) (hw _ (List.mem_of_getElem? (i := 51) rfl)) (by decide) Ea (argsL := []) (rest := [(.int (0 : Int32))]) (c_len_2 l Z a0 hw [] a d cz c0 c1 h0 n0 Z0 Ea Fv Fc D O SC hcz) pd_9 rfl rfl (hb hby d10_6) e0 (by rw [hml]; rfl) (pc' := 9) rfl (by decide) (W := 1) (Nat.le_of_eq rfl) (by decide) (by decide) (by decide) ?_
  intro v1 T1 L1 X1 hQ1
  have A1 := wk X1 hx hby
  have e1 : T1.heap = T1.heap := rfl
  obtain ⟨rfl, N1, hh1⟩ := hQ1
  have e1 : T1.heap = h0 := hh1
  have fr1 := Fr.app N0 N1
  show Go p e below m (Fini s 0 0 (fun v h L => ∃ z : Int32, v = some (.int z) ∧ ((c0.toInt < g0.toInt ∧ z.toInt = -1 ∨ g0.toInt < c0.toInt ∧ z.toInt = 1 ∨ c0.toInt = g0.toInt ∧ z.toInt = 1)) ∧ Fr n0 L ∧ h = h0)) T1 9 #[.val (.ref a), .val (.ref b), .val (.int (0 : Int32)), .val (.int (0 : Int32)), .unset, .unset] [(.int (2 : Int32)), (.int (0 : Int32))]
  refine s_icmpge A1 d10_9 (pY := 68) (pN := 12) (by decide) (by decide) rfl (fun c => absurd c (by decide)) (fun _ => ?_)
  refine s_iloadN A1 d10_12 (pc' := 13) rfl rfl ?_
  refine s_aloadN A1 d10_13 (pc' := 14) rfl rfl rfl ?_
  refine g_virtual X1 hx hZ (y := (⟨"java/lang/String", "length", "()I"⟩ : MethodName)) hown (hw _ (List.mem_of_getElem? (i := 47) rfl)) (hw _ (List.mem_of_getElem? (i := 48) rfl)) (hw _ (List.mem_of_getElem? (i := 50) rfl)) (hw _ (List.mem_of_getElem? (i := 49) rfl)) (hw _ (List.mem_of_getElem? (i := 6) rfl)) (hw _ (List.mem_of_getElem? (i := 51) rfl)) (by decide) Eb (argsL := []) (rest := [(.int (0 : Int32))]) (c_len_1 l Z a0 hw [] b f cz g0 h0 n0 Z0 Eb Gv Gc D2 O SC hcz) pd_9 rfl rfl (hb hby d10_14) e1 (by rw [hml]; rfl) (pc' := 17) rfl (by decide) (W := 1) (Nat.le_of_eq rfl) (by decide) (by decide) (by decide) ?_
  intro v2 T2 L2 X2 hQ2
  have A2 := wk X2 hx hby
  have e2 : T2.heap = T2.heap := rfl
  obtain ⟨rfl, N2, hh2⟩ := hQ2
  have e2 : T2.heap = h0 := hh2
  have fr2 := Fr.app fr1 N2
  show Go p e below m (Fini s 0 0 (fun v h L => ∃ z : Int32, v = some (.int z) ∧ ((c0.toInt < g0.toInt ∧ z.toInt = -1 ∨ g0.toInt < c0.toInt ∧ z.toInt = 1 ∨ c0.toInt = g0.toInt ∧ z.toInt = 1)) ∧ Fr n0 L ∧ h = h0)) T2 17 #[.val (.ref a), .val (.ref b), .val (.int (0 : Int32)), .val (.int (0 : Int32)), .unset, .unset] [(.int (1 : Int32)), (.int (0 : Int32))]
  refine s_icmpge A2 d10_17 (pY := 68) (pN := 20) (by decide) (by decide) rfl (fun c => absurd c (by decide)) (fun _ => ?_)
  refine s_aloadN A2 d10_20 (pc' := 21) rfl rfl rfl ?_
  refine s_iloadN A2 d10_21 (pc' := 22) rfl rfl ?_
  refine g_virtual X2 hx hZ (y := (⟨"java/lang/String", "codePointAt", "(I)I"⟩ : MethodName)) hown (hw _ (List.mem_of_getElem? (i := 64) rfl)) (hw _ (List.mem_of_getElem? (i := 65) rfl)) (hw _ (List.mem_of_getElem? (i := 67) rfl)) (hw _ (List.mem_of_getElem? (i := 66) rfl)) (hw _ (List.mem_of_getElem? (i := 6) rfl)) (hw _ (List.mem_of_getElem? (i := 68) rfl)) (by decide) Ea (argsL := [(.int (0 : Int32))]) (rest := []) (c_cpa_0_2 l Z a0 hw [] a d cz c0 c1 fv h0 n0 Z0 Ea Fv Fc D O SC hcz SF hfv C0 C1) pd_13 rfl rfl (hb hby d10_22) e2 (by rw [hml]; rfl) (pc' := 25) rfl (by decide) (W := 0) (Nat.le_of_eq rfl) (by decide) (by decide) (by decide) ?_
  intro v3 T3 L3 X3 hQ3
  have A3 := wk X3 hx hby
  have e3 : T3.heap = T3.heap := rfl
  obtain ⟨rfl, N3, hh3⟩ := hQ3
  have e3 : T3.heap = h0 := hh3
  have fr3 := Fr.app fr2 N3
  show Go p e below m (Fini s 0 0 (fun v h L => ∃ z : Int32, v = some (.int z) ∧ ((c0.toInt < g0.toInt ∧ z.toInt = -1 ∨ g0.toInt < c0.toInt ∧ z.toInt = 1 ∨ c0.toInt = g0.toInt ∧ z.toInt = 1)) ∧ Fr n0 L ∧ h = h0)) T3 25 #[.val (.ref a), .val (.ref b), .val (.int (0 : Int32)), .val (.int (0 : Int32)), .unset, .unset] [(.int c0)]
  refine s_istore A3 d10_25 (pc' := 27) rfl (ls' := #[.val (.ref a), .val (.ref b), .val (.int (0 : Int32)), .val (.int (0 : Int32)), .val (.int c0), .unset]) rfl ?_
  refine s_aloadN A3 d10_27 (pc' := 28) rfl rfl rfl ?_
  refine s_iloadN A3 d10_28 (pc' := 29) rfl rfl ?_
  refine g_virtual X3 hx hZ (y := (⟨"java/lang/String", "codePointAt", "(I)I"⟩ : MethodName)) hown (hw _ (List.mem_of_getElem? (i := 64) rfl)) (hw _ (List.mem_of_getElem? (i := 65) rfl)) (hw _ (List.mem_of_getElem? (i := 67) rfl)) (hw _ (List.mem_of_getElem? (i := 66) rfl)) (hw _ (List.mem_of_getElem? (i := 6) rfl)) (hw _ (List.mem_of_getElem? (i := 68) rfl)) (by decide) Eb (argsL := [(.int (0 : Int32))]) (rest := []) (c_cpa_0_1 l Z a0 hw [] b f cz g0 fv h0 n0 Z0 Eb Gv Gc D2 O SC hcz SF hfv G0) pd_13 rfl rfl (hb hby d10_29) e3 (by rw [hml]; rfl) (pc' := 32) rfl (by decide) (W := 0) (Nat.le_of_eq rfl) (by decide) (by decide) (by decide) ?_
  intro v4 T4 L4 X4 hQ4
  have A4 := wk X4 hx hby
  have e4 : T4.heap = T4.heap := rfl
  obtain ⟨rfl, N4, hh4⟩ := hQ4
  have e4 : T4.heap = h0 := hh4
  have fr4 := Fr.app fr3 N4
  show Go p e below m (Fini s 0 0 (fun v h L => ∃ z : Int32, v = some (.int z) ∧ ((c0.toInt < g0.toInt ∧ z.toInt = -1 ∨ g0.toInt < c0.toInt ∧ z.toInt = 1 ∨ c0.toInt = g0.toInt ∧ z.toInt = 1)) ∧ Fr n0 L ∧ h = h0)) T4 32 #[.val (.ref a), .val (.ref b), .val (.int (0 : Int32)), .val (.int (0 : Int32)), .val (.int c0), .unset] [(.int g0)]
  refine s_istore A4 d10_32 (pc' := 34) rfl (ls' := #[.val (.ref a), .val (.ref b), .val (.int (0 : Int32)), .val (.int (0 : Int32)), .val (.int c0), .val (.int g0)]) rfl ?_
  refine s_iload A4 d10_34 (pc' := 36) rfl rfl ?_
  refine s_iload A4 d10_36 (pc' := 38) rfl rfl ?_
  refine s_icmpeq A4 d10_38 (pY := 49) (pN := 41) (by decide) (by decide) rfl ?_ ?_
  · intro c38
    replace c38 := i_eq c38
    refine s_iloadN A4 d10_49 (pc' := 50) rfl rfl ?_
    refine s_iload A4 d10_50 (pc' := 52) rfl rfl ?_
    refine g_static X4 hx hZ (y := (⟨"java/lang/Character", "charCount", "(I)I"⟩ : MethodName)) hown (hw _ (List.mem_of_getElem? (i := 82) rfl)) (hw _ (List.mem_of_getElem? (i := 83) rfl)) (hw _ (List.mem_of_getElem? (i := 84) rfl)) (hw _ (List.mem_of_getElem? (i := 85) rfl)) (by decide) (argsL := [(.int c0)]) (rest := [(.int (0 : Int32))]) (c_cc l Z a0 hw [] c0 h0 n0 Z0 (by omega)) pd_13 rfl rfl (hb hby d10_52) e4 (by rw [hml]; rfl) (pc' := 55) rfl (by decide) (W := 1) (Nat.le_of_eq rfl) (by decide) (by decide) (by decide) ?_
    intro v5 T5 L5 X5 hQ5
    have A5 := wk X5 hx hby
    have e5 : T5.heap = T5.heap := rfl
    obtain ⟨rfl, N5, hh5⟩ := hQ5
    have e5 : T5.heap = h0 := hh5
    have fr5 := Fr.app fr4 N5
    show Go p e below m (Fini s 0 0 (fun v h L => ∃ z : Int32, v = some (.int z) ∧ ((c0.toInt < g0.toInt ∧ z.toInt = -1 ∨ g0.toInt < c0.toInt ∧ z.toInt = 1 ∨ c0.toInt = g0.toInt ∧ z.toInt = 1)) ∧ Fr n0 L ∧ h = h0)) T5 55 #[.val (.ref a), .val (.ref b), .val (.int (0 : Int32)), .val (.int (0 : Int32)), .val (.int c0), .val (.int g0)] [(.int (1 : Int32)), (.int (0 : Int32))]
    refine s_iadd A5 d10_55 (pc' := 56) rfl (v := (1 : Int32)) (by decide) ?_
    refine s_istoreN A5 d10_56 (pc' := 57) rfl (ls' := #[.val (.ref a), .val (.ref b), .val (.int (1 : Int32)), .val (.int (0 : Int32)), .val (.int c0), .val (.int g0)]) rfl ?_
    refine s_iloadN A5 d10_57 (pc' := 58) rfl rfl ?_
    refine s_iload A5 d10_58 (pc' := 60) rfl rfl ?_
    refine g_static X5 hx hZ (y := (⟨"java/lang/Character", "charCount", "(I)I"⟩ : MethodName)) hown (hw _ (List.mem_of_getElem? (i := 82) rfl)) (hw _ (List.mem_of_getElem? (i := 83) rfl)) (hw _ (List.mem_of_getElem? (i := 84) rfl)) (hw _ (List.mem_of_getElem? (i := 85) rfl)) (by decide) (argsL := [(.int g0)]) (rest := [(.int (0 : Int32))]) (c_cc l Z a0 hw [] g0 h0 n0 Z0 (by omega)) pd_13 rfl rfl (hb hby d10_60) e5 (by rw [hml]; rfl) (pc' := 63) rfl (by decide) (W := 1) (Nat.le_of_eq rfl) (by decide) (by decide) (by decide) ?_
    intro v6 T6 L6 X6 hQ6
    have A6 := wk X6 hx hby
    have e6 : T6.heap = T6.heap := rfl
    obtain ⟨rfl, N6, hh6⟩ := hQ6
    have e6 : T6.heap = h0 := hh6
    have fr6 := Fr.app fr5 N6
    show Go p e below m (Fini s 0 0 (fun v h L => ∃ z : Int32, v = some (.int z) ∧ ((c0.toInt < g0.toInt ∧ z.toInt = -1 ∨ g0.toInt < c0.toInt ∧ z.toInt = 1 ∨ c0.toInt = g0.toInt ∧ z.toInt = 1)) ∧ Fr n0 L ∧ h = h0)) T6 63 #[.val (.ref a), .val (.ref b), .val (.int (1 : Int32)), .val (.int (0 : Int32)), .val (.int c0), .val (.int g0)] [(.int (1 : Int32)), (.int (0 : Int32))]
    refine s_iadd A6 d10_63 (pc' := 64) rfl (v := (1 : Int32)) (by decide) ?_
    refine s_istoreN A6 d10_64 (pc' := 65) rfl (ls' := #[.val (.ref a), .val (.ref b), .val (.int (1 : Int32)), .val (.int (1 : Int32)), .val (.int c0), .val (.int g0)]) rfl ?_
    refine s_goto A6 d10_65 (pc' := 4) (by decide) (by decide) ?_
    refine s_iloadN A6 d10_4 (pc' := 5) rfl rfl ?_
    refine s_aloadN A6 d10_5 (pc' := 6) rfl rfl rfl ?_
    refine g_virtual X6 hx hZ (y := (⟨"java/lang/String", "length", "()I"⟩ : MethodName)) hown (hw _ (List.mem_of_getElem? (i := 47) rfl)) (hw _ (List.mem_of_getElem? (i := 48) rfl)) (hw _ (List.mem_of_getElem? (i := 50) rfl)) (hw _ (List.mem_of_getElem? (i := 49) rfl)) (hw _ (List.mem_of_getElem? (i := 6) rfl)) (hw _ (List.mem_of_getElem? (i := 51) rfl)) (by decide) Ea (argsL := []) (rest := [(.int (1 : Int32))]) (c_len_2 l Z a0 hw [] a d cz c0 c1 h0 n0 Z0 Ea Fv Fc D O SC hcz) pd_9 rfl rfl (hb hby d10_6) e6 (by rw [hml]; rfl) (pc' := 9) rfl (by decide) (W := 1) (Nat.le_of_eq rfl) (by decide) (by decide) (by decide) ?_
    intro v7 T7 L7 X7 hQ7
    have A7 := wk X7 hx hby
    have e7 : T7.heap = T7.heap := rfl
    obtain ⟨rfl, N7, hh7⟩ := hQ7
    have e7 : T7.heap = h0 := hh7
    have fr7 := Fr.app fr6 N7
    show Go p e below m (Fini s 0 0 (fun v h L => ∃ z : Int32, v = some (.int z) ∧ ((c0.toInt < g0.toInt ∧ z.toInt = -1 ∨ g0.toInt < c0.toInt ∧ z.toInt = 1 ∨ c0.toInt = g0.toInt ∧ z.toInt = 1)) ∧ Fr n0 L ∧ h = h0)) T7 9 #[.val (.ref a), .val (.ref b), .val (.int (1 : Int32)), .val (.int (1 : Int32)), .val (.int c0), .val (.int g0)] [(.int (2 : Int32)), (.int (1 : Int32))]
    refine s_icmpge A7 d10_9 (pY := 68) (pN := 12) (by decide) (by decide) rfl (fun c => absurd c (by decide)) (fun _ => ?_)
    refine s_iloadN A7 d10_12 (pc' := 13) rfl rfl ?_
    refine s_aloadN A7 d10_13 (pc' := 14) rfl rfl rfl ?_
    refine g_virtual X7 hx hZ (y := (⟨"java/lang/String", "length", "()I"⟩ : MethodName)) hown (hw _ (List.mem_of_getElem? (i := 47) rfl)) (hw _ (List.mem_of_getElem? (i := 48) rfl)) (hw _ (List.mem_of_getElem? (i := 50) rfl)) (hw _ (List.mem_of_getElem? (i := 49) rfl)) (hw _ (List.mem_of_getElem? (i := 6) rfl)) (hw _ (List.mem_of_getElem? (i := 51) rfl)) (by decide) Eb (argsL := []) (rest := [(.int (1 : Int32))]) (c_len_1 l Z a0 hw [] b f cz g0 h0 n0 Z0 Eb Gv Gc D2 O SC hcz) pd_9 rfl rfl (hb hby d10_14) e7 (by rw [hml]; rfl) (pc' := 17) rfl (by decide) (W := 1) (Nat.le_of_eq rfl) (by decide) (by decide) (by decide) ?_
    intro v8 T8 L8 X8 hQ8
    have A8 := wk X8 hx hby
    have e8 : T8.heap = T8.heap := rfl
    obtain ⟨rfl, N8, hh8⟩ := hQ8
    have e8 : T8.heap = h0 := hh8
    have fr8 := Fr.app fr7 N8
    show Go p e below m (Fini s 0 0 (fun v h L => ∃ z : Int32, v = some (.int z) ∧ ((c0.toInt < g0.toInt ∧ z.toInt = -1 ∨ g0.toInt < c0.toInt ∧ z.toInt = 1 ∨ c0.toInt = g0.toInt ∧ z.toInt = 1)) ∧ Fr n0 L ∧ h = h0)) T8 17 #[.val (.ref a), .val (.ref b), .val (.int (1 : Int32)), .val (.int (1 : Int32)), .val (.int c0), .val (.int g0)] [(.int (1 : Int32)), (.int (1 : Int32))]
    refine s_icmpge A8 d10_17 (pY := 68) (pN := 20) (by decide) (by decide) rfl (fun _ => ?_) (fun c => absurd c (by decide))
    refine s_aloadN A8 d10_68 (pc' := 69) rfl rfl rfl ?_
    refine g_virtual X8 hx hZ (y := (⟨"java/lang/String", "length", "()I"⟩ : MethodName)) hown (hw _ (List.mem_of_getElem? (i := 47) rfl)) (hw _ (List.mem_of_getElem? (i := 48) rfl)) (hw _ (List.mem_of_getElem? (i := 50) rfl)) (hw _ (List.mem_of_getElem? (i := 49) rfl)) (hw _ (List.mem_of_getElem? (i := 6) rfl)) (hw _ (List.mem_of_getElem? (i := 51) rfl)) (by decide) Ea (argsL := []) (rest := []) (c_len_2 l Z a0 hw [] a d cz c0 c1 h0 n0 Z0 Ea Fv Fc D O SC hcz) pd_9 rfl rfl (hb hby d10_69) e8 (by rw [hml]; rfl) (pc' := 72) rfl (by decide) (W := 0) (Nat.le_of_eq rfl) (by decide) (by decide) (by decide) ?_
    intro v9 T9 L9 X9 hQ9
    have A9 := wk X9 hx hby
    have e9 : T9.heap = T9.heap := rfl
    obtain ⟨rfl, N9, hh9⟩ := hQ9
    have e9 : T9.heap = h0 := hh9
    have fr9 := Fr.app fr8 N9
    show Go p e below m (Fini s 0 0 (fun v h L => ∃ z : Int32, v = some (.int z) ∧ ((c0.toInt < g0.toInt ∧ z.toInt = -1 ∨ g0.toInt < c0.toInt ∧ z.toInt = 1 ∨ c0.toInt = g0.toInt ∧ z.toInt = 1)) ∧ Fr n0 L ∧ h = h0)) T9 72 #[.val (.ref a), .val (.ref b), .val (.int (1 : Int32)), .val (.int (1 : Int32)), .val (.int c0), .val (.int g0)] [(.int (2 : Int32))]
    refine s_iloadN A9 d10_72 (pc' := 73) rfl rfl ?_
    refine s_isub A9 d10_73 (pc' := 74) rfl (v := (1 : Int32)) (by decide) ?_
    refine s_aloadN A9 d10_74 (pc' := 75) rfl rfl rfl ?_
    refine g_virtual X9 hx hZ (y := (⟨"java/lang/String", "length", "()I"⟩ : MethodName)) hown (hw _ (List.mem_of_getElem? (i := 47) rfl)) (hw _ (List.mem_of_getElem? (i := 48) rfl)) (hw _ (List.mem_of_getElem? (i := 50) rfl)) (hw _ (List.mem_of_getElem? (i := 49) rfl)) (hw _ (List.mem_of_getElem? (i := 6) rfl)) (hw _ (List.mem_of_getElem? (i := 51) rfl)) (by decide) Eb (argsL := []) (rest := [(.int (1 : Int32))]) (c_len_1 l Z a0 hw [] b f cz g0 h0 n0 Z0 Eb Gv Gc D2 O SC hcz) pd_9 rfl rfl (hb hby d10_75) e9 (by rw [hml]; rfl) (pc' := 78) rfl (by decide) (W := 1) (Nat.le_of_eq rfl) (by decide) (by decide) (by decide) ?_
    intro v10 T10 L10 X10 hQ10
    have A10 := wk X10 hx hby
    have e10 : T10.heap = T10.heap := rfl
    obtain ⟨rfl, N10, hh10⟩ := hQ10
    have e10 : T10.heap = h0 := hh10
    have fr10 := Fr.app fr9 N10
    show Go p e below m (Fini s 0 0 (fun v h L => ∃ z : Int32, v = some (.int z) ∧ ((c0.toInt < g0.toInt ∧ z.toInt = -1 ∨ g0.toInt < c0.toInt ∧ z.toInt = 1 ∨ c0.toInt = g0.toInt ∧ z.toInt = 1)) ∧ Fr n0 L ∧ h = h0)) T10 78 #[.val (.ref a), .val (.ref b), .val (.int (1 : Int32)), .val (.int (1 : Int32)), .val (.int c0), .val (.int g0)] [(.int (1 : Int32)), (.int (1 : Int32))]
    refine s_iloadN A10 d10_78 (pc' := 79) rfl rfl ?_
    refine s_isub A10 d10_79 (pc' := 80) rfl (v := (0 : Int32)) (by decide) ?_
    refine g_static X10 hx hZ (y := (⟨"java/lang/Integer", "compare", "(II)I"⟩ : MethodName)) hown (hw _ (List.mem_of_getElem? (i := 57) rfl)) (hw _ (List.mem_of_getElem? (i := 58) rfl)) (hw _ (List.mem_of_getElem? (i := 59) rfl)) (hw _ (List.mem_of_getElem? (i := 60) rfl)) (by decide) (argsL := [(.int (1 : Int32)), (.int (0 : Int32))]) (rest := []) (c_icmp l Z a0 hw [] (1 : Int32) (0 : Int32) h0 n0 Z0) pd_10 rfl rfl (hb hby d10_80) e10 (by rw [hml]; rfl) (pc' := 83) rfl (by decide) (W := 0) (Nat.le_of_eq rfl) (by decide) (by decide) (by decide) ?_
    intro v11 T11 L11 X11 hQ11
    have A11 := wk X11 hx hby
    have e11 : T11.heap = T11.heap := rfl
    obtain ⟨z11, rfl, q11, N11, hh11⟩ := hQ11
    have e11 : T11.heap = h0 := hh11
    have fr11 := Fr.app fr10 N11
    show Go p e below m (Fini s 0 0 (fun v h L => ∃ z : Int32, v = some (.int z) ∧ ((c0.toInt < g0.toInt ∧ z.toInt = -1 ∨ g0.toInt < c0.toInt ∧ z.toInt = 1 ∨ c0.toInt = g0.toInt ∧ z.toInt = 1)) ∧ Fr n0 L ∧ h = h0)) T11 83 #[.val (.ref a), .val (.ref b), .val (.int (1 : Int32)), .val (.int (1 : Int32)), .val (.int c0), .val (.int g0)] [(.int z11)]
    try rw [show (1 : Int32).toInt = 1 from by decide] at q11
    try rw [show (0 : Int32).toInt = 0 from by decide] at q11
    exact g_retI X11 hx hlk hret (hb hby d10_83) ⟨_, rfl, by omega, fr11, e11⟩ (by decide) (by decide)
  · intro c38
    replace c38 := i_ne c38
    refine s_iload A4 d10_41 (pc' := 43) rfl rfl ?_
    refine s_iload A4 d10_43 (pc' := 45) rfl rfl ?_
    refine g_static X4 hx hZ (y := (⟨"java/lang/Integer", "compare", "(II)I"⟩ : MethodName)) hown (hw _ (List.mem_of_getElem? (i := 57) rfl)) (hw _ (List.mem_of_getElem? (i := 58) rfl)) (hw _ (List.mem_of_getElem? (i := 59) rfl)) (hw _ (List.mem_of_getElem? (i := 60) rfl)) (by decide) (argsL := [(.int c0), (.int g0)]) (rest := []) (c_icmp l Z a0 hw [] c0 g0 h0 n0 Z0) pd_10 rfl rfl (hb hby d10_45) e4 (by rw [hml]; rfl) (pc' := 48) rfl (by decide) (W := 0) (Nat.le_of_eq rfl) (by decide) (by decide) (by decide) ?_
    intro v12 T12 L12 X12 hQ12
    have A12 := wk X12 hx hby
    have e12 : T12.heap = T12.heap := rfl
    obtain ⟨z12, rfl, q12, N12, hh12⟩ := hQ12
    have e12 : T12.heap = h0 := hh12
    have fr12 := Fr.app fr4 N12
    show Go p e below m (Fini s 0 0 (fun v h L => ∃ z : Int32, v = some (.int z) ∧ ((c0.toInt < g0.toInt ∧ z.toInt = -1 ∨ g0.toInt < c0.toInt ∧ z.toInt = 1 ∨ c0.toInt = g0.toInt ∧ z.toInt = 1)) ∧ Fr n0 L ∧ h = h0)) T12 48 #[.val (.ref a), .val (.ref b), .val (.int (0 : Int32)), .val (.int (0 : Int32)), .val (.int c0), .val (.int g0)] [(.int z12)]
    exact g_retI X12 hx hlk hret (hb hby d10_48) ⟨_, rfl, by omega, fr12, e12⟩ (by decide) (by decide)
theorem ef_c_rc2_1 (m : MethodId) (x0 : UInt64) (x1 : Addr) (x2 : UInt64) (x3 : Addr) : entryFrame m #[(.double x0), (.ref x1), (.double x2), (.ref x3)] 7 = mkF m 0 #[.val (.double x0), .second, .val (.ref x1), .val (.double x2), .second, .val (.ref x3), .unset] [] := by first | (simp [entryFrame, mkF, argsToLocals, Value.category, maxLocals]; done) | rfl
set_option maxRecDepth 65536 in
set_option maxHeartbeats 40000000 in
theorem c_rc2_1 (l : Launch) (Z : State) (a0 : Array Value) (hw : ∀ d ∈ tables_1, d.before a0 Z = true) (ws : List Jvm.Cond) (x y : UInt64) (nx ny : Int) (a d b f : Addr) (cz : Int32) (fv : Value) (c0 c1 : Int32) (g0 : Int32) (h0 : Heap) (n0 : Nat) (Z0 : n0 ≤ h0.size) (Hx : Dy nx 0 x) (Hy : Dy ny 0 y) (Ea : Exa Z h0 a "java/lang/String") (Fv : Fld Z h0 a "java/lang/String" "value" "[B" (.ref d)) (Fc : Fld Z h0 a "java/lang/String" "coder" "B" (.int 0)) (D : Ars Z h0 d .byte [(.int c0.toInt8.toInt32), (.int c1.toInt8.toInt32)]) (O : Old Z n0 h0) (SC : Sta Z Z.heap "java/lang/String" "COMPACT_STRINGS" "Z" (.int cz)) (hcz : ¬ cz = 0) (Eb : Exa Z h0 b "java/lang/String") (Gv : Fld Z h0 b "java/lang/String" "value" "[B" (.ref f)) (Gc : Fld Z h0 b "java/lang/String" "coder" "B" (.int 0)) (D2 : Ars Z h0 f .byte [(.int g0.toInt8.toInt32)]) (SF : Sta Z Z.heap "jdk/internal/util/Preconditions" "SIOOBE_FORMATTER" "Ljava/util/function/BiFunction;" fv) (hfv : fv = .null ∨ ∃ f, fv = .ref f) (C0 : 0 ≤ c0.toInt ∧ c0.toInt ≤ 255) (C1 : 0 ≤ c1.toInt ∧ c1.toInt ≤ 255) (G0 : 0 ≤ g0.toInt ∧ g0.toInt ≤ 255) :
    Ctr l Z (⟨"com/example/prox2/prox2/format/RunOrder", "compare", "(DLjava/lang/String;DLjava/lang/String;)I"⟩ : MethodName) prog_17_method_4_code 7 (some .int) ws ({ frames := 4, cells := 0, slots := 0, locals := 58 } : Room) #[(.double x), (.ref b), (.double y), (.ref a)] h0 (fun v h L => ∃ z : Int32, v = some (.int z) ∧ (ny < nx ∧ z.toInt = -1 ∨ nx < ny ∧ z.toInt = 1 ∨ nx = ny ∧ ((c0.toInt < g0.toInt ∧ z.toInt = -1 ∨ g0.toInt < c0.toInt ∧ z.toInt = 1 ∨ c0.toInt = g0.toInt ∧ z.toInt = 1))) ∧ Fr n0 L ∧ h = h0) := by
  refine enter pn_5 ?_
  intro p e s m below meth c T0 X0 hx hby hml hret hlk hZ hown hnm e0
  have A0 := wk X0 hx hby
  have N0 := Fr.nil n0
  refine goIn (ef_c_rc2_1 m x b y a) ?_
  show Go p e below m (Fini s 0 0 (fun v h L => ∃ z : Int32, v = some (.int z) ∧ (ny < nx ∧ z.toInt = -1 ∨ nx < ny ∧ z.toInt = 1 ∨ nx = ny ∧ ((c0.toInt < g0.toInt ∧ z.toInt = -1 ∨ g0.toInt < c0.toInt ∧ z.toInt = 1 ∨ c0.toInt = g0.toInt ∧ z.toInt = 1))) ∧ Fr n0 L ∧ h = h0)) T0 0 #[.val (.double x), .second, .val (.ref b), .val (.double y), .second, .val (.ref a), .unset] []
  refine s_dloadN A0 d5_0 (pc' := 1) rfl rfl ?_
  refine s_dloadN A0 d5_1 (pc' := 2) rfl rfl ?_
  refine g_static X0 hx hZ (y := (⟨"com/example/prox2/prox2/format/RunOrder", "compareScores", "(DD)I"⟩ : MethodName)) hown (hw _ (List.mem_of_getElem? (i := 30) rfl)) (hw _ (List.mem_of_getElem? (i := 31) rfl)) (hw _ (List.mem_of_getElem? (i := 28) rfl)) (hw _ (List.mem_of_getElem? (i := 32) rfl)) (by decide) (argsL := [(.double x), (.double y)]) (rest := []) (c_cs l Z a0 hw [] x y nx ny h0 n0 Z0 Hx Hy) pd_11 rfl rfl (hb hby d5_2) e0 (by rw [hml]; rfl) (pc' := 5) rfl (by decide) (W := 0) (Nat.le_of_eq rfl) (by decide) (by decide) (by decide) ?_
  intro v1 T1 L1 X1 hQ1
  have A1 := wk X1 hx hby
  have e1 : T1.heap = T1.heap := rfl
  obtain ⟨z1, rfl, q1, N1, hh1⟩ := hQ1
  have e1 : T1.heap = h0 := hh1
  have fr1 := Fr.app N0 N1
  show Go p e below m (Fini s 0 0 (fun v h L => ∃ z : Int32, v = some (.int z) ∧ (ny < nx ∧ z.toInt = -1 ∨ nx < ny ∧ z.toInt = 1 ∨ nx = ny ∧ ((c0.toInt < g0.toInt ∧ z.toInt = -1 ∨ g0.toInt < c0.toInt ∧ z.toInt = 1 ∨ c0.toInt = g0.toInt ∧ z.toInt = 1))) ∧ Fr n0 L ∧ h = h0)) T1 5 #[.val (.double x), .second, .val (.ref b), .val (.double y), .second, .val (.ref a), .unset] [(.int z1)]
  refine s_istore A1 d5_5 (pc' := 7) rfl (ls' := #[.val (.double x), .second, .val (.ref b), .val (.double y), .second, .val (.ref a), .val (.int z1)]) rfl ?_
  refine s_iload A1 d5_7 (pc' := 9) rfl rfl ?_
  refine s_ifeq A1 d5_9 (pY := 17) (pN := 12) (by decide) (by decide) rfl ?_ ?_
  · intro c9
    replace c9 := iz_eq c9
    refine s_aload A1 d5_17 (pc' := 19) rfl rfl rfl ?_
    refine s_aloadN A1 d5_19 (pc' := 20) rfl rfl rfl ?_
    refine g_static X1 hx hZ (y := (⟨"com/example/prox2/prox2/format/RunOrder", "compareAsText", "(Ljava/lang/String;Ljava/lang/String;)I"⟩ : MethodName)) hown (hw _ (List.mem_of_getElem? (i := 44) rfl)) (hw _ (List.mem_of_getElem? (i := 45) rfl)) (hw _ (List.mem_of_getElem? (i := 28) rfl)) (hw _ (List.mem_of_getElem? (i := 46) rfl)) (by decide) (argsL := [(.ref a), (.ref b)]) (rest := []) (c_ct2_1 l Z a0 hw [] a d b f cz fv c0 c1 g0 h0 n0 Z0 Ea Fv Fc D O SC hcz Eb Gv Gc D2 SF hfv C0 C1 G0) pd_12 rfl rfl (hb hby d5_20) e1 (by rw [hml]; rfl) (pc' := 23) rfl (by decide) (W := 0) (Nat.le_of_eq rfl) (by decide) (by decide) (by decide) ?_
    intro v2 T2 L2 X2 hQ2
    have A2 := wk X2 hx hby
    have e2 : T2.heap = T2.heap := rfl
    obtain ⟨z2, rfl, q2, N2, hh2⟩ := hQ2
    have e2 : T2.heap = h0 := hh2
    have fr2 := Fr.app fr1 N2
    show Go p e below m (Fini s 0 0 (fun v h L => ∃ z : Int32, v = some (.int z) ∧ (ny < nx ∧ z.toInt = -1 ∨ nx < ny ∧ z.toInt = 1 ∨ nx = ny ∧ ((c0.toInt < g0.toInt ∧ z.toInt = -1 ∨ g0.toInt < c0.toInt ∧ z.toInt = 1 ∨ c0.toInt = g0.toInt ∧ z.toInt = 1))) ∧ Fr n0 L ∧ h = h0)) T2 23 #[.val (.double x), .second, .val (.ref b), .val (.double y), .second, .val (.ref a), .val (.int z1)] [(.int z2)]
    exact g_retI X2 hx hlk hret (hb hby d5_23) ⟨_, rfl, by omega, fr2, e2⟩ (by decide) (by decide)
  · intro c9
    replace c9 := iz_ne c9
    refine s_iload A1 d5_12 (pc' := 14) rfl rfl ?_
    refine s_goto A1 d5_14 (pc' := 23) (by decide) (by decide) ?_
    exact g_retI X1 hx hlk hret (hb hby d5_23) ⟨_, rfl, by omega, fr1, e1⟩ (by decide) (by decide)
theorem ef_c_ck2_1 (m : MethodId) (x0 : Int32) (x1 : Int32) (x2 : Int32) (x3 : Int32) (x4 : Int32) (x5 : Int32) : entryFrame m #[(.int x0), (.int x1), (.int x2), (.int x3), (.int x4), (.int x5)] 6 = mkF m 0 #[.val (.int x0), .val (.int x1), .val (.int x2), .val (.int x3), .val (.int x4), .val (.int x5)] [] := by first | (simp [entryFrame, mkF, argsToLocals, Value.category, maxLocals]; done) | rfl
set_option maxRecDepth 65536 in
set_option maxHeartbeats 40000000 in
theorem c_ck2_1 (l : Launch) (Z : State) (a0 : Array Value) (hw : ∀ d ∈ tables_1, d.before a0 Z = true) (ws : List Jvm.Cond) (c0 c1 g0 g1 : Int32) (h0 : Heap) (n0 : Nat) (Z0 : n0 ≤ h0.size)  :
    Ctr l Z (⟨"com/example/prox2/prox2/format/RunOrderComparePinLaw", "cmp", "(ICCICC)I"⟩ : MethodName) method_4_code 6 (some .int) ws ({ frames := 0, cells := 0, slots := 0, locals := 0 } : Room) #[(.int (2 : Int32)), (.int c0), (.int c1), (.int (1 : Int32)), (.int g0), (.int g1)] h0 (fun v h L => ∃ z : Int32, v = some (.int z) ∧ ((c0.toInt < g0.toInt ∧ z.toInt = -1 ∨ g0.toInt < c0.toInt ∧ z.toInt = 1 ∨ c0.toInt = g0.toInt ∧ z.toInt = 1)) ∧ Fr n0 L ∧ h = h0) := by
  refine enter pn_14 ?_
  intro p e s m below meth c T0 X0 hx hby hml hret hlk hZ hown hnm e0
  have A0 := wk X0 hx hby
  have N0 := Fr.nil n0
  refine goIn (ef_c_ck2_1 m (2 : Int32) c0 c1 (1 : Int32) g0 g1) ?_
  show Go p e below m (Fini s 0 0 (fun v h L => ∃ z : Int32, v = some (.int z) ∧ ((c0.toInt < g0.toInt ∧ z.toInt = -1 ∨ g0.toInt < c0.toInt ∧ z.toInt = 1 ∨ c0.toInt = g0.toInt ∧ z.toInt = 1)) ∧ Fr n0 L ∧ h = h0)) T0 0 #[.val (.int (2 : Int32)), .val (.int c0), .val (.int c1), .val (.int (1 : Int32)), .val (.int g0), .val (.int g1)] []
  refine s_iloadN A0 d14_0 (pc' := 1) rfl rfl ?_
  refine s_ifle A0 d14_1 (pY := 54) (pN := 4) (by decide) (by decide) rfl (fun c => absurd c (by decide)) (fun _ => ?_)
  refine s_iloadN A0 d14_4 (pc' := 5) rfl rfl ?_
  refine s_ifle A0 d14_5 (pY := 54) (pN := 8) (by decide) (by decide) rfl (fun c => absurd c (by decide)) (fun _ => ?_)
  refine s_iloadN A0 d14_8 (pc' := 9) rfl rfl ?_
  refine s_iload A0 d14_9 (pc' := 11) rfl rfl ?_
  refine s_icmpeq A0 d14_11 (pY := 26) (pN := 14) (by decide) (by decide) rfl ?_ ?_
  · intro c11
    replace c11 := i_eq c11
    refine s_iloadN A0 d14_26 (pc' := 27) rfl rfl ?_
    refine s_iconst A0 d14_27 (pc' := 28) rfl (v := (1 : Int32)) (by decide) ?_
    refine s_icmple A0 d14_28 (pY := 54) (pN := 31) (by decide) (by decide) rfl (fun c => absurd c (by decide)) (fun _ => ?_)
    refine s_iloadN A0 d14_31 (pc' := 32) rfl rfl ?_
    refine s_iconst A0 d14_32 (pc' := 33) rfl (v := (1 : Int32)) (by decide) ?_
    refine s_icmple A0 d14_33 (pY := 54) (pN := 36) (by decide) (by decide) rfl (fun _ => ?_) (fun c => absurd c (by decide))
    refine s_iloadN A0 d14_54 (pc' := 55) rfl rfl ?_
    refine s_iloadN A0 d14_55 (pc' := 56) rfl rfl ?_
    refine s_icmpge A0 d14_56 (pY := 63) (pN := 59) (by decide) (by decide) rfl (fun _ => ?_) (fun c => absurd c (by decide))
    refine s_iloadN A0 d14_63 (pc' := 64) rfl rfl ?_
    refine s_iloadN A0 d14_64 (pc' := 65) rfl rfl ?_
    refine s_icmple A0 d14_65 (pY := 72) (pN := 68) (by decide) (by decide) rfl (fun c => absurd c (by decide)) (fun _ => ?_)
    refine s_iconst A0 d14_68 (pc' := 69) rfl (v := (1 : Int32)) (by decide) ?_
    refine s_goto A0 d14_69 (pc' := 73) (by decide) (by decide) ?_
    exact g_retI X0 hx hlk hret (hb hby d14_73) ⟨_, rfl, by rw [show (1 : Int32).toInt = 1 from by decide] <;> omega, N0, e0⟩ (by decide) (by decide)
  · intro c11
    replace c11 := i_ne c11
    refine s_iloadN A0 d14_14 (pc' := 15) rfl rfl ?_
    refine s_iload A0 d14_15 (pc' := 17) rfl rfl ?_
    refine s_icmpge A0 d14_17 (pY := 24) (pN := 20) (by decide) (by decide) rfl ?_ ?_
    · intro c17
      replace c17 := i_ge c17
      refine s_iconst A0 d14_24 (pc' := 25) rfl (v := (1 : Int32)) (by decide) ?_
      exact g_retI X0 hx hlk hret (hb hby d14_25) ⟨_, rfl, by rw [show (1 : Int32).toInt = 1 from by decide] <;> omega, N0, e0⟩ (by decide) (by decide)
    · intro c17
      replace c17 := i_lt c17
      refine s_iconst A0 d14_20 (pc' := 21) rfl (v := (-1 : Int32)) (by decide) ?_
      refine s_goto A0 d14_21 (pc' := 25) (by decide) (by decide) ?_
      exact g_retI X0 hx hlk hret (hb hby d14_25) ⟨_, rfl, by rw [show (-1 : Int32).toInt = -1 from by decide] <;> omega, N0, e0⟩ (by decide) (by decide)
theorem ef_c_ct2_2 (m : MethodId) (x0 : Addr) (x1 : Addr) : entryFrame m #[(.ref x0), (.ref x1)] 6 = mkF m 0 #[.val (.ref x0), .val (.ref x1), .unset, .unset, .unset, .unset] [] := by first | (simp [entryFrame, mkF, argsToLocals, Value.category, maxLocals]; done) | rfl
set_option maxRecDepth 65536 in
set_option maxHeartbeats 40000000 in
theorem c_ct2_2 (l : Launch) (Z : State) (a0 : Array Value) (hw : ∀ d ∈ tables_1, d.before a0 Z = true) (ws : List Jvm.Cond) (a d b f : Addr) (cz : Int32) (fv : Value) (c0 c1 : Int32) (g0 g1 : Int32) (h0 : Heap) (n0 : Nat) (Z0 : n0 ≤ h0.size) (Ea : Exa Z h0 a "java/lang/String") (Fv : Fld Z h0 a "java/lang/String" "value" "[B" (.ref d)) (Fc : Fld Z h0 a "java/lang/String" "coder" "B" (.int 0)) (D : Ars Z h0 d .byte [(.int c0.toInt8.toInt32), (.int c1.toInt8.toInt32)]) (O : Old Z n0 h0) (SC : Sta Z Z.heap "java/lang/String" "COMPACT_STRINGS" "Z" (.int cz)) (hcz : ¬ cz = 0) (Eb : Exa Z h0 b "java/lang/String") (Gv : Fld Z h0 b "java/lang/String" "value" "[B" (.ref f)) (Gc : Fld Z h0 b "java/lang/String" "coder" "B" (.int 0)) (D2 : Ars Z h0 f .byte [(.int g0.toInt8.toInt32), (.int g1.toInt8.toInt32)]) (SF : Sta Z Z.heap "jdk/internal/util/Preconditions" "SIOOBE_FORMATTER" "Ljava/util/function/BiFunction;" fv) (hfv : fv = .null ∨ ∃ f, fv = .ref f) (C0 : 0 ≤ c0.toInt ∧ c0.toInt ≤ 255) (C1 : 0 ≤ c1.toInt ∧ c1.toInt ≤ 255) (G0 : 0 ≤ g0.toInt ∧ g0.toInt ≤ 255) (G1 : 0 ≤ g1.toInt ∧ g1.toInt ≤ 255) :
    Ctr l Z (⟨"com/example/prox2/prox2/format/RunOrder", "compareAsText", "(Ljava/lang/String;Ljava/lang/String;)I"⟩ : MethodName) prog_17_method_6_code 6 (some .int) ws ({ frames := 3, cells := 0, slots := 0, locals := 41 } : Room) #[(.ref a), (.ref b)] h0 (fun v h L => ∃ z : Int32, v = some (.int z) ∧ ((c0.toInt < g0.toInt ∧ z.toInt = -1 ∨ g0.toInt < c0.toInt ∧ z.toInt = 1 ∨ c0.toInt = g0.toInt ∧ (c1.toInt < g1.toInt ∧ z.toInt = -1 ∨ g1.toInt < c1.toInt ∧ z.toInt = 1 ∨ c1.toInt = g1.toInt ∧ z.toInt = 0))) ∧ Fr n0 L ∧ h = h0) := by
  refine enter pn_10 ?_
  intro p e s m below meth c T0 X0 hx hby hml hret hlk hZ hown hnm e0
  have A0 := wk X0 hx hby
  have N0 := Fr.nil n0
  refine goIn (ef_c_ct2_2 m a b) ?_
  show Go p e below m (Fini s 0 0 (fun v h L => ∃ z : Int32, v = some (.int z) ∧ ((c0.toInt < g0.toInt ∧ z.toInt = -1 ∨ g0.toInt < c0.toInt ∧ z.toInt = 1 ∨ c0.toInt = g0.toInt ∧ (c1.toInt < g1.toInt ∧ z.toInt = -1 ∨ g1.toInt < c1.toInt ∧ z.toInt = 1 ∨ c1.toInt = g1.toInt ∧ z.toInt = 0))) ∧ Fr n0 L ∧ h = h0)) T0 0 #[.val (.ref a), .val (.ref b), .unset, .unset, .unset, .unset] []
  refine s_iconst A0 d10_0 (pc' := 1) rfl (v := (0 : Int32)) (by decide) ?_
  refine s_istoreN A0 d10_1 (pc' := 2) rfl (ls' := #[.val (.ref a), .val (.ref b), .val (.int (0 : Int32)), .unset, .unset, .unset]) rfl ?_
  refine s_iconst A0 d10_2 (pc' := 3) rfl (v := (0 : Int32)) (by decide) ?_
  refine s_istoreN A0 d10_3 (pc' := 4) rfl (ls' := #[.val (.ref a), .val (.ref b), .val (.int (0 : Int32)), .val (.int (0 : Int32)), .unset, .unset]) rfl ?_
  refine s_iloadN A0 d10_4 (pc' := 5) rfl rfl ?_
  refine s_aloadN A0 d10_5 (pc' := 6) rfl rfl rfl ?_
  refine g_virtual X0 hx hZ (y := (⟨"java/lang/String", "length", "()I"⟩ : MethodName)) hown (hw _ (List.mem_of_getElem? (i := 47) rfl)) (hw _ (List.mem_of_getElem? (i := 48) rfl)) (hw _ (List.mem_of_getElem? (i := 50) rfl)) (hw _ (List.mem_of_getElem? (i := 49) rfl)) (hw _ (List.mem_of_getElem? (i := 6) rfl)) (hw _ (List.mem_of_getElem? (i := 51) rfl)) (by decide) Ea (argsL := []) (rest := [(.int (0 : Int32))]) (c_len_2 l Z a0 hw [] a d cz c0 c1 h0 n0 Z0 Ea Fv Fc D O SC hcz) pd_9 rfl rfl (hb hby d10_6) e0 (by rw [hml]; rfl) (pc' := 9) rfl (by decide) (W := 1) (Nat.le_of_eq rfl) (by decide) (by decide) (by decide) ?_
  intro v1 T1 L1 X1 hQ1
  have A1 := wk X1 hx hby
  have e1 : T1.heap = T1.heap := rfl
  obtain ⟨rfl, N1, hh1⟩ := hQ1
  have e1 : T1.heap = h0 := hh1
  have fr1 := Fr.app N0 N1
  show Go p e below m (Fini s 0 0 (fun v h L => ∃ z : Int32, v = some (.int z) ∧ ((c0.toInt < g0.toInt ∧ z.toInt = -1 ∨ g0.toInt < c0.toInt ∧ z.toInt = 1 ∨ c0.toInt = g0.toInt ∧ (c1.toInt < g1.toInt ∧ z.toInt = -1 ∨ g1.toInt < c1.toInt ∧ z.toInt = 1 ∨ c1.toInt = g1.toInt ∧ z.toInt = 0))) ∧ Fr n0 L ∧ h = h0)) T1 9 #[.val (.ref a), .val (.ref b), .val (.int (0 : Int32)), .val (.int (0 : Int32)), .unset, .unset] [(.int (2 : Int32)), (.int (0 : Int32))]
  refine s_icmpge A1 d10_9 (pY := 68) (pN := 12) (by decide) (by decide) rfl (fun c => absurd c (by decide)) (fun _ => ?_)
  refine s_iloadN A1 d10_12 (pc' := 13) rfl rfl ?_
  refine s_aloadN A1 d10_13 (pc' := 14) rfl rfl rfl ?_
  refine g_virtual X1 hx hZ (y := (⟨"java/lang/String", "length", "()I"⟩ : MethodName)) hown (hw _ (List.mem_of_getElem? (i := 47) rfl)) (hw _ (List.mem_of_getElem? (i := 48) rfl)) (hw _ (List.mem_of_getElem? (i := 50) rfl)) (hw _ (List.mem_of_getElem? (i := 49) rfl)) (hw _ (List.mem_of_getElem? (i := 6) rfl)) (hw _ (List.mem_of_getElem? (i := 51) rfl)) (by decide) Eb (argsL := []) (rest := [(.int (0 : Int32))]) (c_len_2 l Z a0 hw [] b f cz g0 g1 h0 n0 Z0 Eb Gv Gc D2 O SC hcz) pd_9 rfl rfl (hb hby d10_14) e1 (by rw [hml]; rfl) (pc' := 17) rfl (by decide) (W := 1) (Nat.le_of_eq rfl) (by decide) (by decide) (by decide) ?_
  intro v2 T2 L2 X2 hQ2
  have A2 := wk X2 hx hby
  have e2 : T2.heap = T2.heap := rfl
  obtain ⟨rfl, N2, hh2⟩ := hQ2
  have e2 : T2.heap = h0 := hh2
  have fr2 := Fr.app fr1 N2
  show Go p e below m (Fini s 0 0 (fun v h L => ∃ z : Int32, v = some (.int z) ∧ ((c0.toInt < g0.toInt ∧ z.toInt = -1 ∨ g0.toInt < c0.toInt ∧ z.toInt = 1 ∨ c0.toInt = g0.toInt ∧ (c1.toInt < g1.toInt ∧ z.toInt = -1 ∨ g1.toInt < c1.toInt ∧ z.toInt = 1 ∨ c1.toInt = g1.toInt ∧ z.toInt = 0))) ∧ Fr n0 L ∧ h = h0)) T2 17 #[.val (.ref a), .val (.ref b), .val (.int (0 : Int32)), .val (.int (0 : Int32)), .unset, .unset] [(.int (2 : Int32)), (.int (0 : Int32))]
  refine s_icmpge A2 d10_17 (pY := 68) (pN := 20) (by decide) (by decide) rfl (fun c => absurd c (by decide)) (fun _ => ?_)
  refine s_aloadN A2 d10_20 (pc' := 21) rfl rfl rfl ?_
  refine s_iloadN A2 d10_21 (pc' := 22) rfl rfl ?_
  refine g_virtual X2 hx hZ (y := (⟨"java/lang/String", "codePointAt", "(I)I"⟩ : MethodName)) hown (hw _ (List.mem_of_getElem? (i := 64) rfl)) (hw _ (List.mem_of_getElem? (i := 65) rfl)) (hw _ (List.mem_of_getElem? (i := 67) rfl)) (hw _ (List.mem_of_getElem? (i := 66) rfl)) (hw _ (List.mem_of_getElem? (i := 6) rfl)) (hw _ (List.mem_of_getElem? (i := 68) rfl)) (by decide) Ea (argsL := [(.int (0 : Int32))]) (rest := []) (c_cpa_0_2 l Z a0 hw [] a d cz c0 c1 fv h0 n0 Z0 Ea Fv Fc D O SC hcz SF hfv C0 C1) pd_13 rfl rfl (hb hby d10_22) e2 (by rw [hml]; rfl) (pc' := 25) rfl (by decide) (W := 0) (Nat.le_of_eq rfl) (by decide) (by decide) (by decide) ?_
  intro v3 T3 L3 X3 hQ3
  have A3 := wk X3 hx hby
  have e3 : T3.heap = T3.heap := rfl
  obtain ⟨rfl, N3, hh3⟩ := hQ3
  have e3 : T3.heap = h0 := hh3
  have fr3 := Fr.app fr2 N3
  show Go p e below m (Fini s 0 0 (fun v h L => ∃ z : Int32, v = some (.int z) ∧ ((c0.toInt < g0.toInt ∧ z.toInt = -1 ∨ g0.toInt < c0.toInt ∧ z.toInt = 1 ∨ c0.toInt = g0.toInt ∧ (c1.toInt < g1.toInt ∧ z.toInt = -1 ∨ g1.toInt < c1.toInt ∧ z.toInt = 1 ∨ c1.toInt = g1.toInt ∧ z.toInt = 0))) ∧ Fr n0 L ∧ h = h0)) T3 25 #[.val (.ref a), .val (.ref b), .val (.int (0 : Int32)), .val (.int (0 : Int32)), .unset, .unset] [(.int c0)]
  refine s_istore A3 d10_25 (pc' := 27) rfl (ls' := #[.val (.ref a), .val (.ref b), .val (.int (0 : Int32)), .val (.int (0 : Int32)), .val (.int c0), .unset]) rfl ?_
  refine s_aloadN A3 d10_27 (pc' := 28) rfl rfl rfl ?_
  refine s_iloadN A3 d10_28 (pc' := 29) rfl rfl ?_
  refine g_virtual X3 hx hZ (y := (⟨"java/lang/String", "codePointAt", "(I)I"⟩ : MethodName)) hown (hw _ (List.mem_of_getElem? (i := 64) rfl)) (hw _ (List.mem_of_getElem? (i := 65) rfl)) (hw _ (List.mem_of_getElem? (i := 67) rfl)) (hw _ (List.mem_of_getElem? (i := 66) rfl)) (hw _ (List.mem_of_getElem? (i := 6) rfl)) (hw _ (List.mem_of_getElem? (i := 68) rfl)) (by decide) Eb (argsL := [(.int (0 : Int32))]) (rest := []) (c_cpa_0_2 l Z a0 hw [] b f cz g0 g1 fv h0 n0 Z0 Eb Gv Gc D2 O SC hcz SF hfv G0 G1) pd_13 rfl rfl (hb hby d10_29) e3 (by rw [hml]; rfl) (pc' := 32) rfl (by decide) (W := 0) (Nat.le_of_eq rfl) (by decide) (by decide) (by decide) ?_
  intro v4 T4 L4 X4 hQ4
  have A4 := wk X4 hx hby
  have e4 : T4.heap = T4.heap := rfl
  obtain ⟨rfl, N4, hh4⟩ := hQ4
  have e4 : T4.heap = h0 := hh4
  have fr4 := Fr.app fr3 N4
  show Go p e below m (Fini s 0 0 (fun v h L => ∃ z : Int32, v = some (.int z) ∧ ((c0.toInt < g0.toInt ∧ z.toInt = -1 ∨ g0.toInt < c0.toInt ∧ z.toInt = 1 ∨ c0.toInt = g0.toInt ∧ (c1.toInt < g1.toInt ∧ z.toInt = -1 ∨ g1.toInt < c1.toInt ∧ z.toInt = 1 ∨ c1.toInt = g1.toInt ∧ z.toInt = 0))) ∧ Fr n0 L ∧ h = h0)) T4 32 #[.val (.ref a), .val (.ref b), .val (.int (0 : Int32)), .val (.int (0 : Int32)), .val (.int c0), .unset] [(.int g0)]
  refine s_istore A4 d10_32 (pc' := 34) rfl (ls' := #[.val (.ref a), .val (.ref b), .val (.int (0 : Int32)), .val (.int (0 : Int32)), .val (.int c0), .val (.int g0)]) rfl ?_
  refine s_iload A4 d10_34 (pc' := 36) rfl rfl ?_
  refine s_iload A4 d10_36 (pc' := 38) rfl rfl ?_
  refine s_icmpeq A4 d10_38 (pY := 49) (pN := 41) (by decide) (by decide) rfl ?_ ?_
  · intro c38
    replace c38 := i_eq c38
    refine s_iloadN A4 d10_49 (pc' := 50) rfl rfl ?_
    refine s_iload A4 d10_50 (pc' := 52) rfl rfl ?_
    refine g_static X4 hx hZ (y := (⟨"java/lang/Character", "charCount", "(I)I"⟩ : MethodName)) hown (hw _ (List.mem_of_getElem? (i := 82) rfl)) (hw _ (List.mem_of_getElem? (i := 83) rfl)) (hw _ (List.mem_of_getElem? (i := 84) rfl)) (hw _ (List.mem_of_getElem? (i := 85) rfl)) (by decide) (argsL := [(.int c0)]) (rest := [(.int (0 : Int32))]) (c_cc l Z a0 hw [] c0 h0 n0 Z0 (by omega)) pd_13 rfl rfl (hb hby d10_52) e4 (by rw [hml]; rfl) (pc' := 55) rfl (by decide) (W := 1) (Nat.le_of_eq rfl) (by decide) (by decide) (by decide) ?_
    intro v5 T5 L5 X5 hQ5
    have A5 := wk X5 hx hby
    have e5 : T5.heap = T5.heap := rfl
    obtain ⟨rfl, N5, hh5⟩ := hQ5
    have e5 : T5.heap = h0 := hh5
    have fr5 := Fr.app fr4 N5
    show Go p e below m (Fini s 0 0 (fun v h L => ∃ z : Int32, v = some (.int z) ∧ ((c0.toInt < g0.toInt ∧ z.toInt = -1 ∨ g0.toInt < c0.toInt ∧ z.toInt = 1 ∨ c0.toInt = g0.toInt ∧ (c1.toInt < g1.toInt ∧ z.toInt = -1 ∨ g1.toInt < c1.toInt ∧ z.toInt = 1 ∨ c1.toInt = g1.toInt ∧ z.toInt = 0))) ∧ Fr n0 L ∧ h = h0)) T5 55 #[.val (.ref a), .val (.ref b), .val (.int (0 : Int32)), .val (.int (0 : Int32)), .val (.int c0), .val (.int g0)] [(.int (1 : Int32)), (.int (0 : Int32))]
    refine s_iadd A5 d10_55 (pc' := 56) rfl (v := (1 : Int32)) (by decide) ?_
    refine s_istoreN A5 d10_56 (pc' := 57) rfl (ls' := #[.val (.ref a), .val (.ref b), .val (.int (1 : Int32)), .val (.int (0 : Int32)), .val (.int c0), .val (.int g0)]) rfl ?_
    refine s_iloadN A5 d10_57 (pc' := 58) rfl rfl ?_
    refine s_iload A5 d10_58 (pc' := 60) rfl rfl ?_
    refine g_static X5 hx hZ (y := (⟨"java/lang/Character", "charCount", "(I)I"⟩ : MethodName)) hown (hw _ (List.mem_of_getElem? (i := 82) rfl)) (hw _ (List.mem_of_getElem? (i := 83) rfl)) (hw _ (List.mem_of_getElem? (i := 84) rfl)) (hw _ (List.mem_of_getElem? (i := 85) rfl)) (by decide) (argsL := [(.int g0)]) (rest := [(.int (0 : Int32))]) (c_cc l Z a0 hw [] g0 h0 n0 Z0 (by omega)) pd_13 rfl rfl (hb hby d10_60) e5 (by rw [hml]; rfl) (pc' := 63) rfl (by decide) (W := 1) (Nat.le_of_eq rfl) (by decide) (by decide) (by decide) ?_
    intro v6 T6 L6 X6 hQ6
    have A6 := wk X6 hx hby
    have e6 : T6.heap = T6.heap := rfl
    obtain ⟨rfl, N6, hh6⟩ := hQ6
    have e6 : T6.heap = h0 := hh6
    have fr6 := Fr.app fr5 N6
    show Go p e below m (Fini s 0 0 (fun v h L => ∃ z : Int32, v = some (.int z) ∧ ((c0.toInt < g0.toInt ∧ z.toInt = -1 ∨ g0.toInt < c0.toInt ∧ z.toInt = 1 ∨ c0.toInt = g0.toInt ∧ (c1.toInt < g1.toInt ∧ z.toInt = -1 ∨ g1.toInt < c1.toInt ∧ z.toInt = 1 ∨ c1.toInt = g1.toInt ∧ z.toInt = 0))) ∧ Fr n0 L ∧ h = h0)) T6 63 #[.val (.ref a), .val (.ref b), .val (.int (1 : Int32)), .val (.int (0 : Int32)), .val (.int c0), .val (.int g0)] [(.int (1 : Int32)), (.int (0 : Int32))]
    refine s_iadd A6 d10_63 (pc' := 64) rfl (v := (1 : Int32)) (by decide) ?_
    refine s_istoreN A6 d10_64 (pc' := 65) rfl (ls' := #[.val (.ref a), .val (.ref b), .val (.int (1 : Int32)), .val (.int (1 : Int32)), .val (.int c0), .val (.int g0)]) rfl ?_
    refine s_goto A6 d10_65 (pc' := 4) (by decide) (by decide) ?_
    refine s_iloadN A6 d10_4 (pc' := 5) rfl rfl ?_
    refine s_aloadN A6 d10_5 (pc' := 6) rfl rfl rfl ?_
    refine g_virtual X6 hx hZ (y := (⟨"java/lang/String", "length", "()I"⟩ : MethodName)) hown (hw _ (List.mem_of_getElem? (i := 47) rfl)) (hw _ (List.mem_of_getElem? (i := 48) rfl)) (hw _ (List.mem_of_getElem? (i := 50) rfl)) (hw _ (List.mem_of_getElem? (i := 49) rfl)) (hw _ (List.mem_of_getElem? (i := 6) rfl)) (hw _ (List.mem_of_getElem? (i := 51) rfl)) (by decide) Ea (argsL := []) (rest := [(.int (1 : Int32))]) (c_len_2 l Z a0 hw [] a d cz c0 c1 h0 n0 Z0 Ea Fv Fc D O SC hcz) pd_9 rfl rfl (hb hby d10_6) e6 (by rw [hml]; rfl) (pc' := 9) rfl (by decide) (W := 1) (Nat.le_of_eq rfl) (by decide) (by decide) (by decide) ?_
    intro v7 T7 L7 X7 hQ7
    have A7 := wk X7 hx hby
    have e7 : T7.heap = T7.heap := rfl
    obtain ⟨rfl, N7, hh7⟩ := hQ7
    have e7 : T7.heap = h0 := hh7
    have fr7 := Fr.app fr6 N7
    show Go p e below m (Fini s 0 0 (fun v h L => ∃ z : Int32, v = some (.int z) ∧ ((c0.toInt < g0.toInt ∧ z.toInt = -1 ∨ g0.toInt < c0.toInt ∧ z.toInt = 1 ∨ c0.toInt = g0.toInt ∧ (c1.toInt < g1.toInt ∧ z.toInt = -1 ∨ g1.toInt < c1.toInt ∧ z.toInt = 1 ∨ c1.toInt = g1.toInt ∧ z.toInt = 0))) ∧ Fr n0 L ∧ h = h0)) T7 9 #[.val (.ref a), .val (.ref b), .val (.int (1 : Int32)), .val (.int (1 : Int32)), .val (.int c0), .val (.int g0)] [(.int (2 : Int32)), (.int (1 : Int32))]
    refine s_icmpge A7 d10_9 (pY := 68) (pN := 12) (by decide) (by decide) rfl (fun c => absurd c (by decide)) (fun _ => ?_)
    refine s_iloadN A7 d10_12 (pc' := 13) rfl rfl ?_
    refine s_aloadN A7 d10_13 (pc' := 14) rfl rfl rfl ?_
    refine g_virtual X7 hx hZ (y := (⟨"java/lang/String", "length", "()I"⟩ : MethodName)) hown (hw _ (List.mem_of_getElem? (i := 47) rfl)) (hw _ (List.mem_of_getElem? (i := 48) rfl)) (hw _ (List.mem_of_getElem? (i := 50) rfl)) (hw _ (List.mem_of_getElem? (i := 49) rfl)) (hw _ (List.mem_of_getElem? (i := 6) rfl)) (hw _ (List.mem_of_getElem? (i := 51) rfl)) (by decide) Eb (argsL := []) (rest := [(.int (1 : Int32))]) (c_len_2 l Z a0 hw [] b f cz g0 g1 h0 n0 Z0 Eb Gv Gc D2 O SC hcz) pd_9 rfl rfl (hb hby d10_14) e7 (by rw [hml]; rfl) (pc' := 17) rfl (by decide) (W := 1) (Nat.le_of_eq rfl) (by decide) (by decide) (by decide) ?_
    intro v8 T8 L8 X8 hQ8
    have A8 := wk X8 hx hby
    have e8 : T8.heap = T8.heap := rfl
    obtain ⟨rfl, N8, hh8⟩ := hQ8
    have e8 : T8.heap = h0 := hh8
    have fr8 := Fr.app fr7 N8
    show Go p e below m (Fini s 0 0 (fun v h L => ∃ z : Int32, v = some (.int z) ∧ ((c0.toInt < g0.toInt ∧ z.toInt = -1 ∨ g0.toInt < c0.toInt ∧ z.toInt = 1 ∨ c0.toInt = g0.toInt ∧ (c1.toInt < g1.toInt ∧ z.toInt = -1 ∨ g1.toInt < c1.toInt ∧ z.toInt = 1 ∨ c1.toInt = g1.toInt ∧ z.toInt = 0))) ∧ Fr n0 L ∧ h = h0)) T8 17 #[.val (.ref a), .val (.ref b), .val (.int (1 : Int32)), .val (.int (1 : Int32)), .val (.int c0), .val (.int g0)] [(.int (2 : Int32)), (.int (1 : Int32))]
    refine s_icmpge A8 d10_17 (pY := 68) (pN := 20) (by decide) (by decide) rfl (fun c => absurd c (by decide)) (fun _ => ?_)
    refine s_aloadN A8 d10_20 (pc' := 21) rfl rfl rfl ?_
    refine s_iloadN A8 d10_21 (pc' := 22) rfl rfl ?_
    refine g_virtual X8 hx hZ (y := (⟨"java/lang/String", "codePointAt", "(I)I"⟩ : MethodName)) hown (hw _ (List.mem_of_getElem? (i := 64) rfl)) (hw _ (List.mem_of_getElem? (i := 65) rfl)) (hw _ (List.mem_of_getElem? (i := 67) rfl)) (hw _ (List.mem_of_getElem? (i := 66) rfl)) (hw _ (List.mem_of_getElem? (i := 6) rfl)) (hw _ (List.mem_of_getElem? (i := 68) rfl)) (by decide) Ea (argsL := [(.int (1 : Int32))]) (rest := []) (c_cpa_1_2 l Z a0 hw [] a d cz c0 c1 fv h0 n0 Z0 Ea Fv Fc D O SC hcz SF hfv C0 C1) pd_13 rfl rfl (hb hby d10_22) e8 (by rw [hml]; rfl) (pc' := 25) rfl (by decide) (W := 0) (Nat.le_of_eq rfl) (by decide) (by decide) (by decide) ?_
    intro v9 T9 L9 X9 hQ9
    have A9 := wk X9 hx hby
    have e9 : T9.heap = T9.heap := rfl
    obtain ⟨rfl, N9, hh9⟩ := hQ9
    have e9 : T9.heap = h0 := hh9
    have fr9 := Fr.app fr8 N9
    show Go p e below m (Fini s 0 0 (fun v h L => ∃ z : Int32, v = some (.int z) ∧ ((c0.toInt < g0.toInt ∧ z.toInt = -1 ∨ g0.toInt < c0.toInt ∧ z.toInt = 1 ∨ c0.toInt = g0.toInt ∧ (c1.toInt < g1.toInt ∧ z.toInt = -1 ∨ g1.toInt < c1.toInt ∧ z.toInt = 1 ∨ c1.toInt = g1.toInt ∧ z.toInt = 0))) ∧ Fr n0 L ∧ h = h0)) T9 25 #[.val (.ref a), .val (.ref b), .val (.int (1 : Int32)), .val (.int (1 : Int32)), .val (.int c0), .val (.int g0)] [(.int c1)]
    refine s_istore A9 d10_25 (pc' := 27) rfl (ls' := #[.val (.ref a), .val (.ref b), .val (.int (1 : Int32)), .val (.int (1 : Int32)), .val (.int c1), .val (.int g0)]) rfl ?_
    refine s_aloadN A9 d10_27 (pc' := 28) rfl rfl rfl ?_
    refine s_iloadN A9 d10_28 (pc' := 29) rfl rfl ?_
    refine g_virtual X9 hx hZ (y := (⟨"java/lang/String", "codePointAt", "(I)I"⟩ : MethodName)) hown (hw _ (List.mem_of_getElem? (i := 64) rfl)) (hw _ (List.mem_of_getElem? (i := 65) rfl)) (hw _ (List.mem_of_getElem? (i := 67) rfl)) (hw _ (List.mem_of_getElem? (i := 66) rfl)) (hw _ (List.mem_of_getElem? (i := 6) rfl)) (hw _ (List.mem_of_getElem? (i := 68) rfl)) (by decide) Eb (argsL := [(.int (1 : Int32))]) (rest := []) (c_cpa_1_2 l Z a0 hw [] b f cz g0 g1 fv h0 n0 Z0 Eb Gv Gc D2 O SC hcz SF hfv G0 G1) pd_13 rfl rfl (hb hby d10_29) e9 (by rw [hml]; rfl) (pc' := 32) rfl (by decide) (W := 0) (Nat.le_of_eq rfl) (by decide) (by decide) (by decide) ?_
    intro v10 T10 L10 X10 hQ10
    have A10 := wk X10 hx hby
    have e10 : T10.heap = T10.heap := rfl
    obtain ⟨rfl, N10, hh10⟩ := hQ10
    have e10 : T10.heap = h0 := hh10
    have fr10 := Fr.app fr9 N10
    show Go p e below m (Fini s 0 0 (fun v h L => ∃ z : Int32, v = some (.int z) ∧ ((c0.toInt < g0.toInt ∧ z.toInt = -1 ∨ g0.toInt < c0.toInt ∧ z.toInt = 1 ∨ c0.toInt = g0.toInt ∧ (c1.toInt < g1.toInt ∧ z.toInt = -1 ∨ g1.toInt < c1.toInt ∧ z.toInt = 1 ∨ c1.toInt = g1.toInt ∧ z.toInt = 0))) ∧ Fr n0 L ∧ h = h0)) T10 32 #[.val (.ref a), .val (.ref b), .val (.int (1 : Int32)), .val (.int (1 : Int32)), .val (.int c1), .val (.int g0)] [(.int g1)]
    refine s_istore A10 d10_32 (pc' := 34) rfl (ls' := #[.val (.ref a), .val (.ref b), .val (.int (1 : Int32)), .val (.int (1 : Int32)), .val (.int c1), .val (.int g1)]) rfl ?_
    refine s_iload A10 d10_34 (pc' := 36) rfl rfl ?_
    refine s_iload A10 d10_36 (pc' := 38) rfl rfl ?_
    refine s_icmpeq A10 d10_38 (pY := 49) (pN := 41) (by decide) (by decide) rfl ?_ ?_
    · intro c38_11
      replace c38_11 := i_eq c38_11
      refine s_iloadN A10 d10_49 (pc' := 50) rfl rfl ?_
      refine s_iload A10 d10_50 (pc' := 52) rfl rfl ?_
      refine g_static X10 hx hZ (y := (⟨"java/lang/Character", "charCount", "(I)I"⟩ : MethodName)) hown (hw _ (List.mem_of_getElem? (i := 82) rfl)) (hw _ (List.mem_of_getElem? (i := 83) rfl)) (hw _ (List.mem_of_getElem? (i := 84) rfl)) (hw _ (List.mem_of_getElem? (i := 85) rfl)) (by decide) (argsL := [(.int c1)]) (rest := [(.int (1 : Int32))]) (c_cc l Z a0 hw [] c1 h0 n0 Z0 (by omega)) pd_13 rfl rfl (hb hby d10_52) e10 (by rw [hml]; rfl) (pc' := 55) rfl (by decide) (W := 1) (Nat.le_of_eq rfl) (by decide) (by decide) (by decide) ?_
      intro v12 T12 L12 X12 hQ12
      have A12 := wk X12 hx hby
      have e12 : T12.heap = T12.heap := rfl
      obtain ⟨rfl, N12, hh12⟩ := hQ12
      have e12 : T12.heap = h0 := hh12
      have fr12 := Fr.app fr10 N12
      show Go p e below m (Fini s 0 0 (fun v h L => ∃ z : Int32, v = some (.int z) ∧ ((c0.toInt < g0.toInt ∧ z.toInt = -1 ∨ g0.toInt < c0.toInt ∧ z.toInt = 1 ∨ c0.toInt = g0.toInt ∧ (c1.toInt < g1.toInt ∧ z.toInt = -1 ∨ g1.toInt < c1.toInt ∧ z.toInt = 1 ∨ c1.toInt = g1.toInt ∧ z.toInt = 0))) ∧ Fr n0 L ∧ h = h0)) T12 55 #[.val (.ref a), .val (.ref b), .val (.int (1 : Int32)), .val (.int (1 : Int32)), .val (.int c1), .val (.int g1)] [(.int (1 : Int32)), (.int (1 : Int32))]
      refine s_iadd A12 d10_55 (pc' := 56) rfl (v := (2 : Int32)) (by decide) ?_
      refine s_istoreN A12 d10_56 (pc' := 57) rfl (ls' := #[.val (.ref a), .val (.ref b), .val (.int (2 : Int32)), .val (.int (1 : Int32)), .val (.int c1), .val (.int g1)]) rfl ?_
      refine s_iloadN A12 d10_57 (pc' := 58) rfl rfl ?_
      refine s_iload A12 d10_58 (pc' := 60) rfl rfl ?_
      refine g_static X12 hx hZ (y := (⟨"java/lang/Character", "charCount", "(I)I"⟩ : MethodName)) hown (hw _ (List.mem_of_getElem? (i := 82) rfl)) (hw _ (List.mem_of_getElem? (i := 83) rfl)) (hw _ (List.mem_of_getElem? (i := 84) rfl)) (hw _ (List.mem_of_getElem? (i := 85) rfl)) (by decide) (argsL := [(.int g1)]) (rest := [(.int (1 : Int32))]) (c_cc l Z a0 hw [] g1 h0 n0 Z0 (by omega)) pd_13 rfl rfl (hb hby d10_60) e12 (by rw [hml]; rfl) (pc' := 63) rfl (by decide) (W := 1) (Nat.le_of_eq rfl) (by decide) (by decide) (by decide) ?_
      intro v13 T13 L13 X13 hQ13
      have A13 := wk X13 hx hby
      have e13 : T13.heap = T13.heap := rfl
      obtain ⟨rfl, N13, hh13⟩ := hQ13
      have e13 : T13.heap = h0 := hh13
      have fr13 := Fr.app fr12 N13
      show Go p e below m (Fini s 0 0 (fun v h L => ∃ z : Int32, v = some (.int z) ∧ ((c0.toInt < g0.toInt ∧ z.toInt = -1 ∨ g0.toInt < c0.toInt ∧ z.toInt = 1 ∨ c0.toInt = g0.toInt ∧ (c1.toInt < g1.toInt ∧ z.toInt = -1 ∨ g1.toInt < c1.toInt ∧ z.toInt = 1 ∨ c1.toInt = g1.toInt ∧ z.toInt = 0))) ∧ Fr n0 L ∧ h = h0)) T13 63 #[.val (.ref a), .val (.ref b), .val (.int (2 : Int32)), .val (.int (1 : Int32)), .val (.int c1), .val (.int g1)] [(.int (1 : Int32)), (.int (1 : Int32))]
      refine s_iadd A13 d10_63 (pc' := 64) rfl (v := (2 : Int32)) (by decide) ?_
      refine s_istoreN A13 d10_64 (pc' := 65) rfl (ls' := #[.val (.ref a), .val (.ref b), .val (.int (2 : Int32)), .val (.int (2 : Int32)), .val (.int c1), .val (.int g1)]) rfl ?_
      refine s_goto A13 d10_65 (pc' := 4) (by decide) (by decide) ?_
      refine s_iloadN A13 d10_4 (pc' := 5) rfl rfl ?_
      refine s_aloadN A13 d10_5 (pc' := 6) rfl rfl rfl ?_
      refine g_virtual X13 hx hZ (y := (⟨"java/lang/String", "length", "()I"⟩ : MethodName)) hown (hw _ (List.mem_of_getElem? (i := 47) rfl)) (hw _ (List.mem_of_getElem? (i := 48) rfl)) (hw _ (List.mem_of_getElem? (i := 50) rfl)) (hw _ (List.mem_of_getElem? (i := 49) rfl)) (hw _ (List.mem_of_getElem? (i := 6) rfl)) (hw _ (List.mem_of_getElem? (i := 51) rfl)) (by decide) Ea (argsL := []) (rest := [(.int (2 : Int32))]) (c_len_2 l Z a0 hw [] a d cz c0 c1 h0 n0 Z0 Ea Fv Fc D O SC hcz) pd_9 rfl rfl (hb hby d10_6) e13 (by rw [hml]; rfl) (pc' := 9) rfl (by decide) (W := 1) (Nat.le_of_eq rfl) (by decide) (by decide) (by decide) ?_
      intro v14 T14 L14 X14 hQ14
      have A14 := wk X14 hx hby
      have e14 : T14.heap = T14.heap := rfl
      obtain ⟨rfl, N14, hh14⟩ := hQ14
      have e14 : T14.heap = h0 := hh14
      have fr14 := Fr.app fr13 N14
      show Go p e below m (Fini s 0 0 (fun v h L => ∃ z : Int32, v = some (.int z) ∧ ((c0.toInt < g0.toInt ∧ z.toInt = -1 ∨ g0.toInt < c0.toInt ∧ z.toInt = 1 ∨ c0.toInt = g0.toInt ∧ (c1.toInt < g1.toInt ∧ z.toInt = -1 ∨ g1.toInt < c1.toInt ∧ z.toInt = 1 ∨ c1.toInt = g1.toInt ∧ z.toInt = 0))) ∧ Fr n0 L ∧ h = h0)) T14 9 #[.val (.ref a), .val (.ref b), .val (.int (2 : Int32)), .val (.int (2 : Int32)), .val (.int c1), .val (.int g1)] [(.int (2 : Int32)), (.int (2 : Int32))]
      refine s_icmpge A14 d10_9 (pY := 68) (pN := 12) (by decide) (by decide) rfl (fun _ => ?_) (fun c => absurd c (by decide))
      refine s_aloadN A14 d10_68 (pc' := 69) rfl rfl rfl ?_
      refine g_virtual X14 hx hZ (y := (⟨"java/lang/String", "length", "()I"⟩ : MethodName)) hown (hw _ (List.mem_of_getElem? (i := 47) rfl)) (hw _ (List.mem_of_getElem? (i := 48) rfl)) (hw _ (List.mem_of_getElem? (i := 50) rfl)) (hw _ (List.mem_of_getElem? (i := 49) rfl)) (hw _ (List.mem_of_getElem? (i := 6) rfl)) (hw _ (List.mem_of_getElem? (i := 51) rfl)) (by decide) Ea (argsL := []) (rest := []) (c_len_2 l Z a0 hw [] a d cz c0 c1 h0 n0 Z0 Ea Fv Fc D O SC hcz) pd_9 rfl rfl (hb hby d10_69) e14 (by rw [hml]; rfl) (pc' := 72) rfl (by decide) (W := 0) (Nat.le_of_eq rfl) (by decide) (by decide) (by decide) ?_
      intro v15 T15 L15 X15 hQ15
      have A15 := wk X15 hx hby
      have e15 : T15.heap = T15.heap := rfl
      obtain ⟨rfl, N15, hh15⟩ := hQ15
      have e15 : T15.heap = h0 := hh15
      have fr15 := Fr.app fr14 N15
      show Go p e below m (Fini s 0 0 (fun v h L => ∃ z : Int32, v = some (.int z) ∧ ((c0.toInt < g0.toInt ∧ z.toInt = -1 ∨ g0.toInt < c0.toInt ∧ z.toInt = 1 ∨ c0.toInt = g0.toInt ∧ (c1.toInt < g1.toInt ∧ z.toInt = -1 ∨ g1.toInt < c1.toInt ∧ z.toInt = 1 ∨ c1.toInt = g1.toInt ∧ z.toInt = 0))) ∧ Fr n0 L ∧ h = h0)) T15 72 #[.val (.ref a), .val (.ref b), .val (.int (2 : Int32)), .val (.int (2 : Int32)), .val (.int c1), .val (.int g1)] [(.int (2 : Int32))]
      refine s_iloadN A15 d10_72 (pc' := 73) rfl rfl ?_
      refine s_isub A15 d10_73 (pc' := 74) rfl (v := (0 : Int32)) (by decide) ?_
      refine s_aloadN A15 d10_74 (pc' := 75) rfl rfl rfl ?_
      refine g_virtual X15 hx hZ (y := (⟨"java/lang/String", "length", "()I"⟩ : MethodName)) hown (hw _ (List.mem_of_getElem? (i := 47) rfl)) (hw _ (List.mem_of_getElem? (i := 48) rfl)) (hw _ (List.mem_of_getElem? (i := 50) rfl)) (hw _ (List.mem_of_getElem? (i := 49) rfl)) (hw _ (List.mem_of_getElem? (i := 6) rfl)) (hw _ (List.mem_of_getElem? (i := 51) rfl)) (by decide) Eb (argsL := []) (rest := [(.int (0 : Int32))]) (c_len_2 l Z a0 hw [] b f cz g0 g1 h0 n0 Z0 Eb Gv Gc D2 O SC hcz) pd_9 rfl rfl (hb hby d10_75) e15 (by rw [hml]; rfl) (pc' := 78) rfl (by decide) (W := 1) (Nat.le_of_eq rfl) (by decide) (by decide) (by decide) ?_
      intro v16 T16 L16 X16 hQ16
      have A16 := wk X16 hx hby
      have e16 : T16.heap = T16.heap := rfl
      obtain ⟨rfl, N16, hh16⟩ := hQ16
      have e16 : T16.heap = h0 := hh16
      have fr16 := Fr.app fr15 N16
      show Go p e below m (Fini s 0 0 (fun v h L => ∃ z : Int32, v = some (.int z) ∧ ((c0.toInt < g0.toInt ∧ z.toInt = -1 ∨ g0.toInt < c0.toInt ∧ z.toInt = 1 ∨ c0.toInt = g0.toInt ∧ (c1.toInt < g1.toInt ∧ z.toInt = -1 ∨ g1.toInt < c1.toInt ∧ z.toInt = 1 ∨ c1.toInt = g1.toInt ∧ z.toInt = 0))) ∧ Fr n0 L ∧ h = h0)) T16 78 #[.val (.ref a), .val (.ref b), .val (.int (2 : Int32)), .val (.int (2 : Int32)), .val (.int c1), .val (.int g1)] [(.int (2 : Int32)), (.int (0 : Int32))]
      refine s_iloadN A16 d10_78 (pc' := 79) rfl rfl ?_
      refine s_isub A16 d10_79 (pc' := 80) rfl (v := (0 : Int32)) (by decide) ?_
      refine g_static X16 hx hZ (y := (⟨"java/lang/Integer", "compare", "(II)I"⟩ : MethodName)) hown (hw _ (List.mem_of_getElem? (i := 57) rfl)) (hw _ (List.mem_of_getElem? (i := 58) rfl)) (hw _ (List.mem_of_getElem? (i := 59) rfl)) (hw _ (List.mem_of_getElem? (i := 60) rfl)) (by decide) (argsL := [(.int (0 : Int32)), (.int (0 : Int32))]) (rest := []) (c_icmp l Z a0 hw [] (0 : Int32) (0 : Int32) h0 n0 Z0) pd_10 rfl rfl (hb hby d10_80) e16 (by rw [hml]; rfl) (pc' := 83) rfl (by decide) (W := 0) (Nat.le_of_eq rfl) (by decide) (by decide) (by decide) ?_
      intro v17 T17 L17 X17 hQ17
      have A17 := wk X17 hx hby
      have e17 : T17.heap = T17.heap := rfl
      obtain ⟨z17, rfl, q17, N17, hh17⟩ := hQ17
      have e17 : T17.heap = h0 := hh17
      have fr17 := Fr.app fr16 N17
      show Go p e below m (Fini s 0 0 (fun v h L => ∃ z : Int32, v = some (.int z) ∧ ((c0.toInt < g0.toInt ∧ z.toInt = -1 ∨ g0.toInt < c0.toInt ∧ z.toInt = 1 ∨ c0.toInt = g0.toInt ∧ (c1.toInt < g1.toInt ∧ z.toInt = -1 ∨ g1.toInt < c1.toInt ∧ z.toInt = 1 ∨ c1.toInt = g1.toInt ∧ z.toInt = 0))) ∧ Fr n0 L ∧ h = h0)) T17 83 #[.val (.ref a), .val (.ref b), .val (.int (2 : Int32)), .val (.int (2 : Int32)), .val (.int c1), .val (.int g1)] [(.int z17)]
      try rw [show (0 : Int32).toInt = 0 from by decide] at q17
      try rw [show (0 : Int32).toInt = 0 from by decide] at q17
      exact g_retI X17 hx hlk hret (hb hby d10_83) ⟨_, rfl, by omega, fr17, e17⟩ (by decide) (by decide)
    · intro c38_11
      replace c38_11 := i_ne c38_11
      refine s_iload A10 d10_41 (pc' := 43) rfl rfl ?_
      refine s_iload A10 d10_43 (pc' := 45) rfl rfl ?_
      refine g_static X10 hx hZ (y := (⟨"java/lang/Integer", "compare", "(II)I"⟩ : MethodName)) hown (hw _ (List.mem_of_getElem? (i := 57) rfl)) (hw _ (List.mem_of_getElem? (i := 58) rfl)) (hw _ (List.mem_of_getElem? (i := 59) rfl)) (hw _ (List.mem_of_getElem? (i := 60) rfl)) (by decide) (argsL := [(.int c1), (.int g1)]) (rest := []) (c_icmp l Z a0 hw [] c1 g1 h0 n0 Z0) pd_10 rfl rfl (hb hby d10_45) e10 (by rw [hml]; rfl) (pc' := 48) rfl (by decide) (W := 0) (Nat.le_of_eq rfl) (by decide) (by decide) (by decide) ?_
      intro v18 T18 L18 X18 hQ18
      have A18 := wk X18 hx hby
      have e18 : T18.heap = T18.heap := rfl
      obtain ⟨z18, rfl, q18, N18, hh18⟩ := hQ18
      have e18 : T18.heap = h0 := hh18
      have fr18 := Fr.app fr10 N18
      show Go p e below m (Fini s 0 0 (fun v h L => ∃ z : Int32, v = some (.int z) ∧ ((c0.toInt < g0.toInt ∧ z.toInt = -1 ∨ g0.toInt < c0.toInt ∧ z.toInt = 1 ∨ c0.toInt = g0.toInt ∧ (c1.toInt < g1.toInt ∧ z.toInt = -1 ∨ g1.toInt < c1.toInt ∧ z.toInt = 1 ∨ c1.toInt = g1.toInt ∧ z.toInt = 0))) ∧ Fr n0 L ∧ h = h0)) T18 48 #[.val (.ref a), .val (.ref b), .val (.int (1 : Int32)), .val (.int (1 : Int32)), .val (.int c1), .val (.int g1)] [(.int z18)]
      exact g_retI X18 hx hlk hret (hb hby d10_48) ⟨_, rfl, by omega, fr18, e18⟩ (by decide) (by decide)
  · intro c38
    replace c38 := i_ne c38
    refine s_iload A4 d10_41 (pc' := 43) rfl rfl ?_
    refine s_iload A4 d10_43 (pc' := 45) rfl rfl ?_
    refine g_static X4 hx hZ (y := (⟨"java/lang/Integer", "compare", "(II)I"⟩ : MethodName)) hown (hw _ (List.mem_of_getElem? (i := 57) rfl)) (hw _ (List.mem_of_getElem? (i := 58) rfl)) (hw _ (List.mem_of_getElem? (i := 59) rfl)) (hw _ (List.mem_of_getElem? (i := 60) rfl)) (by decide) (argsL := [(.int c0), (.int g0)]) (rest := []) (c_icmp l Z a0 hw [] c0 g0 h0 n0 Z0) pd_10 rfl rfl (hb hby d10_45) e4 (by rw [hml]; rfl) (pc' := 48) rfl (by decide) (W := 0) (Nat.le_of_eq rfl) (by decide) (by decide) (by decide) ?_
    intro v19 T19 L19 X19 hQ19
    have A19 := wk X19 hx hby
    have e19 : T19.heap = T19.heap := rfl
    obtain ⟨z19, rfl, q19, N19, hh19⟩ := hQ19
    have e19 : T19.heap = h0 := hh19
    have fr19 := Fr.app fr4 N19
    show Go p e below m (Fini s 0 0 (fun v h L => ∃ z : Int32, v = some (.int z) ∧ ((c0.toInt < g0.toInt ∧ z.toInt = -1 ∨ g0.toInt < c0.toInt ∧ z.toInt = 1 ∨ c0.toInt = g0.toInt ∧ (c1.toInt < g1.toInt ∧ z.toInt = -1 ∨ g1.toInt < c1.toInt ∧ z.toInt = 1 ∨ c1.toInt = g1.toInt ∧ z.toInt = 0))) ∧ Fr n0 L ∧ h = h0)) T19 48 #[.val (.ref a), .val (.ref b), .val (.int (0 : Int32)), .val (.int (0 : Int32)), .val (.int c0), .val (.int g0)] [(.int z19)]
    exact g_retI X19 hx hlk hret (hb hby d10_48) ⟨_, rfl, by omega, fr19, e19⟩ (by decide) (by decide)
theorem ef_c_rc2_2 (m : MethodId) (x0 : UInt64) (x1 : Addr) (x2 : UInt64) (x3 : Addr) : entryFrame m #[(.double x0), (.ref x1), (.double x2), (.ref x3)] 7 = mkF m 0 #[.val (.double x0), .second, .val (.ref x1), .val (.double x2), .second, .val (.ref x3), .unset] [] := by first | (simp [entryFrame, mkF, argsToLocals, Value.category, maxLocals]; done) | rfl
set_option maxRecDepth 65536 in
set_option maxHeartbeats 40000000 in
theorem c_rc2_2 (l : Launch) (Z : State) (a0 : Array Value) (hw : ∀ d ∈ tables_1, d.before a0 Z = true) (ws : List Jvm.Cond) (x y : UInt64) (nx ny : Int) (a d b f : Addr) (cz : Int32) (fv : Value) (c0 c1 : Int32) (g0 g1 : Int32) (h0 : Heap) (n0 : Nat) (Z0 : n0 ≤ h0.size) (Hx : Dy nx 0 x) (Hy : Dy ny 0 y) (Ea : Exa Z h0 a "java/lang/String") (Fv : Fld Z h0 a "java/lang/String" "value" "[B" (.ref d)) (Fc : Fld Z h0 a "java/lang/String" "coder" "B" (.int 0)) (D : Ars Z h0 d .byte [(.int c0.toInt8.toInt32), (.int c1.toInt8.toInt32)]) (O : Old Z n0 h0) (SC : Sta Z Z.heap "java/lang/String" "COMPACT_STRINGS" "Z" (.int cz)) (hcz : ¬ cz = 0) (Eb : Exa Z h0 b "java/lang/String") (Gv : Fld Z h0 b "java/lang/String" "value" "[B" (.ref f)) (Gc : Fld Z h0 b "java/lang/String" "coder" "B" (.int 0)) (D2 : Ars Z h0 f .byte [(.int g0.toInt8.toInt32), (.int g1.toInt8.toInt32)]) (SF : Sta Z Z.heap "jdk/internal/util/Preconditions" "SIOOBE_FORMATTER" "Ljava/util/function/BiFunction;" fv) (hfv : fv = .null ∨ ∃ f, fv = .ref f) (C0 : 0 ≤ c0.toInt ∧ c0.toInt ≤ 255) (C1 : 0 ≤ c1.toInt ∧ c1.toInt ≤ 255) (G0 : 0 ≤ g0.toInt ∧ g0.toInt ≤ 255) (G1 : 0 ≤ g1.toInt ∧ g1.toInt ≤ 255) :
    Ctr l Z (⟨"com/example/prox2/prox2/format/RunOrder", "compare", "(DLjava/lang/String;DLjava/lang/String;)I"⟩ : MethodName) prog_17_method_4_code 7 (some .int) ws ({ frames := 4, cells := 0, slots := 0, locals := 58 } : Room) #[(.double x), (.ref b), (.double y), (.ref a)] h0 (fun v h L => ∃ z : Int32, v = some (.int z) ∧ (ny < nx ∧ z.toInt = -1 ∨ nx < ny ∧ z.toInt = 1 ∨ nx = ny ∧ ((c0.toInt < g0.toInt ∧ z.toInt = -1 ∨ g0.toInt < c0.toInt ∧ z.toInt = 1 ∨ c0.toInt = g0.toInt ∧ (c1.toInt < g1.toInt ∧ z.toInt = -1 ∨ g1.toInt < c1.toInt ∧ z.toInt = 1 ∨ c1.toInt = g1.toInt ∧ z.toInt = 0)))) ∧ Fr n0 L ∧ h = h0) := by
  refine enter pn_5 ?_
  intro p e s m below meth c T0 X0 hx hby hml hret hlk hZ hown hnm e0
  have A0 := wk X0 hx hby
  have N0 := Fr.nil n0
  refine goIn (ef_c_rc2_2 m x b y a) ?_
  show Go p e below m (Fini s 0 0 (fun v h L => ∃ z : Int32, v = some (.int z) ∧ (ny < nx ∧ z.toInt = -1 ∨ nx < ny ∧ z.toInt = 1 ∨ nx = ny ∧ ((c0.toInt < g0.toInt ∧ z.toInt = -1 ∨ g0.toInt < c0.toInt ∧ z.toInt = 1 ∨ c0.toInt = g0.toInt ∧ (c1.toInt < g1.toInt ∧ z.toInt = -1 ∨ g1.toInt < c1.toInt ∧ z.toInt = 1 ∨ c1.toInt = g1.toInt ∧ z.toInt = 0)))) ∧ Fr n0 L ∧ h = h0)) T0 0 #[.val (.double x), .second, .val (.ref b), .val (.double y), .second, .val (.ref a), .unset] []
  refine s_dloadN A0 d5_0 (pc' := 1) rfl rfl ?_
  refine s_dloadN A0 d5_1 (pc' := 2) rfl rfl ?_
  refine g_static X0 hx hZ (y := (⟨"com/example/prox2/prox2/format/RunOrder", "compareScores", "(DD)I"⟩ : MethodName)) hown (hw _ (List.mem_of_getElem? (i := 30) rfl)) (hw _ (List.mem_of_getElem? (i := 31) rfl)) (hw _ (List.mem_of_getElem? (i := 28) rfl)) (hw _ (List.mem_of_getElem? (i := 32) rfl)) (by decide) (argsL := [(.double x), (.double y)]) (rest := []) (c_cs l Z a0 hw [] x y nx ny h0 n0 Z0 Hx Hy) pd_11 rfl rfl (hb hby d5_2) e0 (by rw [hml]; rfl) (pc' := 5) rfl (by decide) (W := 0) (Nat.le_of_eq rfl) (by decide) (by decide) (by decide) ?_
  intro v1 T1 L1 X1 hQ1
  have A1 := wk X1 hx hby
  have e1 : T1.heap = T1.heap := rfl
  obtain ⟨z1, rfl, q1, N1, hh1⟩ := hQ1
  have e1 : T1.heap = h0 := hh1
  have fr1 := Fr.app N0 N1
  show Go p e below m (Fini s 0 0 (fun v h L => ∃ z : Int32, v = some (.int z) ∧ (ny < nx ∧ z.toInt = -1 ∨ nx < ny ∧ z.toInt = 1 ∨ nx = ny ∧ ((c0.toInt < g0.toInt ∧ z.toInt = -1 ∨ g0.toInt < c0.toInt ∧ z.toInt = 1 ∨ c0.toInt = g0.toInt ∧ (c1.toInt < g1.toInt ∧ z.toInt = -1 ∨ g1.toInt < c1.toInt ∧ z.toInt = 1 ∨ c1.toInt = g1.toInt ∧ z.toInt = 0)))) ∧ Fr n0 L ∧ h = h0)) T1 5 #[.val (.double x), .second, .val (.ref b), .val (.double y), .second, .val (.ref a), .unset] [(.int z1)]
  refine s_istore A1 d5_5 (pc' := 7) rfl (ls' := #[.val (.double x), .second, .val (.ref b), .val (.double y), .second, .val (.ref a), .val (.int z1)]) rfl ?_
  refine s_iload A1 d5_7 (pc' := 9) rfl rfl ?_
  refine s_ifeq A1 d5_9 (pY := 17) (pN := 12) (by decide) (by decide) rfl ?_ ?_
  · intro c9
    replace c9 := iz_eq c9
    refine s_aload A1 d5_17 (pc' := 19) rfl rfl rfl ?_
    refine s_aloadN A1 d5_19 (pc' := 20) rfl rfl rfl ?_
    refine g_static X1 hx hZ (y := (⟨"com/example/prox2/prox2/format/RunOrder", "compareAsText", "(Ljava/lang/String;Ljava/lang/String;)I"⟩ : MethodName)) hown (hw _ (List.mem_of_getElem? (i := 44) rfl)) (hw _ (List.mem_of_getElem? (i := 45) rfl)) (hw _ (List.mem_of_getElem? (i := 28) rfl)) (hw _ (List.mem_of_getElem? (i := 46) rfl)) (by decide) (argsL := [(.ref a), (.ref b)]) (rest := []) (c_ct2_2 l Z a0 hw [] a d b f cz fv c0 c1 g0 g1 h0 n0 Z0 Ea Fv Fc D O SC hcz Eb Gv Gc D2 SF hfv C0 C1 G0 G1) pd_12 rfl rfl (hb hby d5_20) e1 (by rw [hml]; rfl) (pc' := 23) rfl (by decide) (W := 0) (Nat.le_of_eq rfl) (by decide) (by decide) (by decide) ?_
    intro v2 T2 L2 X2 hQ2
    have A2 := wk X2 hx hby
    have e2 : T2.heap = T2.heap := rfl
    obtain ⟨z2, rfl, q2, N2, hh2⟩ := hQ2
    have e2 : T2.heap = h0 := hh2
    have fr2 := Fr.app fr1 N2
    show Go p e below m (Fini s 0 0 (fun v h L => ∃ z : Int32, v = some (.int z) ∧ (ny < nx ∧ z.toInt = -1 ∨ nx < ny ∧ z.toInt = 1 ∨ nx = ny ∧ ((c0.toInt < g0.toInt ∧ z.toInt = -1 ∨ g0.toInt < c0.toInt ∧ z.toInt = 1 ∨ c0.toInt = g0.toInt ∧ (c1.toInt < g1.toInt ∧ z.toInt = -1 ∨ g1.toInt < c1.toInt ∧ z.toInt = 1 ∨ c1.toInt = g1.toInt ∧ z.toInt = 0)))) ∧ Fr n0 L ∧ h = h0)) T2 23 #[.val (.double x), .second, .val (.ref b), .val (.double y), .second, .val (.ref a), .val (.int z1)] [(.int z2)]
    exact g_retI X2 hx hlk hret (hb hby d5_23) ⟨_, rfl, by omega, fr2, e2⟩ (by decide) (by decide)
  · intro c9
    replace c9 := iz_ne c9
    refine s_iload A1 d5_12 (pc' := 14) rfl rfl ?_
    refine s_goto A1 d5_14 (pc' := 23) (by decide) (by decide) ?_
    exact g_retI X1 hx hlk hret (hb hby d5_23) ⟨_, rfl, by omega, fr1, e1⟩ (by decide) (by decide)
theorem ef_c_ck2_2 (m : MethodId) (x0 : Int32) (x1 : Int32) (x2 : Int32) (x3 : Int32) (x4 : Int32) (x5 : Int32) : entryFrame m #[(.int x0), (.int x1), (.int x2), (.int x3), (.int x4), (.int x5)] 6 = mkF m 0 #[.val (.int x0), .val (.int x1), .val (.int x2), .val (.int x3), .val (.int x4), .val (.int x5)] [] := by first | (simp [entryFrame, mkF, argsToLocals, Value.category, maxLocals]; done) | rfl
set_option maxRecDepth 65536 in
set_option maxHeartbeats 40000000 in
theorem c_ck2_2 (l : Launch) (Z : State) (a0 : Array Value) (hw : ∀ d ∈ tables_1, d.before a0 Z = true) (ws : List Jvm.Cond) (c0 c1 g0 g1 : Int32) (h0 : Heap) (n0 : Nat) (Z0 : n0 ≤ h0.size)  :
    Ctr l Z (⟨"com/example/prox2/prox2/format/RunOrderComparePinLaw", "cmp", "(ICCICC)I"⟩ : MethodName) method_4_code 6 (some .int) ws ({ frames := 0, cells := 0, slots := 0, locals := 0 } : Room) #[(.int (2 : Int32)), (.int c0), (.int c1), (.int (2 : Int32)), (.int g0), (.int g1)] h0 (fun v h L => ∃ z : Int32, v = some (.int z) ∧ ((c0.toInt < g0.toInt ∧ z.toInt = -1 ∨ g0.toInt < c0.toInt ∧ z.toInt = 1 ∨ c0.toInt = g0.toInt ∧ (c1.toInt < g1.toInt ∧ z.toInt = -1 ∨ g1.toInt < c1.toInt ∧ z.toInt = 1 ∨ c1.toInt = g1.toInt ∧ z.toInt = 0))) ∧ Fr n0 L ∧ h = h0) := by
  refine enter pn_14 ?_
  intro p e s m below meth c T0 X0 hx hby hml hret hlk hZ hown hnm e0
  have A0 := wk X0 hx hby
  have N0 := Fr.nil n0
  refine goIn (ef_c_ck2_2 m (2 : Int32) c0 c1 (2 : Int32) g0 g1) ?_
  show Go p e below m (Fini s 0 0 (fun v h L => ∃ z : Int32, v = some (.int z) ∧ ((c0.toInt < g0.toInt ∧ z.toInt = -1 ∨ g0.toInt < c0.toInt ∧ z.toInt = 1 ∨ c0.toInt = g0.toInt ∧ (c1.toInt < g1.toInt ∧ z.toInt = -1 ∨ g1.toInt < c1.toInt ∧ z.toInt = 1 ∨ c1.toInt = g1.toInt ∧ z.toInt = 0))) ∧ Fr n0 L ∧ h = h0)) T0 0 #[.val (.int (2 : Int32)), .val (.int c0), .val (.int c1), .val (.int (2 : Int32)), .val (.int g0), .val (.int g1)] []
  refine s_iloadN A0 d14_0 (pc' := 1) rfl rfl ?_
  refine s_ifle A0 d14_1 (pY := 54) (pN := 4) (by decide) (by decide) rfl (fun c => absurd c (by decide)) (fun _ => ?_)
  refine s_iloadN A0 d14_4 (pc' := 5) rfl rfl ?_
  refine s_ifle A0 d14_5 (pY := 54) (pN := 8) (by decide) (by decide) rfl (fun c => absurd c (by decide)) (fun _ => ?_)
  refine s_iloadN A0 d14_8 (pc' := 9) rfl rfl ?_
  refine s_iload A0 d14_9 (pc' := 11) rfl rfl ?_
  refine s_icmpeq A0 d14_11 (pY := 26) (pN := 14) (by decide) (by decide) rfl ?_ ?_
  · intro c11
    replace c11 := i_eq c11
    refine s_iloadN A0 d14_26 (pc' := 27) rfl rfl ?_
    refine s_iconst A0 d14_27 (pc' := 28) rfl (v := (1 : Int32)) (by decide) ?_
    refine s_icmple A0 d14_28 (pY := 54) (pN := 31) (by decide) (by decide) rfl (fun c => absurd c (by decide)) (fun _ => ?_)
    refine s_iloadN A0 d14_31 (pc' := 32) rfl rfl ?_
    refine s_iconst A0 d14_32 (pc' := 33) rfl (v := (1 : Int32)) (by decide) ?_
    refine s_icmple A0 d14_33 (pY := 54) (pN := 36) (by decide) (by decide) rfl (fun c => absurd c (by decide)) (fun _ => ?_)
    refine s_iloadN A0 d14_36 (pc' := 37) rfl rfl ?_
    refine s_iload A0 d14_37 (pc' := 39) rfl rfl ?_
    refine s_icmpeq A0 d14_39 (pY := 54) (pN := 42) (by decide) (by decide) rfl ?_ ?_
    · intro c39
      replace c39 := i_eq c39
      refine s_iloadN A0 d14_54 (pc' := 55) rfl rfl ?_
      refine s_iloadN A0 d14_55 (pc' := 56) rfl rfl ?_
      refine s_icmpge A0 d14_56 (pY := 63) (pN := 59) (by decide) (by decide) rfl (fun _ => ?_) (fun c => absurd c (by decide))
      refine s_iloadN A0 d14_63 (pc' := 64) rfl rfl ?_
      refine s_iloadN A0 d14_64 (pc' := 65) rfl rfl ?_
      refine s_icmple A0 d14_65 (pY := 72) (pN := 68) (by decide) (by decide) rfl (fun _ => ?_) (fun c => absurd c (by decide))
      refine s_iconst A0 d14_72 (pc' := 73) rfl (v := (0 : Int32)) (by decide) ?_
      exact g_retI X0 hx hlk hret (hb hby d14_73) ⟨_, rfl, by rw [show (0 : Int32).toInt = 0 from by decide] <;> omega, N0, e0⟩ (by decide) (by decide)
    · intro c39
      replace c39 := i_ne c39
      refine s_iloadN A0 d14_42 (pc' := 43) rfl rfl ?_
      refine s_iload A0 d14_43 (pc' := 45) rfl rfl ?_
      refine s_icmpge A0 d14_45 (pY := 52) (pN := 48) (by decide) (by decide) rfl ?_ ?_
      · intro c45
        replace c45 := i_ge c45
        refine s_iconst A0 d14_52 (pc' := 53) rfl (v := (1 : Int32)) (by decide) ?_
        exact g_retI X0 hx hlk hret (hb hby d14_53) ⟨_, rfl, by rw [show (1 : Int32).toInt = 1 from by decide] <;> omega, N0, e0⟩ (by decide) (by decide)
      · intro c45
        replace c45 := i_lt c45
        refine s_iconst A0 d14_48 (pc' := 49) rfl (v := (-1 : Int32)) (by decide) ?_
        refine s_goto A0 d14_49 (pc' := 53) (by decide) (by decide) ?_
        exact g_retI X0 hx hlk hret (hb hby d14_53) ⟨_, rfl, by rw [show (-1 : Int32).toInt = -1 from by decide] <;> omega, N0, e0⟩ (by decide) (by decide)
  · intro c11
    replace c11 := i_ne c11
    refine s_iloadN A0 d14_14 (pc' := 15) rfl rfl ?_
    refine s_iload A0 d14_15 (pc' := 17) rfl rfl ?_
    refine s_icmpge A0 d14_17 (pY := 24) (pN := 20) (by decide) (by decide) rfl ?_ ?_
    · intro c17
      replace c17 := i_ge c17
      refine s_iconst A0 d14_24 (pc' := 25) rfl (v := (1 : Int32)) (by decide) ?_
      exact g_retI X0 hx hlk hret (hb hby d14_25) ⟨_, rfl, by rw [show (1 : Int32).toInt = 1 from by decide] <;> omega, N0, e0⟩ (by decide) (by decide)
    · intro c17
      replace c17 := i_lt c17
      refine s_iconst A0 d14_20 (pc' := 21) rfl (v := (-1 : Int32)) (by decide) ?_
      refine s_goto A0 d14_21 (pc' := 25) (by decide) (by decide) ?_
      exact g_retI X0 hx hlk hret (hb hby d14_25) ⟨_, rfl, by rw [show (-1 : Int32).toInt = -1 from by decide] <;> omega, N0, e0⟩ (by decide) (by decide)
theorem ef_c_law (m : MethodId) (x0 : Int32) (x1 : Int32) (x2 : Int32) (x3 : Int32) (x4 : Int32) : entryFrame m #[(.int x0), (.int x1), (.int x2), (.int x3), (.int x4)] maxLocals = mkF m 0 #[.val (.int x0), .val (.int x1), .val (.int x2), .val (.int x3), .val (.int x4), .unset, .unset, .unset, .unset, .unset, .unset, .unset, .unset, .unset, .unset, .unset, .unset, .unset, .unset, .unset, .unset] [] := by first | (simp [entryFrame, mkF, argsToLocals, Value.category, maxLocals]; done) | rfl
set_option maxRecDepth 65536 in
set_option maxHeartbeats 40000000 in
theorem c_law (l : Launch) (Z : State) (a0 : Array Value) (hw : ∀ d ∈ tables_1, d.before a0 Z = true) (ws : List Jvm.Cond) (p0 p1 p2 p3 p4 cz : Int32) (fv : Value) (h0 : Heap) (n0 : Nat) (Z0 : n0 ≤ h0.size) (O : Old Z n0 h0) (SC : Sta Z Z.heap "java/lang/String" "COMPACT_STRINGS" "Z" (.int cz)) (hcz : ¬ cz = 0) (SF : Sta Z Z.heap "jdk/internal/util/Preconditions" "SIOOBE_FORMATTER" "Ljava/util/function/BiFunction;" fv) (hfv : fv = .null ∨ ∃ f, fv = .ref f) (hEL : EW Z a0 consts_1) :
    CtrH l Z consts_1 x code maxLocals ret ws room_1 #[(.int p0), (.int p1), (.int p2), (.int p3), (.int p4)] h0 (fun v h L => v = some (.int 1) ∧ Fr n0 L) := by
  refine enterH pn_0 ?_
  intro p e s m below meth c T0 X0 hx hby hml hret hlk hZ hown hnm e0 CH0 hS0
  have A0 := wk X0 hx hby
  have N0 := Fr.nil n0
  refine goIn (ef_c_law m p0 p1 p2 p3 p4) ?_
  show Go p e below m (FinH Z consts_1 s h0 room_1.cells room_1.slots (fun v h L => v = some (.int 1) ∧ Fr n0 L)) T0 0 #[.val (.int p0), .val (.int p1), .val (.int p2), .val (.int p3), .val (.int p4), .unset, .unset, .unset, .unset, .unset, .unset, .unset, .unset, .unset, .unset, .unset, .unset, .unset, .unset, .unset, .unset] []
  have b0 := i32b p0
  have b1 := i32b p1
  have J149 : ∀ (k5 : Int32) (x6 x8 : UInt64) (k10 k11 k12 k13 k14 k15 : Int32), Dy p0.toInt 0 x6 → Dy k5.toInt 0 x8 → (0 ≤ k10.toInt ∧ k10.toInt < 3) → (0 ≤ k11.toInt ∧ k11.toInt < 3) → (0 ≤ k12.toInt ∧ k12.toInt ≤ 255) → (0 ≤ k13.toInt ∧ k13.toInt ≤ 255) → (0 ≤ k14.toInt ∧ k14.toInt ≤ 255) → (0 ≤ k15.toInt ∧ k15.toInt ≤ 255) → Go p e below m (FinH Z consts_1 s h0 room_1.cells room_1.slots (fun v h L => v = some (.int 1) ∧ Fr n0 L)) T0 149 #[.val (.int p0), .val (.int p1), .val (.int p2), .val (.int p3), .val (.int p4), .val (.int k5), .val (.double x6), .second, .val (.double x8), .second, .val (.int k10), .val (.int k11), .val (.int k12), .val (.int k13), .val (.int k14), .val (.int k15), .unset, .unset, .unset, .unset, .unset] [] := by
    intro k5 x6 x8 k10 k11 k12 k13 k14 k15 y6 y8 B10 B11 B12 B13 B14 B15
    rcases own_c3 B10 with rfl | rfl | rfl <;> rcases own_c3 B11 with rfl | rfl | rfl
    ·
      refine s_iload A0 at_149 (pc' := 151) rfl rfl ?_
      refine s_iload A0 at_151 (pc' := 153) rfl rfl ?_
      refine s_iload A0 at_153 (pc' := 155) rfl rfl ?_
      refine g_staticH X0 hx hZ (y := (⟨"com/example/prox2/prox2/format/RunOrderComparePinLaw", "make", "(ICC)Ljava/lang/String;"⟩ : MethodName)) hown (hw _ (List.mem_of_getElem? (i := 0) rfl)) (hw _ (List.mem_of_getElem? (i := 1) rfl)) (hw _ (List.mem_of_getElem? (i := 2) rfl)) (hw _ (List.mem_of_getElem? (i := 3) rfl)) (by decide) hS0 (Nat.zero_le _) hEL CH0 (argsL := [(.int (0 : Int32)), (.int k12), (.int k13)]) (rest := []) (c_make_0 l Z a0 hw [] cz k12 k13 h0 n0 Z0 O SC hcz B12 B13 hEL) pd_14 rfl rfl (hb hby at_155) e0 (by rw [hml]; rfl) (pc' := 158) rfl (by decide) (W := 0) (Nat.le_of_eq rfl) (by decide) (by decide) (by decide) ?_
      intro v1001 T1001 L1001 X1001 hS1001 hZ hown ch1001 sx1001 hQ1001
      have A1001 := wk X1001 hx hby
      have e1001 : T1001.heap = T1001.heap := rfl
      obtain ⟨a1001, d1001, rfl, N1001, K1001, Ea1001, Fv1001, Fc1001, D1001⟩ := hQ1001
      have kp1002 := Keep.trans (Keep.refl h0 []) K1001 (fun x hx => absurd hx nin0)
      have fr1001 := Fr.app N0 N1001
      show Go p e below m (FinH Z consts_1 s h0 room_1.cells room_1.slots (fun v h L => v = some (.int 1) ∧ Fr n0 L)) T1001 158 #[.val (.int p0), .val (.int p1), .val (.int p2), .val (.int p3), .val (.int p4), .val (.int k5), .val (.double x6), .second, .val (.double x8), .second, .val (.int (0 : Int32)), .val (.int (0 : Int32)), .val (.int k12), .val (.int k13), .val (.int k14), .val (.int k15), .unset, .unset, .unset, .unset, .unset] [(.ref a1001)]
      refine s_astore A1001 at_158 (pc' := 160) rfl (ls' := #[.val (.int p0), .val (.int p1), .val (.int p2), .val (.int p3), .val (.int p4), .val (.int k5), .val (.double x6), .second, .val (.double x8), .second, .val (.int (0 : Int32)), .val (.int (0 : Int32)), .val (.int k12), .val (.int k13), .val (.int k14), .val (.int k15), .val (.ref a1001), .unset, .unset, .unset, .unset]) rfl rfl ?_
      refine s_iload A1001 at_160 (pc' := 162) rfl rfl ?_
      refine s_iload A1001 at_162 (pc' := 164) rfl rfl ?_
      refine s_iload A1001 at_164 (pc' := 166) rfl rfl ?_
      have f1003 := (Old.keep O K1001 (fun x hx => absurd hx nin0))
      have sz1006 : h0.size ≤ T1001.heap.size := K1001.1
      have zs1005 : n0 ≤ T1001.heap.size := Nat.le_trans Z0 sz1006
      refine g_staticH X1001 hx hZ (y := (⟨"com/example/prox2/prox2/format/RunOrderComparePinLaw", "make", "(ICC)Ljava/lang/String;"⟩ : MethodName)) hown (hw _ (List.mem_of_getElem? (i := 0) rfl)) (hw _ (List.mem_of_getElem? (i := 1) rfl)) (hw _ (List.mem_of_getElem? (i := 2) rfl)) (hw _ (List.mem_of_getElem? (i := 3) rfl)) (by decide) hS1001 (Nat.le_refl _) hEL ch1001 (argsL := [(.int (0 : Int32)), (.int k14), (.int k15)]) (rest := []) (c_make_0 l Z a0 hw [] cz k14 k15 T1001.heap n0 zs1005 f1003 SC hcz B14 B15 hEL) pd_14 rfl rfl (hb hby at_166) e1001 (by rw [hml]; rfl) (pc' := 169) rfl (by decide) (W := 0) (Nat.le_of_eq rfl) (by decide) (by decide) (by decide) ?_
      intro v1004 T1004 L1004 X1004 hS1004 hZ hown ch1004 sx1004 hQ1004
      have A1004 := wk X1004 hx hby
      have e1004 : T1004.heap = T1004.heap := rfl
      obtain ⟨a1004, d1004, rfl, N1004, K1004, Ea1004, Fv1004, Fc1004, D1004⟩ := hQ1004
      have kp1007 := Keep.trans kp1002 K1004 (fun x hx => absurd hx nin0)
      have fr1004 := Fr.app fr1001 N1004
      show Go p e below m (FinH Z consts_1 s h0 room_1.cells room_1.slots (fun v h L => v = some (.int 1) ∧ Fr n0 L)) T1004 169 #[.val (.int p0), .val (.int p1), .val (.int p2), .val (.int p3), .val (.int p4), .val (.int k5), .val (.double x6), .second, .val (.double x8), .second, .val (.int (0 : Int32)), .val (.int (0 : Int32)), .val (.int k12), .val (.int k13), .val (.int k14), .val (.int k15), .val (.ref a1001), .unset, .unset, .unset, .unset] [(.ref a1004)]
      refine s_astore A1004 at_169 (pc' := 171) rfl (ls' := #[.val (.int p0), .val (.int p1), .val (.int p2), .val (.int p3), .val (.int p4), .val (.int k5), .val (.double x6), .second, .val (.double x8), .second, .val (.int (0 : Int32)), .val (.int (0 : Int32)), .val (.int k12), .val (.int k13), .val (.int k14), .val (.int k15), .val (.ref a1001), .val (.ref a1004), .unset, .unset, .unset]) rfl rfl ?_
      refine s_dload A1004 at_171 (pc' := 173) rfl rfl ?_
      refine s_aload A1004 at_173 (pc' := 175) rfl rfl rfl ?_
      refine s_dload A1004 at_175 (pc' := 177) rfl rfl ?_
      refine s_aload A1004 at_177 (pc' := 179) rfl rfl rfl ?_
      have f1008 := (Old.keep f1003 K1004 (fun x hx => absurd hx nin0))
      have f1009 := (Exa.keep Ea1001 K1004)
      have f1010 := (Fld.keep Fv1001 K1004 nin0)
      have f1011 := (Fld.keep Fc1001 K1004 nin0)
      have f1012 := (Ars.keep D1001 K1004 nin0)
      have sz1014 : h0.size ≤ T1004.heap.size := (Nat.le_trans sz1006 K1004.1)
      have zs1013 : n0 ≤ T1004.heap.size := Nat.le_trans Z0 sz1014
      refine g_static X1004 hx hZ (y := (⟨"com/example/prox2/prox2/format/RunOrder", "compare", "(DLjava/lang/String;DLjava/lang/String;)I"⟩ : MethodName)) hown (hw _ (List.mem_of_getElem? (i := 26) rfl)) (hw _ (List.mem_of_getElem? (i := 27) rfl)) (hw _ (List.mem_of_getElem? (i := 28) rfl)) (hw _ (List.mem_of_getElem? (i := 29) rfl)) (by decide) (argsL := [(.double x6), (.ref a1001), (.double x8), (.ref a1004)]) (rest := []) (c_rc0_0 l Z a0 hw [] x6 x8 p0.toInt k5.toInt a1004 d1004 a1001 d1001 cz fv   T1004.heap n0 zs1013 y6 y8 Ea1004 Fv1004 Fc1004 D1004 f1008 SC hcz f1009 f1010 f1011 f1012 SF hfv  ) pd_15 rfl rfl (hb hby at_179) e1004 (by rw [hml]; rfl) (pc' := 182) rfl (by decide) (W := 0) (Nat.le_of_eq rfl) (by decide) (by decide) (by decide) ?_
      intro v1015 T1015 L1015 X1015 hQ1015
      have A1015 := wk X1015 hx hby
      have e1015 : T1015.heap = T1015.heap := rfl
      obtain ⟨z1015, rfl, q1015, N1015, hh1015⟩ := hQ1015
      have e1015 : T1015.heap = T1004.heap := hh1015
      have fr1015 := Fr.app fr1004 N1015
      show Go p e below m (FinH Z consts_1 s h0 room_1.cells room_1.slots (fun v h L => v = some (.int 1) ∧ Fr n0 L)) T1015 182 #[.val (.int p0), .val (.int p1), .val (.int p2), .val (.int p3), .val (.int p4), .val (.int k5), .val (.double x6), .second, .val (.double x8), .second, .val (.int (0 : Int32)), .val (.int (0 : Int32)), .val (.int k12), .val (.int k13), .val (.int k14), .val (.int k15), .val (.ref a1001), .val (.ref a1004), .unset, .unset, .unset] [(.int z1015)]
      refine s_istore A1015 at_182 (pc' := 184) rfl (ls' := #[.val (.int p0), .val (.int p1), .val (.int p2), .val (.int p3), .val (.int p4), .val (.int k5), .val (.double x6), .second, .val (.double x8), .second, .val (.int (0 : Int32)), .val (.int (0 : Int32)), .val (.int k12), .val (.int k13), .val (.int k14), .val (.int k15), .val (.ref a1001), .val (.ref a1004), .val (.int z1015), .unset, .unset]) rfl ?_
      refine s_iload A1015 at_184 (pc' := 186) rfl rfl ?_
      refine s_ifge A1015 at_186 (pY := 193) (pN := 189) (by decide) (by decide) rfl ?_ ?_
      · intro c186
        replace c186 := iz_ge c186
        refine s_iload A1015 at_193 (pc' := 195) rfl rfl ?_
        refine s_ifle A1015 at_195 (pY := 202) (pN := 198) (by decide) (by decide) rfl ?_ ?_
        · intro c195
          replace c195 := iz_le c195
          refine s_iconst A1015 at_202 (pc' := 203) rfl (v := (0 : Int32)) (by decide) ?_
          refine s_istore A1015 at_203 (pc' := 205) rfl (ls' := #[.val (.int p0), .val (.int p1), .val (.int p2), .val (.int p3), .val (.int p4), .val (.int k5), .val (.double x6), .second, .val (.double x8), .second, .val (.int (0 : Int32)), .val (.int (0 : Int32)), .val (.int k12), .val (.int k13), .val (.int k14), .val (.int k15), .val (.ref a1001), .val (.ref a1004), .val (.int z1015), .val (.int (0 : Int32)), .unset]) rfl ?_
          refine s_iloadN A1015 at_205 (pc' := 206) rfl rfl ?_
          refine s_iload A1015 at_206 (pc' := 208) rfl rfl ?_
          refine s_icmple A1015 at_208 (pY := 217) (pN := 211) (by decide) (by decide) rfl ?_ ?_
          · intro c208
            replace c208 := i_le c208
            refine s_iloadN A1015 at_217 (pc' := 218) rfl rfl ?_
            refine s_iload A1015 at_218 (pc' := 220) rfl rfl ?_
            refine s_icmpge A1015 at_220 (pY := 229) (pN := 223) (by decide) (by decide) rfl ?_ ?_
            · intro c220
              replace c220 := i_ge c220
              refine s_iload A1015 at_229 (pc' := 231) rfl rfl ?_
              refine s_iload A1015 at_231 (pc' := 233) rfl rfl ?_
              refine s_iload A1015 at_233 (pc' := 235) rfl rfl ?_
              refine s_iload A1015 at_235 (pc' := 237) rfl rfl ?_
              refine s_iload A1015 at_237 (pc' := 239) rfl rfl ?_
              refine s_iload A1015 at_239 (pc' := 241) rfl rfl ?_
              refine g_static X1015 hx hZ (y := (⟨"com/example/prox2/prox2/format/RunOrderComparePinLaw", "cmp", "(ICCICC)I"⟩ : MethodName)) hown (hw _ (List.mem_of_getElem? (i := 61) rfl)) (hw _ (List.mem_of_getElem? (i := 62) rfl)) (hw _ (List.mem_of_getElem? (i := 2) rfl)) (hw _ (List.mem_of_getElem? (i := 63) rfl)) (by decide) (argsL := [(.int (0 : Int32)), (.int k14), (.int k15), (.int (0 : Int32)), (.int k12), (.int k13)]) (rest := []) (c_ck0_0 l Z a0 hw [] k14 k15 k12 k13 T1004.heap n0 zs1013) pd_16 rfl rfl (hb hby at_241) e1015 (by rw [hml]; rfl) (pc' := 244) rfl (by decide) (W := 0) (Nat.le_of_eq rfl) (by decide) (by decide) (by decide) ?_
              intro v1016 T1016 L1016 X1016 hQ1016
              have A1016 := wk X1016 hx hby
              have e1016 : T1016.heap = T1016.heap := rfl
              obtain ⟨z1016, rfl, q1016, N1016, hh1016⟩ := hQ1016
              have e1016 : T1016.heap = T1004.heap := hh1016
              have fr1016 := Fr.app fr1015 N1016
              show Go p e below m (FinH Z consts_1 s h0 room_1.cells room_1.slots (fun v h L => v = some (.int 1) ∧ Fr n0 L)) T1016 244 #[.val (.int p0), .val (.int p1), .val (.int p2), .val (.int p3), .val (.int p4), .val (.int k5), .val (.double x6), .second, .val (.double x8), .second, .val (.int (0 : Int32)), .val (.int (0 : Int32)), .val (.int k12), .val (.int k13), .val (.int k14), .val (.int k15), .val (.ref a1001), .val (.ref a1004), .val (.int z1015), .val (.int (0 : Int32)), .unset] [(.int z1016)]
              refine s_istore A1016 at_244 (pc' := 246) rfl (ls' := #[.val (.int p0), .val (.int p1), .val (.int p2), .val (.int p3), .val (.int p4), .val (.int k5), .val (.double x6), .second, .val (.double x8), .second, .val (.int (0 : Int32)), .val (.int (0 : Int32)), .val (.int k12), .val (.int k13), .val (.int k14), .val (.int k15), .val (.ref a1001), .val (.ref a1004), .val (.int z1015), .val (.int (0 : Int32)), .val (.int z1016)]) rfl ?_
              refine s_iload A1016 at_246 (pc' := 248) rfl rfl ?_
              refine s_iload A1016 at_248 (pc' := 250) rfl rfl ?_
              refine s_icmpne A1016 at_250 (pY := 257) (pN := 253) (by decide) (by decide) rfl ?_ ?_
              · intro c250
                replace c250 := i_ne c250
                rw [show (0 : Int32).toInt = 0 from by decide] at c250
                refine s_iconst A1016 at_257 (pc' := 258) rfl (v := (0 : Int32)) (by decide) ?_
                exfalso; omega
              · intro c250
                replace c250 := i_eq c250
                rw [show (0 : Int32).toInt = 0 from by decide] at c250
                refine s_iconst A1016 at_253 (pc' := 254) rfl (v := (1 : Int32)) (by decide) ?_
                refine s_goto A1016 at_254 (pc' := 258) (by decide) (by decide) ?_
                exact h_ret X1016 hx hZ hlk hS1004 e1016 (Nat.le_refl _) hEL ch1004 hret rfl (Or.inl ⟨rfl, by simp, _, rfl⟩) (hb hby at_258) ⟨rfl, fr1016⟩ (by decide) (by decide)
            · intro c220
              replace c220 := i_lt c220
              refine s_iconst A1015 at_223 (pc' := 224) rfl (v := (1 : Int32)) (by decide) ?_
              refine s_istore A1015 at_224 (pc' := 226) rfl (ls' := #[.val (.int p0), .val (.int p1), .val (.int p2), .val (.int p3), .val (.int p4), .val (.int k5), .val (.double x6), .second, .val (.double x8), .second, .val (.int (0 : Int32)), .val (.int (0 : Int32)), .val (.int k12), .val (.int k13), .val (.int k14), .val (.int k15), .val (.ref a1001), .val (.ref a1004), .val (.int z1015), .val (.int (0 : Int32)), .val (.int (1 : Int32))]) rfl ?_
              refine s_goto A1015 at_226 (pc' := 246) (by decide) (by decide) ?_
              refine s_iload A1015 at_246 (pc' := 248) rfl rfl ?_
              refine s_iload A1015 at_248 (pc' := 250) rfl rfl ?_
              refine s_icmpne A1015 at_250 (pY := 257) (pN := 253) (by decide) (by decide) rfl (fun _ => ?_) (fun c => absurd c (by decide))
              refine s_iconst A1015 at_257 (pc' := 258) rfl (v := (0 : Int32)) (by decide) ?_
              exfalso; omega
          · intro c208
            replace c208 := i_gt c208
            refine s_iconst A1015 at_211 (pc' := 212) rfl (v := (-1 : Int32)) (by decide) ?_
            refine s_istore A1015 at_212 (pc' := 214) rfl (ls' := #[.val (.int p0), .val (.int p1), .val (.int p2), .val (.int p3), .val (.int p4), .val (.int k5), .val (.double x6), .second, .val (.double x8), .second, .val (.int (0 : Int32)), .val (.int (0 : Int32)), .val (.int k12), .val (.int k13), .val (.int k14), .val (.int k15), .val (.ref a1001), .val (.ref a1004), .val (.int z1015), .val (.int (0 : Int32)), .val (.int (-1 : Int32))]) rfl ?_
            refine s_goto A1015 at_214 (pc' := 246) (by decide) (by decide) ?_
            refine s_iload A1015 at_246 (pc' := 248) rfl rfl ?_
            refine s_iload A1015 at_248 (pc' := 250) rfl rfl ?_
            refine s_icmpne A1015 at_250 (pY := 257) (pN := 253) (by decide) (by decide) rfl (fun _ => ?_) (fun c => absurd c (by decide))
            refine s_iconst A1015 at_257 (pc' := 258) rfl (v := (0 : Int32)) (by decide) ?_
            exfalso; omega
        · intro c195
          replace c195 := iz_gt c195
          refine s_iconst A1015 at_198 (pc' := 199) rfl (v := (1 : Int32)) (by decide) ?_
          refine s_goto A1015 at_199 (pc' := 203) (by decide) (by decide) ?_
          refine s_istore A1015 at_203 (pc' := 205) rfl (ls' := #[.val (.int p0), .val (.int p1), .val (.int p2), .val (.int p3), .val (.int p4), .val (.int k5), .val (.double x6), .second, .val (.double x8), .second, .val (.int (0 : Int32)), .val (.int (0 : Int32)), .val (.int k12), .val (.int k13), .val (.int k14), .val (.int k15), .val (.ref a1001), .val (.ref a1004), .val (.int z1015), .val (.int (1 : Int32)), .unset]) rfl ?_
          refine s_iloadN A1015 at_205 (pc' := 206) rfl rfl ?_
          refine s_iload A1015 at_206 (pc' := 208) rfl rfl ?_
          refine s_icmple A1015 at_208 (pY := 217) (pN := 211) (by decide) (by decide) rfl ?_ ?_
          · intro c208
            replace c208 := i_le c208
            refine s_iloadN A1015 at_217 (pc' := 218) rfl rfl ?_
            refine s_iload A1015 at_218 (pc' := 220) rfl rfl ?_
            refine s_icmpge A1015 at_220 (pY := 229) (pN := 223) (by decide) (by decide) rfl ?_ ?_
            · intro c220
              replace c220 := i_ge c220
              refine s_iload A1015 at_229 (pc' := 231) rfl rfl ?_
              refine s_iload A1015 at_231 (pc' := 233) rfl rfl ?_
              refine s_iload A1015 at_233 (pc' := 235) rfl rfl ?_
              refine s_iload A1015 at_235 (pc' := 237) rfl rfl ?_
              refine s_iload A1015 at_237 (pc' := 239) rfl rfl ?_
              refine s_iload A1015 at_239 (pc' := 241) rfl rfl ?_
              refine g_static X1015 hx hZ (y := (⟨"com/example/prox2/prox2/format/RunOrderComparePinLaw", "cmp", "(ICCICC)I"⟩ : MethodName)) hown (hw _ (List.mem_of_getElem? (i := 61) rfl)) (hw _ (List.mem_of_getElem? (i := 62) rfl)) (hw _ (List.mem_of_getElem? (i := 2) rfl)) (hw _ (List.mem_of_getElem? (i := 63) rfl)) (by decide) (argsL := [(.int (0 : Int32)), (.int k14), (.int k15), (.int (0 : Int32)), (.int k12), (.int k13)]) (rest := []) (c_ck0_0 l Z a0 hw [] k14 k15 k12 k13 T1004.heap n0 zs1013) pd_16 rfl rfl (hb hby at_241) e1015 (by rw [hml]; rfl) (pc' := 244) rfl (by decide) (W := 0) (Nat.le_of_eq rfl) (by decide) (by decide) (by decide) ?_
              intro v1017 T1017 L1017 X1017 hQ1017
              have A1017 := wk X1017 hx hby
              have e1017 : T1017.heap = T1017.heap := rfl
              obtain ⟨z1017, rfl, q1017, N1017, hh1017⟩ := hQ1017
              have e1017 : T1017.heap = T1004.heap := hh1017
              have fr1017 := Fr.app fr1015 N1017
              show Go p e below m (FinH Z consts_1 s h0 room_1.cells room_1.slots (fun v h L => v = some (.int 1) ∧ Fr n0 L)) T1017 244 #[.val (.int p0), .val (.int p1), .val (.int p2), .val (.int p3), .val (.int p4), .val (.int k5), .val (.double x6), .second, .val (.double x8), .second, .val (.int (0 : Int32)), .val (.int (0 : Int32)), .val (.int k12), .val (.int k13), .val (.int k14), .val (.int k15), .val (.ref a1001), .val (.ref a1004), .val (.int z1015), .val (.int (1 : Int32)), .unset] [(.int z1017)]
              refine s_istore A1017 at_244 (pc' := 246) rfl (ls' := #[.val (.int p0), .val (.int p1), .val (.int p2), .val (.int p3), .val (.int p4), .val (.int k5), .val (.double x6), .second, .val (.double x8), .second, .val (.int (0 : Int32)), .val (.int (0 : Int32)), .val (.int k12), .val (.int k13), .val (.int k14), .val (.int k15), .val (.ref a1001), .val (.ref a1004), .val (.int z1015), .val (.int (1 : Int32)), .val (.int z1017)]) rfl ?_
              refine s_iload A1017 at_246 (pc' := 248) rfl rfl ?_
              refine s_iload A1017 at_248 (pc' := 250) rfl rfl ?_
              refine s_icmpne A1017 at_250 (pY := 257) (pN := 253) (by decide) (by decide) rfl ?_ ?_
              · intro c250
                replace c250 := i_ne c250
                rw [show (1 : Int32).toInt = 1 from by decide] at c250
                refine s_iconst A1017 at_257 (pc' := 258) rfl (v := (0 : Int32)) (by decide) ?_
                exfalso; omega
              · intro c250
                replace c250 := i_eq c250
                rw [show (1 : Int32).toInt = 1 from by decide] at c250
                refine s_iconst A1017 at_253 (pc' := 254) rfl (v := (1 : Int32)) (by decide) ?_
                refine s_goto A1017 at_254 (pc' := 258) (by decide) (by decide) ?_
                exact h_ret X1017 hx hZ hlk hS1004 e1017 (Nat.le_refl _) hEL ch1004 hret rfl (Or.inl ⟨rfl, by simp, _, rfl⟩) (hb hby at_258) ⟨rfl, fr1017⟩ (by decide) (by decide)
            · intro c220
              replace c220 := i_lt c220
              refine s_iconst A1015 at_223 (pc' := 224) rfl (v := (1 : Int32)) (by decide) ?_
              refine s_istore A1015 at_224 (pc' := 226) rfl (ls' := #[.val (.int p0), .val (.int p1), .val (.int p2), .val (.int p3), .val (.int p4), .val (.int k5), .val (.double x6), .second, .val (.double x8), .second, .val (.int (0 : Int32)), .val (.int (0 : Int32)), .val (.int k12), .val (.int k13), .val (.int k14), .val (.int k15), .val (.ref a1001), .val (.ref a1004), .val (.int z1015), .val (.int (1 : Int32)), .val (.int (1 : Int32))]) rfl ?_
              refine s_goto A1015 at_226 (pc' := 246) (by decide) (by decide) ?_
              refine s_iload A1015 at_246 (pc' := 248) rfl rfl ?_
              refine s_iload A1015 at_248 (pc' := 250) rfl rfl ?_
              refine s_icmpne A1015 at_250 (pY := 257) (pN := 253) (by decide) (by decide) rfl (fun c => absurd c (by decide)) (fun _ => ?_)
              refine s_iconst A1015 at_253 (pc' := 254) rfl (v := (1 : Int32)) (by decide) ?_
              refine s_goto A1015 at_254 (pc' := 258) (by decide) (by decide) ?_
              exact h_ret X1015 hx hZ hlk hS1004 e1015 (Nat.le_refl _) hEL ch1004 hret rfl (Or.inl ⟨rfl, by simp, _, rfl⟩) (hb hby at_258) ⟨rfl, fr1015⟩ (by decide) (by decide)
          · intro c208
            replace c208 := i_gt c208
            refine s_iconst A1015 at_211 (pc' := 212) rfl (v := (-1 : Int32)) (by decide) ?_
            refine s_istore A1015 at_212 (pc' := 214) rfl (ls' := #[.val (.int p0), .val (.int p1), .val (.int p2), .val (.int p3), .val (.int p4), .val (.int k5), .val (.double x6), .second, .val (.double x8), .second, .val (.int (0 : Int32)), .val (.int (0 : Int32)), .val (.int k12), .val (.int k13), .val (.int k14), .val (.int k15), .val (.ref a1001), .val (.ref a1004), .val (.int z1015), .val (.int (1 : Int32)), .val (.int (-1 : Int32))]) rfl ?_
            refine s_goto A1015 at_214 (pc' := 246) (by decide) (by decide) ?_
            refine s_iload A1015 at_246 (pc' := 248) rfl rfl ?_
            refine s_iload A1015 at_248 (pc' := 250) rfl rfl ?_
            refine s_icmpne A1015 at_250 (pY := 257) (pN := 253) (by decide) (by decide) rfl (fun _ => ?_) (fun c => absurd c (by decide))
            refine s_iconst A1015 at_257 (pc' := 258) rfl (v := (0 : Int32)) (by decide) ?_
            exfalso; omega
      · intro c186
        replace c186 := iz_lt c186
        refine s_iconst A1015 at_189 (pc' := 190) rfl (v := (-1 : Int32)) (by decide) ?_
        refine s_goto A1015 at_190 (pc' := 203) (by decide) (by decide) ?_
        refine s_istore A1015 at_203 (pc' := 205) rfl (ls' := #[.val (.int p0), .val (.int p1), .val (.int p2), .val (.int p3), .val (.int p4), .val (.int k5), .val (.double x6), .second, .val (.double x8), .second, .val (.int (0 : Int32)), .val (.int (0 : Int32)), .val (.int k12), .val (.int k13), .val (.int k14), .val (.int k15), .val (.ref a1001), .val (.ref a1004), .val (.int z1015), .val (.int (-1 : Int32)), .unset]) rfl ?_
        refine s_iloadN A1015 at_205 (pc' := 206) rfl rfl ?_
        refine s_iload A1015 at_206 (pc' := 208) rfl rfl ?_
        refine s_icmple A1015 at_208 (pY := 217) (pN := 211) (by decide) (by decide) rfl ?_ ?_
        · intro c208
          replace c208 := i_le c208
          refine s_iloadN A1015 at_217 (pc' := 218) rfl rfl ?_
          refine s_iload A1015 at_218 (pc' := 220) rfl rfl ?_
          refine s_icmpge A1015 at_220 (pY := 229) (pN := 223) (by decide) (by decide) rfl ?_ ?_
          · intro c220
            replace c220 := i_ge c220
            refine s_iload A1015 at_229 (pc' := 231) rfl rfl ?_
            refine s_iload A1015 at_231 (pc' := 233) rfl rfl ?_
            refine s_iload A1015 at_233 (pc' := 235) rfl rfl ?_
            refine s_iload A1015 at_235 (pc' := 237) rfl rfl ?_
            refine s_iload A1015 at_237 (pc' := 239) rfl rfl ?_
            refine s_iload A1015 at_239 (pc' := 241) rfl rfl ?_
            refine g_static X1015 hx hZ (y := (⟨"com/example/prox2/prox2/format/RunOrderComparePinLaw", "cmp", "(ICCICC)I"⟩ : MethodName)) hown (hw _ (List.mem_of_getElem? (i := 61) rfl)) (hw _ (List.mem_of_getElem? (i := 62) rfl)) (hw _ (List.mem_of_getElem? (i := 2) rfl)) (hw _ (List.mem_of_getElem? (i := 63) rfl)) (by decide) (argsL := [(.int (0 : Int32)), (.int k14), (.int k15), (.int (0 : Int32)), (.int k12), (.int k13)]) (rest := []) (c_ck0_0 l Z a0 hw [] k14 k15 k12 k13 T1004.heap n0 zs1013) pd_16 rfl rfl (hb hby at_241) e1015 (by rw [hml]; rfl) (pc' := 244) rfl (by decide) (W := 0) (Nat.le_of_eq rfl) (by decide) (by decide) (by decide) ?_
            intro v1018 T1018 L1018 X1018 hQ1018
            have A1018 := wk X1018 hx hby
            have e1018 : T1018.heap = T1018.heap := rfl
            obtain ⟨z1018, rfl, q1018, N1018, hh1018⟩ := hQ1018
            have e1018 : T1018.heap = T1004.heap := hh1018
            have fr1018 := Fr.app fr1015 N1018
            show Go p e below m (FinH Z consts_1 s h0 room_1.cells room_1.slots (fun v h L => v = some (.int 1) ∧ Fr n0 L)) T1018 244 #[.val (.int p0), .val (.int p1), .val (.int p2), .val (.int p3), .val (.int p4), .val (.int k5), .val (.double x6), .second, .val (.double x8), .second, .val (.int (0 : Int32)), .val (.int (0 : Int32)), .val (.int k12), .val (.int k13), .val (.int k14), .val (.int k15), .val (.ref a1001), .val (.ref a1004), .val (.int z1015), .val (.int (-1 : Int32)), .unset] [(.int z1018)]
            refine s_istore A1018 at_244 (pc' := 246) rfl (ls' := #[.val (.int p0), .val (.int p1), .val (.int p2), .val (.int p3), .val (.int p4), .val (.int k5), .val (.double x6), .second, .val (.double x8), .second, .val (.int (0 : Int32)), .val (.int (0 : Int32)), .val (.int k12), .val (.int k13), .val (.int k14), .val (.int k15), .val (.ref a1001), .val (.ref a1004), .val (.int z1015), .val (.int (-1 : Int32)), .val (.int z1018)]) rfl ?_
            refine s_iload A1018 at_246 (pc' := 248) rfl rfl ?_
            refine s_iload A1018 at_248 (pc' := 250) rfl rfl ?_
            refine s_icmpne A1018 at_250 (pY := 257) (pN := 253) (by decide) (by decide) rfl ?_ ?_
            · intro c250
              replace c250 := i_ne c250
              rw [show (-1 : Int32).toInt = -1 from by decide] at c250
              refine s_iconst A1018 at_257 (pc' := 258) rfl (v := (0 : Int32)) (by decide) ?_
              exfalso; omega
            · intro c250
              replace c250 := i_eq c250
              rw [show (-1 : Int32).toInt = -1 from by decide] at c250
              refine s_iconst A1018 at_253 (pc' := 254) rfl (v := (1 : Int32)) (by decide) ?_
              refine s_goto A1018 at_254 (pc' := 258) (by decide) (by decide) ?_
              exact h_ret X1018 hx hZ hlk hS1004 e1018 (Nat.le_refl _) hEL ch1004 hret rfl (Or.inl ⟨rfl, by simp, _, rfl⟩) (hb hby at_258) ⟨rfl, fr1018⟩ (by decide) (by decide)
          · intro c220
            replace c220 := i_lt c220
            refine s_iconst A1015 at_223 (pc' := 224) rfl (v := (1 : Int32)) (by decide) ?_
            refine s_istore A1015 at_224 (pc' := 226) rfl (ls' := #[.val (.int p0), .val (.int p1), .val (.int p2), .val (.int p3), .val (.int p4), .val (.int k5), .val (.double x6), .second, .val (.double x8), .second, .val (.int (0 : Int32)), .val (.int (0 : Int32)), .val (.int k12), .val (.int k13), .val (.int k14), .val (.int k15), .val (.ref a1001), .val (.ref a1004), .val (.int z1015), .val (.int (-1 : Int32)), .val (.int (1 : Int32))]) rfl ?_
            refine s_goto A1015 at_226 (pc' := 246) (by decide) (by decide) ?_
            refine s_iload A1015 at_246 (pc' := 248) rfl rfl ?_
            refine s_iload A1015 at_248 (pc' := 250) rfl rfl ?_
            refine s_icmpne A1015 at_250 (pY := 257) (pN := 253) (by decide) (by decide) rfl (fun _ => ?_) (fun c => absurd c (by decide))
            refine s_iconst A1015 at_257 (pc' := 258) rfl (v := (0 : Int32)) (by decide) ?_
            exfalso; omega
        · intro c208
          replace c208 := i_gt c208
          refine s_iconst A1015 at_211 (pc' := 212) rfl (v := (-1 : Int32)) (by decide) ?_
          refine s_istore A1015 at_212 (pc' := 214) rfl (ls' := #[.val (.int p0), .val (.int p1), .val (.int p2), .val (.int p3), .val (.int p4), .val (.int k5), .val (.double x6), .second, .val (.double x8), .second, .val (.int (0 : Int32)), .val (.int (0 : Int32)), .val (.int k12), .val (.int k13), .val (.int k14), .val (.int k15), .val (.ref a1001), .val (.ref a1004), .val (.int z1015), .val (.int (-1 : Int32)), .val (.int (-1 : Int32))]) rfl ?_
          refine s_goto A1015 at_214 (pc' := 246) (by decide) (by decide) ?_
          refine s_iload A1015 at_246 (pc' := 248) rfl rfl ?_
          refine s_iload A1015 at_248 (pc' := 250) rfl rfl ?_
          refine s_icmpne A1015 at_250 (pY := 257) (pN := 253) (by decide) (by decide) rfl (fun c => absurd c (by decide)) (fun _ => ?_)
          refine s_iconst A1015 at_253 (pc' := 254) rfl (v := (1 : Int32)) (by decide) ?_
          refine s_goto A1015 at_254 (pc' := 258) (by decide) (by decide) ?_
          exact h_ret X1015 hx hZ hlk hS1004 e1015 (Nat.le_refl _) hEL ch1004 hret rfl (Or.inl ⟨rfl, by simp, _, rfl⟩) (hb hby at_258) ⟨rfl, fr1015⟩ (by decide) (by decide)
    ·
      refine s_iload A0 at_149 (pc' := 151) rfl rfl ?_
      refine s_iload A0 at_151 (pc' := 153) rfl rfl ?_
      refine s_iload A0 at_153 (pc' := 155) rfl rfl ?_
      refine g_staticH X0 hx hZ (y := (⟨"com/example/prox2/prox2/format/RunOrderComparePinLaw", "make", "(ICC)Ljava/lang/String;"⟩ : MethodName)) hown (hw _ (List.mem_of_getElem? (i := 0) rfl)) (hw _ (List.mem_of_getElem? (i := 1) rfl)) (hw _ (List.mem_of_getElem? (i := 2) rfl)) (hw _ (List.mem_of_getElem? (i := 3) rfl)) (by decide) hS0 (Nat.zero_le _) hEL CH0 (argsL := [(.int (0 : Int32)), (.int k12), (.int k13)]) (rest := []) (c_make_0 l Z a0 hw [] cz k12 k13 h0 n0 Z0 O SC hcz B12 B13 hEL) pd_14 rfl rfl (hb hby at_155) e0 (by rw [hml]; rfl) (pc' := 158) rfl (by decide) (W := 0) (Nat.le_of_eq rfl) (by decide) (by decide) (by decide) ?_
      intro v1019 T1019 L1019 X1019 hS1019 hZ hown ch1019 sx1019 hQ1019
      have A1019 := wk X1019 hx hby
      have e1019 : T1019.heap = T1019.heap := rfl
      obtain ⟨a1019, d1019, rfl, N1019, K1019, Ea1019, Fv1019, Fc1019, D1019⟩ := hQ1019
      have kp1020 := Keep.trans (Keep.refl h0 []) K1019 (fun x hx => absurd hx nin0)
      have fr1019 := Fr.app N0 N1019
      show Go p e below m (FinH Z consts_1 s h0 room_1.cells room_1.slots (fun v h L => v = some (.int 1) ∧ Fr n0 L)) T1019 158 #[.val (.int p0), .val (.int p1), .val (.int p2), .val (.int p3), .val (.int p4), .val (.int k5), .val (.double x6), .second, .val (.double x8), .second, .val (.int (0 : Int32)), .val (.int (1 : Int32)), .val (.int k12), .val (.int k13), .val (.int k14), .val (.int k15), .unset, .unset, .unset, .unset, .unset] [(.ref a1019)]
      refine s_astore A1019 at_158 (pc' := 160) rfl (ls' := #[.val (.int p0), .val (.int p1), .val (.int p2), .val (.int p3), .val (.int p4), .val (.int k5), .val (.double x6), .second, .val (.double x8), .second, .val (.int (0 : Int32)), .val (.int (1 : Int32)), .val (.int k12), .val (.int k13), .val (.int k14), .val (.int k15), .val (.ref a1019), .unset, .unset, .unset, .unset]) rfl rfl ?_
      refine s_iload A1019 at_160 (pc' := 162) rfl rfl ?_
      refine s_iload A1019 at_162 (pc' := 164) rfl rfl ?_
      refine s_iload A1019 at_164 (pc' := 166) rfl rfl ?_
      have f1021 := (Old.keep O K1019 (fun x hx => absurd hx nin0))
      have sz1024 : h0.size ≤ T1019.heap.size := K1019.1
      have zs1023 : n0 ≤ T1019.heap.size := Nat.le_trans Z0 sz1024
      refine g_staticH X1019 hx hZ (y := (⟨"com/example/prox2/prox2/format/RunOrderComparePinLaw", "make", "(ICC)Ljava/lang/String;"⟩ : MethodName)) hown (hw _ (List.mem_of_getElem? (i := 0) rfl)) (hw _ (List.mem_of_getElem? (i := 1) rfl)) (hw _ (List.mem_of_getElem? (i := 2) rfl)) (hw _ (List.mem_of_getElem? (i := 3) rfl)) (by decide) hS1019 (Nat.le_refl _) hEL ch1019 (argsL := [(.int (1 : Int32)), (.int k14), (.int k15)]) (rest := []) (c_make_1 l Z a0 hw [] cz k14 k15 T1019.heap n0 zs1023 f1021 SC hcz B14 B15 hEL) pd_14 rfl rfl (hb hby at_166) e1019 (by rw [hml]; rfl) (pc' := 169) rfl (by decide) (W := 0) (Nat.le_of_eq rfl) (by decide) (by decide) (by decide) ?_
      intro v1022 T1022 L1022 X1022 hS1022 hZ hown ch1022 sx1022 hQ1022
      have A1022 := wk X1022 hx hby
      have e1022 : T1022.heap = T1022.heap := rfl
      obtain ⟨a1022, d1022, rfl, N1022, K1022, Ea1022, Fv1022, Fc1022, D1022⟩ := hQ1022
      have kp1025 := Keep.trans kp1020 K1022 (fun x hx => absurd hx nin0)
      have fr1022 := Fr.app fr1019 N1022
      show Go p e below m (FinH Z consts_1 s h0 room_1.cells room_1.slots (fun v h L => v = some (.int 1) ∧ Fr n0 L)) T1022 169 #[.val (.int p0), .val (.int p1), .val (.int p2), .val (.int p3), .val (.int p4), .val (.int k5), .val (.double x6), .second, .val (.double x8), .second, .val (.int (0 : Int32)), .val (.int (1 : Int32)), .val (.int k12), .val (.int k13), .val (.int k14), .val (.int k15), .val (.ref a1019), .unset, .unset, .unset, .unset] [(.ref a1022)]
      refine s_astore A1022 at_169 (pc' := 171) rfl (ls' := #[.val (.int p0), .val (.int p1), .val (.int p2), .val (.int p3), .val (.int p4), .val (.int k5), .val (.double x6), .second, .val (.double x8), .second, .val (.int (0 : Int32)), .val (.int (1 : Int32)), .val (.int k12), .val (.int k13), .val (.int k14), .val (.int k15), .val (.ref a1019), .val (.ref a1022), .unset, .unset, .unset]) rfl rfl ?_
      refine s_dload A1022 at_171 (pc' := 173) rfl rfl ?_
      refine s_aload A1022 at_173 (pc' := 175) rfl rfl rfl ?_
      refine s_dload A1022 at_175 (pc' := 177) rfl rfl ?_
      refine s_aload A1022 at_177 (pc' := 179) rfl rfl rfl ?_
      have f1026 := (Old.keep f1021 K1022 (fun x hx => absurd hx nin0))
      have f1027 := (Exa.keep Ea1019 K1022)
      have f1028 := (Fld.keep Fv1019 K1022 nin0)
      have f1029 := (Fld.keep Fc1019 K1022 nin0)
      have f1030 := (Ars.keep D1019 K1022 nin0)
      have sz1032 : h0.size ≤ T1022.heap.size := (Nat.le_trans sz1024 K1022.1)
      have zs1031 : n0 ≤ T1022.heap.size := Nat.le_trans Z0 sz1032
      refine g_static X1022 hx hZ (y := (⟨"com/example/prox2/prox2/format/RunOrder", "compare", "(DLjava/lang/String;DLjava/lang/String;)I"⟩ : MethodName)) hown (hw _ (List.mem_of_getElem? (i := 26) rfl)) (hw _ (List.mem_of_getElem? (i := 27) rfl)) (hw _ (List.mem_of_getElem? (i := 28) rfl)) (hw _ (List.mem_of_getElem? (i := 29) rfl)) (by decide) (argsL := [(.double x6), (.ref a1019), (.double x8), (.ref a1022)]) (rest := []) (c_rc1_0 l Z a0 hw [] x6 x8 p0.toInt k5.toInt a1022 d1022 a1019 d1019 cz fv k14  T1022.heap n0 zs1031 y6 y8 Ea1022 Fv1022 Fc1022 D1022 f1026 SC hcz f1027 f1028 f1029 f1030 SF hfv B14 ) pd_15 rfl rfl (hb hby at_179) e1022 (by rw [hml]; rfl) (pc' := 182) rfl (by decide) (W := 0) (Nat.le_of_eq rfl) (by decide) (by decide) (by decide) ?_
      intro v1033 T1033 L1033 X1033 hQ1033
      have A1033 := wk X1033 hx hby
      have e1033 : T1033.heap = T1033.heap := rfl
      obtain ⟨z1033, rfl, q1033, N1033, hh1033⟩ := hQ1033
      have e1033 : T1033.heap = T1022.heap := hh1033
      have fr1033 := Fr.app fr1022 N1033
      show Go p e below m (FinH Z consts_1 s h0 room_1.cells room_1.slots (fun v h L => v = some (.int 1) ∧ Fr n0 L)) T1033 182 #[.val (.int p0), .val (.int p1), .val (.int p2), .val (.int p3), .val (.int p4), .val (.int k5), .val (.double x6), .second, .val (.double x8), .second, .val (.int (0 : Int32)), .val (.int (1 : Int32)), .val (.int k12), .val (.int k13), .val (.int k14), .val (.int k15), .val (.ref a1019), .val (.ref a1022), .unset, .unset, .unset] [(.int z1033)]
      refine s_istore A1033 at_182 (pc' := 184) rfl (ls' := #[.val (.int p0), .val (.int p1), .val (.int p2), .val (.int p3), .val (.int p4), .val (.int k5), .val (.double x6), .second, .val (.double x8), .second, .val (.int (0 : Int32)), .val (.int (1 : Int32)), .val (.int k12), .val (.int k13), .val (.int k14), .val (.int k15), .val (.ref a1019), .val (.ref a1022), .val (.int z1033), .unset, .unset]) rfl ?_
      refine s_iload A1033 at_184 (pc' := 186) rfl rfl ?_
      refine s_ifge A1033 at_186 (pY := 193) (pN := 189) (by decide) (by decide) rfl ?_ ?_
      · intro c186
        replace c186 := iz_ge c186
        refine s_iload A1033 at_193 (pc' := 195) rfl rfl ?_
        refine s_ifle A1033 at_195 (pY := 202) (pN := 198) (by decide) (by decide) rfl ?_ ?_
        · intro c195
          replace c195 := iz_le c195
          refine s_iconst A1033 at_202 (pc' := 203) rfl (v := (0 : Int32)) (by decide) ?_
          refine s_istore A1033 at_203 (pc' := 205) rfl (ls' := #[.val (.int p0), .val (.int p1), .val (.int p2), .val (.int p3), .val (.int p4), .val (.int k5), .val (.double x6), .second, .val (.double x8), .second, .val (.int (0 : Int32)), .val (.int (1 : Int32)), .val (.int k12), .val (.int k13), .val (.int k14), .val (.int k15), .val (.ref a1019), .val (.ref a1022), .val (.int z1033), .val (.int (0 : Int32)), .unset]) rfl ?_
          refine s_iloadN A1033 at_205 (pc' := 206) rfl rfl ?_
          refine s_iload A1033 at_206 (pc' := 208) rfl rfl ?_
          refine s_icmple A1033 at_208 (pY := 217) (pN := 211) (by decide) (by decide) rfl ?_ ?_
          · intro c208
            replace c208 := i_le c208
            refine s_iloadN A1033 at_217 (pc' := 218) rfl rfl ?_
            refine s_iload A1033 at_218 (pc' := 220) rfl rfl ?_
            refine s_icmpge A1033 at_220 (pY := 229) (pN := 223) (by decide) (by decide) rfl ?_ ?_
            · intro c220
              replace c220 := i_ge c220
              refine s_iload A1033 at_229 (pc' := 231) rfl rfl ?_
              refine s_iload A1033 at_231 (pc' := 233) rfl rfl ?_
              refine s_iload A1033 at_233 (pc' := 235) rfl rfl ?_
              refine s_iload A1033 at_235 (pc' := 237) rfl rfl ?_
              refine s_iload A1033 at_237 (pc' := 239) rfl rfl ?_
              refine s_iload A1033 at_239 (pc' := 241) rfl rfl ?_
              refine g_static X1033 hx hZ (y := (⟨"com/example/prox2/prox2/format/RunOrderComparePinLaw", "cmp", "(ICCICC)I"⟩ : MethodName)) hown (hw _ (List.mem_of_getElem? (i := 61) rfl)) (hw _ (List.mem_of_getElem? (i := 62) rfl)) (hw _ (List.mem_of_getElem? (i := 2) rfl)) (hw _ (List.mem_of_getElem? (i := 63) rfl)) (by decide) (argsL := [(.int (1 : Int32)), (.int k14), (.int k15), (.int (0 : Int32)), (.int k12), (.int k13)]) (rest := []) (c_ck1_0 l Z a0 hw [] k14 k15 k12 k13 T1022.heap n0 zs1031) pd_16 rfl rfl (hb hby at_241) e1033 (by rw [hml]; rfl) (pc' := 244) rfl (by decide) (W := 0) (Nat.le_of_eq rfl) (by decide) (by decide) (by decide) ?_
              intro v1034 T1034 L1034 X1034 hQ1034
              have A1034 := wk X1034 hx hby
              have e1034 : T1034.heap = T1034.heap := rfl
              obtain ⟨z1034, rfl, q1034, N1034, hh1034⟩ := hQ1034
              have e1034 : T1034.heap = T1022.heap := hh1034
              have fr1034 := Fr.app fr1033 N1034
              show Go p e below m (FinH Z consts_1 s h0 room_1.cells room_1.slots (fun v h L => v = some (.int 1) ∧ Fr n0 L)) T1034 244 #[.val (.int p0), .val (.int p1), .val (.int p2), .val (.int p3), .val (.int p4), .val (.int k5), .val (.double x6), .second, .val (.double x8), .second, .val (.int (0 : Int32)), .val (.int (1 : Int32)), .val (.int k12), .val (.int k13), .val (.int k14), .val (.int k15), .val (.ref a1019), .val (.ref a1022), .val (.int z1033), .val (.int (0 : Int32)), .unset] [(.int z1034)]
              refine s_istore A1034 at_244 (pc' := 246) rfl (ls' := #[.val (.int p0), .val (.int p1), .val (.int p2), .val (.int p3), .val (.int p4), .val (.int k5), .val (.double x6), .second, .val (.double x8), .second, .val (.int (0 : Int32)), .val (.int (1 : Int32)), .val (.int k12), .val (.int k13), .val (.int k14), .val (.int k15), .val (.ref a1019), .val (.ref a1022), .val (.int z1033), .val (.int (0 : Int32)), .val (.int z1034)]) rfl ?_
              refine s_iload A1034 at_246 (pc' := 248) rfl rfl ?_
              refine s_iload A1034 at_248 (pc' := 250) rfl rfl ?_
              refine s_icmpne A1034 at_250 (pY := 257) (pN := 253) (by decide) (by decide) rfl ?_ ?_
              · intro c250
                replace c250 := i_ne c250
                rw [show (0 : Int32).toInt = 0 from by decide] at c250
                refine s_iconst A1034 at_257 (pc' := 258) rfl (v := (0 : Int32)) (by decide) ?_
                exfalso; omega
              · intro c250
                replace c250 := i_eq c250
                rw [show (0 : Int32).toInt = 0 from by decide] at c250
                refine s_iconst A1034 at_253 (pc' := 254) rfl (v := (1 : Int32)) (by decide) ?_
                refine s_goto A1034 at_254 (pc' := 258) (by decide) (by decide) ?_
                exact h_ret X1034 hx hZ hlk hS1022 e1034 (Nat.le_refl _) hEL ch1022 hret rfl (Or.inl ⟨rfl, by simp, _, rfl⟩) (hb hby at_258) ⟨rfl, fr1034⟩ (by decide) (by decide)
            · intro c220
              replace c220 := i_lt c220
              refine s_iconst A1033 at_223 (pc' := 224) rfl (v := (1 : Int32)) (by decide) ?_
              refine s_istore A1033 at_224 (pc' := 226) rfl (ls' := #[.val (.int p0), .val (.int p1), .val (.int p2), .val (.int p3), .val (.int p4), .val (.int k5), .val (.double x6), .second, .val (.double x8), .second, .val (.int (0 : Int32)), .val (.int (1 : Int32)), .val (.int k12), .val (.int k13), .val (.int k14), .val (.int k15), .val (.ref a1019), .val (.ref a1022), .val (.int z1033), .val (.int (0 : Int32)), .val (.int (1 : Int32))]) rfl ?_
              refine s_goto A1033 at_226 (pc' := 246) (by decide) (by decide) ?_
              refine s_iload A1033 at_246 (pc' := 248) rfl rfl ?_
              refine s_iload A1033 at_248 (pc' := 250) rfl rfl ?_
              refine s_icmpne A1033 at_250 (pY := 257) (pN := 253) (by decide) (by decide) rfl (fun _ => ?_) (fun c => absurd c (by decide))
              refine s_iconst A1033 at_257 (pc' := 258) rfl (v := (0 : Int32)) (by decide) ?_
              exfalso; omega
          · intro c208
            replace c208 := i_gt c208
            refine s_iconst A1033 at_211 (pc' := 212) rfl (v := (-1 : Int32)) (by decide) ?_
            refine s_istore A1033 at_212 (pc' := 214) rfl (ls' := #[.val (.int p0), .val (.int p1), .val (.int p2), .val (.int p3), .val (.int p4), .val (.int k5), .val (.double x6), .second, .val (.double x8), .second, .val (.int (0 : Int32)), .val (.int (1 : Int32)), .val (.int k12), .val (.int k13), .val (.int k14), .val (.int k15), .val (.ref a1019), .val (.ref a1022), .val (.int z1033), .val (.int (0 : Int32)), .val (.int (-1 : Int32))]) rfl ?_
            refine s_goto A1033 at_214 (pc' := 246) (by decide) (by decide) ?_
            refine s_iload A1033 at_246 (pc' := 248) rfl rfl ?_
            refine s_iload A1033 at_248 (pc' := 250) rfl rfl ?_
            refine s_icmpne A1033 at_250 (pY := 257) (pN := 253) (by decide) (by decide) rfl (fun _ => ?_) (fun c => absurd c (by decide))
            refine s_iconst A1033 at_257 (pc' := 258) rfl (v := (0 : Int32)) (by decide) ?_
            exfalso; omega
        · intro c195
          replace c195 := iz_gt c195
          refine s_iconst A1033 at_198 (pc' := 199) rfl (v := (1 : Int32)) (by decide) ?_
          refine s_goto A1033 at_199 (pc' := 203) (by decide) (by decide) ?_
          refine s_istore A1033 at_203 (pc' := 205) rfl (ls' := #[.val (.int p0), .val (.int p1), .val (.int p2), .val (.int p3), .val (.int p4), .val (.int k5), .val (.double x6), .second, .val (.double x8), .second, .val (.int (0 : Int32)), .val (.int (1 : Int32)), .val (.int k12), .val (.int k13), .val (.int k14), .val (.int k15), .val (.ref a1019), .val (.ref a1022), .val (.int z1033), .val (.int (1 : Int32)), .unset]) rfl ?_
          refine s_iloadN A1033 at_205 (pc' := 206) rfl rfl ?_
          refine s_iload A1033 at_206 (pc' := 208) rfl rfl ?_
          refine s_icmple A1033 at_208 (pY := 217) (pN := 211) (by decide) (by decide) rfl ?_ ?_
          · intro c208
            replace c208 := i_le c208
            refine s_iloadN A1033 at_217 (pc' := 218) rfl rfl ?_
            refine s_iload A1033 at_218 (pc' := 220) rfl rfl ?_
            refine s_icmpge A1033 at_220 (pY := 229) (pN := 223) (by decide) (by decide) rfl ?_ ?_
            · intro c220
              replace c220 := i_ge c220
              refine s_iload A1033 at_229 (pc' := 231) rfl rfl ?_
              refine s_iload A1033 at_231 (pc' := 233) rfl rfl ?_
              refine s_iload A1033 at_233 (pc' := 235) rfl rfl ?_
              refine s_iload A1033 at_235 (pc' := 237) rfl rfl ?_
              refine s_iload A1033 at_237 (pc' := 239) rfl rfl ?_
              refine s_iload A1033 at_239 (pc' := 241) rfl rfl ?_
              refine g_static X1033 hx hZ (y := (⟨"com/example/prox2/prox2/format/RunOrderComparePinLaw", "cmp", "(ICCICC)I"⟩ : MethodName)) hown (hw _ (List.mem_of_getElem? (i := 61) rfl)) (hw _ (List.mem_of_getElem? (i := 62) rfl)) (hw _ (List.mem_of_getElem? (i := 2) rfl)) (hw _ (List.mem_of_getElem? (i := 63) rfl)) (by decide) (argsL := [(.int (1 : Int32)), (.int k14), (.int k15), (.int (0 : Int32)), (.int k12), (.int k13)]) (rest := []) (c_ck1_0 l Z a0 hw [] k14 k15 k12 k13 T1022.heap n0 zs1031) pd_16 rfl rfl (hb hby at_241) e1033 (by rw [hml]; rfl) (pc' := 244) rfl (by decide) (W := 0) (Nat.le_of_eq rfl) (by decide) (by decide) (by decide) ?_
              intro v1035 T1035 L1035 X1035 hQ1035
              have A1035 := wk X1035 hx hby
              have e1035 : T1035.heap = T1035.heap := rfl
              obtain ⟨z1035, rfl, q1035, N1035, hh1035⟩ := hQ1035
              have e1035 : T1035.heap = T1022.heap := hh1035
              have fr1035 := Fr.app fr1033 N1035
              show Go p e below m (FinH Z consts_1 s h0 room_1.cells room_1.slots (fun v h L => v = some (.int 1) ∧ Fr n0 L)) T1035 244 #[.val (.int p0), .val (.int p1), .val (.int p2), .val (.int p3), .val (.int p4), .val (.int k5), .val (.double x6), .second, .val (.double x8), .second, .val (.int (0 : Int32)), .val (.int (1 : Int32)), .val (.int k12), .val (.int k13), .val (.int k14), .val (.int k15), .val (.ref a1019), .val (.ref a1022), .val (.int z1033), .val (.int (1 : Int32)), .unset] [(.int z1035)]
              refine s_istore A1035 at_244 (pc' := 246) rfl (ls' := #[.val (.int p0), .val (.int p1), .val (.int p2), .val (.int p3), .val (.int p4), .val (.int k5), .val (.double x6), .second, .val (.double x8), .second, .val (.int (0 : Int32)), .val (.int (1 : Int32)), .val (.int k12), .val (.int k13), .val (.int k14), .val (.int k15), .val (.ref a1019), .val (.ref a1022), .val (.int z1033), .val (.int (1 : Int32)), .val (.int z1035)]) rfl ?_
              refine s_iload A1035 at_246 (pc' := 248) rfl rfl ?_
              refine s_iload A1035 at_248 (pc' := 250) rfl rfl ?_
              refine s_icmpne A1035 at_250 (pY := 257) (pN := 253) (by decide) (by decide) rfl ?_ ?_
              · intro c250
                replace c250 := i_ne c250
                rw [show (1 : Int32).toInt = 1 from by decide] at c250
                refine s_iconst A1035 at_257 (pc' := 258) rfl (v := (0 : Int32)) (by decide) ?_
                exfalso; omega
              · intro c250
                replace c250 := i_eq c250
                rw [show (1 : Int32).toInt = 1 from by decide] at c250
                refine s_iconst A1035 at_253 (pc' := 254) rfl (v := (1 : Int32)) (by decide) ?_
                refine s_goto A1035 at_254 (pc' := 258) (by decide) (by decide) ?_
                exact h_ret X1035 hx hZ hlk hS1022 e1035 (Nat.le_refl _) hEL ch1022 hret rfl (Or.inl ⟨rfl, by simp, _, rfl⟩) (hb hby at_258) ⟨rfl, fr1035⟩ (by decide) (by decide)
            · intro c220
              replace c220 := i_lt c220
              refine s_iconst A1033 at_223 (pc' := 224) rfl (v := (1 : Int32)) (by decide) ?_
              refine s_istore A1033 at_224 (pc' := 226) rfl (ls' := #[.val (.int p0), .val (.int p1), .val (.int p2), .val (.int p3), .val (.int p4), .val (.int k5), .val (.double x6), .second, .val (.double x8), .second, .val (.int (0 : Int32)), .val (.int (1 : Int32)), .val (.int k12), .val (.int k13), .val (.int k14), .val (.int k15), .val (.ref a1019), .val (.ref a1022), .val (.int z1033), .val (.int (1 : Int32)), .val (.int (1 : Int32))]) rfl ?_
              refine s_goto A1033 at_226 (pc' := 246) (by decide) (by decide) ?_
              refine s_iload A1033 at_246 (pc' := 248) rfl rfl ?_
              refine s_iload A1033 at_248 (pc' := 250) rfl rfl ?_
              refine s_icmpne A1033 at_250 (pY := 257) (pN := 253) (by decide) (by decide) rfl (fun c => absurd c (by decide)) (fun _ => ?_)
              refine s_iconst A1033 at_253 (pc' := 254) rfl (v := (1 : Int32)) (by decide) ?_
              refine s_goto A1033 at_254 (pc' := 258) (by decide) (by decide) ?_
              exact h_ret X1033 hx hZ hlk hS1022 e1033 (Nat.le_refl _) hEL ch1022 hret rfl (Or.inl ⟨rfl, by simp, _, rfl⟩) (hb hby at_258) ⟨rfl, fr1033⟩ (by decide) (by decide)
          · intro c208
            replace c208 := i_gt c208
            refine s_iconst A1033 at_211 (pc' := 212) rfl (v := (-1 : Int32)) (by decide) ?_
            refine s_istore A1033 at_212 (pc' := 214) rfl (ls' := #[.val (.int p0), .val (.int p1), .val (.int p2), .val (.int p3), .val (.int p4), .val (.int k5), .val (.double x6), .second, .val (.double x8), .second, .val (.int (0 : Int32)), .val (.int (1 : Int32)), .val (.int k12), .val (.int k13), .val (.int k14), .val (.int k15), .val (.ref a1019), .val (.ref a1022), .val (.int z1033), .val (.int (1 : Int32)), .val (.int (-1 : Int32))]) rfl ?_
            refine s_goto A1033 at_214 (pc' := 246) (by decide) (by decide) ?_
            refine s_iload A1033 at_246 (pc' := 248) rfl rfl ?_
            refine s_iload A1033 at_248 (pc' := 250) rfl rfl ?_
            refine s_icmpne A1033 at_250 (pY := 257) (pN := 253) (by decide) (by decide) rfl (fun _ => ?_) (fun c => absurd c (by decide))
            refine s_iconst A1033 at_257 (pc' := 258) rfl (v := (0 : Int32)) (by decide) ?_
            exfalso; omega
      · intro c186
        replace c186 := iz_lt c186
        refine s_iconst A1033 at_189 (pc' := 190) rfl (v := (-1 : Int32)) (by decide) ?_
        refine s_goto A1033 at_190 (pc' := 203) (by decide) (by decide) ?_
        refine s_istore A1033 at_203 (pc' := 205) rfl (ls' := #[.val (.int p0), .val (.int p1), .val (.int p2), .val (.int p3), .val (.int p4), .val (.int k5), .val (.double x6), .second, .val (.double x8), .second, .val (.int (0 : Int32)), .val (.int (1 : Int32)), .val (.int k12), .val (.int k13), .val (.int k14), .val (.int k15), .val (.ref a1019), .val (.ref a1022), .val (.int z1033), .val (.int (-1 : Int32)), .unset]) rfl ?_
        refine s_iloadN A1033 at_205 (pc' := 206) rfl rfl ?_
        refine s_iload A1033 at_206 (pc' := 208) rfl rfl ?_
        refine s_icmple A1033 at_208 (pY := 217) (pN := 211) (by decide) (by decide) rfl ?_ ?_
        · intro c208
          replace c208 := i_le c208
          refine s_iloadN A1033 at_217 (pc' := 218) rfl rfl ?_
          refine s_iload A1033 at_218 (pc' := 220) rfl rfl ?_
          refine s_icmpge A1033 at_220 (pY := 229) (pN := 223) (by decide) (by decide) rfl ?_ ?_
          · intro c220
            replace c220 := i_ge c220
            refine s_iload A1033 at_229 (pc' := 231) rfl rfl ?_
            refine s_iload A1033 at_231 (pc' := 233) rfl rfl ?_
            refine s_iload A1033 at_233 (pc' := 235) rfl rfl ?_
            refine s_iload A1033 at_235 (pc' := 237) rfl rfl ?_
            refine s_iload A1033 at_237 (pc' := 239) rfl rfl ?_
            refine s_iload A1033 at_239 (pc' := 241) rfl rfl ?_
            refine g_static X1033 hx hZ (y := (⟨"com/example/prox2/prox2/format/RunOrderComparePinLaw", "cmp", "(ICCICC)I"⟩ : MethodName)) hown (hw _ (List.mem_of_getElem? (i := 61) rfl)) (hw _ (List.mem_of_getElem? (i := 62) rfl)) (hw _ (List.mem_of_getElem? (i := 2) rfl)) (hw _ (List.mem_of_getElem? (i := 63) rfl)) (by decide) (argsL := [(.int (1 : Int32)), (.int k14), (.int k15), (.int (0 : Int32)), (.int k12), (.int k13)]) (rest := []) (c_ck1_0 l Z a0 hw [] k14 k15 k12 k13 T1022.heap n0 zs1031) pd_16 rfl rfl (hb hby at_241) e1033 (by rw [hml]; rfl) (pc' := 244) rfl (by decide) (W := 0) (Nat.le_of_eq rfl) (by decide) (by decide) (by decide) ?_
            intro v1036 T1036 L1036 X1036 hQ1036
            have A1036 := wk X1036 hx hby
            have e1036 : T1036.heap = T1036.heap := rfl
            obtain ⟨z1036, rfl, q1036, N1036, hh1036⟩ := hQ1036
            have e1036 : T1036.heap = T1022.heap := hh1036
            have fr1036 := Fr.app fr1033 N1036
            show Go p e below m (FinH Z consts_1 s h0 room_1.cells room_1.slots (fun v h L => v = some (.int 1) ∧ Fr n0 L)) T1036 244 #[.val (.int p0), .val (.int p1), .val (.int p2), .val (.int p3), .val (.int p4), .val (.int k5), .val (.double x6), .second, .val (.double x8), .second, .val (.int (0 : Int32)), .val (.int (1 : Int32)), .val (.int k12), .val (.int k13), .val (.int k14), .val (.int k15), .val (.ref a1019), .val (.ref a1022), .val (.int z1033), .val (.int (-1 : Int32)), .unset] [(.int z1036)]
            refine s_istore A1036 at_244 (pc' := 246) rfl (ls' := #[.val (.int p0), .val (.int p1), .val (.int p2), .val (.int p3), .val (.int p4), .val (.int k5), .val (.double x6), .second, .val (.double x8), .second, .val (.int (0 : Int32)), .val (.int (1 : Int32)), .val (.int k12), .val (.int k13), .val (.int k14), .val (.int k15), .val (.ref a1019), .val (.ref a1022), .val (.int z1033), .val (.int (-1 : Int32)), .val (.int z1036)]) rfl ?_
            refine s_iload A1036 at_246 (pc' := 248) rfl rfl ?_
            refine s_iload A1036 at_248 (pc' := 250) rfl rfl ?_
            refine s_icmpne A1036 at_250 (pY := 257) (pN := 253) (by decide) (by decide) rfl ?_ ?_
            · intro c250
              replace c250 := i_ne c250
              rw [show (-1 : Int32).toInt = -1 from by decide] at c250
              refine s_iconst A1036 at_257 (pc' := 258) rfl (v := (0 : Int32)) (by decide) ?_
              exfalso; omega
            · intro c250
              replace c250 := i_eq c250
              rw [show (-1 : Int32).toInt = -1 from by decide] at c250
              refine s_iconst A1036 at_253 (pc' := 254) rfl (v := (1 : Int32)) (by decide) ?_
              refine s_goto A1036 at_254 (pc' := 258) (by decide) (by decide) ?_
              exact h_ret X1036 hx hZ hlk hS1022 e1036 (Nat.le_refl _) hEL ch1022 hret rfl (Or.inl ⟨rfl, by simp, _, rfl⟩) (hb hby at_258) ⟨rfl, fr1036⟩ (by decide) (by decide)
          · intro c220
            replace c220 := i_lt c220
            refine s_iconst A1033 at_223 (pc' := 224) rfl (v := (1 : Int32)) (by decide) ?_
            refine s_istore A1033 at_224 (pc' := 226) rfl (ls' := #[.val (.int p0), .val (.int p1), .val (.int p2), .val (.int p3), .val (.int p4), .val (.int k5), .val (.double x6), .second, .val (.double x8), .second, .val (.int (0 : Int32)), .val (.int (1 : Int32)), .val (.int k12), .val (.int k13), .val (.int k14), .val (.int k15), .val (.ref a1019), .val (.ref a1022), .val (.int z1033), .val (.int (-1 : Int32)), .val (.int (1 : Int32))]) rfl ?_
            refine s_goto A1033 at_226 (pc' := 246) (by decide) (by decide) ?_
            refine s_iload A1033 at_246 (pc' := 248) rfl rfl ?_
            refine s_iload A1033 at_248 (pc' := 250) rfl rfl ?_
            refine s_icmpne A1033 at_250 (pY := 257) (pN := 253) (by decide) (by decide) rfl (fun _ => ?_) (fun c => absurd c (by decide))
            refine s_iconst A1033 at_257 (pc' := 258) rfl (v := (0 : Int32)) (by decide) ?_
            exfalso; omega
        · intro c208
          replace c208 := i_gt c208
          refine s_iconst A1033 at_211 (pc' := 212) rfl (v := (-1 : Int32)) (by decide) ?_
          refine s_istore A1033 at_212 (pc' := 214) rfl (ls' := #[.val (.int p0), .val (.int p1), .val (.int p2), .val (.int p3), .val (.int p4), .val (.int k5), .val (.double x6), .second, .val (.double x8), .second, .val (.int (0 : Int32)), .val (.int (1 : Int32)), .val (.int k12), .val (.int k13), .val (.int k14), .val (.int k15), .val (.ref a1019), .val (.ref a1022), .val (.int z1033), .val (.int (-1 : Int32)), .val (.int (-1 : Int32))]) rfl ?_
          refine s_goto A1033 at_214 (pc' := 246) (by decide) (by decide) ?_
          refine s_iload A1033 at_246 (pc' := 248) rfl rfl ?_
          refine s_iload A1033 at_248 (pc' := 250) rfl rfl ?_
          refine s_icmpne A1033 at_250 (pY := 257) (pN := 253) (by decide) (by decide) rfl (fun c => absurd c (by decide)) (fun _ => ?_)
          refine s_iconst A1033 at_253 (pc' := 254) rfl (v := (1 : Int32)) (by decide) ?_
          refine s_goto A1033 at_254 (pc' := 258) (by decide) (by decide) ?_
          exact h_ret X1033 hx hZ hlk hS1022 e1033 (Nat.le_refl _) hEL ch1022 hret rfl (Or.inl ⟨rfl, by simp, _, rfl⟩) (hb hby at_258) ⟨rfl, fr1033⟩ (by decide) (by decide)
    ·
      refine s_iload A0 at_149 (pc' := 151) rfl rfl ?_
      refine s_iload A0 at_151 (pc' := 153) rfl rfl ?_
      refine s_iload A0 at_153 (pc' := 155) rfl rfl ?_
      refine g_staticH X0 hx hZ (y := (⟨"com/example/prox2/prox2/format/RunOrderComparePinLaw", "make", "(ICC)Ljava/lang/String;"⟩ : MethodName)) hown (hw _ (List.mem_of_getElem? (i := 0) rfl)) (hw _ (List.mem_of_getElem? (i := 1) rfl)) (hw _ (List.mem_of_getElem? (i := 2) rfl)) (hw _ (List.mem_of_getElem? (i := 3) rfl)) (by decide) hS0 (Nat.zero_le _) hEL CH0 (argsL := [(.int (0 : Int32)), (.int k12), (.int k13)]) (rest := []) (c_make_0 l Z a0 hw [] cz k12 k13 h0 n0 Z0 O SC hcz B12 B13 hEL) pd_14 rfl rfl (hb hby at_155) e0 (by rw [hml]; rfl) (pc' := 158) rfl (by decide) (W := 0) (Nat.le_of_eq rfl) (by decide) (by decide) (by decide) ?_
      intro v1037 T1037 L1037 X1037 hS1037 hZ hown ch1037 sx1037 hQ1037
      have A1037 := wk X1037 hx hby
      have e1037 : T1037.heap = T1037.heap := rfl
      obtain ⟨a1037, d1037, rfl, N1037, K1037, Ea1037, Fv1037, Fc1037, D1037⟩ := hQ1037
      have kp1038 := Keep.trans (Keep.refl h0 []) K1037 (fun x hx => absurd hx nin0)
      have fr1037 := Fr.app N0 N1037
      show Go p e below m (FinH Z consts_1 s h0 room_1.cells room_1.slots (fun v h L => v = some (.int 1) ∧ Fr n0 L)) T1037 158 #[.val (.int p0), .val (.int p1), .val (.int p2), .val (.int p3), .val (.int p4), .val (.int k5), .val (.double x6), .second, .val (.double x8), .second, .val (.int (0 : Int32)), .val (.int (2 : Int32)), .val (.int k12), .val (.int k13), .val (.int k14), .val (.int k15), .unset, .unset, .unset, .unset, .unset] [(.ref a1037)]
      refine s_astore A1037 at_158 (pc' := 160) rfl (ls' := #[.val (.int p0), .val (.int p1), .val (.int p2), .val (.int p3), .val (.int p4), .val (.int k5), .val (.double x6), .second, .val (.double x8), .second, .val (.int (0 : Int32)), .val (.int (2 : Int32)), .val (.int k12), .val (.int k13), .val (.int k14), .val (.int k15), .val (.ref a1037), .unset, .unset, .unset, .unset]) rfl rfl ?_
      refine s_iload A1037 at_160 (pc' := 162) rfl rfl ?_
      refine s_iload A1037 at_162 (pc' := 164) rfl rfl ?_
      refine s_iload A1037 at_164 (pc' := 166) rfl rfl ?_
      have f1039 := (Old.keep O K1037 (fun x hx => absurd hx nin0))
      have sz1042 : h0.size ≤ T1037.heap.size := K1037.1
      have zs1041 : n0 ≤ T1037.heap.size := Nat.le_trans Z0 sz1042
      refine g_staticH X1037 hx hZ (y := (⟨"com/example/prox2/prox2/format/RunOrderComparePinLaw", "make", "(ICC)Ljava/lang/String;"⟩ : MethodName)) hown (hw _ (List.mem_of_getElem? (i := 0) rfl)) (hw _ (List.mem_of_getElem? (i := 1) rfl)) (hw _ (List.mem_of_getElem? (i := 2) rfl)) (hw _ (List.mem_of_getElem? (i := 3) rfl)) (by decide) hS1037 (Nat.le_refl _) hEL ch1037 (argsL := [(.int (2 : Int32)), (.int k14), (.int k15)]) (rest := []) (c_make_2 l Z a0 hw [] cz k14 k15 T1037.heap n0 zs1041 f1039 SC hcz B14 B15 hEL) pd_14 rfl rfl (hb hby at_166) e1037 (by rw [hml]; rfl) (pc' := 169) rfl (by decide) (W := 0) (Nat.le_of_eq rfl) (by decide) (by decide) (by decide) ?_
      intro v1040 T1040 L1040 X1040 hS1040 hZ hown ch1040 sx1040 hQ1040
      have A1040 := wk X1040 hx hby
      have e1040 : T1040.heap = T1040.heap := rfl
      obtain ⟨a1040, d1040, rfl, N1040, K1040, Ea1040, Fv1040, Fc1040, D1040⟩ := hQ1040
      have kp1043 := Keep.trans kp1038 K1040 (fun x hx => absurd hx nin0)
      have fr1040 := Fr.app fr1037 N1040
      show Go p e below m (FinH Z consts_1 s h0 room_1.cells room_1.slots (fun v h L => v = some (.int 1) ∧ Fr n0 L)) T1040 169 #[.val (.int p0), .val (.int p1), .val (.int p2), .val (.int p3), .val (.int p4), .val (.int k5), .val (.double x6), .second, .val (.double x8), .second, .val (.int (0 : Int32)), .val (.int (2 : Int32)), .val (.int k12), .val (.int k13), .val (.int k14), .val (.int k15), .val (.ref a1037), .unset, .unset, .unset, .unset] [(.ref a1040)]
      refine s_astore A1040 at_169 (pc' := 171) rfl (ls' := #[.val (.int p0), .val (.int p1), .val (.int p2), .val (.int p3), .val (.int p4), .val (.int k5), .val (.double x6), .second, .val (.double x8), .second, .val (.int (0 : Int32)), .val (.int (2 : Int32)), .val (.int k12), .val (.int k13), .val (.int k14), .val (.int k15), .val (.ref a1037), .val (.ref a1040), .unset, .unset, .unset]) rfl rfl ?_
      refine s_dload A1040 at_171 (pc' := 173) rfl rfl ?_
      refine s_aload A1040 at_173 (pc' := 175) rfl rfl rfl ?_
      refine s_dload A1040 at_175 (pc' := 177) rfl rfl ?_
      refine s_aload A1040 at_177 (pc' := 179) rfl rfl rfl ?_
      have f1044 := (Old.keep f1039 K1040 (fun x hx => absurd hx nin0))
      have f1045 := (Exa.keep Ea1037 K1040)
      have f1046 := (Fld.keep Fv1037 K1040 nin0)
      have f1047 := (Fld.keep Fc1037 K1040 nin0)
      have f1048 := (Ars.keep D1037 K1040 nin0)
      have sz1050 : h0.size ≤ T1040.heap.size := (Nat.le_trans sz1042 K1040.1)
      have zs1049 : n0 ≤ T1040.heap.size := Nat.le_trans Z0 sz1050
      refine g_static X1040 hx hZ (y := (⟨"com/example/prox2/prox2/format/RunOrder", "compare", "(DLjava/lang/String;DLjava/lang/String;)I"⟩ : MethodName)) hown (hw _ (List.mem_of_getElem? (i := 26) rfl)) (hw _ (List.mem_of_getElem? (i := 27) rfl)) (hw _ (List.mem_of_getElem? (i := 28) rfl)) (hw _ (List.mem_of_getElem? (i := 29) rfl)) (by decide) (argsL := [(.double x6), (.ref a1037), (.double x8), (.ref a1040)]) (rest := []) (c_rc2_0 l Z a0 hw [] x6 x8 p0.toInt k5.toInt a1040 d1040 a1037 d1037 cz fv k14 k15  T1040.heap n0 zs1049 y6 y8 Ea1040 Fv1040 Fc1040 D1040 f1044 SC hcz f1045 f1046 f1047 f1048 SF hfv B14 B15 ) pd_15 rfl rfl (hb hby at_179) e1040 (by rw [hml]; rfl) (pc' := 182) rfl (by decide) (W := 0) (Nat.le_of_eq rfl) (by decide) (by decide) (by decide) ?_
      intro v1051 T1051 L1051 X1051 hQ1051
      have A1051 := wk X1051 hx hby
      have e1051 : T1051.heap = T1051.heap := rfl
      obtain ⟨z1051, rfl, q1051, N1051, hh1051⟩ := hQ1051
      have e1051 : T1051.heap = T1040.heap := hh1051
      have fr1051 := Fr.app fr1040 N1051
      show Go p e below m (FinH Z consts_1 s h0 room_1.cells room_1.slots (fun v h L => v = some (.int 1) ∧ Fr n0 L)) T1051 182 #[.val (.int p0), .val (.int p1), .val (.int p2), .val (.int p3), .val (.int p4), .val (.int k5), .val (.double x6), .second, .val (.double x8), .second, .val (.int (0 : Int32)), .val (.int (2 : Int32)), .val (.int k12), .val (.int k13), .val (.int k14), .val (.int k15), .val (.ref a1037), .val (.ref a1040), .unset, .unset, .unset] [(.int z1051)]
      refine s_istore A1051 at_182 (pc' := 184) rfl (ls' := #[.val (.int p0), .val (.int p1), .val (.int p2), .val (.int p3), .val (.int p4), .val (.int k5), .val (.double x6), .second, .val (.double x8), .second, .val (.int (0 : Int32)), .val (.int (2 : Int32)), .val (.int k12), .val (.int k13), .val (.int k14), .val (.int k15), .val (.ref a1037), .val (.ref a1040), .val (.int z1051), .unset, .unset]) rfl ?_
      refine s_iload A1051 at_184 (pc' := 186) rfl rfl ?_
      refine s_ifge A1051 at_186 (pY := 193) (pN := 189) (by decide) (by decide) rfl ?_ ?_
      · intro c186
        replace c186 := iz_ge c186
        refine s_iload A1051 at_193 (pc' := 195) rfl rfl ?_
        refine s_ifle A1051 at_195 (pY := 202) (pN := 198) (by decide) (by decide) rfl ?_ ?_
        · intro c195
          replace c195 := iz_le c195
          refine s_iconst A1051 at_202 (pc' := 203) rfl (v := (0 : Int32)) (by decide) ?_
          refine s_istore A1051 at_203 (pc' := 205) rfl (ls' := #[.val (.int p0), .val (.int p1), .val (.int p2), .val (.int p3), .val (.int p4), .val (.int k5), .val (.double x6), .second, .val (.double x8), .second, .val (.int (0 : Int32)), .val (.int (2 : Int32)), .val (.int k12), .val (.int k13), .val (.int k14), .val (.int k15), .val (.ref a1037), .val (.ref a1040), .val (.int z1051), .val (.int (0 : Int32)), .unset]) rfl ?_
          refine s_iloadN A1051 at_205 (pc' := 206) rfl rfl ?_
          refine s_iload A1051 at_206 (pc' := 208) rfl rfl ?_
          refine s_icmple A1051 at_208 (pY := 217) (pN := 211) (by decide) (by decide) rfl ?_ ?_
          · intro c208
            replace c208 := i_le c208
            refine s_iloadN A1051 at_217 (pc' := 218) rfl rfl ?_
            refine s_iload A1051 at_218 (pc' := 220) rfl rfl ?_
            refine s_icmpge A1051 at_220 (pY := 229) (pN := 223) (by decide) (by decide) rfl ?_ ?_
            · intro c220
              replace c220 := i_ge c220
              refine s_iload A1051 at_229 (pc' := 231) rfl rfl ?_
              refine s_iload A1051 at_231 (pc' := 233) rfl rfl ?_
              refine s_iload A1051 at_233 (pc' := 235) rfl rfl ?_
              refine s_iload A1051 at_235 (pc' := 237) rfl rfl ?_
              refine s_iload A1051 at_237 (pc' := 239) rfl rfl ?_
              refine s_iload A1051 at_239 (pc' := 241) rfl rfl ?_
              refine g_static X1051 hx hZ (y := (⟨"com/example/prox2/prox2/format/RunOrderComparePinLaw", "cmp", "(ICCICC)I"⟩ : MethodName)) hown (hw _ (List.mem_of_getElem? (i := 61) rfl)) (hw _ (List.mem_of_getElem? (i := 62) rfl)) (hw _ (List.mem_of_getElem? (i := 2) rfl)) (hw _ (List.mem_of_getElem? (i := 63) rfl)) (by decide) (argsL := [(.int (2 : Int32)), (.int k14), (.int k15), (.int (0 : Int32)), (.int k12), (.int k13)]) (rest := []) (c_ck2_0 l Z a0 hw [] k14 k15 k12 k13 T1040.heap n0 zs1049) pd_16 rfl rfl (hb hby at_241) e1051 (by rw [hml]; rfl) (pc' := 244) rfl (by decide) (W := 0) (Nat.le_of_eq rfl) (by decide) (by decide) (by decide) ?_
              intro v1052 T1052 L1052 X1052 hQ1052
              have A1052 := wk X1052 hx hby
              have e1052 : T1052.heap = T1052.heap := rfl
              obtain ⟨z1052, rfl, q1052, N1052, hh1052⟩ := hQ1052
              have e1052 : T1052.heap = T1040.heap := hh1052
              have fr1052 := Fr.app fr1051 N1052
              show Go p e below m (FinH Z consts_1 s h0 room_1.cells room_1.slots (fun v h L => v = some (.int 1) ∧ Fr n0 L)) T1052 244 #[.val (.int p0), .val (.int p1), .val (.int p2), .val (.int p3), .val (.int p4), .val (.int k5), .val (.double x6), .second, .val (.double x8), .second, .val (.int (0 : Int32)), .val (.int (2 : Int32)), .val (.int k12), .val (.int k13), .val (.int k14), .val (.int k15), .val (.ref a1037), .val (.ref a1040), .val (.int z1051), .val (.int (0 : Int32)), .unset] [(.int z1052)]
              refine s_istore A1052 at_244 (pc' := 246) rfl (ls' := #[.val (.int p0), .val (.int p1), .val (.int p2), .val (.int p3), .val (.int p4), .val (.int k5), .val (.double x6), .second, .val (.double x8), .second, .val (.int (0 : Int32)), .val (.int (2 : Int32)), .val (.int k12), .val (.int k13), .val (.int k14), .val (.int k15), .val (.ref a1037), .val (.ref a1040), .val (.int z1051), .val (.int (0 : Int32)), .val (.int z1052)]) rfl ?_
              refine s_iload A1052 at_246 (pc' := 248) rfl rfl ?_
              refine s_iload A1052 at_248 (pc' := 250) rfl rfl ?_
              refine s_icmpne A1052 at_250 (pY := 257) (pN := 253) (by decide) (by decide) rfl ?_ ?_
              · intro c250
                replace c250 := i_ne c250
                rw [show (0 : Int32).toInt = 0 from by decide] at c250
                refine s_iconst A1052 at_257 (pc' := 258) rfl (v := (0 : Int32)) (by decide) ?_
                exfalso; omega
              · intro c250
                replace c250 := i_eq c250
                rw [show (0 : Int32).toInt = 0 from by decide] at c250
                refine s_iconst A1052 at_253 (pc' := 254) rfl (v := (1 : Int32)) (by decide) ?_
                refine s_goto A1052 at_254 (pc' := 258) (by decide) (by decide) ?_
                exact h_ret X1052 hx hZ hlk hS1040 e1052 (Nat.le_refl _) hEL ch1040 hret rfl (Or.inl ⟨rfl, by simp, _, rfl⟩) (hb hby at_258) ⟨rfl, fr1052⟩ (by decide) (by decide)
            · intro c220
              replace c220 := i_lt c220
              refine s_iconst A1051 at_223 (pc' := 224) rfl (v := (1 : Int32)) (by decide) ?_
              refine s_istore A1051 at_224 (pc' := 226) rfl (ls' := #[.val (.int p0), .val (.int p1), .val (.int p2), .val (.int p3), .val (.int p4), .val (.int k5), .val (.double x6), .second, .val (.double x8), .second, .val (.int (0 : Int32)), .val (.int (2 : Int32)), .val (.int k12), .val (.int k13), .val (.int k14), .val (.int k15), .val (.ref a1037), .val (.ref a1040), .val (.int z1051), .val (.int (0 : Int32)), .val (.int (1 : Int32))]) rfl ?_
              refine s_goto A1051 at_226 (pc' := 246) (by decide) (by decide) ?_
              refine s_iload A1051 at_246 (pc' := 248) rfl rfl ?_
              refine s_iload A1051 at_248 (pc' := 250) rfl rfl ?_
              refine s_icmpne A1051 at_250 (pY := 257) (pN := 253) (by decide) (by decide) rfl (fun _ => ?_) (fun c => absurd c (by decide))
              refine s_iconst A1051 at_257 (pc' := 258) rfl (v := (0 : Int32)) (by decide) ?_
              exfalso; omega
          · intro c208
            replace c208 := i_gt c208
            refine s_iconst A1051 at_211 (pc' := 212) rfl (v := (-1 : Int32)) (by decide) ?_
            refine s_istore A1051 at_212 (pc' := 214) rfl (ls' := #[.val (.int p0), .val (.int p1), .val (.int p2), .val (.int p3), .val (.int p4), .val (.int k5), .val (.double x6), .second, .val (.double x8), .second, .val (.int (0 : Int32)), .val (.int (2 : Int32)), .val (.int k12), .val (.int k13), .val (.int k14), .val (.int k15), .val (.ref a1037), .val (.ref a1040), .val (.int z1051), .val (.int (0 : Int32)), .val (.int (-1 : Int32))]) rfl ?_
            refine s_goto A1051 at_214 (pc' := 246) (by decide) (by decide) ?_
            refine s_iload A1051 at_246 (pc' := 248) rfl rfl ?_
            refine s_iload A1051 at_248 (pc' := 250) rfl rfl ?_
            refine s_icmpne A1051 at_250 (pY := 257) (pN := 253) (by decide) (by decide) rfl (fun _ => ?_) (fun c => absurd c (by decide))
            refine s_iconst A1051 at_257 (pc' := 258) rfl (v := (0 : Int32)) (by decide) ?_
            exfalso; omega
        · intro c195
          replace c195 := iz_gt c195
          refine s_iconst A1051 at_198 (pc' := 199) rfl (v := (1 : Int32)) (by decide) ?_
          refine s_goto A1051 at_199 (pc' := 203) (by decide) (by decide) ?_
          refine s_istore A1051 at_203 (pc' := 205) rfl (ls' := #[.val (.int p0), .val (.int p1), .val (.int p2), .val (.int p3), .val (.int p4), .val (.int k5), .val (.double x6), .second, .val (.double x8), .second, .val (.int (0 : Int32)), .val (.int (2 : Int32)), .val (.int k12), .val (.int k13), .val (.int k14), .val (.int k15), .val (.ref a1037), .val (.ref a1040), .val (.int z1051), .val (.int (1 : Int32)), .unset]) rfl ?_
          refine s_iloadN A1051 at_205 (pc' := 206) rfl rfl ?_
          refine s_iload A1051 at_206 (pc' := 208) rfl rfl ?_
          refine s_icmple A1051 at_208 (pY := 217) (pN := 211) (by decide) (by decide) rfl ?_ ?_
          · intro c208
            replace c208 := i_le c208
            refine s_iloadN A1051 at_217 (pc' := 218) rfl rfl ?_
            refine s_iload A1051 at_218 (pc' := 220) rfl rfl ?_
            refine s_icmpge A1051 at_220 (pY := 229) (pN := 223) (by decide) (by decide) rfl ?_ ?_
            · intro c220
              replace c220 := i_ge c220
              refine s_iload A1051 at_229 (pc' := 231) rfl rfl ?_
              refine s_iload A1051 at_231 (pc' := 233) rfl rfl ?_
              refine s_iload A1051 at_233 (pc' := 235) rfl rfl ?_
              refine s_iload A1051 at_235 (pc' := 237) rfl rfl ?_
              refine s_iload A1051 at_237 (pc' := 239) rfl rfl ?_
              refine s_iload A1051 at_239 (pc' := 241) rfl rfl ?_
              refine g_static X1051 hx hZ (y := (⟨"com/example/prox2/prox2/format/RunOrderComparePinLaw", "cmp", "(ICCICC)I"⟩ : MethodName)) hown (hw _ (List.mem_of_getElem? (i := 61) rfl)) (hw _ (List.mem_of_getElem? (i := 62) rfl)) (hw _ (List.mem_of_getElem? (i := 2) rfl)) (hw _ (List.mem_of_getElem? (i := 63) rfl)) (by decide) (argsL := [(.int (2 : Int32)), (.int k14), (.int k15), (.int (0 : Int32)), (.int k12), (.int k13)]) (rest := []) (c_ck2_0 l Z a0 hw [] k14 k15 k12 k13 T1040.heap n0 zs1049) pd_16 rfl rfl (hb hby at_241) e1051 (by rw [hml]; rfl) (pc' := 244) rfl (by decide) (W := 0) (Nat.le_of_eq rfl) (by decide) (by decide) (by decide) ?_
              intro v1053 T1053 L1053 X1053 hQ1053
              have A1053 := wk X1053 hx hby
              have e1053 : T1053.heap = T1053.heap := rfl
              obtain ⟨z1053, rfl, q1053, N1053, hh1053⟩ := hQ1053
              have e1053 : T1053.heap = T1040.heap := hh1053
              have fr1053 := Fr.app fr1051 N1053
              show Go p e below m (FinH Z consts_1 s h0 room_1.cells room_1.slots (fun v h L => v = some (.int 1) ∧ Fr n0 L)) T1053 244 #[.val (.int p0), .val (.int p1), .val (.int p2), .val (.int p3), .val (.int p4), .val (.int k5), .val (.double x6), .second, .val (.double x8), .second, .val (.int (0 : Int32)), .val (.int (2 : Int32)), .val (.int k12), .val (.int k13), .val (.int k14), .val (.int k15), .val (.ref a1037), .val (.ref a1040), .val (.int z1051), .val (.int (1 : Int32)), .unset] [(.int z1053)]
              refine s_istore A1053 at_244 (pc' := 246) rfl (ls' := #[.val (.int p0), .val (.int p1), .val (.int p2), .val (.int p3), .val (.int p4), .val (.int k5), .val (.double x6), .second, .val (.double x8), .second, .val (.int (0 : Int32)), .val (.int (2 : Int32)), .val (.int k12), .val (.int k13), .val (.int k14), .val (.int k15), .val (.ref a1037), .val (.ref a1040), .val (.int z1051), .val (.int (1 : Int32)), .val (.int z1053)]) rfl ?_
              refine s_iload A1053 at_246 (pc' := 248) rfl rfl ?_
              refine s_iload A1053 at_248 (pc' := 250) rfl rfl ?_
              refine s_icmpne A1053 at_250 (pY := 257) (pN := 253) (by decide) (by decide) rfl ?_ ?_
              · intro c250
                replace c250 := i_ne c250
                rw [show (1 : Int32).toInt = 1 from by decide] at c250
                refine s_iconst A1053 at_257 (pc' := 258) rfl (v := (0 : Int32)) (by decide) ?_
                exfalso; omega
              · intro c250
                replace c250 := i_eq c250
                rw [show (1 : Int32).toInt = 1 from by decide] at c250
                refine s_iconst A1053 at_253 (pc' := 254) rfl (v := (1 : Int32)) (by decide) ?_
                refine s_goto A1053 at_254 (pc' := 258) (by decide) (by decide) ?_
                exact h_ret X1053 hx hZ hlk hS1040 e1053 (Nat.le_refl _) hEL ch1040 hret rfl (Or.inl ⟨rfl, by simp, _, rfl⟩) (hb hby at_258) ⟨rfl, fr1053⟩ (by decide) (by decide)
            · intro c220
              replace c220 := i_lt c220
              refine s_iconst A1051 at_223 (pc' := 224) rfl (v := (1 : Int32)) (by decide) ?_
              refine s_istore A1051 at_224 (pc' := 226) rfl (ls' := #[.val (.int p0), .val (.int p1), .val (.int p2), .val (.int p3), .val (.int p4), .val (.int k5), .val (.double x6), .second, .val (.double x8), .second, .val (.int (0 : Int32)), .val (.int (2 : Int32)), .val (.int k12), .val (.int k13), .val (.int k14), .val (.int k15), .val (.ref a1037), .val (.ref a1040), .val (.int z1051), .val (.int (1 : Int32)), .val (.int (1 : Int32))]) rfl ?_
              refine s_goto A1051 at_226 (pc' := 246) (by decide) (by decide) ?_
              refine s_iload A1051 at_246 (pc' := 248) rfl rfl ?_
              refine s_iload A1051 at_248 (pc' := 250) rfl rfl ?_
              refine s_icmpne A1051 at_250 (pY := 257) (pN := 253) (by decide) (by decide) rfl (fun c => absurd c (by decide)) (fun _ => ?_)
              refine s_iconst A1051 at_253 (pc' := 254) rfl (v := (1 : Int32)) (by decide) ?_
              refine s_goto A1051 at_254 (pc' := 258) (by decide) (by decide) ?_
              exact h_ret X1051 hx hZ hlk hS1040 e1051 (Nat.le_refl _) hEL ch1040 hret rfl (Or.inl ⟨rfl, by simp, _, rfl⟩) (hb hby at_258) ⟨rfl, fr1051⟩ (by decide) (by decide)
          · intro c208
            replace c208 := i_gt c208
            refine s_iconst A1051 at_211 (pc' := 212) rfl (v := (-1 : Int32)) (by decide) ?_
            refine s_istore A1051 at_212 (pc' := 214) rfl (ls' := #[.val (.int p0), .val (.int p1), .val (.int p2), .val (.int p3), .val (.int p4), .val (.int k5), .val (.double x6), .second, .val (.double x8), .second, .val (.int (0 : Int32)), .val (.int (2 : Int32)), .val (.int k12), .val (.int k13), .val (.int k14), .val (.int k15), .val (.ref a1037), .val (.ref a1040), .val (.int z1051), .val (.int (1 : Int32)), .val (.int (-1 : Int32))]) rfl ?_
            refine s_goto A1051 at_214 (pc' := 246) (by decide) (by decide) ?_
            refine s_iload A1051 at_246 (pc' := 248) rfl rfl ?_
            refine s_iload A1051 at_248 (pc' := 250) rfl rfl ?_
            refine s_icmpne A1051 at_250 (pY := 257) (pN := 253) (by decide) (by decide) rfl (fun _ => ?_) (fun c => absurd c (by decide))
            refine s_iconst A1051 at_257 (pc' := 258) rfl (v := (0 : Int32)) (by decide) ?_
            exfalso; omega
      · intro c186
        replace c186 := iz_lt c186
        refine s_iconst A1051 at_189 (pc' := 190) rfl (v := (-1 : Int32)) (by decide) ?_
        refine s_goto A1051 at_190 (pc' := 203) (by decide) (by decide) ?_
        refine s_istore A1051 at_203 (pc' := 205) rfl (ls' := #[.val (.int p0), .val (.int p1), .val (.int p2), .val (.int p3), .val (.int p4), .val (.int k5), .val (.double x6), .second, .val (.double x8), .second, .val (.int (0 : Int32)), .val (.int (2 : Int32)), .val (.int k12), .val (.int k13), .val (.int k14), .val (.int k15), .val (.ref a1037), .val (.ref a1040), .val (.int z1051), .val (.int (-1 : Int32)), .unset]) rfl ?_
        refine s_iloadN A1051 at_205 (pc' := 206) rfl rfl ?_
        refine s_iload A1051 at_206 (pc' := 208) rfl rfl ?_
        refine s_icmple A1051 at_208 (pY := 217) (pN := 211) (by decide) (by decide) rfl ?_ ?_
        · intro c208
          replace c208 := i_le c208
          refine s_iloadN A1051 at_217 (pc' := 218) rfl rfl ?_
          refine s_iload A1051 at_218 (pc' := 220) rfl rfl ?_
          refine s_icmpge A1051 at_220 (pY := 229) (pN := 223) (by decide) (by decide) rfl ?_ ?_
          · intro c220
            replace c220 := i_ge c220
            refine s_iload A1051 at_229 (pc' := 231) rfl rfl ?_
            refine s_iload A1051 at_231 (pc' := 233) rfl rfl ?_
            refine s_iload A1051 at_233 (pc' := 235) rfl rfl ?_
            refine s_iload A1051 at_235 (pc' := 237) rfl rfl ?_
            refine s_iload A1051 at_237 (pc' := 239) rfl rfl ?_
            refine s_iload A1051 at_239 (pc' := 241) rfl rfl ?_
            refine g_static X1051 hx hZ (y := (⟨"com/example/prox2/prox2/format/RunOrderComparePinLaw", "cmp", "(ICCICC)I"⟩ : MethodName)) hown (hw _ (List.mem_of_getElem? (i := 61) rfl)) (hw _ (List.mem_of_getElem? (i := 62) rfl)) (hw _ (List.mem_of_getElem? (i := 2) rfl)) (hw _ (List.mem_of_getElem? (i := 63) rfl)) (by decide) (argsL := [(.int (2 : Int32)), (.int k14), (.int k15), (.int (0 : Int32)), (.int k12), (.int k13)]) (rest := []) (c_ck2_0 l Z a0 hw [] k14 k15 k12 k13 T1040.heap n0 zs1049) pd_16 rfl rfl (hb hby at_241) e1051 (by rw [hml]; rfl) (pc' := 244) rfl (by decide) (W := 0) (Nat.le_of_eq rfl) (by decide) (by decide) (by decide) ?_
            intro v1054 T1054 L1054 X1054 hQ1054
            have A1054 := wk X1054 hx hby
            have e1054 : T1054.heap = T1054.heap := rfl
            obtain ⟨z1054, rfl, q1054, N1054, hh1054⟩ := hQ1054
            have e1054 : T1054.heap = T1040.heap := hh1054
            have fr1054 := Fr.app fr1051 N1054
            show Go p e below m (FinH Z consts_1 s h0 room_1.cells room_1.slots (fun v h L => v = some (.int 1) ∧ Fr n0 L)) T1054 244 #[.val (.int p0), .val (.int p1), .val (.int p2), .val (.int p3), .val (.int p4), .val (.int k5), .val (.double x6), .second, .val (.double x8), .second, .val (.int (0 : Int32)), .val (.int (2 : Int32)), .val (.int k12), .val (.int k13), .val (.int k14), .val (.int k15), .val (.ref a1037), .val (.ref a1040), .val (.int z1051), .val (.int (-1 : Int32)), .unset] [(.int z1054)]
            refine s_istore A1054 at_244 (pc' := 246) rfl (ls' := #[.val (.int p0), .val (.int p1), .val (.int p2), .val (.int p3), .val (.int p4), .val (.int k5), .val (.double x6), .second, .val (.double x8), .second, .val (.int (0 : Int32)), .val (.int (2 : Int32)), .val (.int k12), .val (.int k13), .val (.int k14), .val (.int k15), .val (.ref a1037), .val (.ref a1040), .val (.int z1051), .val (.int (-1 : Int32)), .val (.int z1054)]) rfl ?_
            refine s_iload A1054 at_246 (pc' := 248) rfl rfl ?_
            refine s_iload A1054 at_248 (pc' := 250) rfl rfl ?_
            refine s_icmpne A1054 at_250 (pY := 257) (pN := 253) (by decide) (by decide) rfl ?_ ?_
            · intro c250
              replace c250 := i_ne c250
              rw [show (-1 : Int32).toInt = -1 from by decide] at c250
              refine s_iconst A1054 at_257 (pc' := 258) rfl (v := (0 : Int32)) (by decide) ?_
              exfalso; omega
            · intro c250
              replace c250 := i_eq c250
              rw [show (-1 : Int32).toInt = -1 from by decide] at c250
              refine s_iconst A1054 at_253 (pc' := 254) rfl (v := (1 : Int32)) (by decide) ?_
              refine s_goto A1054 at_254 (pc' := 258) (by decide) (by decide) ?_
              exact h_ret X1054 hx hZ hlk hS1040 e1054 (Nat.le_refl _) hEL ch1040 hret rfl (Or.inl ⟨rfl, by simp, _, rfl⟩) (hb hby at_258) ⟨rfl, fr1054⟩ (by decide) (by decide)
          · intro c220
            replace c220 := i_lt c220
            refine s_iconst A1051 at_223 (pc' := 224) rfl (v := (1 : Int32)) (by decide) ?_
            refine s_istore A1051 at_224 (pc' := 226) rfl (ls' := #[.val (.int p0), .val (.int p1), .val (.int p2), .val (.int p3), .val (.int p4), .val (.int k5), .val (.double x6), .second, .val (.double x8), .second, .val (.int (0 : Int32)), .val (.int (2 : Int32)), .val (.int k12), .val (.int k13), .val (.int k14), .val (.int k15), .val (.ref a1037), .val (.ref a1040), .val (.int z1051), .val (.int (-1 : Int32)), .val (.int (1 : Int32))]) rfl ?_
            refine s_goto A1051 at_226 (pc' := 246) (by decide) (by decide) ?_
            refine s_iload A1051 at_246 (pc' := 248) rfl rfl ?_
            refine s_iload A1051 at_248 (pc' := 250) rfl rfl ?_
            refine s_icmpne A1051 at_250 (pY := 257) (pN := 253) (by decide) (by decide) rfl (fun _ => ?_) (fun c => absurd c (by decide))
            refine s_iconst A1051 at_257 (pc' := 258) rfl (v := (0 : Int32)) (by decide) ?_
            exfalso; omega
        · intro c208
          replace c208 := i_gt c208
          refine s_iconst A1051 at_211 (pc' := 212) rfl (v := (-1 : Int32)) (by decide) ?_
          refine s_istore A1051 at_212 (pc' := 214) rfl (ls' := #[.val (.int p0), .val (.int p1), .val (.int p2), .val (.int p3), .val (.int p4), .val (.int k5), .val (.double x6), .second, .val (.double x8), .second, .val (.int (0 : Int32)), .val (.int (2 : Int32)), .val (.int k12), .val (.int k13), .val (.int k14), .val (.int k15), .val (.ref a1037), .val (.ref a1040), .val (.int z1051), .val (.int (-1 : Int32)), .val (.int (-1 : Int32))]) rfl ?_
          refine s_goto A1051 at_214 (pc' := 246) (by decide) (by decide) ?_
          refine s_iload A1051 at_246 (pc' := 248) rfl rfl ?_
          refine s_iload A1051 at_248 (pc' := 250) rfl rfl ?_
          refine s_icmpne A1051 at_250 (pY := 257) (pN := 253) (by decide) (by decide) rfl (fun c => absurd c (by decide)) (fun _ => ?_)
          refine s_iconst A1051 at_253 (pc' := 254) rfl (v := (1 : Int32)) (by decide) ?_
          refine s_goto A1051 at_254 (pc' := 258) (by decide) (by decide) ?_
          exact h_ret X1051 hx hZ hlk hS1040 e1051 (Nat.le_refl _) hEL ch1040 hret rfl (Or.inl ⟨rfl, by simp, _, rfl⟩) (hb hby at_258) ⟨rfl, fr1051⟩ (by decide) (by decide)
    ·
      refine s_iload A0 at_149 (pc' := 151) rfl rfl ?_
      refine s_iload A0 at_151 (pc' := 153) rfl rfl ?_
      refine s_iload A0 at_153 (pc' := 155) rfl rfl ?_
      refine g_staticH X0 hx hZ (y := (⟨"com/example/prox2/prox2/format/RunOrderComparePinLaw", "make", "(ICC)Ljava/lang/String;"⟩ : MethodName)) hown (hw _ (List.mem_of_getElem? (i := 0) rfl)) (hw _ (List.mem_of_getElem? (i := 1) rfl)) (hw _ (List.mem_of_getElem? (i := 2) rfl)) (hw _ (List.mem_of_getElem? (i := 3) rfl)) (by decide) hS0 (Nat.zero_le _) hEL CH0 (argsL := [(.int (1 : Int32)), (.int k12), (.int k13)]) (rest := []) (c_make_1 l Z a0 hw [] cz k12 k13 h0 n0 Z0 O SC hcz B12 B13 hEL) pd_14 rfl rfl (hb hby at_155) e0 (by rw [hml]; rfl) (pc' := 158) rfl (by decide) (W := 0) (Nat.le_of_eq rfl) (by decide) (by decide) (by decide) ?_
      intro v1055 T1055 L1055 X1055 hS1055 hZ hown ch1055 sx1055 hQ1055
      have A1055 := wk X1055 hx hby
      have e1055 : T1055.heap = T1055.heap := rfl
      obtain ⟨a1055, d1055, rfl, N1055, K1055, Ea1055, Fv1055, Fc1055, D1055⟩ := hQ1055
      have kp1056 := Keep.trans (Keep.refl h0 []) K1055 (fun x hx => absurd hx nin0)
      have fr1055 := Fr.app N0 N1055
      show Go p e below m (FinH Z consts_1 s h0 room_1.cells room_1.slots (fun v h L => v = some (.int 1) ∧ Fr n0 L)) T1055 158 #[.val (.int p0), .val (.int p1), .val (.int p2), .val (.int p3), .val (.int p4), .val (.int k5), .val (.double x6), .second, .val (.double x8), .second, .val (.int (1 : Int32)), .val (.int (0 : Int32)), .val (.int k12), .val (.int k13), .val (.int k14), .val (.int k15), .unset, .unset, .unset, .unset, .unset] [(.ref a1055)]
      refine s_astore A1055 at_158 (pc' := 160) rfl (ls' := #[.val (.int p0), .val (.int p1), .val (.int p2), .val (.int p3), .val (.int p4), .val (.int k5), .val (.double x6), .second, .val (.double x8), .second, .val (.int (1 : Int32)), .val (.int (0 : Int32)), .val (.int k12), .val (.int k13), .val (.int k14), .val (.int k15), .val (.ref a1055), .unset, .unset, .unset, .unset]) rfl rfl ?_
      refine s_iload A1055 at_160 (pc' := 162) rfl rfl ?_
      refine s_iload A1055 at_162 (pc' := 164) rfl rfl ?_
      refine s_iload A1055 at_164 (pc' := 166) rfl rfl ?_
      have f1057 := (Old.keep O K1055 (fun x hx => absurd hx nin0))
      have sz1060 : h0.size ≤ T1055.heap.size := K1055.1
      have zs1059 : n0 ≤ T1055.heap.size := Nat.le_trans Z0 sz1060
      refine g_staticH X1055 hx hZ (y := (⟨"com/example/prox2/prox2/format/RunOrderComparePinLaw", "make", "(ICC)Ljava/lang/String;"⟩ : MethodName)) hown (hw _ (List.mem_of_getElem? (i := 0) rfl)) (hw _ (List.mem_of_getElem? (i := 1) rfl)) (hw _ (List.mem_of_getElem? (i := 2) rfl)) (hw _ (List.mem_of_getElem? (i := 3) rfl)) (by decide) hS1055 (Nat.le_refl _) hEL ch1055 (argsL := [(.int (0 : Int32)), (.int k14), (.int k15)]) (rest := []) (c_make_0 l Z a0 hw [] cz k14 k15 T1055.heap n0 zs1059 f1057 SC hcz B14 B15 hEL) pd_14 rfl rfl (hb hby at_166) e1055 (by rw [hml]; rfl) (pc' := 169) rfl (by decide) (W := 0) (Nat.le_of_eq rfl) (by decide) (by decide) (by decide) ?_
      intro v1058 T1058 L1058 X1058 hS1058 hZ hown ch1058 sx1058 hQ1058
      have A1058 := wk X1058 hx hby
      have e1058 : T1058.heap = T1058.heap := rfl
      obtain ⟨a1058, d1058, rfl, N1058, K1058, Ea1058, Fv1058, Fc1058, D1058⟩ := hQ1058
      have kp1061 := Keep.trans kp1056 K1058 (fun x hx => absurd hx nin0)
      have fr1058 := Fr.app fr1055 N1058
      show Go p e below m (FinH Z consts_1 s h0 room_1.cells room_1.slots (fun v h L => v = some (.int 1) ∧ Fr n0 L)) T1058 169 #[.val (.int p0), .val (.int p1), .val (.int p2), .val (.int p3), .val (.int p4), .val (.int k5), .val (.double x6), .second, .val (.double x8), .second, .val (.int (1 : Int32)), .val (.int (0 : Int32)), .val (.int k12), .val (.int k13), .val (.int k14), .val (.int k15), .val (.ref a1055), .unset, .unset, .unset, .unset] [(.ref a1058)]
      refine s_astore A1058 at_169 (pc' := 171) rfl (ls' := #[.val (.int p0), .val (.int p1), .val (.int p2), .val (.int p3), .val (.int p4), .val (.int k5), .val (.double x6), .second, .val (.double x8), .second, .val (.int (1 : Int32)), .val (.int (0 : Int32)), .val (.int k12), .val (.int k13), .val (.int k14), .val (.int k15), .val (.ref a1055), .val (.ref a1058), .unset, .unset, .unset]) rfl rfl ?_
      refine s_dload A1058 at_171 (pc' := 173) rfl rfl ?_
      refine s_aload A1058 at_173 (pc' := 175) rfl rfl rfl ?_
      refine s_dload A1058 at_175 (pc' := 177) rfl rfl ?_
      refine s_aload A1058 at_177 (pc' := 179) rfl rfl rfl ?_
      have f1062 := (Old.keep f1057 K1058 (fun x hx => absurd hx nin0))
      have f1063 := (Exa.keep Ea1055 K1058)
      have f1064 := (Fld.keep Fv1055 K1058 nin0)
      have f1065 := (Fld.keep Fc1055 K1058 nin0)
      have f1066 := (Ars.keep D1055 K1058 nin0)
      have sz1068 : h0.size ≤ T1058.heap.size := (Nat.le_trans sz1060 K1058.1)
      have zs1067 : n0 ≤ T1058.heap.size := Nat.le_trans Z0 sz1068
      refine g_static X1058 hx hZ (y := (⟨"com/example/prox2/prox2/format/RunOrder", "compare", "(DLjava/lang/String;DLjava/lang/String;)I"⟩ : MethodName)) hown (hw _ (List.mem_of_getElem? (i := 26) rfl)) (hw _ (List.mem_of_getElem? (i := 27) rfl)) (hw _ (List.mem_of_getElem? (i := 28) rfl)) (hw _ (List.mem_of_getElem? (i := 29) rfl)) (by decide) (argsL := [(.double x6), (.ref a1055), (.double x8), (.ref a1058)]) (rest := []) (c_rc0_1 l Z a0 hw [] x6 x8 p0.toInt k5.toInt a1058 d1058 a1055 d1055 cz fv  k12 T1058.heap n0 zs1067 y6 y8 Ea1058 Fv1058 Fc1058 D1058 f1062 SC hcz f1063 f1064 f1065 f1066 SF hfv  B12) pd_15 rfl rfl (hb hby at_179) e1058 (by rw [hml]; rfl) (pc' := 182) rfl (by decide) (W := 0) (Nat.le_of_eq rfl) (by decide) (by decide) (by decide) ?_
      intro v1069 T1069 L1069 X1069 hQ1069
      have A1069 := wk X1069 hx hby
      have e1069 : T1069.heap = T1069.heap := rfl
      obtain ⟨z1069, rfl, q1069, N1069, hh1069⟩ := hQ1069
      have e1069 : T1069.heap = T1058.heap := hh1069
      have fr1069 := Fr.app fr1058 N1069
      show Go p e below m (FinH Z consts_1 s h0 room_1.cells room_1.slots (fun v h L => v = some (.int 1) ∧ Fr n0 L)) T1069 182 #[.val (.int p0), .val (.int p1), .val (.int p2), .val (.int p3), .val (.int p4), .val (.int k5), .val (.double x6), .second, .val (.double x8), .second, .val (.int (1 : Int32)), .val (.int (0 : Int32)), .val (.int k12), .val (.int k13), .val (.int k14), .val (.int k15), .val (.ref a1055), .val (.ref a1058), .unset, .unset, .unset] [(.int z1069)]
      refine s_istore A1069 at_182 (pc' := 184) rfl (ls' := #[.val (.int p0), .val (.int p1), .val (.int p2), .val (.int p3), .val (.int p4), .val (.int k5), .val (.double x6), .second, .val (.double x8), .second, .val (.int (1 : Int32)), .val (.int (0 : Int32)), .val (.int k12), .val (.int k13), .val (.int k14), .val (.int k15), .val (.ref a1055), .val (.ref a1058), .val (.int z1069), .unset, .unset]) rfl ?_
      refine s_iload A1069 at_184 (pc' := 186) rfl rfl ?_
      refine s_ifge A1069 at_186 (pY := 193) (pN := 189) (by decide) (by decide) rfl ?_ ?_
      · intro c186
        replace c186 := iz_ge c186
        refine s_iload A1069 at_193 (pc' := 195) rfl rfl ?_
        refine s_ifle A1069 at_195 (pY := 202) (pN := 198) (by decide) (by decide) rfl ?_ ?_
        · intro c195
          replace c195 := iz_le c195
          refine s_iconst A1069 at_202 (pc' := 203) rfl (v := (0 : Int32)) (by decide) ?_
          refine s_istore A1069 at_203 (pc' := 205) rfl (ls' := #[.val (.int p0), .val (.int p1), .val (.int p2), .val (.int p3), .val (.int p4), .val (.int k5), .val (.double x6), .second, .val (.double x8), .second, .val (.int (1 : Int32)), .val (.int (0 : Int32)), .val (.int k12), .val (.int k13), .val (.int k14), .val (.int k15), .val (.ref a1055), .val (.ref a1058), .val (.int z1069), .val (.int (0 : Int32)), .unset]) rfl ?_
          refine s_iloadN A1069 at_205 (pc' := 206) rfl rfl ?_
          refine s_iload A1069 at_206 (pc' := 208) rfl rfl ?_
          refine s_icmple A1069 at_208 (pY := 217) (pN := 211) (by decide) (by decide) rfl ?_ ?_
          · intro c208
            replace c208 := i_le c208
            refine s_iloadN A1069 at_217 (pc' := 218) rfl rfl ?_
            refine s_iload A1069 at_218 (pc' := 220) rfl rfl ?_
            refine s_icmpge A1069 at_220 (pY := 229) (pN := 223) (by decide) (by decide) rfl ?_ ?_
            · intro c220
              replace c220 := i_ge c220
              refine s_iload A1069 at_229 (pc' := 231) rfl rfl ?_
              refine s_iload A1069 at_231 (pc' := 233) rfl rfl ?_
              refine s_iload A1069 at_233 (pc' := 235) rfl rfl ?_
              refine s_iload A1069 at_235 (pc' := 237) rfl rfl ?_
              refine s_iload A1069 at_237 (pc' := 239) rfl rfl ?_
              refine s_iload A1069 at_239 (pc' := 241) rfl rfl ?_
              refine g_static X1069 hx hZ (y := (⟨"com/example/prox2/prox2/format/RunOrderComparePinLaw", "cmp", "(ICCICC)I"⟩ : MethodName)) hown (hw _ (List.mem_of_getElem? (i := 61) rfl)) (hw _ (List.mem_of_getElem? (i := 62) rfl)) (hw _ (List.mem_of_getElem? (i := 2) rfl)) (hw _ (List.mem_of_getElem? (i := 63) rfl)) (by decide) (argsL := [(.int (0 : Int32)), (.int k14), (.int k15), (.int (1 : Int32)), (.int k12), (.int k13)]) (rest := []) (c_ck0_1 l Z a0 hw [] k14 k15 k12 k13 T1058.heap n0 zs1067) pd_16 rfl rfl (hb hby at_241) e1069 (by rw [hml]; rfl) (pc' := 244) rfl (by decide) (W := 0) (Nat.le_of_eq rfl) (by decide) (by decide) (by decide) ?_
              intro v1070 T1070 L1070 X1070 hQ1070
              have A1070 := wk X1070 hx hby
              have e1070 : T1070.heap = T1070.heap := rfl
              obtain ⟨z1070, rfl, q1070, N1070, hh1070⟩ := hQ1070
              have e1070 : T1070.heap = T1058.heap := hh1070
              have fr1070 := Fr.app fr1069 N1070
              show Go p e below m (FinH Z consts_1 s h0 room_1.cells room_1.slots (fun v h L => v = some (.int 1) ∧ Fr n0 L)) T1070 244 #[.val (.int p0), .val (.int p1), .val (.int p2), .val (.int p3), .val (.int p4), .val (.int k5), .val (.double x6), .second, .val (.double x8), .second, .val (.int (1 : Int32)), .val (.int (0 : Int32)), .val (.int k12), .val (.int k13), .val (.int k14), .val (.int k15), .val (.ref a1055), .val (.ref a1058), .val (.int z1069), .val (.int (0 : Int32)), .unset] [(.int z1070)]
              refine s_istore A1070 at_244 (pc' := 246) rfl (ls' := #[.val (.int p0), .val (.int p1), .val (.int p2), .val (.int p3), .val (.int p4), .val (.int k5), .val (.double x6), .second, .val (.double x8), .second, .val (.int (1 : Int32)), .val (.int (0 : Int32)), .val (.int k12), .val (.int k13), .val (.int k14), .val (.int k15), .val (.ref a1055), .val (.ref a1058), .val (.int z1069), .val (.int (0 : Int32)), .val (.int z1070)]) rfl ?_
              refine s_iload A1070 at_246 (pc' := 248) rfl rfl ?_
              refine s_iload A1070 at_248 (pc' := 250) rfl rfl ?_
              refine s_icmpne A1070 at_250 (pY := 257) (pN := 253) (by decide) (by decide) rfl ?_ ?_
              · intro c250
                replace c250 := i_ne c250
                rw [show (0 : Int32).toInt = 0 from by decide] at c250
                refine s_iconst A1070 at_257 (pc' := 258) rfl (v := (0 : Int32)) (by decide) ?_
                exfalso; omega
              · intro c250
                replace c250 := i_eq c250
                rw [show (0 : Int32).toInt = 0 from by decide] at c250
                refine s_iconst A1070 at_253 (pc' := 254) rfl (v := (1 : Int32)) (by decide) ?_
                refine s_goto A1070 at_254 (pc' := 258) (by decide) (by decide) ?_
                exact h_ret X1070 hx hZ hlk hS1058 e1070 (Nat.le_refl _) hEL ch1058 hret rfl (Or.inl ⟨rfl, by simp, _, rfl⟩) (hb hby at_258) ⟨rfl, fr1070⟩ (by decide) (by decide)
            · intro c220
              replace c220 := i_lt c220
              refine s_iconst A1069 at_223 (pc' := 224) rfl (v := (1 : Int32)) (by decide) ?_
              refine s_istore A1069 at_224 (pc' := 226) rfl (ls' := #[.val (.int p0), .val (.int p1), .val (.int p2), .val (.int p3), .val (.int p4), .val (.int k5), .val (.double x6), .second, .val (.double x8), .second, .val (.int (1 : Int32)), .val (.int (0 : Int32)), .val (.int k12), .val (.int k13), .val (.int k14), .val (.int k15), .val (.ref a1055), .val (.ref a1058), .val (.int z1069), .val (.int (0 : Int32)), .val (.int (1 : Int32))]) rfl ?_
              refine s_goto A1069 at_226 (pc' := 246) (by decide) (by decide) ?_
              refine s_iload A1069 at_246 (pc' := 248) rfl rfl ?_
              refine s_iload A1069 at_248 (pc' := 250) rfl rfl ?_
              refine s_icmpne A1069 at_250 (pY := 257) (pN := 253) (by decide) (by decide) rfl (fun _ => ?_) (fun c => absurd c (by decide))
              refine s_iconst A1069 at_257 (pc' := 258) rfl (v := (0 : Int32)) (by decide) ?_
              exfalso; omega
          · intro c208
            replace c208 := i_gt c208
            refine s_iconst A1069 at_211 (pc' := 212) rfl (v := (-1 : Int32)) (by decide) ?_
            refine s_istore A1069 at_212 (pc' := 214) rfl (ls' := #[.val (.int p0), .val (.int p1), .val (.int p2), .val (.int p3), .val (.int p4), .val (.int k5), .val (.double x6), .second, .val (.double x8), .second, .val (.int (1 : Int32)), .val (.int (0 : Int32)), .val (.int k12), .val (.int k13), .val (.int k14), .val (.int k15), .val (.ref a1055), .val (.ref a1058), .val (.int z1069), .val (.int (0 : Int32)), .val (.int (-1 : Int32))]) rfl ?_
            refine s_goto A1069 at_214 (pc' := 246) (by decide) (by decide) ?_
            refine s_iload A1069 at_246 (pc' := 248) rfl rfl ?_
            refine s_iload A1069 at_248 (pc' := 250) rfl rfl ?_
            refine s_icmpne A1069 at_250 (pY := 257) (pN := 253) (by decide) (by decide) rfl (fun _ => ?_) (fun c => absurd c (by decide))
            refine s_iconst A1069 at_257 (pc' := 258) rfl (v := (0 : Int32)) (by decide) ?_
            exfalso; omega
        · intro c195
          replace c195 := iz_gt c195
          refine s_iconst A1069 at_198 (pc' := 199) rfl (v := (1 : Int32)) (by decide) ?_
          refine s_goto A1069 at_199 (pc' := 203) (by decide) (by decide) ?_
          refine s_istore A1069 at_203 (pc' := 205) rfl (ls' := #[.val (.int p0), .val (.int p1), .val (.int p2), .val (.int p3), .val (.int p4), .val (.int k5), .val (.double x6), .second, .val (.double x8), .second, .val (.int (1 : Int32)), .val (.int (0 : Int32)), .val (.int k12), .val (.int k13), .val (.int k14), .val (.int k15), .val (.ref a1055), .val (.ref a1058), .val (.int z1069), .val (.int (1 : Int32)), .unset]) rfl ?_
          refine s_iloadN A1069 at_205 (pc' := 206) rfl rfl ?_
          refine s_iload A1069 at_206 (pc' := 208) rfl rfl ?_
          refine s_icmple A1069 at_208 (pY := 217) (pN := 211) (by decide) (by decide) rfl ?_ ?_
          · intro c208
            replace c208 := i_le c208
            refine s_iloadN A1069 at_217 (pc' := 218) rfl rfl ?_
            refine s_iload A1069 at_218 (pc' := 220) rfl rfl ?_
            refine s_icmpge A1069 at_220 (pY := 229) (pN := 223) (by decide) (by decide) rfl ?_ ?_
            · intro c220
              replace c220 := i_ge c220
              refine s_iload A1069 at_229 (pc' := 231) rfl rfl ?_
              refine s_iload A1069 at_231 (pc' := 233) rfl rfl ?_
              refine s_iload A1069 at_233 (pc' := 235) rfl rfl ?_
              refine s_iload A1069 at_235 (pc' := 237) rfl rfl ?_
              refine s_iload A1069 at_237 (pc' := 239) rfl rfl ?_
              refine s_iload A1069 at_239 (pc' := 241) rfl rfl ?_
              refine g_static X1069 hx hZ (y := (⟨"com/example/prox2/prox2/format/RunOrderComparePinLaw", "cmp", "(ICCICC)I"⟩ : MethodName)) hown (hw _ (List.mem_of_getElem? (i := 61) rfl)) (hw _ (List.mem_of_getElem? (i := 62) rfl)) (hw _ (List.mem_of_getElem? (i := 2) rfl)) (hw _ (List.mem_of_getElem? (i := 63) rfl)) (by decide) (argsL := [(.int (0 : Int32)), (.int k14), (.int k15), (.int (1 : Int32)), (.int k12), (.int k13)]) (rest := []) (c_ck0_1 l Z a0 hw [] k14 k15 k12 k13 T1058.heap n0 zs1067) pd_16 rfl rfl (hb hby at_241) e1069 (by rw [hml]; rfl) (pc' := 244) rfl (by decide) (W := 0) (Nat.le_of_eq rfl) (by decide) (by decide) (by decide) ?_
              intro v1071 T1071 L1071 X1071 hQ1071
              have A1071 := wk X1071 hx hby
              have e1071 : T1071.heap = T1071.heap := rfl
              obtain ⟨z1071, rfl, q1071, N1071, hh1071⟩ := hQ1071
              have e1071 : T1071.heap = T1058.heap := hh1071
              have fr1071 := Fr.app fr1069 N1071
              show Go p e below m (FinH Z consts_1 s h0 room_1.cells room_1.slots (fun v h L => v = some (.int 1) ∧ Fr n0 L)) T1071 244 #[.val (.int p0), .val (.int p1), .val (.int p2), .val (.int p3), .val (.int p4), .val (.int k5), .val (.double x6), .second, .val (.double x8), .second, .val (.int (1 : Int32)), .val (.int (0 : Int32)), .val (.int k12), .val (.int k13), .val (.int k14), .val (.int k15), .val (.ref a1055), .val (.ref a1058), .val (.int z1069), .val (.int (1 : Int32)), .unset] [(.int z1071)]
              refine s_istore A1071 at_244 (pc' := 246) rfl (ls' := #[.val (.int p0), .val (.int p1), .val (.int p2), .val (.int p3), .val (.int p4), .val (.int k5), .val (.double x6), .second, .val (.double x8), .second, .val (.int (1 : Int32)), .val (.int (0 : Int32)), .val (.int k12), .val (.int k13), .val (.int k14), .val (.int k15), .val (.ref a1055), .val (.ref a1058), .val (.int z1069), .val (.int (1 : Int32)), .val (.int z1071)]) rfl ?_
              refine s_iload A1071 at_246 (pc' := 248) rfl rfl ?_
              refine s_iload A1071 at_248 (pc' := 250) rfl rfl ?_
              refine s_icmpne A1071 at_250 (pY := 257) (pN := 253) (by decide) (by decide) rfl ?_ ?_
              · intro c250
                replace c250 := i_ne c250
                rw [show (1 : Int32).toInt = 1 from by decide] at c250
                refine s_iconst A1071 at_257 (pc' := 258) rfl (v := (0 : Int32)) (by decide) ?_
                exfalso; omega
              · intro c250
                replace c250 := i_eq c250
                rw [show (1 : Int32).toInt = 1 from by decide] at c250
                refine s_iconst A1071 at_253 (pc' := 254) rfl (v := (1 : Int32)) (by decide) ?_
                refine s_goto A1071 at_254 (pc' := 258) (by decide) (by decide) ?_
                exact h_ret X1071 hx hZ hlk hS1058 e1071 (Nat.le_refl _) hEL ch1058 hret rfl (Or.inl ⟨rfl, by simp, _, rfl⟩) (hb hby at_258) ⟨rfl, fr1071⟩ (by decide) (by decide)
            · intro c220
              replace c220 := i_lt c220
              refine s_iconst A1069 at_223 (pc' := 224) rfl (v := (1 : Int32)) (by decide) ?_
              refine s_istore A1069 at_224 (pc' := 226) rfl (ls' := #[.val (.int p0), .val (.int p1), .val (.int p2), .val (.int p3), .val (.int p4), .val (.int k5), .val (.double x6), .second, .val (.double x8), .second, .val (.int (1 : Int32)), .val (.int (0 : Int32)), .val (.int k12), .val (.int k13), .val (.int k14), .val (.int k15), .val (.ref a1055), .val (.ref a1058), .val (.int z1069), .val (.int (1 : Int32)), .val (.int (1 : Int32))]) rfl ?_
              refine s_goto A1069 at_226 (pc' := 246) (by decide) (by decide) ?_
              refine s_iload A1069 at_246 (pc' := 248) rfl rfl ?_
              refine s_iload A1069 at_248 (pc' := 250) rfl rfl ?_
              refine s_icmpne A1069 at_250 (pY := 257) (pN := 253) (by decide) (by decide) rfl (fun c => absurd c (by decide)) (fun _ => ?_)
              refine s_iconst A1069 at_253 (pc' := 254) rfl (v := (1 : Int32)) (by decide) ?_
              refine s_goto A1069 at_254 (pc' := 258) (by decide) (by decide) ?_
              exact h_ret X1069 hx hZ hlk hS1058 e1069 (Nat.le_refl _) hEL ch1058 hret rfl (Or.inl ⟨rfl, by simp, _, rfl⟩) (hb hby at_258) ⟨rfl, fr1069⟩ (by decide) (by decide)
          · intro c208
            replace c208 := i_gt c208
            refine s_iconst A1069 at_211 (pc' := 212) rfl (v := (-1 : Int32)) (by decide) ?_
            refine s_istore A1069 at_212 (pc' := 214) rfl (ls' := #[.val (.int p0), .val (.int p1), .val (.int p2), .val (.int p3), .val (.int p4), .val (.int k5), .val (.double x6), .second, .val (.double x8), .second, .val (.int (1 : Int32)), .val (.int (0 : Int32)), .val (.int k12), .val (.int k13), .val (.int k14), .val (.int k15), .val (.ref a1055), .val (.ref a1058), .val (.int z1069), .val (.int (1 : Int32)), .val (.int (-1 : Int32))]) rfl ?_
            refine s_goto A1069 at_214 (pc' := 246) (by decide) (by decide) ?_
            refine s_iload A1069 at_246 (pc' := 248) rfl rfl ?_
            refine s_iload A1069 at_248 (pc' := 250) rfl rfl ?_
            refine s_icmpne A1069 at_250 (pY := 257) (pN := 253) (by decide) (by decide) rfl (fun _ => ?_) (fun c => absurd c (by decide))
            refine s_iconst A1069 at_257 (pc' := 258) rfl (v := (0 : Int32)) (by decide) ?_
            exfalso; omega
      · intro c186
        replace c186 := iz_lt c186
        refine s_iconst A1069 at_189 (pc' := 190) rfl (v := (-1 : Int32)) (by decide) ?_
        refine s_goto A1069 at_190 (pc' := 203) (by decide) (by decide) ?_
        refine s_istore A1069 at_203 (pc' := 205) rfl (ls' := #[.val (.int p0), .val (.int p1), .val (.int p2), .val (.int p3), .val (.int p4), .val (.int k5), .val (.double x6), .second, .val (.double x8), .second, .val (.int (1 : Int32)), .val (.int (0 : Int32)), .val (.int k12), .val (.int k13), .val (.int k14), .val (.int k15), .val (.ref a1055), .val (.ref a1058), .val (.int z1069), .val (.int (-1 : Int32)), .unset]) rfl ?_
        refine s_iloadN A1069 at_205 (pc' := 206) rfl rfl ?_
        refine s_iload A1069 at_206 (pc' := 208) rfl rfl ?_
        refine s_icmple A1069 at_208 (pY := 217) (pN := 211) (by decide) (by decide) rfl ?_ ?_
        · intro c208
          replace c208 := i_le c208
          refine s_iloadN A1069 at_217 (pc' := 218) rfl rfl ?_
          refine s_iload A1069 at_218 (pc' := 220) rfl rfl ?_
          refine s_icmpge A1069 at_220 (pY := 229) (pN := 223) (by decide) (by decide) rfl ?_ ?_
          · intro c220
            replace c220 := i_ge c220
            refine s_iload A1069 at_229 (pc' := 231) rfl rfl ?_
            refine s_iload A1069 at_231 (pc' := 233) rfl rfl ?_
            refine s_iload A1069 at_233 (pc' := 235) rfl rfl ?_
            refine s_iload A1069 at_235 (pc' := 237) rfl rfl ?_
            refine s_iload A1069 at_237 (pc' := 239) rfl rfl ?_
            refine s_iload A1069 at_239 (pc' := 241) rfl rfl ?_
            refine g_static X1069 hx hZ (y := (⟨"com/example/prox2/prox2/format/RunOrderComparePinLaw", "cmp", "(ICCICC)I"⟩ : MethodName)) hown (hw _ (List.mem_of_getElem? (i := 61) rfl)) (hw _ (List.mem_of_getElem? (i := 62) rfl)) (hw _ (List.mem_of_getElem? (i := 2) rfl)) (hw _ (List.mem_of_getElem? (i := 63) rfl)) (by decide) (argsL := [(.int (0 : Int32)), (.int k14), (.int k15), (.int (1 : Int32)), (.int k12), (.int k13)]) (rest := []) (c_ck0_1 l Z a0 hw [] k14 k15 k12 k13 T1058.heap n0 zs1067) pd_16 rfl rfl (hb hby at_241) e1069 (by rw [hml]; rfl) (pc' := 244) rfl (by decide) (W := 0) (Nat.le_of_eq rfl) (by decide) (by decide) (by decide) ?_
            intro v1072 T1072 L1072 X1072 hQ1072
            have A1072 := wk X1072 hx hby
            have e1072 : T1072.heap = T1072.heap := rfl
            obtain ⟨z1072, rfl, q1072, N1072, hh1072⟩ := hQ1072
            have e1072 : T1072.heap = T1058.heap := hh1072
            have fr1072 := Fr.app fr1069 N1072
            show Go p e below m (FinH Z consts_1 s h0 room_1.cells room_1.slots (fun v h L => v = some (.int 1) ∧ Fr n0 L)) T1072 244 #[.val (.int p0), .val (.int p1), .val (.int p2), .val (.int p3), .val (.int p4), .val (.int k5), .val (.double x6), .second, .val (.double x8), .second, .val (.int (1 : Int32)), .val (.int (0 : Int32)), .val (.int k12), .val (.int k13), .val (.int k14), .val (.int k15), .val (.ref a1055), .val (.ref a1058), .val (.int z1069), .val (.int (-1 : Int32)), .unset] [(.int z1072)]
            refine s_istore A1072 at_244 (pc' := 246) rfl (ls' := #[.val (.int p0), .val (.int p1), .val (.int p2), .val (.int p3), .val (.int p4), .val (.int k5), .val (.double x6), .second, .val (.double x8), .second, .val (.int (1 : Int32)), .val (.int (0 : Int32)), .val (.int k12), .val (.int k13), .val (.int k14), .val (.int k15), .val (.ref a1055), .val (.ref a1058), .val (.int z1069), .val (.int (-1 : Int32)), .val (.int z1072)]) rfl ?_
            refine s_iload A1072 at_246 (pc' := 248) rfl rfl ?_
            refine s_iload A1072 at_248 (pc' := 250) rfl rfl ?_
            refine s_icmpne A1072 at_250 (pY := 257) (pN := 253) (by decide) (by decide) rfl ?_ ?_
            · intro c250
              replace c250 := i_ne c250
              rw [show (-1 : Int32).toInt = -1 from by decide] at c250
              refine s_iconst A1072 at_257 (pc' := 258) rfl (v := (0 : Int32)) (by decide) ?_
              exfalso; omega
            · intro c250
              replace c250 := i_eq c250
              rw [show (-1 : Int32).toInt = -1 from by decide] at c250
              refine s_iconst A1072 at_253 (pc' := 254) rfl (v := (1 : Int32)) (by decide) ?_
              refine s_goto A1072 at_254 (pc' := 258) (by decide) (by decide) ?_
              exact h_ret X1072 hx hZ hlk hS1058 e1072 (Nat.le_refl _) hEL ch1058 hret rfl (Or.inl ⟨rfl, by simp, _, rfl⟩) (hb hby at_258) ⟨rfl, fr1072⟩ (by decide) (by decide)
          · intro c220
            replace c220 := i_lt c220
            refine s_iconst A1069 at_223 (pc' := 224) rfl (v := (1 : Int32)) (by decide) ?_
            refine s_istore A1069 at_224 (pc' := 226) rfl (ls' := #[.val (.int p0), .val (.int p1), .val (.int p2), .val (.int p3), .val (.int p4), .val (.int k5), .val (.double x6), .second, .val (.double x8), .second, .val (.int (1 : Int32)), .val (.int (0 : Int32)), .val (.int k12), .val (.int k13), .val (.int k14), .val (.int k15), .val (.ref a1055), .val (.ref a1058), .val (.int z1069), .val (.int (-1 : Int32)), .val (.int (1 : Int32))]) rfl ?_
            refine s_goto A1069 at_226 (pc' := 246) (by decide) (by decide) ?_
            refine s_iload A1069 at_246 (pc' := 248) rfl rfl ?_
            refine s_iload A1069 at_248 (pc' := 250) rfl rfl ?_
            refine s_icmpne A1069 at_250 (pY := 257) (pN := 253) (by decide) (by decide) rfl (fun _ => ?_) (fun c => absurd c (by decide))
            refine s_iconst A1069 at_257 (pc' := 258) rfl (v := (0 : Int32)) (by decide) ?_
            exfalso; omega
        · intro c208
          replace c208 := i_gt c208
          refine s_iconst A1069 at_211 (pc' := 212) rfl (v := (-1 : Int32)) (by decide) ?_
          refine s_istore A1069 at_212 (pc' := 214) rfl (ls' := #[.val (.int p0), .val (.int p1), .val (.int p2), .val (.int p3), .val (.int p4), .val (.int k5), .val (.double x6), .second, .val (.double x8), .second, .val (.int (1 : Int32)), .val (.int (0 : Int32)), .val (.int k12), .val (.int k13), .val (.int k14), .val (.int k15), .val (.ref a1055), .val (.ref a1058), .val (.int z1069), .val (.int (-1 : Int32)), .val (.int (-1 : Int32))]) rfl ?_
          refine s_goto A1069 at_214 (pc' := 246) (by decide) (by decide) ?_
          refine s_iload A1069 at_246 (pc' := 248) rfl rfl ?_
          refine s_iload A1069 at_248 (pc' := 250) rfl rfl ?_
          refine s_icmpne A1069 at_250 (pY := 257) (pN := 253) (by decide) (by decide) rfl (fun c => absurd c (by decide)) (fun _ => ?_)
          refine s_iconst A1069 at_253 (pc' := 254) rfl (v := (1 : Int32)) (by decide) ?_
          refine s_goto A1069 at_254 (pc' := 258) (by decide) (by decide) ?_
          exact h_ret X1069 hx hZ hlk hS1058 e1069 (Nat.le_refl _) hEL ch1058 hret rfl (Or.inl ⟨rfl, by simp, _, rfl⟩) (hb hby at_258) ⟨rfl, fr1069⟩ (by decide) (by decide)
    ·
      refine s_iload A0 at_149 (pc' := 151) rfl rfl ?_
      refine s_iload A0 at_151 (pc' := 153) rfl rfl ?_
      refine s_iload A0 at_153 (pc' := 155) rfl rfl ?_
      refine g_staticH X0 hx hZ (y := (⟨"com/example/prox2/prox2/format/RunOrderComparePinLaw", "make", "(ICC)Ljava/lang/String;"⟩ : MethodName)) hown (hw _ (List.mem_of_getElem? (i := 0) rfl)) (hw _ (List.mem_of_getElem? (i := 1) rfl)) (hw _ (List.mem_of_getElem? (i := 2) rfl)) (hw _ (List.mem_of_getElem? (i := 3) rfl)) (by decide) hS0 (Nat.zero_le _) hEL CH0 (argsL := [(.int (1 : Int32)), (.int k12), (.int k13)]) (rest := []) (c_make_1 l Z a0 hw [] cz k12 k13 h0 n0 Z0 O SC hcz B12 B13 hEL) pd_14 rfl rfl (hb hby at_155) e0 (by rw [hml]; rfl) (pc' := 158) rfl (by decide) (W := 0) (Nat.le_of_eq rfl) (by decide) (by decide) (by decide) ?_
      intro v1073 T1073 L1073 X1073 hS1073 hZ hown ch1073 sx1073 hQ1073
      have A1073 := wk X1073 hx hby
      have e1073 : T1073.heap = T1073.heap := rfl
      obtain ⟨a1073, d1073, rfl, N1073, K1073, Ea1073, Fv1073, Fc1073, D1073⟩ := hQ1073
      have kp1074 := Keep.trans (Keep.refl h0 []) K1073 (fun x hx => absurd hx nin0)
      have fr1073 := Fr.app N0 N1073
      show Go p e below m (FinH Z consts_1 s h0 room_1.cells room_1.slots (fun v h L => v = some (.int 1) ∧ Fr n0 L)) T1073 158 #[.val (.int p0), .val (.int p1), .val (.int p2), .val (.int p3), .val (.int p4), .val (.int k5), .val (.double x6), .second, .val (.double x8), .second, .val (.int (1 : Int32)), .val (.int (1 : Int32)), .val (.int k12), .val (.int k13), .val (.int k14), .val (.int k15), .unset, .unset, .unset, .unset, .unset] [(.ref a1073)]
      refine s_astore A1073 at_158 (pc' := 160) rfl (ls' := #[.val (.int p0), .val (.int p1), .val (.int p2), .val (.int p3), .val (.int p4), .val (.int k5), .val (.double x6), .second, .val (.double x8), .second, .val (.int (1 : Int32)), .val (.int (1 : Int32)), .val (.int k12), .val (.int k13), .val (.int k14), .val (.int k15), .val (.ref a1073), .unset, .unset, .unset, .unset]) rfl rfl ?_
      refine s_iload A1073 at_160 (pc' := 162) rfl rfl ?_
      refine s_iload A1073 at_162 (pc' := 164) rfl rfl ?_
      refine s_iload A1073 at_164 (pc' := 166) rfl rfl ?_
      have f1075 := (Old.keep O K1073 (fun x hx => absurd hx nin0))
      have sz1078 : h0.size ≤ T1073.heap.size := K1073.1
      have zs1077 : n0 ≤ T1073.heap.size := Nat.le_trans Z0 sz1078
      refine g_staticH X1073 hx hZ (y := (⟨"com/example/prox2/prox2/format/RunOrderComparePinLaw", "make", "(ICC)Ljava/lang/String;"⟩ : MethodName)) hown (hw _ (List.mem_of_getElem? (i := 0) rfl)) (hw _ (List.mem_of_getElem? (i := 1) rfl)) (hw _ (List.mem_of_getElem? (i := 2) rfl)) (hw _ (List.mem_of_getElem? (i := 3) rfl)) (by decide) hS1073 (Nat.le_refl _) hEL ch1073 (argsL := [(.int (1 : Int32)), (.int k14), (.int k15)]) (rest := []) (c_make_1 l Z a0 hw [] cz k14 k15 T1073.heap n0 zs1077 f1075 SC hcz B14 B15 hEL) pd_14 rfl rfl (hb hby at_166) e1073 (by rw [hml]; rfl) (pc' := 169) rfl (by decide) (W := 0) (Nat.le_of_eq rfl) (by decide) (by decide) (by decide) ?_
      intro v1076 T1076 L1076 X1076 hS1076 hZ hown ch1076 sx1076 hQ1076
      have A1076 := wk X1076 hx hby
      have e1076 : T1076.heap = T1076.heap := rfl
      obtain ⟨a1076, d1076, rfl, N1076, K1076, Ea1076, Fv1076, Fc1076, D1076⟩ := hQ1076
      have kp1079 := Keep.trans kp1074 K1076 (fun x hx => absurd hx nin0)
      have fr1076 := Fr.app fr1073 N1076
      show Go p e below m (FinH Z consts_1 s h0 room_1.cells room_1.slots (fun v h L => v = some (.int 1) ∧ Fr n0 L)) T1076 169 #[.val (.int p0), .val (.int p1), .val (.int p2), .val (.int p3), .val (.int p4), .val (.int k5), .val (.double x6), .second, .val (.double x8), .second, .val (.int (1 : Int32)), .val (.int (1 : Int32)), .val (.int k12), .val (.int k13), .val (.int k14), .val (.int k15), .val (.ref a1073), .unset, .unset, .unset, .unset] [(.ref a1076)]
      refine s_astore A1076 at_169 (pc' := 171) rfl (ls' := #[.val (.int p0), .val (.int p1), .val (.int p2), .val (.int p3), .val (.int p4), .val (.int k5), .val (.double x6), .second, .val (.double x8), .second, .val (.int (1 : Int32)), .val (.int (1 : Int32)), .val (.int k12), .val (.int k13), .val (.int k14), .val (.int k15), .val (.ref a1073), .val (.ref a1076), .unset, .unset, .unset]) rfl rfl ?_
      refine s_dload A1076 at_171 (pc' := 173) rfl rfl ?_
      refine s_aload A1076 at_173 (pc' := 175) rfl rfl rfl ?_
      refine s_dload A1076 at_175 (pc' := 177) rfl rfl ?_
      refine s_aload A1076 at_177 (pc' := 179) rfl rfl rfl ?_
      have f1080 := (Old.keep f1075 K1076 (fun x hx => absurd hx nin0))
      have f1081 := (Exa.keep Ea1073 K1076)
      have f1082 := (Fld.keep Fv1073 K1076 nin0)
      have f1083 := (Fld.keep Fc1073 K1076 nin0)
      have f1084 := (Ars.keep D1073 K1076 nin0)
      have sz1086 : h0.size ≤ T1076.heap.size := (Nat.le_trans sz1078 K1076.1)
      have zs1085 : n0 ≤ T1076.heap.size := Nat.le_trans Z0 sz1086
      refine g_static X1076 hx hZ (y := (⟨"com/example/prox2/prox2/format/RunOrder", "compare", "(DLjava/lang/String;DLjava/lang/String;)I"⟩ : MethodName)) hown (hw _ (List.mem_of_getElem? (i := 26) rfl)) (hw _ (List.mem_of_getElem? (i := 27) rfl)) (hw _ (List.mem_of_getElem? (i := 28) rfl)) (hw _ (List.mem_of_getElem? (i := 29) rfl)) (by decide) (argsL := [(.double x6), (.ref a1073), (.double x8), (.ref a1076)]) (rest := []) (c_rc1_1 l Z a0 hw [] x6 x8 p0.toInt k5.toInt a1076 d1076 a1073 d1073 cz fv k14 k12 T1076.heap n0 zs1085 y6 y8 Ea1076 Fv1076 Fc1076 D1076 f1080 SC hcz f1081 f1082 f1083 f1084 SF hfv B14 B12) pd_15 rfl rfl (hb hby at_179) e1076 (by rw [hml]; rfl) (pc' := 182) rfl (by decide) (W := 0) (Nat.le_of_eq rfl) (by decide) (by decide) (by decide) ?_
      intro v1087 T1087 L1087 X1087 hQ1087
      have A1087 := wk X1087 hx hby
      have e1087 : T1087.heap = T1087.heap := rfl
      obtain ⟨z1087, rfl, q1087, N1087, hh1087⟩ := hQ1087
      have e1087 : T1087.heap = T1076.heap := hh1087
      have fr1087 := Fr.app fr1076 N1087
      show Go p e below m (FinH Z consts_1 s h0 room_1.cells room_1.slots (fun v h L => v = some (.int 1) ∧ Fr n0 L)) T1087 182 #[.val (.int p0), .val (.int p1), .val (.int p2), .val (.int p3), .val (.int p4), .val (.int k5), .val (.double x6), .second, .val (.double x8), .second, .val (.int (1 : Int32)), .val (.int (1 : Int32)), .val (.int k12), .val (.int k13), .val (.int k14), .val (.int k15), .val (.ref a1073), .val (.ref a1076), .unset, .unset, .unset] [(.int z1087)]
      refine s_istore A1087 at_182 (pc' := 184) rfl (ls' := #[.val (.int p0), .val (.int p1), .val (.int p2), .val (.int p3), .val (.int p4), .val (.int k5), .val (.double x6), .second, .val (.double x8), .second, .val (.int (1 : Int32)), .val (.int (1 : Int32)), .val (.int k12), .val (.int k13), .val (.int k14), .val (.int k15), .val (.ref a1073), .val (.ref a1076), .val (.int z1087), .unset, .unset]) rfl ?_
      refine s_iload A1087 at_184 (pc' := 186) rfl rfl ?_
      refine s_ifge A1087 at_186 (pY := 193) (pN := 189) (by decide) (by decide) rfl ?_ ?_
      · intro c186
        replace c186 := iz_ge c186
        refine s_iload A1087 at_193 (pc' := 195) rfl rfl ?_
        refine s_ifle A1087 at_195 (pY := 202) (pN := 198) (by decide) (by decide) rfl ?_ ?_
        · intro c195
          replace c195 := iz_le c195
          refine s_iconst A1087 at_202 (pc' := 203) rfl (v := (0 : Int32)) (by decide) ?_
          refine s_istore A1087 at_203 (pc' := 205) rfl (ls' := #[.val (.int p0), .val (.int p1), .val (.int p2), .val (.int p3), .val (.int p4), .val (.int k5), .val (.double x6), .second, .val (.double x8), .second, .val (.int (1 : Int32)), .val (.int (1 : Int32)), .val (.int k12), .val (.int k13), .val (.int k14), .val (.int k15), .val (.ref a1073), .val (.ref a1076), .val (.int z1087), .val (.int (0 : Int32)), .unset]) rfl ?_
          refine s_iloadN A1087 at_205 (pc' := 206) rfl rfl ?_
          refine s_iload A1087 at_206 (pc' := 208) rfl rfl ?_
          refine s_icmple A1087 at_208 (pY := 217) (pN := 211) (by decide) (by decide) rfl ?_ ?_
          · intro c208
            replace c208 := i_le c208
            refine s_iloadN A1087 at_217 (pc' := 218) rfl rfl ?_
            refine s_iload A1087 at_218 (pc' := 220) rfl rfl ?_
            refine s_icmpge A1087 at_220 (pY := 229) (pN := 223) (by decide) (by decide) rfl ?_ ?_
            · intro c220
              replace c220 := i_ge c220
              refine s_iload A1087 at_229 (pc' := 231) rfl rfl ?_
              refine s_iload A1087 at_231 (pc' := 233) rfl rfl ?_
              refine s_iload A1087 at_233 (pc' := 235) rfl rfl ?_
              refine s_iload A1087 at_235 (pc' := 237) rfl rfl ?_
              refine s_iload A1087 at_237 (pc' := 239) rfl rfl ?_
              refine s_iload A1087 at_239 (pc' := 241) rfl rfl ?_
              refine g_static X1087 hx hZ (y := (⟨"com/example/prox2/prox2/format/RunOrderComparePinLaw", "cmp", "(ICCICC)I"⟩ : MethodName)) hown (hw _ (List.mem_of_getElem? (i := 61) rfl)) (hw _ (List.mem_of_getElem? (i := 62) rfl)) (hw _ (List.mem_of_getElem? (i := 2) rfl)) (hw _ (List.mem_of_getElem? (i := 63) rfl)) (by decide) (argsL := [(.int (1 : Int32)), (.int k14), (.int k15), (.int (1 : Int32)), (.int k12), (.int k13)]) (rest := []) (c_ck1_1 l Z a0 hw [] k14 k15 k12 k13 T1076.heap n0 zs1085) pd_16 rfl rfl (hb hby at_241) e1087 (by rw [hml]; rfl) (pc' := 244) rfl (by decide) (W := 0) (Nat.le_of_eq rfl) (by decide) (by decide) (by decide) ?_
              intro v1088 T1088 L1088 X1088 hQ1088
              have A1088 := wk X1088 hx hby
              have e1088 : T1088.heap = T1088.heap := rfl
              obtain ⟨z1088, rfl, q1088, N1088, hh1088⟩ := hQ1088
              have e1088 : T1088.heap = T1076.heap := hh1088
              have fr1088 := Fr.app fr1087 N1088
              show Go p e below m (FinH Z consts_1 s h0 room_1.cells room_1.slots (fun v h L => v = some (.int 1) ∧ Fr n0 L)) T1088 244 #[.val (.int p0), .val (.int p1), .val (.int p2), .val (.int p3), .val (.int p4), .val (.int k5), .val (.double x6), .second, .val (.double x8), .second, .val (.int (1 : Int32)), .val (.int (1 : Int32)), .val (.int k12), .val (.int k13), .val (.int k14), .val (.int k15), .val (.ref a1073), .val (.ref a1076), .val (.int z1087), .val (.int (0 : Int32)), .unset] [(.int z1088)]
              refine s_istore A1088 at_244 (pc' := 246) rfl (ls' := #[.val (.int p0), .val (.int p1), .val (.int p2), .val (.int p3), .val (.int p4), .val (.int k5), .val (.double x6), .second, .val (.double x8), .second, .val (.int (1 : Int32)), .val (.int (1 : Int32)), .val (.int k12), .val (.int k13), .val (.int k14), .val (.int k15), .val (.ref a1073), .val (.ref a1076), .val (.int z1087), .val (.int (0 : Int32)), .val (.int z1088)]) rfl ?_
              refine s_iload A1088 at_246 (pc' := 248) rfl rfl ?_
              refine s_iload A1088 at_248 (pc' := 250) rfl rfl ?_
              refine s_icmpne A1088 at_250 (pY := 257) (pN := 253) (by decide) (by decide) rfl ?_ ?_
              · intro c250
                replace c250 := i_ne c250
                rw [show (0 : Int32).toInt = 0 from by decide] at c250
                refine s_iconst A1088 at_257 (pc' := 258) rfl (v := (0 : Int32)) (by decide) ?_
                exfalso; omega
              · intro c250
                replace c250 := i_eq c250
                rw [show (0 : Int32).toInt = 0 from by decide] at c250
                refine s_iconst A1088 at_253 (pc' := 254) rfl (v := (1 : Int32)) (by decide) ?_
                refine s_goto A1088 at_254 (pc' := 258) (by decide) (by decide) ?_
                exact h_ret X1088 hx hZ hlk hS1076 e1088 (Nat.le_refl _) hEL ch1076 hret rfl (Or.inl ⟨rfl, by simp, _, rfl⟩) (hb hby at_258) ⟨rfl, fr1088⟩ (by decide) (by decide)
            · intro c220
              replace c220 := i_lt c220
              refine s_iconst A1087 at_223 (pc' := 224) rfl (v := (1 : Int32)) (by decide) ?_
              refine s_istore A1087 at_224 (pc' := 226) rfl (ls' := #[.val (.int p0), .val (.int p1), .val (.int p2), .val (.int p3), .val (.int p4), .val (.int k5), .val (.double x6), .second, .val (.double x8), .second, .val (.int (1 : Int32)), .val (.int (1 : Int32)), .val (.int k12), .val (.int k13), .val (.int k14), .val (.int k15), .val (.ref a1073), .val (.ref a1076), .val (.int z1087), .val (.int (0 : Int32)), .val (.int (1 : Int32))]) rfl ?_
              refine s_goto A1087 at_226 (pc' := 246) (by decide) (by decide) ?_
              refine s_iload A1087 at_246 (pc' := 248) rfl rfl ?_
              refine s_iload A1087 at_248 (pc' := 250) rfl rfl ?_
              refine s_icmpne A1087 at_250 (pY := 257) (pN := 253) (by decide) (by decide) rfl (fun _ => ?_) (fun c => absurd c (by decide))
              refine s_iconst A1087 at_257 (pc' := 258) rfl (v := (0 : Int32)) (by decide) ?_
              exfalso; omega
          · intro c208
            replace c208 := i_gt c208
            refine s_iconst A1087 at_211 (pc' := 212) rfl (v := (-1 : Int32)) (by decide) ?_
            refine s_istore A1087 at_212 (pc' := 214) rfl (ls' := #[.val (.int p0), .val (.int p1), .val (.int p2), .val (.int p3), .val (.int p4), .val (.int k5), .val (.double x6), .second, .val (.double x8), .second, .val (.int (1 : Int32)), .val (.int (1 : Int32)), .val (.int k12), .val (.int k13), .val (.int k14), .val (.int k15), .val (.ref a1073), .val (.ref a1076), .val (.int z1087), .val (.int (0 : Int32)), .val (.int (-1 : Int32))]) rfl ?_
            refine s_goto A1087 at_214 (pc' := 246) (by decide) (by decide) ?_
            refine s_iload A1087 at_246 (pc' := 248) rfl rfl ?_
            refine s_iload A1087 at_248 (pc' := 250) rfl rfl ?_
            refine s_icmpne A1087 at_250 (pY := 257) (pN := 253) (by decide) (by decide) rfl (fun _ => ?_) (fun c => absurd c (by decide))
            refine s_iconst A1087 at_257 (pc' := 258) rfl (v := (0 : Int32)) (by decide) ?_
            exfalso; omega
        · intro c195
          replace c195 := iz_gt c195
          refine s_iconst A1087 at_198 (pc' := 199) rfl (v := (1 : Int32)) (by decide) ?_
          refine s_goto A1087 at_199 (pc' := 203) (by decide) (by decide) ?_
          refine s_istore A1087 at_203 (pc' := 205) rfl (ls' := #[.val (.int p0), .val (.int p1), .val (.int p2), .val (.int p3), .val (.int p4), .val (.int k5), .val (.double x6), .second, .val (.double x8), .second, .val (.int (1 : Int32)), .val (.int (1 : Int32)), .val (.int k12), .val (.int k13), .val (.int k14), .val (.int k15), .val (.ref a1073), .val (.ref a1076), .val (.int z1087), .val (.int (1 : Int32)), .unset]) rfl ?_
          refine s_iloadN A1087 at_205 (pc' := 206) rfl rfl ?_
          refine s_iload A1087 at_206 (pc' := 208) rfl rfl ?_
          refine s_icmple A1087 at_208 (pY := 217) (pN := 211) (by decide) (by decide) rfl ?_ ?_
          · intro c208
            replace c208 := i_le c208
            refine s_iloadN A1087 at_217 (pc' := 218) rfl rfl ?_
            refine s_iload A1087 at_218 (pc' := 220) rfl rfl ?_
            refine s_icmpge A1087 at_220 (pY := 229) (pN := 223) (by decide) (by decide) rfl ?_ ?_
            · intro c220
              replace c220 := i_ge c220
              refine s_iload A1087 at_229 (pc' := 231) rfl rfl ?_
              refine s_iload A1087 at_231 (pc' := 233) rfl rfl ?_
              refine s_iload A1087 at_233 (pc' := 235) rfl rfl ?_
              refine s_iload A1087 at_235 (pc' := 237) rfl rfl ?_
              refine s_iload A1087 at_237 (pc' := 239) rfl rfl ?_
              refine s_iload A1087 at_239 (pc' := 241) rfl rfl ?_
              refine g_static X1087 hx hZ (y := (⟨"com/example/prox2/prox2/format/RunOrderComparePinLaw", "cmp", "(ICCICC)I"⟩ : MethodName)) hown (hw _ (List.mem_of_getElem? (i := 61) rfl)) (hw _ (List.mem_of_getElem? (i := 62) rfl)) (hw _ (List.mem_of_getElem? (i := 2) rfl)) (hw _ (List.mem_of_getElem? (i := 63) rfl)) (by decide) (argsL := [(.int (1 : Int32)), (.int k14), (.int k15), (.int (1 : Int32)), (.int k12), (.int k13)]) (rest := []) (c_ck1_1 l Z a0 hw [] k14 k15 k12 k13 T1076.heap n0 zs1085) pd_16 rfl rfl (hb hby at_241) e1087 (by rw [hml]; rfl) (pc' := 244) rfl (by decide) (W := 0) (Nat.le_of_eq rfl) (by decide) (by decide) (by decide) ?_
              intro v1089 T1089 L1089 X1089 hQ1089
              have A1089 := wk X1089 hx hby
              have e1089 : T1089.heap = T1089.heap := rfl
              obtain ⟨z1089, rfl, q1089, N1089, hh1089⟩ := hQ1089
              have e1089 : T1089.heap = T1076.heap := hh1089
              have fr1089 := Fr.app fr1087 N1089
              show Go p e below m (FinH Z consts_1 s h0 room_1.cells room_1.slots (fun v h L => v = some (.int 1) ∧ Fr n0 L)) T1089 244 #[.val (.int p0), .val (.int p1), .val (.int p2), .val (.int p3), .val (.int p4), .val (.int k5), .val (.double x6), .second, .val (.double x8), .second, .val (.int (1 : Int32)), .val (.int (1 : Int32)), .val (.int k12), .val (.int k13), .val (.int k14), .val (.int k15), .val (.ref a1073), .val (.ref a1076), .val (.int z1087), .val (.int (1 : Int32)), .unset] [(.int z1089)]
              refine s_istore A1089 at_244 (pc' := 246) rfl (ls' := #[.val (.int p0), .val (.int p1), .val (.int p2), .val (.int p3), .val (.int p4), .val (.int k5), .val (.double x6), .second, .val (.double x8), .second, .val (.int (1 : Int32)), .val (.int (1 : Int32)), .val (.int k12), .val (.int k13), .val (.int k14), .val (.int k15), .val (.ref a1073), .val (.ref a1076), .val (.int z1087), .val (.int (1 : Int32)), .val (.int z1089)]) rfl ?_
              refine s_iload A1089 at_246 (pc' := 248) rfl rfl ?_
              refine s_iload A1089 at_248 (pc' := 250) rfl rfl ?_
              refine s_icmpne A1089 at_250 (pY := 257) (pN := 253) (by decide) (by decide) rfl ?_ ?_
              · intro c250
                replace c250 := i_ne c250
                rw [show (1 : Int32).toInt = 1 from by decide] at c250
                refine s_iconst A1089 at_257 (pc' := 258) rfl (v := (0 : Int32)) (by decide) ?_
                exfalso; omega
              · intro c250
                replace c250 := i_eq c250
                rw [show (1 : Int32).toInt = 1 from by decide] at c250
                refine s_iconst A1089 at_253 (pc' := 254) rfl (v := (1 : Int32)) (by decide) ?_
                refine s_goto A1089 at_254 (pc' := 258) (by decide) (by decide) ?_
                exact h_ret X1089 hx hZ hlk hS1076 e1089 (Nat.le_refl _) hEL ch1076 hret rfl (Or.inl ⟨rfl, by simp, _, rfl⟩) (hb hby at_258) ⟨rfl, fr1089⟩ (by decide) (by decide)
            · intro c220
              replace c220 := i_lt c220
              refine s_iconst A1087 at_223 (pc' := 224) rfl (v := (1 : Int32)) (by decide) ?_
              refine s_istore A1087 at_224 (pc' := 226) rfl (ls' := #[.val (.int p0), .val (.int p1), .val (.int p2), .val (.int p3), .val (.int p4), .val (.int k5), .val (.double x6), .second, .val (.double x8), .second, .val (.int (1 : Int32)), .val (.int (1 : Int32)), .val (.int k12), .val (.int k13), .val (.int k14), .val (.int k15), .val (.ref a1073), .val (.ref a1076), .val (.int z1087), .val (.int (1 : Int32)), .val (.int (1 : Int32))]) rfl ?_
              refine s_goto A1087 at_226 (pc' := 246) (by decide) (by decide) ?_
              refine s_iload A1087 at_246 (pc' := 248) rfl rfl ?_
              refine s_iload A1087 at_248 (pc' := 250) rfl rfl ?_
              refine s_icmpne A1087 at_250 (pY := 257) (pN := 253) (by decide) (by decide) rfl (fun c => absurd c (by decide)) (fun _ => ?_)
              refine s_iconst A1087 at_253 (pc' := 254) rfl (v := (1 : Int32)) (by decide) ?_
              refine s_goto A1087 at_254 (pc' := 258) (by decide) (by decide) ?_
              exact h_ret X1087 hx hZ hlk hS1076 e1087 (Nat.le_refl _) hEL ch1076 hret rfl (Or.inl ⟨rfl, by simp, _, rfl⟩) (hb hby at_258) ⟨rfl, fr1087⟩ (by decide) (by decide)
          · intro c208
            replace c208 := i_gt c208
            refine s_iconst A1087 at_211 (pc' := 212) rfl (v := (-1 : Int32)) (by decide) ?_
            refine s_istore A1087 at_212 (pc' := 214) rfl (ls' := #[.val (.int p0), .val (.int p1), .val (.int p2), .val (.int p3), .val (.int p4), .val (.int k5), .val (.double x6), .second, .val (.double x8), .second, .val (.int (1 : Int32)), .val (.int (1 : Int32)), .val (.int k12), .val (.int k13), .val (.int k14), .val (.int k15), .val (.ref a1073), .val (.ref a1076), .val (.int z1087), .val (.int (1 : Int32)), .val (.int (-1 : Int32))]) rfl ?_
            refine s_goto A1087 at_214 (pc' := 246) (by decide) (by decide) ?_
            refine s_iload A1087 at_246 (pc' := 248) rfl rfl ?_
            refine s_iload A1087 at_248 (pc' := 250) rfl rfl ?_
            refine s_icmpne A1087 at_250 (pY := 257) (pN := 253) (by decide) (by decide) rfl (fun _ => ?_) (fun c => absurd c (by decide))
            refine s_iconst A1087 at_257 (pc' := 258) rfl (v := (0 : Int32)) (by decide) ?_
            exfalso; omega
      · intro c186
        replace c186 := iz_lt c186
        refine s_iconst A1087 at_189 (pc' := 190) rfl (v := (-1 : Int32)) (by decide) ?_
        refine s_goto A1087 at_190 (pc' := 203) (by decide) (by decide) ?_
        refine s_istore A1087 at_203 (pc' := 205) rfl (ls' := #[.val (.int p0), .val (.int p1), .val (.int p2), .val (.int p3), .val (.int p4), .val (.int k5), .val (.double x6), .second, .val (.double x8), .second, .val (.int (1 : Int32)), .val (.int (1 : Int32)), .val (.int k12), .val (.int k13), .val (.int k14), .val (.int k15), .val (.ref a1073), .val (.ref a1076), .val (.int z1087), .val (.int (-1 : Int32)), .unset]) rfl ?_
        refine s_iloadN A1087 at_205 (pc' := 206) rfl rfl ?_
        refine s_iload A1087 at_206 (pc' := 208) rfl rfl ?_
        refine s_icmple A1087 at_208 (pY := 217) (pN := 211) (by decide) (by decide) rfl ?_ ?_
        · intro c208
          replace c208 := i_le c208
          refine s_iloadN A1087 at_217 (pc' := 218) rfl rfl ?_
          refine s_iload A1087 at_218 (pc' := 220) rfl rfl ?_
          refine s_icmpge A1087 at_220 (pY := 229) (pN := 223) (by decide) (by decide) rfl ?_ ?_
          · intro c220
            replace c220 := i_ge c220
            refine s_iload A1087 at_229 (pc' := 231) rfl rfl ?_
            refine s_iload A1087 at_231 (pc' := 233) rfl rfl ?_
            refine s_iload A1087 at_233 (pc' := 235) rfl rfl ?_
            refine s_iload A1087 at_235 (pc' := 237) rfl rfl ?_
            refine s_iload A1087 at_237 (pc' := 239) rfl rfl ?_
            refine s_iload A1087 at_239 (pc' := 241) rfl rfl ?_
            refine g_static X1087 hx hZ (y := (⟨"com/example/prox2/prox2/format/RunOrderComparePinLaw", "cmp", "(ICCICC)I"⟩ : MethodName)) hown (hw _ (List.mem_of_getElem? (i := 61) rfl)) (hw _ (List.mem_of_getElem? (i := 62) rfl)) (hw _ (List.mem_of_getElem? (i := 2) rfl)) (hw _ (List.mem_of_getElem? (i := 63) rfl)) (by decide) (argsL := [(.int (1 : Int32)), (.int k14), (.int k15), (.int (1 : Int32)), (.int k12), (.int k13)]) (rest := []) (c_ck1_1 l Z a0 hw [] k14 k15 k12 k13 T1076.heap n0 zs1085) pd_16 rfl rfl (hb hby at_241) e1087 (by rw [hml]; rfl) (pc' := 244) rfl (by decide) (W := 0) (Nat.le_of_eq rfl) (by decide) (by decide) (by decide) ?_
            intro v1090 T1090 L1090 X1090 hQ1090
            have A1090 := wk X1090 hx hby
            have e1090 : T1090.heap = T1090.heap := rfl
            obtain ⟨z1090, rfl, q1090, N1090, hh1090⟩ := hQ1090
            have e1090 : T1090.heap = T1076.heap := hh1090
            have fr1090 := Fr.app fr1087 N1090
            show Go p e below m (FinH Z consts_1 s h0 room_1.cells room_1.slots (fun v h L => v = some (.int 1) ∧ Fr n0 L)) T1090 244 #[.val (.int p0), .val (.int p1), .val (.int p2), .val (.int p3), .val (.int p4), .val (.int k5), .val (.double x6), .second, .val (.double x8), .second, .val (.int (1 : Int32)), .val (.int (1 : Int32)), .val (.int k12), .val (.int k13), .val (.int k14), .val (.int k15), .val (.ref a1073), .val (.ref a1076), .val (.int z1087), .val (.int (-1 : Int32)), .unset] [(.int z1090)]
            refine s_istore A1090 at_244 (pc' := 246) rfl (ls' := #[.val (.int p0), .val (.int p1), .val (.int p2), .val (.int p3), .val (.int p4), .val (.int k5), .val (.double x6), .second, .val (.double x8), .second, .val (.int (1 : Int32)), .val (.int (1 : Int32)), .val (.int k12), .val (.int k13), .val (.int k14), .val (.int k15), .val (.ref a1073), .val (.ref a1076), .val (.int z1087), .val (.int (-1 : Int32)), .val (.int z1090)]) rfl ?_
            refine s_iload A1090 at_246 (pc' := 248) rfl rfl ?_
            refine s_iload A1090 at_248 (pc' := 250) rfl rfl ?_
            refine s_icmpne A1090 at_250 (pY := 257) (pN := 253) (by decide) (by decide) rfl ?_ ?_
            · intro c250
              replace c250 := i_ne c250
              rw [show (-1 : Int32).toInt = -1 from by decide] at c250
              refine s_iconst A1090 at_257 (pc' := 258) rfl (v := (0 : Int32)) (by decide) ?_
              exfalso; omega
            · intro c250
              replace c250 := i_eq c250
              rw [show (-1 : Int32).toInt = -1 from by decide] at c250
              refine s_iconst A1090 at_253 (pc' := 254) rfl (v := (1 : Int32)) (by decide) ?_
              refine s_goto A1090 at_254 (pc' := 258) (by decide) (by decide) ?_
              exact h_ret X1090 hx hZ hlk hS1076 e1090 (Nat.le_refl _) hEL ch1076 hret rfl (Or.inl ⟨rfl, by simp, _, rfl⟩) (hb hby at_258) ⟨rfl, fr1090⟩ (by decide) (by decide)
          · intro c220
            replace c220 := i_lt c220
            refine s_iconst A1087 at_223 (pc' := 224) rfl (v := (1 : Int32)) (by decide) ?_
            refine s_istore A1087 at_224 (pc' := 226) rfl (ls' := #[.val (.int p0), .val (.int p1), .val (.int p2), .val (.int p3), .val (.int p4), .val (.int k5), .val (.double x6), .second, .val (.double x8), .second, .val (.int (1 : Int32)), .val (.int (1 : Int32)), .val (.int k12), .val (.int k13), .val (.int k14), .val (.int k15), .val (.ref a1073), .val (.ref a1076), .val (.int z1087), .val (.int (-1 : Int32)), .val (.int (1 : Int32))]) rfl ?_
            refine s_goto A1087 at_226 (pc' := 246) (by decide) (by decide) ?_
            refine s_iload A1087 at_246 (pc' := 248) rfl rfl ?_
            refine s_iload A1087 at_248 (pc' := 250) rfl rfl ?_
            refine s_icmpne A1087 at_250 (pY := 257) (pN := 253) (by decide) (by decide) rfl (fun _ => ?_) (fun c => absurd c (by decide))
            refine s_iconst A1087 at_257 (pc' := 258) rfl (v := (0 : Int32)) (by decide) ?_
            exfalso; omega
        · intro c208
          replace c208 := i_gt c208
          refine s_iconst A1087 at_211 (pc' := 212) rfl (v := (-1 : Int32)) (by decide) ?_
          refine s_istore A1087 at_212 (pc' := 214) rfl (ls' := #[.val (.int p0), .val (.int p1), .val (.int p2), .val (.int p3), .val (.int p4), .val (.int k5), .val (.double x6), .second, .val (.double x8), .second, .val (.int (1 : Int32)), .val (.int (1 : Int32)), .val (.int k12), .val (.int k13), .val (.int k14), .val (.int k15), .val (.ref a1073), .val (.ref a1076), .val (.int z1087), .val (.int (-1 : Int32)), .val (.int (-1 : Int32))]) rfl ?_
          refine s_goto A1087 at_214 (pc' := 246) (by decide) (by decide) ?_
          refine s_iload A1087 at_246 (pc' := 248) rfl rfl ?_
          refine s_iload A1087 at_248 (pc' := 250) rfl rfl ?_
          refine s_icmpne A1087 at_250 (pY := 257) (pN := 253) (by decide) (by decide) rfl (fun c => absurd c (by decide)) (fun _ => ?_)
          refine s_iconst A1087 at_253 (pc' := 254) rfl (v := (1 : Int32)) (by decide) ?_
          refine s_goto A1087 at_254 (pc' := 258) (by decide) (by decide) ?_
          exact h_ret X1087 hx hZ hlk hS1076 e1087 (Nat.le_refl _) hEL ch1076 hret rfl (Or.inl ⟨rfl, by simp, _, rfl⟩) (hb hby at_258) ⟨rfl, fr1087⟩ (by decide) (by decide)
    ·
      refine s_iload A0 at_149 (pc' := 151) rfl rfl ?_
      refine s_iload A0 at_151 (pc' := 153) rfl rfl ?_
      refine s_iload A0 at_153 (pc' := 155) rfl rfl ?_
      refine g_staticH X0 hx hZ (y := (⟨"com/example/prox2/prox2/format/RunOrderComparePinLaw", "make", "(ICC)Ljava/lang/String;"⟩ : MethodName)) hown (hw _ (List.mem_of_getElem? (i := 0) rfl)) (hw _ (List.mem_of_getElem? (i := 1) rfl)) (hw _ (List.mem_of_getElem? (i := 2) rfl)) (hw _ (List.mem_of_getElem? (i := 3) rfl)) (by decide) hS0 (Nat.zero_le _) hEL CH0 (argsL := [(.int (1 : Int32)), (.int k12), (.int k13)]) (rest := []) (c_make_1 l Z a0 hw [] cz k12 k13 h0 n0 Z0 O SC hcz B12 B13 hEL) pd_14 rfl rfl (hb hby at_155) e0 (by rw [hml]; rfl) (pc' := 158) rfl (by decide) (W := 0) (Nat.le_of_eq rfl) (by decide) (by decide) (by decide) ?_
      intro v1091 T1091 L1091 X1091 hS1091 hZ hown ch1091 sx1091 hQ1091
      have A1091 := wk X1091 hx hby
      have e1091 : T1091.heap = T1091.heap := rfl
      obtain ⟨a1091, d1091, rfl, N1091, K1091, Ea1091, Fv1091, Fc1091, D1091⟩ := hQ1091
      have kp1092 := Keep.trans (Keep.refl h0 []) K1091 (fun x hx => absurd hx nin0)
      have fr1091 := Fr.app N0 N1091
      show Go p e below m (FinH Z consts_1 s h0 room_1.cells room_1.slots (fun v h L => v = some (.int 1) ∧ Fr n0 L)) T1091 158 #[.val (.int p0), .val (.int p1), .val (.int p2), .val (.int p3), .val (.int p4), .val (.int k5), .val (.double x6), .second, .val (.double x8), .second, .val (.int (1 : Int32)), .val (.int (2 : Int32)), .val (.int k12), .val (.int k13), .val (.int k14), .val (.int k15), .unset, .unset, .unset, .unset, .unset] [(.ref a1091)]
      refine s_astore A1091 at_158 (pc' := 160) rfl (ls' := #[.val (.int p0), .val (.int p1), .val (.int p2), .val (.int p3), .val (.int p4), .val (.int k5), .val (.double x6), .second, .val (.double x8), .second, .val (.int (1 : Int32)), .val (.int (2 : Int32)), .val (.int k12), .val (.int k13), .val (.int k14), .val (.int k15), .val (.ref a1091), .unset, .unset, .unset, .unset]) rfl rfl ?_
      refine s_iload A1091 at_160 (pc' := 162) rfl rfl ?_
      refine s_iload A1091 at_162 (pc' := 164) rfl rfl ?_
      refine s_iload A1091 at_164 (pc' := 166) rfl rfl ?_
      have f1093 := (Old.keep O K1091 (fun x hx => absurd hx nin0))
      have sz1096 : h0.size ≤ T1091.heap.size := K1091.1
      have zs1095 : n0 ≤ T1091.heap.size := Nat.le_trans Z0 sz1096
      refine g_staticH X1091 hx hZ (y := (⟨"com/example/prox2/prox2/format/RunOrderComparePinLaw", "make", "(ICC)Ljava/lang/String;"⟩ : MethodName)) hown (hw _ (List.mem_of_getElem? (i := 0) rfl)) (hw _ (List.mem_of_getElem? (i := 1) rfl)) (hw _ (List.mem_of_getElem? (i := 2) rfl)) (hw _ (List.mem_of_getElem? (i := 3) rfl)) (by decide) hS1091 (Nat.le_refl _) hEL ch1091 (argsL := [(.int (2 : Int32)), (.int k14), (.int k15)]) (rest := []) (c_make_2 l Z a0 hw [] cz k14 k15 T1091.heap n0 zs1095 f1093 SC hcz B14 B15 hEL) pd_14 rfl rfl (hb hby at_166) e1091 (by rw [hml]; rfl) (pc' := 169) rfl (by decide) (W := 0) (Nat.le_of_eq rfl) (by decide) (by decide) (by decide) ?_
      intro v1094 T1094 L1094 X1094 hS1094 hZ hown ch1094 sx1094 hQ1094
      have A1094 := wk X1094 hx hby
      have e1094 : T1094.heap = T1094.heap := rfl
      obtain ⟨a1094, d1094, rfl, N1094, K1094, Ea1094, Fv1094, Fc1094, D1094⟩ := hQ1094
      have kp1097 := Keep.trans kp1092 K1094 (fun x hx => absurd hx nin0)
      have fr1094 := Fr.app fr1091 N1094
      show Go p e below m (FinH Z consts_1 s h0 room_1.cells room_1.slots (fun v h L => v = some (.int 1) ∧ Fr n0 L)) T1094 169 #[.val (.int p0), .val (.int p1), .val (.int p2), .val (.int p3), .val (.int p4), .val (.int k5), .val (.double x6), .second, .val (.double x8), .second, .val (.int (1 : Int32)), .val (.int (2 : Int32)), .val (.int k12), .val (.int k13), .val (.int k14), .val (.int k15), .val (.ref a1091), .unset, .unset, .unset, .unset] [(.ref a1094)]
      refine s_astore A1094 at_169 (pc' := 171) rfl (ls' := #[.val (.int p0), .val (.int p1), .val (.int p2), .val (.int p3), .val (.int p4), .val (.int k5), .val (.double x6), .second, .val (.double x8), .second, .val (.int (1 : Int32)), .val (.int (2 : Int32)), .val (.int k12), .val (.int k13), .val (.int k14), .val (.int k15), .val (.ref a1091), .val (.ref a1094), .unset, .unset, .unset]) rfl rfl ?_
      refine s_dload A1094 at_171 (pc' := 173) rfl rfl ?_
      refine s_aload A1094 at_173 (pc' := 175) rfl rfl rfl ?_
      refine s_dload A1094 at_175 (pc' := 177) rfl rfl ?_
      refine s_aload A1094 at_177 (pc' := 179) rfl rfl rfl ?_
      have f1098 := (Old.keep f1093 K1094 (fun x hx => absurd hx nin0))
      have f1099 := (Exa.keep Ea1091 K1094)
      have f1100 := (Fld.keep Fv1091 K1094 nin0)
      have f1101 := (Fld.keep Fc1091 K1094 nin0)
      have f1102 := (Ars.keep D1091 K1094 nin0)
      have sz1104 : h0.size ≤ T1094.heap.size := (Nat.le_trans sz1096 K1094.1)
      have zs1103 : n0 ≤ T1094.heap.size := Nat.le_trans Z0 sz1104
      refine g_static X1094 hx hZ (y := (⟨"com/example/prox2/prox2/format/RunOrder", "compare", "(DLjava/lang/String;DLjava/lang/String;)I"⟩ : MethodName)) hown (hw _ (List.mem_of_getElem? (i := 26) rfl)) (hw _ (List.mem_of_getElem? (i := 27) rfl)) (hw _ (List.mem_of_getElem? (i := 28) rfl)) (hw _ (List.mem_of_getElem? (i := 29) rfl)) (by decide) (argsL := [(.double x6), (.ref a1091), (.double x8), (.ref a1094)]) (rest := []) (c_rc2_1 l Z a0 hw [] x6 x8 p0.toInt k5.toInt a1094 d1094 a1091 d1091 cz fv k14 k15 k12 T1094.heap n0 zs1103 y6 y8 Ea1094 Fv1094 Fc1094 D1094 f1098 SC hcz f1099 f1100 f1101 f1102 SF hfv B14 B15 B12) pd_15 rfl rfl (hb hby at_179) e1094 (by rw [hml]; rfl) (pc' := 182) rfl (by decide) (W := 0) (Nat.le_of_eq rfl) (by decide) (by decide) (by decide) ?_
      intro v1105 T1105 L1105 X1105 hQ1105
      have A1105 := wk X1105 hx hby
      have e1105 : T1105.heap = T1105.heap := rfl
      obtain ⟨z1105, rfl, q1105, N1105, hh1105⟩ := hQ1105
      have e1105 : T1105.heap = T1094.heap := hh1105
      have fr1105 := Fr.app fr1094 N1105
      show Go p e below m (FinH Z consts_1 s h0 room_1.cells room_1.slots (fun v h L => v = some (.int 1) ∧ Fr n0 L)) T1105 182 #[.val (.int p0), .val (.int p1), .val (.int p2), .val (.int p3), .val (.int p4), .val (.int k5), .val (.double x6), .second, .val (.double x8), .second, .val (.int (1 : Int32)), .val (.int (2 : Int32)), .val (.int k12), .val (.int k13), .val (.int k14), .val (.int k15), .val (.ref a1091), .val (.ref a1094), .unset, .unset, .unset] [(.int z1105)]
      refine s_istore A1105 at_182 (pc' := 184) rfl (ls' := #[.val (.int p0), .val (.int p1), .val (.int p2), .val (.int p3), .val (.int p4), .val (.int k5), .val (.double x6), .second, .val (.double x8), .second, .val (.int (1 : Int32)), .val (.int (2 : Int32)), .val (.int k12), .val (.int k13), .val (.int k14), .val (.int k15), .val (.ref a1091), .val (.ref a1094), .val (.int z1105), .unset, .unset]) rfl ?_
      refine s_iload A1105 at_184 (pc' := 186) rfl rfl ?_
      refine s_ifge A1105 at_186 (pY := 193) (pN := 189) (by decide) (by decide) rfl ?_ ?_
      · intro c186
        replace c186 := iz_ge c186
        refine s_iload A1105 at_193 (pc' := 195) rfl rfl ?_
        refine s_ifle A1105 at_195 (pY := 202) (pN := 198) (by decide) (by decide) rfl ?_ ?_
        · intro c195
          replace c195 := iz_le c195
          refine s_iconst A1105 at_202 (pc' := 203) rfl (v := (0 : Int32)) (by decide) ?_
          refine s_istore A1105 at_203 (pc' := 205) rfl (ls' := #[.val (.int p0), .val (.int p1), .val (.int p2), .val (.int p3), .val (.int p4), .val (.int k5), .val (.double x6), .second, .val (.double x8), .second, .val (.int (1 : Int32)), .val (.int (2 : Int32)), .val (.int k12), .val (.int k13), .val (.int k14), .val (.int k15), .val (.ref a1091), .val (.ref a1094), .val (.int z1105), .val (.int (0 : Int32)), .unset]) rfl ?_
          refine s_iloadN A1105 at_205 (pc' := 206) rfl rfl ?_
          refine s_iload A1105 at_206 (pc' := 208) rfl rfl ?_
          refine s_icmple A1105 at_208 (pY := 217) (pN := 211) (by decide) (by decide) rfl ?_ ?_
          · intro c208
            replace c208 := i_le c208
            refine s_iloadN A1105 at_217 (pc' := 218) rfl rfl ?_
            refine s_iload A1105 at_218 (pc' := 220) rfl rfl ?_
            refine s_icmpge A1105 at_220 (pY := 229) (pN := 223) (by decide) (by decide) rfl ?_ ?_
            · intro c220
              replace c220 := i_ge c220
              refine s_iload A1105 at_229 (pc' := 231) rfl rfl ?_
              refine s_iload A1105 at_231 (pc' := 233) rfl rfl ?_
              refine s_iload A1105 at_233 (pc' := 235) rfl rfl ?_
              refine s_iload A1105 at_235 (pc' := 237) rfl rfl ?_
              refine s_iload A1105 at_237 (pc' := 239) rfl rfl ?_
              refine s_iload A1105 at_239 (pc' := 241) rfl rfl ?_
              refine g_static X1105 hx hZ (y := (⟨"com/example/prox2/prox2/format/RunOrderComparePinLaw", "cmp", "(ICCICC)I"⟩ : MethodName)) hown (hw _ (List.mem_of_getElem? (i := 61) rfl)) (hw _ (List.mem_of_getElem? (i := 62) rfl)) (hw _ (List.mem_of_getElem? (i := 2) rfl)) (hw _ (List.mem_of_getElem? (i := 63) rfl)) (by decide) (argsL := [(.int (2 : Int32)), (.int k14), (.int k15), (.int (1 : Int32)), (.int k12), (.int k13)]) (rest := []) (c_ck2_1 l Z a0 hw [] k14 k15 k12 k13 T1094.heap n0 zs1103) pd_16 rfl rfl (hb hby at_241) e1105 (by rw [hml]; rfl) (pc' := 244) rfl (by decide) (W := 0) (Nat.le_of_eq rfl) (by decide) (by decide) (by decide) ?_
              intro v1106 T1106 L1106 X1106 hQ1106
              have A1106 := wk X1106 hx hby
              have e1106 : T1106.heap = T1106.heap := rfl
              obtain ⟨z1106, rfl, q1106, N1106, hh1106⟩ := hQ1106
              have e1106 : T1106.heap = T1094.heap := hh1106
              have fr1106 := Fr.app fr1105 N1106
              show Go p e below m (FinH Z consts_1 s h0 room_1.cells room_1.slots (fun v h L => v = some (.int 1) ∧ Fr n0 L)) T1106 244 #[.val (.int p0), .val (.int p1), .val (.int p2), .val (.int p3), .val (.int p4), .val (.int k5), .val (.double x6), .second, .val (.double x8), .second, .val (.int (1 : Int32)), .val (.int (2 : Int32)), .val (.int k12), .val (.int k13), .val (.int k14), .val (.int k15), .val (.ref a1091), .val (.ref a1094), .val (.int z1105), .val (.int (0 : Int32)), .unset] [(.int z1106)]
              refine s_istore A1106 at_244 (pc' := 246) rfl (ls' := #[.val (.int p0), .val (.int p1), .val (.int p2), .val (.int p3), .val (.int p4), .val (.int k5), .val (.double x6), .second, .val (.double x8), .second, .val (.int (1 : Int32)), .val (.int (2 : Int32)), .val (.int k12), .val (.int k13), .val (.int k14), .val (.int k15), .val (.ref a1091), .val (.ref a1094), .val (.int z1105), .val (.int (0 : Int32)), .val (.int z1106)]) rfl ?_
              refine s_iload A1106 at_246 (pc' := 248) rfl rfl ?_
              refine s_iload A1106 at_248 (pc' := 250) rfl rfl ?_
              refine s_icmpne A1106 at_250 (pY := 257) (pN := 253) (by decide) (by decide) rfl ?_ ?_
              · intro c250
                replace c250 := i_ne c250
                rw [show (0 : Int32).toInt = 0 from by decide] at c250
                refine s_iconst A1106 at_257 (pc' := 258) rfl (v := (0 : Int32)) (by decide) ?_
                exfalso; omega
              · intro c250
                replace c250 := i_eq c250
                rw [show (0 : Int32).toInt = 0 from by decide] at c250
                refine s_iconst A1106 at_253 (pc' := 254) rfl (v := (1 : Int32)) (by decide) ?_
                refine s_goto A1106 at_254 (pc' := 258) (by decide) (by decide) ?_
                exact h_ret X1106 hx hZ hlk hS1094 e1106 (Nat.le_refl _) hEL ch1094 hret rfl (Or.inl ⟨rfl, by simp, _, rfl⟩) (hb hby at_258) ⟨rfl, fr1106⟩ (by decide) (by decide)
            · intro c220
              replace c220 := i_lt c220
              refine s_iconst A1105 at_223 (pc' := 224) rfl (v := (1 : Int32)) (by decide) ?_
              refine s_istore A1105 at_224 (pc' := 226) rfl (ls' := #[.val (.int p0), .val (.int p1), .val (.int p2), .val (.int p3), .val (.int p4), .val (.int k5), .val (.double x6), .second, .val (.double x8), .second, .val (.int (1 : Int32)), .val (.int (2 : Int32)), .val (.int k12), .val (.int k13), .val (.int k14), .val (.int k15), .val (.ref a1091), .val (.ref a1094), .val (.int z1105), .val (.int (0 : Int32)), .val (.int (1 : Int32))]) rfl ?_
              refine s_goto A1105 at_226 (pc' := 246) (by decide) (by decide) ?_
              refine s_iload A1105 at_246 (pc' := 248) rfl rfl ?_
              refine s_iload A1105 at_248 (pc' := 250) rfl rfl ?_
              refine s_icmpne A1105 at_250 (pY := 257) (pN := 253) (by decide) (by decide) rfl (fun _ => ?_) (fun c => absurd c (by decide))
              refine s_iconst A1105 at_257 (pc' := 258) rfl (v := (0 : Int32)) (by decide) ?_
              exfalso; omega
          · intro c208
            replace c208 := i_gt c208
            refine s_iconst A1105 at_211 (pc' := 212) rfl (v := (-1 : Int32)) (by decide) ?_
            refine s_istore A1105 at_212 (pc' := 214) rfl (ls' := #[.val (.int p0), .val (.int p1), .val (.int p2), .val (.int p3), .val (.int p4), .val (.int k5), .val (.double x6), .second, .val (.double x8), .second, .val (.int (1 : Int32)), .val (.int (2 : Int32)), .val (.int k12), .val (.int k13), .val (.int k14), .val (.int k15), .val (.ref a1091), .val (.ref a1094), .val (.int z1105), .val (.int (0 : Int32)), .val (.int (-1 : Int32))]) rfl ?_
            refine s_goto A1105 at_214 (pc' := 246) (by decide) (by decide) ?_
            refine s_iload A1105 at_246 (pc' := 248) rfl rfl ?_
            refine s_iload A1105 at_248 (pc' := 250) rfl rfl ?_
            refine s_icmpne A1105 at_250 (pY := 257) (pN := 253) (by decide) (by decide) rfl (fun _ => ?_) (fun c => absurd c (by decide))
            refine s_iconst A1105 at_257 (pc' := 258) rfl (v := (0 : Int32)) (by decide) ?_
            exfalso; omega
        · intro c195
          replace c195 := iz_gt c195
          refine s_iconst A1105 at_198 (pc' := 199) rfl (v := (1 : Int32)) (by decide) ?_
          refine s_goto A1105 at_199 (pc' := 203) (by decide) (by decide) ?_
          refine s_istore A1105 at_203 (pc' := 205) rfl (ls' := #[.val (.int p0), .val (.int p1), .val (.int p2), .val (.int p3), .val (.int p4), .val (.int k5), .val (.double x6), .second, .val (.double x8), .second, .val (.int (1 : Int32)), .val (.int (2 : Int32)), .val (.int k12), .val (.int k13), .val (.int k14), .val (.int k15), .val (.ref a1091), .val (.ref a1094), .val (.int z1105), .val (.int (1 : Int32)), .unset]) rfl ?_
          refine s_iloadN A1105 at_205 (pc' := 206) rfl rfl ?_
          refine s_iload A1105 at_206 (pc' := 208) rfl rfl ?_
          refine s_icmple A1105 at_208 (pY := 217) (pN := 211) (by decide) (by decide) rfl ?_ ?_
          · intro c208
            replace c208 := i_le c208
            refine s_iloadN A1105 at_217 (pc' := 218) rfl rfl ?_
            refine s_iload A1105 at_218 (pc' := 220) rfl rfl ?_
            refine s_icmpge A1105 at_220 (pY := 229) (pN := 223) (by decide) (by decide) rfl ?_ ?_
            · intro c220
              replace c220 := i_ge c220
              refine s_iload A1105 at_229 (pc' := 231) rfl rfl ?_
              refine s_iload A1105 at_231 (pc' := 233) rfl rfl ?_
              refine s_iload A1105 at_233 (pc' := 235) rfl rfl ?_
              refine s_iload A1105 at_235 (pc' := 237) rfl rfl ?_
              refine s_iload A1105 at_237 (pc' := 239) rfl rfl ?_
              refine s_iload A1105 at_239 (pc' := 241) rfl rfl ?_
              refine g_static X1105 hx hZ (y := (⟨"com/example/prox2/prox2/format/RunOrderComparePinLaw", "cmp", "(ICCICC)I"⟩ : MethodName)) hown (hw _ (List.mem_of_getElem? (i := 61) rfl)) (hw _ (List.mem_of_getElem? (i := 62) rfl)) (hw _ (List.mem_of_getElem? (i := 2) rfl)) (hw _ (List.mem_of_getElem? (i := 63) rfl)) (by decide) (argsL := [(.int (2 : Int32)), (.int k14), (.int k15), (.int (1 : Int32)), (.int k12), (.int k13)]) (rest := []) (c_ck2_1 l Z a0 hw [] k14 k15 k12 k13 T1094.heap n0 zs1103) pd_16 rfl rfl (hb hby at_241) e1105 (by rw [hml]; rfl) (pc' := 244) rfl (by decide) (W := 0) (Nat.le_of_eq rfl) (by decide) (by decide) (by decide) ?_
              intro v1107 T1107 L1107 X1107 hQ1107
              have A1107 := wk X1107 hx hby
              have e1107 : T1107.heap = T1107.heap := rfl
              obtain ⟨z1107, rfl, q1107, N1107, hh1107⟩ := hQ1107
              have e1107 : T1107.heap = T1094.heap := hh1107
              have fr1107 := Fr.app fr1105 N1107
              show Go p e below m (FinH Z consts_1 s h0 room_1.cells room_1.slots (fun v h L => v = some (.int 1) ∧ Fr n0 L)) T1107 244 #[.val (.int p0), .val (.int p1), .val (.int p2), .val (.int p3), .val (.int p4), .val (.int k5), .val (.double x6), .second, .val (.double x8), .second, .val (.int (1 : Int32)), .val (.int (2 : Int32)), .val (.int k12), .val (.int k13), .val (.int k14), .val (.int k15), .val (.ref a1091), .val (.ref a1094), .val (.int z1105), .val (.int (1 : Int32)), .unset] [(.int z1107)]
              refine s_istore A1107 at_244 (pc' := 246) rfl (ls' := #[.val (.int p0), .val (.int p1), .val (.int p2), .val (.int p3), .val (.int p4), .val (.int k5), .val (.double x6), .second, .val (.double x8), .second, .val (.int (1 : Int32)), .val (.int (2 : Int32)), .val (.int k12), .val (.int k13), .val (.int k14), .val (.int k15), .val (.ref a1091), .val (.ref a1094), .val (.int z1105), .val (.int (1 : Int32)), .val (.int z1107)]) rfl ?_
              refine s_iload A1107 at_246 (pc' := 248) rfl rfl ?_
              refine s_iload A1107 at_248 (pc' := 250) rfl rfl ?_
              refine s_icmpne A1107 at_250 (pY := 257) (pN := 253) (by decide) (by decide) rfl ?_ ?_
              · intro c250
                replace c250 := i_ne c250
                rw [show (1 : Int32).toInt = 1 from by decide] at c250
                refine s_iconst A1107 at_257 (pc' := 258) rfl (v := (0 : Int32)) (by decide) ?_
                exfalso; omega
              · intro c250
                replace c250 := i_eq c250
                rw [show (1 : Int32).toInt = 1 from by decide] at c250
                refine s_iconst A1107 at_253 (pc' := 254) rfl (v := (1 : Int32)) (by decide) ?_
                refine s_goto A1107 at_254 (pc' := 258) (by decide) (by decide) ?_
                exact h_ret X1107 hx hZ hlk hS1094 e1107 (Nat.le_refl _) hEL ch1094 hret rfl (Or.inl ⟨rfl, by simp, _, rfl⟩) (hb hby at_258) ⟨rfl, fr1107⟩ (by decide) (by decide)
            · intro c220
              replace c220 := i_lt c220
              refine s_iconst A1105 at_223 (pc' := 224) rfl (v := (1 : Int32)) (by decide) ?_
              refine s_istore A1105 at_224 (pc' := 226) rfl (ls' := #[.val (.int p0), .val (.int p1), .val (.int p2), .val (.int p3), .val (.int p4), .val (.int k5), .val (.double x6), .second, .val (.double x8), .second, .val (.int (1 : Int32)), .val (.int (2 : Int32)), .val (.int k12), .val (.int k13), .val (.int k14), .val (.int k15), .val (.ref a1091), .val (.ref a1094), .val (.int z1105), .val (.int (1 : Int32)), .val (.int (1 : Int32))]) rfl ?_
              refine s_goto A1105 at_226 (pc' := 246) (by decide) (by decide) ?_
              refine s_iload A1105 at_246 (pc' := 248) rfl rfl ?_
              refine s_iload A1105 at_248 (pc' := 250) rfl rfl ?_
              refine s_icmpne A1105 at_250 (pY := 257) (pN := 253) (by decide) (by decide) rfl (fun c => absurd c (by decide)) (fun _ => ?_)
              refine s_iconst A1105 at_253 (pc' := 254) rfl (v := (1 : Int32)) (by decide) ?_
              refine s_goto A1105 at_254 (pc' := 258) (by decide) (by decide) ?_
              exact h_ret X1105 hx hZ hlk hS1094 e1105 (Nat.le_refl _) hEL ch1094 hret rfl (Or.inl ⟨rfl, by simp, _, rfl⟩) (hb hby at_258) ⟨rfl, fr1105⟩ (by decide) (by decide)
          · intro c208
            replace c208 := i_gt c208
            refine s_iconst A1105 at_211 (pc' := 212) rfl (v := (-1 : Int32)) (by decide) ?_
            refine s_istore A1105 at_212 (pc' := 214) rfl (ls' := #[.val (.int p0), .val (.int p1), .val (.int p2), .val (.int p3), .val (.int p4), .val (.int k5), .val (.double x6), .second, .val (.double x8), .second, .val (.int (1 : Int32)), .val (.int (2 : Int32)), .val (.int k12), .val (.int k13), .val (.int k14), .val (.int k15), .val (.ref a1091), .val (.ref a1094), .val (.int z1105), .val (.int (1 : Int32)), .val (.int (-1 : Int32))]) rfl ?_
            refine s_goto A1105 at_214 (pc' := 246) (by decide) (by decide) ?_
            refine s_iload A1105 at_246 (pc' := 248) rfl rfl ?_
            refine s_iload A1105 at_248 (pc' := 250) rfl rfl ?_
            refine s_icmpne A1105 at_250 (pY := 257) (pN := 253) (by decide) (by decide) rfl (fun _ => ?_) (fun c => absurd c (by decide))
            refine s_iconst A1105 at_257 (pc' := 258) rfl (v := (0 : Int32)) (by decide) ?_
            exfalso; omega
      · intro c186
        replace c186 := iz_lt c186
        refine s_iconst A1105 at_189 (pc' := 190) rfl (v := (-1 : Int32)) (by decide) ?_
        refine s_goto A1105 at_190 (pc' := 203) (by decide) (by decide) ?_
        refine s_istore A1105 at_203 (pc' := 205) rfl (ls' := #[.val (.int p0), .val (.int p1), .val (.int p2), .val (.int p3), .val (.int p4), .val (.int k5), .val (.double x6), .second, .val (.double x8), .second, .val (.int (1 : Int32)), .val (.int (2 : Int32)), .val (.int k12), .val (.int k13), .val (.int k14), .val (.int k15), .val (.ref a1091), .val (.ref a1094), .val (.int z1105), .val (.int (-1 : Int32)), .unset]) rfl ?_
        refine s_iloadN A1105 at_205 (pc' := 206) rfl rfl ?_
        refine s_iload A1105 at_206 (pc' := 208) rfl rfl ?_
        refine s_icmple A1105 at_208 (pY := 217) (pN := 211) (by decide) (by decide) rfl ?_ ?_
        · intro c208
          replace c208 := i_le c208
          refine s_iloadN A1105 at_217 (pc' := 218) rfl rfl ?_
          refine s_iload A1105 at_218 (pc' := 220) rfl rfl ?_
          refine s_icmpge A1105 at_220 (pY := 229) (pN := 223) (by decide) (by decide) rfl ?_ ?_
          · intro c220
            replace c220 := i_ge c220
            refine s_iload A1105 at_229 (pc' := 231) rfl rfl ?_
            refine s_iload A1105 at_231 (pc' := 233) rfl rfl ?_
            refine s_iload A1105 at_233 (pc' := 235) rfl rfl ?_
            refine s_iload A1105 at_235 (pc' := 237) rfl rfl ?_
            refine s_iload A1105 at_237 (pc' := 239) rfl rfl ?_
            refine s_iload A1105 at_239 (pc' := 241) rfl rfl ?_
            refine g_static X1105 hx hZ (y := (⟨"com/example/prox2/prox2/format/RunOrderComparePinLaw", "cmp", "(ICCICC)I"⟩ : MethodName)) hown (hw _ (List.mem_of_getElem? (i := 61) rfl)) (hw _ (List.mem_of_getElem? (i := 62) rfl)) (hw _ (List.mem_of_getElem? (i := 2) rfl)) (hw _ (List.mem_of_getElem? (i := 63) rfl)) (by decide) (argsL := [(.int (2 : Int32)), (.int k14), (.int k15), (.int (1 : Int32)), (.int k12), (.int k13)]) (rest := []) (c_ck2_1 l Z a0 hw [] k14 k15 k12 k13 T1094.heap n0 zs1103) pd_16 rfl rfl (hb hby at_241) e1105 (by rw [hml]; rfl) (pc' := 244) rfl (by decide) (W := 0) (Nat.le_of_eq rfl) (by decide) (by decide) (by decide) ?_
            intro v1108 T1108 L1108 X1108 hQ1108
            have A1108 := wk X1108 hx hby
            have e1108 : T1108.heap = T1108.heap := rfl
            obtain ⟨z1108, rfl, q1108, N1108, hh1108⟩ := hQ1108
            have e1108 : T1108.heap = T1094.heap := hh1108
            have fr1108 := Fr.app fr1105 N1108
            show Go p e below m (FinH Z consts_1 s h0 room_1.cells room_1.slots (fun v h L => v = some (.int 1) ∧ Fr n0 L)) T1108 244 #[.val (.int p0), .val (.int p1), .val (.int p2), .val (.int p3), .val (.int p4), .val (.int k5), .val (.double x6), .second, .val (.double x8), .second, .val (.int (1 : Int32)), .val (.int (2 : Int32)), .val (.int k12), .val (.int k13), .val (.int k14), .val (.int k15), .val (.ref a1091), .val (.ref a1094), .val (.int z1105), .val (.int (-1 : Int32)), .unset] [(.int z1108)]
            refine s_istore A1108 at_244 (pc' := 246) rfl (ls' := #[.val (.int p0), .val (.int p1), .val (.int p2), .val (.int p3), .val (.int p4), .val (.int k5), .val (.double x6), .second, .val (.double x8), .second, .val (.int (1 : Int32)), .val (.int (2 : Int32)), .val (.int k12), .val (.int k13), .val (.int k14), .val (.int k15), .val (.ref a1091), .val (.ref a1094), .val (.int z1105), .val (.int (-1 : Int32)), .val (.int z1108)]) rfl ?_
            refine s_iload A1108 at_246 (pc' := 248) rfl rfl ?_
            refine s_iload A1108 at_248 (pc' := 250) rfl rfl ?_
            refine s_icmpne A1108 at_250 (pY := 257) (pN := 253) (by decide) (by decide) rfl ?_ ?_
            · intro c250
              replace c250 := i_ne c250
              rw [show (-1 : Int32).toInt = -1 from by decide] at c250
              refine s_iconst A1108 at_257 (pc' := 258) rfl (v := (0 : Int32)) (by decide) ?_
              exfalso; omega
            · intro c250
              replace c250 := i_eq c250
              rw [show (-1 : Int32).toInt = -1 from by decide] at c250
              refine s_iconst A1108 at_253 (pc' := 254) rfl (v := (1 : Int32)) (by decide) ?_
              refine s_goto A1108 at_254 (pc' := 258) (by decide) (by decide) ?_
              exact h_ret X1108 hx hZ hlk hS1094 e1108 (Nat.le_refl _) hEL ch1094 hret rfl (Or.inl ⟨rfl, by simp, _, rfl⟩) (hb hby at_258) ⟨rfl, fr1108⟩ (by decide) (by decide)
          · intro c220
            replace c220 := i_lt c220
            refine s_iconst A1105 at_223 (pc' := 224) rfl (v := (1 : Int32)) (by decide) ?_
            refine s_istore A1105 at_224 (pc' := 226) rfl (ls' := #[.val (.int p0), .val (.int p1), .val (.int p2), .val (.int p3), .val (.int p4), .val (.int k5), .val (.double x6), .second, .val (.double x8), .second, .val (.int (1 : Int32)), .val (.int (2 : Int32)), .val (.int k12), .val (.int k13), .val (.int k14), .val (.int k15), .val (.ref a1091), .val (.ref a1094), .val (.int z1105), .val (.int (-1 : Int32)), .val (.int (1 : Int32))]) rfl ?_
            refine s_goto A1105 at_226 (pc' := 246) (by decide) (by decide) ?_
            refine s_iload A1105 at_246 (pc' := 248) rfl rfl ?_
            refine s_iload A1105 at_248 (pc' := 250) rfl rfl ?_
            refine s_icmpne A1105 at_250 (pY := 257) (pN := 253) (by decide) (by decide) rfl (fun _ => ?_) (fun c => absurd c (by decide))
            refine s_iconst A1105 at_257 (pc' := 258) rfl (v := (0 : Int32)) (by decide) ?_
            exfalso; omega
        · intro c208
          replace c208 := i_gt c208
          refine s_iconst A1105 at_211 (pc' := 212) rfl (v := (-1 : Int32)) (by decide) ?_
          refine s_istore A1105 at_212 (pc' := 214) rfl (ls' := #[.val (.int p0), .val (.int p1), .val (.int p2), .val (.int p3), .val (.int p4), .val (.int k5), .val (.double x6), .second, .val (.double x8), .second, .val (.int (1 : Int32)), .val (.int (2 : Int32)), .val (.int k12), .val (.int k13), .val (.int k14), .val (.int k15), .val (.ref a1091), .val (.ref a1094), .val (.int z1105), .val (.int (-1 : Int32)), .val (.int (-1 : Int32))]) rfl ?_
          refine s_goto A1105 at_214 (pc' := 246) (by decide) (by decide) ?_
          refine s_iload A1105 at_246 (pc' := 248) rfl rfl ?_
          refine s_iload A1105 at_248 (pc' := 250) rfl rfl ?_
          refine s_icmpne A1105 at_250 (pY := 257) (pN := 253) (by decide) (by decide) rfl (fun c => absurd c (by decide)) (fun _ => ?_)
          refine s_iconst A1105 at_253 (pc' := 254) rfl (v := (1 : Int32)) (by decide) ?_
          refine s_goto A1105 at_254 (pc' := 258) (by decide) (by decide) ?_
          exact h_ret X1105 hx hZ hlk hS1094 e1105 (Nat.le_refl _) hEL ch1094 hret rfl (Or.inl ⟨rfl, by simp, _, rfl⟩) (hb hby at_258) ⟨rfl, fr1105⟩ (by decide) (by decide)
    ·
      refine s_iload A0 at_149 (pc' := 151) rfl rfl ?_
      refine s_iload A0 at_151 (pc' := 153) rfl rfl ?_
      refine s_iload A0 at_153 (pc' := 155) rfl rfl ?_
      refine g_staticH X0 hx hZ (y := (⟨"com/example/prox2/prox2/format/RunOrderComparePinLaw", "make", "(ICC)Ljava/lang/String;"⟩ : MethodName)) hown (hw _ (List.mem_of_getElem? (i := 0) rfl)) (hw _ (List.mem_of_getElem? (i := 1) rfl)) (hw _ (List.mem_of_getElem? (i := 2) rfl)) (hw _ (List.mem_of_getElem? (i := 3) rfl)) (by decide) hS0 (Nat.zero_le _) hEL CH0 (argsL := [(.int (2 : Int32)), (.int k12), (.int k13)]) (rest := []) (c_make_2 l Z a0 hw [] cz k12 k13 h0 n0 Z0 O SC hcz B12 B13 hEL) pd_14 rfl rfl (hb hby at_155) e0 (by rw [hml]; rfl) (pc' := 158) rfl (by decide) (W := 0) (Nat.le_of_eq rfl) (by decide) (by decide) (by decide) ?_
      intro v1109 T1109 L1109 X1109 hS1109 hZ hown ch1109 sx1109 hQ1109
      have A1109 := wk X1109 hx hby
      have e1109 : T1109.heap = T1109.heap := rfl
      obtain ⟨a1109, d1109, rfl, N1109, K1109, Ea1109, Fv1109, Fc1109, D1109⟩ := hQ1109
      have kp1110 := Keep.trans (Keep.refl h0 []) K1109 (fun x hx => absurd hx nin0)
      have fr1109 := Fr.app N0 N1109
      show Go p e below m (FinH Z consts_1 s h0 room_1.cells room_1.slots (fun v h L => v = some (.int 1) ∧ Fr n0 L)) T1109 158 #[.val (.int p0), .val (.int p1), .val (.int p2), .val (.int p3), .val (.int p4), .val (.int k5), .val (.double x6), .second, .val (.double x8), .second, .val (.int (2 : Int32)), .val (.int (0 : Int32)), .val (.int k12), .val (.int k13), .val (.int k14), .val (.int k15), .unset, .unset, .unset, .unset, .unset] [(.ref a1109)]
      refine s_astore A1109 at_158 (pc' := 160) rfl (ls' := #[.val (.int p0), .val (.int p1), .val (.int p2), .val (.int p3), .val (.int p4), .val (.int k5), .val (.double x6), .second, .val (.double x8), .second, .val (.int (2 : Int32)), .val (.int (0 : Int32)), .val (.int k12), .val (.int k13), .val (.int k14), .val (.int k15), .val (.ref a1109), .unset, .unset, .unset, .unset]) rfl rfl ?_
      refine s_iload A1109 at_160 (pc' := 162) rfl rfl ?_
      refine s_iload A1109 at_162 (pc' := 164) rfl rfl ?_
      refine s_iload A1109 at_164 (pc' := 166) rfl rfl ?_
      have f1111 := (Old.keep O K1109 (fun x hx => absurd hx nin0))
      have sz1114 : h0.size ≤ T1109.heap.size := K1109.1
      have zs1113 : n0 ≤ T1109.heap.size := Nat.le_trans Z0 sz1114
      refine g_staticH X1109 hx hZ (y := (⟨"com/example/prox2/prox2/format/RunOrderComparePinLaw", "make", "(ICC)Ljava/lang/String;"⟩ : MethodName)) hown (hw _ (List.mem_of_getElem? (i := 0) rfl)) (hw _ (List.mem_of_getElem? (i := 1) rfl)) (hw _ (List.mem_of_getElem? (i := 2) rfl)) (hw _ (List.mem_of_getElem? (i := 3) rfl)) (by decide) hS1109 (Nat.le_refl _) hEL ch1109 (argsL := [(.int (0 : Int32)), (.int k14), (.int k15)]) (rest := []) (c_make_0 l Z a0 hw [] cz k14 k15 T1109.heap n0 zs1113 f1111 SC hcz B14 B15 hEL) pd_14 rfl rfl (hb hby at_166) e1109 (by rw [hml]; rfl) (pc' := 169) rfl (by decide) (W := 0) (Nat.le_of_eq rfl) (by decide) (by decide) (by decide) ?_
      intro v1112 T1112 L1112 X1112 hS1112 hZ hown ch1112 sx1112 hQ1112
      have A1112 := wk X1112 hx hby
      have e1112 : T1112.heap = T1112.heap := rfl
      obtain ⟨a1112, d1112, rfl, N1112, K1112, Ea1112, Fv1112, Fc1112, D1112⟩ := hQ1112
      have kp1115 := Keep.trans kp1110 K1112 (fun x hx => absurd hx nin0)
      have fr1112 := Fr.app fr1109 N1112
      show Go p e below m (FinH Z consts_1 s h0 room_1.cells room_1.slots (fun v h L => v = some (.int 1) ∧ Fr n0 L)) T1112 169 #[.val (.int p0), .val (.int p1), .val (.int p2), .val (.int p3), .val (.int p4), .val (.int k5), .val (.double x6), .second, .val (.double x8), .second, .val (.int (2 : Int32)), .val (.int (0 : Int32)), .val (.int k12), .val (.int k13), .val (.int k14), .val (.int k15), .val (.ref a1109), .unset, .unset, .unset, .unset] [(.ref a1112)]
      refine s_astore A1112 at_169 (pc' := 171) rfl (ls' := #[.val (.int p0), .val (.int p1), .val (.int p2), .val (.int p3), .val (.int p4), .val (.int k5), .val (.double x6), .second, .val (.double x8), .second, .val (.int (2 : Int32)), .val (.int (0 : Int32)), .val (.int k12), .val (.int k13), .val (.int k14), .val (.int k15), .val (.ref a1109), .val (.ref a1112), .unset, .unset, .unset]) rfl rfl ?_
      refine s_dload A1112 at_171 (pc' := 173) rfl rfl ?_
      refine s_aload A1112 at_173 (pc' := 175) rfl rfl rfl ?_
      refine s_dload A1112 at_175 (pc' := 177) rfl rfl ?_
      refine s_aload A1112 at_177 (pc' := 179) rfl rfl rfl ?_
      have f1116 := (Old.keep f1111 K1112 (fun x hx => absurd hx nin0))
      have f1117 := (Exa.keep Ea1109 K1112)
      have f1118 := (Fld.keep Fv1109 K1112 nin0)
      have f1119 := (Fld.keep Fc1109 K1112 nin0)
      have f1120 := (Ars.keep D1109 K1112 nin0)
      have sz1122 : h0.size ≤ T1112.heap.size := (Nat.le_trans sz1114 K1112.1)
      have zs1121 : n0 ≤ T1112.heap.size := Nat.le_trans Z0 sz1122
      refine g_static X1112 hx hZ (y := (⟨"com/example/prox2/prox2/format/RunOrder", "compare", "(DLjava/lang/String;DLjava/lang/String;)I"⟩ : MethodName)) hown (hw _ (List.mem_of_getElem? (i := 26) rfl)) (hw _ (List.mem_of_getElem? (i := 27) rfl)) (hw _ (List.mem_of_getElem? (i := 28) rfl)) (hw _ (List.mem_of_getElem? (i := 29) rfl)) (by decide) (argsL := [(.double x6), (.ref a1109), (.double x8), (.ref a1112)]) (rest := []) (c_rc0_2 l Z a0 hw [] x6 x8 p0.toInt k5.toInt a1112 d1112 a1109 d1109 cz fv  k12 k13 T1112.heap n0 zs1121 y6 y8 Ea1112 Fv1112 Fc1112 D1112 f1116 SC hcz f1117 f1118 f1119 f1120 SF hfv  B12 B13) pd_15 rfl rfl (hb hby at_179) e1112 (by rw [hml]; rfl) (pc' := 182) rfl (by decide) (W := 0) (Nat.le_of_eq rfl) (by decide) (by decide) (by decide) ?_
      intro v1123 T1123 L1123 X1123 hQ1123
      have A1123 := wk X1123 hx hby
      have e1123 : T1123.heap = T1123.heap := rfl
      obtain ⟨z1123, rfl, q1123, N1123, hh1123⟩ := hQ1123
      have e1123 : T1123.heap = T1112.heap := hh1123
      have fr1123 := Fr.app fr1112 N1123
      show Go p e below m (FinH Z consts_1 s h0 room_1.cells room_1.slots (fun v h L => v = some (.int 1) ∧ Fr n0 L)) T1123 182 #[.val (.int p0), .val (.int p1), .val (.int p2), .val (.int p3), .val (.int p4), .val (.int k5), .val (.double x6), .second, .val (.double x8), .second, .val (.int (2 : Int32)), .val (.int (0 : Int32)), .val (.int k12), .val (.int k13), .val (.int k14), .val (.int k15), .val (.ref a1109), .val (.ref a1112), .unset, .unset, .unset] [(.int z1123)]
      refine s_istore A1123 at_182 (pc' := 184) rfl (ls' := #[.val (.int p0), .val (.int p1), .val (.int p2), .val (.int p3), .val (.int p4), .val (.int k5), .val (.double x6), .second, .val (.double x8), .second, .val (.int (2 : Int32)), .val (.int (0 : Int32)), .val (.int k12), .val (.int k13), .val (.int k14), .val (.int k15), .val (.ref a1109), .val (.ref a1112), .val (.int z1123), .unset, .unset]) rfl ?_
      refine s_iload A1123 at_184 (pc' := 186) rfl rfl ?_
      refine s_ifge A1123 at_186 (pY := 193) (pN := 189) (by decide) (by decide) rfl ?_ ?_
      · intro c186
        replace c186 := iz_ge c186
        refine s_iload A1123 at_193 (pc' := 195) rfl rfl ?_
        refine s_ifle A1123 at_195 (pY := 202) (pN := 198) (by decide) (by decide) rfl ?_ ?_
        · intro c195
          replace c195 := iz_le c195
          refine s_iconst A1123 at_202 (pc' := 203) rfl (v := (0 : Int32)) (by decide) ?_
          refine s_istore A1123 at_203 (pc' := 205) rfl (ls' := #[.val (.int p0), .val (.int p1), .val (.int p2), .val (.int p3), .val (.int p4), .val (.int k5), .val (.double x6), .second, .val (.double x8), .second, .val (.int (2 : Int32)), .val (.int (0 : Int32)), .val (.int k12), .val (.int k13), .val (.int k14), .val (.int k15), .val (.ref a1109), .val (.ref a1112), .val (.int z1123), .val (.int (0 : Int32)), .unset]) rfl ?_
          refine s_iloadN A1123 at_205 (pc' := 206) rfl rfl ?_
          refine s_iload A1123 at_206 (pc' := 208) rfl rfl ?_
          refine s_icmple A1123 at_208 (pY := 217) (pN := 211) (by decide) (by decide) rfl ?_ ?_
          · intro c208
            replace c208 := i_le c208
            refine s_iloadN A1123 at_217 (pc' := 218) rfl rfl ?_
            refine s_iload A1123 at_218 (pc' := 220) rfl rfl ?_
            refine s_icmpge A1123 at_220 (pY := 229) (pN := 223) (by decide) (by decide) rfl ?_ ?_
            · intro c220
              replace c220 := i_ge c220
              refine s_iload A1123 at_229 (pc' := 231) rfl rfl ?_
              refine s_iload A1123 at_231 (pc' := 233) rfl rfl ?_
              refine s_iload A1123 at_233 (pc' := 235) rfl rfl ?_
              refine s_iload A1123 at_235 (pc' := 237) rfl rfl ?_
              refine s_iload A1123 at_237 (pc' := 239) rfl rfl ?_
              refine s_iload A1123 at_239 (pc' := 241) rfl rfl ?_
              refine g_static X1123 hx hZ (y := (⟨"com/example/prox2/prox2/format/RunOrderComparePinLaw", "cmp", "(ICCICC)I"⟩ : MethodName)) hown (hw _ (List.mem_of_getElem? (i := 61) rfl)) (hw _ (List.mem_of_getElem? (i := 62) rfl)) (hw _ (List.mem_of_getElem? (i := 2) rfl)) (hw _ (List.mem_of_getElem? (i := 63) rfl)) (by decide) (argsL := [(.int (0 : Int32)), (.int k14), (.int k15), (.int (2 : Int32)), (.int k12), (.int k13)]) (rest := []) (c_ck0_2 l Z a0 hw [] k14 k15 k12 k13 T1112.heap n0 zs1121) pd_16 rfl rfl (hb hby at_241) e1123 (by rw [hml]; rfl) (pc' := 244) rfl (by decide) (W := 0) (Nat.le_of_eq rfl) (by decide) (by decide) (by decide) ?_
              intro v1124 T1124 L1124 X1124 hQ1124
              have A1124 := wk X1124 hx hby
              have e1124 : T1124.heap = T1124.heap := rfl
              obtain ⟨z1124, rfl, q1124, N1124, hh1124⟩ := hQ1124
              have e1124 : T1124.heap = T1112.heap := hh1124
              have fr1124 := Fr.app fr1123 N1124
              show Go p e below m (FinH Z consts_1 s h0 room_1.cells room_1.slots (fun v h L => v = some (.int 1) ∧ Fr n0 L)) T1124 244 #[.val (.int p0), .val (.int p1), .val (.int p2), .val (.int p3), .val (.int p4), .val (.int k5), .val (.double x6), .second, .val (.double x8), .second, .val (.int (2 : Int32)), .val (.int (0 : Int32)), .val (.int k12), .val (.int k13), .val (.int k14), .val (.int k15), .val (.ref a1109), .val (.ref a1112), .val (.int z1123), .val (.int (0 : Int32)), .unset] [(.int z1124)]
              refine s_istore A1124 at_244 (pc' := 246) rfl (ls' := #[.val (.int p0), .val (.int p1), .val (.int p2), .val (.int p3), .val (.int p4), .val (.int k5), .val (.double x6), .second, .val (.double x8), .second, .val (.int (2 : Int32)), .val (.int (0 : Int32)), .val (.int k12), .val (.int k13), .val (.int k14), .val (.int k15), .val (.ref a1109), .val (.ref a1112), .val (.int z1123), .val (.int (0 : Int32)), .val (.int z1124)]) rfl ?_
              refine s_iload A1124 at_246 (pc' := 248) rfl rfl ?_
              refine s_iload A1124 at_248 (pc' := 250) rfl rfl ?_
              refine s_icmpne A1124 at_250 (pY := 257) (pN := 253) (by decide) (by decide) rfl ?_ ?_
              · intro c250
                replace c250 := i_ne c250
                rw [show (0 : Int32).toInt = 0 from by decide] at c250
                refine s_iconst A1124 at_257 (pc' := 258) rfl (v := (0 : Int32)) (by decide) ?_
                exfalso; omega
              · intro c250
                replace c250 := i_eq c250
                rw [show (0 : Int32).toInt = 0 from by decide] at c250
                refine s_iconst A1124 at_253 (pc' := 254) rfl (v := (1 : Int32)) (by decide) ?_
                refine s_goto A1124 at_254 (pc' := 258) (by decide) (by decide) ?_
                exact h_ret X1124 hx hZ hlk hS1112 e1124 (Nat.le_refl _) hEL ch1112 hret rfl (Or.inl ⟨rfl, by simp, _, rfl⟩) (hb hby at_258) ⟨rfl, fr1124⟩ (by decide) (by decide)
            · intro c220
              replace c220 := i_lt c220
              refine s_iconst A1123 at_223 (pc' := 224) rfl (v := (1 : Int32)) (by decide) ?_
              refine s_istore A1123 at_224 (pc' := 226) rfl (ls' := #[.val (.int p0), .val (.int p1), .val (.int p2), .val (.int p3), .val (.int p4), .val (.int k5), .val (.double x6), .second, .val (.double x8), .second, .val (.int (2 : Int32)), .val (.int (0 : Int32)), .val (.int k12), .val (.int k13), .val (.int k14), .val (.int k15), .val (.ref a1109), .val (.ref a1112), .val (.int z1123), .val (.int (0 : Int32)), .val (.int (1 : Int32))]) rfl ?_
              refine s_goto A1123 at_226 (pc' := 246) (by decide) (by decide) ?_
              refine s_iload A1123 at_246 (pc' := 248) rfl rfl ?_
              refine s_iload A1123 at_248 (pc' := 250) rfl rfl ?_
              refine s_icmpne A1123 at_250 (pY := 257) (pN := 253) (by decide) (by decide) rfl (fun _ => ?_) (fun c => absurd c (by decide))
              refine s_iconst A1123 at_257 (pc' := 258) rfl (v := (0 : Int32)) (by decide) ?_
              exfalso; omega
          · intro c208
            replace c208 := i_gt c208
            refine s_iconst A1123 at_211 (pc' := 212) rfl (v := (-1 : Int32)) (by decide) ?_
            refine s_istore A1123 at_212 (pc' := 214) rfl (ls' := #[.val (.int p0), .val (.int p1), .val (.int p2), .val (.int p3), .val (.int p4), .val (.int k5), .val (.double x6), .second, .val (.double x8), .second, .val (.int (2 : Int32)), .val (.int (0 : Int32)), .val (.int k12), .val (.int k13), .val (.int k14), .val (.int k15), .val (.ref a1109), .val (.ref a1112), .val (.int z1123), .val (.int (0 : Int32)), .val (.int (-1 : Int32))]) rfl ?_
            refine s_goto A1123 at_214 (pc' := 246) (by decide) (by decide) ?_
            refine s_iload A1123 at_246 (pc' := 248) rfl rfl ?_
            refine s_iload A1123 at_248 (pc' := 250) rfl rfl ?_
            refine s_icmpne A1123 at_250 (pY := 257) (pN := 253) (by decide) (by decide) rfl (fun _ => ?_) (fun c => absurd c (by decide))
            refine s_iconst A1123 at_257 (pc' := 258) rfl (v := (0 : Int32)) (by decide) ?_
            exfalso; omega
        · intro c195
          replace c195 := iz_gt c195
          refine s_iconst A1123 at_198 (pc' := 199) rfl (v := (1 : Int32)) (by decide) ?_
          refine s_goto A1123 at_199 (pc' := 203) (by decide) (by decide) ?_
          refine s_istore A1123 at_203 (pc' := 205) rfl (ls' := #[.val (.int p0), .val (.int p1), .val (.int p2), .val (.int p3), .val (.int p4), .val (.int k5), .val (.double x6), .second, .val (.double x8), .second, .val (.int (2 : Int32)), .val (.int (0 : Int32)), .val (.int k12), .val (.int k13), .val (.int k14), .val (.int k15), .val (.ref a1109), .val (.ref a1112), .val (.int z1123), .val (.int (1 : Int32)), .unset]) rfl ?_
          refine s_iloadN A1123 at_205 (pc' := 206) rfl rfl ?_
          refine s_iload A1123 at_206 (pc' := 208) rfl rfl ?_
          refine s_icmple A1123 at_208 (pY := 217) (pN := 211) (by decide) (by decide) rfl ?_ ?_
          · intro c208
            replace c208 := i_le c208
            refine s_iloadN A1123 at_217 (pc' := 218) rfl rfl ?_
            refine s_iload A1123 at_218 (pc' := 220) rfl rfl ?_
            refine s_icmpge A1123 at_220 (pY := 229) (pN := 223) (by decide) (by decide) rfl ?_ ?_
            · intro c220
              replace c220 := i_ge c220
              refine s_iload A1123 at_229 (pc' := 231) rfl rfl ?_
              refine s_iload A1123 at_231 (pc' := 233) rfl rfl ?_
              refine s_iload A1123 at_233 (pc' := 235) rfl rfl ?_
              refine s_iload A1123 at_235 (pc' := 237) rfl rfl ?_
              refine s_iload A1123 at_237 (pc' := 239) rfl rfl ?_
              refine s_iload A1123 at_239 (pc' := 241) rfl rfl ?_
              refine g_static X1123 hx hZ (y := (⟨"com/example/prox2/prox2/format/RunOrderComparePinLaw", "cmp", "(ICCICC)I"⟩ : MethodName)) hown (hw _ (List.mem_of_getElem? (i := 61) rfl)) (hw _ (List.mem_of_getElem? (i := 62) rfl)) (hw _ (List.mem_of_getElem? (i := 2) rfl)) (hw _ (List.mem_of_getElem? (i := 63) rfl)) (by decide) (argsL := [(.int (0 : Int32)), (.int k14), (.int k15), (.int (2 : Int32)), (.int k12), (.int k13)]) (rest := []) (c_ck0_2 l Z a0 hw [] k14 k15 k12 k13 T1112.heap n0 zs1121) pd_16 rfl rfl (hb hby at_241) e1123 (by rw [hml]; rfl) (pc' := 244) rfl (by decide) (W := 0) (Nat.le_of_eq rfl) (by decide) (by decide) (by decide) ?_
              intro v1125 T1125 L1125 X1125 hQ1125
              have A1125 := wk X1125 hx hby
              have e1125 : T1125.heap = T1125.heap := rfl
              obtain ⟨z1125, rfl, q1125, N1125, hh1125⟩ := hQ1125
              have e1125 : T1125.heap = T1112.heap := hh1125
              have fr1125 := Fr.app fr1123 N1125
              show Go p e below m (FinH Z consts_1 s h0 room_1.cells room_1.slots (fun v h L => v = some (.int 1) ∧ Fr n0 L)) T1125 244 #[.val (.int p0), .val (.int p1), .val (.int p2), .val (.int p3), .val (.int p4), .val (.int k5), .val (.double x6), .second, .val (.double x8), .second, .val (.int (2 : Int32)), .val (.int (0 : Int32)), .val (.int k12), .val (.int k13), .val (.int k14), .val (.int k15), .val (.ref a1109), .val (.ref a1112), .val (.int z1123), .val (.int (1 : Int32)), .unset] [(.int z1125)]
              refine s_istore A1125 at_244 (pc' := 246) rfl (ls' := #[.val (.int p0), .val (.int p1), .val (.int p2), .val (.int p3), .val (.int p4), .val (.int k5), .val (.double x6), .second, .val (.double x8), .second, .val (.int (2 : Int32)), .val (.int (0 : Int32)), .val (.int k12), .val (.int k13), .val (.int k14), .val (.int k15), .val (.ref a1109), .val (.ref a1112), .val (.int z1123), .val (.int (1 : Int32)), .val (.int z1125)]) rfl ?_
              refine s_iload A1125 at_246 (pc' := 248) rfl rfl ?_
              refine s_iload A1125 at_248 (pc' := 250) rfl rfl ?_
              refine s_icmpne A1125 at_250 (pY := 257) (pN := 253) (by decide) (by decide) rfl ?_ ?_
              · intro c250
                replace c250 := i_ne c250
                rw [show (1 : Int32).toInt = 1 from by decide] at c250
                refine s_iconst A1125 at_257 (pc' := 258) rfl (v := (0 : Int32)) (by decide) ?_
                exfalso; omega
              · intro c250
                replace c250 := i_eq c250
                rw [show (1 : Int32).toInt = 1 from by decide] at c250
                refine s_iconst A1125 at_253 (pc' := 254) rfl (v := (1 : Int32)) (by decide) ?_
                refine s_goto A1125 at_254 (pc' := 258) (by decide) (by decide) ?_
                exact h_ret X1125 hx hZ hlk hS1112 e1125 (Nat.le_refl _) hEL ch1112 hret rfl (Or.inl ⟨rfl, by simp, _, rfl⟩) (hb hby at_258) ⟨rfl, fr1125⟩ (by decide) (by decide)
            · intro c220
              replace c220 := i_lt c220
              refine s_iconst A1123 at_223 (pc' := 224) rfl (v := (1 : Int32)) (by decide) ?_
              refine s_istore A1123 at_224 (pc' := 226) rfl (ls' := #[.val (.int p0), .val (.int p1), .val (.int p2), .val (.int p3), .val (.int p4), .val (.int k5), .val (.double x6), .second, .val (.double x8), .second, .val (.int (2 : Int32)), .val (.int (0 : Int32)), .val (.int k12), .val (.int k13), .val (.int k14), .val (.int k15), .val (.ref a1109), .val (.ref a1112), .val (.int z1123), .val (.int (1 : Int32)), .val (.int (1 : Int32))]) rfl ?_
              refine s_goto A1123 at_226 (pc' := 246) (by decide) (by decide) ?_
              refine s_iload A1123 at_246 (pc' := 248) rfl rfl ?_
              refine s_iload A1123 at_248 (pc' := 250) rfl rfl ?_
              refine s_icmpne A1123 at_250 (pY := 257) (pN := 253) (by decide) (by decide) rfl (fun c => absurd c (by decide)) (fun _ => ?_)
              refine s_iconst A1123 at_253 (pc' := 254) rfl (v := (1 : Int32)) (by decide) ?_
              refine s_goto A1123 at_254 (pc' := 258) (by decide) (by decide) ?_
              exact h_ret X1123 hx hZ hlk hS1112 e1123 (Nat.le_refl _) hEL ch1112 hret rfl (Or.inl ⟨rfl, by simp, _, rfl⟩) (hb hby at_258) ⟨rfl, fr1123⟩ (by decide) (by decide)
          · intro c208
            replace c208 := i_gt c208
            refine s_iconst A1123 at_211 (pc' := 212) rfl (v := (-1 : Int32)) (by decide) ?_
            refine s_istore A1123 at_212 (pc' := 214) rfl (ls' := #[.val (.int p0), .val (.int p1), .val (.int p2), .val (.int p3), .val (.int p4), .val (.int k5), .val (.double x6), .second, .val (.double x8), .second, .val (.int (2 : Int32)), .val (.int (0 : Int32)), .val (.int k12), .val (.int k13), .val (.int k14), .val (.int k15), .val (.ref a1109), .val (.ref a1112), .val (.int z1123), .val (.int (1 : Int32)), .val (.int (-1 : Int32))]) rfl ?_
            refine s_goto A1123 at_214 (pc' := 246) (by decide) (by decide) ?_
            refine s_iload A1123 at_246 (pc' := 248) rfl rfl ?_
            refine s_iload A1123 at_248 (pc' := 250) rfl rfl ?_
            refine s_icmpne A1123 at_250 (pY := 257) (pN := 253) (by decide) (by decide) rfl (fun _ => ?_) (fun c => absurd c (by decide))
            refine s_iconst A1123 at_257 (pc' := 258) rfl (v := (0 : Int32)) (by decide) ?_
            exfalso; omega
      · intro c186
        replace c186 := iz_lt c186
        refine s_iconst A1123 at_189 (pc' := 190) rfl (v := (-1 : Int32)) (by decide) ?_
        refine s_goto A1123 at_190 (pc' := 203) (by decide) (by decide) ?_
        refine s_istore A1123 at_203 (pc' := 205) rfl (ls' := #[.val (.int p0), .val (.int p1), .val (.int p2), .val (.int p3), .val (.int p4), .val (.int k5), .val (.double x6), .second, .val (.double x8), .second, .val (.int (2 : Int32)), .val (.int (0 : Int32)), .val (.int k12), .val (.int k13), .val (.int k14), .val (.int k15), .val (.ref a1109), .val (.ref a1112), .val (.int z1123), .val (.int (-1 : Int32)), .unset]) rfl ?_
        refine s_iloadN A1123 at_205 (pc' := 206) rfl rfl ?_
        refine s_iload A1123 at_206 (pc' := 208) rfl rfl ?_
        refine s_icmple A1123 at_208 (pY := 217) (pN := 211) (by decide) (by decide) rfl ?_ ?_
        · intro c208
          replace c208 := i_le c208
          refine s_iloadN A1123 at_217 (pc' := 218) rfl rfl ?_
          refine s_iload A1123 at_218 (pc' := 220) rfl rfl ?_
          refine s_icmpge A1123 at_220 (pY := 229) (pN := 223) (by decide) (by decide) rfl ?_ ?_
          · intro c220
            replace c220 := i_ge c220
            refine s_iload A1123 at_229 (pc' := 231) rfl rfl ?_
            refine s_iload A1123 at_231 (pc' := 233) rfl rfl ?_
            refine s_iload A1123 at_233 (pc' := 235) rfl rfl ?_
            refine s_iload A1123 at_235 (pc' := 237) rfl rfl ?_
            refine s_iload A1123 at_237 (pc' := 239) rfl rfl ?_
            refine s_iload A1123 at_239 (pc' := 241) rfl rfl ?_
            refine g_static X1123 hx hZ (y := (⟨"com/example/prox2/prox2/format/RunOrderComparePinLaw", "cmp", "(ICCICC)I"⟩ : MethodName)) hown (hw _ (List.mem_of_getElem? (i := 61) rfl)) (hw _ (List.mem_of_getElem? (i := 62) rfl)) (hw _ (List.mem_of_getElem? (i := 2) rfl)) (hw _ (List.mem_of_getElem? (i := 63) rfl)) (by decide) (argsL := [(.int (0 : Int32)), (.int k14), (.int k15), (.int (2 : Int32)), (.int k12), (.int k13)]) (rest := []) (c_ck0_2 l Z a0 hw [] k14 k15 k12 k13 T1112.heap n0 zs1121) pd_16 rfl rfl (hb hby at_241) e1123 (by rw [hml]; rfl) (pc' := 244) rfl (by decide) (W := 0) (Nat.le_of_eq rfl) (by decide) (by decide) (by decide) ?_
            intro v1126 T1126 L1126 X1126 hQ1126
            have A1126 := wk X1126 hx hby
            have e1126 : T1126.heap = T1126.heap := rfl
            obtain ⟨z1126, rfl, q1126, N1126, hh1126⟩ := hQ1126
            have e1126 : T1126.heap = T1112.heap := hh1126
            have fr1126 := Fr.app fr1123 N1126
            show Go p e below m (FinH Z consts_1 s h0 room_1.cells room_1.slots (fun v h L => v = some (.int 1) ∧ Fr n0 L)) T1126 244 #[.val (.int p0), .val (.int p1), .val (.int p2), .val (.int p3), .val (.int p4), .val (.int k5), .val (.double x6), .second, .val (.double x8), .second, .val (.int (2 : Int32)), .val (.int (0 : Int32)), .val (.int k12), .val (.int k13), .val (.int k14), .val (.int k15), .val (.ref a1109), .val (.ref a1112), .val (.int z1123), .val (.int (-1 : Int32)), .unset] [(.int z1126)]
            refine s_istore A1126 at_244 (pc' := 246) rfl (ls' := #[.val (.int p0), .val (.int p1), .val (.int p2), .val (.int p3), .val (.int p4), .val (.int k5), .val (.double x6), .second, .val (.double x8), .second, .val (.int (2 : Int32)), .val (.int (0 : Int32)), .val (.int k12), .val (.int k13), .val (.int k14), .val (.int k15), .val (.ref a1109), .val (.ref a1112), .val (.int z1123), .val (.int (-1 : Int32)), .val (.int z1126)]) rfl ?_
            refine s_iload A1126 at_246 (pc' := 248) rfl rfl ?_
            refine s_iload A1126 at_248 (pc' := 250) rfl rfl ?_
            refine s_icmpne A1126 at_250 (pY := 257) (pN := 253) (by decide) (by decide) rfl ?_ ?_
            · intro c250
              replace c250 := i_ne c250
              rw [show (-1 : Int32).toInt = -1 from by decide] at c250
              refine s_iconst A1126 at_257 (pc' := 258) rfl (v := (0 : Int32)) (by decide) ?_
              exfalso; omega
            · intro c250
              replace c250 := i_eq c250
              rw [show (-1 : Int32).toInt = -1 from by decide] at c250
              refine s_iconst A1126 at_253 (pc' := 254) rfl (v := (1 : Int32)) (by decide) ?_
              refine s_goto A1126 at_254 (pc' := 258) (by decide) (by decide) ?_
              exact h_ret X1126 hx hZ hlk hS1112 e1126 (Nat.le_refl _) hEL ch1112 hret rfl (Or.inl ⟨rfl, by simp, _, rfl⟩) (hb hby at_258) ⟨rfl, fr1126⟩ (by decide) (by decide)
          · intro c220
            replace c220 := i_lt c220
            refine s_iconst A1123 at_223 (pc' := 224) rfl (v := (1 : Int32)) (by decide) ?_
            refine s_istore A1123 at_224 (pc' := 226) rfl (ls' := #[.val (.int p0), .val (.int p1), .val (.int p2), .val (.int p3), .val (.int p4), .val (.int k5), .val (.double x6), .second, .val (.double x8), .second, .val (.int (2 : Int32)), .val (.int (0 : Int32)), .val (.int k12), .val (.int k13), .val (.int k14), .val (.int k15), .val (.ref a1109), .val (.ref a1112), .val (.int z1123), .val (.int (-1 : Int32)), .val (.int (1 : Int32))]) rfl ?_
            refine s_goto A1123 at_226 (pc' := 246) (by decide) (by decide) ?_
            refine s_iload A1123 at_246 (pc' := 248) rfl rfl ?_
            refine s_iload A1123 at_248 (pc' := 250) rfl rfl ?_
            refine s_icmpne A1123 at_250 (pY := 257) (pN := 253) (by decide) (by decide) rfl (fun _ => ?_) (fun c => absurd c (by decide))
            refine s_iconst A1123 at_257 (pc' := 258) rfl (v := (0 : Int32)) (by decide) ?_
            exfalso; omega
        · intro c208
          replace c208 := i_gt c208
          refine s_iconst A1123 at_211 (pc' := 212) rfl (v := (-1 : Int32)) (by decide) ?_
          refine s_istore A1123 at_212 (pc' := 214) rfl (ls' := #[.val (.int p0), .val (.int p1), .val (.int p2), .val (.int p3), .val (.int p4), .val (.int k5), .val (.double x6), .second, .val (.double x8), .second, .val (.int (2 : Int32)), .val (.int (0 : Int32)), .val (.int k12), .val (.int k13), .val (.int k14), .val (.int k15), .val (.ref a1109), .val (.ref a1112), .val (.int z1123), .val (.int (-1 : Int32)), .val (.int (-1 : Int32))]) rfl ?_
          refine s_goto A1123 at_214 (pc' := 246) (by decide) (by decide) ?_
          refine s_iload A1123 at_246 (pc' := 248) rfl rfl ?_
          refine s_iload A1123 at_248 (pc' := 250) rfl rfl ?_
          refine s_icmpne A1123 at_250 (pY := 257) (pN := 253) (by decide) (by decide) rfl (fun c => absurd c (by decide)) (fun _ => ?_)
          refine s_iconst A1123 at_253 (pc' := 254) rfl (v := (1 : Int32)) (by decide) ?_
          refine s_goto A1123 at_254 (pc' := 258) (by decide) (by decide) ?_
          exact h_ret X1123 hx hZ hlk hS1112 e1123 (Nat.le_refl _) hEL ch1112 hret rfl (Or.inl ⟨rfl, by simp, _, rfl⟩) (hb hby at_258) ⟨rfl, fr1123⟩ (by decide) (by decide)
    ·
      refine s_iload A0 at_149 (pc' := 151) rfl rfl ?_
      refine s_iload A0 at_151 (pc' := 153) rfl rfl ?_
      refine s_iload A0 at_153 (pc' := 155) rfl rfl ?_
      refine g_staticH X0 hx hZ (y := (⟨"com/example/prox2/prox2/format/RunOrderComparePinLaw", "make", "(ICC)Ljava/lang/String;"⟩ : MethodName)) hown (hw _ (List.mem_of_getElem? (i := 0) rfl)) (hw _ (List.mem_of_getElem? (i := 1) rfl)) (hw _ (List.mem_of_getElem? (i := 2) rfl)) (hw _ (List.mem_of_getElem? (i := 3) rfl)) (by decide) hS0 (Nat.zero_le _) hEL CH0 (argsL := [(.int (2 : Int32)), (.int k12), (.int k13)]) (rest := []) (c_make_2 l Z a0 hw [] cz k12 k13 h0 n0 Z0 O SC hcz B12 B13 hEL) pd_14 rfl rfl (hb hby at_155) e0 (by rw [hml]; rfl) (pc' := 158) rfl (by decide) (W := 0) (Nat.le_of_eq rfl) (by decide) (by decide) (by decide) ?_
      intro v1127 T1127 L1127 X1127 hS1127 hZ hown ch1127 sx1127 hQ1127
      have A1127 := wk X1127 hx hby
      have e1127 : T1127.heap = T1127.heap := rfl
      obtain ⟨a1127, d1127, rfl, N1127, K1127, Ea1127, Fv1127, Fc1127, D1127⟩ := hQ1127
      have kp1128 := Keep.trans (Keep.refl h0 []) K1127 (fun x hx => absurd hx nin0)
      have fr1127 := Fr.app N0 N1127
      show Go p e below m (FinH Z consts_1 s h0 room_1.cells room_1.slots (fun v h L => v = some (.int 1) ∧ Fr n0 L)) T1127 158 #[.val (.int p0), .val (.int p1), .val (.int p2), .val (.int p3), .val (.int p4), .val (.int k5), .val (.double x6), .second, .val (.double x8), .second, .val (.int (2 : Int32)), .val (.int (1 : Int32)), .val (.int k12), .val (.int k13), .val (.int k14), .val (.int k15), .unset, .unset, .unset, .unset, .unset] [(.ref a1127)]
      refine s_astore A1127 at_158 (pc' := 160) rfl (ls' := #[.val (.int p0), .val (.int p1), .val (.int p2), .val (.int p3), .val (.int p4), .val (.int k5), .val (.double x6), .second, .val (.double x8), .second, .val (.int (2 : Int32)), .val (.int (1 : Int32)), .val (.int k12), .val (.int k13), .val (.int k14), .val (.int k15), .val (.ref a1127), .unset, .unset, .unset, .unset]) rfl rfl ?_
      refine s_iload A1127 at_160 (pc' := 162) rfl rfl ?_
      refine s_iload A1127 at_162 (pc' := 164) rfl rfl ?_
      refine s_iload A1127 at_164 (pc' := 166) rfl rfl ?_
      have f1129 := (Old.keep O K1127 (fun x hx => absurd hx nin0))
      have sz1132 : h0.size ≤ T1127.heap.size := K1127.1
      have zs1131 : n0 ≤ T1127.heap.size := Nat.le_trans Z0 sz1132
      refine g_staticH X1127 hx hZ (y := (⟨"com/example/prox2/prox2/format/RunOrderComparePinLaw", "make", "(ICC)Ljava/lang/String;"⟩ : MethodName)) hown (hw _ (List.mem_of_getElem? (i := 0) rfl)) (hw _ (List.mem_of_getElem? (i := 1) rfl)) (hw _ (List.mem_of_getElem? (i := 2) rfl)) (hw _ (List.mem_of_getElem? (i := 3) rfl)) (by decide) hS1127 (Nat.le_refl _) hEL ch1127 (argsL := [(.int (1 : Int32)), (.int k14), (.int k15)]) (rest := []) (c_make_1 l Z a0 hw [] cz k14 k15 T1127.heap n0 zs1131 f1129 SC hcz B14 B15 hEL) pd_14 rfl rfl (hb hby at_166) e1127 (by rw [hml]; rfl) (pc' := 169) rfl (by decide) (W := 0) (Nat.le_of_eq rfl) (by decide) (by decide) (by decide) ?_
      intro v1130 T1130 L1130 X1130 hS1130 hZ hown ch1130 sx1130 hQ1130
      have A1130 := wk X1130 hx hby
      have e1130 : T1130.heap = T1130.heap := rfl
      obtain ⟨a1130, d1130, rfl, N1130, K1130, Ea1130, Fv1130, Fc1130, D1130⟩ := hQ1130
      have kp1133 := Keep.trans kp1128 K1130 (fun x hx => absurd hx nin0)
      have fr1130 := Fr.app fr1127 N1130
      show Go p e below m (FinH Z consts_1 s h0 room_1.cells room_1.slots (fun v h L => v = some (.int 1) ∧ Fr n0 L)) T1130 169 #[.val (.int p0), .val (.int p1), .val (.int p2), .val (.int p3), .val (.int p4), .val (.int k5), .val (.double x6), .second, .val (.double x8), .second, .val (.int (2 : Int32)), .val (.int (1 : Int32)), .val (.int k12), .val (.int k13), .val (.int k14), .val (.int k15), .val (.ref a1127), .unset, .unset, .unset, .unset] [(.ref a1130)]
      refine s_astore A1130 at_169 (pc' := 171) rfl (ls' := #[.val (.int p0), .val (.int p1), .val (.int p2), .val (.int p3), .val (.int p4), .val (.int k5), .val (.double x6), .second, .val (.double x8), .second, .val (.int (2 : Int32)), .val (.int (1 : Int32)), .val (.int k12), .val (.int k13), .val (.int k14), .val (.int k15), .val (.ref a1127), .val (.ref a1130), .unset, .unset, .unset]) rfl rfl ?_
      refine s_dload A1130 at_171 (pc' := 173) rfl rfl ?_
      refine s_aload A1130 at_173 (pc' := 175) rfl rfl rfl ?_
      refine s_dload A1130 at_175 (pc' := 177) rfl rfl ?_
      refine s_aload A1130 at_177 (pc' := 179) rfl rfl rfl ?_
      have f1134 := (Old.keep f1129 K1130 (fun x hx => absurd hx nin0))
      have f1135 := (Exa.keep Ea1127 K1130)
      have f1136 := (Fld.keep Fv1127 K1130 nin0)
      have f1137 := (Fld.keep Fc1127 K1130 nin0)
      have f1138 := (Ars.keep D1127 K1130 nin0)
      have sz1140 : h0.size ≤ T1130.heap.size := (Nat.le_trans sz1132 K1130.1)
      have zs1139 : n0 ≤ T1130.heap.size := Nat.le_trans Z0 sz1140
      refine g_static X1130 hx hZ (y := (⟨"com/example/prox2/prox2/format/RunOrder", "compare", "(DLjava/lang/String;DLjava/lang/String;)I"⟩ : MethodName)) hown (hw _ (List.mem_of_getElem? (i := 26) rfl)) (hw _ (List.mem_of_getElem? (i := 27) rfl)) (hw _ (List.mem_of_getElem? (i := 28) rfl)) (hw _ (List.mem_of_getElem? (i := 29) rfl)) (by decide) (argsL := [(.double x6), (.ref a1127), (.double x8), (.ref a1130)]) (rest := []) (c_rc1_2 l Z a0 hw [] x6 x8 p0.toInt k5.toInt a1130 d1130 a1127 d1127 cz fv k14 k12 k13 T1130.heap n0 zs1139 y6 y8 Ea1130 Fv1130 Fc1130 D1130 f1134 SC hcz f1135 f1136 f1137 f1138 SF hfv B14 B12 B13) pd_15 rfl rfl (hb hby at_179) e1130 (by rw [hml]; rfl) (pc' := 182) rfl (by decide) (W := 0) (Nat.le_of_eq rfl) (by decide) (by decide) (by decide) ?_
      intro v1141 T1141 L1141 X1141 hQ1141
      have A1141 := wk X1141 hx hby
      have e1141 : T1141.heap = T1141.heap := rfl
      obtain ⟨z1141, rfl, q1141, N1141, hh1141⟩ := hQ1141
      have e1141 : T1141.heap = T1130.heap := hh1141
      have fr1141 := Fr.app fr1130 N1141
      show Go p e below m (FinH Z consts_1 s h0 room_1.cells room_1.slots (fun v h L => v = some (.int 1) ∧ Fr n0 L)) T1141 182 #[.val (.int p0), .val (.int p1), .val (.int p2), .val (.int p3), .val (.int p4), .val (.int k5), .val (.double x6), .second, .val (.double x8), .second, .val (.int (2 : Int32)), .val (.int (1 : Int32)), .val (.int k12), .val (.int k13), .val (.int k14), .val (.int k15), .val (.ref a1127), .val (.ref a1130), .unset, .unset, .unset] [(.int z1141)]
      refine s_istore A1141 at_182 (pc' := 184) rfl (ls' := #[.val (.int p0), .val (.int p1), .val (.int p2), .val (.int p3), .val (.int p4), .val (.int k5), .val (.double x6), .second, .val (.double x8), .second, .val (.int (2 : Int32)), .val (.int (1 : Int32)), .val (.int k12), .val (.int k13), .val (.int k14), .val (.int k15), .val (.ref a1127), .val (.ref a1130), .val (.int z1141), .unset, .unset]) rfl ?_
      refine s_iload A1141 at_184 (pc' := 186) rfl rfl ?_
      refine s_ifge A1141 at_186 (pY := 193) (pN := 189) (by decide) (by decide) rfl ?_ ?_
      · intro c186
        replace c186 := iz_ge c186
        refine s_iload A1141 at_193 (pc' := 195) rfl rfl ?_
        refine s_ifle A1141 at_195 (pY := 202) (pN := 198) (by decide) (by decide) rfl ?_ ?_
        · intro c195
          replace c195 := iz_le c195
          refine s_iconst A1141 at_202 (pc' := 203) rfl (v := (0 : Int32)) (by decide) ?_
          refine s_istore A1141 at_203 (pc' := 205) rfl (ls' := #[.val (.int p0), .val (.int p1), .val (.int p2), .val (.int p3), .val (.int p4), .val (.int k5), .val (.double x6), .second, .val (.double x8), .second, .val (.int (2 : Int32)), .val (.int (1 : Int32)), .val (.int k12), .val (.int k13), .val (.int k14), .val (.int k15), .val (.ref a1127), .val (.ref a1130), .val (.int z1141), .val (.int (0 : Int32)), .unset]) rfl ?_
          refine s_iloadN A1141 at_205 (pc' := 206) rfl rfl ?_
          refine s_iload A1141 at_206 (pc' := 208) rfl rfl ?_
          refine s_icmple A1141 at_208 (pY := 217) (pN := 211) (by decide) (by decide) rfl ?_ ?_
          · intro c208
            replace c208 := i_le c208
            refine s_iloadN A1141 at_217 (pc' := 218) rfl rfl ?_
            refine s_iload A1141 at_218 (pc' := 220) rfl rfl ?_
            refine s_icmpge A1141 at_220 (pY := 229) (pN := 223) (by decide) (by decide) rfl ?_ ?_
            · intro c220
              replace c220 := i_ge c220
              refine s_iload A1141 at_229 (pc' := 231) rfl rfl ?_
              refine s_iload A1141 at_231 (pc' := 233) rfl rfl ?_
              refine s_iload A1141 at_233 (pc' := 235) rfl rfl ?_
              refine s_iload A1141 at_235 (pc' := 237) rfl rfl ?_
              refine s_iload A1141 at_237 (pc' := 239) rfl rfl ?_
              refine s_iload A1141 at_239 (pc' := 241) rfl rfl ?_
              refine g_static X1141 hx hZ (y := (⟨"com/example/prox2/prox2/format/RunOrderComparePinLaw", "cmp", "(ICCICC)I"⟩ : MethodName)) hown (hw _ (List.mem_of_getElem? (i := 61) rfl)) (hw _ (List.mem_of_getElem? (i := 62) rfl)) (hw _ (List.mem_of_getElem? (i := 2) rfl)) (hw _ (List.mem_of_getElem? (i := 63) rfl)) (by decide) (argsL := [(.int (1 : Int32)), (.int k14), (.int k15), (.int (2 : Int32)), (.int k12), (.int k13)]) (rest := []) (c_ck1_2 l Z a0 hw [] k14 k15 k12 k13 T1130.heap n0 zs1139) pd_16 rfl rfl (hb hby at_241) e1141 (by rw [hml]; rfl) (pc' := 244) rfl (by decide) (W := 0) (Nat.le_of_eq rfl) (by decide) (by decide) (by decide) ?_
              intro v1142 T1142 L1142 X1142 hQ1142
              have A1142 := wk X1142 hx hby
              have e1142 : T1142.heap = T1142.heap := rfl
              obtain ⟨z1142, rfl, q1142, N1142, hh1142⟩ := hQ1142
              have e1142 : T1142.heap = T1130.heap := hh1142
              have fr1142 := Fr.app fr1141 N1142
              show Go p e below m (FinH Z consts_1 s h0 room_1.cells room_1.slots (fun v h L => v = some (.int 1) ∧ Fr n0 L)) T1142 244 #[.val (.int p0), .val (.int p1), .val (.int p2), .val (.int p3), .val (.int p4), .val (.int k5), .val (.double x6), .second, .val (.double x8), .second, .val (.int (2 : Int32)), .val (.int (1 : Int32)), .val (.int k12), .val (.int k13), .val (.int k14), .val (.int k15), .val (.ref a1127), .val (.ref a1130), .val (.int z1141), .val (.int (0 : Int32)), .unset] [(.int z1142)]
              refine s_istore A1142 at_244 (pc' := 246) rfl (ls' := #[.val (.int p0), .val (.int p1), .val (.int p2), .val (.int p3), .val (.int p4), .val (.int k5), .val (.double x6), .second, .val (.double x8), .second, .val (.int (2 : Int32)), .val (.int (1 : Int32)), .val (.int k12), .val (.int k13), .val (.int k14), .val (.int k15), .val (.ref a1127), .val (.ref a1130), .val (.int z1141), .val (.int (0 : Int32)), .val (.int z1142)]) rfl ?_
              refine s_iload A1142 at_246 (pc' := 248) rfl rfl ?_
              refine s_iload A1142 at_248 (pc' := 250) rfl rfl ?_
              refine s_icmpne A1142 at_250 (pY := 257) (pN := 253) (by decide) (by decide) rfl ?_ ?_
              · intro c250
                replace c250 := i_ne c250
                rw [show (0 : Int32).toInt = 0 from by decide] at c250
                refine s_iconst A1142 at_257 (pc' := 258) rfl (v := (0 : Int32)) (by decide) ?_
                exfalso; omega
              · intro c250
                replace c250 := i_eq c250
                rw [show (0 : Int32).toInt = 0 from by decide] at c250
                refine s_iconst A1142 at_253 (pc' := 254) rfl (v := (1 : Int32)) (by decide) ?_
                refine s_goto A1142 at_254 (pc' := 258) (by decide) (by decide) ?_
                exact h_ret X1142 hx hZ hlk hS1130 e1142 (Nat.le_refl _) hEL ch1130 hret rfl (Or.inl ⟨rfl, by simp, _, rfl⟩) (hb hby at_258) ⟨rfl, fr1142⟩ (by decide) (by decide)
            · intro c220
              replace c220 := i_lt c220
              refine s_iconst A1141 at_223 (pc' := 224) rfl (v := (1 : Int32)) (by decide) ?_
              refine s_istore A1141 at_224 (pc' := 226) rfl (ls' := #[.val (.int p0), .val (.int p1), .val (.int p2), .val (.int p3), .val (.int p4), .val (.int k5), .val (.double x6), .second, .val (.double x8), .second, .val (.int (2 : Int32)), .val (.int (1 : Int32)), .val (.int k12), .val (.int k13), .val (.int k14), .val (.int k15), .val (.ref a1127), .val (.ref a1130), .val (.int z1141), .val (.int (0 : Int32)), .val (.int (1 : Int32))]) rfl ?_
              refine s_goto A1141 at_226 (pc' := 246) (by decide) (by decide) ?_
              refine s_iload A1141 at_246 (pc' := 248) rfl rfl ?_
              refine s_iload A1141 at_248 (pc' := 250) rfl rfl ?_
              refine s_icmpne A1141 at_250 (pY := 257) (pN := 253) (by decide) (by decide) rfl (fun _ => ?_) (fun c => absurd c (by decide))
              refine s_iconst A1141 at_257 (pc' := 258) rfl (v := (0 : Int32)) (by decide) ?_
              exfalso; omega
          · intro c208
            replace c208 := i_gt c208
            refine s_iconst A1141 at_211 (pc' := 212) rfl (v := (-1 : Int32)) (by decide) ?_
            refine s_istore A1141 at_212 (pc' := 214) rfl (ls' := #[.val (.int p0), .val (.int p1), .val (.int p2), .val (.int p3), .val (.int p4), .val (.int k5), .val (.double x6), .second, .val (.double x8), .second, .val (.int (2 : Int32)), .val (.int (1 : Int32)), .val (.int k12), .val (.int k13), .val (.int k14), .val (.int k15), .val (.ref a1127), .val (.ref a1130), .val (.int z1141), .val (.int (0 : Int32)), .val (.int (-1 : Int32))]) rfl ?_
            refine s_goto A1141 at_214 (pc' := 246) (by decide) (by decide) ?_
            refine s_iload A1141 at_246 (pc' := 248) rfl rfl ?_
            refine s_iload A1141 at_248 (pc' := 250) rfl rfl ?_
            refine s_icmpne A1141 at_250 (pY := 257) (pN := 253) (by decide) (by decide) rfl (fun _ => ?_) (fun c => absurd c (by decide))
            refine s_iconst A1141 at_257 (pc' := 258) rfl (v := (0 : Int32)) (by decide) ?_
            exfalso; omega
        · intro c195
          replace c195 := iz_gt c195
          refine s_iconst A1141 at_198 (pc' := 199) rfl (v := (1 : Int32)) (by decide) ?_
          refine s_goto A1141 at_199 (pc' := 203) (by decide) (by decide) ?_
          refine s_istore A1141 at_203 (pc' := 205) rfl (ls' := #[.val (.int p0), .val (.int p1), .val (.int p2), .val (.int p3), .val (.int p4), .val (.int k5), .val (.double x6), .second, .val (.double x8), .second, .val (.int (2 : Int32)), .val (.int (1 : Int32)), .val (.int k12), .val (.int k13), .val (.int k14), .val (.int k15), .val (.ref a1127), .val (.ref a1130), .val (.int z1141), .val (.int (1 : Int32)), .unset]) rfl ?_
          refine s_iloadN A1141 at_205 (pc' := 206) rfl rfl ?_
          refine s_iload A1141 at_206 (pc' := 208) rfl rfl ?_
          refine s_icmple A1141 at_208 (pY := 217) (pN := 211) (by decide) (by decide) rfl ?_ ?_
          · intro c208
            replace c208 := i_le c208
            refine s_iloadN A1141 at_217 (pc' := 218) rfl rfl ?_
            refine s_iload A1141 at_218 (pc' := 220) rfl rfl ?_
            refine s_icmpge A1141 at_220 (pY := 229) (pN := 223) (by decide) (by decide) rfl ?_ ?_
            · intro c220
              replace c220 := i_ge c220
              refine s_iload A1141 at_229 (pc' := 231) rfl rfl ?_
              refine s_iload A1141 at_231 (pc' := 233) rfl rfl ?_
              refine s_iload A1141 at_233 (pc' := 235) rfl rfl ?_
              refine s_iload A1141 at_235 (pc' := 237) rfl rfl ?_
              refine s_iload A1141 at_237 (pc' := 239) rfl rfl ?_
              refine s_iload A1141 at_239 (pc' := 241) rfl rfl ?_
              refine g_static X1141 hx hZ (y := (⟨"com/example/prox2/prox2/format/RunOrderComparePinLaw", "cmp", "(ICCICC)I"⟩ : MethodName)) hown (hw _ (List.mem_of_getElem? (i := 61) rfl)) (hw _ (List.mem_of_getElem? (i := 62) rfl)) (hw _ (List.mem_of_getElem? (i := 2) rfl)) (hw _ (List.mem_of_getElem? (i := 63) rfl)) (by decide) (argsL := [(.int (1 : Int32)), (.int k14), (.int k15), (.int (2 : Int32)), (.int k12), (.int k13)]) (rest := []) (c_ck1_2 l Z a0 hw [] k14 k15 k12 k13 T1130.heap n0 zs1139) pd_16 rfl rfl (hb hby at_241) e1141 (by rw [hml]; rfl) (pc' := 244) rfl (by decide) (W := 0) (Nat.le_of_eq rfl) (by decide) (by decide) (by decide) ?_
              intro v1143 T1143 L1143 X1143 hQ1143
              have A1143 := wk X1143 hx hby
              have e1143 : T1143.heap = T1143.heap := rfl
              obtain ⟨z1143, rfl, q1143, N1143, hh1143⟩ := hQ1143
              have e1143 : T1143.heap = T1130.heap := hh1143
              have fr1143 := Fr.app fr1141 N1143
              show Go p e below m (FinH Z consts_1 s h0 room_1.cells room_1.slots (fun v h L => v = some (.int 1) ∧ Fr n0 L)) T1143 244 #[.val (.int p0), .val (.int p1), .val (.int p2), .val (.int p3), .val (.int p4), .val (.int k5), .val (.double x6), .second, .val (.double x8), .second, .val (.int (2 : Int32)), .val (.int (1 : Int32)), .val (.int k12), .val (.int k13), .val (.int k14), .val (.int k15), .val (.ref a1127), .val (.ref a1130), .val (.int z1141), .val (.int (1 : Int32)), .unset] [(.int z1143)]
              refine s_istore A1143 at_244 (pc' := 246) rfl (ls' := #[.val (.int p0), .val (.int p1), .val (.int p2), .val (.int p3), .val (.int p4), .val (.int k5), .val (.double x6), .second, .val (.double x8), .second, .val (.int (2 : Int32)), .val (.int (1 : Int32)), .val (.int k12), .val (.int k13), .val (.int k14), .val (.int k15), .val (.ref a1127), .val (.ref a1130), .val (.int z1141), .val (.int (1 : Int32)), .val (.int z1143)]) rfl ?_
              refine s_iload A1143 at_246 (pc' := 248) rfl rfl ?_
              refine s_iload A1143 at_248 (pc' := 250) rfl rfl ?_
              refine s_icmpne A1143 at_250 (pY := 257) (pN := 253) (by decide) (by decide) rfl ?_ ?_
              · intro c250
                replace c250 := i_ne c250
                rw [show (1 : Int32).toInt = 1 from by decide] at c250
                refine s_iconst A1143 at_257 (pc' := 258) rfl (v := (0 : Int32)) (by decide) ?_
                exfalso; omega
              · intro c250
                replace c250 := i_eq c250
                rw [show (1 : Int32).toInt = 1 from by decide] at c250
                refine s_iconst A1143 at_253 (pc' := 254) rfl (v := (1 : Int32)) (by decide) ?_
                refine s_goto A1143 at_254 (pc' := 258) (by decide) (by decide) ?_
                exact h_ret X1143 hx hZ hlk hS1130 e1143 (Nat.le_refl _) hEL ch1130 hret rfl (Or.inl ⟨rfl, by simp, _, rfl⟩) (hb hby at_258) ⟨rfl, fr1143⟩ (by decide) (by decide)
            · intro c220
              replace c220 := i_lt c220
              refine s_iconst A1141 at_223 (pc' := 224) rfl (v := (1 : Int32)) (by decide) ?_
              refine s_istore A1141 at_224 (pc' := 226) rfl (ls' := #[.val (.int p0), .val (.int p1), .val (.int p2), .val (.int p3), .val (.int p4), .val (.int k5), .val (.double x6), .second, .val (.double x8), .second, .val (.int (2 : Int32)), .val (.int (1 : Int32)), .val (.int k12), .val (.int k13), .val (.int k14), .val (.int k15), .val (.ref a1127), .val (.ref a1130), .val (.int z1141), .val (.int (1 : Int32)), .val (.int (1 : Int32))]) rfl ?_
              refine s_goto A1141 at_226 (pc' := 246) (by decide) (by decide) ?_
              refine s_iload A1141 at_246 (pc' := 248) rfl rfl ?_
              refine s_iload A1141 at_248 (pc' := 250) rfl rfl ?_
              refine s_icmpne A1141 at_250 (pY := 257) (pN := 253) (by decide) (by decide) rfl (fun c => absurd c (by decide)) (fun _ => ?_)
              refine s_iconst A1141 at_253 (pc' := 254) rfl (v := (1 : Int32)) (by decide) ?_
              refine s_goto A1141 at_254 (pc' := 258) (by decide) (by decide) ?_
              exact h_ret X1141 hx hZ hlk hS1130 e1141 (Nat.le_refl _) hEL ch1130 hret rfl (Or.inl ⟨rfl, by simp, _, rfl⟩) (hb hby at_258) ⟨rfl, fr1141⟩ (by decide) (by decide)
          · intro c208
            replace c208 := i_gt c208
            refine s_iconst A1141 at_211 (pc' := 212) rfl (v := (-1 : Int32)) (by decide) ?_
            refine s_istore A1141 at_212 (pc' := 214) rfl (ls' := #[.val (.int p0), .val (.int p1), .val (.int p2), .val (.int p3), .val (.int p4), .val (.int k5), .val (.double x6), .second, .val (.double x8), .second, .val (.int (2 : Int32)), .val (.int (1 : Int32)), .val (.int k12), .val (.int k13), .val (.int k14), .val (.int k15), .val (.ref a1127), .val (.ref a1130), .val (.int z1141), .val (.int (1 : Int32)), .val (.int (-1 : Int32))]) rfl ?_
            refine s_goto A1141 at_214 (pc' := 246) (by decide) (by decide) ?_
            refine s_iload A1141 at_246 (pc' := 248) rfl rfl ?_
            refine s_iload A1141 at_248 (pc' := 250) rfl rfl ?_
            refine s_icmpne A1141 at_250 (pY := 257) (pN := 253) (by decide) (by decide) rfl (fun _ => ?_) (fun c => absurd c (by decide))
            refine s_iconst A1141 at_257 (pc' := 258) rfl (v := (0 : Int32)) (by decide) ?_
            exfalso; omega
      · intro c186
        replace c186 := iz_lt c186
        refine s_iconst A1141 at_189 (pc' := 190) rfl (v := (-1 : Int32)) (by decide) ?_
        refine s_goto A1141 at_190 (pc' := 203) (by decide) (by decide) ?_
        refine s_istore A1141 at_203 (pc' := 205) rfl (ls' := #[.val (.int p0), .val (.int p1), .val (.int p2), .val (.int p3), .val (.int p4), .val (.int k5), .val (.double x6), .second, .val (.double x8), .second, .val (.int (2 : Int32)), .val (.int (1 : Int32)), .val (.int k12), .val (.int k13), .val (.int k14), .val (.int k15), .val (.ref a1127), .val (.ref a1130), .val (.int z1141), .val (.int (-1 : Int32)), .unset]) rfl ?_
        refine s_iloadN A1141 at_205 (pc' := 206) rfl rfl ?_
        refine s_iload A1141 at_206 (pc' := 208) rfl rfl ?_
        refine s_icmple A1141 at_208 (pY := 217) (pN := 211) (by decide) (by decide) rfl ?_ ?_
        · intro c208
          replace c208 := i_le c208
          refine s_iloadN A1141 at_217 (pc' := 218) rfl rfl ?_
          refine s_iload A1141 at_218 (pc' := 220) rfl rfl ?_
          refine s_icmpge A1141 at_220 (pY := 229) (pN := 223) (by decide) (by decide) rfl ?_ ?_
          · intro c220
            replace c220 := i_ge c220
            refine s_iload A1141 at_229 (pc' := 231) rfl rfl ?_
            refine s_iload A1141 at_231 (pc' := 233) rfl rfl ?_
            refine s_iload A1141 at_233 (pc' := 235) rfl rfl ?_
            refine s_iload A1141 at_235 (pc' := 237) rfl rfl ?_
            refine s_iload A1141 at_237 (pc' := 239) rfl rfl ?_
            refine s_iload A1141 at_239 (pc' := 241) rfl rfl ?_
            refine g_static X1141 hx hZ (y := (⟨"com/example/prox2/prox2/format/RunOrderComparePinLaw", "cmp", "(ICCICC)I"⟩ : MethodName)) hown (hw _ (List.mem_of_getElem? (i := 61) rfl)) (hw _ (List.mem_of_getElem? (i := 62) rfl)) (hw _ (List.mem_of_getElem? (i := 2) rfl)) (hw _ (List.mem_of_getElem? (i := 63) rfl)) (by decide) (argsL := [(.int (1 : Int32)), (.int k14), (.int k15), (.int (2 : Int32)), (.int k12), (.int k13)]) (rest := []) (c_ck1_2 l Z a0 hw [] k14 k15 k12 k13 T1130.heap n0 zs1139) pd_16 rfl rfl (hb hby at_241) e1141 (by rw [hml]; rfl) (pc' := 244) rfl (by decide) (W := 0) (Nat.le_of_eq rfl) (by decide) (by decide) (by decide) ?_
            intro v1144 T1144 L1144 X1144 hQ1144
            have A1144 := wk X1144 hx hby
            have e1144 : T1144.heap = T1144.heap := rfl
            obtain ⟨z1144, rfl, q1144, N1144, hh1144⟩ := hQ1144
            have e1144 : T1144.heap = T1130.heap := hh1144
            have fr1144 := Fr.app fr1141 N1144
            show Go p e below m (FinH Z consts_1 s h0 room_1.cells room_1.slots (fun v h L => v = some (.int 1) ∧ Fr n0 L)) T1144 244 #[.val (.int p0), .val (.int p1), .val (.int p2), .val (.int p3), .val (.int p4), .val (.int k5), .val (.double x6), .second, .val (.double x8), .second, .val (.int (2 : Int32)), .val (.int (1 : Int32)), .val (.int k12), .val (.int k13), .val (.int k14), .val (.int k15), .val (.ref a1127), .val (.ref a1130), .val (.int z1141), .val (.int (-1 : Int32)), .unset] [(.int z1144)]
            refine s_istore A1144 at_244 (pc' := 246) rfl (ls' := #[.val (.int p0), .val (.int p1), .val (.int p2), .val (.int p3), .val (.int p4), .val (.int k5), .val (.double x6), .second, .val (.double x8), .second, .val (.int (2 : Int32)), .val (.int (1 : Int32)), .val (.int k12), .val (.int k13), .val (.int k14), .val (.int k15), .val (.ref a1127), .val (.ref a1130), .val (.int z1141), .val (.int (-1 : Int32)), .val (.int z1144)]) rfl ?_
            refine s_iload A1144 at_246 (pc' := 248) rfl rfl ?_
            refine s_iload A1144 at_248 (pc' := 250) rfl rfl ?_
            refine s_icmpne A1144 at_250 (pY := 257) (pN := 253) (by decide) (by decide) rfl ?_ ?_
            · intro c250
              replace c250 := i_ne c250
              rw [show (-1 : Int32).toInt = -1 from by decide] at c250
              refine s_iconst A1144 at_257 (pc' := 258) rfl (v := (0 : Int32)) (by decide) ?_
              exfalso; omega
            · intro c250
              replace c250 := i_eq c250
              rw [show (-1 : Int32).toInt = -1 from by decide] at c250
              refine s_iconst A1144 at_253 (pc' := 254) rfl (v := (1 : Int32)) (by decide) ?_
              refine s_goto A1144 at_254 (pc' := 258) (by decide) (by decide) ?_
              exact h_ret X1144 hx hZ hlk hS1130 e1144 (Nat.le_refl _) hEL ch1130 hret rfl (Or.inl ⟨rfl, by simp, _, rfl⟩) (hb hby at_258) ⟨rfl, fr1144⟩ (by decide) (by decide)
          · intro c220
            replace c220 := i_lt c220
            refine s_iconst A1141 at_223 (pc' := 224) rfl (v := (1 : Int32)) (by decide) ?_
            refine s_istore A1141 at_224 (pc' := 226) rfl (ls' := #[.val (.int p0), .val (.int p1), .val (.int p2), .val (.int p3), .val (.int p4), .val (.int k5), .val (.double x6), .second, .val (.double x8), .second, .val (.int (2 : Int32)), .val (.int (1 : Int32)), .val (.int k12), .val (.int k13), .val (.int k14), .val (.int k15), .val (.ref a1127), .val (.ref a1130), .val (.int z1141), .val (.int (-1 : Int32)), .val (.int (1 : Int32))]) rfl ?_
            refine s_goto A1141 at_226 (pc' := 246) (by decide) (by decide) ?_
            refine s_iload A1141 at_246 (pc' := 248) rfl rfl ?_
            refine s_iload A1141 at_248 (pc' := 250) rfl rfl ?_
            refine s_icmpne A1141 at_250 (pY := 257) (pN := 253) (by decide) (by decide) rfl (fun _ => ?_) (fun c => absurd c (by decide))
            refine s_iconst A1141 at_257 (pc' := 258) rfl (v := (0 : Int32)) (by decide) ?_
            exfalso; omega
        · intro c208
          replace c208 := i_gt c208
          refine s_iconst A1141 at_211 (pc' := 212) rfl (v := (-1 : Int32)) (by decide) ?_
          refine s_istore A1141 at_212 (pc' := 214) rfl (ls' := #[.val (.int p0), .val (.int p1), .val (.int p2), .val (.int p3), .val (.int p4), .val (.int k5), .val (.double x6), .second, .val (.double x8), .second, .val (.int (2 : Int32)), .val (.int (1 : Int32)), .val (.int k12), .val (.int k13), .val (.int k14), .val (.int k15), .val (.ref a1127), .val (.ref a1130), .val (.int z1141), .val (.int (-1 : Int32)), .val (.int (-1 : Int32))]) rfl ?_
          refine s_goto A1141 at_214 (pc' := 246) (by decide) (by decide) ?_
          refine s_iload A1141 at_246 (pc' := 248) rfl rfl ?_
          refine s_iload A1141 at_248 (pc' := 250) rfl rfl ?_
          refine s_icmpne A1141 at_250 (pY := 257) (pN := 253) (by decide) (by decide) rfl (fun c => absurd c (by decide)) (fun _ => ?_)
          refine s_iconst A1141 at_253 (pc' := 254) rfl (v := (1 : Int32)) (by decide) ?_
          refine s_goto A1141 at_254 (pc' := 258) (by decide) (by decide) ?_
          exact h_ret X1141 hx hZ hlk hS1130 e1141 (Nat.le_refl _) hEL ch1130 hret rfl (Or.inl ⟨rfl, by simp, _, rfl⟩) (hb hby at_258) ⟨rfl, fr1141⟩ (by decide) (by decide)
    ·
      refine s_iload A0 at_149 (pc' := 151) rfl rfl ?_
      refine s_iload A0 at_151 (pc' := 153) rfl rfl ?_
      refine s_iload A0 at_153 (pc' := 155) rfl rfl ?_
      refine g_staticH X0 hx hZ (y := (⟨"com/example/prox2/prox2/format/RunOrderComparePinLaw", "make", "(ICC)Ljava/lang/String;"⟩ : MethodName)) hown (hw _ (List.mem_of_getElem? (i := 0) rfl)) (hw _ (List.mem_of_getElem? (i := 1) rfl)) (hw _ (List.mem_of_getElem? (i := 2) rfl)) (hw _ (List.mem_of_getElem? (i := 3) rfl)) (by decide) hS0 (Nat.zero_le _) hEL CH0 (argsL := [(.int (2 : Int32)), (.int k12), (.int k13)]) (rest := []) (c_make_2 l Z a0 hw [] cz k12 k13 h0 n0 Z0 O SC hcz B12 B13 hEL) pd_14 rfl rfl (hb hby at_155) e0 (by rw [hml]; rfl) (pc' := 158) rfl (by decide) (W := 0) (Nat.le_of_eq rfl) (by decide) (by decide) (by decide) ?_
      intro v1145 T1145 L1145 X1145 hS1145 hZ hown ch1145 sx1145 hQ1145
      have A1145 := wk X1145 hx hby
      have e1145 : T1145.heap = T1145.heap := rfl
      obtain ⟨a1145, d1145, rfl, N1145, K1145, Ea1145, Fv1145, Fc1145, D1145⟩ := hQ1145
      have kp1146 := Keep.trans (Keep.refl h0 []) K1145 (fun x hx => absurd hx nin0)
      have fr1145 := Fr.app N0 N1145
      show Go p e below m (FinH Z consts_1 s h0 room_1.cells room_1.slots (fun v h L => v = some (.int 1) ∧ Fr n0 L)) T1145 158 #[.val (.int p0), .val (.int p1), .val (.int p2), .val (.int p3), .val (.int p4), .val (.int k5), .val (.double x6), .second, .val (.double x8), .second, .val (.int (2 : Int32)), .val (.int (2 : Int32)), .val (.int k12), .val (.int k13), .val (.int k14), .val (.int k15), .unset, .unset, .unset, .unset, .unset] [(.ref a1145)]
      refine s_astore A1145 at_158 (pc' := 160) rfl (ls' := #[.val (.int p0), .val (.int p1), .val (.int p2), .val (.int p3), .val (.int p4), .val (.int k5), .val (.double x6), .second, .val (.double x8), .second, .val (.int (2 : Int32)), .val (.int (2 : Int32)), .val (.int k12), .val (.int k13), .val (.int k14), .val (.int k15), .val (.ref a1145), .unset, .unset, .unset, .unset]) rfl rfl ?_
      refine s_iload A1145 at_160 (pc' := 162) rfl rfl ?_
      refine s_iload A1145 at_162 (pc' := 164) rfl rfl ?_
      refine s_iload A1145 at_164 (pc' := 166) rfl rfl ?_
      have f1147 := (Old.keep O K1145 (fun x hx => absurd hx nin0))
      have sz1150 : h0.size ≤ T1145.heap.size := K1145.1
      have zs1149 : n0 ≤ T1145.heap.size := Nat.le_trans Z0 sz1150
      refine g_staticH X1145 hx hZ (y := (⟨"com/example/prox2/prox2/format/RunOrderComparePinLaw", "make", "(ICC)Ljava/lang/String;"⟩ : MethodName)) hown (hw _ (List.mem_of_getElem? (i := 0) rfl)) (hw _ (List.mem_of_getElem? (i := 1) rfl)) (hw _ (List.mem_of_getElem? (i := 2) rfl)) (hw _ (List.mem_of_getElem? (i := 3) rfl)) (by decide) hS1145 (Nat.le_refl _) hEL ch1145 (argsL := [(.int (2 : Int32)), (.int k14), (.int k15)]) (rest := []) (c_make_2 l Z a0 hw [] cz k14 k15 T1145.heap n0 zs1149 f1147 SC hcz B14 B15 hEL) pd_14 rfl rfl (hb hby at_166) e1145 (by rw [hml]; rfl) (pc' := 169) rfl (by decide) (W := 0) (Nat.le_of_eq rfl) (by decide) (by decide) (by decide) ?_
      intro v1148 T1148 L1148 X1148 hS1148 hZ hown ch1148 sx1148 hQ1148
      have A1148 := wk X1148 hx hby
      have e1148 : T1148.heap = T1148.heap := rfl
      obtain ⟨a1148, d1148, rfl, N1148, K1148, Ea1148, Fv1148, Fc1148, D1148⟩ := hQ1148
      have kp1151 := Keep.trans kp1146 K1148 (fun x hx => absurd hx nin0)
      have fr1148 := Fr.app fr1145 N1148
      show Go p e below m (FinH Z consts_1 s h0 room_1.cells room_1.slots (fun v h L => v = some (.int 1) ∧ Fr n0 L)) T1148 169 #[.val (.int p0), .val (.int p1), .val (.int p2), .val (.int p3), .val (.int p4), .val (.int k5), .val (.double x6), .second, .val (.double x8), .second, .val (.int (2 : Int32)), .val (.int (2 : Int32)), .val (.int k12), .val (.int k13), .val (.int k14), .val (.int k15), .val (.ref a1145), .unset, .unset, .unset, .unset] [(.ref a1148)]
      refine s_astore A1148 at_169 (pc' := 171) rfl (ls' := #[.val (.int p0), .val (.int p1), .val (.int p2), .val (.int p3), .val (.int p4), .val (.int k5), .val (.double x6), .second, .val (.double x8), .second, .val (.int (2 : Int32)), .val (.int (2 : Int32)), .val (.int k12), .val (.int k13), .val (.int k14), .val (.int k15), .val (.ref a1145), .val (.ref a1148), .unset, .unset, .unset]) rfl rfl ?_
      refine s_dload A1148 at_171 (pc' := 173) rfl rfl ?_
      refine s_aload A1148 at_173 (pc' := 175) rfl rfl rfl ?_
      refine s_dload A1148 at_175 (pc' := 177) rfl rfl ?_
      refine s_aload A1148 at_177 (pc' := 179) rfl rfl rfl ?_
      have f1152 := (Old.keep f1147 K1148 (fun x hx => absurd hx nin0))
      have f1153 := (Exa.keep Ea1145 K1148)
      have f1154 := (Fld.keep Fv1145 K1148 nin0)
      have f1155 := (Fld.keep Fc1145 K1148 nin0)
      have f1156 := (Ars.keep D1145 K1148 nin0)
      have sz1158 : h0.size ≤ T1148.heap.size := (Nat.le_trans sz1150 K1148.1)
      have zs1157 : n0 ≤ T1148.heap.size := Nat.le_trans Z0 sz1158
      refine g_static X1148 hx hZ (y := (⟨"com/example/prox2/prox2/format/RunOrder", "compare", "(DLjava/lang/String;DLjava/lang/String;)I"⟩ : MethodName)) hown (hw _ (List.mem_of_getElem? (i := 26) rfl)) (hw _ (List.mem_of_getElem? (i := 27) rfl)) (hw _ (List.mem_of_getElem? (i := 28) rfl)) (hw _ (List.mem_of_getElem? (i := 29) rfl)) (by decide) (argsL := [(.double x6), (.ref a1145), (.double x8), (.ref a1148)]) (rest := []) (c_rc2_2 l Z a0 hw [] x6 x8 p0.toInt k5.toInt a1148 d1148 a1145 d1145 cz fv k14 k15 k12 k13 T1148.heap n0 zs1157 y6 y8 Ea1148 Fv1148 Fc1148 D1148 f1152 SC hcz f1153 f1154 f1155 f1156 SF hfv B14 B15 B12 B13) pd_15 rfl rfl (hb hby at_179) e1148 (by rw [hml]; rfl) (pc' := 182) rfl (by decide) (W := 0) (Nat.le_of_eq rfl) (by decide) (by decide) (by decide) ?_
      intro v1159 T1159 L1159 X1159 hQ1159
      have A1159 := wk X1159 hx hby
      have e1159 : T1159.heap = T1159.heap := rfl
      obtain ⟨z1159, rfl, q1159, N1159, hh1159⟩ := hQ1159
      have e1159 : T1159.heap = T1148.heap := hh1159
      have fr1159 := Fr.app fr1148 N1159
      show Go p e below m (FinH Z consts_1 s h0 room_1.cells room_1.slots (fun v h L => v = some (.int 1) ∧ Fr n0 L)) T1159 182 #[.val (.int p0), .val (.int p1), .val (.int p2), .val (.int p3), .val (.int p4), .val (.int k5), .val (.double x6), .second, .val (.double x8), .second, .val (.int (2 : Int32)), .val (.int (2 : Int32)), .val (.int k12), .val (.int k13), .val (.int k14), .val (.int k15), .val (.ref a1145), .val (.ref a1148), .unset, .unset, .unset] [(.int z1159)]
      refine s_istore A1159 at_182 (pc' := 184) rfl (ls' := #[.val (.int p0), .val (.int p1), .val (.int p2), .val (.int p3), .val (.int p4), .val (.int k5), .val (.double x6), .second, .val (.double x8), .second, .val (.int (2 : Int32)), .val (.int (2 : Int32)), .val (.int k12), .val (.int k13), .val (.int k14), .val (.int k15), .val (.ref a1145), .val (.ref a1148), .val (.int z1159), .unset, .unset]) rfl ?_
      refine s_iload A1159 at_184 (pc' := 186) rfl rfl ?_
      refine s_ifge A1159 at_186 (pY := 193) (pN := 189) (by decide) (by decide) rfl ?_ ?_
      · intro c186
        replace c186 := iz_ge c186
        refine s_iload A1159 at_193 (pc' := 195) rfl rfl ?_
        refine s_ifle A1159 at_195 (pY := 202) (pN := 198) (by decide) (by decide) rfl ?_ ?_
        · intro c195
          replace c195 := iz_le c195
          refine s_iconst A1159 at_202 (pc' := 203) rfl (v := (0 : Int32)) (by decide) ?_
          refine s_istore A1159 at_203 (pc' := 205) rfl (ls' := #[.val (.int p0), .val (.int p1), .val (.int p2), .val (.int p3), .val (.int p4), .val (.int k5), .val (.double x6), .second, .val (.double x8), .second, .val (.int (2 : Int32)), .val (.int (2 : Int32)), .val (.int k12), .val (.int k13), .val (.int k14), .val (.int k15), .val (.ref a1145), .val (.ref a1148), .val (.int z1159), .val (.int (0 : Int32)), .unset]) rfl ?_
          refine s_iloadN A1159 at_205 (pc' := 206) rfl rfl ?_
          refine s_iload A1159 at_206 (pc' := 208) rfl rfl ?_
          refine s_icmple A1159 at_208 (pY := 217) (pN := 211) (by decide) (by decide) rfl ?_ ?_
          · intro c208
            replace c208 := i_le c208
            refine s_iloadN A1159 at_217 (pc' := 218) rfl rfl ?_
            refine s_iload A1159 at_218 (pc' := 220) rfl rfl ?_
            refine s_icmpge A1159 at_220 (pY := 229) (pN := 223) (by decide) (by decide) rfl ?_ ?_
            · intro c220
              replace c220 := i_ge c220
              refine s_iload A1159 at_229 (pc' := 231) rfl rfl ?_
              refine s_iload A1159 at_231 (pc' := 233) rfl rfl ?_
              refine s_iload A1159 at_233 (pc' := 235) rfl rfl ?_
              refine s_iload A1159 at_235 (pc' := 237) rfl rfl ?_
              refine s_iload A1159 at_237 (pc' := 239) rfl rfl ?_
              refine s_iload A1159 at_239 (pc' := 241) rfl rfl ?_
              refine g_static X1159 hx hZ (y := (⟨"com/example/prox2/prox2/format/RunOrderComparePinLaw", "cmp", "(ICCICC)I"⟩ : MethodName)) hown (hw _ (List.mem_of_getElem? (i := 61) rfl)) (hw _ (List.mem_of_getElem? (i := 62) rfl)) (hw _ (List.mem_of_getElem? (i := 2) rfl)) (hw _ (List.mem_of_getElem? (i := 63) rfl)) (by decide) (argsL := [(.int (2 : Int32)), (.int k14), (.int k15), (.int (2 : Int32)), (.int k12), (.int k13)]) (rest := []) (c_ck2_2 l Z a0 hw [] k14 k15 k12 k13 T1148.heap n0 zs1157) pd_16 rfl rfl (hb hby at_241) e1159 (by rw [hml]; rfl) (pc' := 244) rfl (by decide) (W := 0) (Nat.le_of_eq rfl) (by decide) (by decide) (by decide) ?_
              intro v1160 T1160 L1160 X1160 hQ1160
              have A1160 := wk X1160 hx hby
              have e1160 : T1160.heap = T1160.heap := rfl
              obtain ⟨z1160, rfl, q1160, N1160, hh1160⟩ := hQ1160
              have e1160 : T1160.heap = T1148.heap := hh1160
              have fr1160 := Fr.app fr1159 N1160
              show Go p e below m (FinH Z consts_1 s h0 room_1.cells room_1.slots (fun v h L => v = some (.int 1) ∧ Fr n0 L)) T1160 244 #[.val (.int p0), .val (.int p1), .val (.int p2), .val (.int p3), .val (.int p4), .val (.int k5), .val (.double x6), .second, .val (.double x8), .second, .val (.int (2 : Int32)), .val (.int (2 : Int32)), .val (.int k12), .val (.int k13), .val (.int k14), .val (.int k15), .val (.ref a1145), .val (.ref a1148), .val (.int z1159), .val (.int (0 : Int32)), .unset] [(.int z1160)]
              refine s_istore A1160 at_244 (pc' := 246) rfl (ls' := #[.val (.int p0), .val (.int p1), .val (.int p2), .val (.int p3), .val (.int p4), .val (.int k5), .val (.double x6), .second, .val (.double x8), .second, .val (.int (2 : Int32)), .val (.int (2 : Int32)), .val (.int k12), .val (.int k13), .val (.int k14), .val (.int k15), .val (.ref a1145), .val (.ref a1148), .val (.int z1159), .val (.int (0 : Int32)), .val (.int z1160)]) rfl ?_
              refine s_iload A1160 at_246 (pc' := 248) rfl rfl ?_
              refine s_iload A1160 at_248 (pc' := 250) rfl rfl ?_
              refine s_icmpne A1160 at_250 (pY := 257) (pN := 253) (by decide) (by decide) rfl ?_ ?_
              · intro c250
                replace c250 := i_ne c250
                rw [show (0 : Int32).toInt = 0 from by decide] at c250
                refine s_iconst A1160 at_257 (pc' := 258) rfl (v := (0 : Int32)) (by decide) ?_
                exfalso; omega
              · intro c250
                replace c250 := i_eq c250
                rw [show (0 : Int32).toInt = 0 from by decide] at c250
                refine s_iconst A1160 at_253 (pc' := 254) rfl (v := (1 : Int32)) (by decide) ?_
                refine s_goto A1160 at_254 (pc' := 258) (by decide) (by decide) ?_
                exact h_ret X1160 hx hZ hlk hS1148 e1160 (Nat.le_refl _) hEL ch1148 hret rfl (Or.inl ⟨rfl, by simp, _, rfl⟩) (hb hby at_258) ⟨rfl, fr1160⟩ (by decide) (by decide)
            · intro c220
              replace c220 := i_lt c220
              refine s_iconst A1159 at_223 (pc' := 224) rfl (v := (1 : Int32)) (by decide) ?_
              refine s_istore A1159 at_224 (pc' := 226) rfl (ls' := #[.val (.int p0), .val (.int p1), .val (.int p2), .val (.int p3), .val (.int p4), .val (.int k5), .val (.double x6), .second, .val (.double x8), .second, .val (.int (2 : Int32)), .val (.int (2 : Int32)), .val (.int k12), .val (.int k13), .val (.int k14), .val (.int k15), .val (.ref a1145), .val (.ref a1148), .val (.int z1159), .val (.int (0 : Int32)), .val (.int (1 : Int32))]) rfl ?_
              refine s_goto A1159 at_226 (pc' := 246) (by decide) (by decide) ?_
              refine s_iload A1159 at_246 (pc' := 248) rfl rfl ?_
              refine s_iload A1159 at_248 (pc' := 250) rfl rfl ?_
              refine s_icmpne A1159 at_250 (pY := 257) (pN := 253) (by decide) (by decide) rfl (fun _ => ?_) (fun c => absurd c (by decide))
              refine s_iconst A1159 at_257 (pc' := 258) rfl (v := (0 : Int32)) (by decide) ?_
              exfalso; omega
          · intro c208
            replace c208 := i_gt c208
            refine s_iconst A1159 at_211 (pc' := 212) rfl (v := (-1 : Int32)) (by decide) ?_
            refine s_istore A1159 at_212 (pc' := 214) rfl (ls' := #[.val (.int p0), .val (.int p1), .val (.int p2), .val (.int p3), .val (.int p4), .val (.int k5), .val (.double x6), .second, .val (.double x8), .second, .val (.int (2 : Int32)), .val (.int (2 : Int32)), .val (.int k12), .val (.int k13), .val (.int k14), .val (.int k15), .val (.ref a1145), .val (.ref a1148), .val (.int z1159), .val (.int (0 : Int32)), .val (.int (-1 : Int32))]) rfl ?_
            refine s_goto A1159 at_214 (pc' := 246) (by decide) (by decide) ?_
            refine s_iload A1159 at_246 (pc' := 248) rfl rfl ?_
            refine s_iload A1159 at_248 (pc' := 250) rfl rfl ?_
            refine s_icmpne A1159 at_250 (pY := 257) (pN := 253) (by decide) (by decide) rfl (fun _ => ?_) (fun c => absurd c (by decide))
            refine s_iconst A1159 at_257 (pc' := 258) rfl (v := (0 : Int32)) (by decide) ?_
            exfalso; omega
        · intro c195
          replace c195 := iz_gt c195
          refine s_iconst A1159 at_198 (pc' := 199) rfl (v := (1 : Int32)) (by decide) ?_
          refine s_goto A1159 at_199 (pc' := 203) (by decide) (by decide) ?_
          refine s_istore A1159 at_203 (pc' := 205) rfl (ls' := #[.val (.int p0), .val (.int p1), .val (.int p2), .val (.int p3), .val (.int p4), .val (.int k5), .val (.double x6), .second, .val (.double x8), .second, .val (.int (2 : Int32)), .val (.int (2 : Int32)), .val (.int k12), .val (.int k13), .val (.int k14), .val (.int k15), .val (.ref a1145), .val (.ref a1148), .val (.int z1159), .val (.int (1 : Int32)), .unset]) rfl ?_
          refine s_iloadN A1159 at_205 (pc' := 206) rfl rfl ?_
          refine s_iload A1159 at_206 (pc' := 208) rfl rfl ?_
          refine s_icmple A1159 at_208 (pY := 217) (pN := 211) (by decide) (by decide) rfl ?_ ?_
          · intro c208
            replace c208 := i_le c208
            refine s_iloadN A1159 at_217 (pc' := 218) rfl rfl ?_
            refine s_iload A1159 at_218 (pc' := 220) rfl rfl ?_
            refine s_icmpge A1159 at_220 (pY := 229) (pN := 223) (by decide) (by decide) rfl ?_ ?_
            · intro c220
              replace c220 := i_ge c220
              refine s_iload A1159 at_229 (pc' := 231) rfl rfl ?_
              refine s_iload A1159 at_231 (pc' := 233) rfl rfl ?_
              refine s_iload A1159 at_233 (pc' := 235) rfl rfl ?_
              refine s_iload A1159 at_235 (pc' := 237) rfl rfl ?_
              refine s_iload A1159 at_237 (pc' := 239) rfl rfl ?_
              refine s_iload A1159 at_239 (pc' := 241) rfl rfl ?_
              refine g_static X1159 hx hZ (y := (⟨"com/example/prox2/prox2/format/RunOrderComparePinLaw", "cmp", "(ICCICC)I"⟩ : MethodName)) hown (hw _ (List.mem_of_getElem? (i := 61) rfl)) (hw _ (List.mem_of_getElem? (i := 62) rfl)) (hw _ (List.mem_of_getElem? (i := 2) rfl)) (hw _ (List.mem_of_getElem? (i := 63) rfl)) (by decide) (argsL := [(.int (2 : Int32)), (.int k14), (.int k15), (.int (2 : Int32)), (.int k12), (.int k13)]) (rest := []) (c_ck2_2 l Z a0 hw [] k14 k15 k12 k13 T1148.heap n0 zs1157) pd_16 rfl rfl (hb hby at_241) e1159 (by rw [hml]; rfl) (pc' := 244) rfl (by decide) (W := 0) (Nat.le_of_eq rfl) (by decide) (by decide) (by decide) ?_
              intro v1161 T1161 L1161 X1161 hQ1161
              have A1161 := wk X1161 hx hby
              have e1161 : T1161.heap = T1161.heap := rfl
              obtain ⟨z1161, rfl, q1161, N1161, hh1161⟩ := hQ1161
              have e1161 : T1161.heap = T1148.heap := hh1161
              have fr1161 := Fr.app fr1159 N1161
              show Go p e below m (FinH Z consts_1 s h0 room_1.cells room_1.slots (fun v h L => v = some (.int 1) ∧ Fr n0 L)) T1161 244 #[.val (.int p0), .val (.int p1), .val (.int p2), .val (.int p3), .val (.int p4), .val (.int k5), .val (.double x6), .second, .val (.double x8), .second, .val (.int (2 : Int32)), .val (.int (2 : Int32)), .val (.int k12), .val (.int k13), .val (.int k14), .val (.int k15), .val (.ref a1145), .val (.ref a1148), .val (.int z1159), .val (.int (1 : Int32)), .unset] [(.int z1161)]
              refine s_istore A1161 at_244 (pc' := 246) rfl (ls' := #[.val (.int p0), .val (.int p1), .val (.int p2), .val (.int p3), .val (.int p4), .val (.int k5), .val (.double x6), .second, .val (.double x8), .second, .val (.int (2 : Int32)), .val (.int (2 : Int32)), .val (.int k12), .val (.int k13), .val (.int k14), .val (.int k15), .val (.ref a1145), .val (.ref a1148), .val (.int z1159), .val (.int (1 : Int32)), .val (.int z1161)]) rfl ?_
              refine s_iload A1161 at_246 (pc' := 248) rfl rfl ?_
              refine s_iload A1161 at_248 (pc' := 250) rfl rfl ?_
              refine s_icmpne A1161 at_250 (pY := 257) (pN := 253) (by decide) (by decide) rfl ?_ ?_
              · intro c250
                replace c250 := i_ne c250
                rw [show (1 : Int32).toInt = 1 from by decide] at c250
                refine s_iconst A1161 at_257 (pc' := 258) rfl (v := (0 : Int32)) (by decide) ?_
                exfalso; omega
              · intro c250
                replace c250 := i_eq c250
                rw [show (1 : Int32).toInt = 1 from by decide] at c250
                refine s_iconst A1161 at_253 (pc' := 254) rfl (v := (1 : Int32)) (by decide) ?_
                refine s_goto A1161 at_254 (pc' := 258) (by decide) (by decide) ?_
                exact h_ret X1161 hx hZ hlk hS1148 e1161 (Nat.le_refl _) hEL ch1148 hret rfl (Or.inl ⟨rfl, by simp, _, rfl⟩) (hb hby at_258) ⟨rfl, fr1161⟩ (by decide) (by decide)
            · intro c220
              replace c220 := i_lt c220
              refine s_iconst A1159 at_223 (pc' := 224) rfl (v := (1 : Int32)) (by decide) ?_
              refine s_istore A1159 at_224 (pc' := 226) rfl (ls' := #[.val (.int p0), .val (.int p1), .val (.int p2), .val (.int p3), .val (.int p4), .val (.int k5), .val (.double x6), .second, .val (.double x8), .second, .val (.int (2 : Int32)), .val (.int (2 : Int32)), .val (.int k12), .val (.int k13), .val (.int k14), .val (.int k15), .val (.ref a1145), .val (.ref a1148), .val (.int z1159), .val (.int (1 : Int32)), .val (.int (1 : Int32))]) rfl ?_
              refine s_goto A1159 at_226 (pc' := 246) (by decide) (by decide) ?_
              refine s_iload A1159 at_246 (pc' := 248) rfl rfl ?_
              refine s_iload A1159 at_248 (pc' := 250) rfl rfl ?_
              refine s_icmpne A1159 at_250 (pY := 257) (pN := 253) (by decide) (by decide) rfl (fun c => absurd c (by decide)) (fun _ => ?_)
              refine s_iconst A1159 at_253 (pc' := 254) rfl (v := (1 : Int32)) (by decide) ?_
              refine s_goto A1159 at_254 (pc' := 258) (by decide) (by decide) ?_
              exact h_ret X1159 hx hZ hlk hS1148 e1159 (Nat.le_refl _) hEL ch1148 hret rfl (Or.inl ⟨rfl, by simp, _, rfl⟩) (hb hby at_258) ⟨rfl, fr1159⟩ (by decide) (by decide)
          · intro c208
            replace c208 := i_gt c208
            refine s_iconst A1159 at_211 (pc' := 212) rfl (v := (-1 : Int32)) (by decide) ?_
            refine s_istore A1159 at_212 (pc' := 214) rfl (ls' := #[.val (.int p0), .val (.int p1), .val (.int p2), .val (.int p3), .val (.int p4), .val (.int k5), .val (.double x6), .second, .val (.double x8), .second, .val (.int (2 : Int32)), .val (.int (2 : Int32)), .val (.int k12), .val (.int k13), .val (.int k14), .val (.int k15), .val (.ref a1145), .val (.ref a1148), .val (.int z1159), .val (.int (1 : Int32)), .val (.int (-1 : Int32))]) rfl ?_
            refine s_goto A1159 at_214 (pc' := 246) (by decide) (by decide) ?_
            refine s_iload A1159 at_246 (pc' := 248) rfl rfl ?_
            refine s_iload A1159 at_248 (pc' := 250) rfl rfl ?_
            refine s_icmpne A1159 at_250 (pY := 257) (pN := 253) (by decide) (by decide) rfl (fun _ => ?_) (fun c => absurd c (by decide))
            refine s_iconst A1159 at_257 (pc' := 258) rfl (v := (0 : Int32)) (by decide) ?_
            exfalso; omega
      · intro c186
        replace c186 := iz_lt c186
        refine s_iconst A1159 at_189 (pc' := 190) rfl (v := (-1 : Int32)) (by decide) ?_
        refine s_goto A1159 at_190 (pc' := 203) (by decide) (by decide) ?_
        refine s_istore A1159 at_203 (pc' := 205) rfl (ls' := #[.val (.int p0), .val (.int p1), .val (.int p2), .val (.int p3), .val (.int p4), .val (.int k5), .val (.double x6), .second, .val (.double x8), .second, .val (.int (2 : Int32)), .val (.int (2 : Int32)), .val (.int k12), .val (.int k13), .val (.int k14), .val (.int k15), .val (.ref a1145), .val (.ref a1148), .val (.int z1159), .val (.int (-1 : Int32)), .unset]) rfl ?_
        refine s_iloadN A1159 at_205 (pc' := 206) rfl rfl ?_
        refine s_iload A1159 at_206 (pc' := 208) rfl rfl ?_
        refine s_icmple A1159 at_208 (pY := 217) (pN := 211) (by decide) (by decide) rfl ?_ ?_
        · intro c208
          replace c208 := i_le c208
          refine s_iloadN A1159 at_217 (pc' := 218) rfl rfl ?_
          refine s_iload A1159 at_218 (pc' := 220) rfl rfl ?_
          refine s_icmpge A1159 at_220 (pY := 229) (pN := 223) (by decide) (by decide) rfl ?_ ?_
          · intro c220
            replace c220 := i_ge c220
            refine s_iload A1159 at_229 (pc' := 231) rfl rfl ?_
            refine s_iload A1159 at_231 (pc' := 233) rfl rfl ?_
            refine s_iload A1159 at_233 (pc' := 235) rfl rfl ?_
            refine s_iload A1159 at_235 (pc' := 237) rfl rfl ?_
            refine s_iload A1159 at_237 (pc' := 239) rfl rfl ?_
            refine s_iload A1159 at_239 (pc' := 241) rfl rfl ?_
            refine g_static X1159 hx hZ (y := (⟨"com/example/prox2/prox2/format/RunOrderComparePinLaw", "cmp", "(ICCICC)I"⟩ : MethodName)) hown (hw _ (List.mem_of_getElem? (i := 61) rfl)) (hw _ (List.mem_of_getElem? (i := 62) rfl)) (hw _ (List.mem_of_getElem? (i := 2) rfl)) (hw _ (List.mem_of_getElem? (i := 63) rfl)) (by decide) (argsL := [(.int (2 : Int32)), (.int k14), (.int k15), (.int (2 : Int32)), (.int k12), (.int k13)]) (rest := []) (c_ck2_2 l Z a0 hw [] k14 k15 k12 k13 T1148.heap n0 zs1157) pd_16 rfl rfl (hb hby at_241) e1159 (by rw [hml]; rfl) (pc' := 244) rfl (by decide) (W := 0) (Nat.le_of_eq rfl) (by decide) (by decide) (by decide) ?_
            intro v1162 T1162 L1162 X1162 hQ1162
            have A1162 := wk X1162 hx hby
            have e1162 : T1162.heap = T1162.heap := rfl
            obtain ⟨z1162, rfl, q1162, N1162, hh1162⟩ := hQ1162
            have e1162 : T1162.heap = T1148.heap := hh1162
            have fr1162 := Fr.app fr1159 N1162
            show Go p e below m (FinH Z consts_1 s h0 room_1.cells room_1.slots (fun v h L => v = some (.int 1) ∧ Fr n0 L)) T1162 244 #[.val (.int p0), .val (.int p1), .val (.int p2), .val (.int p3), .val (.int p4), .val (.int k5), .val (.double x6), .second, .val (.double x8), .second, .val (.int (2 : Int32)), .val (.int (2 : Int32)), .val (.int k12), .val (.int k13), .val (.int k14), .val (.int k15), .val (.ref a1145), .val (.ref a1148), .val (.int z1159), .val (.int (-1 : Int32)), .unset] [(.int z1162)]
            refine s_istore A1162 at_244 (pc' := 246) rfl (ls' := #[.val (.int p0), .val (.int p1), .val (.int p2), .val (.int p3), .val (.int p4), .val (.int k5), .val (.double x6), .second, .val (.double x8), .second, .val (.int (2 : Int32)), .val (.int (2 : Int32)), .val (.int k12), .val (.int k13), .val (.int k14), .val (.int k15), .val (.ref a1145), .val (.ref a1148), .val (.int z1159), .val (.int (-1 : Int32)), .val (.int z1162)]) rfl ?_
            refine s_iload A1162 at_246 (pc' := 248) rfl rfl ?_
            refine s_iload A1162 at_248 (pc' := 250) rfl rfl ?_
            refine s_icmpne A1162 at_250 (pY := 257) (pN := 253) (by decide) (by decide) rfl ?_ ?_
            · intro c250
              replace c250 := i_ne c250
              rw [show (-1 : Int32).toInt = -1 from by decide] at c250
              refine s_iconst A1162 at_257 (pc' := 258) rfl (v := (0 : Int32)) (by decide) ?_
              exfalso; omega
            · intro c250
              replace c250 := i_eq c250
              rw [show (-1 : Int32).toInt = -1 from by decide] at c250
              refine s_iconst A1162 at_253 (pc' := 254) rfl (v := (1 : Int32)) (by decide) ?_
              refine s_goto A1162 at_254 (pc' := 258) (by decide) (by decide) ?_
              exact h_ret X1162 hx hZ hlk hS1148 e1162 (Nat.le_refl _) hEL ch1148 hret rfl (Or.inl ⟨rfl, by simp, _, rfl⟩) (hb hby at_258) ⟨rfl, fr1162⟩ (by decide) (by decide)
          · intro c220
            replace c220 := i_lt c220
            refine s_iconst A1159 at_223 (pc' := 224) rfl (v := (1 : Int32)) (by decide) ?_
            refine s_istore A1159 at_224 (pc' := 226) rfl (ls' := #[.val (.int p0), .val (.int p1), .val (.int p2), .val (.int p3), .val (.int p4), .val (.int k5), .val (.double x6), .second, .val (.double x8), .second, .val (.int (2 : Int32)), .val (.int (2 : Int32)), .val (.int k12), .val (.int k13), .val (.int k14), .val (.int k15), .val (.ref a1145), .val (.ref a1148), .val (.int z1159), .val (.int (-1 : Int32)), .val (.int (1 : Int32))]) rfl ?_
            refine s_goto A1159 at_226 (pc' := 246) (by decide) (by decide) ?_
            refine s_iload A1159 at_246 (pc' := 248) rfl rfl ?_
            refine s_iload A1159 at_248 (pc' := 250) rfl rfl ?_
            refine s_icmpne A1159 at_250 (pY := 257) (pN := 253) (by decide) (by decide) rfl (fun _ => ?_) (fun c => absurd c (by decide))
            refine s_iconst A1159 at_257 (pc' := 258) rfl (v := (0 : Int32)) (by decide) ?_
            exfalso; omega
        · intro c208
          replace c208 := i_gt c208
          refine s_iconst A1159 at_211 (pc' := 212) rfl (v := (-1 : Int32)) (by decide) ?_
          refine s_istore A1159 at_212 (pc' := 214) rfl (ls' := #[.val (.int p0), .val (.int p1), .val (.int p2), .val (.int p3), .val (.int p4), .val (.int k5), .val (.double x6), .second, .val (.double x8), .second, .val (.int (2 : Int32)), .val (.int (2 : Int32)), .val (.int k12), .val (.int k13), .val (.int k14), .val (.int k15), .val (.ref a1145), .val (.ref a1148), .val (.int z1159), .val (.int (-1 : Int32)), .val (.int (-1 : Int32))]) rfl ?_
          refine s_goto A1159 at_214 (pc' := 246) (by decide) (by decide) ?_
          refine s_iload A1159 at_246 (pc' := 248) rfl rfl ?_
          refine s_iload A1159 at_248 (pc' := 250) rfl rfl ?_
          refine s_icmpne A1159 at_250 (pY := 257) (pN := 253) (by decide) (by decide) rfl (fun c => absurd c (by decide)) (fun _ => ?_)
          refine s_iconst A1159 at_253 (pc' := 254) rfl (v := (1 : Int32)) (by decide) ?_
          refine s_goto A1159 at_254 (pc' := 258) (by decide) (by decide) ?_
          exact h_ret X1159 hx hZ hlk hS1148 e1159 (Nat.le_refl _) hEL ch1148 hret rfl (Or.inl ⟨rfl, by simp, _, rfl⟩) (hb hby at_258) ⟨rfl, fr1159⟩ (by decide) (by decide)
  have J65 : ∀ (k5 : Int32) (x6 x8 : UInt64), Dy p0.toInt 0 x6 → Dy k5.toInt 0 x8 → Go p e below m (FinH Z consts_1 s h0 room_1.cells room_1.slots (fun v h L => v = some (.int 1) ∧ Fr n0 L)) T0 65 #[.val (.int p0), .val (.int p1), .val (.int p2), .val (.int p3), .val (.int p4), .val (.int k5), .val (.double x6), .second, .val (.double x8), .second, .unset, .unset, .unset, .unset, .unset, .unset, .unset, .unset, .unset, .unset, .unset] [] := by
    intro k5 x6 x8 y6 y8
    refine s_iload A0 at_65 (pc' := 67) rfl rfl ?_
    refine s_iconst A0 at_67 (pc' := 68) rfl (v := (3 : Int32)) (by decide) ?_
    obtain ⟨z1163, hz1163⟩ : ∃ v : Int32, (p4 &&& (3 : Int32)) = v := ⟨_, rfl⟩
    have q1163 : 0 ≤ z1163.toInt ∧ z1163.toInt ≤ 3 := hz1163 ▸ iand_b (M := 3) p4 (3 : Int32) (by decide) (by decide)
    refine s_iand A0 at_68 (pc' := 69) rfl hz1163 ?_
    refine s_iconst A0 at_69 (pc' := 70) rfl (v := (3 : Int32)) (by decide) ?_
    obtain ⟨z1164, hz1164⟩ : ∃ v : Int32, (z1163 - (z1163 / (3 : Int32)) * (3 : Int32)) = v := ⟨_, rfl⟩
    refine s_irem A0 at_70 (pc' := 71) rfl (by decide) hz1164 ?_
    refine s_istore A0 at_71 (pc' := 73) rfl (ls' := #[.val (.int p0), .val (.int p1), .val (.int p2), .val (.int p3), .val (.int p4), .val (.int k5), .val (.double x6), .second, .val (.double x8), .second, .val (.int z1164), .unset, .unset, .unset, .unset, .unset, .unset, .unset, .unset, .unset, .unset]) rfl ?_
    refine s_iload A0 at_73 (pc' := 75) rfl rfl ?_
    refine s_iconst A0 at_75 (pc' := 76) rfl (v := (2 : Int32)) (by decide) ?_
    obtain ⟨z1165, hz1165⟩ : ∃ v : Int32, (XT.ushr p4 (2 : Int32)) = v := ⟨_, rfl⟩
    refine s_iushr A0 at_76 (pc' := 77) rfl hz1165 ?_
    refine s_iconst A0 at_77 (pc' := 78) rfl (v := (3 : Int32)) (by decide) ?_
    obtain ⟨z1166, hz1166⟩ : ∃ v : Int32, (z1165 &&& (3 : Int32)) = v := ⟨_, rfl⟩
    have q1166 : 0 ≤ z1166.toInt ∧ z1166.toInt ≤ 3 := hz1166 ▸ iand_b (M := 3) z1165 (3 : Int32) (by decide) (by decide)
    refine s_iand A0 at_78 (pc' := 79) rfl hz1166 ?_
    refine s_iconst A0 at_79 (pc' := 80) rfl (v := (3 : Int32)) (by decide) ?_
    obtain ⟨z1167, hz1167⟩ : ∃ v : Int32, (z1166 - (z1166 / (3 : Int32)) * (3 : Int32)) = v := ⟨_, rfl⟩
    refine s_irem A0 at_80 (pc' := 81) rfl (by decide) hz1167 ?_
    refine s_istore A0 at_81 (pc' := 83) rfl (ls' := #[.val (.int p0), .val (.int p1), .val (.int p2), .val (.int p3), .val (.int p4), .val (.int k5), .val (.double x6), .second, .val (.double x8), .second, .val (.int z1164), .val (.int z1167), .unset, .unset, .unset, .unset, .unset, .unset, .unset, .unset, .unset]) rfl ?_
    refine s_iloadN A0 at_83 (pc' := 84) rfl rfl ?_
    refine s_sipush A0 at_84 (pc' := 87) rfl (v := (255 : Int32)) (by decide) ?_
    obtain ⟨z1168, hz1168⟩ : ∃ v : Int32, (p2 &&& (255 : Int32)) = v := ⟨_, rfl⟩
    have q1168 : 0 ≤ z1168.toInt ∧ z1168.toInt ≤ 255 := hz1168 ▸ iand_b (M := 255) p2 (255 : Int32) (by decide) (by decide)
    refine s_iand A0 at_87 (pc' := 88) rfl hz1168 ?_
    refine s_i2c A0 at_88 (pc' := 89) rfl (own_i2c (z := z1168) (by omega)) ?_
    refine s_istore A0 at_89 (pc' := 91) rfl (ls' := #[.val (.int p0), .val (.int p1), .val (.int p2), .val (.int p3), .val (.int p4), .val (.int k5), .val (.double x6), .second, .val (.double x8), .second, .val (.int z1164), .val (.int z1167), .val (.int z1168), .unset, .unset, .unset, .unset, .unset, .unset, .unset, .unset]) rfl ?_
    refine s_iloadN A0 at_91 (pc' := 92) rfl rfl ?_
    refine s_bipush A0 at_92 (pc' := 94) rfl (v := (8 : Int32)) (by decide) ?_
    obtain ⟨z1169, hz1169⟩ : ∃ v : Int32, (XT.ushr p2 (8 : Int32)) = v := ⟨_, rfl⟩
    refine s_iushr A0 at_94 (pc' := 95) rfl hz1169 ?_
    refine s_sipush A0 at_95 (pc' := 98) rfl (v := (255 : Int32)) (by decide) ?_
    obtain ⟨z1170, hz1170⟩ : ∃ v : Int32, (z1169 &&& (255 : Int32)) = v := ⟨_, rfl⟩
    have q1170 : 0 ≤ z1170.toInt ∧ z1170.toInt ≤ 255 := hz1170 ▸ iand_b (M := 255) z1169 (255 : Int32) (by decide) (by decide)
    refine s_iand A0 at_98 (pc' := 99) rfl hz1170 ?_
    refine s_i2c A0 at_99 (pc' := 100) rfl (own_i2c (z := z1170) (by omega)) ?_
    refine s_istore A0 at_100 (pc' := 102) rfl (ls' := #[.val (.int p0), .val (.int p1), .val (.int p2), .val (.int p3), .val (.int p4), .val (.int k5), .val (.double x6), .second, .val (.double x8), .second, .val (.int z1164), .val (.int z1167), .val (.int z1168), .val (.int z1170), .unset, .unset, .unset, .unset, .unset, .unset, .unset]) rfl ?_
    refine s_iload A0 at_102 (pc' := 104) rfl rfl ?_
    refine s_iconst A0 at_104 (pc' := 105) rfl (v := (4 : Int32)) (by decide) ?_
    obtain ⟨z1171, hz1171⟩ : ∃ v : Int32, (XT.ushr p4 (4 : Int32)) = v := ⟨_, rfl⟩
    refine s_iushr A0 at_105 (pc' := 106) rfl hz1171 ?_
    refine s_iconst A0 at_106 (pc' := 107) rfl (v := (1 : Int32)) (by decide) ?_
    obtain ⟨z1172, hz1172⟩ : ∃ v : Int32, (z1171 &&& (1 : Int32)) = v := ⟨_, rfl⟩
    have q1172 : 0 ≤ z1172.toInt ∧ z1172.toInt ≤ 1 := hz1172 ▸ iand_b (M := 1) z1171 (1 : Int32) (by decide) (by decide)
    refine s_iand A0 at_107 (pc' := 108) rfl hz1172 ?_
    refine s_ifeq A0 at_108 (pY := 116) (pN := 111) (by decide) (by decide) rfl ?_ ?_
    · intro c108
      replace c108 := iz_eq c108
      refine s_iloadN A0 at_116 (pc' := 117) rfl rfl ?_
      refine s_sipush A0 at_117 (pc' := 120) rfl (v := (255 : Int32)) (by decide) ?_
      obtain ⟨z1173, hz1173⟩ : ∃ v : Int32, (p3 &&& (255 : Int32)) = v := ⟨_, rfl⟩
      have q1173 : 0 ≤ z1173.toInt ∧ z1173.toInt ≤ 255 := hz1173 ▸ iand_b (M := 255) p3 (255 : Int32) (by decide) (by decide)
      refine s_iand A0 at_120 (pc' := 121) rfl hz1173 ?_
      refine s_i2c A0 at_121 (pc' := 122) rfl (own_i2c (z := z1173) (by omega)) ?_
      refine s_istore A0 at_122 (pc' := 124) rfl (ls' := #[.val (.int p0), .val (.int p1), .val (.int p2), .val (.int p3), .val (.int p4), .val (.int k5), .val (.double x6), .second, .val (.double x8), .second, .val (.int z1164), .val (.int z1167), .val (.int z1168), .val (.int z1170), .val (.int z1173), .unset, .unset, .unset, .unset, .unset, .unset]) rfl ?_
      refine s_iload A0 at_124 (pc' := 126) rfl rfl ?_
      refine s_iconst A0 at_126 (pc' := 127) rfl (v := (5 : Int32)) (by decide) ?_
      obtain ⟨z1174, hz1174⟩ : ∃ v : Int32, (XT.ushr p4 (5 : Int32)) = v := ⟨_, rfl⟩
      refine s_iushr A0 at_127 (pc' := 128) rfl hz1174 ?_
      refine s_iconst A0 at_128 (pc' := 129) rfl (v := (1 : Int32)) (by decide) ?_
      obtain ⟨z1175, hz1175⟩ : ∃ v : Int32, (z1174 &&& (1 : Int32)) = v := ⟨_, rfl⟩
      have q1175 : 0 ≤ z1175.toInt ∧ z1175.toInt ≤ 1 := hz1175 ▸ iand_b (M := 1) z1174 (1 : Int32) (by decide) (by decide)
      refine s_iand A0 at_129 (pc' := 130) rfl hz1175 ?_
      refine s_ifeq A0 at_130 (pY := 138) (pN := 133) (by decide) (by decide) rfl ?_ ?_
      · intro c130
        replace c130 := iz_eq c130
        refine s_iloadN A0 at_138 (pc' := 139) rfl rfl ?_
        refine s_bipush A0 at_139 (pc' := 141) rfl (v := (8 : Int32)) (by decide) ?_
        obtain ⟨z1176, hz1176⟩ : ∃ v : Int32, (XT.ushr p3 (8 : Int32)) = v := ⟨_, rfl⟩
        refine s_iushr A0 at_141 (pc' := 142) rfl hz1176 ?_
        refine s_sipush A0 at_142 (pc' := 145) rfl (v := (255 : Int32)) (by decide) ?_
        obtain ⟨z1177, hz1177⟩ : ∃ v : Int32, (z1176 &&& (255 : Int32)) = v := ⟨_, rfl⟩
        have q1177 : 0 ≤ z1177.toInt ∧ z1177.toInt ≤ 255 := hz1177 ▸ iand_b (M := 255) z1176 (255 : Int32) (by decide) (by decide)
        refine s_iand A0 at_145 (pc' := 146) rfl hz1177 ?_
        refine s_i2c A0 at_146 (pc' := 147) rfl (own_i2c (z := z1177) (by omega)) ?_
        refine s_istore A0 at_147 (pc' := 149) rfl (ls' := #[.val (.int p0), .val (.int p1), .val (.int p2), .val (.int p3), .val (.int p4), .val (.int k5), .val (.double x6), .second, .val (.double x8), .second, .val (.int z1164), .val (.int z1167), .val (.int z1168), .val (.int z1170), .val (.int z1173), .val (.int z1177), .unset, .unset, .unset, .unset, .unset]) rfl ?_
        exact J149 k5 x6 x8 z1164 z1167 z1168 z1170 z1173 z1177 y6 y8 (own_rem hz1164 q1163.1 (by decide) (by decide)) (own_rem hz1167 q1166.1 (by decide) (by decide)) (by omega) (by omega) (by omega) (by omega)
      · intro c130
        replace c130 := iz_ne c130
        refine s_iload A0 at_133 (pc' := 135) rfl rfl ?_
        refine s_goto A0 at_135 (pc' := 147) (by decide) (by decide) ?_
        refine s_istore A0 at_147 (pc' := 149) rfl (ls' := #[.val (.int p0), .val (.int p1), .val (.int p2), .val (.int p3), .val (.int p4), .val (.int k5), .val (.double x6), .second, .val (.double x8), .second, .val (.int z1164), .val (.int z1167), .val (.int z1168), .val (.int z1170), .val (.int z1173), .val (.int z1170), .unset, .unset, .unset, .unset, .unset]) rfl ?_
        exact J149 k5 x6 x8 z1164 z1167 z1168 z1170 z1173 z1170 y6 y8 (own_rem hz1164 q1163.1 (by decide) (by decide)) (own_rem hz1167 q1166.1 (by decide) (by decide)) (by omega) (by omega) (by omega) (by omega)
    · intro c108
      replace c108 := iz_ne c108
      refine s_iload A0 at_111 (pc' := 113) rfl rfl ?_
      refine s_goto A0 at_113 (pc' := 122) (by decide) (by decide) ?_
      refine s_istore A0 at_122 (pc' := 124) rfl (ls' := #[.val (.int p0), .val (.int p1), .val (.int p2), .val (.int p3), .val (.int p4), .val (.int k5), .val (.double x6), .second, .val (.double x8), .second, .val (.int z1164), .val (.int z1167), .val (.int z1168), .val (.int z1170), .val (.int z1168), .unset, .unset, .unset, .unset, .unset, .unset]) rfl ?_
      refine s_iload A0 at_124 (pc' := 126) rfl rfl ?_
      refine s_iconst A0 at_126 (pc' := 127) rfl (v := (5 : Int32)) (by decide) ?_
      obtain ⟨z1178, hz1178⟩ : ∃ v : Int32, (XT.ushr p4 (5 : Int32)) = v := ⟨_, rfl⟩
      refine s_iushr A0 at_127 (pc' := 128) rfl hz1178 ?_
      refine s_iconst A0 at_128 (pc' := 129) rfl (v := (1 : Int32)) (by decide) ?_
      obtain ⟨z1179, hz1179⟩ : ∃ v : Int32, (z1178 &&& (1 : Int32)) = v := ⟨_, rfl⟩
      have q1179 : 0 ≤ z1179.toInt ∧ z1179.toInt ≤ 1 := hz1179 ▸ iand_b (M := 1) z1178 (1 : Int32) (by decide) (by decide)
      refine s_iand A0 at_129 (pc' := 130) rfl hz1179 ?_
      refine s_ifeq A0 at_130 (pY := 138) (pN := 133) (by decide) (by decide) rfl ?_ ?_
      · intro c130
        replace c130 := iz_eq c130
        refine s_iloadN A0 at_138 (pc' := 139) rfl rfl ?_
        refine s_bipush A0 at_139 (pc' := 141) rfl (v := (8 : Int32)) (by decide) ?_
        obtain ⟨z1180, hz1180⟩ : ∃ v : Int32, (XT.ushr p3 (8 : Int32)) = v := ⟨_, rfl⟩
        refine s_iushr A0 at_141 (pc' := 142) rfl hz1180 ?_
        refine s_sipush A0 at_142 (pc' := 145) rfl (v := (255 : Int32)) (by decide) ?_
        obtain ⟨z1181, hz1181⟩ : ∃ v : Int32, (z1180 &&& (255 : Int32)) = v := ⟨_, rfl⟩
        have q1181 : 0 ≤ z1181.toInt ∧ z1181.toInt ≤ 255 := hz1181 ▸ iand_b (M := 255) z1180 (255 : Int32) (by decide) (by decide)
        refine s_iand A0 at_145 (pc' := 146) rfl hz1181 ?_
        refine s_i2c A0 at_146 (pc' := 147) rfl (own_i2c (z := z1181) (by omega)) ?_
        refine s_istore A0 at_147 (pc' := 149) rfl (ls' := #[.val (.int p0), .val (.int p1), .val (.int p2), .val (.int p3), .val (.int p4), .val (.int k5), .val (.double x6), .second, .val (.double x8), .second, .val (.int z1164), .val (.int z1167), .val (.int z1168), .val (.int z1170), .val (.int z1168), .val (.int z1181), .unset, .unset, .unset, .unset, .unset]) rfl ?_
        exact J149 k5 x6 x8 z1164 z1167 z1168 z1170 z1168 z1181 y6 y8 (own_rem hz1164 q1163.1 (by decide) (by decide)) (own_rem hz1167 q1166.1 (by decide) (by decide)) (by omega) (by omega) (by omega) (by omega)
      · intro c130
        replace c130 := iz_ne c130
        refine s_iload A0 at_133 (pc' := 135) rfl rfl ?_
        refine s_goto A0 at_135 (pc' := 147) (by decide) (by decide) ?_
        refine s_istore A0 at_147 (pc' := 149) rfl (ls' := #[.val (.int p0), .val (.int p1), .val (.int p2), .val (.int p3), .val (.int p4), .val (.int k5), .val (.double x6), .second, .val (.double x8), .second, .val (.int z1164), .val (.int z1167), .val (.int z1168), .val (.int z1170), .val (.int z1168), .val (.int z1170), .unset, .unset, .unset, .unset, .unset]) rfl ?_
        exact J149 k5 x6 x8 z1164 z1167 z1168 z1170 z1168 z1170 y6 y8 (own_rem hz1164 q1163.1 (by decide) (by decide)) (own_rem hz1167 q1166.1 (by decide) (by decide)) (by omega) (by omega) (by omega) (by omega)
  refine s_iload A0 at_0 (pc' := 2) rfl rfl ?_
  refine s_bipush A0 at_2 (pc' := 4) rfl (v := (6 : Int32)) (by decide) ?_
  obtain ⟨z1182, hz1182⟩ : ∃ v : Int32, (XT.ushr p4 (6 : Int32)) = v := ⟨_, rfl⟩
  refine s_iushr A0 at_4 (pc' := 5) rfl hz1182 ?_
  refine s_iconst A0 at_5 (pc' := 6) rfl (v := (1 : Int32)) (by decide) ?_
  obtain ⟨z1183, hz1183⟩ : ∃ v : Int32, (z1182 &&& (1 : Int32)) = v := ⟨_, rfl⟩
  have q1183 : 0 ≤ z1183.toInt ∧ z1183.toInt ≤ 1 := hz1183 ▸ iand_b (M := 1) z1182 (1 : Int32) (by decide) (by decide)
  refine s_iand A0 at_6 (pc' := 7) rfl hz1183 ?_
  refine s_ifeq A0 at_7 (pY := 14) (pN := 10) (by decide) (by decide) rfl ?_ ?_
  · intro c7
    replace c7 := iz_eq c7
    refine s_iloadN A0 at_14 (pc' := 15) rfl rfl ?_
    refine s_istore A0 at_15 (pc' := 17) rfl (ls' := #[.val (.int p0), .val (.int p1), .val (.int p2), .val (.int p3), .val (.int p4), .val (.int p1), .unset, .unset, .unset, .unset, .unset, .unset, .unset, .unset, .unset, .unset, .unset, .unset, .unset, .unset, .unset]) rfl ?_
    refine s_iloadN A0 at_17 (pc' := 18) rfl rfl ?_
    obtain ⟨z1184, hz1184⟩ : ∃ v : UInt64, FP.i2d p0 = v := ⟨_, rfl⟩
    have q1184 : Dy p0.toInt 0 z1184 := hz1184 ▸ Dy.i2d' (n := p0.toInt) rfl
    refine s_i2d A0 at_18 (pc' := 19) rfl hz1184 ?_
    refine s_dstore A0 at_19 (pc' := 21) rfl (ls' := #[.val (.int p0), .val (.int p1), .val (.int p2), .val (.int p3), .val (.int p4), .val (.int p1), .val (.double z1184), .second, .unset, .unset, .unset, .unset, .unset, .unset, .unset, .unset, .unset, .unset, .unset, .unset, .unset]) rfl ?_
    refine s_iloadN A0 at_21 (pc' := 22) rfl rfl ?_
    refine s_ifne A0 at_22 (pY := 40) (pN := 25) (by decide) (by decide) rfl ?_ ?_
    · intro c22
      replace c22 := iz_ne c22
      refine s_iload A0 at_40 (pc' := 42) rfl rfl ?_
      obtain ⟨z1185, hz1185⟩ : ∃ v : UInt64, FP.i2d p1 = v := ⟨_, rfl⟩
      have q1185 : Dy p1.toInt 0 z1185 := hz1185 ▸ Dy.i2d' (n := p1.toInt) rfl
      refine s_i2d A0 at_42 (pc' := 43) rfl hz1185 ?_
      refine s_dstore A0 at_43 (pc' := 45) rfl (ls' := #[.val (.int p0), .val (.int p1), .val (.int p2), .val (.int p3), .val (.int p4), .val (.int p1), .val (.double z1184), .second, .val (.double z1185), .second, .unset, .unset, .unset, .unset, .unset, .unset, .unset, .unset, .unset, .unset, .unset]) rfl ?_
      refine s_iload A0 at_45 (pc' := 47) rfl rfl ?_
      refine s_ifne A0 at_47 (pY := 65) (pN := 50) (by decide) (by decide) rfl ?_ ?_
      · intro c47
        replace c47 := iz_ne c47
        exact J65 p1 z1184 z1185 q1184 q1185
      · intro c47
        replace c47 := iz_eq c47
        refine s_iload A0 at_50 (pc' := 52) rfl rfl ?_
        refine s_bipush A0 at_52 (pc' := 54) rfl (v := (8 : Int32)) (by decide) ?_
        obtain ⟨z1186, hz1186⟩ : ∃ v : Int32, (XT.ushr p4 (8 : Int32)) = v := ⟨_, rfl⟩
        refine s_iushr A0 at_54 (pc' := 55) rfl hz1186 ?_
        refine s_iconst A0 at_55 (pc' := 56) rfl (v := (1 : Int32)) (by decide) ?_
        obtain ⟨z1187, hz1187⟩ : ∃ v : Int32, (z1186 &&& (1 : Int32)) = v := ⟨_, rfl⟩
        have q1187 : 0 ≤ z1187.toInt ∧ z1187.toInt ≤ 1 := hz1187 ▸ iand_b (M := 1) z1186 (1 : Int32) (by decide) (by decide)
        refine s_iand A0 at_56 (pc' := 57) rfl hz1187 ?_
        refine s_ifeq A0 at_57 (pY := 65) (pN := 60) (by decide) (by decide) rfl ?_ ?_
        · intro c57
          replace c57 := iz_eq c57
          exact J65 p1 z1184 z1185 q1184 q1185
        · intro c57
          replace c57 := iz_ne c57
          refine g_ldcD X0 hx hZ (v := (9223372036854775808 : UInt64)) hown (hw _ (List.mem_of_getElem? (i := 87) rfl)) (hb hby at_60) (pc' := 63) rfl ?_
          refine s_dstore A0 at_63 (pc' := 65) rfl (ls' := #[.val (.int p0), .val (.int p1), .val (.int p2), .val (.int p3), .val (.int p4), .val (.int p1), .val (.double z1184), .second, .val (.double (9223372036854775808 : UInt64)), .second, .unset, .unset, .unset, .unset, .unset, .unset, .unset, .unset, .unset, .unset, .unset]) rfl ?_
          exact J65 p1 z1184 (9223372036854775808 : UInt64) q1184 (own_dz (by omega) own_lit9223372036854775808)
    · intro c22
      replace c22 := iz_eq c22
      refine s_iload A0 at_25 (pc' := 27) rfl rfl ?_
      refine s_bipush A0 at_27 (pc' := 29) rfl (v := (7 : Int32)) (by decide) ?_
      obtain ⟨z1188, hz1188⟩ : ∃ v : Int32, (XT.ushr p4 (7 : Int32)) = v := ⟨_, rfl⟩
      refine s_iushr A0 at_29 (pc' := 30) rfl hz1188 ?_
      refine s_iconst A0 at_30 (pc' := 31) rfl (v := (1 : Int32)) (by decide) ?_
      obtain ⟨z1189, hz1189⟩ : ∃ v : Int32, (z1188 &&& (1 : Int32)) = v := ⟨_, rfl⟩
      have q1189 : 0 ≤ z1189.toInt ∧ z1189.toInt ≤ 1 := hz1189 ▸ iand_b (M := 1) z1188 (1 : Int32) (by decide) (by decide)
      refine s_iand A0 at_31 (pc' := 32) rfl hz1189 ?_
      refine s_ifeq A0 at_32 (pY := 40) (pN := 35) (by decide) (by decide) rfl ?_ ?_
      · intro c32
        replace c32 := iz_eq c32
        refine s_iload A0 at_40 (pc' := 42) rfl rfl ?_
        obtain ⟨z1190, hz1190⟩ : ∃ v : UInt64, FP.i2d p1 = v := ⟨_, rfl⟩
        have q1190 : Dy p1.toInt 0 z1190 := hz1190 ▸ Dy.i2d' (n := p1.toInt) rfl
        refine s_i2d A0 at_42 (pc' := 43) rfl hz1190 ?_
        refine s_dstore A0 at_43 (pc' := 45) rfl (ls' := #[.val (.int p0), .val (.int p1), .val (.int p2), .val (.int p3), .val (.int p4), .val (.int p1), .val (.double z1184), .second, .val (.double z1190), .second, .unset, .unset, .unset, .unset, .unset, .unset, .unset, .unset, .unset, .unset, .unset]) rfl ?_
        refine s_iload A0 at_45 (pc' := 47) rfl rfl ?_
        refine s_ifne A0 at_47 (pY := 65) (pN := 50) (by decide) (by decide) rfl ?_ ?_
        · intro c47
          replace c47 := iz_ne c47
          exact J65 p1 z1184 z1190 q1184 q1190
        · intro c47
          replace c47 := iz_eq c47
          refine s_iload A0 at_50 (pc' := 52) rfl rfl ?_
          refine s_bipush A0 at_52 (pc' := 54) rfl (v := (8 : Int32)) (by decide) ?_
          obtain ⟨z1191, hz1191⟩ : ∃ v : Int32, (XT.ushr p4 (8 : Int32)) = v := ⟨_, rfl⟩
          refine s_iushr A0 at_54 (pc' := 55) rfl hz1191 ?_
          refine s_iconst A0 at_55 (pc' := 56) rfl (v := (1 : Int32)) (by decide) ?_
          obtain ⟨z1192, hz1192⟩ : ∃ v : Int32, (z1191 &&& (1 : Int32)) = v := ⟨_, rfl⟩
          have q1192 : 0 ≤ z1192.toInt ∧ z1192.toInt ≤ 1 := hz1192 ▸ iand_b (M := 1) z1191 (1 : Int32) (by decide) (by decide)
          refine s_iand A0 at_56 (pc' := 57) rfl hz1192 ?_
          refine s_ifeq A0 at_57 (pY := 65) (pN := 60) (by decide) (by decide) rfl ?_ ?_
          · intro c57
            replace c57 := iz_eq c57
            exact J65 p1 z1184 z1190 q1184 q1190
          · intro c57
            replace c57 := iz_ne c57
            refine g_ldcD X0 hx hZ (v := (9223372036854775808 : UInt64)) hown (hw _ (List.mem_of_getElem? (i := 87) rfl)) (hb hby at_60) (pc' := 63) rfl ?_
            refine s_dstore A0 at_63 (pc' := 65) rfl (ls' := #[.val (.int p0), .val (.int p1), .val (.int p2), .val (.int p3), .val (.int p4), .val (.int p1), .val (.double z1184), .second, .val (.double (9223372036854775808 : UInt64)), .second, .unset, .unset, .unset, .unset, .unset, .unset, .unset, .unset, .unset, .unset, .unset]) rfl ?_
            exact J65 p1 z1184 (9223372036854775808 : UInt64) q1184 (own_dz (by omega) own_lit9223372036854775808)
      · intro c32
        replace c32 := iz_ne c32
        refine g_ldcD X0 hx hZ (v := (9223372036854775808 : UInt64)) hown (hw _ (List.mem_of_getElem? (i := 87) rfl)) (hb hby at_35) (pc' := 38) rfl ?_
        refine s_dstore A0 at_38 (pc' := 40) rfl (ls' := #[.val (.int p0), .val (.int p1), .val (.int p2), .val (.int p3), .val (.int p4), .val (.int p1), .val (.double (9223372036854775808 : UInt64)), .second, .unset, .unset, .unset, .unset, .unset, .unset, .unset, .unset, .unset, .unset, .unset, .unset, .unset]) rfl ?_
        refine s_iload A0 at_40 (pc' := 42) rfl rfl ?_
        obtain ⟨z1193, hz1193⟩ : ∃ v : UInt64, FP.i2d p1 = v := ⟨_, rfl⟩
        have q1193 : Dy p1.toInt 0 z1193 := hz1193 ▸ Dy.i2d' (n := p1.toInt) rfl
        refine s_i2d A0 at_42 (pc' := 43) rfl hz1193 ?_
        refine s_dstore A0 at_43 (pc' := 45) rfl (ls' := #[.val (.int p0), .val (.int p1), .val (.int p2), .val (.int p3), .val (.int p4), .val (.int p1), .val (.double (9223372036854775808 : UInt64)), .second, .val (.double z1193), .second, .unset, .unset, .unset, .unset, .unset, .unset, .unset, .unset, .unset, .unset, .unset]) rfl ?_
        refine s_iload A0 at_45 (pc' := 47) rfl rfl ?_
        refine s_ifne A0 at_47 (pY := 65) (pN := 50) (by decide) (by decide) rfl ?_ ?_
        · intro c47
          replace c47 := iz_ne c47
          exact J65 p1 (9223372036854775808 : UInt64) z1193 (own_dz (by omega) own_lit9223372036854775808) q1193
        · intro c47
          replace c47 := iz_eq c47
          refine s_iload A0 at_50 (pc' := 52) rfl rfl ?_
          refine s_bipush A0 at_52 (pc' := 54) rfl (v := (8 : Int32)) (by decide) ?_
          obtain ⟨z1194, hz1194⟩ : ∃ v : Int32, (XT.ushr p4 (8 : Int32)) = v := ⟨_, rfl⟩
          refine s_iushr A0 at_54 (pc' := 55) rfl hz1194 ?_
          refine s_iconst A0 at_55 (pc' := 56) rfl (v := (1 : Int32)) (by decide) ?_
          obtain ⟨z1195, hz1195⟩ : ∃ v : Int32, (z1194 &&& (1 : Int32)) = v := ⟨_, rfl⟩
          have q1195 : 0 ≤ z1195.toInt ∧ z1195.toInt ≤ 1 := hz1195 ▸ iand_b (M := 1) z1194 (1 : Int32) (by decide) (by decide)
          refine s_iand A0 at_56 (pc' := 57) rfl hz1195 ?_
          refine s_ifeq A0 at_57 (pY := 65) (pN := 60) (by decide) (by decide) rfl ?_ ?_
          · intro c57
            replace c57 := iz_eq c57
            exact J65 p1 (9223372036854775808 : UInt64) z1193 (own_dz (by omega) own_lit9223372036854775808) q1193
          · intro c57
            replace c57 := iz_ne c57
            refine g_ldcD X0 hx hZ (v := (9223372036854775808 : UInt64)) hown (hw _ (List.mem_of_getElem? (i := 87) rfl)) (hb hby at_60) (pc' := 63) rfl ?_
            refine s_dstore A0 at_63 (pc' := 65) rfl (ls' := #[.val (.int p0), .val (.int p1), .val (.int p2), .val (.int p3), .val (.int p4), .val (.int p1), .val (.double (9223372036854775808 : UInt64)), .second, .val (.double (9223372036854775808 : UInt64)), .second, .unset, .unset, .unset, .unset, .unset, .unset, .unset, .unset, .unset, .unset, .unset]) rfl ?_
            exact J65 p1 (9223372036854775808 : UInt64) (9223372036854775808 : UInt64) (own_dz (by omega) own_lit9223372036854775808) (own_dz (by omega) own_lit9223372036854775808)
  · intro c7
    replace c7 := iz_ne c7
    refine s_iloadN A0 at_10 (pc' := 11) rfl rfl ?_
    refine s_goto A0 at_11 (pc' := 15) (by decide) (by decide) ?_
    refine s_istore A0 at_15 (pc' := 17) rfl (ls' := #[.val (.int p0), .val (.int p1), .val (.int p2), .val (.int p3), .val (.int p4), .val (.int p0), .unset, .unset, .unset, .unset, .unset, .unset, .unset, .unset, .unset, .unset, .unset, .unset, .unset, .unset, .unset]) rfl ?_
    refine s_iloadN A0 at_17 (pc' := 18) rfl rfl ?_
    obtain ⟨z1196, hz1196⟩ : ∃ v : UInt64, FP.i2d p0 = v := ⟨_, rfl⟩
    have q1196 : Dy p0.toInt 0 z1196 := hz1196 ▸ Dy.i2d' (n := p0.toInt) rfl
    refine s_i2d A0 at_18 (pc' := 19) rfl hz1196 ?_
    refine s_dstore A0 at_19 (pc' := 21) rfl (ls' := #[.val (.int p0), .val (.int p1), .val (.int p2), .val (.int p3), .val (.int p4), .val (.int p0), .val (.double z1196), .second, .unset, .unset, .unset, .unset, .unset, .unset, .unset, .unset, .unset, .unset, .unset, .unset, .unset]) rfl ?_
    refine s_iloadN A0 at_21 (pc' := 22) rfl rfl ?_
    refine s_ifne A0 at_22 (pY := 40) (pN := 25) (by decide) (by decide) rfl ?_ ?_
    · intro c22
      replace c22 := iz_ne c22
      refine s_iload A0 at_40 (pc' := 42) rfl rfl ?_
      obtain ⟨z1197, hz1197⟩ : ∃ v : UInt64, FP.i2d p0 = v := ⟨_, rfl⟩
      have q1197 : Dy p0.toInt 0 z1197 := hz1197 ▸ Dy.i2d' (n := p0.toInt) rfl
      refine s_i2d A0 at_42 (pc' := 43) rfl hz1197 ?_
      refine s_dstore A0 at_43 (pc' := 45) rfl (ls' := #[.val (.int p0), .val (.int p1), .val (.int p2), .val (.int p3), .val (.int p4), .val (.int p0), .val (.double z1196), .second, .val (.double z1197), .second, .unset, .unset, .unset, .unset, .unset, .unset, .unset, .unset, .unset, .unset, .unset]) rfl ?_
      refine s_iload A0 at_45 (pc' := 47) rfl rfl ?_
      refine s_ifne A0 at_47 (pY := 65) (pN := 50) (by decide) (by decide) rfl ?_ ?_
      · intro c47
        replace c47 := iz_ne c47
        exact J65 p0 z1196 z1197 q1196 q1197
      · intro c47
        replace c47 := iz_eq c47
        refine s_iload A0 at_50 (pc' := 52) rfl rfl ?_
        refine s_bipush A0 at_52 (pc' := 54) rfl (v := (8 : Int32)) (by decide) ?_
        obtain ⟨z1198, hz1198⟩ : ∃ v : Int32, (XT.ushr p4 (8 : Int32)) = v := ⟨_, rfl⟩
        refine s_iushr A0 at_54 (pc' := 55) rfl hz1198 ?_
        refine s_iconst A0 at_55 (pc' := 56) rfl (v := (1 : Int32)) (by decide) ?_
        obtain ⟨z1199, hz1199⟩ : ∃ v : Int32, (z1198 &&& (1 : Int32)) = v := ⟨_, rfl⟩
        have q1199 : 0 ≤ z1199.toInt ∧ z1199.toInt ≤ 1 := hz1199 ▸ iand_b (M := 1) z1198 (1 : Int32) (by decide) (by decide)
        refine s_iand A0 at_56 (pc' := 57) rfl hz1199 ?_
        refine s_ifeq A0 at_57 (pY := 65) (pN := 60) (by decide) (by decide) rfl ?_ ?_
        · intro c57
          replace c57 := iz_eq c57
          exact J65 p0 z1196 z1197 q1196 q1197
        · intro c57
          replace c57 := iz_ne c57
          refine g_ldcD X0 hx hZ (v := (9223372036854775808 : UInt64)) hown (hw _ (List.mem_of_getElem? (i := 87) rfl)) (hb hby at_60) (pc' := 63) rfl ?_
          refine s_dstore A0 at_63 (pc' := 65) rfl (ls' := #[.val (.int p0), .val (.int p1), .val (.int p2), .val (.int p3), .val (.int p4), .val (.int p0), .val (.double z1196), .second, .val (.double (9223372036854775808 : UInt64)), .second, .unset, .unset, .unset, .unset, .unset, .unset, .unset, .unset, .unset, .unset, .unset]) rfl ?_
          exact J65 p0 z1196 (9223372036854775808 : UInt64) q1196 (own_dz (by omega) own_lit9223372036854775808)
    · intro c22
      replace c22 := iz_eq c22
      refine s_iload A0 at_25 (pc' := 27) rfl rfl ?_
      refine s_bipush A0 at_27 (pc' := 29) rfl (v := (7 : Int32)) (by decide) ?_
      obtain ⟨z1200, hz1200⟩ : ∃ v : Int32, (XT.ushr p4 (7 : Int32)) = v := ⟨_, rfl⟩
      refine s_iushr A0 at_29 (pc' := 30) rfl hz1200 ?_
      refine s_iconst A0 at_30 (pc' := 31) rfl (v := (1 : Int32)) (by decide) ?_
      obtain ⟨z1201, hz1201⟩ : ∃ v : Int32, (z1200 &&& (1 : Int32)) = v := ⟨_, rfl⟩
      have q1201 : 0 ≤ z1201.toInt ∧ z1201.toInt ≤ 1 := hz1201 ▸ iand_b (M := 1) z1200 (1 : Int32) (by decide) (by decide)
      refine s_iand A0 at_31 (pc' := 32) rfl hz1201 ?_
      refine s_ifeq A0 at_32 (pY := 40) (pN := 35) (by decide) (by decide) rfl ?_ ?_
      · intro c32
        replace c32 := iz_eq c32
        refine s_iload A0 at_40 (pc' := 42) rfl rfl ?_
        obtain ⟨z1202, hz1202⟩ : ∃ v : UInt64, FP.i2d p0 = v := ⟨_, rfl⟩
        have q1202 : Dy p0.toInt 0 z1202 := hz1202 ▸ Dy.i2d' (n := p0.toInt) rfl
        refine s_i2d A0 at_42 (pc' := 43) rfl hz1202 ?_
        refine s_dstore A0 at_43 (pc' := 45) rfl (ls' := #[.val (.int p0), .val (.int p1), .val (.int p2), .val (.int p3), .val (.int p4), .val (.int p0), .val (.double z1196), .second, .val (.double z1202), .second, .unset, .unset, .unset, .unset, .unset, .unset, .unset, .unset, .unset, .unset, .unset]) rfl ?_
        refine s_iload A0 at_45 (pc' := 47) rfl rfl ?_
        refine s_ifne A0 at_47 (pY := 65) (pN := 50) (by decide) (by decide) rfl ?_ ?_
        · intro c47
          replace c47 := iz_ne c47
          exact J65 p0 z1196 z1202 q1196 q1202
        · intro c47
          replace c47 := iz_eq c47
          refine s_iload A0 at_50 (pc' := 52) rfl rfl ?_
          refine s_bipush A0 at_52 (pc' := 54) rfl (v := (8 : Int32)) (by decide) ?_
          obtain ⟨z1203, hz1203⟩ : ∃ v : Int32, (XT.ushr p4 (8 : Int32)) = v := ⟨_, rfl⟩
          refine s_iushr A0 at_54 (pc' := 55) rfl hz1203 ?_
          refine s_iconst A0 at_55 (pc' := 56) rfl (v := (1 : Int32)) (by decide) ?_
          obtain ⟨z1204, hz1204⟩ : ∃ v : Int32, (z1203 &&& (1 : Int32)) = v := ⟨_, rfl⟩
          have q1204 : 0 ≤ z1204.toInt ∧ z1204.toInt ≤ 1 := hz1204 ▸ iand_b (M := 1) z1203 (1 : Int32) (by decide) (by decide)
          refine s_iand A0 at_56 (pc' := 57) rfl hz1204 ?_
          refine s_ifeq A0 at_57 (pY := 65) (pN := 60) (by decide) (by decide) rfl ?_ ?_
          · intro c57
            replace c57 := iz_eq c57
            exact J65 p0 z1196 z1202 q1196 q1202
          · intro c57
            replace c57 := iz_ne c57
            refine g_ldcD X0 hx hZ (v := (9223372036854775808 : UInt64)) hown (hw _ (List.mem_of_getElem? (i := 87) rfl)) (hb hby at_60) (pc' := 63) rfl ?_
            refine s_dstore A0 at_63 (pc' := 65) rfl (ls' := #[.val (.int p0), .val (.int p1), .val (.int p2), .val (.int p3), .val (.int p4), .val (.int p0), .val (.double z1196), .second, .val (.double (9223372036854775808 : UInt64)), .second, .unset, .unset, .unset, .unset, .unset, .unset, .unset, .unset, .unset, .unset, .unset]) rfl ?_
            exact J65 p0 z1196 (9223372036854775808 : UInt64) q1196 (own_dz (by omega) own_lit9223372036854775808)
      · intro c32
        replace c32 := iz_ne c32
        refine g_ldcD X0 hx hZ (v := (9223372036854775808 : UInt64)) hown (hw _ (List.mem_of_getElem? (i := 87) rfl)) (hb hby at_35) (pc' := 38) rfl ?_
        refine s_dstore A0 at_38 (pc' := 40) rfl (ls' := #[.val (.int p0), .val (.int p1), .val (.int p2), .val (.int p3), .val (.int p4), .val (.int p0), .val (.double (9223372036854775808 : UInt64)), .second, .unset, .unset, .unset, .unset, .unset, .unset, .unset, .unset, .unset, .unset, .unset, .unset, .unset]) rfl ?_
        refine s_iload A0 at_40 (pc' := 42) rfl rfl ?_
        obtain ⟨z1205, hz1205⟩ : ∃ v : UInt64, FP.i2d p0 = v := ⟨_, rfl⟩
        have q1205 : Dy p0.toInt 0 z1205 := hz1205 ▸ Dy.i2d' (n := p0.toInt) rfl
        refine s_i2d A0 at_42 (pc' := 43) rfl hz1205 ?_
        refine s_dstore A0 at_43 (pc' := 45) rfl (ls' := #[.val (.int p0), .val (.int p1), .val (.int p2), .val (.int p3), .val (.int p4), .val (.int p0), .val (.double (9223372036854775808 : UInt64)), .second, .val (.double z1205), .second, .unset, .unset, .unset, .unset, .unset, .unset, .unset, .unset, .unset, .unset, .unset]) rfl ?_
        refine s_iload A0 at_45 (pc' := 47) rfl rfl ?_
        refine s_ifne A0 at_47 (pY := 65) (pN := 50) (by decide) (by decide) rfl ?_ ?_
        · intro c47
          replace c47 := iz_ne c47
          exact J65 p0 (9223372036854775808 : UInt64) z1205 (own_dz (by omega) own_lit9223372036854775808) q1205
        · intro c47
          replace c47 := iz_eq c47
          refine s_iload A0 at_50 (pc' := 52) rfl rfl ?_
          refine s_bipush A0 at_52 (pc' := 54) rfl (v := (8 : Int32)) (by decide) ?_
          obtain ⟨z1206, hz1206⟩ : ∃ v : Int32, (XT.ushr p4 (8 : Int32)) = v := ⟨_, rfl⟩
          refine s_iushr A0 at_54 (pc' := 55) rfl hz1206 ?_
          refine s_iconst A0 at_55 (pc' := 56) rfl (v := (1 : Int32)) (by decide) ?_
          obtain ⟨z1207, hz1207⟩ : ∃ v : Int32, (z1206 &&& (1 : Int32)) = v := ⟨_, rfl⟩
          have q1207 : 0 ≤ z1207.toInt ∧ z1207.toInt ≤ 1 := hz1207 ▸ iand_b (M := 1) z1206 (1 : Int32) (by decide) (by decide)
          refine s_iand A0 at_56 (pc' := 57) rfl hz1207 ?_
          refine s_ifeq A0 at_57 (pY := 65) (pN := 60) (by decide) (by decide) rfl ?_ ?_
          · intro c57
            replace c57 := iz_eq c57
            exact J65 p0 (9223372036854775808 : UInt64) z1205 (own_dz (by omega) own_lit9223372036854775808) q1205
          · intro c57
            replace c57 := iz_ne c57
            refine g_ldcD X0 hx hZ (v := (9223372036854775808 : UInt64)) hown (hw _ (List.mem_of_getElem? (i := 87) rfl)) (hb hby at_60) (pc' := 63) rfl ?_
            refine s_dstore A0 at_63 (pc' := 65) rfl (ls' := #[.val (.int p0), .val (.int p1), .val (.int p2), .val (.int p3), .val (.int p4), .val (.int p0), .val (.double (9223372036854775808 : UInt64)), .second, .val (.double (9223372036854775808 : UInt64)), .second, .unset, .unset, .unset, .unset, .unset, .unset, .unset, .unset, .unset, .unset, .unset]) rfl ?_
            exact J65 p0 (9223372036854775808 : UInt64) (9223372036854775808 : UInt64) (own_dz (by omega) own_lit9223372036854775808) (own_dz (by omega) own_lit9223372036854775808)
set_option maxRecDepth 65536 in
set_option maxHeartbeats 40000000 in
theorem comes_1 {Post : Tables → Env → Array Value → State → Outcome → State → Prop} (hpost : ∀ tb e args s v u, (limb_1_1.after args s (.returned v) u = true ∧ limb_1_2.after args s (.returned v) u = true ∧ True) → ReturnedEndW s (.returned v) u (Jvm.fieldLocs frame_1_writes args s ++ Jvm.arrayLocs frame_1_arrays args s ++ Jvm.staticLocs frame_1_statics s) 24 1152 → Post tb e args s (.returned v) u) :
    ArmFor flags0 classFile x code maxLocals ret World_1 tables_1 room_1 Calls_1 rest_1 Pre_1 Post := by
  intro l hfl _ _ p e ha hc hk s m args below hf hA hF happ hP
  obtain ⟨hcalls, hrest, hpre⟩ := hP
  obtain ⟨-, -, -, hnamed, -, -, -, hat⟩ := (Spec.applies_iff hf).mp happ
  obtain ⟨hg, hn⟩ := and_e (Cond.before_iff.mp (show (Jvm.Cond.and given_1 narrow_1).before args s = true from hpre))
  obtain ⟨h1, g0⟩ := and_e hg
  obtain ⟨w0, w1, w2, w3, w4, rfl⟩ : ∃ w0 w1 w2 w3 w4 : Value, args = #[w0, w1, w2, w3, w4] := by
    have hs : args.size = 5 := by simpa [Cond.value, given_1] using h1
    obtain ⟨L⟩ := args
    match L, hs with
    | [w0, w1, w2, w3, w4], _ => exact ⟨w0, w1, w2, w3, w4, rfl⟩
  have hw := fun d (hd : d ∈ tables_1) => atoms_spec (ws := Jvm.Cond.code x code maxLocals ret :: tables_1) hat d (List.mem_cons_of_mem _ hd)
  have hfit : Fit s := fun {y c} hc i hi => by
    obtain ⟨ha, rfl⟩ := Array.getElem?_eq_some_iff.mp hc
    have q := List.all_eq_true.mp ((Array.all_eq_true_iff_forall_mem.mp hF) _ (Array.getElem_mem ha)) i (List.mem_range.mpr hi)
    simpa [Array.getElem?_eq_getElem hi] using q
  obtain ⟨k0, g1⟩ := and_e g0
  obtain ⟨i0, j0⟩ := is_v k0
  obtain rfl : w0 = (.int i0) := Option.some.inj j0
  obtain ⟨k1, g2⟩ := and_e g1
  obtain ⟨i1, j1⟩ := is_v k1
  obtain rfl : w1 = (.int i1) := Option.some.inj j1
  obtain ⟨k2, g3⟩ := and_e g2
  obtain ⟨i2, j2⟩ := is_v k2
  obtain rfl : w2 = (.int i2) := Option.some.inj j2
  obtain ⟨k3, g4⟩ := and_e g3
  obtain ⟨i3, j3⟩ := is_v k3
  obtain rfl : w3 = (.int i3) := Option.some.inj j3
  obtain ⟨i4, j4⟩ := is_v g4
  obtain rfl : w4 = (.int i4) := Option.some.inj j4
  have hsets := (atoms_of jdkStatics_1 (show (jdkStatics_1.foldr Cond.and restOwn_1).before _ s = true from by rw [← rest_1_c_eq]; exact hrest)).1
  obtain ⟨cz, ec⟩ := is_v (Cond.before_iff.mp (hsets _ (List.mem_of_getElem? (i := 1) rfl)))
  have SC : Sta s s.heap "java/lang/String" "COMPACT_STRINGS" "Z" (.int cz) := Sta.start ec (Or.inl (hsets _ (List.mem_of_getElem? (i := 0) rfl)))
  have hcz : ¬ cz = 0 := gotF (Cond.eq_ints ec (Term.int_eval 0)) (not_v (Cond.before_iff.mp (hsets _ (List.mem_of_getElem? (i := 2) rfl))))
  have hEL : EW s _ consts_1 := EW.cons (hw _ (List.mem_of_getElem? (i := 18) rfl)) (by simp) EW.nil
  have hCH : CHv s consts_1 s.vm s.heap := CHv.start hEL (fun p hp => hcalls.1 p hp) (hsets _ (List.mem_of_getElem? (i := 2) rfl)) (hw _ (List.mem_of_getElem? (i := 19) rfl)) (hw _ (List.mem_of_getElem? (i := 5) rfl))
  obtain ⟨fv, ef, hfv0⟩ := isR_v (Cond.before_iff.mp (hsets _ (List.mem_of_getElem? (i := 8) rfl)))
  have SF : Sta s s.heap "jdk/internal/util/Preconditions" "SIOOBE_FORMATTER" "Ljava/util/function/BiFunction;" fv := Sta.start ef (Or.inl (hsets _ (List.mem_of_getElem? (i := 7) rfl)))
  have hfv := ref_cases hfv0
  obtain ⟨n, o, r1, r2, r3, _, L, rfl, ⟨rfl, N⟩, -, hq⟩ := c_law l s _ hw tables_1 i0 i1 i2 i3 i4 cz fv s.heap s.heap.size (Nat.le_refl _) (Old.start s) SC hcz SF hfv hEL p e ha hc hk s m _ below hf ((Spec.applies_iff_loose hf).mp happ).1 ⟨rfl, State.Warmed39.refl s, rfl, hCH⟩ trivial
  refine ⟨n, _, r1, r2, r3, hpost _ _ _ _ _ _ ⟨Cond.after_iff.mpr rfl, Cond.after_iff.mpr (eq_i res_at (Term.int_eval (1)) rfl), trivial⟩ ⟨hq.1, hq.2.1, hq.2.2.1, (hq.2.2.2.sift fun y hy => Or.inr (N y hy)).mono (by decide) (by decide)⟩⟩
theorem main_1_1 : Claimed_1_1 := comes_1 fun _ _ _ _ _ _ h hF => ⟨h.1, hF⟩
theorem main_1_2 : Claimed_1_2 := comes_1 fun _ _ _ _ _ _ h hF => ⟨h.2.1, hF⟩
end Jvm.Pilot.@@N@@
namespace Jvm.Pilot.@@N@@
open Jvm Jvm.ClassFile Sem Op Lib Jvm.Free Jvm.Stand Jvm.Pilot.@@N@@.Jvm.D
/-! MADE BY PROGRAM (witnessworld.py) out of the Statement's table words and the real class files: 23 classes; the members and pool entries that the words name. The judged class is class 1, her method 1. -/
namespace start1
open Jvm.ClassFile
def u (s : String) : CpInfo := .utf8 (stringToUtf16 s)
/-- a pool by its gaps: so many unusable entries, then the entry; so many at the end -/
def gap : Nat → List CpInfo → List CpInfo
  | 0, r => r
  | n + 1, r => .unusable :: gap n r
def poolList (es : List (Nat × CpInfo)) (last : Nat) : List CpInfo := es.foldr (fun e r => gap e.1 (e.2 :: r)) (gap last [])
def pool (es : List (Nat × CpInfo)) (last : Nat) : Array CpInfo := ⟨poolList es last⟩
def fileOf (pool : Array CpInfo) (this : Nat) (attrs : Array Attribute := #[]) (ms : Array MethodInfo := #[]) (fl : Nat := 33) (sup : Nat := 0) (ifs : Array Nat := #[]) (fds : Array FieldInfo := #[]) : ClassFile where
  minorVersion := 0
  majorVersion := 65
  constantPool := pool
  accessFlags := fl
  thisClass := this
  superClass := sup
  interfaces := ifs
  fields := fds
  methods := ms
  attributes := attrs
def plain (name : String) (sup : Option ClassId) : Class where
  name := name
  kind := .ordinary
  loader := none
  accessFlags := 33
  super := sup
  interfaces := #[]
  cf := none
  fields := #[]
  methods := #[]
  instanceTypes := #[]
  staticTypes := #[]
  resolved := #[]
  callSites := []
  init := .initialized
  statics := none
  mirror := none

def pool0 : Array CpInfo := pool [(5, u "<init>"), (0, u "()V"), (1, .class_ 10), (1, u "java/lang/Object")] 113

def k0c0 : Code := { maxStack := 0, maxLocals := 1, code := object_method_1_code, exceptionTable := #[], attributes := #[] }
def k0m0 : Method := { name := "<init>", desc := "()V", sig := { parameters := [], returnType := none }, accessFlags := 1, code := some k0c0 }
/-- java/lang/Object -/
def k0 : Class := { plain "java/lang/Object" none with
  accessFlags := 33
  interfaces := #[]
  cf := some (fileOf pool0 8 #[] #[{ accessFlags := 1, nameIndex := 5, descriptorIndex := 6, attributes := #[] }] 33 0 #[] #[])
  fields := #[]
  methods := #[k0m0]
  instanceTypes := #[]
  staticTypes := #[]
  resolved := Array.replicate 124 none
  statics := none }

def pool1 : Array CpInfo := pool [(2, .class_ 4), (1, u "java/lang/Object"), (0, u "<init>"), (0, u "()V"), (0, .double 9223372036854775808), (1, .methodref 10 11), (0, .class_ 12), (0, .nameAndType 13 14), (0, u "com/example/prox2/prox2/format/RunOrderComparePinLaw"), (0, u "make"), (0, u "(ICC)Ljava/lang/String;"), (0, .methodref 16 17), (0, .class_ 18), (0, .nameAndType 19 20), (0, u "com/example/prox2/prox2/format/RunOrder"), (0, u "compare"), (0, u "(DLjava/lang/String;DLjava/lang/String;)I"), (0, .methodref 10 22), (0, .nameAndType 23 24), (0, u "cmp"), (0, u "(ICCICC)I"), (0, .class_ 26), (0, u "java/lang/String"), (0, .methodref 25 28), (0, .nameAndType 5 29), (0, u "([C)V"), (2, u "law"), (0, u "(IIIII)Z")] 3

def k1m0 : Method := { name := "<init>", desc := "()V", sig := { parameters := [], returnType := none }, accessFlags := 1, code := none }
def k1c1 : Code := { maxStack := 6, maxLocals := 21, code := code, exceptionTable := #[], attributes := #[] }
def k1m1 : Method := { name := "law", desc := "(IIIII)Z", sig := { parameters := [.int, .int, .int, .int, .int], returnType := some .boolean }, accessFlags := 9, code := some k1c1 }
def k1c2 : Code := { maxStack := 6, maxLocals := 3, code := method_3_code, exceptionTable := #[], attributes := #[] }
def k1m2 : Method := { name := "make", desc := "(ICC)Ljava/lang/String;", sig := { parameters := [.int, .char, .char], returnType := some (.object "java/lang/String") }, accessFlags := 10, code := some k1c2 }
def k1c3 : Code := { maxStack := 2, maxLocals := 6, code := method_4_code, exceptionTable := #[], attributes := #[] }
def k1m3 : Method := { name := "cmp", desc := "(ICCICC)I", sig := { parameters := [.int, .char, .char, .int, .char, .char], returnType := some .int }, accessFlags := 10, code := some k1c3 }
/-- com/example/prox2/prox2/format/RunOrderComparePinLaw -/
def k1 : Class := { plain "com/example/prox2/prox2/format/RunOrderComparePinLaw" (some 0) with
  accessFlags := 49
  interfaces := #[]
  cf := some (fileOf pool1 10 #[] #[{ accessFlags := 1, nameIndex := 5, descriptorIndex := 6, attributes := #[] }, { accessFlags := 9, nameIndex := 32, descriptorIndex := 33, attributes := #[] }, { accessFlags := 10, nameIndex := 13, descriptorIndex := 14, attributes := #[] }, { accessFlags := 10, nameIndex := 23, descriptorIndex := 24, attributes := #[] }] 49 2 #[] #[])
  fields := #[]
  methods := #[k1m0, k1m1, k1m2, k1m3]
  instanceTypes := #[]
  staticTypes := #[]
  resolved := Array.replicate 37 none
  statics := none }

def pool2 : Array CpInfo := pool [(1, .class_ 2), (0, u "java/io/Serializable"), (0, .class_ 4), (0, u "java/lang/Object")] 2

/-- java/io/Serializable -/
def k2 : Class := { plain "java/io/Serializable" (some 0) with
  accessFlags := 1537
  interfaces := #[]
  cf := some (fileOf pool2 1 #[] #[] 1537 3 #[] #[])
  fields := #[]
  methods := #[]
  instanceTypes := #[]
  staticTypes := #[]
  resolved := Array.replicate 7 none
  statics := none }

def pool3 : Array CpInfo := pool [(1, .class_ 2), (0, u "java/lang/Comparable"), (0, .class_ 4), (0, u "java/lang/Object")] 7

/-- java/lang/Comparable -/
def k3 : Class := { plain "java/lang/Comparable" (some 0) with
  accessFlags := 1537
  interfaces := #[]
  cf := some (fileOf pool3 1 #[] #[] 1537 3 #[] #[])
  fields := #[]
  methods := #[]
  instanceTypes := #[]
  staticTypes := #[]
  resolved := Array.replicate 12 none
  statics := none }

def pool4 : Array CpInfo := pool [(2, .class_ 4), (1, u "java/lang/CharSequence"), (42, .class_ 48), (0, u "java/lang/CharSequence$1CodePointIterator"), (10, .class_ 60), (0, u "java/lang/CharSequence$1CharIterator"), (5, .class_ 67), (0, u "java/lang/Object")] 63

/-- java/lang/CharSequence -/
def k4 : Class := { plain "java/lang/CharSequence" (some 0) with
  accessFlags := 1537
  interfaces := #[]
  cf := some (fileOf pool4 2 #[.nestMembers #[47, 59]] #[] 1537 66 #[] #[])
  fields := #[]
  methods := #[]
  instanceTypes := #[]
  staticTypes := #[]
  resolved := Array.replicate 131 none
  statics := none }

def pool5 : Array CpInfo := pool [(1, .class_ 2), (0, u "java/lang/constant/Constable"), (0, .class_ 4), (0, u "java/lang/Object")] 6

/-- java/lang/constant/Constable -/
def k5 : Class := { plain "java/lang/constant/Constable" (some 0) with
  accessFlags := 1537
  interfaces := #[]
  cf := some (fileOf pool5 1 #[] #[] 1537 3 #[] #[])
  fields := #[]
  methods := #[]
  instanceTypes := #[]
  staticTypes := #[]
  resolved := Array.replicate 11 none
  statics := none }

def pool6 : Array CpInfo := pool [(1, .class_ 2), (0, u "java/lang/constant/ConstantDesc"), (0, .class_ 4), (0, u "java/lang/Object")] 32

/-- java/lang/constant/ConstantDesc -/
def k6 : Class := { plain "java/lang/constant/ConstantDesc" (some 0) with
  accessFlags := 1537
  interfaces := #[]
  cf := some (fileOf pool6 1 #[] #[] 1537 3 #[] #[])
  fields := #[]
  methods := #[]
  instanceTypes := #[]
  staticTypes := #[]
  resolved := Array.replicate 37 none
  statics := none }

def pool7 : Array CpInfo := pool [(1, .methodref 2 3), (0, .class_ 4), (0, .nameAndType 5 6), (0, u "java/lang/Object"), (0, u "<init>"), (0, u "()V"), (0, .string 8), (0, u ""), (0, .fieldref 10 11), (0, .class_ 12), (0, .nameAndType 13 14), (0, u "java/lang/String"), (0, u "value"), (0, u "[B"), (0, .fieldref 10 16), (0, .nameAndType 17 18), (0, u "coder"), (0, u "B"), (2, u "hash"), (0, u "I"), (2, u "hashIsZero"), (0, u "Z"), (0, .methodref 10 28), (0, .nameAndType 5 29), (0, u "([CIILjava/lang/Void;)V"), (8, .fieldref 10 39), (0, .nameAndType 40 26), (0, u "COMPACT_STRINGS"), (1, .class_ 44), (1, u "java/lang/StringUTF16"), (0, u "compress"), (1, .methodref 42 48), (0, .nameAndType 49 50), (0, u "coderFromArrayLen"), (0, u "([BI)B"), (91, u "()Z"), (34, .methodref 42 178), (0, .nameAndType 45 179), (0, u "([CII)[B"), (154, u "()I"), (0, .methodref 10 336), (0, .nameAndType 17 337), (0, u "()B"), (53, u "(II)V"), (100, .methodref 10 493), (0, .nameAndType 494 142), (0, u "isLatin1"), (4, .methodref 10 500), (0, .nameAndType 501 391), (0, u "checkIndex"), (2, u "codePointAt"), (2, u "length"), (67, .class_ 576), (0, u "java/lang/CharSequence"), (22, u "CASE_INSENSITIVE_ORDER"), (0, u "Ljava/util/Comparator;"), (164, u "(I)I"), (244, u "([C)V"), (42, .fieldref 1054 1055), (0, .class_ 1056), (0, .nameAndType 1057 1058), (0, u "jdk/internal/util/Preconditions"), (0, u "SIOOBE_FORMATTER"), (0, u "Ljava/util/function/BiFunction;"), (0, .methodref 1054 1060), (0, .nameAndType 501 1061), (0, u "(IILjava/util/function/BiFunction;)I"), (39, u "serialPersistentFields"), (0, u "[Ljava/io/ObjectStreamField;"), (0, .class_ 1104), (0, u "java/lang/String$CaseInsensitiveComparator"), (1, .class_ 1107), (0, u "java/io/Serializable"), (0, .class_ 1109), (0, u "java/lang/Comparable"), (0, .class_ 1111), (0, u "java/lang/constant/Constable"), (0, .class_ 1113), (0, u "java/lang/constant/ConstantDesc"), (2, u "serialVersionUID"), (0, u "J"), (3, u "REPL"), (0, u "C"), (2, u "LATIN1"), (1, u "UTF16")] 323

def k7m0 : Method := { name := "<init>", desc := "()V", sig := { parameters := [], returnType := none }, accessFlags := 1, code := none }
def k7c1 : Code := { maxStack := 5, maxLocals := 2, code := jdk_42_method_3_code, exceptionTable := #[], attributes := #[] }
def k7m1 : Method := { name := "<init>", desc := "([C)V", sig := { parameters := [(.array .char)], returnType := none }, accessFlags := 1, code := some k7c1 }
def k7c2 : Code := { maxStack := 2, maxLocals := 1, code := jdk_42_method_54_code, exceptionTable := #[], attributes := #[] }
def k7m2 : Method := { name := "length", desc := "()I", sig := { parameters := [], returnType := some .int }, accessFlags := 1, code := some k7c2 }
def k7c3 : Code := { maxStack := 3, maxLocals := 3, code := jdk_42_method_57_code, exceptionTable := #[], attributes := #[] }
def k7m3 : Method := { name := "codePointAt", desc := "(I)I", sig := { parameters := [.int], returnType := some .int }, accessFlags := 1, code := some k7c3 }
def k7c4 : Code := { maxStack := 4, maxLocals := 6, code := jdk_42_method_149_code, exceptionTable := #[], attributes := #[] }
def k7m4 : Method := { name := "<init>", desc := "([CIILjava/lang/Void;)V", sig := { parameters := [(.array .char), .int, .int, (.object "java/lang/Void")], returnType := none }, accessFlags := 2, code := some k7c4 }
def k7c5 : Code := { maxStack := 1, maxLocals := 1, code := jdk_42_method_152_code, exceptionTable := #[], attributes := #[] }
def k7m5 : Method := { name := "coder", desc := "()B", sig := { parameters := [], returnType := some .byte }, accessFlags := 0, code := some k7c5 }
def k7c6 : Code := { maxStack := 1, maxLocals := 1, code := jdk_42_method_154_code, exceptionTable := #[], attributes := #[] }
def k7m6 : Method := { name := "isLatin1", desc := "()Z", sig := { parameters := [], returnType := some .boolean }, accessFlags := 0, code := some k7c6 }
def k7c7 : Code := { maxStack := 3, maxLocals := 2, code := jdk_42_method_155_code, exceptionTable := #[], attributes := #[] }
def k7m7 : Method := { name := "checkIndex", desc := "(II)V", sig := { parameters := [.int, .int], returnType := none }, accessFlags := 8, code := some k7c7 }
/-- java/lang/String -/
def k7 : Class := { plain "java/lang/String" (some 0) with
  accessFlags := 49
  interfaces := #[2, 3, 4, 5, 6]
  cf := some (fileOf pool7 10 #[.nestMembers #[1103]] #[{ accessFlags := 1, nameIndex := 5, descriptorIndex := 6, attributes := #[] }, { accessFlags := 1, nameIndex := 5, descriptorIndex := 1010, attributes := #[] }, { accessFlags := 1, nameIndex := 507, descriptorIndex := 334, attributes := #[] }, { accessFlags := 1, nameIndex := 504, descriptorIndex := 765, attributes := #[] }, { accessFlags := 2, nameIndex := 5, descriptorIndex := 29, attributes := #[] }, { accessFlags := 0, nameIndex := 17, descriptorIndex := 337, attributes := #[] }, { accessFlags := 0, nameIndex := 494, descriptorIndex := 142, attributes := #[] }, { accessFlags := 8, nameIndex := 501, descriptorIndex := 391, attributes := #[] }] 49 2 #[1106, 1108, 575, 1110, 1112] #[{ accessFlags := 18, nameIndex := 13, descriptorIndex := 14, attributes := #[] }, { accessFlags := 18, nameIndex := 17, descriptorIndex := 18, attributes := #[] }, { accessFlags := 2, nameIndex := 21, descriptorIndex := 22, attributes := #[] }, { accessFlags := 2, nameIndex := 25, descriptorIndex := 26, attributes := #[] }, { accessFlags := 26, nameIndex := 1116, descriptorIndex := 1117, attributes := #[] }, { accessFlags := 24, nameIndex := 40, descriptorIndex := 26, attributes := #[] }, { accessFlags := 26, nameIndex := 1101, descriptorIndex := 1102, attributes := #[] }, { accessFlags := 26, nameIndex := 1121, descriptorIndex := 1122, attributes := #[] }, { accessFlags := 25, nameIndex := 599, descriptorIndex := 600, attributes := #[] }, { accessFlags := 24, nameIndex := 1125, descriptorIndex := 18, attributes := #[] }, { accessFlags := 24, nameIndex := 1127, descriptorIndex := 18, attributes := #[] }])
  fields := #[{ name := "value", type := (.array .byte), accessFlags := 18, slot := 0, constantValue := 0 }, { name := "coder", type := .byte, accessFlags := 18, slot := 1, constantValue := 0 }, { name := "hash", type := .int, accessFlags := 2, slot := 2, constantValue := 0 }, { name := "hashIsZero", type := .boolean, accessFlags := 2, slot := 3, constantValue := 0 }, { name := "serialVersionUID", type := .long, accessFlags := 26, slot := 0, constantValue := 0 }, { name := "COMPACT_STRINGS", type := .boolean, accessFlags := 24, slot := 1, constantValue := 0 }, { name := "serialPersistentFields", type := (.array (.object "java/io/ObjectStreamField")), accessFlags := 26, slot := 2, constantValue := 0 }, { name := "REPL", type := .char, accessFlags := 26, slot := 3, constantValue := 0 }, { name := "CASE_INSENSITIVE_ORDER", type := (.object "java/util/Comparator"), accessFlags := 25, slot := 4, constantValue := 0 }, { name := "LATIN1", type := .byte, accessFlags := 24, slot := 5, constantValue := 0 }, { name := "UTF16", type := .byte, accessFlags := 24, slot := 6, constantValue := 0 }]
  methods := #[k7m0, k7m1, k7m2, k7m3, k7m4, k7m5, k7m6, k7m7]
  instanceTypes := #[(.array .byte), .byte, .int, .boolean]
  staticTypes := #[.long, .boolean, (.array (.object "java/io/ObjectStreamField")), .char, (.object "java/util/Comparator"), .byte, .byte]
  resolved := Array.replicate 1451 none
  statics := some 0 }

def pool8 : Array CpInfo := pool [(2, .class_ 4), (1, u "java/lang/Object"), (0, u "<init>"), (0, u "()V"), (0, .class_ 8), (0, u "com/example/prox2/prox2/format/RunOrder"), (14, .methodref 7 24), (0, .nameAndType 25 26), (0, u "compareScores"), (0, u "(DD)I"), (0, .methodref 7 28), (0, .nameAndType 29 30), (0, u "compareAsText"), (0, u "(Ljava/lang/String;Ljava/lang/String;)I"), (0, .methodref 32 33), (0, .class_ 34), (0, .nameAndType 35 36), (0, u "java/lang/Integer"), (0, u "compare"), (0, u "(II)I"), (0, .methodref 38 39), (0, .class_ 40), (0, .nameAndType 41 42), (0, u "java/lang/String"), (0, u "length"), (0, u "()I"), (0, .methodref 38 44), (0, .nameAndType 45 46), (0, u "codePointAt"), (0, u "(I)I"), (0, .methodref 48 49), (0, .class_ 50), (0, .nameAndType 51 46), (0, u "java/lang/Character"), (0, u "charCount"), (16, u "SCALE"), (0, u "D"), (1, u "MILLIONTHS_LIMIT"), (4, u "(DLjava/lang/String;DLjava/lang/String;)I")] 18

def k8m0 : Method := { name := "<init>", desc := "()V", sig := { parameters := [], returnType := none }, accessFlags := 2, code := none }
def k8c1 : Code := { maxStack := 4, maxLocals := 7, code := prog_17_method_4_code, exceptionTable := #[], attributes := #[] }
def k8m1 : Method := { name := "compare", desc := "(DLjava/lang/String;DLjava/lang/String;)I", sig := { parameters := [.double, (.object "java/lang/String"), .double, (.object "java/lang/String")], returnType := some .int }, accessFlags := 9, code := some k8c1 }
def k8c2 : Code := { maxStack := 3, maxLocals := 6, code := prog_17_method_6_code, exceptionTable := #[], attributes := #[] }
def k8m2 : Method := { name := "compareAsText", desc := "(Ljava/lang/String;Ljava/lang/String;)I", sig := { parameters := [(.object "java/lang/String"), (.object "java/lang/String")], returnType := some .int }, accessFlags := 9, code := some k8c2 }
def k8c3 : Code := { maxStack := 4, maxLocals := 5, code := prog_17_method_7_code, exceptionTable := #[], attributes := #[] }
def k8m3 : Method := { name := "compareScores", desc := "(DD)I", sig := { parameters := [.double, .double], returnType := some .int }, accessFlags := 10, code := some k8c3 }
/-- com/example/prox2/prox2/format/RunOrder -/
def k8 : Class := { plain "com/example/prox2/prox2/format/RunOrder" (some 0) with
  accessFlags := 33
  interfaces := #[]
  cf := some (fileOf pool8 7 #[] #[{ accessFlags := 2, nameIndex := 5, descriptorIndex := 6, attributes := #[] }, { accessFlags := 9, nameIndex := 35, descriptorIndex := 76, attributes := #[] }, { accessFlags := 9, nameIndex := 29, descriptorIndex := 30, attributes := #[] }, { accessFlags := 10, nameIndex := 25, descriptorIndex := 26, attributes := #[] }] 33 2 #[] #[{ accessFlags := 26, nameIndex := 68, descriptorIndex := 69, attributes := #[] }, { accessFlags := 26, nameIndex := 71, descriptorIndex := 69, attributes := #[] }])
  fields := #[{ name := "SCALE", type := .double, accessFlags := 26, slot := 0, constantValue := 0 }, { name := "MILLIONTHS_LIMIT", type := .double, accessFlags := 26, slot := 1, constantValue := 0 }]
  methods := #[k8m0, k8m1, k8m2, k8m3]
  instanceTypes := #[]
  staticTypes := #[.double, .double]
  resolved := Array.replicate 95 none
  statics := none }

def pool9 : Array CpInfo := pool [(6, .class_ 8), (1, u "java/lang/Object"), (0, u "<init>"), (0, u "()V"), (1, .class_ 14), (1, u "java/lang/StringUTF16"), (31, u "$assertionsDisabled"), (0, u "Z"), (13, u "HI_BYTE_SHIFT"), (0, u "I"), (2, u "LO_BYTE_SHIFT"), (49, .methodref 12 116), (0, .nameAndType 117 118), (0, u "compress"), (0, u "([CI[BII)I"), (3, u "([CII)[B"), (138, u "coderFromArrayLen"), (0, u "([BI)B"), (106, .class_ 371), (1, u "java/lang/StringUTF16$LinesSpliterator"), (58, u "MAX_LENGTH"), (196, .class_ 628), (0, u "java/lang/StringUTF16$CodePointsSpliterator"), (0, .class_ 630), (0, u "java/lang/StringUTF16$CharsSpliterator")] 4

def k9m0 : Method := { name := "<init>", desc := "()V", sig := { parameters := [], returnType := none }, accessFlags := 0, code := none }
def k9c1 : Code := { maxStack := 2, maxLocals := 2, code := jdk_52_method_15_code, exceptionTable := #[], attributes := #[] }
def k9m1 : Method := { name := "coderFromArrayLen", desc := "([BI)B", sig := { parameters := [(.array .byte), .int], returnType := some .byte }, accessFlags := 8, code := some k9c1 }
def k9c2 : Code := { maxStack := 5, maxLocals := 6, code := jdk_52_method_16_code, exceptionTable := #[], attributes := #[] }
def k9m2 : Method := { name := "compress", desc := "([CII)[B", sig := { parameters := [(.array .char), .int, .int], returnType := some (.array .byte) }, accessFlags := 9, code := some k9c2 }
def k9c3 : Code := { maxStack := 3, maxLocals := 7, code := jdk_52_method_21_code, exceptionTable := #[], attributes := #[] }
def k9m3 : Method := { name := "compress", desc := "([CI[BII)I", sig := { parameters := [(.array .char), .int, (.array .byte), .int, .int], returnType := some .int }, accessFlags := 9, code := some k9c3 }
/-- java/lang/StringUTF16 -/
def k9 : Class := { plain "java/lang/StringUTF16" (some 0) with
  accessFlags := 48
  interfaces := #[]
  cf := some (fileOf pool9 12 #[.nestMembers #[627, 629, 369]] #[{ accessFlags := 0, nameIndex := 9, descriptorIndex := 10, attributes := #[] }, { accessFlags := 8, nameIndex := 261, descriptorIndex := 262, attributes := #[] }, { accessFlags := 9, nameIndex := 117, descriptorIndex := 122, attributes := #[] }, { accessFlags := 9, nameIndex := 117, descriptorIndex := 118, attributes := #[] }] 48 6 #[] #[{ accessFlags := 26, nameIndex := 61, descriptorIndex := 62, attributes := #[] }, { accessFlags := 26, nameIndex := 65, descriptorIndex := 62, attributes := #[] }, { accessFlags := 24, nameIndex := 430, descriptorIndex := 62, attributes := #[] }, { accessFlags := 4120, nameIndex := 46, descriptorIndex := 47, attributes := #[] }])
  fields := #[{ name := "HI_BYTE_SHIFT", type := .int, accessFlags := 26, slot := 0, constantValue := 0 }, { name := "LO_BYTE_SHIFT", type := .int, accessFlags := 26, slot := 1, constantValue := 0 }, { name := "MAX_LENGTH", type := .int, accessFlags := 24, slot := 2, constantValue := 0 }, { name := "$assertionsDisabled", type := .boolean, accessFlags := 4120, slot := 3, constantValue := 0 }]
  methods := #[k9m0, k9m1, k9m2, k9m3]
  instanceTypes := #[]
  staticTypes := #[.int, .int, .int, .boolean]
  resolved := Array.replicate 635 none
  statics := none }

def pool10 : Array CpInfo := pool [(2, .class_ 4), (1, u "java/lang/Object"), (0, u "<init>"), (0, u "()V"), (1, .class_ 10), (1, u "java/lang/Number"), (2, .class_ 14), (0, u "java/io/Serializable"), (0, u "serialVersionUID"), (0, u "J")] 20

def k10m0 : Method := { name := "<init>", desc := "()V", sig := { parameters := [], returnType := none }, accessFlags := 1, code := none }
/-- java/lang/Number -/
def k10 : Class := { plain "java/lang/Number" (some 0) with
  accessFlags := 1057
  interfaces := #[2]
  cf := some (fileOf pool10 8 #[] #[{ accessFlags := 1, nameIndex := 5, descriptorIndex := 6, attributes := #[] }] 1057 2 #[13] #[{ accessFlags := 26, nameIndex := 15, descriptorIndex := 16, attributes := #[] }])
  fields := #[{ name := "serialVersionUID", type := .long, accessFlags := 26, slot := 0, constantValue := 0 }]
  methods := #[k10m0]
  instanceTypes := #[]
  staticTypes := #[.long]
  resolved := Array.replicate 37 none
  statics := none }

def pool11 : Array CpInfo := pool [(1, .class_ 2), (0, u "java/lang/Integer"), (16, u "digits"), (0, u "[C"), (39, u "(II)I"), (24, u "DigitOnes"), (0, u "[B"), (2, u "DigitTens"), (99, .class_ 190), (0, u "java/lang/Integer$IntegerCache"), (3, u "I"), (8, .class_ 204), (0, u "java/lang/Number"), (2, u "value"), (53, u "compare"), (40, u "TYPE"), (0, u "Ljava/lang/Class;"), (0, .class_ 305), (0, u "java/lang/Comparable"), (0, .class_ 307), (0, u "java/lang/constant/Constable"), (0, .class_ 309), (0, u "java/lang/constant/ConstantDesc"), (0, u "MIN_VALUE"), (1, u "MAX_VALUE"), (3, u "SIZE"), (1, u "BYTES"), (1, u "serialVersionUID"), (0, u "J")] 131

def k11c0 : Code := { maxStack := 2, maxLocals := 2, code := jdk_33_method_40_code, exceptionTable := #[], attributes := #[] }
def k11m0 : Method := { name := "compare", desc := "(II)I", sig := { parameters := [.int, .int], returnType := some .int }, accessFlags := 9, code := some k11c0 }
/-- java/lang/Integer -/
def k11 : Class := { plain "java/lang/Integer" (some 10) with
  accessFlags := 49
  interfaces := #[3, 5, 6]
  cf := some (fileOf pool11 1 #[.nestMembers #[189]] #[{ accessFlags := 9, nameIndex := 261, descriptorIndex := 60, attributes := #[] }] 49 203 #[304, 306, 308] #[{ accessFlags := 25, nameIndex := 310, descriptorIndex := 194, attributes := #[] }, { accessFlags := 25, nameIndex := 312, descriptorIndex := 194, attributes := #[] }, { accessFlags := 25, nameIndex := 302, descriptorIndex := 303, attributes := #[] }, { accessFlags := 24, nameIndex := 19, descriptorIndex := 20, attributes := #[] }, { accessFlags := 24, nameIndex := 89, descriptorIndex := 86, attributes := #[] }, { accessFlags := 24, nameIndex := 85, descriptorIndex := 86, attributes := #[] }, { accessFlags := 18, nameIndex := 207, descriptorIndex := 194, attributes := #[] }, { accessFlags := 25, nameIndex := 316, descriptorIndex := 194, attributes := #[] }, { accessFlags := 25, nameIndex := 318, descriptorIndex := 194, attributes := #[] }, { accessFlags := 26, nameIndex := 320, descriptorIndex := 321, attributes := #[] }])
  fields := #[{ name := "MIN_VALUE", type := .int, accessFlags := 25, slot := 0, constantValue := 0 }, { name := "MAX_VALUE", type := .int, accessFlags := 25, slot := 1, constantValue := 0 }, { name := "TYPE", type := (.object "java/lang/Class"), accessFlags := 25, slot := 2, constantValue := 0 }, { name := "digits", type := (.array .char), accessFlags := 24, slot := 3, constantValue := 0 }, { name := "DigitTens", type := (.array .byte), accessFlags := 24, slot := 4, constantValue := 0 }, { name := "DigitOnes", type := (.array .byte), accessFlags := 24, slot := 5, constantValue := 0 }, { name := "value", type := .int, accessFlags := 18, slot := 0, constantValue := 0 }, { name := "SIZE", type := .int, accessFlags := 25, slot := 6, constantValue := 0 }, { name := "BYTES", type := .int, accessFlags := 25, slot := 7, constantValue := 0 }, { name := "serialVersionUID", type := .long, accessFlags := 26, slot := 8, constantValue := 0 }]
  methods := #[k11m0]
  instanceTypes := #[.int]
  staticTypes := #[.int, .int, (.object "java/lang/Class"), (.array .char), (.array .byte), (.array .byte), .int, .int, .long]
  resolved := Array.replicate 453 none
  statics := none }

def pool12 : Array CpInfo := pool [(2, .class_ 4), (1, u "java/lang/Object"), (0, u "<init>"), (0, u "()V"), (17, .class_ 26), (1, u "jdk/internal/util/Preconditions"), (6, u "checkIndex"), (21, .class_ 56), (0, u "jdk/internal/util/Preconditions$4"), (57, .class_ 115), (0, u "jdk/internal/util/Preconditions$1"), (7, u "SIOOBE_FORMATTER"), (0, u "Ljava/util/function/BiFunction;"), (0, .class_ 126), (0, u "jdk/internal/util/Preconditions$2"), (3, u "AIOOBE_FORMATTER"), (0, .class_ 132), (0, u "jdk/internal/util/Preconditions$3"), (3, u "IOOBE_FORMATTER"), (41, u "(IILjava/util/function/BiFunction;)I")] 15

def k12m0 : Method := { name := "<init>", desc := "()V", sig := { parameters := [], returnType := none }, accessFlags := 1, code := none }
def k12c1 : Code := { maxStack := 3, maxLocals := 3, code := jdk_41_method_11_code, exceptionTable := #[], attributes := #[] }
def k12m1 : Method := { name := "checkIndex", desc := "(IILjava/util/function/BiFunction;)I", sig := { parameters := [.int, .int, (.object "java/util/function/BiFunction")], returnType := some .int }, accessFlags := 9, code := some k12c1 }
/-- jdk/internal/util/Preconditions -/
def k12 : Class := { plain "jdk/internal/util/Preconditions" (some 0) with
  accessFlags := 33
  interfaces := #[]
  cf := some (fileOf pool12 24 #[.nestMembers #[55, 131, 125, 114]] #[{ accessFlags := 1, nameIndex := 5, descriptorIndex := 6, attributes := #[] }, { accessFlags := 9, nameIndex := 33, descriptorIndex := 178, attributes := #[] }] 33 2 #[] #[{ accessFlags := 25, nameIndex := 123, descriptorIndex := 124, attributes := #[] }, { accessFlags := 25, nameIndex := 130, descriptorIndex := 124, attributes := #[] }, { accessFlags := 25, nameIndex := 136, descriptorIndex := 124, attributes := #[] }])
  fields := #[{ name := "SIOOBE_FORMATTER", type := (.object "java/util/function/BiFunction"), accessFlags := 25, slot := 0, constantValue := 0 }, { name := "AIOOBE_FORMATTER", type := (.object "java/util/function/BiFunction"), accessFlags := 25, slot := 1, constantValue := 0 }, { name := "IOOBE_FORMATTER", type := (.object "java/util/function/BiFunction"), accessFlags := 25, slot := 2, constantValue := 0 }]
  methods := #[k12m0, k12m1]
  instanceTypes := #[]
  staticTypes := #[(.object "java/util/function/BiFunction"), (.object "java/util/function/BiFunction"), (.object "java/util/function/BiFunction")]
  resolved := Array.replicate 194 none
  statics := some 1 }

def pool13 : Array CpInfo := pool [(1, .class_ 2), (0, u "java/lang/Character"), (18, u "value"), (0, u "C"), (19, .class_ 44), (1, u "java/lang/Object"), (3, .class_ 50), (1, u "java/lang/Character$CharacterCache"), (22, .integer 65536), (100, u "(I)I"), (109, u "$assertionsDisabled"), (0, u "Z"), (21, .class_ 309), (1, u "java/lang/Character$UnicodeBlock"), (73, u "TYPE"), (0, u "Ljava/lang/Class;"), (0, .class_ 386), (0, u "java/io/Serializable"), (0, .class_ 388), (0, u "java/lang/Comparable"), (0, .class_ 390), (0, u "java/lang/constant/Constable"), (0, u "MIN_RADIX"), (0, u "I"), (2, u "MAX_RADIX"), (1, u "MIN_VALUE"), (1, u "MAX_VALUE"), (3, u "UNASSIGNED"), (0, u "B"), (0, u "UPPERCASE_LETTER"), (1, u "LOWERCASE_LETTER"), (0, u "TITLECASE_LETTER"), (1, u "MODIFIER_LETTER"), (1, u "OTHER_LETTER"), (1, u "NON_SPACING_MARK"), (1, u "ENCLOSING_MARK"), (1, u "COMBINING_SPACING_MARK"), (1, u "DECIMAL_DIGIT_NUMBER"), (1, u "LETTER_NUMBER"), (1, u "OTHER_NUMBER"), (1, u "SPACE_SEPARATOR"), (1, u "LINE_SEPARATOR"), (1, u "PARAGRAPH_SEPARATOR"), (1, u "CONTROL"), (1, u "FORMAT"), (1, u "PRIVATE_USE"), (1, u "SURROGATE"), (1, u "DASH_PUNCTUATION"), (1, u "START_PUNCTUATION"), (1, u "END_PUNCTUATION"), (1, u "CONNECTOR_PUNCTUATION"), (1, u "OTHER_PUNCTUATION"), (1, u "MATH_SYMBOL"), (1, u "CURRENCY_SYMBOL"), (1, u "MODIFIER_SYMBOL"), (1, u "OTHER_SYMBOL"), (1, u "INITIAL_QUOTE_PUNCTUATION"), (1, u "FINAL_QUOTE_PUNCTUATION"), (1, u "ERROR"), (1, u "DIRECTIONALITY_UNDEFINED"), (0, u "DIRECTIONALITY_LEFT_TO_RIGHT"), (0, u "DIRECTIONALITY_RIGHT_TO_LEFT"), (0, u "DIRECTIONALITY_RIGHT_TO_LEFT_ARABIC"), (0, u "DIRECTIONALITY_EUROPEAN_NUMBER"), (0, u "DIRECTIONALITY_EUROPEAN_NUMBER_SEPARATOR"), (0, u "DIRECTIONALITY_EUROPEAN_NUMBER_TERMINATOR"), (0, u "DIRECTIONALITY_ARABIC_NUMBER"), (0, u "DIRECTIONALITY_COMMON_NUMBER_SEPARATOR"), (0, u "DIRECTIONALITY_NONSPACING_MARK"), (0, u "DIRECTIONALITY_BOUNDARY_NEUTRAL"), (0, u "DIRECTIONALITY_PARAGRAPH_SEPARATOR"), (0, u "DIRECTIONALITY_SEGMENT_SEPARATOR"), (0, u "DIRECTIONALITY_WHITESPACE"), (0, u "DIRECTIONALITY_OTHER_NEUTRALS"), (0, u "DIRECTIONALITY_LEFT_TO_RIGHT_EMBEDDING"), (0, u "DIRECTIONALITY_LEFT_TO_RIGHT_OVERRIDE"), (0, u "DIRECTIONALITY_RIGHT_TO_LEFT_EMBEDDING"), (0, u "DIRECTIONALITY_RIGHT_TO_LEFT_OVERRIDE"), (1, u "DIRECTIONALITY_POP_DIRECTIONAL_FORMAT"), (0, u "DIRECTIONALITY_LEFT_TO_RIGHT_ISOLATE"), (0, u "DIRECTIONALITY_RIGHT_TO_LEFT_ISOLATE"), (0, u "DIRECTIONALITY_FIRST_STRONG_ISOLATE"), (0, u "DIRECTIONALITY_POP_DIRECTIONAL_ISOLATE"), (0, u "MIN_HIGH_SURROGATE"), (0, u "MAX_HIGH_SURROGATE"), (1, u "MIN_LOW_SURROGATE"), (0, u "MAX_LOW_SURROGATE"), (1, u "MIN_SURROGATE"), (0, u "MAX_SURROGATE"), (0, u "MIN_SUPPLEMENTARY_CODE_POINT"), (0, u "MIN_CODE_POINT"), (0, u "MAX_CODE_POINT"), (1, u "serialVersionUID"), (0, u "J"), (2, u "SIZE"), (0, u "BYTES"), (29, u "charCount"), (58, .class_ 596), (0, u "java/lang/Character$UnicodeScript"), (0, .class_ 598), (0, u "java/lang/Character$Subset")] 5

def k13c0 : Code := { maxStack := 2, maxLocals := 1, code := jdk_89_method_18_code, exceptionTable := #[], attributes := #[] }
def k13m0 : Method := { name := "charCount", desc := "(I)I", sig := { parameters := [.int], returnType := some .int }, accessFlags := 9, code := some k13c0 }
/-- java/lang/Character -/
def k13 : Class := { plain "java/lang/Character" (some 0) with
  accessFlags := 49
  interfaces := #[2, 3, 5]
  cf := some (fileOf pool13 1 #[.nestMembers #[48, 595, 307, 597]] #[{ accessFlags := 9, nameIndex := 536, descriptorIndex := 174, attributes := #[] }] 49 42 #[385, 387, 389] #[{ accessFlags := 25, nameIndex := 391, descriptorIndex := 392, attributes := #[] }, { accessFlags := 25, nameIndex := 395, descriptorIndex := 392, attributes := #[] }, { accessFlags := 25, nameIndex := 397, descriptorIndex := 22, attributes := #[] }, { accessFlags := 25, nameIndex := 399, descriptorIndex := 22, attributes := #[] }, { accessFlags := 25, nameIndex := 383, descriptorIndex := 384, attributes := #[] }, { accessFlags := 25, nameIndex := 403, descriptorIndex := 404, attributes := #[] }, { accessFlags := 25, nameIndex := 405, descriptorIndex := 404, attributes := #[] }, { accessFlags := 25, nameIndex := 407, descriptorIndex := 404, attributes := #[] }, { accessFlags := 25, nameIndex := 408, descriptorIndex := 404, attributes := #[] }, { accessFlags := 25, nameIndex := 410, descriptorIndex := 404, attributes := #[] }, { accessFlags := 25, nameIndex := 412, descriptorIndex := 404, attributes := #[] }, { accessFlags := 25, nameIndex := 414, descriptorIndex := 404, attributes := #[] }, { accessFlags := 25, nameIndex := 416, descriptorIndex := 404, attributes := #[] }, { accessFlags := 25, nameIndex := 418, descriptorIndex := 404, attributes := #[] }, { accessFlags := 25, nameIndex := 420, descriptorIndex := 404, attributes := #[] }, { accessFlags := 25, nameIndex := 422, descriptorIndex := 404, attributes := #[] }, { accessFlags := 25, nameIndex := 424, descriptorIndex := 404, attributes := #[] }, { accessFlags := 25, nameIndex := 426, descriptorIndex := 404, attributes := #[] }, { accessFlags := 25, nameIndex := 428, descriptorIndex := 404, attributes := #[] }, { accessFlags := 25, nameIndex := 430, descriptorIndex := 404, attributes := #[] }, { accessFlags := 25, nameIndex := 432, descriptorIndex := 404, attributes := #[] }, { accessFlags := 25, nameIndex := 434, descriptorIndex := 404, attributes := #[] }, { accessFlags := 25, nameIndex := 436, descriptorIndex := 404, attributes := #[] }, { accessFlags := 25, nameIndex := 438, descriptorIndex := 404, attributes := #[] }, { accessFlags := 25, nameIndex := 440, descriptorIndex := 404, attributes := #[] }, { accessFlags := 25, nameIndex := 442, descriptorIndex := 404, attributes := #[] }, { accessFlags := 25, nameIndex := 444, descriptorIndex := 404, attributes := #[] }, { accessFlags := 25, nameIndex := 446, descriptorIndex := 404, attributes := #[] }, { accessFlags := 25, nameIndex := 448, descriptorIndex := 404, attributes := #[] }, { accessFlags := 25, nameIndex := 450, descriptorIndex := 404, attributes := #[] }, { accessFlags := 25, nameIndex := 452, descriptorIndex := 404, attributes := #[] }, { accessFlags := 25, nameIndex := 454, descriptorIndex := 404, attributes := #[] }, { accessFlags := 25, nameIndex := 456, descriptorIndex := 404, attributes := #[] }, { accessFlags := 25, nameIndex := 458, descriptorIndex := 404, attributes := #[] }, { accessFlags := 25, nameIndex := 460, descriptorIndex := 404, attributes := #[] }, { accessFlags := 24, nameIndex := 462, descriptorIndex := 392, attributes := #[] }, { accessFlags := 25, nameIndex := 464, descriptorIndex := 404, attributes := #[] }, { accessFlags := 25, nameIndex := 465, descriptorIndex := 404, attributes := #[] }, { accessFlags := 25, nameIndex := 466, descriptorIndex := 404, attributes := #[] }, { accessFlags := 25, nameIndex := 467, descriptorIndex := 404, attributes := #[] }, { accessFlags := 25, nameIndex := 468, descriptorIndex := 404, attributes := #[] }, { accessFlags := 25, nameIndex := 469, descriptorIndex := 404, attributes := #[] }, { accessFlags := 25, nameIndex := 470, descriptorIndex := 404, attributes := #[] }, { accessFlags := 25, nameIndex := 471, descriptorIndex := 404, attributes := #[] }, { accessFlags := 25, nameIndex := 472, descriptorIndex := 404, attributes := #[] }, { accessFlags := 25, nameIndex := 473, descriptorIndex := 404, attributes := #[] }, { accessFlags := 25, nameIndex := 474, descriptorIndex := 404, attributes := #[] }, { accessFlags := 25, nameIndex := 475, descriptorIndex := 404, attributes := #[] }, { accessFlags := 25, nameIndex := 476, descriptorIndex := 404, attributes := #[] }, { accessFlags := 25, nameIndex := 477, descriptorIndex := 404, attributes := #[] }, { accessFlags := 25, nameIndex := 478, descriptorIndex := 404, attributes := #[] }, { accessFlags := 25, nameIndex := 479, descriptorIndex := 404, attributes := #[] }, { accessFlags := 25, nameIndex := 480, descriptorIndex := 404, attributes := #[] }, { accessFlags := 25, nameIndex := 481, descriptorIndex := 404, attributes := #[] }, { accessFlags := 25, nameIndex := 482, descriptorIndex := 404, attributes := #[] }, { accessFlags := 25, nameIndex := 484, descriptorIndex := 404, attributes := #[] }, { accessFlags := 25, nameIndex := 485, descriptorIndex := 404, attributes := #[] }, { accessFlags := 25, nameIndex := 486, descriptorIndex := 404, attributes := #[] }, { accessFlags := 25, nameIndex := 487, descriptorIndex := 404, attributes := #[] }, { accessFlags := 25, nameIndex := 488, descriptorIndex := 404, attributes := #[] }, { accessFlags := 25, nameIndex := 489, descriptorIndex := 22, attributes := #[] }, { accessFlags := 25, nameIndex := 490, descriptorIndex := 22, attributes := #[] }, { accessFlags := 25, nameIndex := 492, descriptorIndex := 22, attributes := #[] }, { accessFlags := 25, nameIndex := 493, descriptorIndex := 22, attributes := #[] }, { accessFlags := 25, nameIndex := 495, descriptorIndex := 22, attributes := #[] }, { accessFlags := 25, nameIndex := 496, descriptorIndex := 22, attributes := #[] }, { accessFlags := 25, nameIndex := 497, descriptorIndex := 392, attributes := #[] }, { accessFlags := 25, nameIndex := 498, descriptorIndex := 392, attributes := #[] }, { accessFlags := 25, nameIndex := 499, descriptorIndex := 392, attributes := #[] }, { accessFlags := 18, nameIndex := 21, descriptorIndex := 22, attributes := #[] }, { accessFlags := 26, nameIndex := 501, descriptorIndex := 502, attributes := #[] }, { accessFlags := 25, nameIndex := 505, descriptorIndex := 392, attributes := #[] }, { accessFlags := 25, nameIndex := 506, descriptorIndex := 392, attributes := #[] }, { accessFlags := 4120, nameIndex := 284, descriptorIndex := 285, attributes := #[] }])
  fields := #[{ name := "MIN_RADIX", type := .int, accessFlags := 25, slot := 0, constantValue := 0 }, { name := "MAX_RADIX", type := .int, accessFlags := 25, slot := 1, constantValue := 0 }, { name := "MIN_VALUE", type := .char, accessFlags := 25, slot := 2, constantValue := 0 }, { name := "MAX_VALUE", type := .char, accessFlags := 25, slot := 3, constantValue := 0 }, { name := "TYPE", type := (.object "java/lang/Class"), accessFlags := 25, slot := 4, constantValue := 0 }, { name := "UNASSIGNED", type := .byte, accessFlags := 25, slot := 5, constantValue := 0 }, { name := "UPPERCASE_LETTER", type := .byte, accessFlags := 25, slot := 6, constantValue := 0 }, { name := "LOWERCASE_LETTER", type := .byte, accessFlags := 25, slot := 7, constantValue := 0 }, { name := "TITLECASE_LETTER", type := .byte, accessFlags := 25, slot := 8, constantValue := 0 }, { name := "MODIFIER_LETTER", type := .byte, accessFlags := 25, slot := 9, constantValue := 0 }, { name := "OTHER_LETTER", type := .byte, accessFlags := 25, slot := 10, constantValue := 0 }, { name := "NON_SPACING_MARK", type := .byte, accessFlags := 25, slot := 11, constantValue := 0 }, { name := "ENCLOSING_MARK", type := .byte, accessFlags := 25, slot := 12, constantValue := 0 }, { name := "COMBINING_SPACING_MARK", type := .byte, accessFlags := 25, slot := 13, constantValue := 0 }, { name := "DECIMAL_DIGIT_NUMBER", type := .byte, accessFlags := 25, slot := 14, constantValue := 0 }, { name := "LETTER_NUMBER", type := .byte, accessFlags := 25, slot := 15, constantValue := 0 }, { name := "OTHER_NUMBER", type := .byte, accessFlags := 25, slot := 16, constantValue := 0 }, { name := "SPACE_SEPARATOR", type := .byte, accessFlags := 25, slot := 17, constantValue := 0 }, { name := "LINE_SEPARATOR", type := .byte, accessFlags := 25, slot := 18, constantValue := 0 }, { name := "PARAGRAPH_SEPARATOR", type := .byte, accessFlags := 25, slot := 19, constantValue := 0 }, { name := "CONTROL", type := .byte, accessFlags := 25, slot := 20, constantValue := 0 }, { name := "FORMAT", type := .byte, accessFlags := 25, slot := 21, constantValue := 0 }, { name := "PRIVATE_USE", type := .byte, accessFlags := 25, slot := 22, constantValue := 0 }, { name := "SURROGATE", type := .byte, accessFlags := 25, slot := 23, constantValue := 0 }, { name := "DASH_PUNCTUATION", type := .byte, accessFlags := 25, slot := 24, constantValue := 0 }, { name := "START_PUNCTUATION", type := .byte, accessFlags := 25, slot := 25, constantValue := 0 }, { name := "END_PUNCTUATION", type := .byte, accessFlags := 25, slot := 26, constantValue := 0 }, { name := "CONNECTOR_PUNCTUATION", type := .byte, accessFlags := 25, slot := 27, constantValue := 0 }, { name := "OTHER_PUNCTUATION", type := .byte, accessFlags := 25, slot := 28, constantValue := 0 }, { name := "MATH_SYMBOL", type := .byte, accessFlags := 25, slot := 29, constantValue := 0 }, { name := "CURRENCY_SYMBOL", type := .byte, accessFlags := 25, slot := 30, constantValue := 0 }, { name := "MODIFIER_SYMBOL", type := .byte, accessFlags := 25, slot := 31, constantValue := 0 }, { name := "OTHER_SYMBOL", type := .byte, accessFlags := 25, slot := 32, constantValue := 0 }, { name := "INITIAL_QUOTE_PUNCTUATION", type := .byte, accessFlags := 25, slot := 33, constantValue := 0 }, { name := "FINAL_QUOTE_PUNCTUATION", type := .byte, accessFlags := 25, slot := 34, constantValue := 0 }, { name := "ERROR", type := .int, accessFlags := 24, slot := 35, constantValue := 0 }, { name := "DIRECTIONALITY_UNDEFINED", type := .byte, accessFlags := 25, slot := 36, constantValue := 0 }, { name := "DIRECTIONALITY_LEFT_TO_RIGHT", type := .byte, accessFlags := 25, slot := 37, constantValue := 0 }, { name := "DIRECTIONALITY_RIGHT_TO_LEFT", type := .byte, accessFlags := 25, slot := 38, constantValue := 0 }, { name := "DIRECTIONALITY_RIGHT_TO_LEFT_ARABIC", type := .byte, accessFlags := 25, slot := 39, constantValue := 0 }, { name := "DIRECTIONALITY_EUROPEAN_NUMBER", type := .byte, accessFlags := 25, slot := 40, constantValue := 0 }, { name := "DIRECTIONALITY_EUROPEAN_NUMBER_SEPARATOR", type := .byte, accessFlags := 25, slot := 41, constantValue := 0 }, { name := "DIRECTIONALITY_EUROPEAN_NUMBER_TERMINATOR", type := .byte, accessFlags := 25, slot := 42, constantValue := 0 }, { name := "DIRECTIONALITY_ARABIC_NUMBER", type := .byte, accessFlags := 25, slot := 43, constantValue := 0 }, { name := "DIRECTIONALITY_COMMON_NUMBER_SEPARATOR", type := .byte, accessFlags := 25, slot := 44, constantValue := 0 }, { name := "DIRECTIONALITY_NONSPACING_MARK", type := .byte, accessFlags := 25, slot := 45, constantValue := 0 }, { name := "DIRECTIONALITY_BOUNDARY_NEUTRAL", type := .byte, accessFlags := 25, slot := 46, constantValue := 0 }, { name := "DIRECTIONALITY_PARAGRAPH_SEPARATOR", type := .byte, accessFlags := 25, slot := 47, constantValue := 0 }, { name := "DIRECTIONALITY_SEGMENT_SEPARATOR", type := .byte, accessFlags := 25, slot := 48, constantValue := 0 }, { name := "DIRECTIONALITY_WHITESPACE", type := .byte, accessFlags := 25, slot := 49, constantValue := 0 }, { name := "DIRECTIONALITY_OTHER_NEUTRALS", type := .byte, accessFlags := 25, slot := 50, constantValue := 0 }, { name := "DIRECTIONALITY_LEFT_TO_RIGHT_EMBEDDING", type := .byte, accessFlags := 25, slot := 51, constantValue := 0 }, { name := "DIRECTIONALITY_LEFT_TO_RIGHT_OVERRIDE", type := .byte, accessFlags := 25, slot := 52, constantValue := 0 }, { name := "DIRECTIONALITY_RIGHT_TO_LEFT_EMBEDDING", type := .byte, accessFlags := 25, slot := 53, constantValue := 0 }, { name := "DIRECTIONALITY_RIGHT_TO_LEFT_OVERRIDE", type := .byte, accessFlags := 25, slot := 54, constantValue := 0 }, { name := "DIRECTIONALITY_POP_DIRECTIONAL_FORMAT", type := .byte, accessFlags := 25, slot := 55, constantValue := 0 }, { name := "DIRECTIONALITY_LEFT_TO_RIGHT_ISOLATE", type := .byte, accessFlags := 25, slot := 56, constantValue := 0 }, { name := "DIRECTIONALITY_RIGHT_TO_LEFT_ISOLATE", type := .byte, accessFlags := 25, slot := 57, constantValue := 0 }, { name := "DIRECTIONALITY_FIRST_STRONG_ISOLATE", type := .byte, accessFlags := 25, slot := 58, constantValue := 0 }, { name := "DIRECTIONALITY_POP_DIRECTIONAL_ISOLATE", type := .byte, accessFlags := 25, slot := 59, constantValue := 0 }, { name := "MIN_HIGH_SURROGATE", type := .char, accessFlags := 25, slot := 60, constantValue := 0 }, { name := "MAX_HIGH_SURROGATE", type := .char, accessFlags := 25, slot := 61, constantValue := 0 }, { name := "MIN_LOW_SURROGATE", type := .char, accessFlags := 25, slot := 62, constantValue := 0 }, { name := "MAX_LOW_SURROGATE", type := .char, accessFlags := 25, slot := 63, constantValue := 0 }, { name := "MIN_SURROGATE", type := .char, accessFlags := 25, slot := 64, constantValue := 0 }, { name := "MAX_SURROGATE", type := .char, accessFlags := 25, slot := 65, constantValue := 0 }, { name := "MIN_SUPPLEMENTARY_CODE_POINT", type := .int, accessFlags := 25, slot := 66, constantValue := 0 }, { name := "MIN_CODE_POINT", type := .int, accessFlags := 25, slot := 67, constantValue := 0 }, { name := "MAX_CODE_POINT", type := .int, accessFlags := 25, slot := 68, constantValue := 0 }, { name := "value", type := .char, accessFlags := 18, slot := 0, constantValue := 0 }, { name := "serialVersionUID", type := .long, accessFlags := 26, slot := 69, constantValue := 0 }, { name := "SIZE", type := .int, accessFlags := 25, slot := 70, constantValue := 0 }, { name := "BYTES", type := .int, accessFlags := 25, slot := 71, constantValue := 0 }, { name := "$assertionsDisabled", type := .boolean, accessFlags := 4120, slot := 72, constantValue := 0 }]
  methods := #[k13m0]
  instanceTypes := #[.char]
  staticTypes := #[.int, .int, .char, .char, (.object "java/lang/Class"), .byte, .byte, .byte, .byte, .byte, .byte, .byte, .byte, .byte, .byte, .byte, .byte, .byte, .byte, .byte, .byte, .byte, .byte, .byte, .byte, .byte, .byte, .byte, .byte, .byte, .byte, .byte, .byte, .byte, .byte, .int, .byte, .byte, .byte, .byte, .byte, .byte, .byte, .byte, .byte, .byte, .byte, .byte, .byte, .byte, .byte, .byte, .byte, .byte, .byte, .byte, .byte, .byte, .byte, .byte, .char, .char, .char, .char, .char, .char, .int, .int, .int, .long, .int, .int, .boolean]
  resolved := Array.replicate 604 none
  statics := none }

def pool14 : Array CpInfo := pool [(4, .class_ 6), (1, u "java/lang/Object"), (0, u "<init>"), (0, u "()V"), (5, .class_ 16), (1, u "java/lang/StringLatin1"), (104, u "$assertionsDisabled"), (0, u "Z"), (98, .class_ 223), (1, u "java/lang/StringLatin1$LinesSpliterator"), (166, .class_ 391), (0, u "java/lang/StringLatin1$CharsSpliterator")] 3

def k14m0 : Method := { name := "<init>", desc := "()V", sig := { parameters := [], returnType := none }, accessFlags := 0, code := none }
/-- java/lang/StringLatin1 -/
def k14 : Class := { plain "java/lang/StringLatin1" (some 0) with
  accessFlags := 48
  interfaces := #[]
  cf := some (fileOf pool14 14 #[.nestMembers #[390, 221]] #[{ accessFlags := 0, nameIndex := 7, descriptorIndex := 8, attributes := #[] }] 48 4 #[] #[{ accessFlags := 4120, nameIndex := 121, descriptorIndex := 122, attributes := #[] }])
  fields := #[{ name := "$assertionsDisabled", type := .boolean, accessFlags := 4120, slot := 0, constantValue := 0 }]
  methods := #[k14m0]
  instanceTypes := #[]
  staticTypes := #[.boolean]
  resolved := Array.replicate 395 none
  statics := none }

def pool15 : Array CpInfo := pool [(9, u "<init>"), (6, .class_ 18), (1, u "java/lang/Object"), (0, u "()V"), (1, .class_ 23), (1, u "jdk/internal/util/ArraysSupport"), (0, u "LOG2_ARRAY_LONG_INDEX_SCALE"), (0, u "I"), (2, u "U"), (0, u "Ljdk/internal/misc/Unsafe;"), (8, u "BIG_ENDIAN"), (0, u "Z"), (8, u "LOG2_BYTE_BIT_SIZE"), (4, u "LOG2_ARRAY_INT_INDEX_SCALE"), (54, u "JLA"), (0, u "Ljdk/internal/access/JavaLangAccess;"), (11, u "LOG2_ARRAY_BOOLEAN_INDEX_SCALE"), (9, u "LOG2_ARRAY_BYTE_INDEX_SCALE"), (5, u "LOG2_ARRAY_CHAR_INDEX_SCALE"), (5, u "LOG2_ARRAY_SHORT_INDEX_SCALE"), (18, u "LOG2_ARRAY_FLOAT_INDEX_SCALE"), (24, u "LOG2_ARRAY_DOUBLE_INDEX_SCALE"), (89, u "T_BOOLEAN"), (2, u "T_CHAR"), (1, u "T_FLOAT"), (1, u "T_DOUBLE"), (1, u "T_BYTE"), (1, u "T_SHORT"), (1, u "T_INT"), (1, u "T_LONG"), (1, u "SOFT_MAX_ARRAY_LENGTH")] 83

def k15m0 : Method := { name := "<init>", desc := "()V", sig := { parameters := [], returnType := none }, accessFlags := 2, code := none }
/-- jdk/internal/util/ArraysSupport -/
def k15 : Class := { plain "jdk/internal/util/ArraysSupport" (some 0) with
  accessFlags := 33
  interfaces := #[]
  cf := some (fileOf pool15 21 #[] #[{ accessFlags := 2, nameIndex := 9, descriptorIndex := 19, attributes := #[] }] 33 16 #[] #[{ accessFlags := 24, nameIndex := 28, descriptorIndex := 29, attributes := #[] }, { accessFlags := 26, nameIndex := 38, descriptorIndex := 39, attributes := #[] }, { accessFlags := 25, nameIndex := 121, descriptorIndex := 25, attributes := #[] }, { accessFlags := 25, nameIndex := 131, descriptorIndex := 25, attributes := #[] }, { accessFlags := 25, nameIndex := 137, descriptorIndex := 25, attributes := #[] }, { accessFlags := 25, nameIndex := 143, descriptorIndex := 25, attributes := #[] }, { accessFlags := 25, nameIndex := 53, descriptorIndex := 25, attributes := #[] }, { accessFlags := 25, nameIndex := 24, descriptorIndex := 25, attributes := #[] }, { accessFlags := 25, nameIndex := 162, descriptorIndex := 25, attributes := #[] }, { accessFlags := 25, nameIndex := 187, descriptorIndex := 25, attributes := #[] }, { accessFlags := 26, nameIndex := 48, descriptorIndex := 25, attributes := #[] }, { accessFlags := 25, nameIndex := 277, descriptorIndex := 25, attributes := #[] }, { accessFlags := 25, nameIndex := 280, descriptorIndex := 25, attributes := #[] }, { accessFlags := 25, nameIndex := 282, descriptorIndex := 25, attributes := #[] }, { accessFlags := 25, nameIndex := 284, descriptorIndex := 25, attributes := #[] }, { accessFlags := 25, nameIndex := 286, descriptorIndex := 25, attributes := #[] }, { accessFlags := 25, nameIndex := 288, descriptorIndex := 25, attributes := #[] }, { accessFlags := 25, nameIndex := 290, descriptorIndex := 25, attributes := #[] }, { accessFlags := 25, nameIndex := 292, descriptorIndex := 25, attributes := #[] }, { accessFlags := 26, nameIndex := 108, descriptorIndex := 109, attributes := #[] }, { accessFlags := 25, nameIndex := 294, descriptorIndex := 25, attributes := #[] }])
  fields := #[{ name := "U", type := (.object "jdk/internal/misc/Unsafe"), accessFlags := 24, slot := 0, constantValue := 0 }, { name := "BIG_ENDIAN", type := .boolean, accessFlags := 26, slot := 1, constantValue := 0 }, { name := "LOG2_ARRAY_BOOLEAN_INDEX_SCALE", type := .int, accessFlags := 25, slot := 2, constantValue := 0 }, { name := "LOG2_ARRAY_BYTE_INDEX_SCALE", type := .int, accessFlags := 25, slot := 3, constantValue := 0 }, { name := "LOG2_ARRAY_CHAR_INDEX_SCALE", type := .int, accessFlags := 25, slot := 4, constantValue := 0 }, { name := "LOG2_ARRAY_SHORT_INDEX_SCALE", type := .int, accessFlags := 25, slot := 5, constantValue := 0 }, { name := "LOG2_ARRAY_INT_INDEX_SCALE", type := .int, accessFlags := 25, slot := 6, constantValue := 0 }, { name := "LOG2_ARRAY_LONG_INDEX_SCALE", type := .int, accessFlags := 25, slot := 7, constantValue := 0 }, { name := "LOG2_ARRAY_FLOAT_INDEX_SCALE", type := .int, accessFlags := 25, slot := 8, constantValue := 0 }, { name := "LOG2_ARRAY_DOUBLE_INDEX_SCALE", type := .int, accessFlags := 25, slot := 9, constantValue := 0 }, { name := "LOG2_BYTE_BIT_SIZE", type := .int, accessFlags := 26, slot := 10, constantValue := 0 }, { name := "T_BOOLEAN", type := .int, accessFlags := 25, slot := 11, constantValue := 0 }, { name := "T_CHAR", type := .int, accessFlags := 25, slot := 12, constantValue := 0 }, { name := "T_FLOAT", type := .int, accessFlags := 25, slot := 13, constantValue := 0 }, { name := "T_DOUBLE", type := .int, accessFlags := 25, slot := 14, constantValue := 0 }, { name := "T_BYTE", type := .int, accessFlags := 25, slot := 15, constantValue := 0 }, { name := "T_SHORT", type := .int, accessFlags := 25, slot := 16, constantValue := 0 }, { name := "T_INT", type := .int, accessFlags := 25, slot := 17, constantValue := 0 }, { name := "T_LONG", type := .int, accessFlags := 25, slot := 18, constantValue := 0 }, { name := "JLA", type := (.object "jdk/internal/access/JavaLangAccess"), accessFlags := 26, slot := 19, constantValue := 0 }, { name := "SOFT_MAX_ARRAY_LENGTH", type := .int, accessFlags := 25, slot := 20, constantValue := 0 }]
  methods := #[k15m0]
  instanceTypes := #[]
  staticTypes := #[(.object "jdk/internal/misc/Unsafe"), .boolean, .int, .int, .int, .int, .int, .int, .int, .int, .int, .int, .int, .int, .int, .int, .int, .int, .int, (.object "jdk/internal/access/JavaLangAccess"), .int]
  resolved := Array.replicate 378 none
  statics := none }

def pool16 : Array CpInfo := pool [(1, u "java/lang/Cloneable"), (0, .class_ 1), (0, u "java/lang/Object"), (0, .class_ 3)] 3

/-- java/lang/Cloneable -/
def k16 : Class := { plain "java/lang/Cloneable" (some 0) with
  accessFlags := 1537
  interfaces := #[]
  cf := some (fileOf pool16 2 #[] #[] 1537 4 #[] #[])
  fields := #[]
  methods := #[]
  instanceTypes := #[]
  staticTypes := #[]
  resolved := Array.replicate 8 none
  statics := none }

/-- the primitive byte -/
def k17 : Class := { plain "byte" none with kind := .primitive 'B', accessFlags := 0x411 }
/-- [B -/
def k18 : Class := { plain "[B" (some 0) with kind := .array 17 .byte, interfaces := #[16, 2], accessFlags := 1041 }

/-- the primitive char -/
def k19 : Class := { plain "char" none with kind := .primitive 'C', accessFlags := 0x411 }
/-- [C -/
def k20 : Class := { plain "[C" (some 0) with kind := .array 19 .char, interfaces := #[16, 2], accessFlags := 1041 }

/-- the primitive int -/
def k21 : Class := { plain "int" none with kind := .primitive 'I', accessFlags := 0x411 }
/-- [I -/
def k22 : Class := { plain "[I" (some 0) with kind := .array 21 .int, interfaces := #[16, 2], accessFlags := 1041 }

def heap : Heap := #[{ cls := 7, slots := #[.long 0, .int 1, .null, .int 0, .null, .int 0, .int 0], vm := .statics 7 },
  { cls := 12, slots := #[.null, .null, .null], vm := .statics 12 }]
def classes : Array Class := #[k0, k1, k2, k3, k4, k5, k6, k7, k8, k9, k10, k11, k12, k13, k14, k15, k16, k17, k18, k19, k20, k21, k22]
def interned : List (Array UInt16 × Addr) := []
def slotsUsed : Nat := 10
def theMethod : MethodId := ⟨1, 1⟩
def args0 : Array Value := #[.int 1, .int 2, .int 3, .int 4, .int 5]
def aboutOver (below : List Frame) : State where
  vm := { classes := classes, interned := interned.toArray }
  heap := heap
  slotsUsed := slotsUsed
  threads := #[{ frames := .invoking theMethod args0 :: below }]
def below0 : List Frame := [.native { method := ⟨0, 0⟩, args := #[] }]
def about1 : State := aboutOver below0
def p0 : Program := .bare "" "" ""
def e0 : Env := launch0.env 0 0 0
theorem w_frames : about1.frames = Frame.invoking theMethod args0 :: below0 := rfl
set_option maxRecDepth 65536 in
theorem w_args : argsFit about1.vm theMethod args0 = true := by decide +kernel
set_option maxRecDepth 65536 in
theorem w_heap : heapFits about1 = true := by decide +kernel
set_option maxRecDepth 65536 in
theorem w_runnable : about1.curStatus? = some .runnable := by decide +kernel
set_option maxRecDepth 65536 in
theorem w_alone : about1.alone = true := by decide +kernel
set_option maxRecDepth 65536 in
theorem w_named : about1.methodNamed? x = some theMethod := by decide +kernel
set_option maxRecDepth 65536 in
theorem w_hears : about1.hears theMethod below0 = true := by decide +kernel
set_option maxRecDepth 65536 in
theorem w_ripe : about1.ripe theMethod args0 below0 = true := by decide +kernel
theorem w_running : about1.status = .running := rfl
set_option maxRecDepth 65536 in
theorem w_room : about1.hasRoom e0.platform room_1 = true :=
  launch0.hasRoom_least _ room_1 (by decide +kernel) (by decide +kernel) (by decide +kernel) (by decide +kernel) (by decide +kernel) (by decide +kernel)
theorem allAtoms_all (ts : List Jvm.Cond) (a : Array Jvm.Value) (st : Jvm.State) : (allAtoms ts).before a st = ts.all (fun c => c.before a st) := by
  induction ts with
  | nil => rfl
  | cons c t ih =>
    show (Jvm.Cond.and c (allAtoms t)).before a st = _
    rw [Jvm.Cond.before_and, ih, List.all_cons]
def words1 : List Jvm.Cond := Jvm.Cond.code x code maxLocals ret :: tables_1
/-- a 'code' word, met by the world's own term for the bytes: nothing is compared byte by byte -/
theorem code_word {y : MethodName} {bytes : ByteArray} {mx : Nat} {rt : Option FieldType} {a : Array Value} {s : State} {m : MethodId} {meth : Method} {c : Code} (h1 : s.methodNamed? y = some m) (h2 : s.vm.method? m = some meth) (h3 : meth.code = some c) (h4 : c.code = bytes)
    (h5 : (c.maxLocals == mx && c.exceptionTable.isEmpty && decide (c.maxStack ≤ mostOperands) && decide (meth.sig.returnType = rt) && !meth.locks && decide (parseMethodDescriptor y.desc = some meth.sig)) = true) : (Jvm.Cond.code y bytes mx rt).before a s = true := by
  simp only [Bool.and_eq_true, beq_iff_eq, Bool.not_eq_true', decide_eq_true_eq] at h5
  obtain ⟨⟨⟨⟨⟨g1, g2⟩, g3⟩, g4⟩, g5⟩, g6⟩ := h5
  simp [Cond.before, Cond.holds, Cond.value, h1, h2, h3, h4, g1, g2, g3, g4, g5, g6]
def isCode : Jvm.Cond → Bool
  | .code _ _ _ _ => true
  | _ => false
theorem all_split {L : List Jvm.Cond} {P : Jvm.Cond → Bool} (h1 : L.all (fun c => isCode c || P c) = true) (h2 : ∀ c ∈ L.filter isCode, P c = true) : L.all P = true := by
  refine List.all_eq_true.mpr fun c hc => ?_
  have h := List.all_eq_true.mp h1 c hc
  rcases Bool.eq_false_or_eq_true (isCode c) with hi | hi
  · exact h2 c (List.mem_filter.mpr ⟨hc, hi⟩)
  · simpa [hi] using h
set_option maxRecDepth 65536 in
theorem w_c0 : (Jvm.Cond.code x code maxLocals ret).before args0 about1 = true := code_word (m := ⟨1, 1⟩) (meth := k1m1) (c := k1c1) (by decide +kernel) rfl rfl rfl (by decide +kernel)
set_option maxRecDepth 65536 in
theorem w_c1 : (Jvm.Cond.code ({ cls := "com/example/prox2/prox2/format/RunOrderComparePinLaw", name := "make", desc := "(ICC)Ljava/lang/String;" } : Jvm.MethodName) method_3_code (3 : Nat) (Option.some (Jvm.ClassFile.FieldType.object "java/lang/String"))).before args0 about1 = true := code_word (m := ⟨1, 2⟩) (meth := k1m2) (c := k1c2) (by decide +kernel) rfl rfl rfl (by decide +kernel)
set_option maxRecDepth 65536 in
theorem w_c2 : (Jvm.Cond.code ({ cls := "java/lang/String", name := "<init>", desc := "([C)V" } : Jvm.MethodName) jdk_42_method_3_code (2 : Nat) (Option.none : Option Jvm.ClassFile.FieldType)).before args0 about1 = true := code_word (m := ⟨7, 1⟩) (meth := k7m1) (c := k7c1) (by decide +kernel) rfl rfl rfl (by decide +kernel)
set_option maxRecDepth 65536 in
theorem w_c3 : (Jvm.Cond.code ({ cls := "java/lang/String", name := "<init>", desc := "([CIILjava/lang/Void;)V" } : Jvm.MethodName) jdk_42_method_149_code (6 : Nat) (Option.none : Option Jvm.ClassFile.FieldType)).before args0 about1 = true := code_word (m := ⟨7, 4⟩) (meth := k7m4) (c := k7c4) (by decide +kernel) rfl rfl rfl (by decide +kernel)
set_option maxRecDepth 65536 in
theorem w_c4 : (Jvm.Cond.code ({ cls := "java/lang/Object", name := "<init>", desc := "()V" } : Jvm.MethodName) object_method_1_code (1 : Nat) (Option.none : Option Jvm.ClassFile.FieldType)).before args0 about1 = true := code_word (m := ⟨0, 0⟩) (meth := k0m0) (c := k0c0) (by decide +kernel) rfl rfl rfl (by decide +kernel)
set_option maxRecDepth 65536 in
theorem w_c5 : (Jvm.Cond.code ({ cls := "com/example/prox2/prox2/format/RunOrder", name := "compare", desc := "(DLjava/lang/String;DLjava/lang/String;)I" } : Jvm.MethodName) prog_17_method_4_code (7 : Nat) (Option.some Jvm.ClassFile.FieldType.int)).before args0 about1 = true := code_word (m := ⟨8, 1⟩) (meth := k8m1) (c := k8c1) (by decide +kernel) rfl rfl rfl (by decide +kernel)
set_option maxRecDepth 65536 in
theorem w_c6 : (Jvm.Cond.code ({ cls := "com/example/prox2/prox2/format/RunOrder", name := "compareScores", desc := "(DD)I" } : Jvm.MethodName) prog_17_method_7_code (5 : Nat) (Option.some Jvm.ClassFile.FieldType.int)).before args0 about1 = true := code_word (m := ⟨8, 3⟩) (meth := k8m3) (c := k8c3) (by decide +kernel) rfl rfl rfl (by decide +kernel)
set_option maxRecDepth 65536 in
theorem w_c7 : (Jvm.Cond.code ({ cls := "java/lang/StringUTF16", name := "compress", desc := "([CII)[B" } : Jvm.MethodName) jdk_52_method_16_code (6 : Nat) (Option.some (Jvm.ClassFile.FieldType.array Jvm.ClassFile.FieldType.byte))).before args0 about1 = true := code_word (m := ⟨9, 2⟩) (meth := k9m2) (c := k9c2) (by decide +kernel) rfl rfl rfl (by decide +kernel)
set_option maxRecDepth 65536 in
theorem w_c8 : (Jvm.Cond.code ({ cls := "java/lang/StringUTF16", name := "compress", desc := "([CI[BII)I" } : Jvm.MethodName) jdk_52_method_21_code (7 : Nat) (Option.some Jvm.ClassFile.FieldType.int)).before args0 about1 = true := code_word (m := ⟨9, 3⟩) (meth := k9m3) (c := k9c3) (by decide +kernel) rfl rfl rfl (by decide +kernel)
set_option maxRecDepth 65536 in
theorem w_c9 : (Jvm.Cond.code ({ cls := "java/lang/StringUTF16", name := "coderFromArrayLen", desc := "([BI)B" } : Jvm.MethodName) jdk_52_method_15_code (2 : Nat) (Option.some Jvm.ClassFile.FieldType.byte)).before args0 about1 = true := code_word (m := ⟨9, 1⟩) (meth := k9m1) (c := k9c1) (by decide +kernel) rfl rfl rfl (by decide +kernel)
set_option maxRecDepth 65536 in
theorem w_c10 : (Jvm.Cond.code ({ cls := "com/example/prox2/prox2/format/RunOrder", name := "compareAsText", desc := "(Ljava/lang/String;Ljava/lang/String;)I" } : Jvm.MethodName) prog_17_method_6_code (6 : Nat) (Option.some Jvm.ClassFile.FieldType.int)).before args0 about1 = true := code_word (m := ⟨8, 2⟩) (meth := k8m2) (c := k8c2) (by decide +kernel) rfl rfl rfl (by decide +kernel)
set_option maxRecDepth 65536 in
theorem w_c11 : (Jvm.Cond.code ({ cls := "java/lang/String", name := "length", desc := "()I" } : Jvm.MethodName) jdk_42_method_54_code (1 : Nat) (Option.some Jvm.ClassFile.FieldType.int)).before args0 about1 = true := code_word (m := ⟨7, 2⟩) (meth := k7m2) (c := k7c2) (by decide +kernel) rfl rfl rfl (by decide +kernel)
set_option maxRecDepth 65536 in
theorem w_c12 : (Jvm.Cond.code ({ cls := "java/lang/String", name := "coder", desc := "()B" } : Jvm.MethodName) jdk_42_method_152_code (1 : Nat) (Option.some Jvm.ClassFile.FieldType.byte)).before args0 about1 = true := code_word (m := ⟨7, 5⟩) (meth := k7m5) (c := k7c5) (by decide +kernel) rfl rfl rfl (by decide +kernel)
set_option maxRecDepth 65536 in
theorem w_c13 : (Jvm.Cond.code ({ cls := "java/lang/Integer", name := "compare", desc := "(II)I" } : Jvm.MethodName) jdk_33_method_40_code (2 : Nat) (Option.some Jvm.ClassFile.FieldType.int)).before args0 about1 = true := code_word (m := ⟨11, 0⟩) (meth := k11m0) (c := k11c0) (by decide +kernel) rfl rfl rfl (by decide +kernel)
set_option maxRecDepth 65536 in
theorem w_c14 : (Jvm.Cond.code ({ cls := "com/example/prox2/prox2/format/RunOrderComparePinLaw", name := "cmp", desc := "(ICCICC)I" } : Jvm.MethodName) method_4_code (6 : Nat) (Option.some Jvm.ClassFile.FieldType.int)).before args0 about1 = true := code_word (m := ⟨1, 3⟩) (meth := k1m3) (c := k1c3) (by decide +kernel) rfl rfl rfl (by decide +kernel)
set_option maxRecDepth 65536 in
theorem w_c15 : (Jvm.Cond.code ({ cls := "java/lang/String", name := "codePointAt", desc := "(I)I" } : Jvm.MethodName) jdk_42_method_57_code (3 : Nat) (Option.some Jvm.ClassFile.FieldType.int)).before args0 about1 = true := code_word (m := ⟨7, 3⟩) (meth := k7m3) (c := k7c3) (by decide +kernel) rfl rfl rfl (by decide +kernel)
set_option maxRecDepth 65536 in
theorem w_c16 : (Jvm.Cond.code ({ cls := "java/lang/String", name := "isLatin1", desc := "()Z" } : Jvm.MethodName) jdk_42_method_154_code (1 : Nat) (Option.some Jvm.ClassFile.FieldType.boolean)).before args0 about1 = true := code_word (m := ⟨7, 6⟩) (meth := k7m6) (c := k7c6) (by decide +kernel) rfl rfl rfl (by decide +kernel)
set_option maxRecDepth 65536 in
theorem w_c17 : (Jvm.Cond.code ({ cls := "java/lang/String", name := "checkIndex", desc := "(II)V" } : Jvm.MethodName) jdk_42_method_155_code (2 : Nat) (Option.none : Option Jvm.ClassFile.FieldType)).before args0 about1 = true := code_word (m := ⟨7, 7⟩) (meth := k7m7) (c := k7c7) (by decide +kernel) rfl rfl rfl (by decide +kernel)
set_option maxRecDepth 65536 in
theorem w_c18 : (Jvm.Cond.code ({ cls := "jdk/internal/util/Preconditions", name := "checkIndex", desc := "(IILjava/util/function/BiFunction;)I" } : Jvm.MethodName) jdk_41_method_11_code (3 : Nat) (Option.some Jvm.ClassFile.FieldType.int)).before args0 about1 = true := code_word (m := ⟨12, 1⟩) (meth := k12m1) (c := k12c1) (by decide +kernel) rfl rfl rfl (by decide +kernel)
set_option maxRecDepth 65536 in
theorem w_c19 : (Jvm.Cond.code ({ cls := "java/lang/Character", name := "charCount", desc := "(I)I" } : Jvm.MethodName) jdk_89_method_18_code (1 : Nat) (Option.some Jvm.ClassFile.FieldType.int)).before args0 about1 = true := code_word (m := ⟨13, 0⟩) (meth := k13m0) (c := k13c0) (by decide +kernel) rfl rfl rfl (by decide +kernel)
def codes1 : List Jvm.Cond := [Jvm.Cond.code x code maxLocals ret, Jvm.Cond.code ({ cls := "com/example/prox2/prox2/format/RunOrderComparePinLaw", name := "make", desc := "(ICC)Ljava/lang/String;" } : Jvm.MethodName) method_3_code (3 : Nat) (Option.some (Jvm.ClassFile.FieldType.object "java/lang/String")), Jvm.Cond.code ({ cls := "java/lang/String", name := "<init>", desc := "([C)V" } : Jvm.MethodName) jdk_42_method_3_code (2 : Nat) (Option.none : Option Jvm.ClassFile.FieldType), Jvm.Cond.code ({ cls := "java/lang/String", name := "<init>", desc := "([CIILjava/lang/Void;)V" } : Jvm.MethodName) jdk_42_method_149_code (6 : Nat) (Option.none : Option Jvm.ClassFile.FieldType), Jvm.Cond.code ({ cls := "java/lang/Object", name := "<init>", desc := "()V" } : Jvm.MethodName) object_method_1_code (1 : Nat) (Option.none : Option Jvm.ClassFile.FieldType), Jvm.Cond.code ({ cls := "com/example/prox2/prox2/format/RunOrder", name := "compare", desc := "(DLjava/lang/String;DLjava/lang/String;)I" } : Jvm.MethodName) prog_17_method_4_code (7 : Nat) (Option.some Jvm.ClassFile.FieldType.int), Jvm.Cond.code ({ cls := "com/example/prox2/prox2/format/RunOrder", name := "compareScores", desc := "(DD)I" } : Jvm.MethodName) prog_17_method_7_code (5 : Nat) (Option.some Jvm.ClassFile.FieldType.int), Jvm.Cond.code ({ cls := "java/lang/StringUTF16", name := "compress", desc := "([CII)[B" } : Jvm.MethodName) jdk_52_method_16_code (6 : Nat) (Option.some (Jvm.ClassFile.FieldType.array Jvm.ClassFile.FieldType.byte)), Jvm.Cond.code ({ cls := "java/lang/StringUTF16", name := "compress", desc := "([CI[BII)I" } : Jvm.MethodName) jdk_52_method_21_code (7 : Nat) (Option.some Jvm.ClassFile.FieldType.int), Jvm.Cond.code ({ cls := "java/lang/StringUTF16", name := "coderFromArrayLen", desc := "([BI)B" } : Jvm.MethodName) jdk_52_method_15_code (2 : Nat) (Option.some Jvm.ClassFile.FieldType.byte), Jvm.Cond.code ({ cls := "com/example/prox2/prox2/format/RunOrder", name := "compareAsText", desc := "(Ljava/lang/String;Ljava/lang/String;)I" } : Jvm.MethodName) prog_17_method_6_code (6 : Nat) (Option.some Jvm.ClassFile.FieldType.int), Jvm.Cond.code ({ cls := "java/lang/String", name := "length", desc := "()I" } : Jvm.MethodName) jdk_42_method_54_code (1 : Nat) (Option.some Jvm.ClassFile.FieldType.int), Jvm.Cond.code ({ cls := "java/lang/String", name := "coder", desc := "()B" } : Jvm.MethodName) jdk_42_method_152_code (1 : Nat) (Option.some Jvm.ClassFile.FieldType.byte), Jvm.Cond.code ({ cls := "java/lang/Integer", name := "compare", desc := "(II)I" } : Jvm.MethodName) jdk_33_method_40_code (2 : Nat) (Option.some Jvm.ClassFile.FieldType.int), Jvm.Cond.code ({ cls := "com/example/prox2/prox2/format/RunOrderComparePinLaw", name := "cmp", desc := "(ICCICC)I" } : Jvm.MethodName) method_4_code (6 : Nat) (Option.some Jvm.ClassFile.FieldType.int), Jvm.Cond.code ({ cls := "java/lang/String", name := "codePointAt", desc := "(I)I" } : Jvm.MethodName) jdk_42_method_57_code (3 : Nat) (Option.some Jvm.ClassFile.FieldType.int), Jvm.Cond.code ({ cls := "java/lang/String", name := "isLatin1", desc := "()Z" } : Jvm.MethodName) jdk_42_method_154_code (1 : Nat) (Option.some Jvm.ClassFile.FieldType.boolean), Jvm.Cond.code ({ cls := "java/lang/String", name := "checkIndex", desc := "(II)V" } : Jvm.MethodName) jdk_42_method_155_code (2 : Nat) (Option.none : Option Jvm.ClassFile.FieldType), Jvm.Cond.code ({ cls := "jdk/internal/util/Preconditions", name := "checkIndex", desc := "(IILjava/util/function/BiFunction;)I" } : Jvm.MethodName) jdk_41_method_11_code (3 : Nat) (Option.some Jvm.ClassFile.FieldType.int), Jvm.Cond.code ({ cls := "java/lang/Character", name := "charCount", desc := "(I)I" } : Jvm.MethodName) jdk_89_method_18_code (1 : Nat) (Option.some Jvm.ClassFile.FieldType.int)]
set_option maxRecDepth 65536 in
theorem codes_eq : words1.filter isCode = codes1 := rfl
theorem w_codes : ∀ c ∈ words1.filter isCode, c.before args0 about1 = true := by
  rw [codes_eq]
  intro c hc
  simp only [codes1, List.mem_cons, List.not_mem_nil, or_false] at hc
  rcases hc with rfl | rfl | rfl | rfl | rfl | rfl | rfl | rfl | rfl | rfl | rfl | rfl | rfl | rfl | rfl | rfl | rfl | rfl | rfl | rfl
  · exact w_c0
  · exact w_c1
  · exact w_c2
  · exact w_c3
  · exact w_c4
  · exact w_c5
  · exact w_c6
  · exact w_c7
  · exact w_c8
  · exact w_c9
  · exact w_c10
  · exact w_c11
  · exact w_c12
  · exact w_c13
  · exact w_c14
  · exact w_c15
  · exact w_c16
  · exact w_c17
  · exact w_c18
  · exact w_c19
set_option maxRecDepth 65536 in
theorem w_t1 : (words1.take 24).all (fun c => isCode c || c.before args0 about1) = true := by decide +kernel
set_option maxRecDepth 65536 in
theorem w_t2 : ((words1.drop 24).take 24).all (fun c => isCode c || c.before args0 about1) = true := by decide +kernel
set_option maxRecDepth 65536 in
theorem w_t3 : (((words1.drop 24).drop 24).take 24).all (fun c => isCode c || c.before args0 about1) = true := by decide +kernel
set_option maxRecDepth 65536 in
theorem w_t4 : (((words1.drop 24).drop 24).drop 24).all (fun c => isCode c || c.before args0 about1) = true := by decide +kernel
theorem w_tables : (allAtoms (Jvm.Cond.code x code maxLocals ret :: tables_1)).before args0 about1 = true := by
  rw [allAtoms_all]
  show words1.all (fun c => c.before args0 about1) = true
  refine all_split ?_ w_codes
  rw [← List.take_append_drop 24 words1, List.all_append, w_t1, ← List.take_append_drop 24 (words1.drop 24), List.all_append, w_t2, ← List.take_append_drop 24 ((words1.drop 24).drop 24), List.all_append, w_t3, w_t4]
  rfl
set_option maxRecDepth 65536 in
theorem w_rest : rest_1_c.before args0 about1 = true := by decide +kernel
set_option maxRecDepth 65536 in
theorem w_case : (Jvm.Cond.and given_1 narrow_1).before args0 about1 = true := by decide +kernel
set_option maxRecDepth 65536 in
theorem w_consts : constsHeld consts_1 about1 := Jvm.Lit.constsHeldB_iff.mp (by decide +kernel)
theorem w_applies : (headSpec (Jvm.Cond.code x code maxLocals ret :: tables_1) room_1).applies x e0.platform about1 = true :=
  (Spec.applies_iff w_frames).mpr ⟨w_running, w_runnable, w_alone, w_named, w_hears, w_ripe, w_room, w_tables⟩
theorem atStart : AtStart classFile x code maxLocals ret World_1 tables_1 room_1 Calls_1 rest_1 Pre_1 launch0 p0 e0 about1 theMethod args0 below0 :=
  ⟨lists_1, trivial, launch0.admits_env _ _ _, launch0.least_env, fairChoices_fair.cas, fairChoices_fair.clock, w_frames, w_args, w_heap, w_applies, ⟨w_consts, trivial⟩, w_rest, w_case⟩
end start1
theorem witness_1 : WitnessClaimed_1 := ⟨start1.p0, start1.e0, start1.about1, start1.theMethod, start1.args0, start1.below0, start1.atStart⟩
end Jvm.Pilot.@@N@@
