import JvmDerived
import JvmDerived.Pilot.@@N@@Statement
import JvmDerived.Pilot.@@N@@Code
set_option linter.unusedVariables false
set_option linter.unusedSimpArgs false
namespace Jvm.Own
open Sem ClassFile Op Lib Jvm.Stand Jvm.Free Jvm.LawKit Jvm.RoadKit
/-- from here the run comes back, and F says how -/
def Go (p : Program) (e : Env) (below : List Frame) (m : MethodId) (F : Outcome → State → Prop) (T : State) (pc : Nat) (ls : Array Slot) (st : List Value) : Prop :=
  ∃ V o, Steps p.tables e below (T.setTop (mkF m pc ls st)) V ∧ V.status = .running ∧ Ended V below o ∧ F o V
def Fini (s : State) (rc rs : Nat) (Q : Option Value → Heap → List Loc → Prop) (o : Outcome) (V : State) : Prop := ∃ v L, o = .returned v ∧ Q v V.heap L ∧ FrameEnd s o V L rc rs
abbrev Ctr (l : Launch) (Z : State) (y : MethodName) (bytes : ByteArray) (maxL : Nat) (ret : Option FieldType) (ws : List Cond) (rm : Room) (as' : Array Value) (h : Heap) (Q : Option Value → Heap → List Loc → Prop) : Prop :=
  MetFree l y (head1 (Cond.code y bytes maxL ret :: ws) rm) (fun a U => a = as' ∧ Z.Warmed39 U.vm ∧ U.heap = h) (fun _ _ _ _ _ => True) (fun _ U o U' => ∃ v L, o = .returned v ∧ Q v U'.heap L ∧ FrameEnd U o U' L rm.cells rm.slots)
theorem enter {l : Launch} {Z : State} {y : MethodName} {bytes : ByteArray} {maxL : Nat} {ret : Option FieldType} {ws : List Cond} {rm : Room} {as' : Array Value} {h : Heap} {Q : Option Value → Heap → List Loc → Prop} (hpn : plainFor y = true)
    (body : ∀ (p : Program) (e : Env) (s : State) (m : MethodId) (below : List Frame) (meth : Method) (c : Code) (T : State), Stand p l e rm s m as' below meth c T [] 0 0 → p.tables.exec = Jvm.exec → c.code = bytes → c.maxLocals = maxL → meth.sig.returnType = ret → meth.locks = false → Z.Warmed39 s.vm → s.vm.findClass y.cls = some m.cls → meth.name = y.name → T.heap = h →
      ∃ V o, Steps p.tables e below (T.setTop (entryFrame m as' maxL)) V ∧ V.status = .running ∧ Ended V below o ∧ Fini s rm.cells rm.slots Q o V) : Ctr l Z y bytes maxL ret ws rm as' h Q := by
  refine MetFree.of_bodySF hpn hisR ?_
  intro p e s m args below meth c s₁ Bd hml0 hP hK
  obtain ⟨rfl, hZ, hh⟩ := hP
  exact body p e s m below meth c s₁ (Stand.of_body Bd) Bd.exec Bd.bytes hml0 Bd.returns Bd.notSynchronized hZ (findClass_of_methodNamed Bd.named) (name_of_methodNamed Bd.named Bd.method).1 (by rw [← hh, Bd.state]; rfl)
theorem goIn {p : Program} {e : Env} {below : List Frame} {m : MethodId} {F : Outcome → State → Prop} {T : State} {as' : Array Value} {n : Nat} {ls : Array Slot} (q : entryFrame m as' n = mkF m 0 ls []) (k : Go p e below m F T 0 ls []) :
    ∃ V o, Steps p.tables e below (T.setTop (entryFrame m as' n)) V ∧ V.status = .running ∧ Ended V below o ∧ F o V := by rw [q]; exact k
def Wk (p : Program) (below : List Frame) (m : MethodId) (c : Code) (b : ByteArray) (T : State) : Prop := At T m c below ∧ p.tables.exec = Jvm.exec ∧ c.code = b
theorem Go.of {p : Program} {e : Env} {below : List Frame} {m : MethodId} {F : Outcome → State → Prop} {T T' : State} {pc pc' : Nat} {ls ls' : Array Slot} {st st' : List Value} (k : Go p e below m F T' pc' ls' st')
    (q : ∀ t, Steps p.tables e below (T'.setTop (mkF m pc' ls' st')) t → Steps p.tables e below (T.setTop (mkF m pc ls st)) t) : Go p e below m F T pc ls st := by
  obtain ⟨V, o, h1, h2⟩ := k
  exact ⟨V, o, q V h1, h2⟩
section Plain
variable {p : Program} {l : Launch} {e : Env} {R : Room} {s : State} {m : MethodId} {args : Array Value} {below : List Frame} {meth : Method} {c : Code} {T : State} {locs : List Loc} {cells slots : Nat} {Z : State} {a0 : Array Value} {h : Heap} {b : ByteArray} {F : Outcome → State → Prop} {pc pc' : Nat} {ls : Array Slot} {rest : List Value}
theorem wk (X : Stand p l e R s m args below meth c T locs cells slots) (hx : p.tables.exec = Jvm.exec) (hby : c.code = b) : Wk p below m c b T := ⟨X.here, hx, hby⟩
theorem s_iconst {i : Int} {v : Int32} (A : Wk p below m c b T) (hd : decode b pc = .ok (.iconst i, 1)) (hp : pc + 1 = pc') (hv : Int32.ofInt i = v) (k : Go p e below m F T pc' ls (.int v :: rest)) : Go p e below m F T pc ls rest := by
  subst hp hv
  exact k.of fun t k => XS.iconst A.1 A.2.1 rfl (hb A.2.2 hd) k
theorem s_bipush {i : Int} {v : Int32} (A : Wk p below m c b T) (hd : decode b pc = .ok (.bipush i, 2)) (hp : pc + 2 = pc') (hv : (Int8.ofInt i).toInt32 = v) (k : Go p e below m F T pc' ls (.int v :: rest)) : Go p e below m F T pc ls rest := by
  subst hp hv
  exact k.of fun t k => XS.bipush A.1 A.2.1 rfl (hb A.2.2 hd) k
theorem s_sipush {i : Int} {v : Int32} (A : Wk p below m c b T) (hd : decode b pc = .ok (.sipush i, 3)) (hp : pc + 3 = pc') (hv : (Int16.ofInt i).toInt32 = v) (k : Go p e below m F T pc' ls (.int v :: rest)) : Go p e below m F T pc ls rest := by
  subst hp hv
  exact k.of fun t k => XS.sipush A.1 A.2.1 rfl (hb A.2.2 hd) k
theorem s_lconst {i : Fin 2} {v : Int64} (A : Wk p below m c b T) (hd : decode b pc = .ok (.lconst i, 1)) (hp : pc + 1 = pc') (hv : Int64.ofNat i = v) (k : Go p e below m F T pc' ls (.long v :: rest)) : Go p e below m F T pc ls rest := by
  subst hp hv
  exact k.of fun t k => XT.lconst A.1 A.2.1 rfl (hb A.2.2 hd) k
theorem s_dconst0 {v : UInt64} (A : Wk p below m c b T) (hd : decode b pc = .ok (.dconst 0, 1)) (hp : pc + 1 = pc') (hv : FP.dconst0 = v) (k : Go p e below m F T pc' ls (.double v :: rest)) : Go p e below m F T pc ls rest := by
  subst hp hv
  exact k.of fun t k => XS.dconst0 A.1 A.2.1 rfl (hb A.2.2 hd) rfl k
theorem s_dconst1 {v : UInt64} (A : Wk p below m c b T) (hd : decode b pc = .ok (.dconst 1, 1)) (hp : pc + 1 = pc') (hv : FP.dconst1 = v) (k : Go p e below m F T pc' ls (.double v :: rest)) : Go p e below m F T pc ls rest := by
  subst hp hv
  exact k.of fun t k => XS.dconst1 A.1 A.2.1 rfl (hb A.2.2 hd) rfl k
theorem s_aconstNull  (A : Wk p below m c b T) (hd : decode b pc = .ok (.aconst_null, 1)) (hp : pc + 1 = pc')  (k : Go p e below m F T pc' ls (.null :: rest)) : Go p e below m F T pc ls rest := by
  subst hp
  exact k.of fun t k => XS.aconstNull A.1 A.2.1 rfl (hb A.2.2 hd) k
theorem s_iloadN {i : Fin 4} {v : Int32} (A : Wk p below m c b T) (hd : decode b pc = .ok (.iload_n i, 1)) (hp : pc + 1 = pc') (hl : ls[i.val]? = some (.val (.int v))) (k : Go p e below m F T pc' ls (.int v :: rest)) : Go p e below m F T pc ls rest := by
  subst hp
  exact k.of fun t k => XS.iloadN A.1 A.2.1 rfl (hb A.2.2 hd) hl k
theorem s_iload {i : Nat} {v : Int32} (A : Wk p below m c b T) (hd : decode b pc = .ok (.iload i, 2)) (hp : pc + 2 = pc') (hl : ls[i]? = some (.val (.int v))) (k : Go p e below m F T pc' ls (.int v :: rest)) : Go p e below m F T pc ls rest := by
  subst hp
  exact k.of fun t k => XS.iload A.1 A.2.1 rfl (hb A.2.2 hd) hl k
theorem s_lloadN {i : Fin 4} {v : Int64} (A : Wk p below m c b T) (hd : decode b pc = .ok (.lload_n i, 1)) (hp : pc + 1 = pc') (hl : ls[i.val]? = some (.val (.long v))) (k : Go p e below m F T pc' ls (.long v :: rest)) : Go p e below m F T pc ls rest := by
  subst hp
  exact k.of fun t k => XT.lloadN A.1 A.2.1 rfl (hb A.2.2 hd) hl k
theorem s_lload {i : Nat} {v : Int64} (A : Wk p below m c b T) (hd : decode b pc = .ok (.lload i, 2)) (hp : pc + 2 = pc') (hl : ls[i]? = some (.val (.long v))) (k : Go p e below m F T pc' ls (.long v :: rest)) : Go p e below m F T pc ls rest := by
  subst hp
  exact k.of fun t k => XT.lload A.1 A.2.1 rfl (hb A.2.2 hd) hl k
theorem s_dloadN {i : Fin 4} {v : UInt64} (A : Wk p below m c b T) (hd : decode b pc = .ok (.dload_n i, 1)) (hp : pc + 1 = pc') (hl : ls[i.val]? = some (.val (.double v))) (k : Go p e below m F T pc' ls (.double v :: rest)) : Go p e below m F T pc ls rest := by
  subst hp
  exact k.of fun t k => XS.dloadN A.1 A.2.1 rfl (hb A.2.2 hd) hl k
theorem s_dload {i : Nat} {v : UInt64} (A : Wk p below m c b T) (hd : decode b pc = .ok (.dload i, 2)) (hp : pc + 2 = pc') (hl : ls[i]? = some (.val (.double v))) (k : Go p e below m F T pc' ls (.double v :: rest)) : Go p e below m F T pc ls rest := by
  subst hp
  exact k.of fun t k => XS.dload A.1 A.2.1 rfl (hb A.2.2 hd) hl k
theorem s_aloadN {i : Fin 4} {v : Value} (A : Wk p below m c b T) (hd : decode b pc = .ok (.aload_n i, 1)) (hp : pc + 1 = pc') (hl : ls[i.val]? = some (.val v)) (hv : v.isRef = true) (k : Go p e below m F T pc' ls (v :: rest)) : Go p e below m F T pc ls rest := by
  subst hp
  exact k.of fun t k => XS.aloadN A.1 A.2.1 rfl (hb A.2.2 hd) hl hv k
theorem s_aload {i : Nat} {v : Value} (A : Wk p below m c b T) (hd : decode b pc = .ok (.aload i, 2)) (hp : pc + 2 = pc') (hl : ls[i]? = some (.val v)) (hv : v.isRef = true) (k : Go p e below m F T pc' ls (v :: rest)) : Go p e below m F T pc ls rest := by
  subst hp
  exact k.of fun t k => XS.aload A.1 A.2.1 rfl (hb A.2.2 hd) hl hv k
theorem s_istoreN {i : Fin 4} {v : Int32} {ls' : Array Slot} (A : Wk p below m c b T) (hd : decode b pc = .ok (.istore_n i, 1)) (hp : pc + 1 = pc') (hl : storeLocals ls i.val (.int v) = some ls') (k : Go p e below m F T pc' ls' rest) : Go p e below m F T pc ls (.int v :: rest) := by
  subst hp
  exact k.of fun t k => XS.istoreN A.1 A.2.1 rfl (hb A.2.2 hd) rfl hl k
theorem s_istore {i : Nat} {v : Int32} {ls' : Array Slot} (A : Wk p below m c b T) (hd : decode b pc = .ok (.istore i, 2)) (hp : pc + 2 = pc') (hl : storeLocals ls i (.int v) = some ls') (k : Go p e below m F T pc' ls' rest) : Go p e below m F T pc ls (.int v :: rest) := by
  subst hp
  exact k.of fun t k => XS.istore A.1 A.2.1 rfl (hb A.2.2 hd) rfl hl k
theorem s_lstoreN {i : Fin 4} {v : Int64} {ls' : Array Slot} (A : Wk p below m c b T) (hd : decode b pc = .ok (.lstore_n i, 1)) (hp : pc + 1 = pc') (hl : storeLocals ls i.val (.long v) = some ls') (k : Go p e below m F T pc' ls' rest) : Go p e below m F T pc ls (.long v :: rest) := by
  subst hp
  exact k.of fun t k => XT.lstoreN A.1 A.2.1 rfl (hb A.2.2 hd) rfl hl k
theorem s_lstore {i : Nat} {v : Int64} {ls' : Array Slot} (A : Wk p below m c b T) (hd : decode b pc = .ok (.lstore i, 2)) (hp : pc + 2 = pc') (hl : storeLocals ls i (.long v) = some ls') (k : Go p e below m F T pc' ls' rest) : Go p e below m F T pc ls (.long v :: rest) := by
  subst hp
  exact k.of fun t k => XT.lstore A.1 A.2.1 rfl (hb A.2.2 hd) rfl hl k
theorem s_dstoreN {i : Fin 4} {v : UInt64} {ls' : Array Slot} (A : Wk p below m c b T) (hd : decode b pc = .ok (.dstore_n i, 1)) (hp : pc + 1 = pc') (hl : storeLocals ls i.val (.double v) = some ls') (k : Go p e below m F T pc' ls' rest) : Go p e below m F T pc ls (.double v :: rest) := by
  subst hp
  exact k.of fun t k => XS.dstoreN A.1 A.2.1 rfl (hb A.2.2 hd) rfl hl k
theorem s_dstore {i : Nat} {v : UInt64} {ls' : Array Slot} (A : Wk p below m c b T) (hd : decode b pc = .ok (.dstore i, 2)) (hp : pc + 2 = pc') (hl : storeLocals ls i (.double v) = some ls') (k : Go p e below m F T pc' ls' rest) : Go p e below m F T pc ls (.double v :: rest) := by
  subst hp
  exact k.of fun t k => XS.dstore A.1 A.2.1 rfl (hb A.2.2 hd) rfl hl k
theorem s_astoreN {i : Fin 4} {v : Value} {ls' : Array Slot} (A : Wk p below m c b T) (hd : decode b pc = .ok (.astore_n i, 1)) (hp : pc + 1 = pc') (hv : v.isRef = true) (hl : storeLocals ls i.val v = some ls') (k : Go p e below m F T pc' ls' rest) : Go p e below m F T pc ls (v :: rest) := by
  subst hp
  exact k.of fun t k => XS.astoreN A.1 A.2.1 rfl (hb A.2.2 hd) rfl hv hl k
theorem s_astore {i : Nat} {v : Value} {ls' : Array Slot} (A : Wk p below m c b T) (hd : decode b pc = .ok (.astore i, 2)) (hp : pc + 2 = pc') (hv : v.isRef = true) (hl : storeLocals ls i v = some ls') (k : Go p e below m F T pc' ls' rest) : Go p e below m F T pc ls (v :: rest) := by
  subst hp
  exact k.of fun t k => XS.astore A.1 A.2.1 rfl (hb A.2.2 hd) rfl hv hl k
theorem s_iinc {i : Nat} {cst : Int} {x v : Int32} {ls' : Array Slot} (A : Wk p below m c b T) (hd : decode b pc = .ok (.iinc i cst, 3)) (hp : pc + 3 = pc') (hl : ls[i]? = some (.val (.int x))) (hv : x + Int32.ofInt cst = v) (hl' : storeLocals ls i (.int v) = some ls') (k : Go p e below m F T pc' ls' rest) : Go p e below m F T pc ls rest := by
  subst hp hv
  exact k.of fun t k => XS.iinc A.1 A.2.1 rfl (hb A.2.2 hd) hl hl' k
theorem s_iadd {x y v : Int32} (A : Wk p below m c b T) (hd : decode b pc = .ok (.iadd, 1)) (hp : pc + 1 = pc') (hv : x + y = v) (k : Go p e below m F T pc' ls (.int v :: rest)) : Go p e below m F T pc ls (.int y :: .int x :: rest) := by
  subst hp hv
  exact k.of fun t k => XS.iadd A.1 A.2.1 rfl (hb A.2.2 hd) rfl k
theorem s_isub {x y v : Int32} (A : Wk p below m c b T) (hd : decode b pc = .ok (.isub, 1)) (hp : pc + 1 = pc') (hv : x - y = v) (k : Go p e below m F T pc' ls (.int v :: rest)) : Go p e below m F T pc ls (.int y :: .int x :: rest) := by
  subst hp hv
  exact k.of fun t k => XS.isub A.1 A.2.1 rfl (hb A.2.2 hd) rfl k
theorem s_imul {x y v : Int32} (A : Wk p below m c b T) (hd : decode b pc = .ok (.imul, 1)) (hp : pc + 1 = pc') (hv : x * y = v) (k : Go p e below m F T pc' ls (.int v :: rest)) : Go p e below m F T pc ls (.int y :: .int x :: rest) := by
  subst hp hv
  exact k.of fun t k => XS.imul A.1 A.2.1 rfl (hb A.2.2 hd) rfl k
theorem s_iand {x y v : Int32} (A : Wk p below m c b T) (hd : decode b pc = .ok (.iand, 1)) (hp : pc + 1 = pc') (hv : x &&& y = v) (k : Go p e below m F T pc' ls (.int v :: rest)) : Go p e below m F T pc ls (.int y :: .int x :: rest) := by
  subst hp hv
  exact k.of fun t k => XS.iand A.1 A.2.1 rfl (hb A.2.2 hd) rfl k
theorem s_ior {x y v : Int32} (A : Wk p below m c b T) (hd : decode b pc = .ok (.ior, 1)) (hp : pc + 1 = pc') (hv : x ||| y = v) (k : Go p e below m F T pc' ls (.int v :: rest)) : Go p e below m F T pc ls (.int y :: .int x :: rest) := by
  subst hp hv
  exact k.of fun t k => XT.ior A.1 A.2.1 rfl (hb A.2.2 hd) rfl k
theorem s_ixor {x y v : Int32} (A : Wk p below m c b T) (hd : decode b pc = .ok (.ixor, 1)) (hp : pc + 1 = pc') (hv : x ^^^ y = v) (k : Go p e below m F T pc' ls (.int v :: rest)) : Go p e below m F T pc ls (.int y :: .int x :: rest) := by
  subst hp hv
  exact k.of fun t k => XT.ixor A.1 A.2.1 rfl (hb A.2.2 hd) rfl k
theorem s_idiv {x y v : Int32} (A : Wk p below m c b T) (hd : decode b pc = .ok (.idiv, 1)) (hp : pc + 1 = pc') (hy : y ≠ 0) (hv : x / y = v) (k : Go p e below m F T pc' ls (.int v :: rest)) : Go p e below m F T pc ls (.int y :: .int x :: rest) := by
  subst hp hv
  exact k.of fun t k => XS.idiv A.1 A.2.1 rfl (hb A.2.2 hd) rfl hy k
theorem s_irem {x y v : Int32} (A : Wk p below m c b T) (hd : decode b pc = .ok (.irem, 1)) (hp : pc + 1 = pc') (hy : y ≠ 0) (hv : x - (x / y) * y = v) (k : Go p e below m F T pc' ls (.int v :: rest)) : Go p e below m F T pc ls (.int y :: .int x :: rest) := by
  subst hp hv
  exact k.of fun t k => XS.irem A.1 A.2.1 rfl (hb A.2.2 hd) rfl hy k
theorem s_ladd {x y v : Int64} (A : Wk p below m c b T) (hd : decode b pc = .ok (.ladd, 1)) (hp : pc + 1 = pc') (hv : x + y = v) (k : Go p e below m F T pc' ls (.long v :: rest)) : Go p e below m F T pc ls (.long y :: .long x :: rest) := by
  subst hp hv
  exact k.of fun t k => XT.ladd A.1 A.2.1 rfl (hb A.2.2 hd) rfl k
theorem s_lsub {x y v : Int64} (A : Wk p below m c b T) (hd : decode b pc = .ok (.lsub, 1)) (hp : pc + 1 = pc') (hv : x - y = v) (k : Go p e below m F T pc' ls (.long v :: rest)) : Go p e below m F T pc ls (.long y :: .long x :: rest) := by
  subst hp hv
  exact k.of fun t k => XT.lsub A.1 A.2.1 rfl (hb A.2.2 hd) rfl k
theorem s_lmul {x y v : Int64} (A : Wk p below m c b T) (hd : decode b pc = .ok (.lmul, 1)) (hp : pc + 1 = pc') (hv : x * y = v) (k : Go p e below m F T pc' ls (.long v :: rest)) : Go p e below m F T pc ls (.long y :: .long x :: rest) := by
  subst hp hv
  exact k.of fun t k => XT.lmul A.1 A.2.1 rfl (hb A.2.2 hd) rfl k
theorem s_land {x y v : Int64} (A : Wk p below m c b T) (hd : decode b pc = .ok (.land, 1)) (hp : pc + 1 = pc') (hv : x &&& y = v) (k : Go p e below m F T pc' ls (.long v :: rest)) : Go p e below m F T pc ls (.long y :: .long x :: rest) := by
  subst hp hv
  exact k.of fun t k => XT.land A.1 A.2.1 rfl (hb A.2.2 hd) rfl k
theorem s_lor {x y v : Int64} (A : Wk p below m c b T) (hd : decode b pc = .ok (.lor, 1)) (hp : pc + 1 = pc') (hv : x ||| y = v) (k : Go p e below m F T pc' ls (.long v :: rest)) : Go p e below m F T pc ls (.long y :: .long x :: rest) := by
  subst hp hv
  exact k.of fun t k => XT.lor A.1 A.2.1 rfl (hb A.2.2 hd) rfl k
theorem s_lxor {x y v : Int64} (A : Wk p below m c b T) (hd : decode b pc = .ok (.lxor, 1)) (hp : pc + 1 = pc') (hv : x ^^^ y = v) (k : Go p e below m F T pc' ls (.long v :: rest)) : Go p e below m F T pc ls (.long y :: .long x :: rest) := by
  subst hp hv
  exact k.of fun t k => XT.lxor A.1 A.2.1 rfl (hb A.2.2 hd) rfl k
theorem s_ldiv {x y v : Int64} (A : Wk p below m c b T) (hd : decode b pc = .ok (.ldiv, 1)) (hp : pc + 1 = pc') (hy : y ≠ 0) (hv : x / y = v) (k : Go p e below m F T pc' ls (.long v :: rest)) : Go p e below m F T pc ls (.long y :: .long x :: rest) := by
  subst hp hv
  exact k.of fun t k => XT.ldiv A.1 A.2.1 rfl (hb A.2.2 hd) rfl hy k
theorem s_lrem {x y v : Int64} (A : Wk p below m c b T) (hd : decode b pc = .ok (.lrem, 1)) (hp : pc + 1 = pc') (hy : y ≠ 0) (hv : x - (x / y) * y = v) (k : Go p e below m F T pc' ls (.long v :: rest)) : Go p e below m F T pc ls (.long y :: .long x :: rest) := by
  subst hp hv
  exact k.of fun t k => XT.lrem A.1 A.2.1 rfl (hb A.2.2 hd) rfl hy k
theorem s_ishl {x v : Int32} {y : Int32} (A : Wk p below m c b T) (hd : decode b pc = .ok (.ishl, 1)) (hp : pc + 1 = pc') (hv : x <<< (y &&& 31) = v) (k : Go p e below m F T pc' ls (.int v :: rest)) : Go p e below m F T pc ls (.int y :: .int x :: rest) := by
  subst hp hv
  exact k.of fun t k => XT.ishl A.1 A.2.1 rfl (hb A.2.2 hd) rfl k
theorem s_ishr {x v : Int32} {y : Int32} (A : Wk p below m c b T) (hd : decode b pc = .ok (.ishr, 1)) (hp : pc + 1 = pc') (hv : x >>> (y &&& 31) = v) (k : Go p e below m F T pc' ls (.int v :: rest)) : Go p e below m F T pc ls (.int y :: .int x :: rest) := by
  subst hp hv
  exact k.of fun t k => XT.ishr A.1 A.2.1 rfl (hb A.2.2 hd) rfl k
theorem s_iushr {x v : Int32} {y : Int32} (A : Wk p below m c b T) (hd : decode b pc = .ok (.iushr, 1)) (hp : pc + 1 = pc') (hv : XT.ushr x y = v) (k : Go p e below m F T pc' ls (.int v :: rest)) : Go p e below m F T pc ls (.int y :: .int x :: rest) := by
  subst hp hv
  exact k.of fun t k => XT.iushr A.1 A.2.1 rfl (hb A.2.2 hd) rfl k
theorem s_lshl {x v : Int64} {y : Int32} (A : Wk p below m c b T) (hd : decode b pc = .ok (.lshl, 1)) (hp : pc + 1 = pc') (hv : x <<< (y.toInt64 &&& 63) = v) (k : Go p e below m F T pc' ls (.long v :: rest)) : Go p e below m F T pc ls (.int y :: .long x :: rest) := by
  subst hp hv
  exact k.of fun t k => XT.lshl A.1 A.2.1 rfl (hb A.2.2 hd) rfl k
theorem s_lshr {x v : Int64} {y : Int32} (A : Wk p below m c b T) (hd : decode b pc = .ok (.lshr, 1)) (hp : pc + 1 = pc') (hv : x >>> (y.toInt64 &&& 63) = v) (k : Go p e below m F T pc' ls (.long v :: rest)) : Go p e below m F T pc ls (.int y :: .long x :: rest) := by
  subst hp hv
  exact k.of fun t k => XT.lshr A.1 A.2.1 rfl (hb A.2.2 hd) rfl k
theorem s_lushr {x v : Int64} {y : Int32} (A : Wk p below m c b T) (hd : decode b pc = .ok (.lushr, 1)) (hp : pc + 1 = pc') (hv : XT.ushrL x y = v) (k : Go p e below m F T pc' ls (.long v :: rest)) : Go p e below m F T pc ls (.int y :: .long x :: rest) := by
  subst hp hv
  exact k.of fun t k => XT.lushr A.1 A.2.1 rfl (hb A.2.2 hd) rfl k
theorem s_i2b {x v : Int32} (A : Wk p below m c b T) (hd : decode b pc = .ok (.i2b, 1)) (hp : pc + 1 = pc') (hv : x.toInt8.toInt32 = v) (k : Go p e below m F T pc' ls (.int v :: rest)) : Go p e below m F T pc ls (.int x :: rest) := by
  subst hp hv
  exact k.of fun t k => XT.i2b A.1 A.2.1 rfl (hb A.2.2 hd) rfl k
theorem s_i2c {x v : Int32} (A : Wk p below m c b T) (hd : decode b pc = .ok (.i2c, 1)) (hp : pc + 1 = pc') (hv : x.toUInt32.toUInt16.toUInt32.toInt32 = v) (k : Go p e below m F T pc' ls (.int v :: rest)) : Go p e below m F T pc ls (.int x :: rest) := by
  subst hp hv
  exact k.of fun t k => XT.i2c A.1 A.2.1 rfl (hb A.2.2 hd) rfl k
theorem s_i2s {x v : Int32} (A : Wk p below m c b T) (hd : decode b pc = .ok (.i2s, 1)) (hp : pc + 1 = pc') (hv : x.toInt16.toInt32 = v) (k : Go p e below m F T pc' ls (.int v :: rest)) : Go p e below m F T pc ls (.int x :: rest) := by
  subst hp hv
  exact k.of fun t k => XT.i2s A.1 A.2.1 rfl (hb A.2.2 hd) rfl k
theorem s_lneg {x v : Int64} (A : Wk p below m c b T) (hd : decode b pc = .ok (.lneg, 1)) (hp : pc + 1 = pc') (hv : -x = v) (k : Go p e below m F T pc' ls (.long v :: rest)) : Go p e below m F T pc ls (.long x :: rest) := by
  subst hp hv
  exact k.of fun t k => XT.lneg A.1 A.2.1 rfl (hb A.2.2 hd) rfl k
theorem s_dupX1 {x y : Value} (A : Wk p below m c b T) (hd : decode b pc = .ok (.dup_x1, 1)) (hp : pc + 1 = pc') (hc : x.category = 1) (hc' : y.category = 1) (k : Go p e below m F T pc' ls (x :: y :: x :: rest)) : Go p e below m F T pc ls (x :: y :: rest) := by
  subst hp
  exact k.of fun t k => XT.dupX1 A.1 A.2.1 rfl (hb A.2.2 hd) rfl hc hc' k
theorem s_dup2 {x y : Value} (A : Wk p below m c b T) (hd : decode b pc = .ok (.dup2, 1)) (hp : pc + 1 = pc') (hc : x.category = 1) (hc' : y.category = 1) (k : Go p e below m F T pc' ls (x :: y :: x :: y :: rest)) : Go p e below m F T pc ls (x :: y :: rest) := by
  subst hp
  exact k.of fun t k => XT.dup2 A.1 A.2.1 rfl (hb A.2.2 hd) rfl hc hc' k
theorem s_i2l {x : Int32} {v : Int64} (A : Wk p below m c b T) (hd : decode b pc = .ok (.i2l, 1)) (hp : pc + 1 = pc') (hv : x.toInt64 = v) (k : Go p e below m F T pc' ls (.long v :: rest)) : Go p e below m F T pc ls (.int x :: rest) := by
  subst hp hv
  exact k.of fun t k => XT.i2l A.1 A.2.1 rfl (hb A.2.2 hd) rfl k
theorem s_l2i {x : Int64} {v : Int32} (A : Wk p below m c b T) (hd : decode b pc = .ok (.l2i, 1)) (hp : pc + 1 = pc') (hv : x.toInt32 = v) (k : Go p e below m F T pc' ls (.int v :: rest)) : Go p e below m F T pc ls (.long x :: rest) := by
  subst hp hv
  exact k.of fun t k => XT.l2i A.1 A.2.1 rfl (hb A.2.2 hd) rfl k
theorem s_ineg {x v : Int32} (A : Wk p below m c b T) (hd : decode b pc = .ok (.ineg, 1)) (hp : pc + 1 = pc') (hv : -x = v) (k : Go p e below m F T pc' ls (.int v :: rest)) : Go p e below m F T pc ls (.int x :: rest) := by
  subst hp hv
  exact k.of fun t k => XS.ineg A.1 A.2.1 rfl (hb A.2.2 hd) rfl k
theorem s_i2d {x : Int32} {v : UInt64} (A : Wk p below m c b T) (hd : decode b pc = .ok (.i2d, 1)) (hp : pc + 1 = pc') (hv : FP.i2d x = v) (k : Go p e below m F T pc' ls (.double v :: rest)) : Go p e below m F T pc ls (.int x :: rest) := by
  subst hp hv
  exact k.of fun t k => XS.i2dS A.1 A.2.1 rfl (hb A.2.2 hd) rfl rfl k
theorem s_l2d {x : Int64} {v : UInt64} (A : Wk p below m c b T) (hd : decode b pc = .ok (.l2d, 1)) (hp : pc + 1 = pc') (hv : FP.l2d x = v) (k : Go p e below m F T pc' ls (.double v :: rest)) : Go p e below m F T pc ls (.long x :: rest) := by
  subst hp hv
  exact k.of fun t k => XS.l2dS A.1 A.2.1 rfl (hb A.2.2 hd) rfl rfl k
theorem s_dneg {x v : UInt64} (A : Wk p below m c b T) (hd : decode b pc = .ok (.dneg, 1)) (hp : pc + 1 = pc') (hv : FP.dneg x = v) (k : Go p e below m F T pc' ls (.double v :: rest)) : Go p e below m F T pc ls (.double x :: rest) := by
  subst hp hv
  exact k.of fun t k => XS.dnegS A.1 A.2.1 rfl (hb A.2.2 hd) rfl rfl k
theorem s_dadd {x y v : UInt64} (A : Wk p below m c b T) (hd : decode b pc = .ok (.dadd, 1)) (hp : pc + 1 = pc') (hv : FP.dadd x y = v) (hn : Jvm.Free.Fl.NoNaN64 v) (k : Go p e below m F T pc' ls (.double v :: rest)) : Go p e below m F T pc ls (.double y :: .double x :: rest) := by
  subst hp hv
  exact k.of fun t k => XS.daddS A.1 A.2.1 rfl (hb A.2.2 hd) rfl hn rfl k
theorem s_dsub {x y v : UInt64} (A : Wk p below m c b T) (hd : decode b pc = .ok (.dsub, 1)) (hp : pc + 1 = pc') (hv : FP.dsub x y = v) (hn : Jvm.Free.Fl.NoNaN64 v) (k : Go p e below m F T pc' ls (.double v :: rest)) : Go p e below m F T pc ls (.double y :: .double x :: rest) := by
  subst hp hv
  exact k.of fun t k => XS.dsubS A.1 A.2.1 rfl (hb A.2.2 hd) rfl hn rfl k
theorem s_dmul {x y v : UInt64} (A : Wk p below m c b T) (hd : decode b pc = .ok (.dmul, 1)) (hp : pc + 1 = pc') (hv : FP.dmul x y = v) (hn : Jvm.Free.Fl.NoNaN64 v) (k : Go p e below m F T pc' ls (.double v :: rest)) : Go p e below m F T pc ls (.double y :: .double x :: rest) := by
  subst hp hv
  exact k.of fun t k => XS.dmulS A.1 A.2.1 rfl (hb A.2.2 hd) rfl hn rfl k
theorem s_ddiv {x y v : UInt64} (A : Wk p below m c b T) (hd : decode b pc = .ok (.ddiv, 1)) (hp : pc + 1 = pc') (hv : FP.ddiv x y = v) (hn : Jvm.Free.Fl.NoNaN64 v) (k : Go p e below m F T pc' ls (.double v :: rest)) : Go p e below m F T pc ls (.double y :: .double x :: rest) := by
  subst hp hv
  exact k.of fun t k => XS.ddivS A.1 A.2.1 rfl (hb A.2.2 hd) rfl hn rfl k
theorem s_dcmp {o : CmpOp} {x y : UInt64} {v : Int32} (A : Wk p below m c b T) (hd : decode b pc = .ok (.dcmp o, 1)) (hp : pc + 1 = pc') (hv : cmpValue (FP.dcmp x y) o = v) (k : Go p e below m F T pc' ls (.int v :: rest)) : Go p e below m F T pc ls (.double y :: .double x :: rest) := by
  subst hp hv
  exact k.of fun t k => XS.dcmpS A.1 A.2.1 rfl (hb A.2.2 hd) rfl rfl k
theorem s_lcmp {x y : Int64} {v : Int32} (A : Wk p below m c b T) (hd : decode b pc = .ok (.lcmp, 1)) (hp : pc + 1 = pc') (hv : XT.cmpL x y = v) (k : Go p e below m F T pc' ls (.int v :: rest)) : Go p e below m F T pc ls (.long y :: .long x :: rest) := by
  subst hp hv
  exact k.of fun t k => XT.lcmp A.1 A.2.1 rfl (hb A.2.2 hd) rfl k
theorem s_dup {x : Value} (A : Wk p below m c b T) (hd : decode b pc = .ok (.dup, 1)) (hp : pc + 1 = pc') (hc : x.category = 1) (k : Go p e below m F T pc' ls (x :: x :: rest)) : Go p e below m F T pc ls (x :: rest) := by
  subst hp
  exact k.of fun t k => XS.dup A.1 A.2.1 rfl (hb A.2.2 hd) rfl hc k
theorem s_pop {x : Value} (A : Wk p below m c b T) (hd : decode b pc = .ok (.pop, 1)) (hp : pc + 1 = pc') (hc : x.category = 1) (k : Go p e below m F T pc' ls rest) : Go p e below m F T pc ls (x :: rest) := by
  subst hp
  exact k.of fun t k => XT.pop A.1 A.2.1 rfl (hb A.2.2 hd) rfl hc k
theorem s_goto {o : Int} (A : Wk p below m c b T) (hd : decode b pc = .ok (.goto o, 3)) (ho : 0 ≤ (pc : Int) + o) (hp : ((pc : Int) + o).toNat = pc') {st : List Value} (k : Go p e below m F T pc' ls st) : Go p e below m F T pc ls st := by
  exact k.of fun t k => XS.goto A.1 A.2.1 rfl rfl (hb A.2.2 hd) ho hp k
theorem n32_lt {x y : Int32} (h : ¬ x < y) : x ≥ y := Int32.not_lt.mp h
theorem n32_le {x y : Int32} (h : ¬ x ≤ y) : x > y := Int32.not_le.mp h
theorem s_ifeq {o : Int} {pY pN : Nat} {x : Int32} (A : Wk p below m c b T) (hd : decode b pc = .ok (.ifCond .eq o, 3)) (ho : 0 ≤ (pc : Int) + o) (hY : ((pc : Int) + o).toNat = pY) (hN : pc + 3 = pN) (kY : x = 0 → Go p e below m F T pY ls rest) (kN : x ≠ 0 → Go p e below m F T pN ls rest) : Go p e below m F T pc ls (.int x :: rest) := by
  subst hN
  cases q : ifCond.holds .eq x with
  | true => exact (kY (beq_iff_eq.mp q)).of fun t k => XS.ifYes A.1 A.2.1 rfl rfl (hb A.2.2 hd) rfl q ho hY k
  | false => exact (kN (beq_eq_false_iff_ne.mp q)).of fun t k => XS.ifNo A.1 A.2.1 rfl (hb A.2.2 hd) rfl q k
theorem s_ifne {o : Int} {pY pN : Nat} {x : Int32} (A : Wk p below m c b T) (hd : decode b pc = .ok (.ifCond .ne o, 3)) (ho : 0 ≤ (pc : Int) + o) (hY : ((pc : Int) + o).toNat = pY) (hN : pc + 3 = pN) (kY : x ≠ 0 → Go p e below m F T pY ls rest) (kN : x = 0 → Go p e below m F T pN ls rest) : Go p e below m F T pc ls (.int x :: rest) := by
  subst hN
  cases q : ifCond.holds .ne x with
  | true => exact (kY (bne_iff_ne.mp q)).of fun t k => XS.ifYes A.1 A.2.1 rfl rfl (hb A.2.2 hd) rfl q ho hY k
  | false => exact (kN (bne_eq_false_iff_eq.mp q)).of fun t k => XS.ifNo A.1 A.2.1 rfl (hb A.2.2 hd) rfl q k
theorem s_iflt {o : Int} {pY pN : Nat} {x : Int32} (A : Wk p below m c b T) (hd : decode b pc = .ok (.ifCond .lt o, 3)) (ho : 0 ≤ (pc : Int) + o) (hY : ((pc : Int) + o).toNat = pY) (hN : pc + 3 = pN) (kY : x < 0 → Go p e below m F T pY ls rest) (kN : x ≥ 0 → Go p e below m F T pN ls rest) : Go p e below m F T pc ls (.int x :: rest) := by
  subst hN
  cases q : ifCond.holds .lt x with
  | true => exact (kY (of_decide_eq_true q)).of fun t k => XS.ifYes A.1 A.2.1 rfl rfl (hb A.2.2 hd) rfl q ho hY k
  | false => exact (kN (n32_lt (of_decide_eq_false q))).of fun t k => XS.ifNo A.1 A.2.1 rfl (hb A.2.2 hd) rfl q k
theorem s_ifge {o : Int} {pY pN : Nat} {x : Int32} (A : Wk p below m c b T) (hd : decode b pc = .ok (.ifCond .ge o, 3)) (ho : 0 ≤ (pc : Int) + o) (hY : ((pc : Int) + o).toNat = pY) (hN : pc + 3 = pN) (kY : x ≥ 0 → Go p e below m F T pY ls rest) (kN : x < 0 → Go p e below m F T pN ls rest) : Go p e below m F T pc ls (.int x :: rest) := by
  subst hN
  cases q : ifCond.holds .ge x with
  | true => exact (kY (of_decide_eq_true q)).of fun t k => XS.ifYes A.1 A.2.1 rfl rfl (hb A.2.2 hd) rfl q ho hY k
  | false => exact (kN (n32_le (of_decide_eq_false q))).of fun t k => XS.ifNo A.1 A.2.1 rfl (hb A.2.2 hd) rfl q k
theorem s_ifgt {o : Int} {pY pN : Nat} {x : Int32} (A : Wk p below m c b T) (hd : decode b pc = .ok (.ifCond .gt o, 3)) (ho : 0 ≤ (pc : Int) + o) (hY : ((pc : Int) + o).toNat = pY) (hN : pc + 3 = pN) (kY : x > 0 → Go p e below m F T pY ls rest) (kN : x ≤ 0 → Go p e below m F T pN ls rest) : Go p e below m F T pc ls (.int x :: rest) := by
  subst hN
  cases q : ifCond.holds .gt x with
  | true => exact (kY (of_decide_eq_true q)).of fun t k => XS.ifYes A.1 A.2.1 rfl rfl (hb A.2.2 hd) rfl q ho hY k
  | false => exact (kN (n32_lt (of_decide_eq_false q))).of fun t k => XS.ifNo A.1 A.2.1 rfl (hb A.2.2 hd) rfl q k
theorem s_ifle {o : Int} {pY pN : Nat} {x : Int32} (A : Wk p below m c b T) (hd : decode b pc = .ok (.ifCond .le o, 3)) (ho : 0 ≤ (pc : Int) + o) (hY : ((pc : Int) + o).toNat = pY) (hN : pc + 3 = pN) (kY : x ≤ 0 → Go p e below m F T pY ls rest) (kN : x > 0 → Go p e below m F T pN ls rest) : Go p e below m F T pc ls (.int x :: rest) := by
  subst hN
  cases q : ifCond.holds .le x with
  | true => exact (kY (of_decide_eq_true q)).of fun t k => XS.ifYes A.1 A.2.1 rfl rfl (hb A.2.2 hd) rfl q ho hY k
  | false => exact (kN (n32_le (of_decide_eq_false q))).of fun t k => XS.ifNo A.1 A.2.1 rfl (hb A.2.2 hd) rfl q k
theorem s_icmpeq {o : Int} {pY pN : Nat} {x y : Int32} (A : Wk p below m c b T) (hd : decode b pc = .ok (.if_icmp .eq o, 3)) (ho : 0 ≤ (pc : Int) + o) (hY : ((pc : Int) + o).toNat = pY) (hN : pc + 3 = pN) (kY : x = y → Go p e below m F T pY ls rest) (kN : x ≠ y → Go p e below m F T pN ls rest) : Go p e below m F T pc ls (.int y :: .int x :: rest) := by
  subst hN
  cases q : if_icmp.holds .eq x y with
  | true => exact (kY (beq_iff_eq.mp q)).of fun t k => XS.icmpYes A.1 A.2.1 rfl rfl (hb A.2.2 hd) rfl q ho hY k
  | false => exact (kN (beq_eq_false_iff_ne.mp q)).of fun t k => XS.icmpNo A.1 A.2.1 rfl (hb A.2.2 hd) rfl q k
theorem s_icmpne {o : Int} {pY pN : Nat} {x y : Int32} (A : Wk p below m c b T) (hd : decode b pc = .ok (.if_icmp .ne o, 3)) (ho : 0 ≤ (pc : Int) + o) (hY : ((pc : Int) + o).toNat = pY) (hN : pc + 3 = pN) (kY : x ≠ y → Go p e below m F T pY ls rest) (kN : x = y → Go p e below m F T pN ls rest) : Go p e below m F T pc ls (.int y :: .int x :: rest) := by
  subst hN
  cases q : if_icmp.holds .ne x y with
  | true => exact (kY (bne_iff_ne.mp q)).of fun t k => XS.icmpYes A.1 A.2.1 rfl rfl (hb A.2.2 hd) rfl q ho hY k
  | false => exact (kN (bne_eq_false_iff_eq.mp q)).of fun t k => XS.icmpNo A.1 A.2.1 rfl (hb A.2.2 hd) rfl q k
theorem s_icmplt {o : Int} {pY pN : Nat} {x y : Int32} (A : Wk p below m c b T) (hd : decode b pc = .ok (.if_icmp .lt o, 3)) (ho : 0 ≤ (pc : Int) + o) (hY : ((pc : Int) + o).toNat = pY) (hN : pc + 3 = pN) (kY : x < y → Go p e below m F T pY ls rest) (kN : x ≥ y → Go p e below m F T pN ls rest) : Go p e below m F T pc ls (.int y :: .int x :: rest) := by
  subst hN
  cases q : if_icmp.holds .lt x y with
  | true => exact (kY (of_decide_eq_true q)).of fun t k => XS.icmpYes A.1 A.2.1 rfl rfl (hb A.2.2 hd) rfl q ho hY k
  | false => exact (kN (n32_lt (of_decide_eq_false q))).of fun t k => XS.icmpNo A.1 A.2.1 rfl (hb A.2.2 hd) rfl q k
theorem s_icmpge {o : Int} {pY pN : Nat} {x y : Int32} (A : Wk p below m c b T) (hd : decode b pc = .ok (.if_icmp .ge o, 3)) (ho : 0 ≤ (pc : Int) + o) (hY : ((pc : Int) + o).toNat = pY) (hN : pc + 3 = pN) (kY : x ≥ y → Go p e below m F T pY ls rest) (kN : x < y → Go p e below m F T pN ls rest) : Go p e below m F T pc ls (.int y :: .int x :: rest) := by
  subst hN
  cases q : if_icmp.holds .ge x y with
  | true => exact (kY (of_decide_eq_true q)).of fun t k => XS.icmpYes A.1 A.2.1 rfl rfl (hb A.2.2 hd) rfl q ho hY k
  | false => exact (kN (n32_le (of_decide_eq_false q))).of fun t k => XS.icmpNo A.1 A.2.1 rfl (hb A.2.2 hd) rfl q k
theorem s_icmpgt {o : Int} {pY pN : Nat} {x y : Int32} (A : Wk p below m c b T) (hd : decode b pc = .ok (.if_icmp .gt o, 3)) (ho : 0 ≤ (pc : Int) + o) (hY : ((pc : Int) + o).toNat = pY) (hN : pc + 3 = pN) (kY : x > y → Go p e below m F T pY ls rest) (kN : x ≤ y → Go p e below m F T pN ls rest) : Go p e below m F T pc ls (.int y :: .int x :: rest) := by
  subst hN
  cases q : if_icmp.holds .gt x y with
  | true => exact (kY (of_decide_eq_true q)).of fun t k => XS.icmpYes A.1 A.2.1 rfl rfl (hb A.2.2 hd) rfl q ho hY k
  | false => exact (kN (n32_lt (of_decide_eq_false q))).of fun t k => XS.icmpNo A.1 A.2.1 rfl (hb A.2.2 hd) rfl q k
theorem s_icmple {o : Int} {pY pN : Nat} {x y : Int32} (A : Wk p below m c b T) (hd : decode b pc = .ok (.if_icmp .le o, 3)) (ho : 0 ≤ (pc : Int) + o) (hY : ((pc : Int) + o).toNat = pY) (hN : pc + 3 = pN) (kY : x ≤ y → Go p e below m F T pY ls rest) (kN : x > y → Go p e below m F T pN ls rest) : Go p e below m F T pc ls (.int y :: .int x :: rest) := by
  subst hN
  cases q : if_icmp.holds .le x y with
  | true => exact (kY (of_decide_eq_true q)).of fun t k => XS.icmpYes A.1 A.2.1 rfl rfl (hb A.2.2 hd) rfl q ho hY k
  | false => exact (kN (n32_le (of_decide_eq_false q))).of fun t k => XS.icmpNo A.1 A.2.1 rfl (hb A.2.2 hd) rfl q k
theorem s_nonnullY {o : Int} {a : Addr} (A : Wk p below m c b T) (hd : decode b pc = .ok (.ifnonnull o, 3)) (ho : 0 ≤ (pc : Int) + o) (hp : ((pc : Int) + o).toNat = pc') (k : Go p e below m F T pc' ls rest) : Go p e below m F T pc ls (.ref a :: rest) := by
  exact k.of fun t k => XT.ifnonnullYes A.1 A.2.1 rfl rfl (hb A.2.2 hd) rfl ho hp k
theorem s_acmpeq {o : Int} {pY pN : Nat} {x y : Value} (A : Wk p below m c b T) (hx' : x.isRef = true) (hy' : y.isRef = true) (hd : decode b pc = .ok (.if_acmp .eq o, 3)) (ho : 0 ≤ (pc : Int) + o) (hY : ((pc : Int) + o).toNat = pY) (hN : pc + 3 = pN) (kY : x = y → Go p e below m F T pY ls rest) (kN : x ≠ y → Go p e below m F T pN ls rest) : Go p e below m F T pc ls (y :: x :: rest) := by
  subst hN
  by_cases q : x = y
  · exact (kY q).of fun t k => XT.acmpYes A.1 A.2.1 rfl rfl (hb A.2.2 hd) rfl hx' hy' (decide_eq_true q) ho hY k
  · exact (kN q).of fun t k => XT.acmpNo A.1 A.2.1 rfl (hb A.2.2 hd) rfl hx' hy' (decide_eq_false q) k
theorem s_acmpne {o : Int} {pY pN : Nat} {x y : Value} (A : Wk p below m c b T) (hx' : x.isRef = true) (hy' : y.isRef = true) (hd : decode b pc = .ok (.if_acmp .ne o, 3)) (ho : 0 ≤ (pc : Int) + o) (hY : ((pc : Int) + o).toNat = pY) (hN : pc + 3 = pN) (kY : x ≠ y → Go p e below m F T pY ls rest) (kN : x = y → Go p e below m F T pN ls rest) : Go p e below m F T pc ls (y :: x :: rest) := by
  subst hN
  by_cases q : x = y
  · exact (kN q).of fun t k => XT.acmpNo A.1 A.2.1 rfl (hb A.2.2 hd) rfl hx' hy' (decide_eq_false (fun r => r q)) k
  · exact (kY q).of fun t k => XT.acmpYes A.1 A.2.1 rfl rfl (hb A.2.2 hd) rfl hx' hy' (decide_eq_true q) ho hY k
theorem s_tsw {dflt low high : Int} {offs : Array Int} {len : Nat} {o : Int} {i : Int32} (A : Wk p below m c b T) (hd : decode b pc = .ok (.tableswitch dflt low high offs, len)) (hin : ¬ (i.toInt < low ∨ i.toInt > high)) (hoff : offs[(i.toInt - low).toNat]? = some o) (ho : 0 ≤ (pc : Int) + o) (hp : ((pc : Int) + o).toNat = pc') (k : Go p e below m F T pc' ls rest) : Go p e below m F T pc ls (.int i :: rest) := by
  exact k.of fun t k => XS.tswIn A.1 A.2.1 rfl rfl (hb A.2.2 hd) rfl hin hoff ho hp k
end Plain
section Heap
variable {p : Program} {l : Launch} {e : Env} {R : Room} {s : State} {m : MethodId} {args : Array Value} {below : List Frame} {meth : Method} {c : Code} {T : State} {locs : List Loc} {cells slots : Nat} {Z : State} {a0 : Array Value} {h : Heap} {b : ByteArray} {F : Outcome → State → Prop} {pc pc' : Nat} {ls : Array Slot} {rest : List Value}
theorem g_ldcI (X : Stand p l e R s m args below meth c T locs cells slots) (hx : p.tables.exec = Jvm.exec) (hZ : Z.Warmed39 s.vm) {own : String} {i : Nat} {v : Int32} (hown : s.vm.findClass own = some m.cls) (w : (Cond.constant own i v).before a0 Z = true) (hd : decode c.code pc = .ok (.ldc i, 2)) (hp : pc + 2 = pc') (k : Go p e below m F T pc' ls (.int v :: rest)) : Go p e below m F T pc ls rest := by
  subst hp
  exact k.of fun t k => X.ldcInt hx hown (mvT hZ w) (g := mkF m pc ls rest) rfl hd t k
theorem g_ldcwI (X : Stand p l e R s m args below meth c T locs cells slots) (hx : p.tables.exec = Jvm.exec) (hZ : Z.Warmed39 s.vm) {own : String} {i : Nat} {v : Int32} (hown : s.vm.findClass own = some m.cls) (w : (Cond.constant own i v).before a0 Z = true) (hd : decode c.code pc = .ok (.ldc_w i, 3)) (hp : pc + 3 = pc') (k : Go p e below m F T pc' ls (.int v :: rest)) : Go p e below m F T pc ls rest := by
  subst hp
  exact k.of fun t k => X.ldcwInt hx hown (mvT hZ w) (g := mkF m pc ls rest) rfl hd t k
theorem g_ldcJ (X : Stand p l e R s m args below meth c T locs cells slots) (hx : p.tables.exec = Jvm.exec) (hZ : Z.Warmed39 s.vm) {own : String} {i : Nat} {v : Int64} (hown : s.vm.findClass own = some m.cls) (w : (Cond.constantLong own i v).before a0 Z = true) (hd : decode c.code pc = .ok (.ldc2_w i, 3)) (hp : pc + 3 = pc') (k : Go p e below m F T pc' ls (.long v :: rest)) : Go p e below m F T pc ls rest := by
  subst hp
  exact k.of fun t k => X.ldc2Long hx hown (mvT hZ w) (g := mkF m pc ls rest) rfl hd t k
theorem g_ldcD (X : Stand p l e R s m args below meth c T locs cells slots) (hx : p.tables.exec = Jvm.exec) (hZ : Z.Warmed39 s.vm) {own : String} {i : Nat} {v : UInt64} (hown : s.vm.findClass own = some m.cls) (w : (Cond.constantDouble own i v).before a0 Z = true) (hd : decode c.code pc = .ok (.ldc2_w i, 3)) (hp : pc + 3 = pc') (k : Go p e below m F T pc' ls (.double v :: rest)) : Go p e below m F T pc ls rest := by
  subst hp
  exact k.of fun t k => X.ldc2DoubleC hx hown (mvT hZ w) (g := mkF m pc ls rest) rfl hd t k
theorem g_getF (X : Stand p l e R s m args below meth c T locs cells slots) (hx : p.tables.exec = Jvm.exec) (hZ : Z.Warmed39 s.vm) {own R0 O n d : String} {i : Nat} (hown : s.vm.findClass own = some m.cls) (w : (Cond.fieldLink own i R0 n d).before a0 Z = true) (via : Via Z R0 O n d) (eT : T.heap = h) {a : Addr} {v : Value} (F0 : Fld Z h a O n d v) (hd : decode c.code pc = .ok (.getfield i, 3)) (hp : pc + 3 = pc') (k : ∀ T', Stand p l e R s m args below meth c T' locs cells slots → T'.heap = h → Go p e below m F T' pc' ls (v :: rest)) : Go p e below m F T pc ls (.ref a :: rest) := by
  subst hp
  obtain ⟨T', X', e', st⟩ := getF X hx hZ hown (host := "") (Or.inl w) via eT F0 (g := mkF m pc ls (.ref a :: rest)) rfl rfl hd
  exact (k T' X' e').of st
theorem g_getFN (X : Stand p l e R s m args below meth c T locs cells slots) (hx : p.tables.exec = Jvm.exec) (hZ : Z.Warmed39 s.vm) {own R0 O n d host : String} {i : Nat} (hown : s.vm.findClass own = some m.cls) (w : (Cond.fieldLinkNest own i R0 n d host).before a0 Z = true) (via : Via Z R0 O n d) (eT : T.heap = h) {a : Addr} {v : Value} (F0 : Fld Z h a O n d v) (hd : decode c.code pc = .ok (.getfield i, 3)) (hp : pc + 3 = pc') (k : ∀ T', Stand p l e R s m args below meth c T' locs cells slots → T'.heap = h → Go p e below m F T' pc' ls (v :: rest)) : Go p e below m F T pc ls (.ref a :: rest) := by
  subst hp
  obtain ⟨T', X', e', st⟩ := getF X hx hZ hown (host := host) (Or.inr w) via eT F0 (g := mkF m pc ls (.ref a :: rest)) rfl rfl hd
  exact (k T' X' e').of st
theorem g_putF (X : Stand p l e R s m args below meth c T locs cells slots) (hx : p.tables.exec = Jvm.exec) (hZ : Z.Warmed39 s.vm) {own R0 O n d C : String} {i kk : Nat} {ty : FieldType} (hown : s.vm.findClass own = some m.cls) (w : (Cond.fieldLink own i R0 n d).before a0 Z = true) (via : Via Z R0 O n d) (eT : T.heap = h) {a : Addr} {v old : Value} (F0 : Fld Z h a O n d old) (E : Exa Z h a C) (L : (Cond.lays C O n d).before a0 Z = true ∨ ((Cond.laysFinal C O n d).before a0 Z = true ∧ own = O ∧ meth.name = "<init>")) (wi : (Cond.instantiable C kk).before a0 Z = true) (hty : parseFieldDescriptor d = some ty) (hn : narrow ty v = v) (hf : fits ty v = true) (hd : decode c.code pc = .ok (.putfield i, 3)) (hp : pc + 3 = pc') (k : ∀ T' h', Stand p l e R s m args below meth c T' (locs ++ [⟨a, RoadKit.slotOf Z O n d⟩]) cells slots → T'.heap = h' → Wr h h' a (RoadKit.slotOf Z O n d) v → Go p e below m F T' pc' ls rest) : Go p e below m F T pc ls (v :: .ref a :: rest) := by
  subst hp
  obtain ⟨T', h', X', e', W', st⟩ := putF X hx hZ hown (host := "") (Or.inl w) via eT F0 E L wi hty hn hf (g := mkF m pc ls (v :: .ref a :: rest)) rfl rfl hd
  exact (k T' h' X' e' W').of st
theorem g_getS (X : Stand p l e R s m args below meth c T locs cells slots) (hx : p.tables.exec = Jvm.exec) (hZ : Z.Warmed39 s.vm) {own R0 O n d : String} {i : Nat} (hown : s.vm.findClass own = some m.cls) (w : (Cond.fieldLink own i R0 n d).before a0 Z = true) (via : Via Z R0 O n d) (eT : T.heap = h) {v : Value} (F0 : Sta Z h O n d v) (hd : decode c.code pc = .ok (.getstatic i, 3)) (hp : pc + 3 = pc') (k : ∀ T', Stand p l e R s m args below meth c T' locs cells slots → T'.heap = h → Go p e below m F T' pc' ls (v :: rest)) : Go p e below m F T pc ls rest := by
  subst hp
  obtain ⟨T', X', e', st⟩ := getS X hx hZ hown (host := "") w via eT F0 (g := mkF m pc ls rest) rfl hd
  exact (k T' X' e').of st
theorem g_new (X : Stand p l e R s m args below meth c T locs cells slots) (hx : p.tables.exec = Jvm.exec) (hZ : Z.Warmed39 s.vm) {own C : String} {i n : Nat} (hown : s.vm.findClass own = some m.cls) (w : (Cond.classLink own i C).before a0 Z = true) (wi : (Cond.instantiable C n).before a0 Z = true) (wz : (Cond.initialized C).before a0 Z = true) (eT : T.heap = h) (hd : decode c.code pc = .ok (.new i, 3)) (hp : pc + 3 = pc') (hc : cells + 1 ≤ R.cells) (hl : slots + n ≤ R.slots) (k : ∀ T' h' a, Stand p l e R s m args below meth c T' locs (cells + 1) (slots + n) → T'.heap = h' → Ext h h' → a = h.size → Exa Z h' a C → (∀ {O nm d : String} {ty : FieldType}, Laid Z a0 C O nm d → parseFieldDescriptor d = some ty → Fld Z h' a O nm d (defaultValue ty)) → Go p e below m F T' pc' ls (.ref a :: rest)) : Go p e below m F T pc ls rest := by
  subst hp
  obtain ⟨T', h', X', e', E', A', D', -, st⟩ := newO X hx hZ hown w wi wz eT (g := mkF m pc ls rest) rfl hd hc hl
  exact (k T' h' _ X' e' E' rfl A' D').of st
theorem g_initO (X : Stand p l e R s m args below meth c T locs cells slots) (hx : p.tables.exec = Jvm.exec) (hZ : Z.Warmed39 s.vm) {own : String} {i : Nat} (hown : s.vm.findClass own = some m.cls) (w1 : (Cond.methodLink own i Lib.objectInit).before a0 Z = true) (w2 : (Cond.instanceMethod Lib.objectInit).before a0 Z = true) (w3 : (Cond.code Lib.objectInit ⟨#[0xb1]⟩ 1 none).before a0 Z = true) (eT : T.heap = h) (hsize : ls.size = c.maxLocals) {a : Addr} (hd : decode c.code pc = .ok (.invokespecial i, 3)) (hp : pc + 3 = pc') (hf : 1 ≤ R.frames) {W : Nat} (hW : 2 * 0 + (rest.map fun v => v.category).sum ≤ W) (hl : W + 12 ≤ R.locals) (k : ∀ T', Stand p l e R s m args below meth c T' locs cells slots → T'.heap = h → Go p e below m F T' pc' ls rest) : Go p e below m F T pc ls (.ref a :: rest) := by
  subst hp
  obtain ⟨T', X', e', st⟩ := initO X hx hZ hown w1 w2 w3 eT (g := mkF m pc ls (.ref a :: rest)) rfl hsize rfl hd hf hW hl
  exact (k T' X' e').of st
theorem g_static (X : Stand p l e R s m args below meth c T locs cells slots) (hx : p.tables.exec = Jvm.exec) (hZ : Z.Warmed39 s.vm) {own : String} {i : Nat} {y : MethodName} {bytes : ByteArray} {maxL : Nat} {ret : Option FieldType} {rm : Room} {Q : Option Value → Heap → List Loc → Prop} (hown : s.vm.findClass own = some m.cls) (w1 : (Cond.methodLink own i y).before a0 Z = true) (w2 : (Cond.static y).before a0 Z = true) (w3 : (Cond.initialized y.cls).before a0 Z = true) (w4 : (Cond.code y bytes maxL ret).before a0 Z = true) (hy : y.cls ≠ "java/lang/invoke/MethodHandle" ∧ y.cls ≠ "java/lang/invoke/VarHandle")
    {argsL st : List Value} {ps : List FieldType} {rt : Option FieldType} (hM : Ctr l Z y bytes maxL ret [] rm argsL.toArray h Q) (hpd : parseMethodDescriptor y.desc = some ⟨ps, rt⟩) (hlen : argsL.length = ps.length) (hst : st = argsL.reverse ++ rest) (hd : decode c.code pc = .ok (.invokestatic i, 3)) (eT : T.heap = h) (hsize : ls.size = c.maxLocals) (hp : pc + 3 = pc') (hf : rm.frames + 1 ≤ R.frames) {W : Nat} (hW : 2 * 0 + (rest.map fun v => v.category).sum ≤ W) (hl : W + (maxL + 11) + rm.locals ≤ R.locals) (hc : cells + rm.cells ≤ R.cells) (hs : slots + rm.slots ≤ R.slots)
    (k : ∀ v T' L, Stand p l e R s m args below meth c T' (locs ++ L) (cells + rm.cells) (slots + rm.slots) → Q v T'.heap L → Go p e below m F T' pc' ls (v.toList ++ rest)) : Go p e below m F T pc ls st := by
  subst hp hst
  obtain ⟨v, _, ⟨T', L', k', n'⟩, -, X', ⟨L, hQ, l1, l2, l3⟩, stp⟩ := Jvm.LawKit.callS X hx (y := y) hown (mvT hZ w1) (mvT hZ w2) (mvT hZ w3) (mvT hZ w4) hy (backOf (W := W) hM hZ w4 w3 hf hl) (g := mkF m pc ls (argsL.reverse ++ rest)) rfl hsize (argsL := argsL) (rest := rest) (lenOf hpd hlen) rfl hW hd (fun _ _ => ⟨rfl, eT, hc, hs⟩)
  dsimp only [Pt.U, Pt.locs, Pt.cells, Pt.slots] at X' l1 l2 l3 stp hQ
  subst l1 l2 l3
  exact (k v T' L X' hQ).of stp
theorem g_special (X : Stand p l e R s m args below meth c T locs cells slots) (hx : p.tables.exec = Jvm.exec) (hZ : Z.Warmed39 s.vm) {own : String} {i : Nat} {y : MethodName} {bytes : ByteArray} {maxL : Nat} {rm : Room} {Q : Option Value → Heap → List Loc → Prop} (hy1 : y.name = "<init>") (hown : s.vm.findClass own = some m.cls) (w1 : (Cond.methodLink own i y).before a0 Z = true) (w2 : (Cond.instanceMethod y).before a0 Z = true) (w3 : (Cond.initialized y.cls).before a0 Z = true) (w4 : (Cond.code y bytes maxL none).before a0 Z = true) (hy : y.cls ≠ "java/lang/invoke/MethodHandle" ∧ y.cls ≠ "java/lang/invoke/VarHandle")
    {a : Addr} {argsL st : List Value} {ps : List FieldType} {rt : Option FieldType} (hM : Ctr l Z y bytes maxL none [] rm (.ref a :: argsL).toArray h Q) (hpd : parseMethodDescriptor y.desc = some ⟨ps, rt⟩) (hlen : argsL.length = ps.length) (hst : st = argsL.reverse ++ .ref a :: rest) (hd : decode c.code pc = .ok (.invokespecial i, 3)) (eT : T.heap = h) (hsize : ls.size = c.maxLocals) (hp : pc + 3 = pc') (hf : rm.frames + 1 ≤ R.frames) {W : Nat} (hW : 2 * 0 + (rest.map fun v => v.category).sum ≤ W) (hl : W + (maxL + 11) + rm.locals ≤ R.locals) (hc : cells + rm.cells ≤ R.cells) (hs : slots + rm.slots ≤ R.slots)
    (k : ∀ v T' L, Stand p l e R s m args below meth c T' (locs ++ L) (cells + rm.cells) (slots + rm.slots) → Q v T'.heap L → Go p e below m F T' pc' ls (v.toList ++ rest)) : Go p e below m F T pc ls st := by
  subst hp hst
  obtain ⟨v, _, ⟨T', L', k', n'⟩, -, X', ⟨L, hQ, l1, l2, l3⟩, stp⟩ := X.specialBack hx (y := y) hy1 hown (mvT hZ w1) (mvT hZ w2) (mvT hZ w4) hy (backOf (W := W) hM hZ w4 w3 hf hl) (g := mkF m pc ls (argsL.reverse ++ .ref a :: rest)) rfl hsize (Steps.refl _) (a := a) (argsL := argsL) (rest := rest) (lenOf hpd hlen) rfl hW hd (fun _ _ => ⟨rfl, eT, hc, hs⟩)
  dsimp only [Pt.U, Pt.locs, Pt.cells, Pt.slots] at X' l1 l2 l3 stp hQ
  subst l1 l2 l3
  exact (k v T' L X' hQ).of fun t q => stp.trans q
theorem g_virtual (X : Stand p l e R s m args below meth c T locs cells slots) (hx : p.tables.exec = Jvm.exec) (hZ : Z.Warmed39 s.vm) {own C : String} {i : Nat} {y : MethodName} {bytes : ByteArray} {maxL : Nat} {ret : Option FieldType} {rm : Room} {Q : Option Value → Heap → List Loc → Prop} (hown : s.vm.findClass own = some m.cls) (w1 : (Cond.methodLink own i y).before a0 Z = true) (w2 : (Cond.declares y).before a0 Z = true) (w5 : (Cond.selects C y y).before a0 Z = true) (w6 : (Cond.instanceMethod y).before a0 Z = true) (w3 : (Cond.initialized y.cls).before a0 Z = true) (w4 : (Cond.code y bytes maxL ret).before a0 Z = true) (hy : y.cls ≠ "java/lang/invoke/MethodHandle" ∧ y.cls ≠ "java/lang/invoke/VarHandle")
    {a : Addr} (Ea : Exa Z h a C) {argsL st : List Value} {ps : List FieldType} {rt : Option FieldType} (hM : Ctr l Z y bytes maxL ret [] rm (.ref a :: argsL).toArray h Q) (hpd : parseMethodDescriptor y.desc = some ⟨ps, rt⟩) (hlen : argsL.length = ps.length) (hst : st = argsL.reverse ++ .ref a :: rest) (hd : decode c.code pc = .ok (.invokevirtual i, 3)) (eT : T.heap = h) (hsize : ls.size = c.maxLocals) (hp : pc + 3 = pc') (hf : rm.frames + 1 ≤ R.frames) {W : Nat} (hW : 2 * 0 + (rest.map fun v => v.category).sum ≤ W) (hl : W + (maxL + 11) + rm.locals ≤ R.locals) (hc : cells + rm.cells ≤ R.cells) (hs : slots + rm.slots ≤ R.slots)
    (k : ∀ v T' L, Stand p l e R s m args below meth c T' (locs ++ L) (cells + rm.cells) (slots + rm.slots) → Q v T'.heap L → Go p e below m F T' pc' ls (v.toList ++ rest)) : Go p e below m F T pc ls st := by
  subst hp hst
  obtain ⟨cq, kq, qa, qb, qc⟩ := isOf hZ eT Ea
  obtain ⟨v, _, ⟨T', L', k', n'⟩, -, X', ⟨L, hQ, l1, l2, l3⟩, stp⟩ := X.virtualBack hx (y := y) (z := y) hown (mvT hZ w1) (mvT hZ w2) (notFace_of_selects (args := #[]) (mvT hZ w5)) (mvT hZ w5) (mvT hZ w6) hy (backOf (W := W) hM hZ w4 w3 hf hl) qa qc (g := mkF m pc ls (argsL.reverse ++ .ref a :: rest)) rfl hsize (Steps.refl _) (argsL := argsL) (rest := rest) (lenOf hpd hlen) rfl hW hd (fun _ _ => ⟨rfl, eT, hc, hs⟩)
  dsimp only [Pt.U, Pt.locs, Pt.cells, Pt.slots] at X' l1 l2 l3 stp hQ
  subst l1 l2 l3
  exact (k v T' L X' hQ).of fun t q => stp.trans q
theorem g_virtualUp (X : Stand p l e R s m args below meth c T locs cells slots) (hx : p.tables.exec = Jvm.exec) (hZ : Z.Warmed39 s.vm) {own C owner : String} {i : Nat} {x y : MethodName} {bytes : ByteArray} {maxL : Nat} {ret : Option FieldType} {rm : Room} {Q : Option Value → Heap → List Loc → Prop} (hown : s.vm.findClass own = some m.cls) (w1 : (Cond.methodLink own i x).before a0 Z = true) (w7 : (Cond.sameMethod x.cls owner x.name x.desc).before a0 Z = true) (w2 : (Cond.declares ⟨owner, x.name, x.desc⟩).before a0 Z = true) (ho : owner ≠ "java/lang/invoke/MethodHandle" ∧ owner ≠ "java/lang/invoke/VarHandle") (w5 : (Cond.selects C x y).before a0 Z = true) (w6 : (Cond.instanceMethod y).before a0 Z = true) (w3 : (Cond.initialized y.cls).before a0 Z = true) (w4 : (Cond.code y bytes maxL ret).before a0 Z = true)
    {a : Addr} (Ea : Exa Z h a C) {argsL st : List Value} {ps : List FieldType} {rt : Option FieldType} (hM : Ctr l Z y bytes maxL ret [] rm (.ref a :: argsL).toArray h Q) (hpd : parseMethodDescriptor x.desc = some ⟨ps, rt⟩) (hlen : argsL.length = ps.length) (hst : st = argsL.reverse ++ .ref a :: rest) (hd : decode c.code pc = .ok (.invokevirtual i, 3)) (eT : T.heap = h) (hsize : ls.size = c.maxLocals) (hp : pc + 3 = pc') (hf : rm.frames + 1 ≤ R.frames) {W : Nat} (hW : 2 * 0 + (rest.map fun v => v.category).sum ≤ W) (hl : W + (maxL + 11) + rm.locals ≤ R.locals) (hc : cells + rm.cells ≤ R.cells) (hs : slots + rm.slots ≤ R.slots)
    (k : ∀ v T' L, Stand p l e R s m args below meth c T' (locs ++ L) (cells + rm.cells) (slots + rm.slots) → Q v T'.heap L → Go p e below m F T' pc' ls (v.toList ++ rest)) : Go p e below m F T pc ls st := by
  subst hp hst
  obtain ⟨cq, kq, qa, qb, qc⟩ := isOf hZ eT Ea
  obtain ⟨v, _, ⟨T', L', k', n'⟩, -, X', ⟨L, hQ, l1, l2, l3⟩, stp⟩ := X.virtualBackUp hx (x := x) (y := y) (owner := owner) hown (mvT hZ w1) (mvT hZ w7) (mvT hZ w2) ho (mvT hZ w5) (mvT hZ w6) (backOf (W := W) hM hZ w4 w3 hf hl) qa qc (g := mkF m pc ls (argsL.reverse ++ .ref a :: rest)) rfl hsize (Steps.refl _) (argsL := argsL) (rest := rest) (lenOf hpd hlen) rfl hW hd (fun _ _ => ⟨rfl, eT, hc, hs⟩)
  dsimp only [Pt.U, Pt.locs, Pt.cells, Pt.slots] at X' l1 l2 l3 stp hQ
  subst l1 l2 l3
  exact (k v T' L X' hQ).of fun t q => stp.trans q
theorem g_retV (X : Stand p l e R s m args below meth c T locs cells slots) (hx : p.tables.exec = Jvm.exec) {Q : Option Value → Heap → List Loc → Prop} {rc rs : Nat} (hlk : meth.locks = false) (hret : meth.sig.returnType = none) (hd : decode c.code pc = .ok (.return_, 1)) (hQ : Q none T.heap locs) (hc : cells ≤ rc) (hs : slots ≤ rs) : Go p e below m (Fini s rc rs Q) T pc ls [] := by
  obtain ⟨fs, hr, hrun, hended, hW, hsame⟩ := X.leave (v := none) (fun _ => rfl)
  exact ⟨_, _, X.returnOut hx hret hd hr, hrun, hended, _, _, rfl, hQ, ⟨_, rfl⟩, hW, hsame.mono hc hs⟩
theorem g_ret (X : Stand p l e R s m args below meth c T locs cells slots) (hx : p.tables.exec = Jvm.exec) {Q : Option Value → Heap → List Loc → Prop} {rc rs : Nat} (hlk : meth.locks = false) {t : FieldType} {w : Value} {i : Instr} (hret : meth.sig.returnType = some t) (hn : narrow t w = w)
    (hi : (i = .ireturn ∧ (t = .int ∨ t = .boolean ∨ t = .byte ∨ t = .char ∨ t = .short) ∧ ∃ z, w = .int z) ∨ (i = .lreturn ∧ t = .long ∧ ∃ z, w = .long z) ∨ (i = .dreturn ∧ t = .double ∧ ∃ z, w = .double z) ∨ (i = .freturn ∧ t = .float ∧ ∃ z, w = .float z) ∨ (i = .areturn ∧ t.isReference = true ∧ w.isRef = true))
    (hd : decode c.code pc = .ok (i, 1)) (hQ : Q (some w) T.heap locs) (hc : cells ≤ rc) (hs : slots ≤ rs) : Go p e below m (Fini s rc rs Q) T pc ls (w :: rest) := by
  obtain ⟨fs, hr, hrun, hended, hW, hsame⟩ := X.leave (v := some w) (fun h => by rw [hret] at h; cases h)
  exact ⟨_, _, retOut X hx hret hn hi hd hr, hrun, hended, _, _, rfl, hQ, ⟨_, rfl⟩, hW, hsame.mono hc hs⟩
theorem g_retZ (X : Stand p l e R s m args below meth c T locs cells slots) (hx : p.tables.exec = Jvm.exec) {Q : Option Value → Heap → List Loc → Prop} {rc rs : Nat} (hlk : meth.locks = false) {z : Int32} (hret : meth.sig.returnType = some .boolean) (hz : z = 0 ∨ z = 1) (hd : decode c.code pc = .ok (.ireturn, 1)) (hQ : Q (some (.int z)) T.heap locs) (hc : cells ≤ rc) (hs : slots ≤ rs) : Go p e below m (Fini s rc rs Q) T pc ls (.int z :: rest) :=
  g_ret X hx hlk hret (by rcases hz with rfl | rfl <;> rfl) (Or.inl ⟨rfl, Or.inr (Or.inl rfl), _, rfl⟩) hd hQ hc hs
theorem g_retI (X : Stand p l e R s m args below meth c T locs cells slots) (hx : p.tables.exec = Jvm.exec) {Q : Option Value → Heap → List Loc → Prop} {rc rs : Nat} (hlk : meth.locks = false) {z : Int32} (hret : meth.sig.returnType = some .int) (hd : decode c.code pc = .ok (.ireturn, 1)) (hQ : Q (some (.int z)) T.heap locs) (hc : cells ≤ rc) (hs : slots ≤ rs) : Go p e below m (Fini s rc rs Q) T pc ls (.int z :: rest) :=
  g_ret X hx hlk hret rfl (Or.inl ⟨rfl, Or.inl rfl, _, rfl⟩) hd hQ hc hs
theorem g_retJ (X : Stand p l e R s m args below meth c T locs cells slots) (hx : p.tables.exec = Jvm.exec) {Q : Option Value → Heap → List Loc → Prop} {rc rs : Nat} (hlk : meth.locks = false) {z : Int64} (hret : meth.sig.returnType = some .long) (hd : decode c.code pc = .ok (.lreturn, 1)) (hQ : Q (some (.long z)) T.heap locs) (hc : cells ≤ rc) (hs : slots ≤ rs) : Go p e below m (Fini s rc rs Q) T pc ls (.long z :: rest) :=
  g_ret X hx hlk hret rfl (Or.inr (Or.inl ⟨rfl, rfl, _, rfl⟩)) hd hQ hc hs
theorem g_retD (X : Stand p l e R s m args below meth c T locs cells slots) (hx : p.tables.exec = Jvm.exec) {Q : Option Value → Heap → List Loc → Prop} {rc rs : Nat} (hlk : meth.locks = false) {z : UInt64} (hret : meth.sig.returnType = some .double) (hd : decode c.code pc = .ok (.dreturn, 1)) (hQ : Q (some (.double z)) T.heap locs) (hc : cells ≤ rc) (hs : slots ≤ rs) : Go p e below m (Fini s rc rs Q) T pc ls (.double z :: rest) :=
  g_ret X hx hlk hret rfl (Or.inr (Or.inr (Or.inl ⟨rfl, rfl, _, rfl⟩))) hd hQ hc hs
theorem g_retA (X : Stand p l e R s m args below meth c T locs cells slots) (hx : p.tables.exec = Jvm.exec) {Q : Option Value → Heap → List Loc → Prop} {rc rs : Nat} (hlk : meth.locks = false) {t : FieldType} {w : Value} (hret : meth.sig.returnType = some t) (ht : t.isReference = true) (hw : w.isRef = true) (hn : narrow t w = w) (hd : decode c.code pc = .ok (.areturn, 1)) (hQ : Q (some w) T.heap locs) (hc : cells ≤ rc) (hs : slots ≤ rs) : Go p e below m (Fini s rc rs Q) T pc ls (w :: rest) :=
  g_ret X hx hlk hret hn (Or.inr (Or.inr (Or.inr (Or.inr ⟨rfl, ht, hw⟩)))) hd hQ hc hs
end Heap
end Jvm.Own
namespace Jvm.Own
open Sem ClassFile Op Lib Jvm.Free
/-! comparisons as whole numbers -/
def cmpI (n m : Int) : Int32 := if n < m then -1 else if n = m then 0 else 1
theorem cmpI_eq {n m : Int} (h : cmpI n m = 0) : n = m := by
  unfold cmpI at h
  by_cases a : n < m
  · rw [if_pos a] at h; exact absurd h (by decide)
  · by_cases b : n = m
    · exact b
    · rw [if_neg a, if_neg b] at h; exact absurd h (by decide)
theorem cmpI_ne {n m : Int} (h : cmpI n m ≠ 0) : n ≠ m := by
  intro b; subst b; exact h (by unfold cmpI; rw [if_neg (by omega), if_pos rfl])
theorem cmpI_lt {n m : Int} (h : cmpI n m < 0) : n < m := by
  unfold cmpI at h
  by_cases a : n < m
  · exact a
  · by_cases b : n = m
    · rw [if_neg a, if_pos b] at h; exact absurd h (by decide)
    · rw [if_neg a, if_neg b] at h; exact absurd h (by decide)
theorem cmpI_ge {n m : Int} (h : cmpI n m ≥ 0) : m ≤ n := by
  by_cases a : n < m
  · unfold cmpI at h; rw [if_pos a] at h; exact absurd h (by decide)
  · omega
theorem cmpI_gt {n m : Int} (h : cmpI n m > 0) : m < n := by
  by_cases a : n < m
  · unfold cmpI at h; rw [if_pos a] at h; exact absurd h (by decide)
  · by_cases b : n = m
    · unfold cmpI at h; rw [if_neg a, if_pos b] at h; exact absurd h (by decide)
    · omega
theorem cmpI_le {n m : Int} (h : cmpI n m ≤ 0) : n ≤ m := by
  by_cases a : n < m
  · omega
  · by_cases b : n = m
    · omega
    · unfold cmpI at h; rw [if_neg a, if_neg b] at h; exact absurd h (by decide)
theorem cmpI_some (n m : Int) (o : CmpOp) : cmpValue (some (compare n m)) o = cmpI n m := by
  unfold cmpI
  rw [Jvm.FP.Core.compare_ite]
  by_cases a : n < m
  · rw [if_pos a, if_pos a]; cases o <;> rfl
  · by_cases b : n = m
    · rw [if_neg a, if_pos b, if_neg a, if_pos b]; cases o <;> rfl
    · rw [if_neg a, if_neg b, if_neg a, if_neg b]; cases o <;> rfl
theorem cmpL_I (x y : Int64) : XT.cmpL x y = cmpI x.toInt y.toInt := by
  unfold XT.cmpL cmpI
  by_cases a : y < x
  · have a' := Int64.lt_iff_toInt_lt.mp a
    rw [if_pos a, if_neg (by omega), if_neg (by omega)]
  · have a' : ¬ y.toInt < x.toInt := fun q => a (Int64.lt_iff_toInt_lt.mpr q)
    by_cases b : x = y
    · subst b; rw [if_neg a, if_pos rfl, if_neg (by omega), if_pos rfl]
    · have b' : x.toInt ≠ y.toInt := fun q => b (Int64.toInt_inj.mp q)
      rw [if_neg a, if_neg b, if_pos (by omega)]
theorem i_eq {x y : Int32} (h : x = y) : x.toInt = y.toInt := by rw [h]
theorem i_ne {x y : Int32} (h : x ≠ y) : x.toInt ≠ y.toInt := fun q => h (Int32.toInt_inj.mp q)
theorem i_lt {x y : Int32} (h : x < y) : x.toInt < y.toInt := Int32.lt_iff_toInt_lt.mp h
theorem i_ge {x y : Int32} (h : x ≥ y) : y.toInt ≤ x.toInt := Int32.le_iff_toInt_le.mp h
theorem i_gt {x y : Int32} (h : x > y) : y.toInt < x.toInt := Int32.lt_iff_toInt_lt.mp h
theorem i_le {x y : Int32} (h : x ≤ y) : x.toInt ≤ y.toInt := Int32.le_iff_toInt_le.mp h
theorem iz_eq {x : Int32} (h : x = 0) : x.toInt = 0 := by rw [h]; rfl
theorem iz_ne {x : Int32} (h : x ≠ 0) : x.toInt ≠ 0 := fun q => h (Int32.toInt_inj.mp q)
theorem iz_lt {x : Int32} (h : x < 0) : x.toInt < 0 := Int32.lt_iff_toInt_lt.mp h
theorem iz_ge {x : Int32} (h : x ≥ 0) : 0 ≤ x.toInt := Int32.le_iff_toInt_le.mp h
theorem iz_gt {x : Int32} (h : x > 0) : 0 < x.toInt := Int32.lt_iff_toInt_lt.mp h
theorem iz_le {x : Int32} (h : x ≤ 0) : x.toInt ≤ 0 := Int32.le_iff_toInt_le.mp h
theorem cmpL_ex {x y : Int64} {n m : Int} (hx : x.toInt = n) (hy : y.toInt = m) : XT.cmpL x y = cmpI n m := by rw [cmpL_I, hx, hy]
theorem small32 {y : Int32} (h : y.toBitVec.toNat < 2147483648) : y.toInt = (y.toBitVec.toNat : Int) := by
  have : y.toInt = y.toBitVec.toInt := rfl
  rw [this, BitVec.toInt_eq_toNat_cond, if_pos (by omega)]
theorem nn32 {y : Int32} (h : 0 ≤ y.toInt) : y.toBitVec.toNat < 2147483648 := by
  have e : y.toInt = y.toBitVec.toInt := rfl
  rw [e, BitVec.toInt_eq_toNat_cond] at h
  by_cases q : 2 * y.toBitVec.toNat < 2 ^ 32
  · omega
  · rw [if_neg q] at h; have := y.toBitVec.isLt; omega
theorem iand_b (x y : Int32) {M : Int} (h0 : 0 ≤ y.toInt) (hM : y.toInt ≤ M) : 0 ≤ (x &&& y).toInt ∧ (x &&& y).toInt ≤ M := by
  have h1 := nn32 h0
  have e : (x &&& y).toBitVec.toNat = x.toBitVec.toNat &&& y.toBitVec.toNat := by simp [Int32.toBitVec_and, BitVec.toNat_and]
  have hle : (x &&& y).toBitVec.toNat ≤ y.toBitVec.toNat := by rw [e]; exact Nat.and_le_right
  have e1 := small32 (y := x &&& y) (by omega)
  have e2 := small32 h1
  omega
theorem small64 {y : Int64} (h : y.toBitVec.toNat < 9223372036854775808) : y.toInt = (y.toBitVec.toNat : Int) := by
  have : y.toInt = y.toBitVec.toInt := rfl
  rw [this, BitVec.toInt_eq_toNat_cond, if_pos (by omega)]
theorem nn64 {y : Int64} (h : 0 ≤ y.toInt) : y.toBitVec.toNat < 9223372036854775808 := by
  have e : y.toInt = y.toBitVec.toInt := rfl
  rw [e, BitVec.toInt_eq_toNat_cond] at h
  by_cases q : 2 * y.toBitVec.toNat < 2 ^ 64
  · omega
  · rw [if_neg q] at h; have := y.toBitVec.isLt; omega
theorem land_b (x y : Int64) {M : Int} (h0 : 0 ≤ y.toInt) (hM : y.toInt ≤ M) : 0 ≤ (x &&& y).toInt ∧ (x &&& y).toInt ≤ M := by
  have h1 := nn64 h0
  have e : (x &&& y).toBitVec.toNat = x.toBitVec.toNat &&& y.toBitVec.toNat := by simp [Int64.toBitVec_and, BitVec.toNat_and]
  have hle : (x &&& y).toBitVec.toNat ≤ y.toBitVec.toNat := by rw [e]; exact Nat.and_le_right
  have e1 := small64 (y := x &&& y) (by omega)
  have e2 := small64 h1
  omega
theorem i32b (v : Int32) : -2147483648 ≤ v.toInt ∧ v.toInt < 2147483648 := ⟨v.le_toInt, v.toInt_lt⟩
theorem i64b (v : Int64) : -9223372036854775808 ≤ v.toInt ∧ v.toInt < 9223372036854775808 := ⟨v.le_toInt, v.toInt_lt⟩
theorem iadd_ex {x y : Int32} {n m : Int} (hx : x.toInt = n) (hy : y.toInt = m) (h : -2147483648 ≤ n + m ∧ n + m < 2147483648) : (x + y).toInt = n + m := by
  rw [Int32.toInt_add, hx, hy]; exact Int.bmod_eq_of_le (by omega) (by omega)
theorem isub_ex {x y : Int32} {n m : Int} (hx : x.toInt = n) (hy : y.toInt = m) (h : -2147483648 ≤ n - m ∧ n - m < 2147483648) : (x - y).toInt = n - m := by
  rw [Int32.toInt_sub, hx, hy]; exact Int.bmod_eq_of_le (by omega) (by omega)
theorem imul_ex {x y : Int32} {n m : Int} (hx : x.toInt = n) (hy : y.toInt = m) (h : -2147483648 ≤ n * m ∧ n * m < 2147483648) : (x * y).toInt = n * m := by
  rw [Int32.toInt_mul, hx, hy]; exact Int.bmod_eq_of_le (by omega) (by omega)
theorem ladd_ex {x y : Int64} {n m : Int} (hx : x.toInt = n) (hy : y.toInt = m) (h : -9223372036854775808 ≤ n + m ∧ n + m < 9223372036854775808) : (x + y).toInt = n + m := by
  rw [Int64.toInt_add, hx, hy]; exact Int.bmod_eq_of_le (by omega) (by omega)
theorem lsub_ex {x y : Int64} {n m : Int} (hx : x.toInt = n) (hy : y.toInt = m) (h : -9223372036854775808 ≤ n - m ∧ n - m < 9223372036854775808) : (x - y).toInt = n - m := by
  rw [Int64.toInt_sub, hx, hy]; exact Int.bmod_eq_of_le (by omega) (by omega)
theorem lmul_ex {x y : Int64} {n m : Int} (hx : x.toInt = n) (hy : y.toInt = m) (h : -9223372036854775808 ≤ n * m ∧ n * m < 9223372036854775808) : (x * y).toInt = n * m := by
  rw [Int64.toInt_mul, hx, hy]; exact Int.bmod_eq_of_le (by omega) (by omega)
theorem i2l_ex {x : Int32} {n : Int} (hx : x.toInt = n) : x.toInt64.toInt = n := by rw [Int32.toInt_toInt64, hx]
theorem pinI {args : Array Value} {s : State} {C n d K O f : String} {k : Int32} (hx : (Cond.exactly (Term.static C n d) K).value args s none s [] = some true) (he : (Cond.eq (Term.field (Term.static C n d) O f "I") (Term.int k)).value args s none s [] = some true) (hi : (Cond.initialized C).before args s = true) (hl : (Cond.laysStatic C n d).before args s = true) : ∃ r, RoadKit.Sta s s.heap C n d (.ref r) ∧ RoadKit.Exa s s.heap r K ∧ RoadKit.Fld s s.heap r O f "I" (.int k) := by
  obtain ⟨r, hr⟩ := RoadKit.exa_v hx
  refine ⟨r, RoadKit.Sta.start hr (Or.inr ⟨hi, hl⟩), RoadKit.Exa.start hr hx, ?_⟩
  obtain ⟨x, y, h1, h2, h3, h4⟩ := RoadKit.cmp_v (Or.inl he)
  rw [RoadKit.fld_at hr] at h1
  obtain rfl : Value.int k = y := Option.some.inj ((Term.int_eval k).symm.trans h2)
  obtain ⟨z, rfl⟩ := h4
  have q := RoadKit.gotT (Cond.eq_ints ((RoadKit.fld_at hr).trans h1) (Term.int_eval k)) he
  subst q
  exact RoadKit.Fld.start h1
theorem pinD {args : Array Value} {s : State} {C n d K O f : String} {k : Int64} (hx : (Cond.exactly (Term.static C n d) K).value args s none s [] = some true) (he : (Cond.eq (Term.field (Term.static C n d) O f "D") (Term.op1 .bitsD (Term.long k))).value args s none s [] = some true) (hi : (Cond.initialized C).before args s = true) (hl : (Cond.laysStatic C n d).before args s = true) : ∃ r, RoadKit.Sta s s.heap C n d (.ref r) ∧ RoadKit.Exa s s.heap r K ∧ RoadKit.Fld s s.heap r O f "D" (.double k.toUInt64) := by
  obtain ⟨r, hr⟩ := RoadKit.exa_v hx
  refine ⟨r, RoadKit.Sta.start hr (Or.inr ⟨hi, hl⟩), RoadKit.Exa.start hr hx, ?_⟩
  obtain ⟨x, y, h1, h2, h3, h4⟩ := RoadKit.cmp_v (Or.inl he)
  have h5 : (Term.op1 .bitsD (Term.long k)).eval args s none [] s = some (.double k.toUInt64) := RoadKit.op1_f (RoadKit.long_at k)
  obtain rfl : Value.double k.toUInt64 = y := Option.some.inj (h5.symm.trans h2)
  obtain ⟨z, rfl⟩ := h4
  have q : z = k.toUInt64 := by simpa [Cond.value, h1, h5] using he
  subst q
  rw [RoadKit.fld_at hr] at h1
  exact RoadKit.Fld.start h1
end Jvm.Own
namespace Jvm.Own
open Jvm.FP.Core
/-! doubles by their values: zval in units of 2^-1074 -/
/-! plain arithmetic, with the unit as a letter -/
theorem ar_mul {a b J K N M O : Nat} (hm : a * J = N * O) (gm : b * K = M * O) : a * b * (J * K) = N * M * (O * O) := by
  calc a * b * (J * K) = (a * J) * (b * K) := by ac_rfl
    _ = N * O * (M * O) := by rw [hm, gm]
    _ = _ := by ac_rfl
theorem ar_z {ab JK NM O z : Nat} (hp : 0 < JK) (q : ab * JK = NM * (O * O)) (hz : z * JK = NM * O) : ab = z * O := by
  apply Nat.eq_of_mul_eq_mul_right hp
  calc ab * JK = NM * O * O := by rw [q]; ac_rfl
    _ = z * JK * O := by rw [hz]
    _ = _ := by ac_rfl
theorem ar_i {X Y J K N M O s : Int} (hO : O ≠ 0) (hx : X * J = N * O) (hy : Y * K = M * O) (hs : s * O = X * Y) : s * (J * K) = N * M * O := by
  apply Int.eq_of_mul_eq_mul_right hO
  calc s * (J * K) * O = s * O * (J * K) := by ac_rfl
    _ = (X * J) * (Y * K) := by rw [hs]; ac_rfl
    _ = N * M * O * O := by rw [hx, hy]; ac_rfl
theorem ar_d {x y z J K I N M W O : Nat} (hp : 0 < J * K * I) (hx : x * J = N * O) (hy : y * K = M * O) (hz : z * I = W * O) (hw : N * K * I = W * M * J) : x * O = z * y := by
  apply Nat.eq_of_mul_eq_mul_right hp
  calc x * O * (J * K * I) = (x * J) * O * (K * I) := by ac_rfl
    _ = (N * K * I) * (O * O) := by rw [hx]; ac_rfl
    _ = (W * O) * (M * O) * J := by rw [hw]; ac_rfl
    _ = (z * I) * (y * K) * J := by rw [hz, hy]
    _ = _ := by ac_rfl
theorem ar_q {q X Y J K I N M W O : Int} (hY : Y ≠ 0) (hJ : J ≠ 0) (hK : K ≠ 0) (hx : X * J = N * O) (hy : Y * K = M * O) (hs : q * Y = X * O) (hw : N * K * I = W * M * J) : q * I = W * O := by
  apply Int.eq_of_mul_eq_mul_right hY
  apply Int.eq_of_mul_eq_mul_right hJ
  apply Int.eq_of_mul_eq_mul_right hK
  calc q * I * Y * J * K = (q * Y) * I * J * K := by ac_rfl
    _ = (X * J) * K * I * O := by rw [hs]; ac_rfl
    _ = (N * K * I) * O * O := by rw [hx]; ac_rfl
    _ = W * (M * O) * J * O := by rw [hw]; ac_rfl
    _ = W * O * Y * J * K := by rw [← hy]; ac_rfl
theorem ar_p {c d P Q X Y W : Nat} (e : P * Q = X * Y * W) : c * d * P * Q = c * X * (d * Y) * 1 * W := by
  rw [Nat.mul_assoc (c * d), e]; ac_rfl
theorem ar_up {X J K N O : Int} (h : X * J = N * O) : X * (J * K) = N * K * O := by
  calc X * (J * K) = X * J * K := by ac_rfl
    _ = N * O * K := by rw [h]
    _ = _ := by ac_rfl
abbrev rr (s : Bool) (A B : Nat) : Datum := roundRatio b64 s A B 0
theorem one_pow : one64 = 2 ^ 1074 := rfl
theorem one_ne : (one64 : Int) ≠ 0 := by have := one64_pos; omega
theorem fin_u {x : UInt64} {s : Bool} {c : Nat} {q : Int} (h : val64 x = .fin s c q) : sgn (val64 x) = s ∧ zmag b64 (val64 x) = c * 2 ^ (q + 1074).toNat ∧ -1074 ≤ q := by
  have hf := val64_fits x
  rw [h] at hf ⊢
  have h2 := hf.2.1
  rw [qmin_b64] at h2
  refine ⟨rfl, ?_, h2⟩
  show inUnits c q b64.qmin = _
  rw [qmin_b64]
  show c * 2 ^ (q - -1074).toNat = _
  rw [show q - -1074 = q + 1074 by omega]
theorem zv_eq (x : UInt64) : zval b64 (val64 x) = signed (sgn (val64 x)) (zmag b64 (val64 x)) := rfl
theorem ddiv_rr {x y : UInt64} (hx : DFin x) (hy : DFin y) (hz : zmag b64 (val64 y) ≠ 0) : val64 (ddiv x y) = rr (sgn (val64 x) != sgn (val64 y)) (zmag b64 (val64 x)) (zmag b64 (val64 y)) := by
  obtain ⟨s, c, q, ex⟩ := hx
  obtain ⟨t, d, r, ey⟩ := hy
  obtain ⟨h1, h2, h3⟩ := fin_u ex
  obtain ⟨g1, g2, g3⟩ := fin_u ey
  rw [g2] at hz
  have hd : d ≠ 0 := fun k => hz (by rw [k, Nat.zero_mul])
  rw [val64_ddiv, h1, h2, g1, g2, ex, ey]
  show (if d = 0 then _ else roundRatio b64 (s != t) c d (q - r)) = _
  rw [if_neg hd]
  refine roundRatio_congr (Nat.pos_of_ne_zero hd) (Nat.pos_of_ne_zero hz) ?_
  have e : 2 ^ (r + 1074).toNat * 2 ^ (q - r - 0).toNat = 2 ^ (q + 1074).toNat * 2 ^ (0 - (q - r)).toNat := by
    rw [← Nat.pow_add, ← Nat.pow_add]
    congr 1
    omega
  calc c * (d * 2 ^ (r + 1074).toNat) * 2 ^ (q - r - 0).toNat = c * d * (2 ^ (r + 1074).toNat * 2 ^ (q - r - 0).toNat) := by ac_rfl
    _ = c * d * (2 ^ (q + 1074).toNat * 2 ^ (0 - (q - r)).toNat) := by rw [e]
    _ = c * 2 ^ (q + 1074).toNat * d * 2 ^ (0 - (q - r)).toNat := by ac_rfl
theorem dmul_rr {x y : UInt64} (hx : DFin x) (hy : DFin y) : val64 (dmul x y) = rr (sgn (val64 x) != sgn (val64 y)) (zmag b64 (val64 x) * zmag b64 (val64 y)) (2 ^ 2148) := by
  obtain ⟨s, c, q, ex⟩ := hx
  obtain ⟨t, d, r, ey⟩ := hy
  obtain ⟨h1, h2, h3⟩ := fin_u ex
  obtain ⟨g1, g2, g3⟩ := fin_u ey
  rw [val64_dmul, h1, h2, g1, g2, ex, ey]
  show roundRatio b64 (s != t) (c * d) 1 (q + r) = _
  refine roundRatio_congr Nat.one_pos (Nat.two_pow_pos _) ?_
  have e : 2 ^ 2148 * 2 ^ (q + r - 0).toNat = 2 ^ (q + 1074).toNat * 2 ^ (r + 1074).toNat * 2 ^ (0 - (q + r)).toNat := by
    rw [← Nat.pow_add, ← Nat.pow_add, ← Nat.pow_add]
    congr 1
    omega
  exact ar_p e
theorem sum_rr {X Y : Datum} (fx : FP.Core.fits b64 X) (fy : FP.Core.fits b64 Y) (hx : ∃ s c q, X = .fin s c q) (hy : ∃ s c q, Y = .fin s c q) : ∃ sg, round b64 (exactSum X Y) = rr sg (zval b64 X + zval b64 Y).natAbs one64 ∧ signed sg (zval b64 X + zval b64 Y).natAbs = zval b64 X + zval b64 Y := by
  obtain ⟨s, c, q, rfl⟩ := hx
  obtain ⟨t, d, r, rfl⟩ := hy
  obtain ⟨sg, n, e, e1, e2, e3⟩ := sum_units fx fy
  have e4 : (zval b64 (.fin s c q) + zval b64 (.fin t d r)).natAbs = inUnits n e b64.qmin := by rw [← e3, natAbs_signed]
  refine ⟨sg, ?_, by rw [e4, e3]⟩
  rw [e4, e1]
  show roundRatio b64 sg n 1 e = _
  refine roundRatio_congr Nat.one_pos one64_pos ?_
  rw [qmin_b64] at e2 ⊢
  show n * one64 * 2 ^ (e - 0).toNat = n * 2 ^ (e - -1074).toNat * 1 * 2 ^ (0 - e).toNat
  rw [one_pow, Nat.mul_assoc, ← Nat.pow_add, Nat.mul_one, Nat.mul_assoc n, ← Nat.pow_add]
  congr 2
  omega
theorem dadd_rr {x y : UInt64} (hx : DFin x) (hy : DFin y) : ∃ sg, val64 (dadd x y) = rr sg (zval b64 (val64 x) + zval b64 (val64 y)).natAbs one64 ∧ signed sg (zval b64 (val64 x) + zval b64 (val64 y)).natAbs = zval b64 (val64 x) + zval b64 (val64 y) := by
  obtain ⟨sg, h1, h2⟩ := sum_rr (val64_fits x) (val64_fits y) hx hy
  exact ⟨sg, by rw [val64_dadd, h1], h2⟩
theorem dsub_rr {x y : UInt64} (hx : DFin x) (hy : DFin y) : ∃ sg, val64 (dsub x y) = rr sg (zval b64 (val64 x) - zval b64 (val64 y)).natAbs one64 ∧ signed sg (zval b64 (val64 x) - zval b64 (val64 y)).natAbs = zval b64 (val64 x) - zval b64 (val64 y) := by
  obtain ⟨t, d, r, ey⟩ := hy
  obtain ⟨sg, h1, h2⟩ := sum_rr (val64_fits x) (negate_fits (val64_fits y)) hx ⟨!t, d, r, by rw [ey]; rfl⟩
  rw [zval_negate, ← Int.sub_eq_add_neg] at h1 h2
  exact ⟨sg, by rw [val64_dsub, h1], h2⟩
/-- a whole number of units that a double holds -/
def Rep (z : Nat) : Prop := ∃ V : Datum, FP.Core.fits b64 V ∧ (∃ s c q, V = .fin s c q) ∧ zmag b64 V = z
theorem rep_pow {n k : Nat} (hn : n < 2 ^ 53) (hk : k ≤ 2045) : Rep (n * 2 ^ k) := by
  obtain ⟨c', q', h1, h2⟩ := round_exact good_b64 false (c := n) (q := (k : Int) - 1074) (by exact hn) (by rw [qmin_b64]; omega) (by show (k : Int) - 1074 ≤ 971; omega)
  refine ⟨.fin false c' q', by rw [← h1]; exact round_fits good_b64 _, ⟨_, _, _, rfl⟩, ?_⟩
  show inUnits c' q' b64.qmin = _
  rw [h2, qmin_b64]
  show n * 2 ^ ((k : Int) - 1074 - -1074).toNat = _
  congr 2
  omega
theorem rep_pow' {n k : Nat} (hn : n ≤ 2 ^ 53) (hk : k ≤ 2044) : Rep (n * 2 ^ k) := by
  by_cases h : n < 2 ^ 53
  · exact rep_pow h (by omega)
  · have e : n * 2 ^ k = 2 ^ 52 * 2 ^ (k + 1) := by
      rw [show n = 2 ^ 53 by omega, ← Nat.pow_add, ← Nat.pow_add]; congr 1; omega
    rw [e]; exact rep_pow (by decide) (by omega)
theorem rep_val {x : UInt64} (h : DFin x) : Rep (zmag b64 (val64 x)) := ⟨_, val64_fits x, h, rfl⟩
theorem in_u (A : Nat) : inUnits A 0 b64.qmin = A * one64 := by rw [qmin_b64]; rfl
theorem rr_le {s : Bool} {A B z : Nat} (hB : 0 < B) (hz : Rep z) (h : A * one64 ≤ z * B) : zmag b64 (rr s A B) ≤ z := by
  obtain ⟨V, f, ⟨t, c, q, rfl⟩, rfl⟩ := hz
  refine zmag_roundRatio_le good_b64 hB f (by intro k; cases k) (Int.le_refl _) (by rw [qmin_b64]; omega) ?_
  rw [in_u, Int.sub_self]
  simpa using h
theorem rr_ge {s : Bool} {A B z : Nat} (hB : 0 < B) (hz : Rep z) (h : z * B ≤ A * one64) : z ≤ zmag b64 (rr s A B) := by
  obtain ⟨V, f, ⟨t, c, q, rfl⟩, rfl⟩ := hz
  refine zmag_roundRatio_ge good_b64 hB f (Int.le_refl _) (by rw [qmin_b64]; omega) ?_
  rw [in_u, Int.sub_self]
  simpa using h
theorem rep_top {z : Nat} (hz : Rep z) : z < b64.tails * 2 ^ (b64.exps - 2) := by
  obtain ⟨V, f, ⟨t, c, q, rfl⟩, rfl⟩ := hz
  exact zmag_lt_top good_b64 f
theorem rr_fin {s : Bool} {A B z : Nat} (hz : Rep z) (h : zmag b64 (rr s A B) ≤ z) : ∃ c q, rr s A B = .fin s c q := by
  rcases roundRatio_cases b64 s A B 0 with k | k
  · exact k
  · rw [show rr s A B = .inf s from k] at h
    have := rep_top hz
    have e : zmag b64 (.inf s) = b64.tails * 2 ^ (b64.exps - 2) := rfl
    rw [e] at h
    exact absurd this (Nat.not_lt.mpr h)
theorem rr_sgn (s : Bool) (A B : Nat) : sgn (rr s A B) = s := sgn_roundRatio b64 s A B 0
theorem of_rr {x : UInt64} {s : Bool} {A B z : Nat} (hx : val64 x = rr s A B) (hB : 0 < B) (hz : Rep z) (h : A * one64 = z * B) : DFin x ∧ zval b64 (val64 x) = signed s z := by
  have h1 := rr_le (s := s) hB hz (Nat.le_of_eq h)
  have h2 := rr_ge (s := s) hB hz (Nat.le_of_eq h.symm)
  obtain ⟨c, q, e⟩ := rr_fin hz h1
  refine ⟨⟨s, c, q, by rw [hx, e]⟩, ?_⟩
  rw [zv_eq, hx, rr_sgn, Nat.le_antisymm h1 h2]
/-- the double is n / 2^j -/
def Dy (n : Int) (j : Nat) (x : UInt64) : Prop := DFin x ∧ zval b64 (val64 x) * ((2 ^ j : Nat) : Int) = n * (one64 : Int)
theorem p2_ne (j : Nat) : ((2 ^ j : Nat) : Int) ≠ 0 := by have := Nat.two_pow_pos j; omega
theorem Dy.mag {n : Int} {j : Nat} {x : UInt64} (h : Dy n j x) : zmag b64 (val64 x) * 2 ^ j = n.natAbs * one64 := by
  have := congrArg Int.natAbs h.2
  rw [Int.natAbs_mul, Int.natAbs_mul, zv_eq, natAbs_signed, Int.natAbs_natCast, Int.natAbs_natCast] at this
  exact this
theorem Dy.noNaN {n : Int} {j : Nat} {x : UInt64} (h : Dy n j x) : Jvm.Free.Fl.NoNaN64 x := (Jvm.Free.Fl.fin64_core.mpr h.1).noNaN
theorem rep_dy {N z j : Nat} (hn : N ≤ 2 ^ 53) (hj : j ≤ 1074) (h : z * 2 ^ j = N * one64) : Rep z := by
  have e : z = N * 2 ^ (1074 - j) := by
    apply Nat.eq_of_mul_eq_mul_right (Nat.two_pow_pos j)
    rw [h, one_pow, Nat.mul_assoc, ← Nat.pow_add]
    congr 2; omega
  rw [e]; exact rep_pow' hn (by omega)
theorem Dy.of_int {n : Int} {x : UInt64} (h : DInt n x) : Dy n 0 x := by
  refine ⟨?_, ?_⟩
  · unfold DInt at h
    cases e : val64 x with
    | nan => rw [e] at h; exact h.elim
    | inf s => rw [e] at h; exact h.elim
    | fin s c q => exact ⟨s, c, q, e⟩
  · rw [DInt_zval h]; simp
theorem Dy.i2d (v : Int32) : Dy v.toInt 0 (FP.i2d v) := Dy.of_int (i2d_int v)
theorem Dy.l2d {v : Int64} (h : v.toInt.natAbs ≤ 2 ^ 53) : Dy v.toInt 0 (FP.l2d v) := Dy.of_int (l2d_int h)
theorem Dy.up {n : Int} {j : Nat} {x : UInt64} (h : Dy n j x) (k : Nat) : Dy (n * ((2 ^ k : Nat) : Int)) (j + k) x := by
  refine ⟨h.1, ?_⟩
  rw [Nat.pow_add, Int.natCast_mul]
  exact ar_up h.2
theorem Dy.cmp {n m : Int} {j : Nat} {x y : UInt64} (h : Dy n j x) (g : Dy m j y) : FP.dcmp x y = some (compare n m) := by
  have hp : (0 : Int) < ((2 ^ j : Nat) : Int) := by have := Nat.two_pow_pos j; omega
  have ho : (0 : Int) < (one64 : Int) := by have := one64_pos; omega
  rw [show FP.dcmp x y = _ from dcmp_zval h.1.ne_nan g.1.ne_nan, ← compare_mul_pos _ _ _ hp, h.2, g.2, compare_mul_pos _ _ _ ho]
theorem Dy.add {n m : Int} {j : Nat} {x y : UInt64} (h : Dy n j x) (g : Dy m j y) (hb : (n + m).natAbs ≤ 2 ^ 53) (hj : j ≤ 1074) : Dy (n + m) j (FP.dadd x y) := by
  obtain ⟨sg, e1, e2⟩ := dadd_rr h.1 g.1
  have e : (zval b64 (val64 x) + zval b64 (val64 y)) * ((2 ^ j : Nat) : Int) = (n + m) * (one64 : Int) := by rw [Int.add_mul, Int.add_mul, h.2, g.2]
  have e' := congrArg Int.natAbs e
  rw [Int.natAbs_mul, Int.natAbs_mul, Int.natAbs_natCast, Int.natAbs_natCast] at e'
  obtain ⟨d1, d2⟩ := of_rr (x := FP.dadd x y) e1 one64_pos (rep_dy hb hj e') rfl
  exact ⟨d1, by rw [d2, e2, e]⟩
theorem Dy.sub {n m : Int} {j : Nat} {x y : UInt64} (h : Dy n j x) (g : Dy m j y) (hb : (n - m).natAbs ≤ 2 ^ 53) (hj : j ≤ 1074) : Dy (n - m) j (FP.dsub x y) := by
  obtain ⟨sg, e1, e2⟩ := dsub_rr h.1 g.1
  have e : (zval b64 (val64 x) - zval b64 (val64 y)) * ((2 ^ j : Nat) : Int) = (n - m) * (one64 : Int) := by rw [Int.sub_mul, Int.sub_mul, h.2, g.2]
  have e' := congrArg Int.natAbs e
  rw [Int.natAbs_mul, Int.natAbs_mul, Int.natAbs_natCast, Int.natAbs_natCast] at e'
  obtain ⟨d1, d2⟩ := of_rr (x := FP.dsub x y) e1 one64_pos (rep_dy hb hj e') rfl
  exact ⟨d1, by rw [d2, e2, e]⟩
theorem one_sq : one64 * one64 = 2 ^ 2148 := by rw [one_pow, ← Nat.pow_add]
theorem Dy.mul {n m : Int} {j k : Nat} {x y : UInt64} (h : Dy n j x) (g : Dy m k y) (hb : (n * m).natAbs ≤ 2 ^ 53) (hj : j + k ≤ 1074) : Dy (n * m) (j + k) (FP.dmul x y) := by
  have e1 := dmul_rr h.1 g.1
  have q1 := ar_mul h.mag g.mag
  rw [← Nat.pow_add, ← Int.natAbs_mul] at q1
  obtain ⟨z, hz⟩ : ∃ z, z = (n * m).natAbs * 2 ^ (1074 - (j + k)) := ⟨_, rfl⟩
  have hz1 : z * 2 ^ (j + k) = (n * m).natAbs * one64 := by
    rw [hz, one_pow, Nat.mul_assoc, ← Nat.pow_add]; congr 2; omega
  have hz2 := ar_z (Nat.two_pow_pos (j + k)) q1 hz1
  have hR : Rep z := by rw [hz]; exact rep_pow' hb (by omega)
  obtain ⟨d1, d2⟩ := of_rr (x := FP.dmul x y) e1 (Nat.two_pow_pos _) hR (by rw [hz2, Nat.mul_assoc, one_sq])
  refine ⟨d1, ?_⟩
  have hs : signed (sgn (val64 x) != sgn (val64 y)) z * (one64 : Int) = zval b64 (val64 x) * zval b64 (val64 y) := by rw [← signed_mul, ← hz2, signed_xor, zv_eq, zv_eq]
  rw [d2, Nat.pow_add, Int.natCast_mul]
  exact ar_i one_ne h.2 g.2 hs
theorem zm_ne {n : Int} {j : Nat} {x : UInt64} (h : Dy n j x) (hn : n ≠ 0) : zmag b64 (val64 x) ≠ 0 := by
  intro k
  have := h.mag
  rw [k, Nat.zero_mul] at this
  have h1 : n.natAbs * one64 ≠ 0 := Nat.mul_ne_zero (by omega) (by have := one64_pos; omega)
  exact h1 this.symm
theorem signed_div (s t : Bool) (a b : Nat) : signed (s != t) a * signed t b = signed s (a * b) := by rw [← signed_xor]; congr 1; cases s <;> cases t <;> rfl
theorem Dy.div {n m w : Int} {j k i : Nat} {x y : UInt64} (h : Dy n j x) (g : Dy m k y) (hm0 : m ≠ 0) (hw : n * ((2 ^ k : Nat) : Int) * ((2 ^ i : Nat) : Int) = w * m * ((2 ^ j : Nat) : Int)) (hb : w.natAbs ≤ 2 ^ 53) (hi : i ≤ 1074) : Dy w i (FP.ddiv x y) := by
  have hz0 := zm_ne g hm0
  have e1 := ddiv_rr h.1 g.1 hz0
  obtain ⟨z, hz⟩ : ∃ z, z = w.natAbs * 2 ^ (1074 - i) := ⟨_, rfl⟩
  have hz1 : z * 2 ^ i = w.natAbs * one64 := by
    rw [hz, one_pow, Nat.mul_assoc, ← Nat.pow_add]; congr 2; omega
  have hw' := congrArg Int.natAbs hw
  simp only [Int.natAbs_mul, Int.natAbs_natCast] at hw'
  have hz2 := ar_d (Nat.mul_pos (Nat.mul_pos (Nat.two_pow_pos j) (Nat.two_pow_pos k)) (Nat.two_pow_pos i)) h.mag g.mag hz1 hw'
  have hR : Rep z := by rw [hz]; exact rep_pow' hb (by omega)
  obtain ⟨d1, d2⟩ := of_rr (x := FP.ddiv x y) e1 (Nat.pos_of_ne_zero hz0) hR hz2
  refine ⟨d1, ?_⟩
  have hs : zval b64 (val64 (FP.ddiv x y)) * zval b64 (val64 y) = zval b64 (val64 x) * (one64 : Int) := by
    rw [d2, zv_eq y, signed_div, ← hz2, signed_mul, zv_eq x]
  have hy0 : zval b64 (val64 y) ≠ 0 := by
    intro q; rw [zv_eq, signed_eq_zero] at q; exact hz0 q
  exact ar_q hy0 (p2_ne j) (p2_ne k) h.2 g.2 hs hw
end Jvm.Own
namespace Jvm.Own
open Jvm.FP.Core Sem ClassFile Op Lib Jvm.Free
theorem Dy.to {n n' : Int} {j j' : Nat} {x : UInt64} (h : Dy n j x) (k : Nat) (hj : j + k = j') (hn : n * ((2 ^ k : Nat) : Int) = n') : Dy n' j' x := by subst hj hn; exact h.up k
theorem Dy.cl {n m : Int} {j : Nat} {x y : UInt64} (h : Dy n j x) (g : Dy m j y) (o : CmpOp) : cmpValue (FP.dcmp x y) o = cmpI n m := by rw [h.cmp g, cmpI_some]
theorem Dy.lit {n : Int} {j : Nat} {x : UInt64} (h1 : x.toNat % 2 ^ 63 < 9218868437227405312) (h2 : zval b64 (val64 x) * ((2 ^ j : Nat) : Int) = n * (one64 : Int)) : Dy n j x := ⟨(fin_bits x).mpr h1, h2⟩
theorem Dy.i2d' {v : Int32} {n : Int} (h : v.toInt = n) : Dy n 0 (FP.i2d v) := h ▸ Dy.i2d v
theorem Dy.l2d' {v : Int64} {n : Int} (h : v.toInt = n) (hb : n.natAbs ≤ 2 ^ 53) : Dy n 0 (FP.l2d v) := by subst h; exact Dy.l2d hb
end Jvm.Own
namespace Jvm.Pilot.@@N@@
open Jvm Jvm.ClassFile Sem Op Lib Jvm.Free Jvm.Stand Jvm.LawKit Jvm.RoadKit Bundle Jvm.Own Jvm.Pilot.@@N@@.Jvm.D
theorem pd_0 : parseMethodDescriptor "()I" = some ⟨[], some .int⟩ := by decide +kernel
theorem pd_1 : parseMethodDescriptor "(I)Lcom/example/exact_backup/exactbackup/expr/Relation;" = some ⟨[.int], some (.object "com/example/exact_backup/exactbackup/expr/Relation")⟩ := by decide +kernel
theorem pd_2 : parseMethodDescriptor "(DD)Z" = some ⟨[.double, .double], some .boolean⟩ := by decide +kernel
theorem pd_3 : parseMethodDescriptor "(II)Z" = some ⟨[.int, .int], some .boolean⟩ := by decide +kernel
theorem pn_3 : plainFor (⟨"java/lang/Enum", "ordinal", "()I"⟩ : MethodName) = true := by decide +kernel
theorem pn_1 : plainFor (⟨"com/example/exact_backup/exactbackup/expr/RelationHoldsPinLaw", "pick", "(I)Lcom/example/exact_backup/exactbackup/expr/Relation;"⟩ : MethodName) = true := by decide +kernel
theorem pn_2 : plainFor (⟨"com/example/exact_backup/exactbackup/expr/Relation", "holds", "(DD)Z"⟩ : MethodName) = true := by decide +kernel
theorem pn_4 : plainFor (⟨"com/example/exact_backup/exactbackup/expr/RelationHoldsPinLaw", "expected", "(II)Z"⟩ : MethodName) = true := by decide +kernel
theorem pn_0 : plainFor x = true := by decide +kernel
theorem d3_0 : decode jdk_37_method_2_code 0 = .ok (.aload_n 0, 1) := by decide +kernel
theorem d3_1 : decode jdk_37_method_2_code 1 = .ok (.getfield 7, 3) := by decide +kernel
theorem d3_4 : decode jdk_37_method_2_code 4 = .ok (.ireturn, 1) := by decide +kernel
theorem ef_c_ord (m : MethodId) (x0 : Addr) : entryFrame m #[(.ref x0)] 1 = mkF m 0 #[.val (.ref x0)] [] := by first | (simp [entryFrame, mkF, argsToLocals, Value.category, maxLocals]; done) | rfl
set_option maxRecDepth 65536 in
set_option maxHeartbeats 40000000 in
theorem c_ord (l : Launch) (Z : State) (a0 : Array Value) (hw : ∀ d ∈ tables_1, d.before a0 Z = true) (ws : List Jvm.Cond) (a : Addr) (o : Int32) (h0 : Heap) (n0 : Nat) (Z0 : n0 ≤ h0.size) (Fo : Fld Z h0 a "java/lang/Enum" "ordinal" "I" (.int o)) :
    Ctr l Z (⟨"java/lang/Enum", "ordinal", "()I"⟩ : MethodName) jdk_37_method_2_code 1 (some .int) ws ({ frames := 0, cells := 0, slots := 0, locals := 0 } : Room) #[(.ref a)] h0 (fun v h L => v = some (.int o) ∧ Fr n0 L ∧ h = h0) := by
  refine enter pn_3 ?_
  intro p e s m below meth c T0 X0 hx hby hml hret hlk hZ hown hnm e0
  have A0 := wk X0 hx hby
  have N0 := Fr.nil n0
  refine goIn (ef_c_ord m a) ?_
  show Go p e below m (Fini s 0 0 (fun v h L => v = some (.int o) ∧ Fr n0 L ∧ h = h0)) T0 0 #[.val (.ref a)] []
  refine s_aloadN A0 d3_0 (pc' := 1) rfl rfl rfl ?_
  refine g_getF X0 hx hZ hown (hw _ (List.mem_of_getElem? (i := 19) rfl)) Via.refl e0 Fo (hb hby d3_1) (pc' := 4) rfl ?_
  intro T1 X1 e1
  have A1 := wk X1 hx hby
  exact g_retI X1 hx hlk hret (hb hby d3_4) ⟨rfl, N0, e1⟩ (by decide) (by decide)
theorem d1_0 : decode method_2_code 0 = .ok (.iload_n 0, 1) := by decide +kernel
theorem d1_1 : decode method_2_code 1 = .ok (.iconst 3, 1) := by decide +kernel
theorem d1_2 : decode method_2_code 2 = .ok (.iand, 1) := by decide +kernel
theorem d1_3 : decode method_2_code 3 = .ok (.istore_n 1, 1) := by decide +kernel
theorem d1_4 : decode method_2_code 4 = .ok (.iload_n 1, 1) := by decide +kernel
theorem d1_5 : decode method_2_code 5 = .ok (.ifCond .ne 7, 3) := by decide +kernel
theorem d1_8 : decode method_2_code 8 = .ok (.getstatic 7, 3) := by decide +kernel
theorem d1_11 : decode method_2_code 11 = .ok (.areturn, 1) := by decide +kernel
theorem d1_12 : decode method_2_code 12 = .ok (.iload_n 1, 1) := by decide +kernel
theorem d1_13 : decode method_2_code 13 = .ok (.iconst 1, 1) := by decide +kernel
theorem d1_14 : decode method_2_code 14 = .ok (.if_icmp .ne 7, 3) := by decide +kernel
theorem d1_17 : decode method_2_code 17 = .ok (.getstatic 13, 3) := by decide +kernel
theorem d1_20 : decode method_2_code 20 = .ok (.areturn, 1) := by decide +kernel
theorem d1_21 : decode method_2_code 21 = .ok (.iload_n 1, 1) := by decide +kernel
theorem d1_22 : decode method_2_code 22 = .ok (.iconst 2, 1) := by decide +kernel
theorem d1_23 : decode method_2_code 23 = .ok (.if_icmp .ne 7, 3) := by decide +kernel
theorem d1_26 : decode method_2_code 26 = .ok (.getstatic 16, 3) := by decide +kernel
theorem d1_29 : decode method_2_code 29 = .ok (.areturn, 1) := by decide +kernel
theorem d1_30 : decode method_2_code 30 = .ok (.getstatic 19, 3) := by decide +kernel
theorem d1_33 : decode method_2_code 33 = .ok (.areturn, 1) := by decide +kernel
theorem ef_c_pick (m : MethodId) (x0 : Int32) : entryFrame m #[(.int x0)] 2 = mkF m 0 #[.val (.int x0), .unset] [] := by first | (simp [entryFrame, mkF, argsToLocals, Value.category, maxLocals]; done) | rfl
set_option maxRecDepth 65536 in
set_option maxHeartbeats 40000000 in
theorem c_pick (l : Launch) (Z : State) (a0 : Array Value) (hw : ∀ d ∈ tables_1, d.before a0 Z = true) (ws : List Jvm.Cond) (k : Int32) (r0 r1 r2 r3 : Addr) (h0 : Heap) (n0 : Nat) (Z0 : n0 ≤ h0.size) (S0 : Sta Z h0 "com/example/exact_backup/exactbackup/expr/Relation" "LESS_EQUAL" "Lcom/example/exact_backup/exactbackup/expr/Relation;" (.ref r0)) (S1 : Sta Z h0 "com/example/exact_backup/exactbackup/expr/Relation" "LESS" "Lcom/example/exact_backup/exactbackup/expr/Relation;" (.ref r1)) (S2 : Sta Z h0 "com/example/exact_backup/exactbackup/expr/Relation" "GREATER_EQUAL" "Lcom/example/exact_backup/exactbackup/expr/Relation;" (.ref r2)) (S3 : Sta Z h0 "com/example/exact_backup/exactbackup/expr/Relation" "GREATER" "Lcom/example/exact_backup/exactbackup/expr/Relation;" (.ref r3)) :
    Ctr l Z (⟨"com/example/exact_backup/exactbackup/expr/RelationHoldsPinLaw", "pick", "(I)Lcom/example/exact_backup/exactbackup/expr/Relation;"⟩ : MethodName) method_2_code 2 (some (.object "com/example/exact_backup/exactbackup/expr/Relation")) ws ({ frames := 0, cells := 0, slots := 0, locals := 0 } : Room) #[(.int k)] h0 (fun v h L => ∃ r, v = some (.ref r) ∧ ((k &&& 3).toInt = 0 → r = r0) ∧ ((k &&& 3).toInt = 1 → r = r1) ∧ ((k &&& 3).toInt = 2 → r = r2) ∧ ((k &&& 3).toInt = 3 → r = r3) ∧ Fr n0 L ∧ h = h0) := by
  refine enter pn_1 ?_
  intro p e s m below meth c T0 X0 hx hby hml hret hlk hZ hown hnm e0
  have A0 := wk X0 hx hby
  have N0 := Fr.nil n0
  refine goIn (ef_c_pick m k) ?_
  show Go p e below m (Fini s 0 0 (fun v h L => ∃ r, v = some (.ref r) ∧ ((k &&& 3).toInt = 0 → r = r0) ∧ ((k &&& 3).toInt = 1 → r = r1) ∧ ((k &&& 3).toInt = 2 → r = r2) ∧ ((k &&& 3).toInt = 3 → r = r3) ∧ Fr n0 L ∧ h = h0)) T0 0 #[.val (.int k), .unset] []
  have bk := iand_b (M := 3) k 3 (by decide) (by decide)
  refine s_iloadN A0 d1_0 (pc' := 1) rfl rfl ?_
  refine s_iconst A0 d1_1 (pc' := 2) rfl (v := (3 : Int32)) (by decide) ?_
  refine s_iand A0 d1_2 (pc' := 3) rfl rfl ?_
  refine s_istoreN A0 d1_3 (pc' := 4) rfl (ls' := #[.val (.int k), .val (.int (k &&& 3))]) rfl ?_
  refine s_iloadN A0 d1_4 (pc' := 5) rfl rfl ?_
  refine s_ifne A0 d1_5 (pY := 12) (pN := 8) (by decide) (by decide) rfl ?_ ?_
  · intro c5
    replace c5 := iz_ne c5
    refine s_iloadN A0 d1_12 (pc' := 13) rfl rfl ?_
    refine s_iconst A0 d1_13 (pc' := 14) rfl (v := (1 : Int32)) (by decide) ?_
    refine s_icmpne A0 d1_14 (pY := 21) (pN := 17) (by decide) (by decide) rfl ?_ ?_
    · intro c14
      replace c14 := i_ne c14
      rw [show (1 : Int32).toInt = 1 from by decide] at c14
      refine s_iloadN A0 d1_21 (pc' := 22) rfl rfl ?_
      refine s_iconst A0 d1_22 (pc' := 23) rfl (v := (2 : Int32)) (by decide) ?_
      refine s_icmpne A0 d1_23 (pY := 30) (pN := 26) (by decide) (by decide) rfl ?_ ?_
      · intro c23
        replace c23 := i_ne c23
        rw [show (2 : Int32).toInt = 2 from by decide] at c23
        refine g_getS X0 hx hZ hown (hw _ (List.mem_of_getElem? (i := 24) rfl)) Via.refl e0 S3 (hb hby d1_30) (pc' := 33) rfl ?_
        intro T1 X1 e1
        have A1 := wk X1 hx hby
        exact g_retA X1 hx hlk hret rfl rfl rfl (hb hby d1_33) ⟨_, rfl, fun q => absurd q (by omega), fun q => absurd q (by omega), fun q => absurd q (by omega), fun _ => rfl, N0, e1⟩ (by decide) (by decide)
      · intro c23
        replace c23 := i_eq c23
        rw [show (2 : Int32).toInt = 2 from by decide] at c23
        refine g_getS X0 hx hZ hown (hw _ (List.mem_of_getElem? (i := 26) rfl)) Via.refl e0 S2 (hb hby d1_26) (pc' := 29) rfl ?_
        intro T2 X2 e2
        have A2 := wk X2 hx hby
        exact g_retA X2 hx hlk hret rfl rfl rfl (hb hby d1_29) ⟨_, rfl, fun q => absurd q (by omega), fun q => absurd q (by omega), fun _ => rfl, fun q => absurd q (by omega), N0, e2⟩ (by decide) (by decide)
    · intro c14
      replace c14 := i_eq c14
      rw [show (1 : Int32).toInt = 1 from by decide] at c14
      refine g_getS X0 hx hZ hown (hw _ (List.mem_of_getElem? (i := 28) rfl)) Via.refl e0 S1 (hb hby d1_17) (pc' := 20) rfl ?_
      intro T3 X3 e3
      have A3 := wk X3 hx hby
      exact g_retA X3 hx hlk hret rfl rfl rfl (hb hby d1_20) ⟨_, rfl, fun q => absurd q (by omega), fun _ => rfl, fun q => absurd q (by omega), fun q => absurd q (by omega), N0, e3⟩ (by decide) (by decide)
  · intro c5
    replace c5 := iz_eq c5
    refine g_getS X0 hx hZ hown (hw _ (List.mem_of_getElem? (i := 4) rfl)) Via.refl e0 S0 (hb hby d1_8) (pc' := 11) rfl ?_
    intro T4 X4 e4
    have A4 := wk X4 hx hby
    exact g_retA X4 hx hlk hret rfl rfl rfl (hb hby d1_11) ⟨_, rfl, fun _ => rfl, fun q => absurd q (by omega), fun q => absurd q (by omega), fun q => absurd q (by omega), N0, e4⟩ (by decide) (by decide)
theorem d2_0 : decode prog_11_method_6_code 0 = .ok (.aload_n 0, 1) := by decide +kernel
theorem d2_1 : decode prog_11_method_6_code 1 = .ok (.invokevirtual 58, 3) := by decide +kernel
theorem d2_4 : decode prog_11_method_6_code 4 = .ok (.tableswitch 32 0 3 #[42, 56, 70, 84], 32) := by decide +kernel
theorem d2_46 : decode prog_11_method_6_code 46 = .ok (.dload_n 1, 1) := by decide +kernel
theorem d2_47 : decode prog_11_method_6_code 47 = .ok (.dload_n 3, 1) := by decide +kernel
theorem d2_48 : decode prog_11_method_6_code 48 = .ok (.dcmp .g, 1) := by decide +kernel
theorem d2_49 : decode prog_11_method_6_code 49 = .ok (.ifCond .gt 7, 3) := by decide +kernel
theorem d2_52 : decode prog_11_method_6_code 52 = .ok (.iconst 1, 1) := by decide +kernel
theorem d2_53 : decode prog_11_method_6_code 53 = .ok (.goto 46, 3) := by decide +kernel
theorem d2_56 : decode prog_11_method_6_code 56 = .ok (.iconst 0, 1) := by decide +kernel
theorem d2_57 : decode prog_11_method_6_code 57 = .ok (.goto 42, 3) := by decide +kernel
theorem d2_60 : decode prog_11_method_6_code 60 = .ok (.dload_n 1, 1) := by decide +kernel
theorem d2_61 : decode prog_11_method_6_code 61 = .ok (.dload_n 3, 1) := by decide +kernel
theorem d2_62 : decode prog_11_method_6_code 62 = .ok (.dcmp .g, 1) := by decide +kernel
theorem d2_63 : decode prog_11_method_6_code 63 = .ok (.ifCond .ge 7, 3) := by decide +kernel
theorem d2_66 : decode prog_11_method_6_code 66 = .ok (.iconst 1, 1) := by decide +kernel
theorem d2_67 : decode prog_11_method_6_code 67 = .ok (.goto 32, 3) := by decide +kernel
theorem d2_70 : decode prog_11_method_6_code 70 = .ok (.iconst 0, 1) := by decide +kernel
theorem d2_71 : decode prog_11_method_6_code 71 = .ok (.goto 28, 3) := by decide +kernel
theorem d2_74 : decode prog_11_method_6_code 74 = .ok (.dload_n 1, 1) := by decide +kernel
theorem d2_75 : decode prog_11_method_6_code 75 = .ok (.dload_n 3, 1) := by decide +kernel
theorem d2_76 : decode prog_11_method_6_code 76 = .ok (.dcmp .l, 1) := by decide +kernel
theorem d2_77 : decode prog_11_method_6_code 77 = .ok (.ifCond .lt 7, 3) := by decide +kernel
theorem d2_80 : decode prog_11_method_6_code 80 = .ok (.iconst 1, 1) := by decide +kernel
theorem d2_81 : decode prog_11_method_6_code 81 = .ok (.goto 18, 3) := by decide +kernel
theorem d2_84 : decode prog_11_method_6_code 84 = .ok (.iconst 0, 1) := by decide +kernel
theorem d2_85 : decode prog_11_method_6_code 85 = .ok (.goto 14, 3) := by decide +kernel
theorem d2_88 : decode prog_11_method_6_code 88 = .ok (.dload_n 1, 1) := by decide +kernel
theorem d2_89 : decode prog_11_method_6_code 89 = .ok (.dload_n 3, 1) := by decide +kernel
theorem d2_90 : decode prog_11_method_6_code 90 = .ok (.dcmp .l, 1) := by decide +kernel
theorem d2_91 : decode prog_11_method_6_code 91 = .ok (.ifCond .le 7, 3) := by decide +kernel
theorem d2_94 : decode prog_11_method_6_code 94 = .ok (.iconst 1, 1) := by decide +kernel
theorem d2_95 : decode prog_11_method_6_code 95 = .ok (.goto 4, 3) := by decide +kernel
theorem d2_98 : decode prog_11_method_6_code 98 = .ok (.iconst 0, 1) := by decide +kernel
theorem d2_99 : decode prog_11_method_6_code 99 = .ok (.ireturn, 1) := by decide +kernel
theorem ef_c_holds (m : MethodId) (x0 : Addr) (x1 : UInt64) (x2 : UInt64) : entryFrame m #[(.ref x0), (.double x1), (.double x2)] 5 = mkF m 0 #[.val (.ref x0), .val (.double x1), .second, .val (.double x2), .second] [] := by first | (simp [entryFrame, mkF, argsToLocals, Value.category, maxLocals]; done) | rfl
set_option maxRecDepth 65536 in
set_option maxHeartbeats 40000000 in
theorem c_holds (l : Launch) (Z : State) (a0 : Array Value) (hw : ∀ d ∈ tables_1, d.before a0 Z = true) (ws : List Jvm.Cond) (a : Addr) (o : Int32) (x y : UInt64) (no nx ny : Int) (h0 : Heap) (n0 : Nat) (Z0 : n0 ≤ h0.size) (Ea : Exa Z h0 a "com/example/exact_backup/exactbackup/expr/Relation") (Fo : Fld Z h0 a "java/lang/Enum" "ordinal" "I" (.int o)) (ho : o.toInt = no) (hr : 0 ≤ no ∧ no ≤ 3) (Dx : Dy nx 0 x) (Dyy : Dy ny 0 y) :
    Ctr l Z (⟨"com/example/exact_backup/exactbackup/expr/Relation", "holds", "(DD)Z"⟩ : MethodName) prog_11_method_6_code 5 (some .boolean) ws ({ frames := 1, cells := 0, slots := 0, locals := 12 } : Room) #[(.ref a), (.double x), (.double y)] h0 (fun v h L => ∃ z : Int32, v = some (.int z) ∧ (z.toInt = 1 ∧ (no = 0 ∧ nx ≤ ny ∨ no = 1 ∧ nx < ny ∨ no = 2 ∧ ny ≤ nx ∨ no = 3 ∧ ny < nx) ∨ z.toInt = 0 ∧ ¬ (no = 0 ∧ nx ≤ ny ∨ no = 1 ∧ nx < ny ∨ no = 2 ∧ ny ≤ nx ∨ no = 3 ∧ ny < nx)) ∧ Fr n0 L ∧ h = h0) := by
  refine enter pn_2 ?_
  intro p e s m below meth c T0 X0 hx hby hml hret hlk hZ hown hnm e0
  have A0 := wk X0 hx hby
  have N0 := Fr.nil n0
  refine goIn (ef_c_holds m a x y) ?_
  show Go p e below m (Fini s 0 0 (fun v h L => ∃ z : Int32, v = some (.int z) ∧ (z.toInt = 1 ∧ (no = 0 ∧ nx ≤ ny ∨ no = 1 ∧ nx < ny ∨ no = 2 ∧ ny ≤ nx ∨ no = 3 ∧ ny < nx) ∨ z.toInt = 0 ∧ ¬ (no = 0 ∧ nx ≤ ny ∨ no = 1 ∧ nx < ny ∨ no = 2 ∧ ny ≤ nx ∨ no = 3 ∧ ny < nx)) ∧ Fr n0 L ∧ h = h0)) T0 0 #[.val (.ref a), .val (.double x), .second, .val (.double y), .second] []
  refine s_aloadN A0 d2_0 (pc' := 1) rfl rfl rfl ?_
  refine g_virtualUp X0 hx hZ (x := (⟨"com/example/exact_backup/exactbackup/expr/Relation", "ordinal", "()I"⟩ : MethodName)) (y := (⟨"java/lang/Enum", "ordinal", "()I"⟩ : MethodName)) (owner := "java/lang/Enum") hown (hw _ (List.mem_of_getElem? (i := 12) rfl)) (hw _ (List.mem_of_getElem? (i := 13) rfl)) (hw _ (List.mem_of_getElem? (i := 14) rfl)) (by decide) (hw _ (List.mem_of_getElem? (i := 16) rfl)) (hw _ (List.mem_of_getElem? (i := 15) rfl)) (hw _ (List.mem_of_getElem? (i := 17) rfl)) (hw _ (List.mem_of_getElem? (i := 18) rfl)) Ea (argsL := []) (rest := []) (c_ord l Z a0 hw [] a o h0 n0 Z0 Fo) pd_0 rfl rfl (hb hby d2_1) e0 (by rw [hml]; rfl) (pc' := 4) rfl (by decide) (W := 0) (Nat.le_of_eq rfl) (by decide) (by decide) (by decide) ?_
  intro v1 T1 L1 X1 hQ1
  have A1 := wk X1 hx hby
  have e1 : T1.heap = T1.heap := rfl
  obtain ⟨rfl, N1, hh1⟩ := hQ1
  have e1 : T1.heap = h0 := hh1
  show Go p e below m (Fini s 0 0 (fun v h L => ∃ z : Int32, v = some (.int z) ∧ (z.toInt = 1 ∧ (no = 0 ∧ nx ≤ ny ∨ no = 1 ∧ nx < ny ∨ no = 2 ∧ ny ≤ nx ∨ no = 3 ∧ ny < nx) ∨ z.toInt = 0 ∧ ¬ (no = 0 ∧ nx ≤ ny ∨ no = 1 ∧ nx < ny ∨ no = 2 ∧ ny ≤ nx ∨ no = 3 ∧ ny < nx)) ∧ Fr n0 L ∧ h = h0)) T1 4 #[.val (.ref a), .val (.double x), .second, .val (.double y), .second] [(.int o)]
  rcases (by omega : no = 0 ∨ no = 1 ∨ no = 2 ∨ no = 3) with ko | ko | ko | ko
  · refine s_tsw A1 d2_4 (o := 42) (pc' := 46) (by rw [ho, ko]; decide) (by rw [ho, ko]; rfl) (by decide) (by decide) ?_
    refine s_dloadN A1 d2_46 (pc' := 47) rfl rfl ?_
    refine s_dloadN A1 d2_47 (pc' := 48) rfl rfl ?_
    refine s_dcmp A1 d2_48 (pc' := 49) rfl (Dy.cl Dx Dyy .g) ?_
    refine s_ifgt A1 d2_49 (pY := 56) (pN := 52) (by decide) (by decide) rfl ?_ ?_
    · intro c49
      replace c49 := cmpI_gt c49
      refine s_iconst A1 d2_56 (pc' := 57) rfl (v := (0 : Int32)) (by decide) ?_
      refine s_goto A1 d2_57 (pc' := 99) (by decide) (by decide) ?_
      exact g_retZ X1 hx hlk hret (by decide) (hb hby d2_99) ⟨_, rfl, Or.inr ⟨by decide, by omega⟩, (Fr.app N0 N1), e1⟩ (by decide) (by decide)
    · intro c49
      replace c49 := cmpI_le c49
      refine s_iconst A1 d2_52 (pc' := 53) rfl (v := (1 : Int32)) (by decide) ?_
      refine s_goto A1 d2_53 (pc' := 99) (by decide) (by decide) ?_
      exact g_retZ X1 hx hlk hret (by decide) (hb hby d2_99) ⟨_, rfl, Or.inl ⟨by decide, by omega⟩, (Fr.app N0 N1), e1⟩ (by decide) (by decide)
  · refine s_tsw A1 d2_4 (o := 56) (pc' := 60) (by rw [ho, ko]; decide) (by rw [ho, ko]; rfl) (by decide) (by decide) ?_
    refine s_dloadN A1 d2_60 (pc' := 61) rfl rfl ?_
    refine s_dloadN A1 d2_61 (pc' := 62) rfl rfl ?_
    refine s_dcmp A1 d2_62 (pc' := 63) rfl (Dy.cl Dx Dyy .g) ?_
    refine s_ifge A1 d2_63 (pY := 70) (pN := 66) (by decide) (by decide) rfl ?_ ?_
    · intro c63
      replace c63 := cmpI_ge c63
      refine s_iconst A1 d2_70 (pc' := 71) rfl (v := (0 : Int32)) (by decide) ?_
      refine s_goto A1 d2_71 (pc' := 99) (by decide) (by decide) ?_
      exact g_retZ X1 hx hlk hret (by decide) (hb hby d2_99) ⟨_, rfl, Or.inr ⟨by decide, by omega⟩, (Fr.app N0 N1), e1⟩ (by decide) (by decide)
    · intro c63
      replace c63 := cmpI_lt c63
      refine s_iconst A1 d2_66 (pc' := 67) rfl (v := (1 : Int32)) (by decide) ?_
      refine s_goto A1 d2_67 (pc' := 99) (by decide) (by decide) ?_
      exact g_retZ X1 hx hlk hret (by decide) (hb hby d2_99) ⟨_, rfl, Or.inl ⟨by decide, by omega⟩, (Fr.app N0 N1), e1⟩ (by decide) (by decide)
  · refine s_tsw A1 d2_4 (o := 70) (pc' := 74) (by rw [ho, ko]; decide) (by rw [ho, ko]; rfl) (by decide) (by decide) ?_
    refine s_dloadN A1 d2_74 (pc' := 75) rfl rfl ?_
    refine s_dloadN A1 d2_75 (pc' := 76) rfl rfl ?_
    refine s_dcmp A1 d2_76 (pc' := 77) rfl (Dy.cl Dx Dyy .l) ?_
    refine s_iflt A1 d2_77 (pY := 84) (pN := 80) (by decide) (by decide) rfl ?_ ?_
    · intro c77
      replace c77 := cmpI_lt c77
      refine s_iconst A1 d2_84 (pc' := 85) rfl (v := (0 : Int32)) (by decide) ?_
      refine s_goto A1 d2_85 (pc' := 99) (by decide) (by decide) ?_
      exact g_retZ X1 hx hlk hret (by decide) (hb hby d2_99) ⟨_, rfl, Or.inr ⟨by decide, by omega⟩, (Fr.app N0 N1), e1⟩ (by decide) (by decide)
    · intro c77
      replace c77 := cmpI_ge c77
      refine s_iconst A1 d2_80 (pc' := 81) rfl (v := (1 : Int32)) (by decide) ?_
      refine s_goto A1 d2_81 (pc' := 99) (by decide) (by decide) ?_
      exact g_retZ X1 hx hlk hret (by decide) (hb hby d2_99) ⟨_, rfl, Or.inl ⟨by decide, by omega⟩, (Fr.app N0 N1), e1⟩ (by decide) (by decide)
  · refine s_tsw A1 d2_4 (o := 84) (pc' := 88) (by rw [ho, ko]; decide) (by rw [ho, ko]; rfl) (by decide) (by decide) ?_
    refine s_dloadN A1 d2_88 (pc' := 89) rfl rfl ?_
    refine s_dloadN A1 d2_89 (pc' := 90) rfl rfl ?_
    refine s_dcmp A1 d2_90 (pc' := 91) rfl (Dy.cl Dx Dyy .l) ?_
    refine s_ifle A1 d2_91 (pY := 98) (pN := 94) (by decide) (by decide) rfl ?_ ?_
    · intro c91
      replace c91 := cmpI_le c91
      refine s_iconst A1 d2_98 (pc' := 99) rfl (v := (0 : Int32)) (by decide) ?_
      exact g_retZ X1 hx hlk hret (by decide) (hb hby d2_99) ⟨_, rfl, Or.inr ⟨by decide, by omega⟩, (Fr.app N0 N1), e1⟩ (by decide) (by decide)
    · intro c91
      replace c91 := cmpI_gt c91
      refine s_iconst A1 d2_94 (pc' := 95) rfl (v := (1 : Int32)) (by decide) ?_
      refine s_goto A1 d2_95 (pc' := 99) (by decide) (by decide) ?_
      exact g_retZ X1 hx hlk hret (by decide) (hb hby d2_99) ⟨_, rfl, Or.inl ⟨by decide, by omega⟩, (Fr.app N0 N1), e1⟩ (by decide) (by decide)
theorem d4_0 : decode method_3_code 0 = .ok (.iload_n 0, 1) := by decide +kernel
theorem d4_1 : decode method_3_code 1 = .ok (.iconst 3, 1) := by decide +kernel
theorem d4_2 : decode method_3_code 2 = .ok (.iand, 1) := by decide +kernel
theorem d4_3 : decode method_3_code 3 = .ok (.istore_n 2, 1) := by decide +kernel
theorem d4_4 : decode method_3_code 4 = .ok (.iload_n 2, 1) := by decide +kernel
theorem d4_5 : decode method_3_code 5 = .ok (.ifCond .ne 14, 3) := by decide +kernel
theorem d4_8 : decode method_3_code 8 = .ok (.iload_n 1, 1) := by decide +kernel
theorem d4_9 : decode method_3_code 9 = .ok (.iconst 1, 1) := by decide +kernel
theorem d4_10 : decode method_3_code 10 = .ok (.if_icmp .eq 7, 3) := by decide +kernel
theorem d4_13 : decode method_3_code 13 = .ok (.iconst 1, 1) := by decide +kernel
theorem d4_14 : decode method_3_code 14 = .ok (.goto 4, 3) := by decide +kernel
theorem d4_17 : decode method_3_code 17 = .ok (.iconst 0, 1) := by decide +kernel
theorem d4_18 : decode method_3_code 18 = .ok (.ireturn, 1) := by decide +kernel
theorem d4_19 : decode method_3_code 19 = .ok (.iload_n 2, 1) := by decide +kernel
theorem d4_20 : decode method_3_code 20 = .ok (.iconst 1, 1) := by decide +kernel
theorem d4_21 : decode method_3_code 21 = .ok (.if_icmp .ne 14, 3) := by decide +kernel
theorem d4_24 : decode method_3_code 24 = .ok (.iload_n 1, 1) := by decide +kernel
theorem d4_25 : decode method_3_code 25 = .ok (.iconst (-1), 1) := by decide +kernel
theorem d4_26 : decode method_3_code 26 = .ok (.if_icmp .ne 7, 3) := by decide +kernel
theorem d4_29 : decode method_3_code 29 = .ok (.iconst 1, 1) := by decide +kernel
theorem d4_30 : decode method_3_code 30 = .ok (.goto 4, 3) := by decide +kernel
theorem d4_33 : decode method_3_code 33 = .ok (.iconst 0, 1) := by decide +kernel
theorem d4_34 : decode method_3_code 34 = .ok (.ireturn, 1) := by decide +kernel
theorem d4_35 : decode method_3_code 35 = .ok (.iload_n 2, 1) := by decide +kernel
theorem d4_36 : decode method_3_code 36 = .ok (.iconst 2, 1) := by decide +kernel
theorem d4_37 : decode method_3_code 37 = .ok (.if_icmp .ne 14, 3) := by decide +kernel
theorem d4_40 : decode method_3_code 40 = .ok (.iload_n 1, 1) := by decide +kernel
theorem d4_41 : decode method_3_code 41 = .ok (.iconst (-1), 1) := by decide +kernel
theorem d4_42 : decode method_3_code 42 = .ok (.if_icmp .eq 7, 3) := by decide +kernel
theorem d4_45 : decode method_3_code 45 = .ok (.iconst 1, 1) := by decide +kernel
theorem d4_46 : decode method_3_code 46 = .ok (.goto 4, 3) := by decide +kernel
theorem d4_49 : decode method_3_code 49 = .ok (.iconst 0, 1) := by decide +kernel
theorem d4_50 : decode method_3_code 50 = .ok (.ireturn, 1) := by decide +kernel
theorem d4_51 : decode method_3_code 51 = .ok (.iload_n 1, 1) := by decide +kernel
theorem d4_52 : decode method_3_code 52 = .ok (.iconst 1, 1) := by decide +kernel
theorem d4_53 : decode method_3_code 53 = .ok (.if_icmp .ne 7, 3) := by decide +kernel
theorem d4_56 : decode method_3_code 56 = .ok (.iconst 1, 1) := by decide +kernel
theorem d4_57 : decode method_3_code 57 = .ok (.goto 4, 3) := by decide +kernel
theorem d4_60 : decode method_3_code 60 = .ok (.iconst 0, 1) := by decide +kernel
theorem d4_61 : decode method_3_code 61 = .ok (.ireturn, 1) := by decide +kernel
theorem ef_c_exp (m : MethodId) (x0 : Int32) (x1 : Int32) : entryFrame m #[(.int x0), (.int x1)] 3 = mkF m 0 #[.val (.int x0), .val (.int x1), .unset] [] := by first | (simp [entryFrame, mkF, argsToLocals, Value.category, maxLocals]; done) | rfl
set_option maxRecDepth 65536 in
set_option maxHeartbeats 40000000 in
theorem c_exp (l : Launch) (Z : State) (a0 : Array Value) (hw : ∀ d ∈ tables_1, d.before a0 Z = true) (ws : List Jvm.Cond) (k s0 : Int32) (h0 : Heap) (n0 : Nat) (Z0 : n0 ≤ h0.size)  :
    Ctr l Z (⟨"com/example/exact_backup/exactbackup/expr/RelationHoldsPinLaw", "expected", "(II)Z"⟩ : MethodName) method_3_code 3 (some .boolean) ws ({ frames := 0, cells := 0, slots := 0, locals := 0 } : Room) #[(.int k), (.int s0)] h0 (fun v h L => ∃ z : Int32, v = some (.int z) ∧ (z.toInt = 1 ∧ ((k &&& 3).toInt = 0 ∧ s0.toInt ≠ 1 ∨ (k &&& 3).toInt = 1 ∧ s0.toInt = -1 ∨ (k &&& 3).toInt = 2 ∧ s0.toInt ≠ -1 ∨ (k &&& 3).toInt = 3 ∧ s0.toInt = 1) ∨ z.toInt = 0 ∧ ¬ ((k &&& 3).toInt = 0 ∧ s0.toInt ≠ 1 ∨ (k &&& 3).toInt = 1 ∧ s0.toInt = -1 ∨ (k &&& 3).toInt = 2 ∧ s0.toInt ≠ -1 ∨ (k &&& 3).toInt = 3 ∧ s0.toInt = 1)) ∧ Fr n0 L ∧ h = h0) := by
  refine enter pn_4 ?_
  intro p e s m below meth c T0 X0 hx hby hml hret hlk hZ hown hnm e0
  have A0 := wk X0 hx hby
  have N0 := Fr.nil n0
  refine goIn (ef_c_exp m k s0) ?_
  show Go p e below m (Fini s 0 0 (fun v h L => ∃ z : Int32, v = some (.int z) ∧ (z.toInt = 1 ∧ ((k &&& 3).toInt = 0 ∧ s0.toInt ≠ 1 ∨ (k &&& 3).toInt = 1 ∧ s0.toInt = -1 ∨ (k &&& 3).toInt = 2 ∧ s0.toInt ≠ -1 ∨ (k &&& 3).toInt = 3 ∧ s0.toInt = 1) ∨ z.toInt = 0 ∧ ¬ ((k &&& 3).toInt = 0 ∧ s0.toInt ≠ 1 ∨ (k &&& 3).toInt = 1 ∧ s0.toInt = -1 ∨ (k &&& 3).toInt = 2 ∧ s0.toInt ≠ -1 ∨ (k &&& 3).toInt = 3 ∧ s0.toInt = 1)) ∧ Fr n0 L ∧ h = h0)) T0 0 #[.val (.int k), .val (.int s0), .unset] []
  have bk := iand_b (M := 3) k 3 (by decide) (by decide)
  refine s_iloadN A0 d4_0 (pc' := 1) rfl rfl ?_
  refine s_iconst A0 d4_1 (pc' := 2) rfl (v := (3 : Int32)) (by decide) ?_
  refine s_iand A0 d4_2 (pc' := 3) rfl rfl ?_
  refine s_istoreN A0 d4_3 (pc' := 4) rfl (ls' := #[.val (.int k), .val (.int s0), .val (.int (k &&& 3))]) rfl ?_
  refine s_iloadN A0 d4_4 (pc' := 5) rfl rfl ?_
  refine s_ifne A0 d4_5 (pY := 19) (pN := 8) (by decide) (by decide) rfl ?_ ?_
  · intro c5
    replace c5 := iz_ne c5
    refine s_iloadN A0 d4_19 (pc' := 20) rfl rfl ?_
    refine s_iconst A0 d4_20 (pc' := 21) rfl (v := (1 : Int32)) (by decide) ?_
    refine s_icmpne A0 d4_21 (pY := 35) (pN := 24) (by decide) (by decide) rfl ?_ ?_
    · intro c21
      replace c21 := i_ne c21
      rw [show (1 : Int32).toInt = 1 from by decide] at c21
      refine s_iloadN A0 d4_35 (pc' := 36) rfl rfl ?_
      refine s_iconst A0 d4_36 (pc' := 37) rfl (v := (2 : Int32)) (by decide) ?_
      refine s_icmpne A0 d4_37 (pY := 51) (pN := 40) (by decide) (by decide) rfl ?_ ?_
      · intro c37
        replace c37 := i_ne c37
        rw [show (2 : Int32).toInt = 2 from by decide] at c37
        refine s_iloadN A0 d4_51 (pc' := 52) rfl rfl ?_
        refine s_iconst A0 d4_52 (pc' := 53) rfl (v := (1 : Int32)) (by decide) ?_
        refine s_icmpne A0 d4_53 (pY := 60) (pN := 56) (by decide) (by decide) rfl ?_ ?_
        · intro c53
          replace c53 := i_ne c53
          rw [show (1 : Int32).toInt = 1 from by decide] at c53
          refine s_iconst A0 d4_60 (pc' := 61) rfl (v := (0 : Int32)) (by decide) ?_
          exact g_retZ X0 hx hlk hret (by decide) (hb hby d4_61) ⟨_, rfl, Or.inr ⟨by decide, by omega⟩, N0, e0⟩ (by decide) (by decide)
        · intro c53
          replace c53 := i_eq c53
          rw [show (1 : Int32).toInt = 1 from by decide] at c53
          refine s_iconst A0 d4_56 (pc' := 57) rfl (v := (1 : Int32)) (by decide) ?_
          refine s_goto A0 d4_57 (pc' := 61) (by decide) (by decide) ?_
          exact g_retZ X0 hx hlk hret (by decide) (hb hby d4_61) ⟨_, rfl, Or.inl ⟨by decide, by omega⟩, N0, e0⟩ (by decide) (by decide)
      · intro c37
        replace c37 := i_eq c37
        rw [show (2 : Int32).toInt = 2 from by decide] at c37
        refine s_iloadN A0 d4_40 (pc' := 41) rfl rfl ?_
        refine s_iconst A0 d4_41 (pc' := 42) rfl (v := (-1 : Int32)) (by decide) ?_
        refine s_icmpeq A0 d4_42 (pY := 49) (pN := 45) (by decide) (by decide) rfl ?_ ?_
        · intro c42
          replace c42 := i_eq c42
          rw [show (-1 : Int32).toInt = -1 from by decide] at c42
          refine s_iconst A0 d4_49 (pc' := 50) rfl (v := (0 : Int32)) (by decide) ?_
          exact g_retZ X0 hx hlk hret (by decide) (hb hby d4_50) ⟨_, rfl, Or.inr ⟨by decide, by omega⟩, N0, e0⟩ (by decide) (by decide)
        · intro c42
          replace c42 := i_ne c42
          rw [show (-1 : Int32).toInt = -1 from by decide] at c42
          refine s_iconst A0 d4_45 (pc' := 46) rfl (v := (1 : Int32)) (by decide) ?_
          refine s_goto A0 d4_46 (pc' := 50) (by decide) (by decide) ?_
          exact g_retZ X0 hx hlk hret (by decide) (hb hby d4_50) ⟨_, rfl, Or.inl ⟨by decide, by omega⟩, N0, e0⟩ (by decide) (by decide)
    · intro c21
      replace c21 := i_eq c21
      rw [show (1 : Int32).toInt = 1 from by decide] at c21
      refine s_iloadN A0 d4_24 (pc' := 25) rfl rfl ?_
      refine s_iconst A0 d4_25 (pc' := 26) rfl (v := (-1 : Int32)) (by decide) ?_
      refine s_icmpne A0 d4_26 (pY := 33) (pN := 29) (by decide) (by decide) rfl ?_ ?_
      · intro c26
        replace c26 := i_ne c26
        rw [show (-1 : Int32).toInt = -1 from by decide] at c26
        refine s_iconst A0 d4_33 (pc' := 34) rfl (v := (0 : Int32)) (by decide) ?_
        exact g_retZ X0 hx hlk hret (by decide) (hb hby d4_34) ⟨_, rfl, Or.inr ⟨by decide, by omega⟩, N0, e0⟩ (by decide) (by decide)
      · intro c26
        replace c26 := i_eq c26
        rw [show (-1 : Int32).toInt = -1 from by decide] at c26
        refine s_iconst A0 d4_29 (pc' := 30) rfl (v := (1 : Int32)) (by decide) ?_
        refine s_goto A0 d4_30 (pc' := 34) (by decide) (by decide) ?_
        exact g_retZ X0 hx hlk hret (by decide) (hb hby d4_34) ⟨_, rfl, Or.inl ⟨by decide, by omega⟩, N0, e0⟩ (by decide) (by decide)
  · intro c5
    replace c5 := iz_eq c5
    refine s_iloadN A0 d4_8 (pc' := 9) rfl rfl ?_
    refine s_iconst A0 d4_9 (pc' := 10) rfl (v := (1 : Int32)) (by decide) ?_
    refine s_icmpeq A0 d4_10 (pY := 17) (pN := 13) (by decide) (by decide) rfl ?_ ?_
    · intro c10
      replace c10 := i_eq c10
      rw [show (1 : Int32).toInt = 1 from by decide] at c10
      refine s_iconst A0 d4_17 (pc' := 18) rfl (v := (0 : Int32)) (by decide) ?_
      exact g_retZ X0 hx hlk hret (by decide) (hb hby d4_18) ⟨_, rfl, Or.inr ⟨by decide, by omega⟩, N0, e0⟩ (by decide) (by decide)
    · intro c10
      replace c10 := i_ne c10
      rw [show (1 : Int32).toInt = 1 from by decide] at c10
      refine s_iconst A0 d4_13 (pc' := 14) rfl (v := (1 : Int32)) (by decide) ?_
      refine s_goto A0 d4_14 (pc' := 18) (by decide) (by decide) ?_
      exact g_retZ X0 hx hlk hret (by decide) (hb hby d4_18) ⟨_, rfl, Or.inl ⟨by decide, by omega⟩, N0, e0⟩ (by decide) (by decide)
theorem ef_c_law (m : MethodId) (x0 : Int32) (x1 : Int32) (x2 : Int32) (x3 : Int32) : entryFrame m #[(.int x0), (.int x1), (.int x2), (.int x3)] maxLocals = mkF m 0 #[.val (.int x0), .val (.int x1), .val (.int x2), .val (.int x3), .unset, .unset, .unset, .unset, .unset, .unset, .unset, .unset, .unset, .unset, .unset] [] := by first | (simp [entryFrame, mkF, argsToLocals, Value.category, maxLocals]; done) | rfl
set_option maxRecDepth 65536 in
set_option maxHeartbeats 40000000 in
theorem c_law (l : Launch) (Z : State) (a0 : Array Value) (hw : ∀ d ∈ tables_1, d.before a0 Z = true) (ws : List Jvm.Cond) (p0 p1 p2 p3 : Int32) (r0 r1 r2 r3 : Addr) (h0 : Heap) (n0 : Nat) (Z0 : n0 ≤ h0.size) (S0 : Sta Z h0 "com/example/exact_backup/exactbackup/expr/Relation" "LESS_EQUAL" "Lcom/example/exact_backup/exactbackup/expr/Relation;" (.ref r0)) (S1 : Sta Z h0 "com/example/exact_backup/exactbackup/expr/Relation" "LESS" "Lcom/example/exact_backup/exactbackup/expr/Relation;" (.ref r1)) (S2 : Sta Z h0 "com/example/exact_backup/exactbackup/expr/Relation" "GREATER_EQUAL" "Lcom/example/exact_backup/exactbackup/expr/Relation;" (.ref r2)) (S3 : Sta Z h0 "com/example/exact_backup/exactbackup/expr/Relation" "GREATER" "Lcom/example/exact_backup/exactbackup/expr/Relation;" (.ref r3)) (E0 : Exa Z h0 r0 "com/example/exact_backup/exactbackup/expr/Relation") (F0 : Fld Z h0 r0 "java/lang/Enum" "ordinal" "I" (.int 0)) (E1 : Exa Z h0 r1 "com/example/exact_backup/exactbackup/expr/Relation") (F1 : Fld Z h0 r1 "java/lang/Enum" "ordinal" "I" (.int 1)) (E2 : Exa Z h0 r2 "com/example/exact_backup/exactbackup/expr/Relation") (F2 : Fld Z h0 r2 "java/lang/Enum" "ordinal" "I" (.int 2)) (E3 : Exa Z h0 r3 "com/example/exact_backup/exactbackup/expr/Relation") (F3 : Fld Z h0 r3 "java/lang/Enum" "ordinal" "I" (.int 3)) :
    Ctr l Z x code maxLocals ret ws room_1 #[(.int p0), (.int p1), (.int p2), (.int p3)] h0 (fun v h L => v = some (.int 1) ∧ Fr n0 L) := by
  refine enter pn_0 ?_
  intro p e s m below meth c T0 X0 hx hby hml hret hlk hZ hown hnm e0
  have A0 := wk X0 hx hby
  have N0 := Fr.nil n0
  refine goIn (ef_c_law m p0 p1 p2 p3) ?_
  show Go p e below m (Fini s room_1.cells room_1.slots (fun v h L => v = some (.int 1) ∧ Fr n0 L)) T0 0 #[.val (.int p0), .val (.int p1), .val (.int p2), .val (.int p3), .unset, .unset, .unset, .unset, .unset, .unset, .unset, .unset, .unset, .unset, .unset] []
  have bk := iand_b (M := 3) p0 3 (by decide) (by decide)
  have b0 := i32b p0
  have b1 := i32b p1
  have b2 := i32b p2
  have b3 := i32b p3
  refine s_iloadN A0 at_0 (pc' := 1) rfl rfl ?_
  refine s_iconst A0 at_1 (pc' := 2) rfl (v := (3 : Int32)) (by decide) ?_
  obtain ⟨z1, hz1⟩ : ∃ v : Int32, (p3 &&& (3 : Int32)) = v := ⟨_, rfl⟩
  have q1 : 0 ≤ z1.toInt ∧ z1.toInt ≤ 3 := hz1 ▸ iand_b (M := 3) p3 (3 : Int32) (by decide) (by decide)
  refine s_iand A0 at_2 (pc' := 3) rfl hz1 ?_
  refine s_istore A0 at_3 (pc' := 5) rfl (ls' := #[.val (.int p0), .val (.int p1), .val (.int p2), .val (.int p3), .val (.int z1), .unset, .unset, .unset, .unset, .unset, .unset, .unset, .unset, .unset, .unset]) rfl ?_
  refine s_iloadN A0 at_5 (pc' := 6) rfl rfl ?_
  refine s_istore A0 at_6 (pc' := 8) rfl (ls' := #[.val (.int p0), .val (.int p1), .val (.int p2), .val (.int p3), .val (.int z1), .val (.int p2), .unset, .unset, .unset, .unset, .unset, .unset, .unset, .unset, .unset]) rfl ?_
  refine s_iload A0 at_8 (pc' := 10) rfl rfl ?_
  refine s_ifne A0 at_10 (pY := 16) (pN := 13) (by decide) (by decide) rfl ?_ ?_
  · intro c10
    replace c10 := iz_ne c10
    refine s_iloadN A0 at_16 (pc' := 17) rfl rfl ?_
    refine g_static X0 hx hZ (y := (⟨"com/example/exact_backup/exactbackup/expr/RelationHoldsPinLaw", "pick", "(I)Lcom/example/exact_backup/exactbackup/expr/Relation;"⟩ : MethodName)) hown (hw _ (List.mem_of_getElem? (i := 0) rfl)) (hw _ (List.mem_of_getElem? (i := 1) rfl)) (hw _ (List.mem_of_getElem? (i := 2) rfl)) (hw _ (List.mem_of_getElem? (i := 3) rfl)) (by decide) (argsL := [(.int p0)]) (rest := []) (c_pick l Z a0 hw [] p0 r0 r1 r2 r3 h0 n0 Z0 S0 S1 S2 S3) pd_1 rfl rfl (hb hby at_17) e0 (by rw [hml]; rfl) (pc' := 20) rfl (by decide) (W := 0) (Nat.le_of_eq rfl) (by decide) (by decide) (by decide) ?_
    intro v2 T2 L2 X2 hQ2
    have A2 := wk X2 hx hby
    have e2 : T2.heap = T2.heap := rfl
    obtain ⟨r, rfl, y0, y1, y2, y3, N2, hh2⟩ := hQ2
    rcases (by omega : (p0 &&& 3).toInt = 0 ∨ (p0 &&& 3).toInt = 1 ∨ (p0 &&& 3).toInt = 2 ∨ (p0 &&& 3).toInt = 3) with kk | kk | kk | kk
    · obtain rfl := (y0 kk).symm
      clear y0 y1 y2 y3
      have e2 : T2.heap = h0 := hh2
      show Go p e below m (Fini s room_1.cells room_1.slots (fun v h L => v = some (.int 1) ∧ Fr n0 L)) T2 20 #[.val (.int p0), .val (.int p1), .val (.int p2), .val (.int p3), .val (.int z1), .val (.int p2), .unset, .unset, .unset, .unset, .unset, .unset, .unset, .unset, .unset] [(.ref r0)]
      refine s_astore A2 at_20 (pc' := 22) rfl (ls' := #[.val (.int p0), .val (.int p1), .val (.int p2), .val (.int p3), .val (.int z1), .val (.int p2), .val (.ref r0), .unset, .unset, .unset, .unset, .unset, .unset, .unset, .unset]) rfl rfl ?_
      refine s_iloadN A2 at_22 (pc' := 23) rfl rfl ?_
      obtain ⟨z3, hz3⟩ : ∃ v : Int64, p1.toInt64 = v := ⟨_, rfl⟩
      have q3 : z3.toInt = p1.toInt := hz3 ▸ i2l_ex (n := p1.toInt) rfl
      refine s_i2l A2 at_23 (pc' := 24) rfl hz3 ?_
      refine s_iload A2 at_24 (pc' := 26) rfl rfl ?_
      obtain ⟨z4, hz4⟩ : ∃ v : Int64, p2.toInt64 = v := ⟨_, rfl⟩
      have q4 : z4.toInt = p2.toInt := hz4 ▸ i2l_ex (n := p2.toInt) rfl
      refine s_i2l A2 at_26 (pc' := 27) rfl hz4 ?_
      obtain ⟨z5, hz5⟩ : ∃ v : Int64, (z3 - z4) = v := ⟨_, rfl⟩
      have q5 : z5.toInt = (p1.toInt - p2.toInt) := hz5 ▸ lsub_ex (n := p1.toInt) (m := p2.toInt) q3 q4 (by omega)
      refine s_lsub A2 at_27 (pc' := 28) rfl hz5 ?_
      refine s_lstore A2 at_28 (pc' := 30) rfl (ls' := #[.val (.int p0), .val (.int p1), .val (.int p2), .val (.int p3), .val (.int z1), .val (.int p2), .val (.ref r0), .val (.long z5), .second, .unset, .unset, .unset, .unset, .unset, .unset]) rfl ?_
      refine s_lload A2 at_30 (pc' := 32) rfl rfl ?_
      refine s_lconst A2 at_32 (pc' := 33) rfl (v := 0) (by decide) ?_
      refine s_lcmp A2 at_33 (pc' := 34) rfl (cmpL_ex (n := (p1.toInt - p2.toInt)) (m := 0) q5 (by decide)) ?_
      refine s_ifge A2 at_34 (pY := 43) (pN := 37) (by decide) (by decide) rfl ?_ ?_
      · intro c34
        replace c34 := cmpI_ge c34
        refine s_lload A2 at_43 (pc' := 45) rfl rfl ?_
        refine s_lconst A2 at_45 (pc' := 46) rfl (v := 0) (by decide) ?_
        refine s_lcmp A2 at_46 (pc' := 47) rfl (cmpL_ex (n := (p1.toInt - p2.toInt)) (m := 0) q5 (by decide)) ?_
        refine s_ifne A2 at_47 (pY := 56) (pN := 50) (by decide) (by decide) rfl ?_ ?_
        · intro c47
          replace c47 := cmpI_ne c47
          refine s_iconst A2 at_56 (pc' := 57) rfl (v := (1 : Int32)) (by decide) ?_
          refine s_istore A2 at_57 (pc' := 59) rfl (ls' := #[.val (.int p0), .val (.int p1), .val (.int p2), .val (.int p3), .val (.int z1), .val (.int p2), .val (.ref r0), .val (.long z5), .second, .val (.int (1 : Int32)), .unset, .unset, .unset, .unset, .unset]) rfl ?_
          refine s_iloadN A2 at_59 (pc' := 60) rfl rfl ?_
          obtain ⟨z6, hz6⟩ : ∃ v : UInt64, FP.i2d p1 = v := ⟨_, rfl⟩
          have q6 : Dy p1.toInt 0 z6 := hz6 ▸ Dy.i2d' (n := p1.toInt) rfl
          refine s_i2d A2 at_60 (pc' := 61) rfl hz6 ?_
          refine s_dstore A2 at_61 (pc' := 63) rfl (ls' := #[.val (.int p0), .val (.int p1), .val (.int p2), .val (.int p3), .val (.int z1), .val (.int p2), .val (.ref r0), .val (.long z5), .second, .val (.int (1 : Int32)), .val (.double z6), .second, .unset, .unset, .unset]) rfl ?_
          refine s_iload A2 at_63 (pc' := 65) rfl rfl ?_
          obtain ⟨z7, hz7⟩ : ∃ v : UInt64, FP.i2d p2 = v := ⟨_, rfl⟩
          have q7 : Dy p2.toInt 0 z7 := hz7 ▸ Dy.i2d' (n := p2.toInt) rfl
          refine s_i2d A2 at_65 (pc' := 66) rfl hz7 ?_
          refine s_dstore A2 at_66 (pc' := 68) rfl (ls' := #[.val (.int p0), .val (.int p1), .val (.int p2), .val (.int p3), .val (.int z1), .val (.int p2), .val (.ref r0), .val (.long z5), .second, .val (.int (1 : Int32)), .val (.double z6), .second, .val (.double z7), .second, .unset]) rfl ?_
          refine s_aload A2 at_68 (pc' := 70) rfl rfl rfl ?_
          refine s_dload A2 at_70 (pc' := 72) rfl rfl ?_
          refine s_dload A2 at_72 (pc' := 74) rfl rfl ?_
          refine g_virtual X2 hx hZ (y := (⟨"com/example/exact_backup/exactbackup/expr/Relation", "holds", "(DD)Z"⟩ : MethodName)) hown (hw _ (List.mem_of_getElem? (i := 7) rfl)) (hw _ (List.mem_of_getElem? (i := 8) rfl)) (hw _ (List.mem_of_getElem? (i := 10) rfl)) (hw _ (List.mem_of_getElem? (i := 9) rfl)) (hw _ (List.mem_of_getElem? (i := 5) rfl)) (hw _ (List.mem_of_getElem? (i := 11) rfl)) (by decide) E0 (argsL := [(.double z6), (.double z7)]) (rest := []) (c_holds l Z a0 hw [] r0 0 z6 z7 0 p1.toInt p2.toInt h0 n0 Z0 E0 F0 (by decide) (by decide) q6 q7) pd_2 rfl rfl (hb hby at_74) e2 (by rw [hml]; rfl) (pc' := 77) rfl (by decide) (W := 0) (Nat.le_of_eq rfl) (by decide) (by decide) (by decide) ?_
          intro v8 T8 L8 X8 hQ8
          have A8 := wk X8 hx hby
          have e8 : T8.heap = T8.heap := rfl
          obtain ⟨z8, rfl, q8, N8, hh8⟩ := hQ8
          have e8 : T8.heap = h0 := hh8
          show Go p e below m (Fini s room_1.cells room_1.slots (fun v h L => v = some (.int 1) ∧ Fr n0 L)) T8 77 #[.val (.int p0), .val (.int p1), .val (.int p2), .val (.int p3), .val (.int z1), .val (.int p2), .val (.ref r0), .val (.long z5), .second, .val (.int (1 : Int32)), .val (.double z6), .second, .val (.double z7), .second, .unset] [(.int z8)]
          refine s_istore A8 at_77 (pc' := 79) rfl (ls' := #[.val (.int p0), .val (.int p1), .val (.int p2), .val (.int p3), .val (.int z1), .val (.int p2), .val (.ref r0), .val (.long z5), .second, .val (.int (1 : Int32)), .val (.double z6), .second, .val (.double z7), .second, .val (.int z8)]) rfl ?_
          refine s_iload A8 at_79 (pc' := 81) rfl rfl ?_
          refine s_iloadN A8 at_81 (pc' := 82) rfl rfl ?_
          refine s_iload A8 at_82 (pc' := 84) rfl rfl ?_
          refine g_static X8 hx hZ (y := (⟨"com/example/exact_backup/exactbackup/expr/RelationHoldsPinLaw", "expected", "(II)Z"⟩ : MethodName)) hown (hw _ (List.mem_of_getElem? (i := 21) rfl)) (hw _ (List.mem_of_getElem? (i := 22) rfl)) (hw _ (List.mem_of_getElem? (i := 2) rfl)) (hw _ (List.mem_of_getElem? (i := 23) rfl)) (by decide) (argsL := [(.int p0), (.int (1 : Int32))]) (rest := [(.int z8)]) (c_exp l Z a0 hw [] p0 (1 : Int32) h0 n0 Z0) pd_3 rfl rfl (hb hby at_84) e8 (by rw [hml]; rfl) (pc' := 87) rfl (by decide) (W := 1) (Nat.le_of_eq rfl) (by decide) (by decide) (by decide) ?_
          intro v9 T9 L9 X9 hQ9
          have A9 := wk X9 hx hby
          have e9 : T9.heap = T9.heap := rfl
          obtain ⟨z9, rfl, q9, N9, hh9⟩ := hQ9
          rw [show (1 : Int32).toInt = 1 from by decide] at q9
          have e9 : T9.heap = h0 := hh9
          show Go p e below m (Fini s room_1.cells room_1.slots (fun v h L => v = some (.int 1) ∧ Fr n0 L)) T9 87 #[.val (.int p0), .val (.int p1), .val (.int p2), .val (.int p3), .val (.int z1), .val (.int p2), .val (.ref r0), .val (.long z5), .second, .val (.int (1 : Int32)), .val (.double z6), .second, .val (.double z7), .second, .val (.int z8)] [(.int z9), (.int z8)]
          refine s_icmpne A9 at_87 (pY := 94) (pN := 90) (by decide) (by decide) rfl ?_ ?_
          · intro c87
            replace c87 := i_ne c87
            refine s_iconst A9 at_94 (pc' := 95) rfl (v := (0 : Int32)) (by decide) ?_
            exfalso; omega
          · intro c87
            replace c87 := i_eq c87
            refine s_iconst A9 at_90 (pc' := 91) rfl (v := (1 : Int32)) (by decide) ?_
            refine s_goto A9 at_91 (pc' := 95) (by decide) (by decide) ?_
            exact g_retZ X9 hx hlk hret (by decide) (hb hby at_95) ⟨rfl, (Fr.app (Fr.app (Fr.app N0 N2) N8) N9)⟩ (by decide) (by decide)
        · intro c47
          replace c47 := cmpI_eq c47
          refine s_iconst A2 at_50 (pc' := 51) rfl (v := (0 : Int32)) (by decide) ?_
          refine s_istore A2 at_51 (pc' := 53) rfl (ls' := #[.val (.int p0), .val (.int p1), .val (.int p2), .val (.int p3), .val (.int z1), .val (.int p2), .val (.ref r0), .val (.long z5), .second, .val (.int (0 : Int32)), .unset, .unset, .unset, .unset, .unset]) rfl ?_
          refine s_goto A2 at_53 (pc' := 59) (by decide) (by decide) ?_
          refine s_iloadN A2 at_59 (pc' := 60) rfl rfl ?_
          obtain ⟨z10, hz10⟩ : ∃ v : UInt64, FP.i2d p1 = v := ⟨_, rfl⟩
          have q10 : Dy p1.toInt 0 z10 := hz10 ▸ Dy.i2d' (n := p1.toInt) rfl
          refine s_i2d A2 at_60 (pc' := 61) rfl hz10 ?_
          refine s_dstore A2 at_61 (pc' := 63) rfl (ls' := #[.val (.int p0), .val (.int p1), .val (.int p2), .val (.int p3), .val (.int z1), .val (.int p2), .val (.ref r0), .val (.long z5), .second, .val (.int (0 : Int32)), .val (.double z10), .second, .unset, .unset, .unset]) rfl ?_
          refine s_iload A2 at_63 (pc' := 65) rfl rfl ?_
          obtain ⟨z11, hz11⟩ : ∃ v : UInt64, FP.i2d p2 = v := ⟨_, rfl⟩
          have q11 : Dy p2.toInt 0 z11 := hz11 ▸ Dy.i2d' (n := p2.toInt) rfl
          refine s_i2d A2 at_65 (pc' := 66) rfl hz11 ?_
          refine s_dstore A2 at_66 (pc' := 68) rfl (ls' := #[.val (.int p0), .val (.int p1), .val (.int p2), .val (.int p3), .val (.int z1), .val (.int p2), .val (.ref r0), .val (.long z5), .second, .val (.int (0 : Int32)), .val (.double z10), .second, .val (.double z11), .second, .unset]) rfl ?_
          refine s_aload A2 at_68 (pc' := 70) rfl rfl rfl ?_
          refine s_dload A2 at_70 (pc' := 72) rfl rfl ?_
          refine s_dload A2 at_72 (pc' := 74) rfl rfl ?_
          refine g_virtual X2 hx hZ (y := (⟨"com/example/exact_backup/exactbackup/expr/Relation", "holds", "(DD)Z"⟩ : MethodName)) hown (hw _ (List.mem_of_getElem? (i := 7) rfl)) (hw _ (List.mem_of_getElem? (i := 8) rfl)) (hw _ (List.mem_of_getElem? (i := 10) rfl)) (hw _ (List.mem_of_getElem? (i := 9) rfl)) (hw _ (List.mem_of_getElem? (i := 5) rfl)) (hw _ (List.mem_of_getElem? (i := 11) rfl)) (by decide) E0 (argsL := [(.double z10), (.double z11)]) (rest := []) (c_holds l Z a0 hw [] r0 0 z10 z11 0 p1.toInt p2.toInt h0 n0 Z0 E0 F0 (by decide) (by decide) q10 q11) pd_2 rfl rfl (hb hby at_74) e2 (by rw [hml]; rfl) (pc' := 77) rfl (by decide) (W := 0) (Nat.le_of_eq rfl) (by decide) (by decide) (by decide) ?_
          intro v12 T12 L12 X12 hQ12
          have A12 := wk X12 hx hby
          have e12 : T12.heap = T12.heap := rfl
          obtain ⟨z12, rfl, q12, N12, hh12⟩ := hQ12
          have e12 : T12.heap = h0 := hh12
          show Go p e below m (Fini s room_1.cells room_1.slots (fun v h L => v = some (.int 1) ∧ Fr n0 L)) T12 77 #[.val (.int p0), .val (.int p1), .val (.int p2), .val (.int p3), .val (.int z1), .val (.int p2), .val (.ref r0), .val (.long z5), .second, .val (.int (0 : Int32)), .val (.double z10), .second, .val (.double z11), .second, .unset] [(.int z12)]
          refine s_istore A12 at_77 (pc' := 79) rfl (ls' := #[.val (.int p0), .val (.int p1), .val (.int p2), .val (.int p3), .val (.int z1), .val (.int p2), .val (.ref r0), .val (.long z5), .second, .val (.int (0 : Int32)), .val (.double z10), .second, .val (.double z11), .second, .val (.int z12)]) rfl ?_
          refine s_iload A12 at_79 (pc' := 81) rfl rfl ?_
          refine s_iloadN A12 at_81 (pc' := 82) rfl rfl ?_
          refine s_iload A12 at_82 (pc' := 84) rfl rfl ?_
          refine g_static X12 hx hZ (y := (⟨"com/example/exact_backup/exactbackup/expr/RelationHoldsPinLaw", "expected", "(II)Z"⟩ : MethodName)) hown (hw _ (List.mem_of_getElem? (i := 21) rfl)) (hw _ (List.mem_of_getElem? (i := 22) rfl)) (hw _ (List.mem_of_getElem? (i := 2) rfl)) (hw _ (List.mem_of_getElem? (i := 23) rfl)) (by decide) (argsL := [(.int p0), (.int (0 : Int32))]) (rest := [(.int z12)]) (c_exp l Z a0 hw [] p0 (0 : Int32) h0 n0 Z0) pd_3 rfl rfl (hb hby at_84) e12 (by rw [hml]; rfl) (pc' := 87) rfl (by decide) (W := 1) (Nat.le_of_eq rfl) (by decide) (by decide) (by decide) ?_
          intro v13 T13 L13 X13 hQ13
          have A13 := wk X13 hx hby
          have e13 : T13.heap = T13.heap := rfl
          obtain ⟨z13, rfl, q13, N13, hh13⟩ := hQ13
          rw [show (0 : Int32).toInt = 0 from by decide] at q13
          have e13 : T13.heap = h0 := hh13
          show Go p e below m (Fini s room_1.cells room_1.slots (fun v h L => v = some (.int 1) ∧ Fr n0 L)) T13 87 #[.val (.int p0), .val (.int p1), .val (.int p2), .val (.int p3), .val (.int z1), .val (.int p2), .val (.ref r0), .val (.long z5), .second, .val (.int (0 : Int32)), .val (.double z10), .second, .val (.double z11), .second, .val (.int z12)] [(.int z13), (.int z12)]
          refine s_icmpne A13 at_87 (pY := 94) (pN := 90) (by decide) (by decide) rfl ?_ ?_
          · intro c87
            replace c87 := i_ne c87
            refine s_iconst A13 at_94 (pc' := 95) rfl (v := (0 : Int32)) (by decide) ?_
            exfalso; omega
          · intro c87
            replace c87 := i_eq c87
            refine s_iconst A13 at_90 (pc' := 91) rfl (v := (1 : Int32)) (by decide) ?_
            refine s_goto A13 at_91 (pc' := 95) (by decide) (by decide) ?_
            exact g_retZ X13 hx hlk hret (by decide) (hb hby at_95) ⟨rfl, (Fr.app (Fr.app (Fr.app N0 N2) N12) N13)⟩ (by decide) (by decide)
      · intro c34
        replace c34 := cmpI_lt c34
        refine s_iconst A2 at_37 (pc' := 38) rfl (v := (-1 : Int32)) (by decide) ?_
        refine s_istore A2 at_38 (pc' := 40) rfl (ls' := #[.val (.int p0), .val (.int p1), .val (.int p2), .val (.int p3), .val (.int z1), .val (.int p2), .val (.ref r0), .val (.long z5), .second, .val (.int (-1 : Int32)), .unset, .unset, .unset, .unset, .unset]) rfl ?_
        refine s_goto A2 at_40 (pc' := 59) (by decide) (by decide) ?_
        refine s_iloadN A2 at_59 (pc' := 60) rfl rfl ?_
        obtain ⟨z14, hz14⟩ : ∃ v : UInt64, FP.i2d p1 = v := ⟨_, rfl⟩
        have q14 : Dy p1.toInt 0 z14 := hz14 ▸ Dy.i2d' (n := p1.toInt) rfl
        refine s_i2d A2 at_60 (pc' := 61) rfl hz14 ?_
        refine s_dstore A2 at_61 (pc' := 63) rfl (ls' := #[.val (.int p0), .val (.int p1), .val (.int p2), .val (.int p3), .val (.int z1), .val (.int p2), .val (.ref r0), .val (.long z5), .second, .val (.int (-1 : Int32)), .val (.double z14), .second, .unset, .unset, .unset]) rfl ?_
        refine s_iload A2 at_63 (pc' := 65) rfl rfl ?_
        obtain ⟨z15, hz15⟩ : ∃ v : UInt64, FP.i2d p2 = v := ⟨_, rfl⟩
        have q15 : Dy p2.toInt 0 z15 := hz15 ▸ Dy.i2d' (n := p2.toInt) rfl
        refine s_i2d A2 at_65 (pc' := 66) rfl hz15 ?_
        refine s_dstore A2 at_66 (pc' := 68) rfl (ls' := #[.val (.int p0), .val (.int p1), .val (.int p2), .val (.int p3), .val (.int z1), .val (.int p2), .val (.ref r0), .val (.long z5), .second, .val (.int (-1 : Int32)), .val (.double z14), .second, .val (.double z15), .second, .unset]) rfl ?_
        refine s_aload A2 at_68 (pc' := 70) rfl rfl rfl ?_
        refine s_dload A2 at_70 (pc' := 72) rfl rfl ?_
        refine s_dload A2 at_72 (pc' := 74) rfl rfl ?_
        refine g_virtual X2 hx hZ (y := (⟨"com/example/exact_backup/exactbackup/expr/Relation", "holds", "(DD)Z"⟩ : MethodName)) hown (hw _ (List.mem_of_getElem? (i := 7) rfl)) (hw _ (List.mem_of_getElem? (i := 8) rfl)) (hw _ (List.mem_of_getElem? (i := 10) rfl)) (hw _ (List.mem_of_getElem? (i := 9) rfl)) (hw _ (List.mem_of_getElem? (i := 5) rfl)) (hw _ (List.mem_of_getElem? (i := 11) rfl)) (by decide) E0 (argsL := [(.double z14), (.double z15)]) (rest := []) (c_holds l Z a0 hw [] r0 0 z14 z15 0 p1.toInt p2.toInt h0 n0 Z0 E0 F0 (by decide) (by decide) q14 q15) pd_2 rfl rfl (hb hby at_74) e2 (by rw [hml]; rfl) (pc' := 77) rfl (by decide) (W := 0) (Nat.le_of_eq rfl) (by decide) (by decide) (by decide) ?_
        intro v16 T16 L16 X16 hQ16
        have A16 := wk X16 hx hby
        have e16 : T16.heap = T16.heap := rfl
        obtain ⟨z16, rfl, q16, N16, hh16⟩ := hQ16
        have e16 : T16.heap = h0 := hh16
        show Go p e below m (Fini s room_1.cells room_1.slots (fun v h L => v = some (.int 1) ∧ Fr n0 L)) T16 77 #[.val (.int p0), .val (.int p1), .val (.int p2), .val (.int p3), .val (.int z1), .val (.int p2), .val (.ref r0), .val (.long z5), .second, .val (.int (-1 : Int32)), .val (.double z14), .second, .val (.double z15), .second, .unset] [(.int z16)]
        refine s_istore A16 at_77 (pc' := 79) rfl (ls' := #[.val (.int p0), .val (.int p1), .val (.int p2), .val (.int p3), .val (.int z1), .val (.int p2), .val (.ref r0), .val (.long z5), .second, .val (.int (-1 : Int32)), .val (.double z14), .second, .val (.double z15), .second, .val (.int z16)]) rfl ?_
        refine s_iload A16 at_79 (pc' := 81) rfl rfl ?_
        refine s_iloadN A16 at_81 (pc' := 82) rfl rfl ?_
        refine s_iload A16 at_82 (pc' := 84) rfl rfl ?_
        refine g_static X16 hx hZ (y := (⟨"com/example/exact_backup/exactbackup/expr/RelationHoldsPinLaw", "expected", "(II)Z"⟩ : MethodName)) hown (hw _ (List.mem_of_getElem? (i := 21) rfl)) (hw _ (List.mem_of_getElem? (i := 22) rfl)) (hw _ (List.mem_of_getElem? (i := 2) rfl)) (hw _ (List.mem_of_getElem? (i := 23) rfl)) (by decide) (argsL := [(.int p0), (.int (-1 : Int32))]) (rest := [(.int z16)]) (c_exp l Z a0 hw [] p0 (-1 : Int32) h0 n0 Z0) pd_3 rfl rfl (hb hby at_84) e16 (by rw [hml]; rfl) (pc' := 87) rfl (by decide) (W := 1) (Nat.le_of_eq rfl) (by decide) (by decide) (by decide) ?_
        intro v17 T17 L17 X17 hQ17
        have A17 := wk X17 hx hby
        have e17 : T17.heap = T17.heap := rfl
        obtain ⟨z17, rfl, q17, N17, hh17⟩ := hQ17
        rw [show (-1 : Int32).toInt = -1 from by decide] at q17
        have e17 : T17.heap = h0 := hh17
        show Go p e below m (Fini s room_1.cells room_1.slots (fun v h L => v = some (.int 1) ∧ Fr n0 L)) T17 87 #[.val (.int p0), .val (.int p1), .val (.int p2), .val (.int p3), .val (.int z1), .val (.int p2), .val (.ref r0), .val (.long z5), .second, .val (.int (-1 : Int32)), .val (.double z14), .second, .val (.double z15), .second, .val (.int z16)] [(.int z17), (.int z16)]
        refine s_icmpne A17 at_87 (pY := 94) (pN := 90) (by decide) (by decide) rfl ?_ ?_
        · intro c87
          replace c87 := i_ne c87
          refine s_iconst A17 at_94 (pc' := 95) rfl (v := (0 : Int32)) (by decide) ?_
          exfalso; omega
        · intro c87
          replace c87 := i_eq c87
          refine s_iconst A17 at_90 (pc' := 91) rfl (v := (1 : Int32)) (by decide) ?_
          refine s_goto A17 at_91 (pc' := 95) (by decide) (by decide) ?_
          exact g_retZ X17 hx hlk hret (by decide) (hb hby at_95) ⟨rfl, (Fr.app (Fr.app (Fr.app N0 N2) N16) N17)⟩ (by decide) (by decide)
    · obtain rfl := (y1 kk).symm
      clear y0 y1 y2 y3
      have e2 : T2.heap = h0 := hh2
      show Go p e below m (Fini s room_1.cells room_1.slots (fun v h L => v = some (.int 1) ∧ Fr n0 L)) T2 20 #[.val (.int p0), .val (.int p1), .val (.int p2), .val (.int p3), .val (.int z1), .val (.int p2), .unset, .unset, .unset, .unset, .unset, .unset, .unset, .unset, .unset] [(.ref r1)]
      refine s_astore A2 at_20 (pc' := 22) rfl (ls' := #[.val (.int p0), .val (.int p1), .val (.int p2), .val (.int p3), .val (.int z1), .val (.int p2), .val (.ref r1), .unset, .unset, .unset, .unset, .unset, .unset, .unset, .unset]) rfl rfl ?_
      refine s_iloadN A2 at_22 (pc' := 23) rfl rfl ?_
      obtain ⟨z18, hz18⟩ : ∃ v : Int64, p1.toInt64 = v := ⟨_, rfl⟩
      have q18 : z18.toInt = p1.toInt := hz18 ▸ i2l_ex (n := p1.toInt) rfl
      refine s_i2l A2 at_23 (pc' := 24) rfl hz18 ?_
      refine s_iload A2 at_24 (pc' := 26) rfl rfl ?_
      obtain ⟨z19, hz19⟩ : ∃ v : Int64, p2.toInt64 = v := ⟨_, rfl⟩
      have q19 : z19.toInt = p2.toInt := hz19 ▸ i2l_ex (n := p2.toInt) rfl
      refine s_i2l A2 at_26 (pc' := 27) rfl hz19 ?_
      obtain ⟨z20, hz20⟩ : ∃ v : Int64, (z18 - z19) = v := ⟨_, rfl⟩
      have q20 : z20.toInt = (p1.toInt - p2.toInt) := hz20 ▸ lsub_ex (n := p1.toInt) (m := p2.toInt) q18 q19 (by omega)
      refine s_lsub A2 at_27 (pc' := 28) rfl hz20 ?_
      refine s_lstore A2 at_28 (pc' := 30) rfl (ls' := #[.val (.int p0), .val (.int p1), .val (.int p2), .val (.int p3), .val (.int z1), .val (.int p2), .val (.ref r1), .val (.long z20), .second, .unset, .unset, .unset, .unset, .unset, .unset]) rfl ?_
      refine s_lload A2 at_30 (pc' := 32) rfl rfl ?_
      refine s_lconst A2 at_32 (pc' := 33) rfl (v := 0) (by decide) ?_
      refine s_lcmp A2 at_33 (pc' := 34) rfl (cmpL_ex (n := (p1.toInt - p2.toInt)) (m := 0) q20 (by decide)) ?_
      refine s_ifge A2 at_34 (pY := 43) (pN := 37) (by decide) (by decide) rfl ?_ ?_
      · intro c34
        replace c34 := cmpI_ge c34
        refine s_lload A2 at_43 (pc' := 45) rfl rfl ?_
        refine s_lconst A2 at_45 (pc' := 46) rfl (v := 0) (by decide) ?_
        refine s_lcmp A2 at_46 (pc' := 47) rfl (cmpL_ex (n := (p1.toInt - p2.toInt)) (m := 0) q20 (by decide)) ?_
        refine s_ifne A2 at_47 (pY := 56) (pN := 50) (by decide) (by decide) rfl ?_ ?_
        · intro c47
          replace c47 := cmpI_ne c47
          refine s_iconst A2 at_56 (pc' := 57) rfl (v := (1 : Int32)) (by decide) ?_
          refine s_istore A2 at_57 (pc' := 59) rfl (ls' := #[.val (.int p0), .val (.int p1), .val (.int p2), .val (.int p3), .val (.int z1), .val (.int p2), .val (.ref r1), .val (.long z20), .second, .val (.int (1 : Int32)), .unset, .unset, .unset, .unset, .unset]) rfl ?_
          refine s_iloadN A2 at_59 (pc' := 60) rfl rfl ?_
          obtain ⟨z21, hz21⟩ : ∃ v : UInt64, FP.i2d p1 = v := ⟨_, rfl⟩
          have q21 : Dy p1.toInt 0 z21 := hz21 ▸ Dy.i2d' (n := p1.toInt) rfl
          refine s_i2d A2 at_60 (pc' := 61) rfl hz21 ?_
          refine s_dstore A2 at_61 (pc' := 63) rfl (ls' := #[.val (.int p0), .val (.int p1), .val (.int p2), .val (.int p3), .val (.int z1), .val (.int p2), .val (.ref r1), .val (.long z20), .second, .val (.int (1 : Int32)), .val (.double z21), .second, .unset, .unset, .unset]) rfl ?_
          refine s_iload A2 at_63 (pc' := 65) rfl rfl ?_
          obtain ⟨z22, hz22⟩ : ∃ v : UInt64, FP.i2d p2 = v := ⟨_, rfl⟩
          have q22 : Dy p2.toInt 0 z22 := hz22 ▸ Dy.i2d' (n := p2.toInt) rfl
          refine s_i2d A2 at_65 (pc' := 66) rfl hz22 ?_
          refine s_dstore A2 at_66 (pc' := 68) rfl (ls' := #[.val (.int p0), .val (.int p1), .val (.int p2), .val (.int p3), .val (.int z1), .val (.int p2), .val (.ref r1), .val (.long z20), .second, .val (.int (1 : Int32)), .val (.double z21), .second, .val (.double z22), .second, .unset]) rfl ?_
          refine s_aload A2 at_68 (pc' := 70) rfl rfl rfl ?_
          refine s_dload A2 at_70 (pc' := 72) rfl rfl ?_
          refine s_dload A2 at_72 (pc' := 74) rfl rfl ?_
          refine g_virtual X2 hx hZ (y := (⟨"com/example/exact_backup/exactbackup/expr/Relation", "holds", "(DD)Z"⟩ : MethodName)) hown (hw _ (List.mem_of_getElem? (i := 7) rfl)) (hw _ (List.mem_of_getElem? (i := 8) rfl)) (hw _ (List.mem_of_getElem? (i := 10) rfl)) (hw _ (List.mem_of_getElem? (i := 9) rfl)) (hw _ (List.mem_of_getElem? (i := 5) rfl)) (hw _ (List.mem_of_getElem? (i := 11) rfl)) (by decide) E1 (argsL := [(.double z21), (.double z22)]) (rest := []) (c_holds l Z a0 hw [] r1 1 z21 z22 1 p1.toInt p2.toInt h0 n0 Z0 E1 F1 (by decide) (by decide) q21 q22) pd_2 rfl rfl (hb hby at_74) e2 (by rw [hml]; rfl) (pc' := 77) rfl (by decide) (W := 0) (Nat.le_of_eq rfl) (by decide) (by decide) (by decide) ?_
          intro v23 T23 L23 X23 hQ23
          have A23 := wk X23 hx hby
          have e23 : T23.heap = T23.heap := rfl
          obtain ⟨z23, rfl, q23, N23, hh23⟩ := hQ23
          have e23 : T23.heap = h0 := hh23
          show Go p e below m (Fini s room_1.cells room_1.slots (fun v h L => v = some (.int 1) ∧ Fr n0 L)) T23 77 #[.val (.int p0), .val (.int p1), .val (.int p2), .val (.int p3), .val (.int z1), .val (.int p2), .val (.ref r1), .val (.long z20), .second, .val (.int (1 : Int32)), .val (.double z21), .second, .val (.double z22), .second, .unset] [(.int z23)]
          refine s_istore A23 at_77 (pc' := 79) rfl (ls' := #[.val (.int p0), .val (.int p1), .val (.int p2), .val (.int p3), .val (.int z1), .val (.int p2), .val (.ref r1), .val (.long z20), .second, .val (.int (1 : Int32)), .val (.double z21), .second, .val (.double z22), .second, .val (.int z23)]) rfl ?_
          refine s_iload A23 at_79 (pc' := 81) rfl rfl ?_
          refine s_iloadN A23 at_81 (pc' := 82) rfl rfl ?_
          refine s_iload A23 at_82 (pc' := 84) rfl rfl ?_
          refine g_static X23 hx hZ (y := (⟨"com/example/exact_backup/exactbackup/expr/RelationHoldsPinLaw", "expected", "(II)Z"⟩ : MethodName)) hown (hw _ (List.mem_of_getElem? (i := 21) rfl)) (hw _ (List.mem_of_getElem? (i := 22) rfl)) (hw _ (List.mem_of_getElem? (i := 2) rfl)) (hw _ (List.mem_of_getElem? (i := 23) rfl)) (by decide) (argsL := [(.int p0), (.int (1 : Int32))]) (rest := [(.int z23)]) (c_exp l Z a0 hw [] p0 (1 : Int32) h0 n0 Z0) pd_3 rfl rfl (hb hby at_84) e23 (by rw [hml]; rfl) (pc' := 87) rfl (by decide) (W := 1) (Nat.le_of_eq rfl) (by decide) (by decide) (by decide) ?_
          intro v24 T24 L24 X24 hQ24
          have A24 := wk X24 hx hby
          have e24 : T24.heap = T24.heap := rfl
          obtain ⟨z24, rfl, q24, N24, hh24⟩ := hQ24
          rw [show (1 : Int32).toInt = 1 from by decide] at q24
          have e24 : T24.heap = h0 := hh24
          show Go p e below m (Fini s room_1.cells room_1.slots (fun v h L => v = some (.int 1) ∧ Fr n0 L)) T24 87 #[.val (.int p0), .val (.int p1), .val (.int p2), .val (.int p3), .val (.int z1), .val (.int p2), .val (.ref r1), .val (.long z20), .second, .val (.int (1 : Int32)), .val (.double z21), .second, .val (.double z22), .second, .val (.int z23)] [(.int z24), (.int z23)]
          refine s_icmpne A24 at_87 (pY := 94) (pN := 90) (by decide) (by decide) rfl ?_ ?_
          · intro c87
            replace c87 := i_ne c87
            refine s_iconst A24 at_94 (pc' := 95) rfl (v := (0 : Int32)) (by decide) ?_
            exfalso; omega
          · intro c87
            replace c87 := i_eq c87
            refine s_iconst A24 at_90 (pc' := 91) rfl (v := (1 : Int32)) (by decide) ?_
            refine s_goto A24 at_91 (pc' := 95) (by decide) (by decide) ?_
            exact g_retZ X24 hx hlk hret (by decide) (hb hby at_95) ⟨rfl, (Fr.app (Fr.app (Fr.app N0 N2) N23) N24)⟩ (by decide) (by decide)
        · intro c47
          replace c47 := cmpI_eq c47
          refine s_iconst A2 at_50 (pc' := 51) rfl (v := (0 : Int32)) (by decide) ?_
          refine s_istore A2 at_51 (pc' := 53) rfl (ls' := #[.val (.int p0), .val (.int p1), .val (.int p2), .val (.int p3), .val (.int z1), .val (.int p2), .val (.ref r1), .val (.long z20), .second, .val (.int (0 : Int32)), .unset, .unset, .unset, .unset, .unset]) rfl ?_
          refine s_goto A2 at_53 (pc' := 59) (by decide) (by decide) ?_
          refine s_iloadN A2 at_59 (pc' := 60) rfl rfl ?_
          obtain ⟨z25, hz25⟩ : ∃ v : UInt64, FP.i2d p1 = v := ⟨_, rfl⟩
          have q25 : Dy p1.toInt 0 z25 := hz25 ▸ Dy.i2d' (n := p1.toInt) rfl
          refine s_i2d A2 at_60 (pc' := 61) rfl hz25 ?_
          refine s_dstore A2 at_61 (pc' := 63) rfl (ls' := #[.val (.int p0), .val (.int p1), .val (.int p2), .val (.int p3), .val (.int z1), .val (.int p2), .val (.ref r1), .val (.long z20), .second, .val (.int (0 : Int32)), .val (.double z25), .second, .unset, .unset, .unset]) rfl ?_
          refine s_iload A2 at_63 (pc' := 65) rfl rfl ?_
          obtain ⟨z26, hz26⟩ : ∃ v : UInt64, FP.i2d p2 = v := ⟨_, rfl⟩
          have q26 : Dy p2.toInt 0 z26 := hz26 ▸ Dy.i2d' (n := p2.toInt) rfl
          refine s_i2d A2 at_65 (pc' := 66) rfl hz26 ?_
          refine s_dstore A2 at_66 (pc' := 68) rfl (ls' := #[.val (.int p0), .val (.int p1), .val (.int p2), .val (.int p3), .val (.int z1), .val (.int p2), .val (.ref r1), .val (.long z20), .second, .val (.int (0 : Int32)), .val (.double z25), .second, .val (.double z26), .second, .unset]) rfl ?_
          refine s_aload A2 at_68 (pc' := 70) rfl rfl rfl ?_
          refine s_dload A2 at_70 (pc' := 72) rfl rfl ?_
          refine s_dload A2 at_72 (pc' := 74) rfl rfl ?_
          refine g_virtual X2 hx hZ (y := (⟨"com/example/exact_backup/exactbackup/expr/Relation", "holds", "(DD)Z"⟩ : MethodName)) hown (hw _ (List.mem_of_getElem? (i := 7) rfl)) (hw _ (List.mem_of_getElem? (i := 8) rfl)) (hw _ (List.mem_of_getElem? (i := 10) rfl)) (hw _ (List.mem_of_getElem? (i := 9) rfl)) (hw _ (List.mem_of_getElem? (i := 5) rfl)) (hw _ (List.mem_of_getElem? (i := 11) rfl)) (by decide) E1 (argsL := [(.double z25), (.double z26)]) (rest := []) (c_holds l Z a0 hw [] r1 1 z25 z26 1 p1.toInt p2.toInt h0 n0 Z0 E1 F1 (by decide) (by decide) q25 q26) pd_2 rfl rfl (hb hby at_74) e2 (by rw [hml]; rfl) (pc' := 77) rfl (by decide) (W := 0) (Nat.le_of_eq rfl) (by decide) (by decide) (by decide) ?_
          intro v27 T27 L27 X27 hQ27
          have A27 := wk X27 hx hby
          have e27 : T27.heap = T27.heap := rfl
          obtain ⟨z27, rfl, q27, N27, hh27⟩ := hQ27
          have e27 : T27.heap = h0 := hh27
          show Go p e below m (Fini s room_1.cells room_1.slots (fun v h L => v = some (.int 1) ∧ Fr n0 L)) T27 77 #[.val (.int p0), .val (.int p1), .val (.int p2), .val (.int p3), .val (.int z1), .val (.int p2), .val (.ref r1), .val (.long z20), .second, .val (.int (0 : Int32)), .val (.double z25), .second, .val (.double z26), .second, .unset] [(.int z27)]
          refine s_istore A27 at_77 (pc' := 79) rfl (ls' := #[.val (.int p0), .val (.int p1), .val (.int p2), .val (.int p3), .val (.int z1), .val (.int p2), .val (.ref r1), .val (.long z20), .second, .val (.int (0 : Int32)), .val (.double z25), .second, .val (.double z26), .second, .val (.int z27)]) rfl ?_
          refine s_iload A27 at_79 (pc' := 81) rfl rfl ?_
          refine s_iloadN A27 at_81 (pc' := 82) rfl rfl ?_
          refine s_iload A27 at_82 (pc' := 84) rfl rfl ?_
          refine g_static X27 hx hZ (y := (⟨"com/example/exact_backup/exactbackup/expr/RelationHoldsPinLaw", "expected", "(II)Z"⟩ : MethodName)) hown (hw _ (List.mem_of_getElem? (i := 21) rfl)) (hw _ (List.mem_of_getElem? (i := 22) rfl)) (hw _ (List.mem_of_getElem? (i := 2) rfl)) (hw _ (List.mem_of_getElem? (i := 23) rfl)) (by decide) (argsL := [(.int p0), (.int (0 : Int32))]) (rest := [(.int z27)]) (c_exp l Z a0 hw [] p0 (0 : Int32) h0 n0 Z0) pd_3 rfl rfl (hb hby at_84) e27 (by rw [hml]; rfl) (pc' := 87) rfl (by decide) (W := 1) (Nat.le_of_eq rfl) (by decide) (by decide) (by decide) ?_
          intro v28 T28 L28 X28 hQ28
          have A28 := wk X28 hx hby
          have e28 : T28.heap = T28.heap := rfl
          obtain ⟨z28, rfl, q28, N28, hh28⟩ := hQ28
          rw [show (0 : Int32).toInt = 0 from by decide] at q28
          have e28 : T28.heap = h0 := hh28
          show Go p e below m (Fini s room_1.cells room_1.slots (fun v h L => v = some (.int 1) ∧ Fr n0 L)) T28 87 #[.val (.int p0), .val (.int p1), .val (.int p2), .val (.int p3), .val (.int z1), .val (.int p2), .val (.ref r1), .val (.long z20), .second, .val (.int (0 : Int32)), .val (.double z25), .second, .val (.double z26), .second, .val (.int z27)] [(.int z28), (.int z27)]
          refine s_icmpne A28 at_87 (pY := 94) (pN := 90) (by decide) (by decide) rfl ?_ ?_
          · intro c87
            replace c87 := i_ne c87
            refine s_iconst A28 at_94 (pc' := 95) rfl (v := (0 : Int32)) (by decide) ?_
            exfalso; omega
          · intro c87
            replace c87 := i_eq c87
            refine s_iconst A28 at_90 (pc' := 91) rfl (v := (1 : Int32)) (by decide) ?_
            refine s_goto A28 at_91 (pc' := 95) (by decide) (by decide) ?_
            exact g_retZ X28 hx hlk hret (by decide) (hb hby at_95) ⟨rfl, (Fr.app (Fr.app (Fr.app N0 N2) N27) N28)⟩ (by decide) (by decide)
      · intro c34
        replace c34 := cmpI_lt c34
        refine s_iconst A2 at_37 (pc' := 38) rfl (v := (-1 : Int32)) (by decide) ?_
        refine s_istore A2 at_38 (pc' := 40) rfl (ls' := #[.val (.int p0), .val (.int p1), .val (.int p2), .val (.int p3), .val (.int z1), .val (.int p2), .val (.ref r1), .val (.long z20), .second, .val (.int (-1 : Int32)), .unset, .unset, .unset, .unset, .unset]) rfl ?_
        refine s_goto A2 at_40 (pc' := 59) (by decide) (by decide) ?_
        refine s_iloadN A2 at_59 (pc' := 60) rfl rfl ?_
        obtain ⟨z29, hz29⟩ : ∃ v : UInt64, FP.i2d p1 = v := ⟨_, rfl⟩
        have q29 : Dy p1.toInt 0 z29 := hz29 ▸ Dy.i2d' (n := p1.toInt) rfl
        refine s_i2d A2 at_60 (pc' := 61) rfl hz29 ?_
        refine s_dstore A2 at_61 (pc' := 63) rfl (ls' := #[.val (.int p0), .val (.int p1), .val (.int p2), .val (.int p3), .val (.int z1), .val (.int p2), .val (.ref r1), .val (.long z20), .second, .val (.int (-1 : Int32)), .val (.double z29), .second, .unset, .unset, .unset]) rfl ?_
        refine s_iload A2 at_63 (pc' := 65) rfl rfl ?_
        obtain ⟨z30, hz30⟩ : ∃ v : UInt64, FP.i2d p2 = v := ⟨_, rfl⟩
        have q30 : Dy p2.toInt 0 z30 := hz30 ▸ Dy.i2d' (n := p2.toInt) rfl
        refine s_i2d A2 at_65 (pc' := 66) rfl hz30 ?_
        refine s_dstore A2 at_66 (pc' := 68) rfl (ls' := #[.val (.int p0), .val (.int p1), .val (.int p2), .val (.int p3), .val (.int z1), .val (.int p2), .val (.ref r1), .val (.long z20), .second, .val (.int (-1 : Int32)), .val (.double z29), .second, .val (.double z30), .second, .unset]) rfl ?_
        refine s_aload A2 at_68 (pc' := 70) rfl rfl rfl ?_
        refine s_dload A2 at_70 (pc' := 72) rfl rfl ?_
        refine s_dload A2 at_72 (pc' := 74) rfl rfl ?_
        refine g_virtual X2 hx hZ (y := (⟨"com/example/exact_backup/exactbackup/expr/Relation", "holds", "(DD)Z"⟩ : MethodName)) hown (hw _ (List.mem_of_getElem? (i := 7) rfl)) (hw _ (List.mem_of_getElem? (i := 8) rfl)) (hw _ (List.mem_of_getElem? (i := 10) rfl)) (hw _ (List.mem_of_getElem? (i := 9) rfl)) (hw _ (List.mem_of_getElem? (i := 5) rfl)) (hw _ (List.mem_of_getElem? (i := 11) rfl)) (by decide) E1 (argsL := [(.double z29), (.double z30)]) (rest := []) (c_holds l Z a0 hw [] r1 1 z29 z30 1 p1.toInt p2.toInt h0 n0 Z0 E1 F1 (by decide) (by decide) q29 q30) pd_2 rfl rfl (hb hby at_74) e2 (by rw [hml]; rfl) (pc' := 77) rfl (by decide) (W := 0) (Nat.le_of_eq rfl) (by decide) (by decide) (by decide) ?_
        intro v31 T31 L31 X31 hQ31
        have A31 := wk X31 hx hby
        have e31 : T31.heap = T31.heap := rfl
        obtain ⟨z31, rfl, q31, N31, hh31⟩ := hQ31
        have e31 : T31.heap = h0 := hh31
        show Go p e below m (Fini s room_1.cells room_1.slots (fun v h L => v = some (.int 1) ∧ Fr n0 L)) T31 77 #[.val (.int p0), .val (.int p1), .val (.int p2), .val (.int p3), .val (.int z1), .val (.int p2), .val (.ref r1), .val (.long z20), .second, .val (.int (-1 : Int32)), .val (.double z29), .second, .val (.double z30), .second, .unset] [(.int z31)]
        refine s_istore A31 at_77 (pc' := 79) rfl (ls' := #[.val (.int p0), .val (.int p1), .val (.int p2), .val (.int p3), .val (.int z1), .val (.int p2), .val (.ref r1), .val (.long z20), .second, .val (.int (-1 : Int32)), .val (.double z29), .second, .val (.double z30), .second, .val (.int z31)]) rfl ?_
        refine s_iload A31 at_79 (pc' := 81) rfl rfl ?_
        refine s_iloadN A31 at_81 (pc' := 82) rfl rfl ?_
        refine s_iload A31 at_82 (pc' := 84) rfl rfl ?_
        refine g_static X31 hx hZ (y := (⟨"com/example/exact_backup/exactbackup/expr/RelationHoldsPinLaw", "expected", "(II)Z"⟩ : MethodName)) hown (hw _ (List.mem_of_getElem? (i := 21) rfl)) (hw _ (List.mem_of_getElem? (i := 22) rfl)) (hw _ (List.mem_of_getElem? (i := 2) rfl)) (hw _ (List.mem_of_getElem? (i := 23) rfl)) (by decide) (argsL := [(.int p0), (.int (-1 : Int32))]) (rest := [(.int z31)]) (c_exp l Z a0 hw [] p0 (-1 : Int32) h0 n0 Z0) pd_3 rfl rfl (hb hby at_84) e31 (by rw [hml]; rfl) (pc' := 87) rfl (by decide) (W := 1) (Nat.le_of_eq rfl) (by decide) (by decide) (by decide) ?_
        intro v32 T32 L32 X32 hQ32
        have A32 := wk X32 hx hby
        have e32 : T32.heap = T32.heap := rfl
        obtain ⟨z32, rfl, q32, N32, hh32⟩ := hQ32
        rw [show (-1 : Int32).toInt = -1 from by decide] at q32
        have e32 : T32.heap = h0 := hh32
        show Go p e below m (Fini s room_1.cells room_1.slots (fun v h L => v = some (.int 1) ∧ Fr n0 L)) T32 87 #[.val (.int p0), .val (.int p1), .val (.int p2), .val (.int p3), .val (.int z1), .val (.int p2), .val (.ref r1), .val (.long z20), .second, .val (.int (-1 : Int32)), .val (.double z29), .second, .val (.double z30), .second, .val (.int z31)] [(.int z32), (.int z31)]
        refine s_icmpne A32 at_87 (pY := 94) (pN := 90) (by decide) (by decide) rfl ?_ ?_
        · intro c87
          replace c87 := i_ne c87
          refine s_iconst A32 at_94 (pc' := 95) rfl (v := (0 : Int32)) (by decide) ?_
          exfalso; omega
        · intro c87
          replace c87 := i_eq c87
          refine s_iconst A32 at_90 (pc' := 91) rfl (v := (1 : Int32)) (by decide) ?_
          refine s_goto A32 at_91 (pc' := 95) (by decide) (by decide) ?_
          exact g_retZ X32 hx hlk hret (by decide) (hb hby at_95) ⟨rfl, (Fr.app (Fr.app (Fr.app N0 N2) N31) N32)⟩ (by decide) (by decide)
    · obtain rfl := (y2 kk).symm
      clear y0 y1 y2 y3
      have e2 : T2.heap = h0 := hh2
      show Go p e below m (Fini s room_1.cells room_1.slots (fun v h L => v = some (.int 1) ∧ Fr n0 L)) T2 20 #[.val (.int p0), .val (.int p1), .val (.int p2), .val (.int p3), .val (.int z1), .val (.int p2), .unset, .unset, .unset, .unset, .unset, .unset, .unset, .unset, .unset] [(.ref r2)]
      refine s_astore A2 at_20 (pc' := 22) rfl (ls' := #[.val (.int p0), .val (.int p1), .val (.int p2), .val (.int p3), .val (.int z1), .val (.int p2), .val (.ref r2), .unset, .unset, .unset, .unset, .unset, .unset, .unset, .unset]) rfl rfl ?_
      refine s_iloadN A2 at_22 (pc' := 23) rfl rfl ?_
      obtain ⟨z33, hz33⟩ : ∃ v : Int64, p1.toInt64 = v := ⟨_, rfl⟩
      have q33 : z33.toInt = p1.toInt := hz33 ▸ i2l_ex (n := p1.toInt) rfl
      refine s_i2l A2 at_23 (pc' := 24) rfl hz33 ?_
      refine s_iload A2 at_24 (pc' := 26) rfl rfl ?_
      obtain ⟨z34, hz34⟩ : ∃ v : Int64, p2.toInt64 = v := ⟨_, rfl⟩
      have q34 : z34.toInt = p2.toInt := hz34 ▸ i2l_ex (n := p2.toInt) rfl
      refine s_i2l A2 at_26 (pc' := 27) rfl hz34 ?_
      obtain ⟨z35, hz35⟩ : ∃ v : Int64, (z33 - z34) = v := ⟨_, rfl⟩
      have q35 : z35.toInt = (p1.toInt - p2.toInt) := hz35 ▸ lsub_ex (n := p1.toInt) (m := p2.toInt) q33 q34 (by omega)
      refine s_lsub A2 at_27 (pc' := 28) rfl hz35 ?_
      refine s_lstore A2 at_28 (pc' := 30) rfl (ls' := #[.val (.int p0), .val (.int p1), .val (.int p2), .val (.int p3), .val (.int z1), .val (.int p2), .val (.ref r2), .val (.long z35), .second, .unset, .unset, .unset, .unset, .unset, .unset]) rfl ?_
      refine s_lload A2 at_30 (pc' := 32) rfl rfl ?_
      refine s_lconst A2 at_32 (pc' := 33) rfl (v := 0) (by decide) ?_
      refine s_lcmp A2 at_33 (pc' := 34) rfl (cmpL_ex (n := (p1.toInt - p2.toInt)) (m := 0) q35 (by decide)) ?_
      refine s_ifge A2 at_34 (pY := 43) (pN := 37) (by decide) (by decide) rfl ?_ ?_
      · intro c34
        replace c34 := cmpI_ge c34
        refine s_lload A2 at_43 (pc' := 45) rfl rfl ?_
        refine s_lconst A2 at_45 (pc' := 46) rfl (v := 0) (by decide) ?_
        refine s_lcmp A2 at_46 (pc' := 47) rfl (cmpL_ex (n := (p1.toInt - p2.toInt)) (m := 0) q35 (by decide)) ?_
        refine s_ifne A2 at_47 (pY := 56) (pN := 50) (by decide) (by decide) rfl ?_ ?_
        · intro c47
          replace c47 := cmpI_ne c47
          refine s_iconst A2 at_56 (pc' := 57) rfl (v := (1 : Int32)) (by decide) ?_
          refine s_istore A2 at_57 (pc' := 59) rfl (ls' := #[.val (.int p0), .val (.int p1), .val (.int p2), .val (.int p3), .val (.int z1), .val (.int p2), .val (.ref r2), .val (.long z35), .second, .val (.int (1 : Int32)), .unset, .unset, .unset, .unset, .unset]) rfl ?_
          refine s_iloadN A2 at_59 (pc' := 60) rfl rfl ?_
          obtain ⟨z36, hz36⟩ : ∃ v : UInt64, FP.i2d p1 = v := ⟨_, rfl⟩
          have q36 : Dy p1.toInt 0 z36 := hz36 ▸ Dy.i2d' (n := p1.toInt) rfl
          refine s_i2d A2 at_60 (pc' := 61) rfl hz36 ?_
          refine s_dstore A2 at_61 (pc' := 63) rfl (ls' := #[.val (.int p0), .val (.int p1), .val (.int p2), .val (.int p3), .val (.int z1), .val (.int p2), .val (.ref r2), .val (.long z35), .second, .val (.int (1 : Int32)), .val (.double z36), .second, .unset, .unset, .unset]) rfl ?_
          refine s_iload A2 at_63 (pc' := 65) rfl rfl ?_
          obtain ⟨z37, hz37⟩ : ∃ v : UInt64, FP.i2d p2 = v := ⟨_, rfl⟩
          have q37 : Dy p2.toInt 0 z37 := hz37 ▸ Dy.i2d' (n := p2.toInt) rfl
          refine s_i2d A2 at_65 (pc' := 66) rfl hz37 ?_
          refine s_dstore A2 at_66 (pc' := 68) rfl (ls' := #[.val (.int p0), .val (.int p1), .val (.int p2), .val (.int p3), .val (.int z1), .val (.int p2), .val (.ref r2), .val (.long z35), .second, .val (.int (1 : Int32)), .val (.double z36), .second, .val (.double z37), .second, .unset]) rfl ?_
          refine s_aload A2 at_68 (pc' := 70) rfl rfl rfl ?_
          refine s_dload A2 at_70 (pc' := 72) rfl rfl ?_
          refine s_dload A2 at_72 (pc' := 74) rfl rfl ?_
          refine g_virtual X2 hx hZ (y := (⟨"com/example/exact_backup/exactbackup/expr/Relation", "holds", "(DD)Z"⟩ : MethodName)) hown (hw _ (List.mem_of_getElem? (i := 7) rfl)) (hw _ (List.mem_of_getElem? (i := 8) rfl)) (hw _ (List.mem_of_getElem? (i := 10) rfl)) (hw _ (List.mem_of_getElem? (i := 9) rfl)) (hw _ (List.mem_of_getElem? (i := 5) rfl)) (hw _ (List.mem_of_getElem? (i := 11) rfl)) (by decide) E2 (argsL := [(.double z36), (.double z37)]) (rest := []) (c_holds l Z a0 hw [] r2 2 z36 z37 2 p1.toInt p2.toInt h0 n0 Z0 E2 F2 (by decide) (by decide) q36 q37) pd_2 rfl rfl (hb hby at_74) e2 (by rw [hml]; rfl) (pc' := 77) rfl (by decide) (W := 0) (Nat.le_of_eq rfl) (by decide) (by decide) (by decide) ?_
          intro v38 T38 L38 X38 hQ38
          have A38 := wk X38 hx hby
          have e38 : T38.heap = T38.heap := rfl
          obtain ⟨z38, rfl, q38, N38, hh38⟩ := hQ38
          have e38 : T38.heap = h0 := hh38
          show Go p e below m (Fini s room_1.cells room_1.slots (fun v h L => v = some (.int 1) ∧ Fr n0 L)) T38 77 #[.val (.int p0), .val (.int p1), .val (.int p2), .val (.int p3), .val (.int z1), .val (.int p2), .val (.ref r2), .val (.long z35), .second, .val (.int (1 : Int32)), .val (.double z36), .second, .val (.double z37), .second, .unset] [(.int z38)]
          refine s_istore A38 at_77 (pc' := 79) rfl (ls' := #[.val (.int p0), .val (.int p1), .val (.int p2), .val (.int p3), .val (.int z1), .val (.int p2), .val (.ref r2), .val (.long z35), .second, .val (.int (1 : Int32)), .val (.double z36), .second, .val (.double z37), .second, .val (.int z38)]) rfl ?_
          refine s_iload A38 at_79 (pc' := 81) rfl rfl ?_
          refine s_iloadN A38 at_81 (pc' := 82) rfl rfl ?_
          refine s_iload A38 at_82 (pc' := 84) rfl rfl ?_
          refine g_static X38 hx hZ (y := (⟨"com/example/exact_backup/exactbackup/expr/RelationHoldsPinLaw", "expected", "(II)Z"⟩ : MethodName)) hown (hw _ (List.mem_of_getElem? (i := 21) rfl)) (hw _ (List.mem_of_getElem? (i := 22) rfl)) (hw _ (List.mem_of_getElem? (i := 2) rfl)) (hw _ (List.mem_of_getElem? (i := 23) rfl)) (by decide) (argsL := [(.int p0), (.int (1 : Int32))]) (rest := [(.int z38)]) (c_exp l Z a0 hw [] p0 (1 : Int32) h0 n0 Z0) pd_3 rfl rfl (hb hby at_84) e38 (by rw [hml]; rfl) (pc' := 87) rfl (by decide) (W := 1) (Nat.le_of_eq rfl) (by decide) (by decide) (by decide) ?_
          intro v39 T39 L39 X39 hQ39
          have A39 := wk X39 hx hby
          have e39 : T39.heap = T39.heap := rfl
          obtain ⟨z39, rfl, q39, N39, hh39⟩ := hQ39
          rw [show (1 : Int32).toInt = 1 from by decide] at q39
          have e39 : T39.heap = h0 := hh39
          show Go p e below m (Fini s room_1.cells room_1.slots (fun v h L => v = some (.int 1) ∧ Fr n0 L)) T39 87 #[.val (.int p0), .val (.int p1), .val (.int p2), .val (.int p3), .val (.int z1), .val (.int p2), .val (.ref r2), .val (.long z35), .second, .val (.int (1 : Int32)), .val (.double z36), .second, .val (.double z37), .second, .val (.int z38)] [(.int z39), (.int z38)]
          refine s_icmpne A39 at_87 (pY := 94) (pN := 90) (by decide) (by decide) rfl ?_ ?_
          · intro c87
            replace c87 := i_ne c87
            refine s_iconst A39 at_94 (pc' := 95) rfl (v := (0 : Int32)) (by decide) ?_
            exfalso; omega
          · intro c87
            replace c87 := i_eq c87
            refine s_iconst A39 at_90 (pc' := 91) rfl (v := (1 : Int32)) (by decide) ?_
            refine s_goto A39 at_91 (pc' := 95) (by decide) (by decide) ?_
            exact g_retZ X39 hx hlk hret (by decide) (hb hby at_95) ⟨rfl, (Fr.app (Fr.app (Fr.app N0 N2) N38) N39)⟩ (by decide) (by decide)
        · intro c47
          replace c47 := cmpI_eq c47
          refine s_iconst A2 at_50 (pc' := 51) rfl (v := (0 : Int32)) (by decide) ?_
          refine s_istore A2 at_51 (pc' := 53) rfl (ls' := #[.val (.int p0), .val (.int p1), .val (.int p2), .val (.int p3), .val (.int z1), .val (.int p2), .val (.ref r2), .val (.long z35), .second, .val (.int (0 : Int32)), .unset, .unset, .unset, .unset, .unset]) rfl ?_
          refine s_goto A2 at_53 (pc' := 59) (by decide) (by decide) ?_
          refine s_iloadN A2 at_59 (pc' := 60) rfl rfl ?_
          obtain ⟨z40, hz40⟩ : ∃ v : UInt64, FP.i2d p1 = v := ⟨_, rfl⟩
          have q40 : Dy p1.toInt 0 z40 := hz40 ▸ Dy.i2d' (n := p1.toInt) rfl
          refine s_i2d A2 at_60 (pc' := 61) rfl hz40 ?_
          refine s_dstore A2 at_61 (pc' := 63) rfl (ls' := #[.val (.int p0), .val (.int p1), .val (.int p2), .val (.int p3), .val (.int z1), .val (.int p2), .val (.ref r2), .val (.long z35), .second, .val (.int (0 : Int32)), .val (.double z40), .second, .unset, .unset, .unset]) rfl ?_
          refine s_iload A2 at_63 (pc' := 65) rfl rfl ?_
          obtain ⟨z41, hz41⟩ : ∃ v : UInt64, FP.i2d p2 = v := ⟨_, rfl⟩
          have q41 : Dy p2.toInt 0 z41 := hz41 ▸ Dy.i2d' (n := p2.toInt) rfl
          refine s_i2d A2 at_65 (pc' := 66) rfl hz41 ?_
          refine s_dstore A2 at_66 (pc' := 68) rfl (ls' := #[.val (.int p0), .val (.int p1), .val (.int p2), .val (.int p3), .val (.int z1), .val (.int p2), .val (.ref r2), .val (.long z35), .second, .val (.int (0 : Int32)), .val (.double z40), .second, .val (.double z41), .second, .unset]) rfl ?_
          refine s_aload A2 at_68 (pc' := 70) rfl rfl rfl ?_
          refine s_dload A2 at_70 (pc' := 72) rfl rfl ?_
          refine s_dload A2 at_72 (pc' := 74) rfl rfl ?_
          refine g_virtual X2 hx hZ (y := (⟨"com/example/exact_backup/exactbackup/expr/Relation", "holds", "(DD)Z"⟩ : MethodName)) hown (hw _ (List.mem_of_getElem? (i := 7) rfl)) (hw _ (List.mem_of_getElem? (i := 8) rfl)) (hw _ (List.mem_of_getElem? (i := 10) rfl)) (hw _ (List.mem_of_getElem? (i := 9) rfl)) (hw _ (List.mem_of_getElem? (i := 5) rfl)) (hw _ (List.mem_of_getElem? (i := 11) rfl)) (by decide) E2 (argsL := [(.double z40), (.double z41)]) (rest := []) (c_holds l Z a0 hw [] r2 2 z40 z41 2 p1.toInt p2.toInt h0 n0 Z0 E2 F2 (by decide) (by decide) q40 q41) pd_2 rfl rfl (hb hby at_74) e2 (by rw [hml]; rfl) (pc' := 77) rfl (by decide) (W := 0) (Nat.le_of_eq rfl) (by decide) (by decide) (by decide) ?_
          intro v42 T42 L42 X42 hQ42
          have A42 := wk X42 hx hby
          have e42 : T42.heap = T42.heap := rfl
          obtain ⟨z42, rfl, q42, N42, hh42⟩ := hQ42
          have e42 : T42.heap = h0 := hh42
          show Go p e below m (Fini s room_1.cells room_1.slots (fun v h L => v = some (.int 1) ∧ Fr n0 L)) T42 77 #[.val (.int p0), .val (.int p1), .val (.int p2), .val (.int p3), .val (.int z1), .val (.int p2), .val (.ref r2), .val (.long z35), .second, .val (.int (0 : Int32)), .val (.double z40), .second, .val (.double z41), .second, .unset] [(.int z42)]
          refine s_istore A42 at_77 (pc' := 79) rfl (ls' := #[.val (.int p0), .val (.int p1), .val (.int p2), .val (.int p3), .val (.int z1), .val (.int p2), .val (.ref r2), .val (.long z35), .second, .val (.int (0 : Int32)), .val (.double z40), .second, .val (.double z41), .second, .val (.int z42)]) rfl ?_
          refine s_iload A42 at_79 (pc' := 81) rfl rfl ?_
          refine s_iloadN A42 at_81 (pc' := 82) rfl rfl ?_
          refine s_iload A42 at_82 (pc' := 84) rfl rfl ?_
          refine g_static X42 hx hZ (y := (⟨"com/example/exact_backup/exactbackup/expr/RelationHoldsPinLaw", "expected", "(II)Z"⟩ : MethodName)) hown (hw _ (List.mem_of_getElem? (i := 21) rfl)) (hw _ (List.mem_of_getElem? (i := 22) rfl)) (hw _ (List.mem_of_getElem? (i := 2) rfl)) (hw _ (List.mem_of_getElem? (i := 23) rfl)) (by decide) (argsL := [(.int p0), (.int (0 : Int32))]) (rest := [(.int z42)]) (c_exp l Z a0 hw [] p0 (0 : Int32) h0 n0 Z0) pd_3 rfl rfl (hb hby at_84) e42 (by rw [hml]; rfl) (pc' := 87) rfl (by decide) (W := 1) (Nat.le_of_eq rfl) (by decide) (by decide) (by decide) ?_
          intro v43 T43 L43 X43 hQ43
          have A43 := wk X43 hx hby
          have e43 : T43.heap = T43.heap := rfl
          obtain ⟨z43, rfl, q43, N43, hh43⟩ := hQ43
          rw [show (0 : Int32).toInt = 0 from by decide] at q43
          have e43 : T43.heap = h0 := hh43
          show Go p e below m (Fini s room_1.cells room_1.slots (fun v h L => v = some (.int 1) ∧ Fr n0 L)) T43 87 #[.val (.int p0), .val (.int p1), .val (.int p2), .val (.int p3), .val (.int z1), .val (.int p2), .val (.ref r2), .val (.long z35), .second, .val (.int (0 : Int32)), .val (.double z40), .second, .val (.double z41), .second, .val (.int z42)] [(.int z43), (.int z42)]
          refine s_icmpne A43 at_87 (pY := 94) (pN := 90) (by decide) (by decide) rfl ?_ ?_
          · intro c87
            replace c87 := i_ne c87
            refine s_iconst A43 at_94 (pc' := 95) rfl (v := (0 : Int32)) (by decide) ?_
            exfalso; omega
          · intro c87
            replace c87 := i_eq c87
            refine s_iconst A43 at_90 (pc' := 91) rfl (v := (1 : Int32)) (by decide) ?_
            refine s_goto A43 at_91 (pc' := 95) (by decide) (by decide) ?_
            exact g_retZ X43 hx hlk hret (by decide) (hb hby at_95) ⟨rfl, (Fr.app (Fr.app (Fr.app N0 N2) N42) N43)⟩ (by decide) (by decide)
      · intro c34
        replace c34 := cmpI_lt c34
        refine s_iconst A2 at_37 (pc' := 38) rfl (v := (-1 : Int32)) (by decide) ?_
        refine s_istore A2 at_38 (pc' := 40) rfl (ls' := #[.val (.int p0), .val (.int p1), .val (.int p2), .val (.int p3), .val (.int z1), .val (.int p2), .val (.ref r2), .val (.long z35), .second, .val (.int (-1 : Int32)), .unset, .unset, .unset, .unset, .unset]) rfl ?_
        refine s_goto A2 at_40 (pc' := 59) (by decide) (by decide) ?_
        refine s_iloadN A2 at_59 (pc' := 60) rfl rfl ?_
        obtain ⟨z44, hz44⟩ : ∃ v : UInt64, FP.i2d p1 = v := ⟨_, rfl⟩
        have q44 : Dy p1.toInt 0 z44 := hz44 ▸ Dy.i2d' (n := p1.toInt) rfl
        refine s_i2d A2 at_60 (pc' := 61) rfl hz44 ?_
        refine s_dstore A2 at_61 (pc' := 63) rfl (ls' := #[.val (.int p0), .val (.int p1), .val (.int p2), .val (.int p3), .val (.int z1), .val (.int p2), .val (.ref r2), .val (.long z35), .second, .val (.int (-1 : Int32)), .val (.double z44), .second, .unset, .unset, .unset]) rfl ?_
        refine s_iload A2 at_63 (pc' := 65) rfl rfl ?_
        obtain ⟨z45, hz45⟩ : ∃ v : UInt64, FP.i2d p2 = v := ⟨_, rfl⟩
        have q45 : Dy p2.toInt 0 z45 := hz45 ▸ Dy.i2d' (n := p2.toInt) rfl
        refine s_i2d A2 at_65 (pc' := 66) rfl hz45 ?_
        refine s_dstore A2 at_66 (pc' := 68) rfl (ls' := #[.val (.int p0), .val (.int p1), .val (.int p2), .val (.int p3), .val (.int z1), .val (.int p2), .val (.ref r2), .val (.long z35), .second, .val (.int (-1 : Int32)), .val (.double z44), .second, .val (.double z45), .second, .unset]) rfl ?_
        refine s_aload A2 at_68 (pc' := 70) rfl rfl rfl ?_
        refine s_dload A2 at_70 (pc' := 72) rfl rfl ?_
        refine s_dload A2 at_72 (pc' := 74) rfl rfl ?_
        refine g_virtual X2 hx hZ (y := (⟨"com/example/exact_backup/exactbackup/expr/Relation", "holds", "(DD)Z"⟩ : MethodName)) hown (hw _ (List.mem_of_getElem? (i := 7) rfl)) (hw _ (List.mem_of_getElem? (i := 8) rfl)) (hw _ (List.mem_of_getElem? (i := 10) rfl)) (hw _ (List.mem_of_getElem? (i := 9) rfl)) (hw _ (List.mem_of_getElem? (i := 5) rfl)) (hw _ (List.mem_of_getElem? (i := 11) rfl)) (by decide) E2 (argsL := [(.double z44), (.double z45)]) (rest := []) (c_holds l Z a0 hw [] r2 2 z44 z45 2 p1.toInt p2.toInt h0 n0 Z0 E2 F2 (by decide) (by decide) q44 q45) pd_2 rfl rfl (hb hby at_74) e2 (by rw [hml]; rfl) (pc' := 77) rfl (by decide) (W := 0) (Nat.le_of_eq rfl) (by decide) (by decide) (by decide) ?_
        intro v46 T46 L46 X46 hQ46
        have A46 := wk X46 hx hby
        have e46 : T46.heap = T46.heap := rfl
        obtain ⟨z46, rfl, q46, N46, hh46⟩ := hQ46
        have e46 : T46.heap = h0 := hh46
        show Go p e below m (Fini s room_1.cells room_1.slots (fun v h L => v = some (.int 1) ∧ Fr n0 L)) T46 77 #[.val (.int p0), .val (.int p1), .val (.int p2), .val (.int p3), .val (.int z1), .val (.int p2), .val (.ref r2), .val (.long z35), .second, .val (.int (-1 : Int32)), .val (.double z44), .second, .val (.double z45), .second, .unset] [(.int z46)]
        refine s_istore A46 at_77 (pc' := 79) rfl (ls' := #[.val (.int p0), .val (.int p1), .val (.int p2), .val (.int p3), .val (.int z1), .val (.int p2), .val (.ref r2), .val (.long z35), .second, .val (.int (-1 : Int32)), .val (.double z44), .second, .val (.double z45), .second, .val (.int z46)]) rfl ?_
        refine s_iload A46 at_79 (pc' := 81) rfl rfl ?_
        refine s_iloadN A46 at_81 (pc' := 82) rfl rfl ?_
        refine s_iload A46 at_82 (pc' := 84) rfl rfl ?_
        refine g_static X46 hx hZ (y := (⟨"com/example/exact_backup/exactbackup/expr/RelationHoldsPinLaw", "expected", "(II)Z"⟩ : MethodName)) hown (hw _ (List.mem_of_getElem? (i := 21) rfl)) (hw _ (List.mem_of_getElem? (i := 22) rfl)) (hw _ (List.mem_of_getElem? (i := 2) rfl)) (hw _ (List.mem_of_getElem? (i := 23) rfl)) (by decide) (argsL := [(.int p0), (.int (-1 : Int32))]) (rest := [(.int z46)]) (c_exp l Z a0 hw [] p0 (-1 : Int32) h0 n0 Z0) pd_3 rfl rfl (hb hby at_84) e46 (by rw [hml]; rfl) (pc' := 87) rfl (by decide) (W := 1) (Nat.le_of_eq rfl) (by decide) (by decide) (by decide) ?_
        intro v47 T47 L47 X47 hQ47
        have A47 := wk X47 hx hby
        have e47 : T47.heap = T47.heap := rfl
        obtain ⟨z47, rfl, q47, N47, hh47⟩ := hQ47
        rw [show (-1 : Int32).toInt = -1 from by decide] at q47
        have e47 : T47.heap = h0 := hh47
        show Go p e below m (Fini s room_1.cells room_1.slots (fun v h L => v = some (.int 1) ∧ Fr n0 L)) T47 87 #[.val (.int p0), .val (.int p1), .val (.int p2), .val (.int p3), .val (.int z1), .val (.int p2), .val (.ref r2), .val (.long z35), .second, .val (.int (-1 : Int32)), .val (.double z44), .second, .val (.double z45), .second, .val (.int z46)] [(.int z47), (.int z46)]
        refine s_icmpne A47 at_87 (pY := 94) (pN := 90) (by decide) (by decide) rfl ?_ ?_
        · intro c87
          replace c87 := i_ne c87
          refine s_iconst A47 at_94 (pc' := 95) rfl (v := (0 : Int32)) (by decide) ?_
          exfalso; omega
        · intro c87
          replace c87 := i_eq c87
          refine s_iconst A47 at_90 (pc' := 91) rfl (v := (1 : Int32)) (by decide) ?_
          refine s_goto A47 at_91 (pc' := 95) (by decide) (by decide) ?_
          exact g_retZ X47 hx hlk hret (by decide) (hb hby at_95) ⟨rfl, (Fr.app (Fr.app (Fr.app N0 N2) N46) N47)⟩ (by decide) (by decide)
    · obtain rfl := (y3 kk).symm
      clear y0 y1 y2 y3
      have e2 : T2.heap = h0 := hh2
      show Go p e below m (Fini s room_1.cells room_1.slots (fun v h L => v = some (.int 1) ∧ Fr n0 L)) T2 20 #[.val (.int p0), .val (.int p1), .val (.int p2), .val (.int p3), .val (.int z1), .val (.int p2), .unset, .unset, .unset, .unset, .unset, .unset, .unset, .unset, .unset] [(.ref r3)]
      refine s_astore A2 at_20 (pc' := 22) rfl (ls' := #[.val (.int p0), .val (.int p1), .val (.int p2), .val (.int p3), .val (.int z1), .val (.int p2), .val (.ref r3), .unset, .unset, .unset, .unset, .unset, .unset, .unset, .unset]) rfl rfl ?_
      refine s_iloadN A2 at_22 (pc' := 23) rfl rfl ?_
      obtain ⟨z48, hz48⟩ : ∃ v : Int64, p1.toInt64 = v := ⟨_, rfl⟩
      have q48 : z48.toInt = p1.toInt := hz48 ▸ i2l_ex (n := p1.toInt) rfl
      refine s_i2l A2 at_23 (pc' := 24) rfl hz48 ?_
      refine s_iload A2 at_24 (pc' := 26) rfl rfl ?_
      obtain ⟨z49, hz49⟩ : ∃ v : Int64, p2.toInt64 = v := ⟨_, rfl⟩
      have q49 : z49.toInt = p2.toInt := hz49 ▸ i2l_ex (n := p2.toInt) rfl
      refine s_i2l A2 at_26 (pc' := 27) rfl hz49 ?_
      obtain ⟨z50, hz50⟩ : ∃ v : Int64, (z48 - z49) = v := ⟨_, rfl⟩
      have q50 : z50.toInt = (p1.toInt - p2.toInt) := hz50 ▸ lsub_ex (n := p1.toInt) (m := p2.toInt) q48 q49 (by omega)
      refine s_lsub A2 at_27 (pc' := 28) rfl hz50 ?_
      refine s_lstore A2 at_28 (pc' := 30) rfl (ls' := #[.val (.int p0), .val (.int p1), .val (.int p2), .val (.int p3), .val (.int z1), .val (.int p2), .val (.ref r3), .val (.long z50), .second, .unset, .unset, .unset, .unset, .unset, .unset]) rfl ?_
      refine s_lload A2 at_30 (pc' := 32) rfl rfl ?_
      refine s_lconst A2 at_32 (pc' := 33) rfl (v := 0) (by decide) ?_
      refine s_lcmp A2 at_33 (pc' := 34) rfl (cmpL_ex (n := (p1.toInt - p2.toInt)) (m := 0) q50 (by decide)) ?_
      refine s_ifge A2 at_34 (pY := 43) (pN := 37) (by decide) (by decide) rfl ?_ ?_
      · intro c34
        replace c34 := cmpI_ge c34
        refine s_lload A2 at_43 (pc' := 45) rfl rfl ?_
        refine s_lconst A2 at_45 (pc' := 46) rfl (v := 0) (by decide) ?_
        refine s_lcmp A2 at_46 (pc' := 47) rfl (cmpL_ex (n := (p1.toInt - p2.toInt)) (m := 0) q50 (by decide)) ?_
        refine s_ifne A2 at_47 (pY := 56) (pN := 50) (by decide) (by decide) rfl ?_ ?_
        · intro c47
          replace c47 := cmpI_ne c47
          refine s_iconst A2 at_56 (pc' := 57) rfl (v := (1 : Int32)) (by decide) ?_
          refine s_istore A2 at_57 (pc' := 59) rfl (ls' := #[.val (.int p0), .val (.int p1), .val (.int p2), .val (.int p3), .val (.int z1), .val (.int p2), .val (.ref r3), .val (.long z50), .second, .val (.int (1 : Int32)), .unset, .unset, .unset, .unset, .unset]) rfl ?_
          refine s_iloadN A2 at_59 (pc' := 60) rfl rfl ?_
          obtain ⟨z51, hz51⟩ : ∃ v : UInt64, FP.i2d p1 = v := ⟨_, rfl⟩
          have q51 : Dy p1.toInt 0 z51 := hz51 ▸ Dy.i2d' (n := p1.toInt) rfl
          refine s_i2d A2 at_60 (pc' := 61) rfl hz51 ?_
          refine s_dstore A2 at_61 (pc' := 63) rfl (ls' := #[.val (.int p0), .val (.int p1), .val (.int p2), .val (.int p3), .val (.int z1), .val (.int p2), .val (.ref r3), .val (.long z50), .second, .val (.int (1 : Int32)), .val (.double z51), .second, .unset, .unset, .unset]) rfl ?_
          refine s_iload A2 at_63 (pc' := 65) rfl rfl ?_
          obtain ⟨z52, hz52⟩ : ∃ v : UInt64, FP.i2d p2 = v := ⟨_, rfl⟩
          have q52 : Dy p2.toInt 0 z52 := hz52 ▸ Dy.i2d' (n := p2.toInt) rfl
          refine s_i2d A2 at_65 (pc' := 66) rfl hz52 ?_
          refine s_dstore A2 at_66 (pc' := 68) rfl (ls' := #[.val (.int p0), .val (.int p1), .val (.int p2), .val (.int p3), .val (.int z1), .val (.int p2), .val (.ref r3), .val (.long z50), .second, .val (.int (1 : Int32)), .val (.double z51), .second, .val (.double z52), .second, .unset]) rfl ?_
          refine s_aload A2 at_68 (pc' := 70) rfl rfl rfl ?_
          refine s_dload A2 at_70 (pc' := 72) rfl rfl ?_
          refine s_dload A2 at_72 (pc' := 74) rfl rfl ?_
          refine g_virtual X2 hx hZ (y := (⟨"com/example/exact_backup/exactbackup/expr/Relation", "holds", "(DD)Z"⟩ : MethodName)) hown (hw _ (List.mem_of_getElem? (i := 7) rfl)) (hw _ (List.mem_of_getElem? (i := 8) rfl)) (hw _ (List.mem_of_getElem? (i := 10) rfl)) (hw _ (List.mem_of_getElem? (i := 9) rfl)) (hw _ (List.mem_of_getElem? (i := 5) rfl)) (hw _ (List.mem_of_getElem? (i := 11) rfl)) (by decide) E3 (argsL := [(.double z51), (.double z52)]) (rest := []) (c_holds l Z a0 hw [] r3 3 z51 z52 3 p1.toInt p2.toInt h0 n0 Z0 E3 F3 (by decide) (by decide) q51 q52) pd_2 rfl rfl (hb hby at_74) e2 (by rw [hml]; rfl) (pc' := 77) rfl (by decide) (W := 0) (Nat.le_of_eq rfl) (by decide) (by decide) (by decide) ?_
          intro v53 T53 L53 X53 hQ53
          have A53 := wk X53 hx hby
          have e53 : T53.heap = T53.heap := rfl
          obtain ⟨z53, rfl, q53, N53, hh53⟩ := hQ53
          have e53 : T53.heap = h0 := hh53
          show Go p e below m (Fini s room_1.cells room_1.slots (fun v h L => v = some (.int 1) ∧ Fr n0 L)) T53 77 #[.val (.int p0), .val (.int p1), .val (.int p2), .val (.int p3), .val (.int z1), .val (.int p2), .val (.ref r3), .val (.long z50), .second, .val (.int (1 : Int32)), .val (.double z51), .second, .val (.double z52), .second, .unset] [(.int z53)]
          refine s_istore A53 at_77 (pc' := 79) rfl (ls' := #[.val (.int p0), .val (.int p1), .val (.int p2), .val (.int p3), .val (.int z1), .val (.int p2), .val (.ref r3), .val (.long z50), .second, .val (.int (1 : Int32)), .val (.double z51), .second, .val (.double z52), .second, .val (.int z53)]) rfl ?_
          refine s_iload A53 at_79 (pc' := 81) rfl rfl ?_
          refine s_iloadN A53 at_81 (pc' := 82) rfl rfl ?_
          refine s_iload A53 at_82 (pc' := 84) rfl rfl ?_
          refine g_static X53 hx hZ (y := (⟨"com/example/exact_backup/exactbackup/expr/RelationHoldsPinLaw", "expected", "(II)Z"⟩ : MethodName)) hown (hw _ (List.mem_of_getElem? (i := 21) rfl)) (hw _ (List.mem_of_getElem? (i := 22) rfl)) (hw _ (List.mem_of_getElem? (i := 2) rfl)) (hw _ (List.mem_of_getElem? (i := 23) rfl)) (by decide) (argsL := [(.int p0), (.int (1 : Int32))]) (rest := [(.int z53)]) (c_exp l Z a0 hw [] p0 (1 : Int32) h0 n0 Z0) pd_3 rfl rfl (hb hby at_84) e53 (by rw [hml]; rfl) (pc' := 87) rfl (by decide) (W := 1) (Nat.le_of_eq rfl) (by decide) (by decide) (by decide) ?_
          intro v54 T54 L54 X54 hQ54
          have A54 := wk X54 hx hby
          have e54 : T54.heap = T54.heap := rfl
          obtain ⟨z54, rfl, q54, N54, hh54⟩ := hQ54
          rw [show (1 : Int32).toInt = 1 from by decide] at q54
          have e54 : T54.heap = h0 := hh54
          show Go p e below m (Fini s room_1.cells room_1.slots (fun v h L => v = some (.int 1) ∧ Fr n0 L)) T54 87 #[.val (.int p0), .val (.int p1), .val (.int p2), .val (.int p3), .val (.int z1), .val (.int p2), .val (.ref r3), .val (.long z50), .second, .val (.int (1 : Int32)), .val (.double z51), .second, .val (.double z52), .second, .val (.int z53)] [(.int z54), (.int z53)]
          refine s_icmpne A54 at_87 (pY := 94) (pN := 90) (by decide) (by decide) rfl ?_ ?_
          · intro c87
            replace c87 := i_ne c87
            refine s_iconst A54 at_94 (pc' := 95) rfl (v := (0 : Int32)) (by decide) ?_
            exfalso; omega
          · intro c87
            replace c87 := i_eq c87
            refine s_iconst A54 at_90 (pc' := 91) rfl (v := (1 : Int32)) (by decide) ?_
            refine s_goto A54 at_91 (pc' := 95) (by decide) (by decide) ?_
            exact g_retZ X54 hx hlk hret (by decide) (hb hby at_95) ⟨rfl, (Fr.app (Fr.app (Fr.app N0 N2) N53) N54)⟩ (by decide) (by decide)
        · intro c47
          replace c47 := cmpI_eq c47
          refine s_iconst A2 at_50 (pc' := 51) rfl (v := (0 : Int32)) (by decide) ?_
          refine s_istore A2 at_51 (pc' := 53) rfl (ls' := #[.val (.int p0), .val (.int p1), .val (.int p2), .val (.int p3), .val (.int z1), .val (.int p2), .val (.ref r3), .val (.long z50), .second, .val (.int (0 : Int32)), .unset, .unset, .unset, .unset, .unset]) rfl ?_
          refine s_goto A2 at_53 (pc' := 59) (by decide) (by decide) ?_
          refine s_iloadN A2 at_59 (pc' := 60) rfl rfl ?_
          obtain ⟨z55, hz55⟩ : ∃ v : UInt64, FP.i2d p1 = v := ⟨_, rfl⟩
          have q55 : Dy p1.toInt 0 z55 := hz55 ▸ Dy.i2d' (n := p1.toInt) rfl
          refine s_i2d A2 at_60 (pc' := 61) rfl hz55 ?_
          refine s_dstore A2 at_61 (pc' := 63) rfl (ls' := #[.val (.int p0), .val (.int p1), .val (.int p2), .val (.int p3), .val (.int z1), .val (.int p2), .val (.ref r3), .val (.long z50), .second, .val (.int (0 : Int32)), .val (.double z55), .second, .unset, .unset, .unset]) rfl ?_
          refine s_iload A2 at_63 (pc' := 65) rfl rfl ?_
          obtain ⟨z56, hz56⟩ : ∃ v : UInt64, FP.i2d p2 = v := ⟨_, rfl⟩
          have q56 : Dy p2.toInt 0 z56 := hz56 ▸ Dy.i2d' (n := p2.toInt) rfl
          refine s_i2d A2 at_65 (pc' := 66) rfl hz56 ?_
          refine s_dstore A2 at_66 (pc' := 68) rfl (ls' := #[.val (.int p0), .val (.int p1), .val (.int p2), .val (.int p3), .val (.int z1), .val (.int p2), .val (.ref r3), .val (.long z50), .second, .val (.int (0 : Int32)), .val (.double z55), .second, .val (.double z56), .second, .unset]) rfl ?_
          refine s_aload A2 at_68 (pc' := 70) rfl rfl rfl ?_
          refine s_dload A2 at_70 (pc' := 72) rfl rfl ?_
          refine s_dload A2 at_72 (pc' := 74) rfl rfl ?_
          refine g_virtual X2 hx hZ (y := (⟨"com/example/exact_backup/exactbackup/expr/Relation", "holds", "(DD)Z"⟩ : MethodName)) hown (hw _ (List.mem_of_getElem? (i := 7) rfl)) (hw _ (List.mem_of_getElem? (i := 8) rfl)) (hw _ (List.mem_of_getElem? (i := 10) rfl)) (hw _ (List.mem_of_getElem? (i := 9) rfl)) (hw _ (List.mem_of_getElem? (i := 5) rfl)) (hw _ (List.mem_of_getElem? (i := 11) rfl)) (by decide) E3 (argsL := [(.double z55), (.double z56)]) (rest := []) (c_holds l Z a0 hw [] r3 3 z55 z56 3 p1.toInt p2.toInt h0 n0 Z0 E3 F3 (by decide) (by decide) q55 q56) pd_2 rfl rfl (hb hby at_74) e2 (by rw [hml]; rfl) (pc' := 77) rfl (by decide) (W := 0) (Nat.le_of_eq rfl) (by decide) (by decide) (by decide) ?_
          intro v57 T57 L57 X57 hQ57
          have A57 := wk X57 hx hby
          have e57 : T57.heap = T57.heap := rfl
          obtain ⟨z57, rfl, q57, N57, hh57⟩ := hQ57
          have e57 : T57.heap = h0 := hh57
          show Go p e below m (Fini s room_1.cells room_1.slots (fun v h L => v = some (.int 1) ∧ Fr n0 L)) T57 77 #[.val (.int p0), .val (.int p1), .val (.int p2), .val (.int p3), .val (.int z1), .val (.int p2), .val (.ref r3), .val (.long z50), .second, .val (.int (0 : Int32)), .val (.double z55), .second, .val (.double z56), .second, .unset] [(.int z57)]
          refine s_istore A57 at_77 (pc' := 79) rfl (ls' := #[.val (.int p0), .val (.int p1), .val (.int p2), .val (.int p3), .val (.int z1), .val (.int p2), .val (.ref r3), .val (.long z50), .second, .val (.int (0 : Int32)), .val (.double z55), .second, .val (.double z56), .second, .val (.int z57)]) rfl ?_
          refine s_iload A57 at_79 (pc' := 81) rfl rfl ?_
          refine s_iloadN A57 at_81 (pc' := 82) rfl rfl ?_
          refine s_iload A57 at_82 (pc' := 84) rfl rfl ?_
          refine g_static X57 hx hZ (y := (⟨"com/example/exact_backup/exactbackup/expr/RelationHoldsPinLaw", "expected", "(II)Z"⟩ : MethodName)) hown (hw _ (List.mem_of_getElem? (i := 21) rfl)) (hw _ (List.mem_of_getElem? (i := 22) rfl)) (hw _ (List.mem_of_getElem? (i := 2) rfl)) (hw _ (List.mem_of_getElem? (i := 23) rfl)) (by decide) (argsL := [(.int p0), (.int (0 : Int32))]) (rest := [(.int z57)]) (c_exp l Z a0 hw [] p0 (0 : Int32) h0 n0 Z0) pd_3 rfl rfl (hb hby at_84) e57 (by rw [hml]; rfl) (pc' := 87) rfl (by decide) (W := 1) (Nat.le_of_eq rfl) (by decide) (by decide) (by decide) ?_
          intro v58 T58 L58 X58 hQ58
          have A58 := wk X58 hx hby
          have e58 : T58.heap = T58.heap := rfl
          obtain ⟨z58, rfl, q58, N58, hh58⟩ := hQ58
          rw [show (0 : Int32).toInt = 0 from by decide] at q58
          have e58 : T58.heap = h0 := hh58
          show Go p e below m (Fini s room_1.cells room_1.slots (fun v h L => v = some (.int 1) ∧ Fr n0 L)) T58 87 #[.val (.int p0), .val (.int p1), .val (.int p2), .val (.int p3), .val (.int z1), .val (.int p2), .val (.ref r3), .val (.long z50), .second, .val (.int (0 : Int32)), .val (.double z55), .second, .val (.double z56), .second, .val (.int z57)] [(.int z58), (.int z57)]
          refine s_icmpne A58 at_87 (pY := 94) (pN := 90) (by decide) (by decide) rfl ?_ ?_
          · intro c87
            replace c87 := i_ne c87
            refine s_iconst A58 at_94 (pc' := 95) rfl (v := (0 : Int32)) (by decide) ?_
            exfalso; omega
          · intro c87
            replace c87 := i_eq c87
            refine s_iconst A58 at_90 (pc' := 91) rfl (v := (1 : Int32)) (by decide) ?_
            refine s_goto A58 at_91 (pc' := 95) (by decide) (by decide) ?_
            exact g_retZ X58 hx hlk hret (by decide) (hb hby at_95) ⟨rfl, (Fr.app (Fr.app (Fr.app N0 N2) N57) N58)⟩ (by decide) (by decide)
      · intro c34
        replace c34 := cmpI_lt c34
        refine s_iconst A2 at_37 (pc' := 38) rfl (v := (-1 : Int32)) (by decide) ?_
        refine s_istore A2 at_38 (pc' := 40) rfl (ls' := #[.val (.int p0), .val (.int p1), .val (.int p2), .val (.int p3), .val (.int z1), .val (.int p2), .val (.ref r3), .val (.long z50), .second, .val (.int (-1 : Int32)), .unset, .unset, .unset, .unset, .unset]) rfl ?_
        refine s_goto A2 at_40 (pc' := 59) (by decide) (by decide) ?_
        refine s_iloadN A2 at_59 (pc' := 60) rfl rfl ?_
        obtain ⟨z59, hz59⟩ : ∃ v : UInt64, FP.i2d p1 = v := ⟨_, rfl⟩
        have q59 : Dy p1.toInt 0 z59 := hz59 ▸ Dy.i2d' (n := p1.toInt) rfl
        refine s_i2d A2 at_60 (pc' := 61) rfl hz59 ?_
        refine s_dstore A2 at_61 (pc' := 63) rfl (ls' := #[.val (.int p0), .val (.int p1), .val (.int p2), .val (.int p3), .val (.int z1), .val (.int p2), .val (.ref r3), .val (.long z50), .second, .val (.int (-1 : Int32)), .val (.double z59), .second, .unset, .unset, .unset]) rfl ?_
        refine s_iload A2 at_63 (pc' := 65) rfl rfl ?_
        obtain ⟨z60, hz60⟩ : ∃ v : UInt64, FP.i2d p2 = v := ⟨_, rfl⟩
        have q60 : Dy p2.toInt 0 z60 := hz60 ▸ Dy.i2d' (n := p2.toInt) rfl
        refine s_i2d A2 at_65 (pc' := 66) rfl hz60 ?_
        refine s_dstore A2 at_66 (pc' := 68) rfl (ls' := #[.val (.int p0), .val (.int p1), .val (.int p2), .val (.int p3), .val (.int z1), .val (.int p2), .val (.ref r3), .val (.long z50), .second, .val (.int (-1 : Int32)), .val (.double z59), .second, .val (.double z60), .second, .unset]) rfl ?_
        refine s_aload A2 at_68 (pc' := 70) rfl rfl rfl ?_
        refine s_dload A2 at_70 (pc' := 72) rfl rfl ?_
        refine s_dload A2 at_72 (pc' := 74) rfl rfl ?_
        refine g_virtual X2 hx hZ (y := (⟨"com/example/exact_backup/exactbackup/expr/Relation", "holds", "(DD)Z"⟩ : MethodName)) hown (hw _ (List.mem_of_getElem? (i := 7) rfl)) (hw _ (List.mem_of_getElem? (i := 8) rfl)) (hw _ (List.mem_of_getElem? (i := 10) rfl)) (hw _ (List.mem_of_getElem? (i := 9) rfl)) (hw _ (List.mem_of_getElem? (i := 5) rfl)) (hw _ (List.mem_of_getElem? (i := 11) rfl)) (by decide) E3 (argsL := [(.double z59), (.double z60)]) (rest := []) (c_holds l Z a0 hw [] r3 3 z59 z60 3 p1.toInt p2.toInt h0 n0 Z0 E3 F3 (by decide) (by decide) q59 q60) pd_2 rfl rfl (hb hby at_74) e2 (by rw [hml]; rfl) (pc' := 77) rfl (by decide) (W := 0) (Nat.le_of_eq rfl) (by decide) (by decide) (by decide) ?_
        intro v61 T61 L61 X61 hQ61
        have A61 := wk X61 hx hby
        have e61 : T61.heap = T61.heap := rfl
        obtain ⟨z61, rfl, q61, N61, hh61⟩ := hQ61
        have e61 : T61.heap = h0 := hh61
        show Go p e below m (Fini s room_1.cells room_1.slots (fun v h L => v = some (.int 1) ∧ Fr n0 L)) T61 77 #[.val (.int p0), .val (.int p1), .val (.int p2), .val (.int p3), .val (.int z1), .val (.int p2), .val (.ref r3), .val (.long z50), .second, .val (.int (-1 : Int32)), .val (.double z59), .second, .val (.double z60), .second, .unset] [(.int z61)]
        refine s_istore A61 at_77 (pc' := 79) rfl (ls' := #[.val (.int p0), .val (.int p1), .val (.int p2), .val (.int p3), .val (.int z1), .val (.int p2), .val (.ref r3), .val (.long z50), .second, .val (.int (-1 : Int32)), .val (.double z59), .second, .val (.double z60), .second, .val (.int z61)]) rfl ?_
        refine s_iload A61 at_79 (pc' := 81) rfl rfl ?_
        refine s_iloadN A61 at_81 (pc' := 82) rfl rfl ?_
        refine s_iload A61 at_82 (pc' := 84) rfl rfl ?_
        refine g_static X61 hx hZ (y := (⟨"com/example/exact_backup/exactbackup/expr/RelationHoldsPinLaw", "expected", "(II)Z"⟩ : MethodName)) hown (hw _ (List.mem_of_getElem? (i := 21) rfl)) (hw _ (List.mem_of_getElem? (i := 22) rfl)) (hw _ (List.mem_of_getElem? (i := 2) rfl)) (hw _ (List.mem_of_getElem? (i := 23) rfl)) (by decide) (argsL := [(.int p0), (.int (-1 : Int32))]) (rest := [(.int z61)]) (c_exp l Z a0 hw [] p0 (-1 : Int32) h0 n0 Z0) pd_3 rfl rfl (hb hby at_84) e61 (by rw [hml]; rfl) (pc' := 87) rfl (by decide) (W := 1) (Nat.le_of_eq rfl) (by decide) (by decide) (by decide) ?_
        intro v62 T62 L62 X62 hQ62
        have A62 := wk X62 hx hby
        have e62 : T62.heap = T62.heap := rfl
        obtain ⟨z62, rfl, q62, N62, hh62⟩ := hQ62
        rw [show (-1 : Int32).toInt = -1 from by decide] at q62
        have e62 : T62.heap = h0 := hh62
        show Go p e below m (Fini s room_1.cells room_1.slots (fun v h L => v = some (.int 1) ∧ Fr n0 L)) T62 87 #[.val (.int p0), .val (.int p1), .val (.int p2), .val (.int p3), .val (.int z1), .val (.int p2), .val (.ref r3), .val (.long z50), .second, .val (.int (-1 : Int32)), .val (.double z59), .second, .val (.double z60), .second, .val (.int z61)] [(.int z62), (.int z61)]
        refine s_icmpne A62 at_87 (pY := 94) (pN := 90) (by decide) (by decide) rfl ?_ ?_
        · intro c87
          replace c87 := i_ne c87
          refine s_iconst A62 at_94 (pc' := 95) rfl (v := (0 : Int32)) (by decide) ?_
          exfalso; omega
        · intro c87
          replace c87 := i_eq c87
          refine s_iconst A62 at_90 (pc' := 91) rfl (v := (1 : Int32)) (by decide) ?_
          refine s_goto A62 at_91 (pc' := 95) (by decide) (by decide) ?_
          exact g_retZ X62 hx hlk hret (by decide) (hb hby at_95) ⟨rfl, (Fr.app (Fr.app (Fr.app N0 N2) N61) N62)⟩ (by decide) (by decide)
  · intro c10
    replace c10 := iz_eq c10
    refine s_iloadN A0 at_13 (pc' := 14) rfl rfl ?_
    refine s_istore A0 at_14 (pc' := 16) rfl (ls' := #[.val (.int p0), .val (.int p1), .val (.int p2), .val (.int p3), .val (.int z1), .val (.int p1), .unset, .unset, .unset, .unset, .unset, .unset, .unset, .unset, .unset]) rfl ?_
    refine s_iloadN A0 at_16 (pc' := 17) rfl rfl ?_
    refine g_static X0 hx hZ (y := (⟨"com/example/exact_backup/exactbackup/expr/RelationHoldsPinLaw", "pick", "(I)Lcom/example/exact_backup/exactbackup/expr/Relation;"⟩ : MethodName)) hown (hw _ (List.mem_of_getElem? (i := 0) rfl)) (hw _ (List.mem_of_getElem? (i := 1) rfl)) (hw _ (List.mem_of_getElem? (i := 2) rfl)) (hw _ (List.mem_of_getElem? (i := 3) rfl)) (by decide) (argsL := [(.int p0)]) (rest := []) (c_pick l Z a0 hw [] p0 r0 r1 r2 r3 h0 n0 Z0 S0 S1 S2 S3) pd_1 rfl rfl (hb hby at_17) e0 (by rw [hml]; rfl) (pc' := 20) rfl (by decide) (W := 0) (Nat.le_of_eq rfl) (by decide) (by decide) (by decide) ?_
    intro v63 T63 L63 X63 hQ63
    have A63 := wk X63 hx hby
    have e63 : T63.heap = T63.heap := rfl
    obtain ⟨r, rfl, y0, y1, y2, y3, N63, hh63⟩ := hQ63
    rcases (by omega : (p0 &&& 3).toInt = 0 ∨ (p0 &&& 3).toInt = 1 ∨ (p0 &&& 3).toInt = 2 ∨ (p0 &&& 3).toInt = 3) with kk | kk | kk | kk
    · obtain rfl := (y0 kk).symm
      clear y0 y1 y2 y3
      have e63 : T63.heap = h0 := hh63
      show Go p e below m (Fini s room_1.cells room_1.slots (fun v h L => v = some (.int 1) ∧ Fr n0 L)) T63 20 #[.val (.int p0), .val (.int p1), .val (.int p2), .val (.int p3), .val (.int z1), .val (.int p1), .unset, .unset, .unset, .unset, .unset, .unset, .unset, .unset, .unset] [(.ref r0)]
      refine s_astore A63 at_20 (pc' := 22) rfl (ls' := #[.val (.int p0), .val (.int p1), .val (.int p2), .val (.int p3), .val (.int z1), .val (.int p1), .val (.ref r0), .unset, .unset, .unset, .unset, .unset, .unset, .unset, .unset]) rfl rfl ?_
      refine s_iloadN A63 at_22 (pc' := 23) rfl rfl ?_
      obtain ⟨z64, hz64⟩ : ∃ v : Int64, p1.toInt64 = v := ⟨_, rfl⟩
      have q64 : z64.toInt = p1.toInt := hz64 ▸ i2l_ex (n := p1.toInt) rfl
      refine s_i2l A63 at_23 (pc' := 24) rfl hz64 ?_
      refine s_iload A63 at_24 (pc' := 26) rfl rfl ?_
      obtain ⟨z65, hz65⟩ : ∃ v : Int64, p1.toInt64 = v := ⟨_, rfl⟩
      have q65 : z65.toInt = p1.toInt := hz65 ▸ i2l_ex (n := p1.toInt) rfl
      refine s_i2l A63 at_26 (pc' := 27) rfl hz65 ?_
      obtain ⟨z66, hz66⟩ : ∃ v : Int64, (z64 - z65) = v := ⟨_, rfl⟩
      have q66 : z66.toInt = (p1.toInt - p1.toInt) := hz66 ▸ lsub_ex (n := p1.toInt) (m := p1.toInt) q64 q65 (by omega)
      refine s_lsub A63 at_27 (pc' := 28) rfl hz66 ?_
      refine s_lstore A63 at_28 (pc' := 30) rfl (ls' := #[.val (.int p0), .val (.int p1), .val (.int p2), .val (.int p3), .val (.int z1), .val (.int p1), .val (.ref r0), .val (.long z66), .second, .unset, .unset, .unset, .unset, .unset, .unset]) rfl ?_
      refine s_lload A63 at_30 (pc' := 32) rfl rfl ?_
      refine s_lconst A63 at_32 (pc' := 33) rfl (v := 0) (by decide) ?_
      refine s_lcmp A63 at_33 (pc' := 34) rfl (cmpL_ex (n := (p1.toInt - p1.toInt)) (m := 0) q66 (by decide)) ?_
      refine s_ifge A63 at_34 (pY := 43) (pN := 37) (by decide) (by decide) rfl ?_ ?_
      · intro c34
        replace c34 := cmpI_ge c34
        refine s_lload A63 at_43 (pc' := 45) rfl rfl ?_
        refine s_lconst A63 at_45 (pc' := 46) rfl (v := 0) (by decide) ?_
        refine s_lcmp A63 at_46 (pc' := 47) rfl (cmpL_ex (n := (p1.toInt - p1.toInt)) (m := 0) q66 (by decide)) ?_
        refine s_ifne A63 at_47 (pY := 56) (pN := 50) (by decide) (by decide) rfl ?_ ?_
        · intro c47
          replace c47 := cmpI_ne c47
          refine s_iconst A63 at_56 (pc' := 57) rfl (v := (1 : Int32)) (by decide) ?_
          refine s_istore A63 at_57 (pc' := 59) rfl (ls' := #[.val (.int p0), .val (.int p1), .val (.int p2), .val (.int p3), .val (.int z1), .val (.int p1), .val (.ref r0), .val (.long z66), .second, .val (.int (1 : Int32)), .unset, .unset, .unset, .unset, .unset]) rfl ?_
          refine s_iloadN A63 at_59 (pc' := 60) rfl rfl ?_
          obtain ⟨z67, hz67⟩ : ∃ v : UInt64, FP.i2d p1 = v := ⟨_, rfl⟩
          have q67 : Dy p1.toInt 0 z67 := hz67 ▸ Dy.i2d' (n := p1.toInt) rfl
          refine s_i2d A63 at_60 (pc' := 61) rfl hz67 ?_
          refine s_dstore A63 at_61 (pc' := 63) rfl (ls' := #[.val (.int p0), .val (.int p1), .val (.int p2), .val (.int p3), .val (.int z1), .val (.int p1), .val (.ref r0), .val (.long z66), .second, .val (.int (1 : Int32)), .val (.double z67), .second, .unset, .unset, .unset]) rfl ?_
          refine s_iload A63 at_63 (pc' := 65) rfl rfl ?_
          obtain ⟨z68, hz68⟩ : ∃ v : UInt64, FP.i2d p1 = v := ⟨_, rfl⟩
          have q68 : Dy p1.toInt 0 z68 := hz68 ▸ Dy.i2d' (n := p1.toInt) rfl
          refine s_i2d A63 at_65 (pc' := 66) rfl hz68 ?_
          refine s_dstore A63 at_66 (pc' := 68) rfl (ls' := #[.val (.int p0), .val (.int p1), .val (.int p2), .val (.int p3), .val (.int z1), .val (.int p1), .val (.ref r0), .val (.long z66), .second, .val (.int (1 : Int32)), .val (.double z67), .second, .val (.double z68), .second, .unset]) rfl ?_
          refine s_aload A63 at_68 (pc' := 70) rfl rfl rfl ?_
          refine s_dload A63 at_70 (pc' := 72) rfl rfl ?_
          refine s_dload A63 at_72 (pc' := 74) rfl rfl ?_
          refine g_virtual X63 hx hZ (y := (⟨"com/example/exact_backup/exactbackup/expr/Relation", "holds", "(DD)Z"⟩ : MethodName)) hown (hw _ (List.mem_of_getElem? (i := 7) rfl)) (hw _ (List.mem_of_getElem? (i := 8) rfl)) (hw _ (List.mem_of_getElem? (i := 10) rfl)) (hw _ (List.mem_of_getElem? (i := 9) rfl)) (hw _ (List.mem_of_getElem? (i := 5) rfl)) (hw _ (List.mem_of_getElem? (i := 11) rfl)) (by decide) E0 (argsL := [(.double z67), (.double z68)]) (rest := []) (c_holds l Z a0 hw [] r0 0 z67 z68 0 p1.toInt p1.toInt h0 n0 Z0 E0 F0 (by decide) (by decide) q67 q68) pd_2 rfl rfl (hb hby at_74) e63 (by rw [hml]; rfl) (pc' := 77) rfl (by decide) (W := 0) (Nat.le_of_eq rfl) (by decide) (by decide) (by decide) ?_
          intro v69 T69 L69 X69 hQ69
          have A69 := wk X69 hx hby
          have e69 : T69.heap = T69.heap := rfl
          obtain ⟨z69, rfl, q69, N69, hh69⟩ := hQ69
          have e69 : T69.heap = h0 := hh69
          show Go p e below m (Fini s room_1.cells room_1.slots (fun v h L => v = some (.int 1) ∧ Fr n0 L)) T69 77 #[.val (.int p0), .val (.int p1), .val (.int p2), .val (.int p3), .val (.int z1), .val (.int p1), .val (.ref r0), .val (.long z66), .second, .val (.int (1 : Int32)), .val (.double z67), .second, .val (.double z68), .second, .unset] [(.int z69)]
          refine s_istore A69 at_77 (pc' := 79) rfl (ls' := #[.val (.int p0), .val (.int p1), .val (.int p2), .val (.int p3), .val (.int z1), .val (.int p1), .val (.ref r0), .val (.long z66), .second, .val (.int (1 : Int32)), .val (.double z67), .second, .val (.double z68), .second, .val (.int z69)]) rfl ?_
          refine s_iload A69 at_79 (pc' := 81) rfl rfl ?_
          refine s_iloadN A69 at_81 (pc' := 82) rfl rfl ?_
          refine s_iload A69 at_82 (pc' := 84) rfl rfl ?_
          refine g_static X69 hx hZ (y := (⟨"com/example/exact_backup/exactbackup/expr/RelationHoldsPinLaw", "expected", "(II)Z"⟩ : MethodName)) hown (hw _ (List.mem_of_getElem? (i := 21) rfl)) (hw _ (List.mem_of_getElem? (i := 22) rfl)) (hw _ (List.mem_of_getElem? (i := 2) rfl)) (hw _ (List.mem_of_getElem? (i := 23) rfl)) (by decide) (argsL := [(.int p0), (.int (1 : Int32))]) (rest := [(.int z69)]) (c_exp l Z a0 hw [] p0 (1 : Int32) h0 n0 Z0) pd_3 rfl rfl (hb hby at_84) e69 (by rw [hml]; rfl) (pc' := 87) rfl (by decide) (W := 1) (Nat.le_of_eq rfl) (by decide) (by decide) (by decide) ?_
          intro v70 T70 L70 X70 hQ70
          have A70 := wk X70 hx hby
          have e70 : T70.heap = T70.heap := rfl
          obtain ⟨z70, rfl, q70, N70, hh70⟩ := hQ70
          rw [show (1 : Int32).toInt = 1 from by decide] at q70
          have e70 : T70.heap = h0 := hh70
          show Go p e below m (Fini s room_1.cells room_1.slots (fun v h L => v = some (.int 1) ∧ Fr n0 L)) T70 87 #[.val (.int p0), .val (.int p1), .val (.int p2), .val (.int p3), .val (.int z1), .val (.int p1), .val (.ref r0), .val (.long z66), .second, .val (.int (1 : Int32)), .val (.double z67), .second, .val (.double z68), .second, .val (.int z69)] [(.int z70), (.int z69)]
          refine s_icmpne A70 at_87 (pY := 94) (pN := 90) (by decide) (by decide) rfl ?_ ?_
          · intro c87
            replace c87 := i_ne c87
            refine s_iconst A70 at_94 (pc' := 95) rfl (v := (0 : Int32)) (by decide) ?_
            exfalso; omega
          · intro c87
            replace c87 := i_eq c87
            refine s_iconst A70 at_90 (pc' := 91) rfl (v := (1 : Int32)) (by decide) ?_
            refine s_goto A70 at_91 (pc' := 95) (by decide) (by decide) ?_
            exact g_retZ X70 hx hlk hret (by decide) (hb hby at_95) ⟨rfl, (Fr.app (Fr.app (Fr.app N0 N63) N69) N70)⟩ (by decide) (by decide)
        · intro c47
          replace c47 := cmpI_eq c47
          refine s_iconst A63 at_50 (pc' := 51) rfl (v := (0 : Int32)) (by decide) ?_
          refine s_istore A63 at_51 (pc' := 53) rfl (ls' := #[.val (.int p0), .val (.int p1), .val (.int p2), .val (.int p3), .val (.int z1), .val (.int p1), .val (.ref r0), .val (.long z66), .second, .val (.int (0 : Int32)), .unset, .unset, .unset, .unset, .unset]) rfl ?_
          refine s_goto A63 at_53 (pc' := 59) (by decide) (by decide) ?_
          refine s_iloadN A63 at_59 (pc' := 60) rfl rfl ?_
          obtain ⟨z71, hz71⟩ : ∃ v : UInt64, FP.i2d p1 = v := ⟨_, rfl⟩
          have q71 : Dy p1.toInt 0 z71 := hz71 ▸ Dy.i2d' (n := p1.toInt) rfl
          refine s_i2d A63 at_60 (pc' := 61) rfl hz71 ?_
          refine s_dstore A63 at_61 (pc' := 63) rfl (ls' := #[.val (.int p0), .val (.int p1), .val (.int p2), .val (.int p3), .val (.int z1), .val (.int p1), .val (.ref r0), .val (.long z66), .second, .val (.int (0 : Int32)), .val (.double z71), .second, .unset, .unset, .unset]) rfl ?_
          refine s_iload A63 at_63 (pc' := 65) rfl rfl ?_
          obtain ⟨z72, hz72⟩ : ∃ v : UInt64, FP.i2d p1 = v := ⟨_, rfl⟩
          have q72 : Dy p1.toInt 0 z72 := hz72 ▸ Dy.i2d' (n := p1.toInt) rfl
          refine s_i2d A63 at_65 (pc' := 66) rfl hz72 ?_
          refine s_dstore A63 at_66 (pc' := 68) rfl (ls' := #[.val (.int p0), .val (.int p1), .val (.int p2), .val (.int p3), .val (.int z1), .val (.int p1), .val (.ref r0), .val (.long z66), .second, .val (.int (0 : Int32)), .val (.double z71), .second, .val (.double z72), .second, .unset]) rfl ?_
          refine s_aload A63 at_68 (pc' := 70) rfl rfl rfl ?_
          refine s_dload A63 at_70 (pc' := 72) rfl rfl ?_
          refine s_dload A63 at_72 (pc' := 74) rfl rfl ?_
          refine g_virtual X63 hx hZ (y := (⟨"com/example/exact_backup/exactbackup/expr/Relation", "holds", "(DD)Z"⟩ : MethodName)) hown (hw _ (List.mem_of_getElem? (i := 7) rfl)) (hw _ (List.mem_of_getElem? (i := 8) rfl)) (hw _ (List.mem_of_getElem? (i := 10) rfl)) (hw _ (List.mem_of_getElem? (i := 9) rfl)) (hw _ (List.mem_of_getElem? (i := 5) rfl)) (hw _ (List.mem_of_getElem? (i := 11) rfl)) (by decide) E0 (argsL := [(.double z71), (.double z72)]) (rest := []) (c_holds l Z a0 hw [] r0 0 z71 z72 0 p1.toInt p1.toInt h0 n0 Z0 E0 F0 (by decide) (by decide) q71 q72) pd_2 rfl rfl (hb hby at_74) e63 (by rw [hml]; rfl) (pc' := 77) rfl (by decide) (W := 0) (Nat.le_of_eq rfl) (by decide) (by decide) (by decide) ?_
          intro v73 T73 L73 X73 hQ73
          have A73 := wk X73 hx hby
          have e73 : T73.heap = T73.heap := rfl
          obtain ⟨z73, rfl, q73, N73, hh73⟩ := hQ73
          have e73 : T73.heap = h0 := hh73
          show Go p e below m (Fini s room_1.cells room_1.slots (fun v h L => v = some (.int 1) ∧ Fr n0 L)) T73 77 #[.val (.int p0), .val (.int p1), .val (.int p2), .val (.int p3), .val (.int z1), .val (.int p1), .val (.ref r0), .val (.long z66), .second, .val (.int (0 : Int32)), .val (.double z71), .second, .val (.double z72), .second, .unset] [(.int z73)]
          refine s_istore A73 at_77 (pc' := 79) rfl (ls' := #[.val (.int p0), .val (.int p1), .val (.int p2), .val (.int p3), .val (.int z1), .val (.int p1), .val (.ref r0), .val (.long z66), .second, .val (.int (0 : Int32)), .val (.double z71), .second, .val (.double z72), .second, .val (.int z73)]) rfl ?_
          refine s_iload A73 at_79 (pc' := 81) rfl rfl ?_
          refine s_iloadN A73 at_81 (pc' := 82) rfl rfl ?_
          refine s_iload A73 at_82 (pc' := 84) rfl rfl ?_
          refine g_static X73 hx hZ (y := (⟨"com/example/exact_backup/exactbackup/expr/RelationHoldsPinLaw", "expected", "(II)Z"⟩ : MethodName)) hown (hw _ (List.mem_of_getElem? (i := 21) rfl)) (hw _ (List.mem_of_getElem? (i := 22) rfl)) (hw _ (List.mem_of_getElem? (i := 2) rfl)) (hw _ (List.mem_of_getElem? (i := 23) rfl)) (by decide) (argsL := [(.int p0), (.int (0 : Int32))]) (rest := [(.int z73)]) (c_exp l Z a0 hw [] p0 (0 : Int32) h0 n0 Z0) pd_3 rfl rfl (hb hby at_84) e73 (by rw [hml]; rfl) (pc' := 87) rfl (by decide) (W := 1) (Nat.le_of_eq rfl) (by decide) (by decide) (by decide) ?_
          intro v74 T74 L74 X74 hQ74
          have A74 := wk X74 hx hby
          have e74 : T74.heap = T74.heap := rfl
          obtain ⟨z74, rfl, q74, N74, hh74⟩ := hQ74
          rw [show (0 : Int32).toInt = 0 from by decide] at q74
          have e74 : T74.heap = h0 := hh74
          show Go p e below m (Fini s room_1.cells room_1.slots (fun v h L => v = some (.int 1) ∧ Fr n0 L)) T74 87 #[.val (.int p0), .val (.int p1), .val (.int p2), .val (.int p3), .val (.int z1), .val (.int p1), .val (.ref r0), .val (.long z66), .second, .val (.int (0 : Int32)), .val (.double z71), .second, .val (.double z72), .second, .val (.int z73)] [(.int z74), (.int z73)]
          refine s_icmpne A74 at_87 (pY := 94) (pN := 90) (by decide) (by decide) rfl ?_ ?_
          · intro c87
            replace c87 := i_ne c87
            refine s_iconst A74 at_94 (pc' := 95) rfl (v := (0 : Int32)) (by decide) ?_
            exfalso; omega
          · intro c87
            replace c87 := i_eq c87
            refine s_iconst A74 at_90 (pc' := 91) rfl (v := (1 : Int32)) (by decide) ?_
            refine s_goto A74 at_91 (pc' := 95) (by decide) (by decide) ?_
            exact g_retZ X74 hx hlk hret (by decide) (hb hby at_95) ⟨rfl, (Fr.app (Fr.app (Fr.app N0 N63) N73) N74)⟩ (by decide) (by decide)
      · intro c34
        replace c34 := cmpI_lt c34
        refine s_iconst A63 at_37 (pc' := 38) rfl (v := (-1 : Int32)) (by decide) ?_
        refine s_istore A63 at_38 (pc' := 40) rfl (ls' := #[.val (.int p0), .val (.int p1), .val (.int p2), .val (.int p3), .val (.int z1), .val (.int p1), .val (.ref r0), .val (.long z66), .second, .val (.int (-1 : Int32)), .unset, .unset, .unset, .unset, .unset]) rfl ?_
        refine s_goto A63 at_40 (pc' := 59) (by decide) (by decide) ?_
        refine s_iloadN A63 at_59 (pc' := 60) rfl rfl ?_
        obtain ⟨z75, hz75⟩ : ∃ v : UInt64, FP.i2d p1 = v := ⟨_, rfl⟩
        have q75 : Dy p1.toInt 0 z75 := hz75 ▸ Dy.i2d' (n := p1.toInt) rfl
        refine s_i2d A63 at_60 (pc' := 61) rfl hz75 ?_
        refine s_dstore A63 at_61 (pc' := 63) rfl (ls' := #[.val (.int p0), .val (.int p1), .val (.int p2), .val (.int p3), .val (.int z1), .val (.int p1), .val (.ref r0), .val (.long z66), .second, .val (.int (-1 : Int32)), .val (.double z75), .second, .unset, .unset, .unset]) rfl ?_
        refine s_iload A63 at_63 (pc' := 65) rfl rfl ?_
        obtain ⟨z76, hz76⟩ : ∃ v : UInt64, FP.i2d p1 = v := ⟨_, rfl⟩
        have q76 : Dy p1.toInt 0 z76 := hz76 ▸ Dy.i2d' (n := p1.toInt) rfl
        refine s_i2d A63 at_65 (pc' := 66) rfl hz76 ?_
        refine s_dstore A63 at_66 (pc' := 68) rfl (ls' := #[.val (.int p0), .val (.int p1), .val (.int p2), .val (.int p3), .val (.int z1), .val (.int p1), .val (.ref r0), .val (.long z66), .second, .val (.int (-1 : Int32)), .val (.double z75), .second, .val (.double z76), .second, .unset]) rfl ?_
        refine s_aload A63 at_68 (pc' := 70) rfl rfl rfl ?_
        refine s_dload A63 at_70 (pc' := 72) rfl rfl ?_
        refine s_dload A63 at_72 (pc' := 74) rfl rfl ?_
        refine g_virtual X63 hx hZ (y := (⟨"com/example/exact_backup/exactbackup/expr/Relation", "holds", "(DD)Z"⟩ : MethodName)) hown (hw _ (List.mem_of_getElem? (i := 7) rfl)) (hw _ (List.mem_of_getElem? (i := 8) rfl)) (hw _ (List.mem_of_getElem? (i := 10) rfl)) (hw _ (List.mem_of_getElem? (i := 9) rfl)) (hw _ (List.mem_of_getElem? (i := 5) rfl)) (hw _ (List.mem_of_getElem? (i := 11) rfl)) (by decide) E0 (argsL := [(.double z75), (.double z76)]) (rest := []) (c_holds l Z a0 hw [] r0 0 z75 z76 0 p1.toInt p1.toInt h0 n0 Z0 E0 F0 (by decide) (by decide) q75 q76) pd_2 rfl rfl (hb hby at_74) e63 (by rw [hml]; rfl) (pc' := 77) rfl (by decide) (W := 0) (Nat.le_of_eq rfl) (by decide) (by decide) (by decide) ?_
        intro v77 T77 L77 X77 hQ77
        have A77 := wk X77 hx hby
        have e77 : T77.heap = T77.heap := rfl
        obtain ⟨z77, rfl, q77, N77, hh77⟩ := hQ77
        have e77 : T77.heap = h0 := hh77
        show Go p e below m (Fini s room_1.cells room_1.slots (fun v h L => v = some (.int 1) ∧ Fr n0 L)) T77 77 #[.val (.int p0), .val (.int p1), .val (.int p2), .val (.int p3), .val (.int z1), .val (.int p1), .val (.ref r0), .val (.long z66), .second, .val (.int (-1 : Int32)), .val (.double z75), .second, .val (.double z76), .second, .unset] [(.int z77)]
        refine s_istore A77 at_77 (pc' := 79) rfl (ls' := #[.val (.int p0), .val (.int p1), .val (.int p2), .val (.int p3), .val (.int z1), .val (.int p1), .val (.ref r0), .val (.long z66), .second, .val (.int (-1 : Int32)), .val (.double z75), .second, .val (.double z76), .second, .val (.int z77)]) rfl ?_
        refine s_iload A77 at_79 (pc' := 81) rfl rfl ?_
        refine s_iloadN A77 at_81 (pc' := 82) rfl rfl ?_
        refine s_iload A77 at_82 (pc' := 84) rfl rfl ?_
        refine g_static X77 hx hZ (y := (⟨"com/example/exact_backup/exactbackup/expr/RelationHoldsPinLaw", "expected", "(II)Z"⟩ : MethodName)) hown (hw _ (List.mem_of_getElem? (i := 21) rfl)) (hw _ (List.mem_of_getElem? (i := 22) rfl)) (hw _ (List.mem_of_getElem? (i := 2) rfl)) (hw _ (List.mem_of_getElem? (i := 23) rfl)) (by decide) (argsL := [(.int p0), (.int (-1 : Int32))]) (rest := [(.int z77)]) (c_exp l Z a0 hw [] p0 (-1 : Int32) h0 n0 Z0) pd_3 rfl rfl (hb hby at_84) e77 (by rw [hml]; rfl) (pc' := 87) rfl (by decide) (W := 1) (Nat.le_of_eq rfl) (by decide) (by decide) (by decide) ?_
        intro v78 T78 L78 X78 hQ78
        have A78 := wk X78 hx hby
        have e78 : T78.heap = T78.heap := rfl
        obtain ⟨z78, rfl, q78, N78, hh78⟩ := hQ78
        rw [show (-1 : Int32).toInt = -1 from by decide] at q78
        have e78 : T78.heap = h0 := hh78
        show Go p e below m (Fini s room_1.cells room_1.slots (fun v h L => v = some (.int 1) ∧ Fr n0 L)) T78 87 #[.val (.int p0), .val (.int p1), .val (.int p2), .val (.int p3), .val (.int z1), .val (.int p1), .val (.ref r0), .val (.long z66), .second, .val (.int (-1 : Int32)), .val (.double z75), .second, .val (.double z76), .second, .val (.int z77)] [(.int z78), (.int z77)]
        refine s_icmpne A78 at_87 (pY := 94) (pN := 90) (by decide) (by decide) rfl ?_ ?_
        · intro c87
          replace c87 := i_ne c87
          refine s_iconst A78 at_94 (pc' := 95) rfl (v := (0 : Int32)) (by decide) ?_
          exfalso; omega
        · intro c87
          replace c87 := i_eq c87
          refine s_iconst A78 at_90 (pc' := 91) rfl (v := (1 : Int32)) (by decide) ?_
          refine s_goto A78 at_91 (pc' := 95) (by decide) (by decide) ?_
          exact g_retZ X78 hx hlk hret (by decide) (hb hby at_95) ⟨rfl, (Fr.app (Fr.app (Fr.app N0 N63) N77) N78)⟩ (by decide) (by decide)
    · obtain rfl := (y1 kk).symm
      clear y0 y1 y2 y3
      have e63 : T63.heap = h0 := hh63
      show Go p e below m (Fini s room_1.cells room_1.slots (fun v h L => v = some (.int 1) ∧ Fr n0 L)) T63 20 #[.val (.int p0), .val (.int p1), .val (.int p2), .val (.int p3), .val (.int z1), .val (.int p1), .unset, .unset, .unset, .unset, .unset, .unset, .unset, .unset, .unset] [(.ref r1)]
      refine s_astore A63 at_20 (pc' := 22) rfl (ls' := #[.val (.int p0), .val (.int p1), .val (.int p2), .val (.int p3), .val (.int z1), .val (.int p1), .val (.ref r1), .unset, .unset, .unset, .unset, .unset, .unset, .unset, .unset]) rfl rfl ?_
      refine s_iloadN A63 at_22 (pc' := 23) rfl rfl ?_
      obtain ⟨z79, hz79⟩ : ∃ v : Int64, p1.toInt64 = v := ⟨_, rfl⟩
      have q79 : z79.toInt = p1.toInt := hz79 ▸ i2l_ex (n := p1.toInt) rfl
      refine s_i2l A63 at_23 (pc' := 24) rfl hz79 ?_
      refine s_iload A63 at_24 (pc' := 26) rfl rfl ?_
      obtain ⟨z80, hz80⟩ : ∃ v : Int64, p1.toInt64 = v := ⟨_, rfl⟩
      have q80 : z80.toInt = p1.toInt := hz80 ▸ i2l_ex (n := p1.toInt) rfl
      refine s_i2l A63 at_26 (pc' := 27) rfl hz80 ?_
      obtain ⟨z81, hz81⟩ : ∃ v : Int64, (z79 - z80) = v := ⟨_, rfl⟩
      have q81 : z81.toInt = (p1.toInt - p1.toInt) := hz81 ▸ lsub_ex (n := p1.toInt) (m := p1.toInt) q79 q80 (by omega)
      refine s_lsub A63 at_27 (pc' := 28) rfl hz81 ?_
      refine s_lstore A63 at_28 (pc' := 30) rfl (ls' := #[.val (.int p0), .val (.int p1), .val (.int p2), .val (.int p3), .val (.int z1), .val (.int p1), .val (.ref r1), .val (.long z81), .second, .unset, .unset, .unset, .unset, .unset, .unset]) rfl ?_
      refine s_lload A63 at_30 (pc' := 32) rfl rfl ?_
      refine s_lconst A63 at_32 (pc' := 33) rfl (v := 0) (by decide) ?_
      refine s_lcmp A63 at_33 (pc' := 34) rfl (cmpL_ex (n := (p1.toInt - p1.toInt)) (m := 0) q81 (by decide)) ?_
      refine s_ifge A63 at_34 (pY := 43) (pN := 37) (by decide) (by decide) rfl ?_ ?_
      · intro c34
        replace c34 := cmpI_ge c34
        refine s_lload A63 at_43 (pc' := 45) rfl rfl ?_
        refine s_lconst A63 at_45 (pc' := 46) rfl (v := 0) (by decide) ?_
        refine s_lcmp A63 at_46 (pc' := 47) rfl (cmpL_ex (n := (p1.toInt - p1.toInt)) (m := 0) q81 (by decide)) ?_
        refine s_ifne A63 at_47 (pY := 56) (pN := 50) (by decide) (by decide) rfl ?_ ?_
        · intro c47
          replace c47 := cmpI_ne c47
          refine s_iconst A63 at_56 (pc' := 57) rfl (v := (1 : Int32)) (by decide) ?_
          refine s_istore A63 at_57 (pc' := 59) rfl (ls' := #[.val (.int p0), .val (.int p1), .val (.int p2), .val (.int p3), .val (.int z1), .val (.int p1), .val (.ref r1), .val (.long z81), .second, .val (.int (1 : Int32)), .unset, .unset, .unset, .unset, .unset]) rfl ?_
          refine s_iloadN A63 at_59 (pc' := 60) rfl rfl ?_
          obtain ⟨z82, hz82⟩ : ∃ v : UInt64, FP.i2d p1 = v := ⟨_, rfl⟩
          have q82 : Dy p1.toInt 0 z82 := hz82 ▸ Dy.i2d' (n := p1.toInt) rfl
          refine s_i2d A63 at_60 (pc' := 61) rfl hz82 ?_
          refine s_dstore A63 at_61 (pc' := 63) rfl (ls' := #[.val (.int p0), .val (.int p1), .val (.int p2), .val (.int p3), .val (.int z1), .val (.int p1), .val (.ref r1), .val (.long z81), .second, .val (.int (1 : Int32)), .val (.double z82), .second, .unset, .unset, .unset]) rfl ?_
          refine s_iload A63 at_63 (pc' := 65) rfl rfl ?_
          obtain ⟨z83, hz83⟩ : ∃ v : UInt64, FP.i2d p1 = v := ⟨_, rfl⟩
          have q83 : Dy p1.toInt 0 z83 := hz83 ▸ Dy.i2d' (n := p1.toInt) rfl
          refine s_i2d A63 at_65 (pc' := 66) rfl hz83 ?_
          refine s_dstore A63 at_66 (pc' := 68) rfl (ls' := #[.val (.int p0), .val (.int p1), .val (.int p2), .val (.int p3), .val (.int z1), .val (.int p1), .val (.ref r1), .val (.long z81), .second, .val (.int (1 : Int32)), .val (.double z82), .second, .val (.double z83), .second, .unset]) rfl ?_
          refine s_aload A63 at_68 (pc' := 70) rfl rfl rfl ?_
          refine s_dload A63 at_70 (pc' := 72) rfl rfl ?_
          refine s_dload A63 at_72 (pc' := 74) rfl rfl ?_
          refine g_virtual X63 hx hZ (y := (⟨"com/example/exact_backup/exactbackup/expr/Relation", "holds", "(DD)Z"⟩ : MethodName)) hown (hw _ (List.mem_of_getElem? (i := 7) rfl)) (hw _ (List.mem_of_getElem? (i := 8) rfl)) (hw _ (List.mem_of_getElem? (i := 10) rfl)) (hw _ (List.mem_of_getElem? (i := 9) rfl)) (hw _ (List.mem_of_getElem? (i := 5) rfl)) (hw _ (List.mem_of_getElem? (i := 11) rfl)) (by decide) E1 (argsL := [(.double z82), (.double z83)]) (rest := []) (c_holds l Z a0 hw [] r1 1 z82 z83 1 p1.toInt p1.toInt h0 n0 Z0 E1 F1 (by decide) (by decide) q82 q83) pd_2 rfl rfl (hb hby at_74) e63 (by rw [hml]; rfl) (pc' := 77) rfl (by decide) (W := 0) (Nat.le_of_eq rfl) (by decide) (by decide) (by decide) ?_
          intro v84 T84 L84 X84 hQ84
          have A84 := wk X84 hx hby
          have e84 : T84.heap = T84.heap := rfl
          obtain ⟨z84, rfl, q84, N84, hh84⟩ := hQ84
          have e84 : T84.heap = h0 := hh84
          show Go p e below m (Fini s room_1.cells room_1.slots (fun v h L => v = some (.int 1) ∧ Fr n0 L)) T84 77 #[.val (.int p0), .val (.int p1), .val (.int p2), .val (.int p3), .val (.int z1), .val (.int p1), .val (.ref r1), .val (.long z81), .second, .val (.int (1 : Int32)), .val (.double z82), .second, .val (.double z83), .second, .unset] [(.int z84)]
          refine s_istore A84 at_77 (pc' := 79) rfl (ls' := #[.val (.int p0), .val (.int p1), .val (.int p2), .val (.int p3), .val (.int z1), .val (.int p1), .val (.ref r1), .val (.long z81), .second, .val (.int (1 : Int32)), .val (.double z82), .second, .val (.double z83), .second, .val (.int z84)]) rfl ?_
          refine s_iload A84 at_79 (pc' := 81) rfl rfl ?_
          refine s_iloadN A84 at_81 (pc' := 82) rfl rfl ?_
          refine s_iload A84 at_82 (pc' := 84) rfl rfl ?_
          refine g_static X84 hx hZ (y := (⟨"com/example/exact_backup/exactbackup/expr/RelationHoldsPinLaw", "expected", "(II)Z"⟩ : MethodName)) hown (hw _ (List.mem_of_getElem? (i := 21) rfl)) (hw _ (List.mem_of_getElem? (i := 22) rfl)) (hw _ (List.mem_of_getElem? (i := 2) rfl)) (hw _ (List.mem_of_getElem? (i := 23) rfl)) (by decide) (argsL := [(.int p0), (.int (1 : Int32))]) (rest := [(.int z84)]) (c_exp l Z a0 hw [] p0 (1 : Int32) h0 n0 Z0) pd_3 rfl rfl (hb hby at_84) e84 (by rw [hml]; rfl) (pc' := 87) rfl (by decide) (W := 1) (Nat.le_of_eq rfl) (by decide) (by decide) (by decide) ?_
          intro v85 T85 L85 X85 hQ85
          have A85 := wk X85 hx hby
          have e85 : T85.heap = T85.heap := rfl
          obtain ⟨z85, rfl, q85, N85, hh85⟩ := hQ85
          rw [show (1 : Int32).toInt = 1 from by decide] at q85
          have e85 : T85.heap = h0 := hh85
          show Go p e below m (Fini s room_1.cells room_1.slots (fun v h L => v = some (.int 1) ∧ Fr n0 L)) T85 87 #[.val (.int p0), .val (.int p1), .val (.int p2), .val (.int p3), .val (.int z1), .val (.int p1), .val (.ref r1), .val (.long z81), .second, .val (.int (1 : Int32)), .val (.double z82), .second, .val (.double z83), .second, .val (.int z84)] [(.int z85), (.int z84)]
          refine s_icmpne A85 at_87 (pY := 94) (pN := 90) (by decide) (by decide) rfl ?_ ?_
          · intro c87
            replace c87 := i_ne c87
            refine s_iconst A85 at_94 (pc' := 95) rfl (v := (0 : Int32)) (by decide) ?_
            exfalso; omega
          · intro c87
            replace c87 := i_eq c87
            refine s_iconst A85 at_90 (pc' := 91) rfl (v := (1 : Int32)) (by decide) ?_
            refine s_goto A85 at_91 (pc' := 95) (by decide) (by decide) ?_
            exact g_retZ X85 hx hlk hret (by decide) (hb hby at_95) ⟨rfl, (Fr.app (Fr.app (Fr.app N0 N63) N84) N85)⟩ (by decide) (by decide)
        · intro c47
          replace c47 := cmpI_eq c47
          refine s_iconst A63 at_50 (pc' := 51) rfl (v := (0 : Int32)) (by decide) ?_
          refine s_istore A63 at_51 (pc' := 53) rfl (ls' := #[.val (.int p0), .val (.int p1), .val (.int p2), .val (.int p3), .val (.int z1), .val (.int p1), .val (.ref r1), .val (.long z81), .second, .val (.int (0 : Int32)), .unset, .unset, .unset, .unset, .unset]) rfl ?_
          refine s_goto A63 at_53 (pc' := 59) (by decide) (by decide) ?_
          refine s_iloadN A63 at_59 (pc' := 60) rfl rfl ?_
          obtain ⟨z86, hz86⟩ : ∃ v : UInt64, FP.i2d p1 = v := ⟨_, rfl⟩
          have q86 : Dy p1.toInt 0 z86 := hz86 ▸ Dy.i2d' (n := p1.toInt) rfl
          refine s_i2d A63 at_60 (pc' := 61) rfl hz86 ?_
          refine s_dstore A63 at_61 (pc' := 63) rfl (ls' := #[.val (.int p0), .val (.int p1), .val (.int p2), .val (.int p3), .val (.int z1), .val (.int p1), .val (.ref r1), .val (.long z81), .second, .val (.int (0 : Int32)), .val (.double z86), .second, .unset, .unset, .unset]) rfl ?_
          refine s_iload A63 at_63 (pc' := 65) rfl rfl ?_
          obtain ⟨z87, hz87⟩ : ∃ v : UInt64, FP.i2d p1 = v := ⟨_, rfl⟩
          have q87 : Dy p1.toInt 0 z87 := hz87 ▸ Dy.i2d' (n := p1.toInt) rfl
          refine s_i2d A63 at_65 (pc' := 66) rfl hz87 ?_
          refine s_dstore A63 at_66 (pc' := 68) rfl (ls' := #[.val (.int p0), .val (.int p1), .val (.int p2), .val (.int p3), .val (.int z1), .val (.int p1), .val (.ref r1), .val (.long z81), .second, .val (.int (0 : Int32)), .val (.double z86), .second, .val (.double z87), .second, .unset]) rfl ?_
          refine s_aload A63 at_68 (pc' := 70) rfl rfl rfl ?_
          refine s_dload A63 at_70 (pc' := 72) rfl rfl ?_
          refine s_dload A63 at_72 (pc' := 74) rfl rfl ?_
          refine g_virtual X63 hx hZ (y := (⟨"com/example/exact_backup/exactbackup/expr/Relation", "holds", "(DD)Z"⟩ : MethodName)) hown (hw _ (List.mem_of_getElem? (i := 7) rfl)) (hw _ (List.mem_of_getElem? (i := 8) rfl)) (hw _ (List.mem_of_getElem? (i := 10) rfl)) (hw _ (List.mem_of_getElem? (i := 9) rfl)) (hw _ (List.mem_of_getElem? (i := 5) rfl)) (hw _ (List.mem_of_getElem? (i := 11) rfl)) (by decide) E1 (argsL := [(.double z86), (.double z87)]) (rest := []) (c_holds l Z a0 hw [] r1 1 z86 z87 1 p1.toInt p1.toInt h0 n0 Z0 E1 F1 (by decide) (by decide) q86 q87) pd_2 rfl rfl (hb hby at_74) e63 (by rw [hml]; rfl) (pc' := 77) rfl (by decide) (W := 0) (Nat.le_of_eq rfl) (by decide) (by decide) (by decide) ?_
          intro v88 T88 L88 X88 hQ88
          have A88 := wk X88 hx hby
          have e88 : T88.heap = T88.heap := rfl
          obtain ⟨z88, rfl, q88, N88, hh88⟩ := hQ88
          have e88 : T88.heap = h0 := hh88
          show Go p e below m (Fini s room_1.cells room_1.slots (fun v h L => v = some (.int 1) ∧ Fr n0 L)) T88 77 #[.val (.int p0), .val (.int p1), .val (.int p2), .val (.int p3), .val (.int z1), .val (.int p1), .val (.ref r1), .val (.long z81), .second, .val (.int (0 : Int32)), .val (.double z86), .second, .val (.double z87), .second, .unset] [(.int z88)]
          refine s_istore A88 at_77 (pc' := 79) rfl (ls' := #[.val (.int p0), .val (.int p1), .val (.int p2), .val (.int p3), .val (.int z1), .val (.int p1), .val (.ref r1), .val (.long z81), .second, .val (.int (0 : Int32)), .val (.double z86), .second, .val (.double z87), .second, .val (.int z88)]) rfl ?_
          refine s_iload A88 at_79 (pc' := 81) rfl rfl ?_
          refine s_iloadN A88 at_81 (pc' := 82) rfl rfl ?_
          refine s_iload A88 at_82 (pc' := 84) rfl rfl ?_
          refine g_static X88 hx hZ (y := (⟨"com/example/exact_backup/exactbackup/expr/RelationHoldsPinLaw", "expected", "(II)Z"⟩ : MethodName)) hown (hw _ (List.mem_of_getElem? (i := 21) rfl)) (hw _ (List.mem_of_getElem? (i := 22) rfl)) (hw _ (List.mem_of_getElem? (i := 2) rfl)) (hw _ (List.mem_of_getElem? (i := 23) rfl)) (by decide) (argsL := [(.int p0), (.int (0 : Int32))]) (rest := [(.int z88)]) (c_exp l Z a0 hw [] p0 (0 : Int32) h0 n0 Z0) pd_3 rfl rfl (hb hby at_84) e88 (by rw [hml]; rfl) (pc' := 87) rfl (by decide) (W := 1) (Nat.le_of_eq rfl) (by decide) (by decide) (by decide) ?_
          intro v89 T89 L89 X89 hQ89
          have A89 := wk X89 hx hby
          have e89 : T89.heap = T89.heap := rfl
          obtain ⟨z89, rfl, q89, N89, hh89⟩ := hQ89
          rw [show (0 : Int32).toInt = 0 from by decide] at q89
          have e89 : T89.heap = h0 := hh89
          show Go p e below m (Fini s room_1.cells room_1.slots (fun v h L => v = some (.int 1) ∧ Fr n0 L)) T89 87 #[.val (.int p0), .val (.int p1), .val (.int p2), .val (.int p3), .val (.int z1), .val (.int p1), .val (.ref r1), .val (.long z81), .second, .val (.int (0 : Int32)), .val (.double z86), .second, .val (.double z87), .second, .val (.int z88)] [(.int z89), (.int z88)]
          refine s_icmpne A89 at_87 (pY := 94) (pN := 90) (by decide) (by decide) rfl ?_ ?_
          · intro c87
            replace c87 := i_ne c87
            refine s_iconst A89 at_94 (pc' := 95) rfl (v := (0 : Int32)) (by decide) ?_
            exfalso; omega
          · intro c87
            replace c87 := i_eq c87
            refine s_iconst A89 at_90 (pc' := 91) rfl (v := (1 : Int32)) (by decide) ?_
            refine s_goto A89 at_91 (pc' := 95) (by decide) (by decide) ?_
            exact g_retZ X89 hx hlk hret (by decide) (hb hby at_95) ⟨rfl, (Fr.app (Fr.app (Fr.app N0 N63) N88) N89)⟩ (by decide) (by decide)
      · intro c34
        replace c34 := cmpI_lt c34
        refine s_iconst A63 at_37 (pc' := 38) rfl (v := (-1 : Int32)) (by decide) ?_
        refine s_istore A63 at_38 (pc' := 40) rfl (ls' := #[.val (.int p0), .val (.int p1), .val (.int p2), .val (.int p3), .val (.int z1), .val (.int p1), .val (.ref r1), .val (.long z81), .second, .val (.int (-1 : Int32)), .unset, .unset, .unset, .unset, .unset]) rfl ?_
        refine s_goto A63 at_40 (pc' := 59) (by decide) (by decide) ?_
        refine s_iloadN A63 at_59 (pc' := 60) rfl rfl ?_
        obtain ⟨z90, hz90⟩ : ∃ v : UInt64, FP.i2d p1 = v := ⟨_, rfl⟩
        have q90 : Dy p1.toInt 0 z90 := hz90 ▸ Dy.i2d' (n := p1.toInt) rfl
        refine s_i2d A63 at_60 (pc' := 61) rfl hz90 ?_
        refine s_dstore A63 at_61 (pc' := 63) rfl (ls' := #[.val (.int p0), .val (.int p1), .val (.int p2), .val (.int p3), .val (.int z1), .val (.int p1), .val (.ref r1), .val (.long z81), .second, .val (.int (-1 : Int32)), .val (.double z90), .second, .unset, .unset, .unset]) rfl ?_
        refine s_iload A63 at_63 (pc' := 65) rfl rfl ?_
        obtain ⟨z91, hz91⟩ : ∃ v : UInt64, FP.i2d p1 = v := ⟨_, rfl⟩
        have q91 : Dy p1.toInt 0 z91 := hz91 ▸ Dy.i2d' (n := p1.toInt) rfl
        refine s_i2d A63 at_65 (pc' := 66) rfl hz91 ?_
        refine s_dstore A63 at_66 (pc' := 68) rfl (ls' := #[.val (.int p0), .val (.int p1), .val (.int p2), .val (.int p3), .val (.int z1), .val (.int p1), .val (.ref r1), .val (.long z81), .second, .val (.int (-1 : Int32)), .val (.double z90), .second, .val (.double z91), .second, .unset]) rfl ?_
        refine s_aload A63 at_68 (pc' := 70) rfl rfl rfl ?_
        refine s_dload A63 at_70 (pc' := 72) rfl rfl ?_
        refine s_dload A63 at_72 (pc' := 74) rfl rfl ?_
        refine g_virtual X63 hx hZ (y := (⟨"com/example/exact_backup/exactbackup/expr/Relation", "holds", "(DD)Z"⟩ : MethodName)) hown (hw _ (List.mem_of_getElem? (i := 7) rfl)) (hw _ (List.mem_of_getElem? (i := 8) rfl)) (hw _ (List.mem_of_getElem? (i := 10) rfl)) (hw _ (List.mem_of_getElem? (i := 9) rfl)) (hw _ (List.mem_of_getElem? (i := 5) rfl)) (hw _ (List.mem_of_getElem? (i := 11) rfl)) (by decide) E1 (argsL := [(.double z90), (.double z91)]) (rest := []) (c_holds l Z a0 hw [] r1 1 z90 z91 1 p1.toInt p1.toInt h0 n0 Z0 E1 F1 (by decide) (by decide) q90 q91) pd_2 rfl rfl (hb hby at_74) e63 (by rw [hml]; rfl) (pc' := 77) rfl (by decide) (W := 0) (Nat.le_of_eq rfl) (by decide) (by decide) (by decide) ?_
        intro v92 T92 L92 X92 hQ92
        have A92 := wk X92 hx hby
        have e92 : T92.heap = T92.heap := rfl
        obtain ⟨z92, rfl, q92, N92, hh92⟩ := hQ92
        have e92 : T92.heap = h0 := hh92
        show Go p e below m (Fini s room_1.cells room_1.slots (fun v h L => v = some (.int 1) ∧ Fr n0 L)) T92 77 #[.val (.int p0), .val (.int p1), .val (.int p2), .val (.int p3), .val (.int z1), .val (.int p1), .val (.ref r1), .val (.long z81), .second, .val (.int (-1 : Int32)), .val (.double z90), .second, .val (.double z91), .second, .unset] [(.int z92)]
        refine s_istore A92 at_77 (pc' := 79) rfl (ls' := #[.val (.int p0), .val (.int p1), .val (.int p2), .val (.int p3), .val (.int z1), .val (.int p1), .val (.ref r1), .val (.long z81), .second, .val (.int (-1 : Int32)), .val (.double z90), .second, .val (.double z91), .second, .val (.int z92)]) rfl ?_
        refine s_iload A92 at_79 (pc' := 81) rfl rfl ?_
        refine s_iloadN A92 at_81 (pc' := 82) rfl rfl ?_
        refine s_iload A92 at_82 (pc' := 84) rfl rfl ?_
        refine g_static X92 hx hZ (y := (⟨"com/example/exact_backup/exactbackup/expr/RelationHoldsPinLaw", "expected", "(II)Z"⟩ : MethodName)) hown (hw _ (List.mem_of_getElem? (i := 21) rfl)) (hw _ (List.mem_of_getElem? (i := 22) rfl)) (hw _ (List.mem_of_getElem? (i := 2) rfl)) (hw _ (List.mem_of_getElem? (i := 23) rfl)) (by decide) (argsL := [(.int p0), (.int (-1 : Int32))]) (rest := [(.int z92)]) (c_exp l Z a0 hw [] p0 (-1 : Int32) h0 n0 Z0) pd_3 rfl rfl (hb hby at_84) e92 (by rw [hml]; rfl) (pc' := 87) rfl (by decide) (W := 1) (Nat.le_of_eq rfl) (by decide) (by decide) (by decide) ?_
        intro v93 T93 L93 X93 hQ93
        have A93 := wk X93 hx hby
        have e93 : T93.heap = T93.heap := rfl
        obtain ⟨z93, rfl, q93, N93, hh93⟩ := hQ93
        rw [show (-1 : Int32).toInt = -1 from by decide] at q93
        have e93 : T93.heap = h0 := hh93
        show Go p e below m (Fini s room_1.cells room_1.slots (fun v h L => v = some (.int 1) ∧ Fr n0 L)) T93 87 #[.val (.int p0), .val (.int p1), .val (.int p2), .val (.int p3), .val (.int z1), .val (.int p1), .val (.ref r1), .val (.long z81), .second, .val (.int (-1 : Int32)), .val (.double z90), .second, .val (.double z91), .second, .val (.int z92)] [(.int z93), (.int z92)]
        refine s_icmpne A93 at_87 (pY := 94) (pN := 90) (by decide) (by decide) rfl ?_ ?_
        · intro c87
          replace c87 := i_ne c87
          refine s_iconst A93 at_94 (pc' := 95) rfl (v := (0 : Int32)) (by decide) ?_
          exfalso; omega
        · intro c87
          replace c87 := i_eq c87
          refine s_iconst A93 at_90 (pc' := 91) rfl (v := (1 : Int32)) (by decide) ?_
          refine s_goto A93 at_91 (pc' := 95) (by decide) (by decide) ?_
          exact g_retZ X93 hx hlk hret (by decide) (hb hby at_95) ⟨rfl, (Fr.app (Fr.app (Fr.app N0 N63) N92) N93)⟩ (by decide) (by decide)
    · obtain rfl := (y2 kk).symm
      clear y0 y1 y2 y3
      have e63 : T63.heap = h0 := hh63
      show Go p e below m (Fini s room_1.cells room_1.slots (fun v h L => v = some (.int 1) ∧ Fr n0 L)) T63 20 #[.val (.int p0), .val (.int p1), .val (.int p2), .val (.int p3), .val (.int z1), .val (.int p1), .unset, .unset, .unset, .unset, .unset, .unset, .unset, .unset, .unset] [(.ref r2)]
      refine s_astore A63 at_20 (pc' := 22) rfl (ls' := #[.val (.int p0), .val (.int p1), .val (.int p2), .val (.int p3), .val (.int z1), .val (.int p1), .val (.ref r2), .unset, .unset, .unset, .unset, .unset, .unset, .unset, .unset]) rfl rfl ?_
      refine s_iloadN A63 at_22 (pc' := 23) rfl rfl ?_
      obtain ⟨z94, hz94⟩ : ∃ v : Int64, p1.toInt64 = v := ⟨_, rfl⟩
      have q94 : z94.toInt = p1.toInt := hz94 ▸ i2l_ex (n := p1.toInt) rfl
      refine s_i2l A63 at_23 (pc' := 24) rfl hz94 ?_
      refine s_iload A63 at_24 (pc' := 26) rfl rfl ?_
      obtain ⟨z95, hz95⟩ : ∃ v : Int64, p1.toInt64 = v := ⟨_, rfl⟩
      have q95 : z95.toInt = p1.toInt := hz95 ▸ i2l_ex (n := p1.toInt) rfl
      refine s_i2l A63 at_26 (pc' := 27) rfl hz95 ?_
      obtain ⟨z96, hz96⟩ : ∃ v : Int64, (z94 - z95) = v := ⟨_, rfl⟩
      have q96 : z96.toInt = (p1.toInt - p1.toInt) := hz96 ▸ lsub_ex (n := p1.toInt) (m := p1.toInt) q94 q95 (by omega)
      refine s_lsub A63 at_27 (pc' := 28) rfl hz96 ?_
      refine s_lstore A63 at_28 (pc' := 30) rfl (ls' := #[.val (.int p0), .val (.int p1), .val (.int p2), .val (.int p3), .val (.int z1), .val (.int p1), .val (.ref r2), .val (.long z96), .second, .unset, .unset, .unset, .unset, .unset, .unset]) rfl ?_
      refine s_lload A63 at_30 (pc' := 32) rfl rfl ?_
      refine s_lconst A63 at_32 (pc' := 33) rfl (v := 0) (by decide) ?_
      refine s_lcmp A63 at_33 (pc' := 34) rfl (cmpL_ex (n := (p1.toInt - p1.toInt)) (m := 0) q96 (by decide)) ?_
      refine s_ifge A63 at_34 (pY := 43) (pN := 37) (by decide) (by decide) rfl ?_ ?_
      · intro c34
        replace c34 := cmpI_ge c34
        refine s_lload A63 at_43 (pc' := 45) rfl rfl ?_
        refine s_lconst A63 at_45 (pc' := 46) rfl (v := 0) (by decide) ?_
        refine s_lcmp A63 at_46 (pc' := 47) rfl (cmpL_ex (n := (p1.toInt - p1.toInt)) (m := 0) q96 (by decide)) ?_
        refine s_ifne A63 at_47 (pY := 56) (pN := 50) (by decide) (by decide) rfl ?_ ?_
        · intro c47
          replace c47 := cmpI_ne c47
          refine s_iconst A63 at_56 (pc' := 57) rfl (v := (1 : Int32)) (by decide) ?_
          refine s_istore A63 at_57 (pc' := 59) rfl (ls' := #[.val (.int p0), .val (.int p1), .val (.int p2), .val (.int p3), .val (.int z1), .val (.int p1), .val (.ref r2), .val (.long z96), .second, .val (.int (1 : Int32)), .unset, .unset, .unset, .unset, .unset]) rfl ?_
          refine s_iloadN A63 at_59 (pc' := 60) rfl rfl ?_
          obtain ⟨z97, hz97⟩ : ∃ v : UInt64, FP.i2d p1 = v := ⟨_, rfl⟩
          have q97 : Dy p1.toInt 0 z97 := hz97 ▸ Dy.i2d' (n := p1.toInt) rfl
          refine s_i2d A63 at_60 (pc' := 61) rfl hz97 ?_
          refine s_dstore A63 at_61 (pc' := 63) rfl (ls' := #[.val (.int p0), .val (.int p1), .val (.int p2), .val (.int p3), .val (.int z1), .val (.int p1), .val (.ref r2), .val (.long z96), .second, .val (.int (1 : Int32)), .val (.double z97), .second, .unset, .unset, .unset]) rfl ?_
          refine s_iload A63 at_63 (pc' := 65) rfl rfl ?_
          obtain ⟨z98, hz98⟩ : ∃ v : UInt64, FP.i2d p1 = v := ⟨_, rfl⟩
          have q98 : Dy p1.toInt 0 z98 := hz98 ▸ Dy.i2d' (n := p1.toInt) rfl
          refine s_i2d A63 at_65 (pc' := 66) rfl hz98 ?_
          refine s_dstore A63 at_66 (pc' := 68) rfl (ls' := #[.val (.int p0), .val (.int p1), .val (.int p2), .val (.int p3), .val (.int z1), .val (.int p1), .val (.ref r2), .val (.long z96), .second, .val (.int (1 : Int32)), .val (.double z97), .second, .val (.double z98), .second, .unset]) rfl ?_
          refine s_aload A63 at_68 (pc' := 70) rfl rfl rfl ?_
          refine s_dload A63 at_70 (pc' := 72) rfl rfl ?_
          refine s_dload A63 at_72 (pc' := 74) rfl rfl ?_
          refine g_virtual X63 hx hZ (y := (⟨"com/example/exact_backup/exactbackup/expr/Relation", "holds", "(DD)Z"⟩ : MethodName)) hown (hw _ (List.mem_of_getElem? (i := 7) rfl)) (hw _ (List.mem_of_getElem? (i := 8) rfl)) (hw _ (List.mem_of_getElem? (i := 10) rfl)) (hw _ (List.mem_of_getElem? (i := 9) rfl)) (hw _ (List.mem_of_getElem? (i := 5) rfl)) (hw _ (List.mem_of_getElem? (i := 11) rfl)) (by decide) E2 (argsL := [(.double z97), (.double z98)]) (rest := []) (c_holds l Z a0 hw [] r2 2 z97 z98 2 p1.toInt p1.toInt h0 n0 Z0 E2 F2 (by decide) (by decide) q97 q98) pd_2 rfl rfl (hb hby at_74) e63 (by rw [hml]; rfl) (pc' := 77) rfl (by decide) (W := 0) (Nat.le_of_eq rfl) (by decide) (by decide) (by decide) ?_
          intro v99 T99 L99 X99 hQ99
          have A99 := wk X99 hx hby
          have e99 : T99.heap = T99.heap := rfl
          obtain ⟨z99, rfl, q99, N99, hh99⟩ := hQ99
          have e99 : T99.heap = h0 := hh99
          show Go p e below m (Fini s room_1.cells room_1.slots (fun v h L => v = some (.int 1) ∧ Fr n0 L)) T99 77 #[.val (.int p0), .val (.int p1), .val (.int p2), .val (.int p3), .val (.int z1), .val (.int p1), .val (.ref r2), .val (.long z96), .second, .val (.int (1 : Int32)), .val (.double z97), .second, .val (.double z98), .second, .unset] [(.int z99)]
          refine s_istore A99 at_77 (pc' := 79) rfl (ls' := #[.val (.int p0), .val (.int p1), .val (.int p2), .val (.int p3), .val (.int z1), .val (.int p1), .val (.ref r2), .val (.long z96), .second, .val (.int (1 : Int32)), .val (.double z97), .second, .val (.double z98), .second, .val (.int z99)]) rfl ?_
          refine s_iload A99 at_79 (pc' := 81) rfl rfl ?_
          refine s_iloadN A99 at_81 (pc' := 82) rfl rfl ?_
          refine s_iload A99 at_82 (pc' := 84) rfl rfl ?_
          refine g_static X99 hx hZ (y := (⟨"com/example/exact_backup/exactbackup/expr/RelationHoldsPinLaw", "expected", "(II)Z"⟩ : MethodName)) hown (hw _ (List.mem_of_getElem? (i := 21) rfl)) (hw _ (List.mem_of_getElem? (i := 22) rfl)) (hw _ (List.mem_of_getElem? (i := 2) rfl)) (hw _ (List.mem_of_getElem? (i := 23) rfl)) (by decide) (argsL := [(.int p0), (.int (1 : Int32))]) (rest := [(.int z99)]) (c_exp l Z a0 hw [] p0 (1 : Int32) h0 n0 Z0) pd_3 rfl rfl (hb hby at_84) e99 (by rw [hml]; rfl) (pc' := 87) rfl (by decide) (W := 1) (Nat.le_of_eq rfl) (by decide) (by decide) (by decide) ?_
          intro v100 T100 L100 X100 hQ100
          have A100 := wk X100 hx hby
          have e100 : T100.heap = T100.heap := rfl
          obtain ⟨z100, rfl, q100, N100, hh100⟩ := hQ100
          rw [show (1 : Int32).toInt = 1 from by decide] at q100
          have e100 : T100.heap = h0 := hh100
          show Go p e below m (Fini s room_1.cells room_1.slots (fun v h L => v = some (.int 1) ∧ Fr n0 L)) T100 87 #[.val (.int p0), .val (.int p1), .val (.int p2), .val (.int p3), .val (.int z1), .val (.int p1), .val (.ref r2), .val (.long z96), .second, .val (.int (1 : Int32)), .val (.double z97), .second, .val (.double z98), .second, .val (.int z99)] [(.int z100), (.int z99)]
          refine s_icmpne A100 at_87 (pY := 94) (pN := 90) (by decide) (by decide) rfl ?_ ?_
          · intro c87
            replace c87 := i_ne c87
            refine s_iconst A100 at_94 (pc' := 95) rfl (v := (0 : Int32)) (by decide) ?_
            exfalso; omega
          · intro c87
            replace c87 := i_eq c87
            refine s_iconst A100 at_90 (pc' := 91) rfl (v := (1 : Int32)) (by decide) ?_
            refine s_goto A100 at_91 (pc' := 95) (by decide) (by decide) ?_
            exact g_retZ X100 hx hlk hret (by decide) (hb hby at_95) ⟨rfl, (Fr.app (Fr.app (Fr.app N0 N63) N99) N100)⟩ (by decide) (by decide)
        · intro c47
          replace c47 := cmpI_eq c47
          refine s_iconst A63 at_50 (pc' := 51) rfl (v := (0 : Int32)) (by decide) ?_
          refine s_istore A63 at_51 (pc' := 53) rfl (ls' := #[.val (.int p0), .val (.int p1), .val (.int p2), .val (.int p3), .val (.int z1), .val (.int p1), .val (.ref r2), .val (.long z96), .second, .val (.int (0 : Int32)), .unset, .unset, .unset, .unset, .unset]) rfl ?_
          refine s_goto A63 at_53 (pc' := 59) (by decide) (by decide) ?_
          refine s_iloadN A63 at_59 (pc' := 60) rfl rfl ?_
          obtain ⟨z101, hz101⟩ : ∃ v : UInt64, FP.i2d p1 = v := ⟨_, rfl⟩
          have q101 : Dy p1.toInt 0 z101 := hz101 ▸ Dy.i2d' (n := p1.toInt) rfl
          refine s_i2d A63 at_60 (pc' := 61) rfl hz101 ?_
          refine s_dstore A63 at_61 (pc' := 63) rfl (ls' := #[.val (.int p0), .val (.int p1), .val (.int p2), .val (.int p3), .val (.int z1), .val (.int p1), .val (.ref r2), .val (.long z96), .second, .val (.int (0 : Int32)), .val (.double z101), .second, .unset, .unset, .unset]) rfl ?_
          refine s_iload A63 at_63 (pc' := 65) rfl rfl ?_
          obtain ⟨z102, hz102⟩ : ∃ v : UInt64, FP.i2d p1 = v := ⟨_, rfl⟩
          have q102 : Dy p1.toInt 0 z102 := hz102 ▸ Dy.i2d' (n := p1.toInt) rfl
          refine s_i2d A63 at_65 (pc' := 66) rfl hz102 ?_
          refine s_dstore A63 at_66 (pc' := 68) rfl (ls' := #[.val (.int p0), .val (.int p1), .val (.int p2), .val (.int p3), .val (.int z1), .val (.int p1), .val (.ref r2), .val (.long z96), .second, .val (.int (0 : Int32)), .val (.double z101), .second, .val (.double z102), .second, .unset]) rfl ?_
          refine s_aload A63 at_68 (pc' := 70) rfl rfl rfl ?_
          refine s_dload A63 at_70 (pc' := 72) rfl rfl ?_
          refine s_dload A63 at_72 (pc' := 74) rfl rfl ?_
          refine g_virtual X63 hx hZ (y := (⟨"com/example/exact_backup/exactbackup/expr/Relation", "holds", "(DD)Z"⟩ : MethodName)) hown (hw _ (List.mem_of_getElem? (i := 7) rfl)) (hw _ (List.mem_of_getElem? (i := 8) rfl)) (hw _ (List.mem_of_getElem? (i := 10) rfl)) (hw _ (List.mem_of_getElem? (i := 9) rfl)) (hw _ (List.mem_of_getElem? (i := 5) rfl)) (hw _ (List.mem_of_getElem? (i := 11) rfl)) (by decide) E2 (argsL := [(.double z101), (.double z102)]) (rest := []) (c_holds l Z a0 hw [] r2 2 z101 z102 2 p1.toInt p1.toInt h0 n0 Z0 E2 F2 (by decide) (by decide) q101 q102) pd_2 rfl rfl (hb hby at_74) e63 (by rw [hml]; rfl) (pc' := 77) rfl (by decide) (W := 0) (Nat.le_of_eq rfl) (by decide) (by decide) (by decide) ?_
          intro v103 T103 L103 X103 hQ103
          have A103 := wk X103 hx hby
          have e103 : T103.heap = T103.heap := rfl
          obtain ⟨z103, rfl, q103, N103, hh103⟩ := hQ103
          have e103 : T103.heap = h0 := hh103
          show Go p e below m (Fini s room_1.cells room_1.slots (fun v h L => v = some (.int 1) ∧ Fr n0 L)) T103 77 #[.val (.int p0), .val (.int p1), .val (.int p2), .val (.int p3), .val (.int z1), .val (.int p1), .val (.ref r2), .val (.long z96), .second, .val (.int (0 : Int32)), .val (.double z101), .second, .val (.double z102), .second, .unset] [(.int z103)]
          refine s_istore A103 at_77 (pc' := 79) rfl (ls' := #[.val (.int p0), .val (.int p1), .val (.int p2), .val (.int p3), .val (.int z1), .val (.int p1), .val (.ref r2), .val (.long z96), .second, .val (.int (0 : Int32)), .val (.double z101), .second, .val (.double z102), .second, .val (.int z103)]) rfl ?_
          refine s_iload A103 at_79 (pc' := 81) rfl rfl ?_
          refine s_iloadN A103 at_81 (pc' := 82) rfl rfl ?_
          refine s_iload A103 at_82 (pc' := 84) rfl rfl ?_
          refine g_static X103 hx hZ (y := (⟨"com/example/exact_backup/exactbackup/expr/RelationHoldsPinLaw", "expected", "(II)Z"⟩ : MethodName)) hown (hw _ (List.mem_of_getElem? (i := 21) rfl)) (hw _ (List.mem_of_getElem? (i := 22) rfl)) (hw _ (List.mem_of_getElem? (i := 2) rfl)) (hw _ (List.mem_of_getElem? (i := 23) rfl)) (by decide) (argsL := [(.int p0), (.int (0 : Int32))]) (rest := [(.int z103)]) (c_exp l Z a0 hw [] p0 (0 : Int32) h0 n0 Z0) pd_3 rfl rfl (hb hby at_84) e103 (by rw [hml]; rfl) (pc' := 87) rfl (by decide) (W := 1) (Nat.le_of_eq rfl) (by decide) (by decide) (by decide) ?_
          intro v104 T104 L104 X104 hQ104
          have A104 := wk X104 hx hby
          have e104 : T104.heap = T104.heap := rfl
          obtain ⟨z104, rfl, q104, N104, hh104⟩ := hQ104
          rw [show (0 : Int32).toInt = 0 from by decide] at q104
          have e104 : T104.heap = h0 := hh104
          show Go p e below m (Fini s room_1.cells room_1.slots (fun v h L => v = some (.int 1) ∧ Fr n0 L)) T104 87 #[.val (.int p0), .val (.int p1), .val (.int p2), .val (.int p3), .val (.int z1), .val (.int p1), .val (.ref r2), .val (.long z96), .second, .val (.int (0 : Int32)), .val (.double z101), .second, .val (.double z102), .second, .val (.int z103)] [(.int z104), (.int z103)]
          refine s_icmpne A104 at_87 (pY := 94) (pN := 90) (by decide) (by decide) rfl ?_ ?_
          · intro c87
            replace c87 := i_ne c87
            refine s_iconst A104 at_94 (pc' := 95) rfl (v := (0 : Int32)) (by decide) ?_
            exfalso; omega
          · intro c87
            replace c87 := i_eq c87
            refine s_iconst A104 at_90 (pc' := 91) rfl (v := (1 : Int32)) (by decide) ?_
            refine s_goto A104 at_91 (pc' := 95) (by decide) (by decide) ?_
            exact g_retZ X104 hx hlk hret (by decide) (hb hby at_95) ⟨rfl, (Fr.app (Fr.app (Fr.app N0 N63) N103) N104)⟩ (by decide) (by decide)
      · intro c34
        replace c34 := cmpI_lt c34
        refine s_iconst A63 at_37 (pc' := 38) rfl (v := (-1 : Int32)) (by decide) ?_
        refine s_istore A63 at_38 (pc' := 40) rfl (ls' := #[.val (.int p0), .val (.int p1), .val (.int p2), .val (.int p3), .val (.int z1), .val (.int p1), .val (.ref r2), .val (.long z96), .second, .val (.int (-1 : Int32)), .unset, .unset, .unset, .unset, .unset]) rfl ?_
        refine s_goto A63 at_40 (pc' := 59) (by decide) (by decide) ?_
        refine s_iloadN A63 at_59 (pc' := 60) rfl rfl ?_
        obtain ⟨z105, hz105⟩ : ∃ v : UInt64, FP.i2d p1 = v := ⟨_, rfl⟩
        have q105 : Dy p1.toInt 0 z105 := hz105 ▸ Dy.i2d' (n := p1.toInt) rfl
        refine s_i2d A63 at_60 (pc' := 61) rfl hz105 ?_
        refine s_dstore A63 at_61 (pc' := 63) rfl (ls' := #[.val (.int p0), .val (.int p1), .val (.int p2), .val (.int p3), .val (.int z1), .val (.int p1), .val (.ref r2), .val (.long z96), .second, .val (.int (-1 : Int32)), .val (.double z105), .second, .unset, .unset, .unset]) rfl ?_
        refine s_iload A63 at_63 (pc' := 65) rfl rfl ?_
        obtain ⟨z106, hz106⟩ : ∃ v : UInt64, FP.i2d p1 = v := ⟨_, rfl⟩
        have q106 : Dy p1.toInt 0 z106 := hz106 ▸ Dy.i2d' (n := p1.toInt) rfl
        refine s_i2d A63 at_65 (pc' := 66) rfl hz106 ?_
        refine s_dstore A63 at_66 (pc' := 68) rfl (ls' := #[.val (.int p0), .val (.int p1), .val (.int p2), .val (.int p3), .val (.int z1), .val (.int p1), .val (.ref r2), .val (.long z96), .second, .val (.int (-1 : Int32)), .val (.double z105), .second, .val (.double z106), .second, .unset]) rfl ?_
        refine s_aload A63 at_68 (pc' := 70) rfl rfl rfl ?_
        refine s_dload A63 at_70 (pc' := 72) rfl rfl ?_
        refine s_dload A63 at_72 (pc' := 74) rfl rfl ?_
        refine g_virtual X63 hx hZ (y := (⟨"com/example/exact_backup/exactbackup/expr/Relation", "holds", "(DD)Z"⟩ : MethodName)) hown (hw _ (List.mem_of_getElem? (i := 7) rfl)) (hw _ (List.mem_of_getElem? (i := 8) rfl)) (hw _ (List.mem_of_getElem? (i := 10) rfl)) (hw _ (List.mem_of_getElem? (i := 9) rfl)) (hw _ (List.mem_of_getElem? (i := 5) rfl)) (hw _ (List.mem_of_getElem? (i := 11) rfl)) (by decide) E2 (argsL := [(.double z105), (.double z106)]) (rest := []) (c_holds l Z a0 hw [] r2 2 z105 z106 2 p1.toInt p1.toInt h0 n0 Z0 E2 F2 (by decide) (by decide) q105 q106) pd_2 rfl rfl (hb hby at_74) e63 (by rw [hml]; rfl) (pc' := 77) rfl (by decide) (W := 0) (Nat.le_of_eq rfl) (by decide) (by decide) (by decide) ?_
        intro v107 T107 L107 X107 hQ107
        have A107 := wk X107 hx hby
        have e107 : T107.heap = T107.heap := rfl
        obtain ⟨z107, rfl, q107, N107, hh107⟩ := hQ107
        have e107 : T107.heap = h0 := hh107
        show Go p e below m (Fini s room_1.cells room_1.slots (fun v h L => v = some (.int 1) ∧ Fr n0 L)) T107 77 #[.val (.int p0), .val (.int p1), .val (.int p2), .val (.int p3), .val (.int z1), .val (.int p1), .val (.ref r2), .val (.long z96), .second, .val (.int (-1 : Int32)), .val (.double z105), .second, .val (.double z106), .second, .unset] [(.int z107)]
        refine s_istore A107 at_77 (pc' := 79) rfl (ls' := #[.val (.int p0), .val (.int p1), .val (.int p2), .val (.int p3), .val (.int z1), .val (.int p1), .val (.ref r2), .val (.long z96), .second, .val (.int (-1 : Int32)), .val (.double z105), .second, .val (.double z106), .second, .val (.int z107)]) rfl ?_
        refine s_iload A107 at_79 (pc' := 81) rfl rfl ?_
        refine s_iloadN A107 at_81 (pc' := 82) rfl rfl ?_
        refine s_iload A107 at_82 (pc' := 84) rfl rfl ?_
        refine g_static X107 hx hZ (y := (⟨"com/example/exact_backup/exactbackup/expr/RelationHoldsPinLaw", "expected", "(II)Z"⟩ : MethodName)) hown (hw _ (List.mem_of_getElem? (i := 21) rfl)) (hw _ (List.mem_of_getElem? (i := 22) rfl)) (hw _ (List.mem_of_getElem? (i := 2) rfl)) (hw _ (List.mem_of_getElem? (i := 23) rfl)) (by decide) (argsL := [(.int p0), (.int (-1 : Int32))]) (rest := [(.int z107)]) (c_exp l Z a0 hw [] p0 (-1 : Int32) h0 n0 Z0) pd_3 rfl rfl (hb hby at_84) e107 (by rw [hml]; rfl) (pc' := 87) rfl (by decide) (W := 1) (Nat.le_of_eq rfl) (by decide) (by decide) (by decide) ?_
        intro v108 T108 L108 X108 hQ108
        have A108 := wk X108 hx hby
        have e108 : T108.heap = T108.heap := rfl
        obtain ⟨z108, rfl, q108, N108, hh108⟩ := hQ108
        rw [show (-1 : Int32).toInt = -1 from by decide] at q108
        have e108 : T108.heap = h0 := hh108
        show Go p e below m (Fini s room_1.cells room_1.slots (fun v h L => v = some (.int 1) ∧ Fr n0 L)) T108 87 #[.val (.int p0), .val (.int p1), .val (.int p2), .val (.int p3), .val (.int z1), .val (.int p1), .val (.ref r2), .val (.long z96), .second, .val (.int (-1 : Int32)), .val (.double z105), .second, .val (.double z106), .second, .val (.int z107)] [(.int z108), (.int z107)]
        refine s_icmpne A108 at_87 (pY := 94) (pN := 90) (by decide) (by decide) rfl ?_ ?_
        · intro c87
          replace c87 := i_ne c87
          refine s_iconst A108 at_94 (pc' := 95) rfl (v := (0 : Int32)) (by decide) ?_
          exfalso; omega
        · intro c87
          replace c87 := i_eq c87
          refine s_iconst A108 at_90 (pc' := 91) rfl (v := (1 : Int32)) (by decide) ?_
          refine s_goto A108 at_91 (pc' := 95) (by decide) (by decide) ?_
          exact g_retZ X108 hx hlk hret (by decide) (hb hby at_95) ⟨rfl, (Fr.app (Fr.app (Fr.app N0 N63) N107) N108)⟩ (by decide) (by decide)
    · obtain rfl := (y3 kk).symm
      clear y0 y1 y2 y3
      have e63 : T63.heap = h0 := hh63
      show Go p e below m (Fini s room_1.cells room_1.slots (fun v h L => v = some (.int 1) ∧ Fr n0 L)) T63 20 #[.val (.int p0), .val (.int p1), .val (.int p2), .val (.int p3), .val (.int z1), .val (.int p1), .unset, .unset, .unset, .unset, .unset, .unset, .unset, .unset, .unset] [(.ref r3)]
      refine s_astore A63 at_20 (pc' := 22) rfl (ls' := #[.val (.int p0), .val (.int p1), .val (.int p2), .val (.int p3), .val (.int z1), .val (.int p1), .val (.ref r3), .unset, .unset, .unset, .unset, .unset, .unset, .unset, .unset]) rfl rfl ?_
      refine s_iloadN A63 at_22 (pc' := 23) rfl rfl ?_
      obtain ⟨z109, hz109⟩ : ∃ v : Int64, p1.toInt64 = v := ⟨_, rfl⟩
      have q109 : z109.toInt = p1.toInt := hz109 ▸ i2l_ex (n := p1.toInt) rfl
      refine s_i2l A63 at_23 (pc' := 24) rfl hz109 ?_
      refine s_iload A63 at_24 (pc' := 26) rfl rfl ?_
      obtain ⟨z110, hz110⟩ : ∃ v : Int64, p1.toInt64 = v := ⟨_, rfl⟩
      have q110 : z110.toInt = p1.toInt := hz110 ▸ i2l_ex (n := p1.toInt) rfl
      refine s_i2l A63 at_26 (pc' := 27) rfl hz110 ?_
      obtain ⟨z111, hz111⟩ : ∃ v : Int64, (z109 - z110) = v := ⟨_, rfl⟩
      have q111 : z111.toInt = (p1.toInt - p1.toInt) := hz111 ▸ lsub_ex (n := p1.toInt) (m := p1.toInt) q109 q110 (by omega)
      refine s_lsub A63 at_27 (pc' := 28) rfl hz111 ?_
      refine s_lstore A63 at_28 (pc' := 30) rfl (ls' := #[.val (.int p0), .val (.int p1), .val (.int p2), .val (.int p3), .val (.int z1), .val (.int p1), .val (.ref r3), .val (.long z111), .second, .unset, .unset, .unset, .unset, .unset, .unset]) rfl ?_
      refine s_lload A63 at_30 (pc' := 32) rfl rfl ?_
      refine s_lconst A63 at_32 (pc' := 33) rfl (v := 0) (by decide) ?_
      refine s_lcmp A63 at_33 (pc' := 34) rfl (cmpL_ex (n := (p1.toInt - p1.toInt)) (m := 0) q111 (by decide)) ?_
      refine s_ifge A63 at_34 (pY := 43) (pN := 37) (by decide) (by decide) rfl ?_ ?_
      · intro c34
        replace c34 := cmpI_ge c34
        refine s_lload A63 at_43 (pc' := 45) rfl rfl ?_
        refine s_lconst A63 at_45 (pc' := 46) rfl (v := 0) (by decide) ?_
        refine s_lcmp A63 at_46 (pc' := 47) rfl (cmpL_ex (n := (p1.toInt - p1.toInt)) (m := 0) q111 (by decide)) ?_
        refine s_ifne A63 at_47 (pY := 56) (pN := 50) (by decide) (by decide) rfl ?_ ?_
        · intro c47
          replace c47 := cmpI_ne c47
          refine s_iconst A63 at_56 (pc' := 57) rfl (v := (1 : Int32)) (by decide) ?_
          refine s_istore A63 at_57 (pc' := 59) rfl (ls' := #[.val (.int p0), .val (.int p1), .val (.int p2), .val (.int p3), .val (.int z1), .val (.int p1), .val (.ref r3), .val (.long z111), .second, .val (.int (1 : Int32)), .unset, .unset, .unset, .unset, .unset]) rfl ?_
          refine s_iloadN A63 at_59 (pc' := 60) rfl rfl ?_
          obtain ⟨z112, hz112⟩ : ∃ v : UInt64, FP.i2d p1 = v := ⟨_, rfl⟩
          have q112 : Dy p1.toInt 0 z112 := hz112 ▸ Dy.i2d' (n := p1.toInt) rfl
          refine s_i2d A63 at_60 (pc' := 61) rfl hz112 ?_
          refine s_dstore A63 at_61 (pc' := 63) rfl (ls' := #[.val (.int p0), .val (.int p1), .val (.int p2), .val (.int p3), .val (.int z1), .val (.int p1), .val (.ref r3), .val (.long z111), .second, .val (.int (1 : Int32)), .val (.double z112), .second, .unset, .unset, .unset]) rfl ?_
          refine s_iload A63 at_63 (pc' := 65) rfl rfl ?_
          obtain ⟨z113, hz113⟩ : ∃ v : UInt64, FP.i2d p1 = v := ⟨_, rfl⟩
          have q113 : Dy p1.toInt 0 z113 := hz113 ▸ Dy.i2d' (n := p1.toInt) rfl
          refine s_i2d A63 at_65 (pc' := 66) rfl hz113 ?_
          refine s_dstore A63 at_66 (pc' := 68) rfl (ls' := #[.val (.int p0), .val (.int p1), .val (.int p2), .val (.int p3), .val (.int z1), .val (.int p1), .val (.ref r3), .val (.long z111), .second, .val (.int (1 : Int32)), .val (.double z112), .second, .val (.double z113), .second, .unset]) rfl ?_
          refine s_aload A63 at_68 (pc' := 70) rfl rfl rfl ?_
          refine s_dload A63 at_70 (pc' := 72) rfl rfl ?_
          refine s_dload A63 at_72 (pc' := 74) rfl rfl ?_
          refine g_virtual X63 hx hZ (y := (⟨"com/example/exact_backup/exactbackup/expr/Relation", "holds", "(DD)Z"⟩ : MethodName)) hown (hw _ (List.mem_of_getElem? (i := 7) rfl)) (hw _ (List.mem_of_getElem? (i := 8) rfl)) (hw _ (List.mem_of_getElem? (i := 10) rfl)) (hw _ (List.mem_of_getElem? (i := 9) rfl)) (hw _ (List.mem_of_getElem? (i := 5) rfl)) (hw _ (List.mem_of_getElem? (i := 11) rfl)) (by decide) E3 (argsL := [(.double z112), (.double z113)]) (rest := []) (c_holds l Z a0 hw [] r3 3 z112 z113 3 p1.toInt p1.toInt h0 n0 Z0 E3 F3 (by decide) (by decide) q112 q113) pd_2 rfl rfl (hb hby at_74) e63 (by rw [hml]; rfl) (pc' := 77) rfl (by decide) (W := 0) (Nat.le_of_eq rfl) (by decide) (by decide) (by decide) ?_
          intro v114 T114 L114 X114 hQ114
          have A114 := wk X114 hx hby
          have e114 : T114.heap = T114.heap := rfl
          obtain ⟨z114, rfl, q114, N114, hh114⟩ := hQ114
          have e114 : T114.heap = h0 := hh114
          show Go p e below m (Fini s room_1.cells room_1.slots (fun v h L => v = some (.int 1) ∧ Fr n0 L)) T114 77 #[.val (.int p0), .val (.int p1), .val (.int p2), .val (.int p3), .val (.int z1), .val (.int p1), .val (.ref r3), .val (.long z111), .second, .val (.int (1 : Int32)), .val (.double z112), .second, .val (.double z113), .second, .unset] [(.int z114)]
          refine s_istore A114 at_77 (pc' := 79) rfl (ls' := #[.val (.int p0), .val (.int p1), .val (.int p2), .val (.int p3), .val (.int z1), .val (.int p1), .val (.ref r3), .val (.long z111), .second, .val (.int (1 : Int32)), .val (.double z112), .second, .val (.double z113), .second, .val (.int z114)]) rfl ?_
          refine s_iload A114 at_79 (pc' := 81) rfl rfl ?_
          refine s_iloadN A114 at_81 (pc' := 82) rfl rfl ?_
          refine s_iload A114 at_82 (pc' := 84) rfl rfl ?_
          refine g_static X114 hx hZ (y := (⟨"com/example/exact_backup/exactbackup/expr/RelationHoldsPinLaw", "expected", "(II)Z"⟩ : MethodName)) hown (hw _ (List.mem_of_getElem? (i := 21) rfl)) (hw _ (List.mem_of_getElem? (i := 22) rfl)) (hw _ (List.mem_of_getElem? (i := 2) rfl)) (hw _ (List.mem_of_getElem? (i := 23) rfl)) (by decide) (argsL := [(.int p0), (.int (1 : Int32))]) (rest := [(.int z114)]) (c_exp l Z a0 hw [] p0 (1 : Int32) h0 n0 Z0) pd_3 rfl rfl (hb hby at_84) e114 (by rw [hml]; rfl) (pc' := 87) rfl (by decide) (W := 1) (Nat.le_of_eq rfl) (by decide) (by decide) (by decide) ?_
          intro v115 T115 L115 X115 hQ115
          have A115 := wk X115 hx hby
          have e115 : T115.heap = T115.heap := rfl
          obtain ⟨z115, rfl, q115, N115, hh115⟩ := hQ115
          rw [show (1 : Int32).toInt = 1 from by decide] at q115
          have e115 : T115.heap = h0 := hh115
          show Go p e below m (Fini s room_1.cells room_1.slots (fun v h L => v = some (.int 1) ∧ Fr n0 L)) T115 87 #[.val (.int p0), .val (.int p1), .val (.int p2), .val (.int p3), .val (.int z1), .val (.int p1), .val (.ref r3), .val (.long z111), .second, .val (.int (1 : Int32)), .val (.double z112), .second, .val (.double z113), .second, .val (.int z114)] [(.int z115), (.int z114)]
          refine s_icmpne A115 at_87 (pY := 94) (pN := 90) (by decide) (by decide) rfl ?_ ?_
          · intro c87
            replace c87 := i_ne c87
            refine s_iconst A115 at_94 (pc' := 95) rfl (v := (0 : Int32)) (by decide) ?_
            exfalso; omega
          · intro c87
            replace c87 := i_eq c87
            refine s_iconst A115 at_90 (pc' := 91) rfl (v := (1 : Int32)) (by decide) ?_
            refine s_goto A115 at_91 (pc' := 95) (by decide) (by decide) ?_
            exact g_retZ X115 hx hlk hret (by decide) (hb hby at_95) ⟨rfl, (Fr.app (Fr.app (Fr.app N0 N63) N114) N115)⟩ (by decide) (by decide)
        · intro c47
          replace c47 := cmpI_eq c47
          refine s_iconst A63 at_50 (pc' := 51) rfl (v := (0 : Int32)) (by decide) ?_
          refine s_istore A63 at_51 (pc' := 53) rfl (ls' := #[.val (.int p0), .val (.int p1), .val (.int p2), .val (.int p3), .val (.int z1), .val (.int p1), .val (.ref r3), .val (.long z111), .second, .val (.int (0 : Int32)), .unset, .unset, .unset, .unset, .unset]) rfl ?_
          refine s_goto A63 at_53 (pc' := 59) (by decide) (by decide) ?_
          refine s_iloadN A63 at_59 (pc' := 60) rfl rfl ?_
          obtain ⟨z116, hz116⟩ : ∃ v : UInt64, FP.i2d p1 = v := ⟨_, rfl⟩
          have q116 : Dy p1.toInt 0 z116 := hz116 ▸ Dy.i2d' (n := p1.toInt) rfl
          refine s_i2d A63 at_60 (pc' := 61) rfl hz116 ?_
          refine s_dstore A63 at_61 (pc' := 63) rfl (ls' := #[.val (.int p0), .val (.int p1), .val (.int p2), .val (.int p3), .val (.int z1), .val (.int p1), .val (.ref r3), .val (.long z111), .second, .val (.int (0 : Int32)), .val (.double z116), .second, .unset, .unset, .unset]) rfl ?_
          refine s_iload A63 at_63 (pc' := 65) rfl rfl ?_
          obtain ⟨z117, hz117⟩ : ∃ v : UInt64, FP.i2d p1 = v := ⟨_, rfl⟩
          have q117 : Dy p1.toInt 0 z117 := hz117 ▸ Dy.i2d' (n := p1.toInt) rfl
          refine s_i2d A63 at_65 (pc' := 66) rfl hz117 ?_
          refine s_dstore A63 at_66 (pc' := 68) rfl (ls' := #[.val (.int p0), .val (.int p1), .val (.int p2), .val (.int p3), .val (.int z1), .val (.int p1), .val (.ref r3), .val (.long z111), .second, .val (.int (0 : Int32)), .val (.double z116), .second, .val (.double z117), .second, .unset]) rfl ?_
          refine s_aload A63 at_68 (pc' := 70) rfl rfl rfl ?_
          refine s_dload A63 at_70 (pc' := 72) rfl rfl ?_
          refine s_dload A63 at_72 (pc' := 74) rfl rfl ?_
          refine g_virtual X63 hx hZ (y := (⟨"com/example/exact_backup/exactbackup/expr/Relation", "holds", "(DD)Z"⟩ : MethodName)) hown (hw _ (List.mem_of_getElem? (i := 7) rfl)) (hw _ (List.mem_of_getElem? (i := 8) rfl)) (hw _ (List.mem_of_getElem? (i := 10) rfl)) (hw _ (List.mem_of_getElem? (i := 9) rfl)) (hw _ (List.mem_of_getElem? (i := 5) rfl)) (hw _ (List.mem_of_getElem? (i := 11) rfl)) (by decide) E3 (argsL := [(.double z116), (.double z117)]) (rest := []) (c_holds l Z a0 hw [] r3 3 z116 z117 3 p1.toInt p1.toInt h0 n0 Z0 E3 F3 (by decide) (by decide) q116 q117) pd_2 rfl rfl (hb hby at_74) e63 (by rw [hml]; rfl) (pc' := 77) rfl (by decide) (W := 0) (Nat.le_of_eq rfl) (by decide) (by decide) (by decide) ?_
          intro v118 T118 L118 X118 hQ118
          have A118 := wk X118 hx hby
          have e118 : T118.heap = T118.heap := rfl
          obtain ⟨z118, rfl, q118, N118, hh118⟩ := hQ118
          have e118 : T118.heap = h0 := hh118
          show Go p e below m (Fini s room_1.cells room_1.slots (fun v h L => v = some (.int 1) ∧ Fr n0 L)) T118 77 #[.val (.int p0), .val (.int p1), .val (.int p2), .val (.int p3), .val (.int z1), .val (.int p1), .val (.ref r3), .val (.long z111), .second, .val (.int (0 : Int32)), .val (.double z116), .second, .val (.double z117), .second, .unset] [(.int z118)]
          refine s_istore A118 at_77 (pc' := 79) rfl (ls' := #[.val (.int p0), .val (.int p1), .val (.int p2), .val (.int p3), .val (.int z1), .val (.int p1), .val (.ref r3), .val (.long z111), .second, .val (.int (0 : Int32)), .val (.double z116), .second, .val (.double z117), .second, .val (.int z118)]) rfl ?_
          refine s_iload A118 at_79 (pc' := 81) rfl rfl ?_
          refine s_iloadN A118 at_81 (pc' := 82) rfl rfl ?_
          refine s_iload A118 at_82 (pc' := 84) rfl rfl ?_
          refine g_static X118 hx hZ (y := (⟨"com/example/exact_backup/exactbackup/expr/RelationHoldsPinLaw", "expected", "(II)Z"⟩ : MethodName)) hown (hw _ (List.mem_of_getElem? (i := 21) rfl)) (hw _ (List.mem_of_getElem? (i := 22) rfl)) (hw _ (List.mem_of_getElem? (i := 2) rfl)) (hw _ (List.mem_of_getElem? (i := 23) rfl)) (by decide) (argsL := [(.int p0), (.int (0 : Int32))]) (rest := [(.int z118)]) (c_exp l Z a0 hw [] p0 (0 : Int32) h0 n0 Z0) pd_3 rfl rfl (hb hby at_84) e118 (by rw [hml]; rfl) (pc' := 87) rfl (by decide) (W := 1) (Nat.le_of_eq rfl) (by decide) (by decide) (by decide) ?_
          intro v119 T119 L119 X119 hQ119
          have A119 := wk X119 hx hby
          have e119 : T119.heap = T119.heap := rfl
          obtain ⟨z119, rfl, q119, N119, hh119⟩ := hQ119
          rw [show (0 : Int32).toInt = 0 from by decide] at q119
          have e119 : T119.heap = h0 := hh119
          show Go p e below m (Fini s room_1.cells room_1.slots (fun v h L => v = some (.int 1) ∧ Fr n0 L)) T119 87 #[.val (.int p0), .val (.int p1), .val (.int p2), .val (.int p3), .val (.int z1), .val (.int p1), .val (.ref r3), .val (.long z111), .second, .val (.int (0 : Int32)), .val (.double z116), .second, .val (.double z117), .second, .val (.int z118)] [(.int z119), (.int z118)]
          refine s_icmpne A119 at_87 (pY := 94) (pN := 90) (by decide) (by decide) rfl ?_ ?_
          · intro c87
            replace c87 := i_ne c87
            refine s_iconst A119 at_94 (pc' := 95) rfl (v := (0 : Int32)) (by decide) ?_
            exfalso; omega
          · intro c87
            replace c87 := i_eq c87
            refine s_iconst A119 at_90 (pc' := 91) rfl (v := (1 : Int32)) (by decide) ?_
            refine s_goto A119 at_91 (pc' := 95) (by decide) (by decide) ?_
            exact g_retZ X119 hx hlk hret (by decide) (hb hby at_95) ⟨rfl, (Fr.app (Fr.app (Fr.app N0 N63) N118) N119)⟩ (by decide) (by decide)
      · intro c34
        replace c34 := cmpI_lt c34
        refine s_iconst A63 at_37 (pc' := 38) rfl (v := (-1 : Int32)) (by decide) ?_
        refine s_istore A63 at_38 (pc' := 40) rfl (ls' := #[.val (.int p0), .val (.int p1), .val (.int p2), .val (.int p3), .val (.int z1), .val (.int p1), .val (.ref r3), .val (.long z111), .second, .val (.int (-1 : Int32)), .unset, .unset, .unset, .unset, .unset]) rfl ?_
        refine s_goto A63 at_40 (pc' := 59) (by decide) (by decide) ?_
        refine s_iloadN A63 at_59 (pc' := 60) rfl rfl ?_
        obtain ⟨z120, hz120⟩ : ∃ v : UInt64, FP.i2d p1 = v := ⟨_, rfl⟩
        have q120 : Dy p1.toInt 0 z120 := hz120 ▸ Dy.i2d' (n := p1.toInt) rfl
        refine s_i2d A63 at_60 (pc' := 61) rfl hz120 ?_
        refine s_dstore A63 at_61 (pc' := 63) rfl (ls' := #[.val (.int p0), .val (.int p1), .val (.int p2), .val (.int p3), .val (.int z1), .val (.int p1), .val (.ref r3), .val (.long z111), .second, .val (.int (-1 : Int32)), .val (.double z120), .second, .unset, .unset, .unset]) rfl ?_
        refine s_iload A63 at_63 (pc' := 65) rfl rfl ?_
        obtain ⟨z121, hz121⟩ : ∃ v : UInt64, FP.i2d p1 = v := ⟨_, rfl⟩
        have q121 : Dy p1.toInt 0 z121 := hz121 ▸ Dy.i2d' (n := p1.toInt) rfl
        refine s_i2d A63 at_65 (pc' := 66) rfl hz121 ?_
        refine s_dstore A63 at_66 (pc' := 68) rfl (ls' := #[.val (.int p0), .val (.int p1), .val (.int p2), .val (.int p3), .val (.int z1), .val (.int p1), .val (.ref r3), .val (.long z111), .second, .val (.int (-1 : Int32)), .val (.double z120), .second, .val (.double z121), .second, .unset]) rfl ?_
        refine s_aload A63 at_68 (pc' := 70) rfl rfl rfl ?_
        refine s_dload A63 at_70 (pc' := 72) rfl rfl ?_
        refine s_dload A63 at_72 (pc' := 74) rfl rfl ?_
        refine g_virtual X63 hx hZ (y := (⟨"com/example/exact_backup/exactbackup/expr/Relation", "holds", "(DD)Z"⟩ : MethodName)) hown (hw _ (List.mem_of_getElem? (i := 7) rfl)) (hw _ (List.mem_of_getElem? (i := 8) rfl)) (hw _ (List.mem_of_getElem? (i := 10) rfl)) (hw _ (List.mem_of_getElem? (i := 9) rfl)) (hw _ (List.mem_of_getElem? (i := 5) rfl)) (hw _ (List.mem_of_getElem? (i := 11) rfl)) (by decide) E3 (argsL := [(.double z120), (.double z121)]) (rest := []) (c_holds l Z a0 hw [] r3 3 z120 z121 3 p1.toInt p1.toInt h0 n0 Z0 E3 F3 (by decide) (by decide) q120 q121) pd_2 rfl rfl (hb hby at_74) e63 (by rw [hml]; rfl) (pc' := 77) rfl (by decide) (W := 0) (Nat.le_of_eq rfl) (by decide) (by decide) (by decide) ?_
        intro v122 T122 L122 X122 hQ122
        have A122 := wk X122 hx hby
        have e122 : T122.heap = T122.heap := rfl
        obtain ⟨z122, rfl, q122, N122, hh122⟩ := hQ122
        have e122 : T122.heap = h0 := hh122
        show Go p e below m (Fini s room_1.cells room_1.slots (fun v h L => v = some (.int 1) ∧ Fr n0 L)) T122 77 #[.val (.int p0), .val (.int p1), .val (.int p2), .val (.int p3), .val (.int z1), .val (.int p1), .val (.ref r3), .val (.long z111), .second, .val (.int (-1 : Int32)), .val (.double z120), .second, .val (.double z121), .second, .unset] [(.int z122)]
        refine s_istore A122 at_77 (pc' := 79) rfl (ls' := #[.val (.int p0), .val (.int p1), .val (.int p2), .val (.int p3), .val (.int z1), .val (.int p1), .val (.ref r3), .val (.long z111), .second, .val (.int (-1 : Int32)), .val (.double z120), .second, .val (.double z121), .second, .val (.int z122)]) rfl ?_
        refine s_iload A122 at_79 (pc' := 81) rfl rfl ?_
        refine s_iloadN A122 at_81 (pc' := 82) rfl rfl ?_
        refine s_iload A122 at_82 (pc' := 84) rfl rfl ?_
        refine g_static X122 hx hZ (y := (⟨"com/example/exact_backup/exactbackup/expr/RelationHoldsPinLaw", "expected", "(II)Z"⟩ : MethodName)) hown (hw _ (List.mem_of_getElem? (i := 21) rfl)) (hw _ (List.mem_of_getElem? (i := 22) rfl)) (hw _ (List.mem_of_getElem? (i := 2) rfl)) (hw _ (List.mem_of_getElem? (i := 23) rfl)) (by decide) (argsL := [(.int p0), (.int (-1 : Int32))]) (rest := [(.int z122)]) (c_exp l Z a0 hw [] p0 (-1 : Int32) h0 n0 Z0) pd_3 rfl rfl (hb hby at_84) e122 (by rw [hml]; rfl) (pc' := 87) rfl (by decide) (W := 1) (Nat.le_of_eq rfl) (by decide) (by decide) (by decide) ?_
        intro v123 T123 L123 X123 hQ123
        have A123 := wk X123 hx hby
        have e123 : T123.heap = T123.heap := rfl
        obtain ⟨z123, rfl, q123, N123, hh123⟩ := hQ123
        rw [show (-1 : Int32).toInt = -1 from by decide] at q123
        have e123 : T123.heap = h0 := hh123
        show Go p e below m (Fini s room_1.cells room_1.slots (fun v h L => v = some (.int 1) ∧ Fr n0 L)) T123 87 #[.val (.int p0), .val (.int p1), .val (.int p2), .val (.int p3), .val (.int z1), .val (.int p1), .val (.ref r3), .val (.long z111), .second, .val (.int (-1 : Int32)), .val (.double z120), .second, .val (.double z121), .second, .val (.int z122)] [(.int z123), (.int z122)]
        refine s_icmpne A123 at_87 (pY := 94) (pN := 90) (by decide) (by decide) rfl ?_ ?_
        · intro c87
          replace c87 := i_ne c87
          refine s_iconst A123 at_94 (pc' := 95) rfl (v := (0 : Int32)) (by decide) ?_
          exfalso; omega
        · intro c87
          replace c87 := i_eq c87
          refine s_iconst A123 at_90 (pc' := 91) rfl (v := (1 : Int32)) (by decide) ?_
          refine s_goto A123 at_91 (pc' := 95) (by decide) (by decide) ?_
          exact g_retZ X123 hx hlk hret (by decide) (hb hby at_95) ⟨rfl, (Fr.app (Fr.app (Fr.app N0 N63) N122) N123)⟩ (by decide) (by decide)
set_option maxRecDepth 65536 in
set_option maxHeartbeats 40000000 in
theorem comes_1 {Post : Tables → Env → Array Value → State → Outcome → State → Prop} (hpost : ∀ tb e args s v u, (limb_1_1.after args s (.returned v) u = true ∧ limb_1_2.after args s (.returned v) u = true ∧ True) → FrameEnd s (.returned v) u (Jvm.fieldLocs frame_1_writes args s ++ Jvm.arrayLocs frame_1_arrays args s ++ Jvm.staticLocs frame_1_statics s) 0 0 → Post tb e args s (.returned v) u) :
    ArmFor flags0 classFile x code maxLocals ret World_1 tables_1 room_1 Calls_1 rest_1 Pre_1 Post := by
  intro l hfl _ _ p e ha hc hk s m args below hf hA hF happ hP
  obtain ⟨hcalls, hrest, hpre⟩ := hP
  obtain ⟨-, -, -, hnamed, -, -, -, hat⟩ := (Spec.applies_iff hf).mp happ
  obtain ⟨hg, hn⟩ := and_e (Cond.before_iff.mp (show (Jvm.Cond.and given_1 narrow_1).before args s = true from hpre))
  obtain ⟨h1, g0⟩ := and_e hg
  obtain ⟨w0, w1, w2, w3, rfl⟩ : ∃ w0 w1 w2 w3 : Value, args = #[w0, w1, w2, w3] := by
    have hs : args.size = 4 := by simpa [Cond.value, given_1] using h1
    obtain ⟨L⟩ := args
    match L, hs with
    | [w0, w1, w2, w3], _ => exact ⟨w0, w1, w2, w3, rfl⟩
  have hw := fun d (hd : d ∈ tables_1) => atoms_spec (ws := Jvm.Cond.code x code maxLocals ret :: tables_1) hat d (List.mem_cons_of_mem _ hd)
  have hfit : Fit s := fun {y c} hc i hi => by
    obtain ⟨ha, rfl⟩ := Array.getElem?_eq_some_iff.mp hc
    have q := List.all_eq_true.mp ((Array.all_eq_true_iff_forall_mem.mp hF) _ (Array.getElem_mem ha)) i (List.mem_range.mpr hi)
    simpa [Array.getElem?_eq_getElem hi] using q
  obtain ⟨k0, g1⟩ := and_e g0
  obtain ⟨i0, j0⟩ := is_v k0
  obtain rfl : w0 = (.int i0) := Option.some.inj j0
  obtain ⟨k1, g2⟩ := and_e g1
  obtain ⟨i1, j1⟩ := is_v k1
  obtain rfl : w1 = (.int i1) := Option.some.inj j1
  obtain ⟨k2, g3⟩ := and_e g2
  obtain ⟨i2, j2⟩ := is_v k2
  obtain rfl : w2 = (.int i2) := Option.some.inj j2
  obtain ⟨i3, j3⟩ := is_v g3
  obtain rfl : w3 = (.int i3) := Option.some.inj j3
  obtain ⟨x0, hn0a⟩ := and_e hn
  obtain ⟨f0, hn0b⟩ := and_e hn0a
  obtain ⟨r0, S0, E0, F0⟩ := pinI x0 f0 (hw _ (List.mem_of_getElem? (i := 5) rfl)) (hw _ (List.mem_of_getElem? (i := 6) rfl))
  obtain ⟨x1, hn1a⟩ := and_e hn0b
  obtain ⟨f1, hn1b⟩ := and_e hn1a
  obtain ⟨r3, S3, E3, F3⟩ := pinI x1 f1 (hw _ (List.mem_of_getElem? (i := 5) rfl)) (hw _ (List.mem_of_getElem? (i := 25) rfl))
  obtain ⟨x2, hn2a⟩ := and_e hn1b
  obtain ⟨f2, hn2b⟩ := and_e hn2a
  obtain ⟨r2, S2, E2, F2⟩ := pinI x2 f2 (hw _ (List.mem_of_getElem? (i := 5) rfl)) (hw _ (List.mem_of_getElem? (i := 27) rfl))
  obtain ⟨x3, hn3a⟩ := and_e hn2b
  obtain ⟨r1, S1, E1, F1⟩ := pinI x3 hn3a (hw _ (List.mem_of_getElem? (i := 5) rfl)) (hw _ (List.mem_of_getElem? (i := 29) rfl))
  obtain ⟨n, o, r1, r2, r3, _, L, rfl, ⟨rfl, N⟩, hq⟩ := c_law l s _ hw tables_1 i0 i1 i2 i3 r0 r1 r2 r3 s.heap s.heap.size (Nat.le_refl _) S0 S1 S2 S3 E0 F0 E1 F1 E2 F2 E3 F3 p e ha hc hk s m _ below hf ((Spec.applies_iff_loose hf).mp happ).1 ⟨rfl, State.Warmed39.refl s, rfl⟩ trivial
  refine ⟨n, _, r1, r2, r3, hpost _ _ _ _ _ _ ⟨Cond.after_iff.mpr rfl, Cond.after_iff.mpr (eq_i res_at (Term.int_eval (1)) rfl), trivial⟩ ⟨hq.1, hq.2.1, (hq.2.2.sift fun y hy => Or.inr (N y hy)).mono (by decide) (by decide)⟩⟩
theorem main_1_1 : Claimed_1_1 := comes_1 fun _ _ _ _ _ _ h hF => ⟨h.1, hF⟩
theorem main_1_2 : Claimed_1_2 := comes_1 fun _ _ _ _ _ _ h hF => ⟨h.2.1, hF⟩
end Jvm.Pilot.@@N@@
namespace Jvm.Pilot.@@N@@
open Jvm Jvm.ClassFile Sem Op Lib Jvm.Free Jvm.Stand Jvm.Pilot.@@N@@.Jvm.D
/-! MADE BY PROGRAM (witnessworld.py) out of the Statement's table words and the real class files: 12 classes; the members and pool entries that the words name. The judged class is class 1, her method 3. -/
namespace start1
open Jvm.ClassFile
def u (s : String) : CpInfo := .utf8 (stringToUtf16 s)
/-- a pool by its gaps: so many unusable entries, then the entry; so many at the end -/
def gap : Nat → List CpInfo → List CpInfo
  | 0, r => r
  | n + 1, r => .unusable :: gap n r
def poolList (es : List (Nat × CpInfo)) (last : Nat) : List CpInfo := es.foldr (fun e r => gap e.1 (e.2 :: r)) (gap last [])
def pool (es : List (Nat × CpInfo)) (last : Nat) : Array CpInfo := ⟨poolList es last⟩
def fileOf (pool : Array CpInfo) (this : Nat) (attrs : Array Attribute := #[]) (ms : Array MethodInfo := #[]) (fl : Nat := 33) (sup : Nat := 0) (ifs : Array Nat := #[]) (fds : Array FieldInfo := #[]) : ClassFile where
  minorVersion := 0
  majorVersion := 65
  constantPool := pool
  accessFlags := fl
  thisClass := this
  superClass := sup
  interfaces := ifs
  fields := fds
  methods := ms
  attributes := attrs
def plain (name : String) (sup : Option ClassId) : Class where
  name := name
  kind := .ordinary
  loader := none
  accessFlags := 33
  super := sup
  interfaces := #[]
  cf := none
  fields := #[]
  methods := #[]
  instanceTypes := #[]
  staticTypes := #[]
  resolved := #[]
  callSites := []
  init := .initialized
  statics := none
  mirror := none

def pool0 : Array CpInfo := pool [(5, u "<init>"), (0, u "()V"), (1, .class_ 10), (1, u "java/lang/Object")] 113

def k0m0 : Method := { name := "<init>", desc := "()V", sig := { parameters := [], returnType := none }, accessFlags := 1, code := none }
/-- java/lang/Object -/
def k0 : Class := { plain "java/lang/Object" none with
  accessFlags := 33
  interfaces := #[]
  cf := some (fileOf pool0 8 #[] #[{ accessFlags := 1, nameIndex := 5, descriptorIndex := 6, attributes := #[] }] 33 0 #[] #[])
  fields := #[]
  methods := #[k0m0]
  instanceTypes := #[]
  staticTypes := #[]
  resolved := Array.replicate 124 none
  statics := none }

def pool1 : Array CpInfo := pool [(2, .class_ 4), (1, u "java/lang/Object"), (0, u "<init>"), (0, u "()V"), (0, .fieldref 8 9), (0, .class_ 10), (0, .nameAndType 11 12), (0, u "com/example/exact_backup/exactbackup/expr/Relation"), (0, u "LESS_EQUAL"), (0, u "Lcom/example/exact_backup/exactbackup/expr/Relation;"), (0, .fieldref 8 14), (0, .nameAndType 15 12), (0, u "LESS"), (0, .fieldref 8 17), (0, .nameAndType 18 12), (0, u "GREATER_EQUAL"), (0, .fieldref 8 20), (0, .nameAndType 21 12), (0, u "GREATER"), (0, .methodref 23 24), (0, .class_ 25), (0, .nameAndType 26 27), (0, u "com/example/exact_backup/exactbackup/expr/RelationHoldsPinLaw"), (0, u "pick"), (0, u "(I)Lcom/example/exact_backup/exactbackup/expr/Relation;"), (0, .methodref 8 29), (0, .nameAndType 30 31), (0, u "holds"), (0, u "(DD)Z"), (0, .methodref 23 33), (0, .nameAndType 34 35), (0, u "expected"), (0, u "(II)Z"), (3, u "law"), (0, u "(IIII)Z")] 2

def k1m0 : Method := { name := "<init>", desc := "()V", sig := { parameters := [], returnType := none }, accessFlags := 1, code := none }
def k1c1 : Code := { maxStack := 2, maxLocals := 2, code := method_2_code, exceptionTable := #[], attributes := #[] }
def k1m1 : Method := { name := "pick", desc := "(I)Lcom/example/exact_backup/exactbackup/expr/Relation;", sig := { parameters := [.int], returnType := some (.object "com/example/exact_backup/exactbackup/expr/Relation") }, accessFlags := 10, code := some k1c1 }
def k1c2 : Code := { maxStack := 2, maxLocals := 3, code := method_3_code, exceptionTable := #[], attributes := #[] }
def k1m2 : Method := { name := "expected", desc := "(II)Z", sig := { parameters := [.int, .int], returnType := some .boolean }, accessFlags := 10, code := some k1c2 }
def k1c3 : Code := { maxStack := 5, maxLocals := 15, code := code, exceptionTable := #[], attributes := #[] }
def k1m3 : Method := { name := "law", desc := "(IIII)Z", sig := { parameters := [.int, .int, .int, .int], returnType := some .boolean }, accessFlags := 9, code := some k1c3 }
/-- com/example/exact_backup/exactbackup/expr/RelationHoldsPinLaw -/
def k1 : Class := { plain "com/example/exact_backup/exactbackup/expr/RelationHoldsPinLaw" (some 0) with
  accessFlags := 49
  interfaces := #[]
  cf := some (fileOf pool1 23 #[] #[{ accessFlags := 1, nameIndex := 5, descriptorIndex := 6, attributes := #[] }, { accessFlags := 10, nameIndex := 26, descriptorIndex := 27, attributes := #[] }, { accessFlags := 10, nameIndex := 34, descriptorIndex := 35, attributes := #[] }, { accessFlags := 9, nameIndex := 39, descriptorIndex := 40, attributes := #[] }] 49 2 #[] #[])
  fields := #[]
  methods := #[k1m0, k1m1, k1m2, k1m3]
  instanceTypes := #[]
  staticTypes := #[]
  resolved := Array.replicate 43 none
  statics := none }

def pool2 : Array CpInfo := pool [(1, .class_ 2), (0, u "java/lang/constant/Constable"), (0, .class_ 4), (0, u "java/lang/Object")] 6

/-- java/lang/constant/Constable -/
def k2 : Class := { plain "java/lang/constant/Constable" (some 0) with
  accessFlags := 1537
  interfaces := #[]
  cf := some (fileOf pool2 1 #[] #[] 1537 3 #[] #[])
  fields := #[]
  methods := #[]
  instanceTypes := #[]
  staticTypes := #[]
  resolved := Array.replicate 11 none
  statics := none }

def pool3 : Array CpInfo := pool [(1, .class_ 2), (0, u "java/lang/Comparable"), (0, .class_ 4), (0, u "java/lang/Object")] 7

/-- java/lang/Comparable -/
def k3 : Class := { plain "java/lang/Comparable" (some 0) with
  accessFlags := 1537
  interfaces := #[]
  cf := some (fileOf pool3 1 #[] #[] 1537 3 #[] #[])
  fields := #[]
  methods := #[]
  instanceTypes := #[]
  staticTypes := #[]
  resolved := Array.replicate 12 none
  statics := none }

def pool4 : Array CpInfo := pool [(1, .class_ 2), (0, u "java/io/Serializable"), (0, .class_ 4), (0, u "java/lang/Object")] 2

/-- java/io/Serializable -/
def k4 : Class := { plain "java/io/Serializable" (some 0) with
  accessFlags := 1537
  interfaces := #[]
  cf := some (fileOf pool4 1 #[] #[] 1537 3 #[] #[])
  fields := #[]
  methods := #[]
  instanceTypes := #[]
  staticTypes := #[]
  resolved := Array.replicate 7 none
  statics := none }

def pool5 : Array CpInfo := pool [(2, .class_ 4), (1, u "java/lang/Enum"), (0, u "name"), (0, u "Ljava/lang/String;"), (0, .fieldref 2 8), (0, .nameAndType 9 10), (0, u "ordinal"), (0, u "I"), (1, .class_ 14), (1, u "java/lang/Object"), (4, u "hash"), (86, .class_ 108), (1, u "java/lang/Enum$EnumDesc"), (2, .class_ 112), (0, u "java/lang/constant/Constable"), (0, .class_ 114), (0, u "java/lang/Comparable"), (0, .class_ 116), (0, u "java/io/Serializable"), (9, u "()I")] 77

def k5c0 : Code := { maxStack := 1, maxLocals := 1, code := jdk_37_method_2_code, exceptionTable := #[], attributes := #[] }
def k5m0 : Method := { name := "ordinal", desc := "()I", sig := { parameters := [], returnType := some .int }, accessFlags := 17, code := some k5c0 }
/-- java/lang/Enum -/
def k5 : Class := { plain "java/lang/Enum" (some 0) with
  accessFlags := 1057
  interfaces := #[2, 3, 4]
  cf := some (fileOf pool5 2 #[.nestMembers #[106]] #[{ accessFlags := 17, nameIndex := 9, descriptorIndex := 126, attributes := #[] }] 1057 12 #[111, 113, 115] #[{ accessFlags := 18, nameIndex := 5, descriptorIndex := 6, attributes := #[] }, { accessFlags := 18, nameIndex := 9, descriptorIndex := 10, attributes := #[] }, { accessFlags := 2, nameIndex := 19, descriptorIndex := 10, attributes := #[] }])
  fields := #[{ name := "name", type := (.object "java/lang/String"), accessFlags := 18, slot := 0, constantValue := 0 }, { name := "ordinal", type := .int, accessFlags := 18, slot := 1, constantValue := 0 }, { name := "hash", type := .int, accessFlags := 2, slot := 2, constantValue := 0 }]
  methods := #[k5m0]
  instanceTypes := #[(.object "java/lang/String"), .int, .int]
  staticTypes := #[]
  resolved := Array.replicate 204 none
  statics := none }

def pool6 : Array CpInfo := pool [(1, .class_ 2), (0, u "com/example/exact_backup/exactbackup/expr/Relation"), (2, u "LESS_EQUAL"), (0, u "Lcom/example/exact_backup/exactbackup/expr/Relation;"), (2, u "LESS"), (2, u "GREATER_EQUAL"), (2, u "GREATER"), (2, u "$VALUES"), (0, u "[Lcom/example/exact_backup/exactbackup/expr/Relation;"), (6, .class_ 28), (1, u "java/lang/Enum"), (8, u "symbol"), (0, u "Ljava/lang/String;"), (19, .methodref 1 59), (0, .nameAndType 60 61), (0, u "ordinal"), (0, u "()I"), (31, u "holds"), (0, u "(DD)Z")] 22

def k6c0 : Code := { maxStack := 4, maxLocals := 5, code := prog_11_method_6_code, exceptionTable := #[], attributes := #[] }
def k6m0 : Method := { name := "holds", desc := "(DD)Z", sig := { parameters := [.double, .double], returnType := some .boolean }, accessFlags := 1, code := some k6c0 }
/-- com/example/exact_backup/exactbackup/expr/Relation -/
def k6 : Class := { plain "com/example/exact_backup/exactbackup/expr/Relation" (some 5) with
  accessFlags := 16433
  interfaces := #[]
  cf := some (fileOf pool6 1 #[] #[{ accessFlags := 1, nameIndex := 93, descriptorIndex := 94, attributes := #[] }] 16433 26 #[] #[{ accessFlags := 16409, nameIndex := 5, descriptorIndex := 6, attributes := #[] }, { accessFlags := 16409, nameIndex := 9, descriptorIndex := 6, attributes := #[] }, { accessFlags := 16409, nameIndex := 12, descriptorIndex := 6, attributes := #[] }, { accessFlags := 16409, nameIndex := 15, descriptorIndex := 6, attributes := #[] }, { accessFlags := 18, nameIndex := 37, descriptorIndex := 38, attributes := #[] }, { accessFlags := 4122, nameIndex := 18, descriptorIndex := 19, attributes := #[] }])
  fields := #[{ name := "LESS_EQUAL", type := (.object "com/example/exact_backup/exactbackup/expr/Relation"), accessFlags := 16409, slot := 0, constantValue := 0 }, { name := "LESS", type := (.object "com/example/exact_backup/exactbackup/expr/Relation"), accessFlags := 16409, slot := 1, constantValue := 0 }, { name := "GREATER_EQUAL", type := (.object "com/example/exact_backup/exactbackup/expr/Relation"), accessFlags := 16409, slot := 2, constantValue := 0 }, { name := "GREATER", type := (.object "com/example/exact_backup/exactbackup/expr/Relation"), accessFlags := 16409, slot := 3, constantValue := 0 }, { name := "symbol", type := (.object "java/lang/String"), accessFlags := 18, slot := 3, constantValue := 0 }, { name := "$VALUES", type := (.array (.object "com/example/exact_backup/exactbackup/expr/Relation")), accessFlags := 4122, slot := 4, constantValue := 0 }]
  methods := #[k6m0]
  instanceTypes := #[(.object "java/lang/String"), .int, .int, (.object "java/lang/String")]
  staticTypes := #[(.object "com/example/exact_backup/exactbackup/expr/Relation"), (.object "com/example/exact_backup/exactbackup/expr/Relation"), (.object "com/example/exact_backup/exactbackup/expr/Relation"), (.object "com/example/exact_backup/exactbackup/expr/Relation"), (.array (.object "com/example/exact_backup/exactbackup/expr/Relation"))]
  resolved := Array.replicate 117 none
  statics := some 0 }

def pool7 : Array CpInfo := pool [(1, u "java/lang/Cloneable"), (0, .class_ 1), (0, u "java/lang/Object"), (0, .class_ 3)] 3

/-- java/lang/Cloneable -/
def k7 : Class := { plain "java/lang/Cloneable" (some 0) with
  accessFlags := 1537
  interfaces := #[]
  cf := some (fileOf pool7 2 #[] #[] 1537 4 #[] #[])
  fields := #[]
  methods := #[]
  instanceTypes := #[]
  staticTypes := #[]
  resolved := Array.replicate 8 none
  statics := none }

/-- the primitive byte -/
def k8 : Class := { plain "byte" none with kind := .primitive 'B', accessFlags := 0x411 }
/-- [B -/
def k9 : Class := { plain "[B" (some 0) with kind := .array 8 .byte, interfaces := #[7, 4], accessFlags := 1041 }

/-- the primitive int -/
def k10 : Class := { plain "int" none with kind := .primitive 'I', accessFlags := 0x411 }
/-- [I -/
def k11 : Class := { plain "[I" (some 0) with kind := .array 10 .int, interfaces := #[7, 4], accessFlags := 1041 }

def heap : Heap := #[{ cls := 6, slots := #[.ref 1, .ref 2, .ref 3, .ref 4, .null], vm := .statics 6 },
  { cls := 6, slots := #[.null, .int 0, .int 0, .null], vm := .none },
  { cls := 6, slots := #[.null, .int 1, .int 0, .null], vm := .none },
  { cls := 6, slots := #[.null, .int 2, .int 0, .null], vm := .none },
  { cls := 6, slots := #[.null, .int 3, .int 0, .null], vm := .none }]
def classes : Array Class := #[k0, k1, k2, k3, k4, k5, k6, k7, k8, k9, k10, k11]
def interned : List (Array UInt16 × Addr) := []
def slotsUsed : Nat := 21
def theMethod : MethodId := ⟨1, 3⟩
def args0 : Array Value := #[.int 1, .int 2, .int 3, .int 4]
def aboutOver (below : List Frame) : State where
  vm := { classes := classes, interned := interned.toArray }
  heap := heap
  slotsUsed := slotsUsed
  threads := #[{ frames := .invoking theMethod args0 :: below }]
def below0 : List Frame := [.native { method := ⟨0, 0⟩, args := #[] }]
def about1 : State := aboutOver below0
def p0 : Program := .bare "" "" ""
def e0 : Env := launch0.env 0 0 0
theorem w_frames : about1.frames = Frame.invoking theMethod args0 :: below0 := rfl
set_option maxRecDepth 65536 in
theorem w_args : argsFit about1.vm theMethod args0 = true := by decide +kernel
set_option maxRecDepth 65536 in
theorem w_heap : heapFits about1 = true := by decide +kernel
set_option maxRecDepth 65536 in
theorem w_runnable : about1.curStatus? = some .runnable := by decide +kernel
set_option maxRecDepth 65536 in
theorem w_alone : about1.alone = true := by decide +kernel
set_option maxRecDepth 65536 in
theorem w_named : about1.methodNamed? x = some theMethod := by decide +kernel
set_option maxRecDepth 65536 in
theorem w_hears : about1.hears theMethod below0 = true := by decide +kernel
set_option maxRecDepth 65536 in
theorem w_ripe : about1.ripe theMethod args0 below0 = true := by decide +kernel
theorem w_running : about1.status = .running := rfl
set_option maxRecDepth 65536 in
theorem w_room : about1.hasRoom e0.platform room_1 = true :=
  launch0.hasRoom_least _ room_1 (by decide +kernel) (by decide +kernel) (by decide +kernel) (by decide +kernel) (by decide +kernel) (by decide +kernel)
theorem allAtoms_all (ts : List Jvm.Cond) (a : Array Jvm.Value) (st : Jvm.State) : (allAtoms ts).before a st = ts.all (fun c => c.before a st) := by
  induction ts with
  | nil => rfl
  | cons c t ih =>
    show (Jvm.Cond.and c (allAtoms t)).before a st = _
    rw [Jvm.Cond.before_and, ih, List.all_cons]
def words1 : List Jvm.Cond := Jvm.Cond.code x code maxLocals ret :: tables_1
/-- a 'code' word, met by the world's own term for the bytes: nothing is compared byte by byte -/
theorem code_word {y : MethodName} {bytes : ByteArray} {mx : Nat} {rt : Option FieldType} {a : Array Value} {s : State} {m : MethodId} {meth : Method} {c : Code} (h1 : s.methodNamed? y = some m) (h2 : s.vm.method? m = some meth) (h3 : meth.code = some c) (h4 : c.code = bytes)
    (h5 : (c.maxLocals == mx && c.exceptionTable.isEmpty && decide (c.maxStack ≤ mostOperands) && decide (meth.sig.returnType = rt) && !meth.locks && decide (parseMethodDescriptor y.desc = some meth.sig)) = true) : (Jvm.Cond.code y bytes mx rt).before a s = true := by
  simp only [Bool.and_eq_true, beq_iff_eq, Bool.not_eq_true', decide_eq_true_eq] at h5
  obtain ⟨⟨⟨⟨⟨g1, g2⟩, g3⟩, g4⟩, g5⟩, g6⟩ := h5
  simp [Cond.before, Cond.holds, Cond.value, h1, h2, h3, h4, g1, g2, g3, g4, g5, g6]
def isCode : Jvm.Cond → Bool
  | .code _ _ _ _ => true
  | _ => false
theorem all_split {L : List Jvm.Cond} {P : Jvm.Cond → Bool} (h1 : L.all (fun c => isCode c || P c) = true) (h2 : ∀ c ∈ L.filter isCode, P c = true) : L.all P = true := by
  refine List.all_eq_true.mpr fun c hc => ?_
  have h := List.all_eq_true.mp h1 c hc
  rcases Bool.eq_false_or_eq_true (isCode c) with hi | hi
  · exact h2 c (List.mem_filter.mpr ⟨hc, hi⟩)
  · simpa [hi] using h
set_option maxRecDepth 65536 in
theorem w_c0 : (Jvm.Cond.code x code maxLocals ret).before args0 about1 = true := code_word (m := ⟨1, 3⟩) (meth := k1m3) (c := k1c3) (by decide +kernel) rfl rfl rfl (by decide +kernel)
set_option maxRecDepth 65536 in
theorem w_c1 : (Jvm.Cond.code ({ cls := "com/example/exact_backup/exactbackup/expr/RelationHoldsPinLaw", name := "pick", desc := "(I)Lcom/example/exact_backup/exactbackup/expr/Relation;" } : Jvm.MethodName) method_2_code (2 : Nat) (Option.some (Jvm.ClassFile.FieldType.object "com/example/exact_backup/exactbackup/expr/Relation"))).before args0 about1 = true := code_word (m := ⟨1, 1⟩) (meth := k1m1) (c := k1c1) (by decide +kernel) rfl rfl rfl (by decide +kernel)
set_option maxRecDepth 65536 in
theorem w_c2 : (Jvm.Cond.code ({ cls := "com/example/exact_backup/exactbackup/expr/Relation", name := "holds", desc := "(DD)Z" } : Jvm.MethodName) prog_11_method_6_code (5 : Nat) (Option.some Jvm.ClassFile.FieldType.boolean)).before args0 about1 = true := code_word (m := ⟨6, 0⟩) (meth := k6m0) (c := k6c0) (by decide +kernel) rfl rfl rfl (by decide +kernel)
set_option maxRecDepth 65536 in
theorem w_c3 : (Jvm.Cond.code ({ cls := "java/lang/Enum", name := "ordinal", desc := "()I" } : Jvm.MethodName) jdk_37_method_2_code (1 : Nat) (Option.some Jvm.ClassFile.FieldType.int)).before args0 about1 = true := code_word (m := ⟨5, 0⟩) (meth := k5m0) (c := k5c0) (by decide +kernel) rfl rfl rfl (by decide +kernel)
set_option maxRecDepth 65536 in
theorem w_c4 : (Jvm.Cond.code ({ cls := "com/example/exact_backup/exactbackup/expr/RelationHoldsPinLaw", name := "expected", desc := "(II)Z" } : Jvm.MethodName) method_3_code (3 : Nat) (Option.some Jvm.ClassFile.FieldType.boolean)).before args0 about1 = true := code_word (m := ⟨1, 2⟩) (meth := k1m2) (c := k1c2) (by decide +kernel) rfl rfl rfl (by decide +kernel)
def codes1 : List Jvm.Cond := [Jvm.Cond.code x code maxLocals ret, Jvm.Cond.code ({ cls := "com/example/exact_backup/exactbackup/expr/RelationHoldsPinLaw", name := "pick", desc := "(I)Lcom/example/exact_backup/exactbackup/expr/Relation;" } : Jvm.MethodName) method_2_code (2 : Nat) (Option.some (Jvm.ClassFile.FieldType.object "com/example/exact_backup/exactbackup/expr/Relation")), Jvm.Cond.code ({ cls := "com/example/exact_backup/exactbackup/expr/Relation", name := "holds", desc := "(DD)Z" } : Jvm.MethodName) prog_11_method_6_code (5 : Nat) (Option.some Jvm.ClassFile.FieldType.boolean), Jvm.Cond.code ({ cls := "java/lang/Enum", name := "ordinal", desc := "()I" } : Jvm.MethodName) jdk_37_method_2_code (1 : Nat) (Option.some Jvm.ClassFile.FieldType.int), Jvm.Cond.code ({ cls := "com/example/exact_backup/exactbackup/expr/RelationHoldsPinLaw", name := "expected", desc := "(II)Z" } : Jvm.MethodName) method_3_code (3 : Nat) (Option.some Jvm.ClassFile.FieldType.boolean)]
set_option maxRecDepth 65536 in
theorem codes_eq : words1.filter isCode = codes1 := rfl
theorem w_codes : ∀ c ∈ words1.filter isCode, c.before args0 about1 = true := by
  rw [codes_eq]
  intro c hc
  simp only [codes1, List.mem_cons, List.not_mem_nil, or_false] at hc
  rcases hc with rfl | rfl | rfl | rfl | rfl
  · exact w_c0
  · exact w_c1
  · exact w_c2
  · exact w_c3
  · exact w_c4
set_option maxRecDepth 65536 in
theorem w_t1 : (words1.take 24).all (fun c => isCode c || c.before args0 about1) = true := by decide +kernel
set_option maxRecDepth 65536 in
theorem w_t2 : (words1.drop 24).all (fun c => isCode c || c.before args0 about1) = true := by decide +kernel
theorem w_tables : (allAtoms (Jvm.Cond.code x code maxLocals ret :: tables_1)).before args0 about1 = true := by
  rw [allAtoms_all]
  show words1.all (fun c => c.before args0 about1) = true
  refine all_split ?_ w_codes
  rw [← List.take_append_drop 24 words1, List.all_append, w_t1, w_t2]
  rfl
set_option maxRecDepth 65536 in
theorem w_case : (Jvm.Cond.and given_1 narrow_1).before args0 about1 = true := by decide +kernel
theorem w_applies : (headSpec (Jvm.Cond.code x code maxLocals ret :: tables_1) room_1).applies x e0.platform about1 = true :=
  (Spec.applies_iff w_frames).mpr ⟨w_running, w_runnable, w_alone, w_named, w_hears, w_ripe, w_room, w_tables⟩
theorem atStart : AtStart classFile x code maxLocals ret World_1 tables_1 room_1 Calls_1 rest_1 Pre_1 launch0 p0 e0 about1 theMethod args0 below0 :=
  ⟨lists_1, trivial, launch0.admits_env _ _ _, launch0.least_env, fairChoices_fair.cas, fairChoices_fair.clock, w_frames, w_args, w_heap, w_applies, trivial, trivial, w_case⟩
end start1
theorem witness_1 : WitnessClaimed_1 := ⟨start1.p0, start1.e0, start1.about1, start1.theMethod, start1.args0, start1.below0, start1.atStart⟩
end Jvm.Pilot.@@N@@
