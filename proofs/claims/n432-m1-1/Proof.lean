import JvmDerived
import JvmDerived.Pilot.@@N@@Statement
import JvmDerived.Pilot.@@N@@Code
set_option linter.unusedVariables false
set_option linter.unusedSimpArgs false
namespace Jvm.Own
open Sem ClassFile Op Lib Jvm.Stand Jvm.Free Jvm.LawKit Jvm.RoadKit
/-- from here the run comes back, and F says how -/
def Go (p : Program) (e : Env) (below : List Frame) (m : MethodId) (F : Outcome → State → Prop) (T : State) (pc : Nat) (ls : Array Slot) (st : List Value) : Prop :=
  ∃ V o, Steps p.tables e below (T.setTop (mkF m pc ls st)) V ∧ V.status = .running ∧ Ended V below o ∧ F o V
def Fini (s : State) (rc rs : Nat) (Q : Option Value → Heap → List Loc → Prop) (o : Outcome) (V : State) : Prop := ∃ v L, o = .returned v ∧ Q v V.heap L ∧ FrameEnd s o V L rc rs
abbrev Ctr (l : Launch) (Z : State) (y : MethodName) (bytes : ByteArray) (maxL : Nat) (ret : Option FieldType) (ws : List Cond) (rm : Room) (as' : Array Value) (h : Heap) (Q : Option Value → Heap → List Loc → Prop) : Prop :=
  MetFree l y (head1 (Cond.code y bytes maxL ret :: ws) rm) (fun a U => a = as' ∧ Z.Warmed39 U.vm ∧ U.heap = h) (fun _ _ _ _ _ => True) (fun _ U o U' => ∃ v L, o = .returned v ∧ Q v U'.heap L ∧ FrameEnd U o U' L rm.cells rm.slots)
theorem enter {l : Launch} {Z : State} {y : MethodName} {bytes : ByteArray} {maxL : Nat} {ret : Option FieldType} {ws : List Cond} {rm : Room} {as' : Array Value} {h : Heap} {Q : Option Value → Heap → List Loc → Prop} (hpn : plainFor y = true)
    (body : ∀ (p : Program) (e : Env) (s : State) (m : MethodId) (below : List Frame) (meth : Method) (c : Code) (T : State), Stand p l e rm s m as' below meth c T [] 0 0 → p.tables.exec = Jvm.exec → c.code = bytes → c.maxLocals = maxL → meth.sig.returnType = ret → meth.locks = false → Z.Warmed39 s.vm → s.vm.findClass y.cls = some m.cls → meth.name = y.name → T.heap = h →
      ∃ V o, Steps p.tables e below (T.setTop (entryFrame m as' maxL)) V ∧ V.status = .running ∧ Ended V below o ∧ Fini s rm.cells rm.slots Q o V) : Ctr l Z y bytes maxL ret ws rm as' h Q := by
  refine MetFree.of_bodySF hpn hisR ?_
  intro p e s m args below meth c s₁ Bd hml0 hP hK
  obtain ⟨rfl, hZ, hh⟩ := hP
  exact body p e s m below meth c s₁ (Stand.of_body Bd) Bd.exec Bd.bytes hml0 Bd.returns Bd.notSynchronized hZ (findClass_of_methodNamed Bd.named) (name_of_methodNamed Bd.named Bd.method).1 (by rw [← hh, Bd.state]; rfl)
theorem goIn {p : Program} {e : Env} {below : List Frame} {m : MethodId} {F : Outcome → State → Prop} {T : State} {as' : Array Value} {n : Nat} {ls : Array Slot} (q : entryFrame m as' n = mkF m 0 ls []) (k : Go p e below m F T 0 ls []) :
    ∃ V o, Steps p.tables e below (T.setTop (entryFrame m as' n)) V ∧ V.status = .running ∧ Ended V below o ∧ F o V := by rw [q]; exact k
def Wk (p : Program) (below : List Frame) (m : MethodId) (c : Code) (b : ByteArray) (T : State) : Prop := At T m c below ∧ p.tables.exec = Jvm.exec ∧ c.code = b
theorem Go.of {p : Program} {e : Env} {below : List Frame} {m : MethodId} {F : Outcome → State → Prop} {T T' : State} {pc pc' : Nat} {ls ls' : Array Slot} {st st' : List Value} (k : Go p e below m F T' pc' ls' st')
    (q : ∀ t, Steps p.tables e below (T'.setTop (mkF m pc' ls' st')) t → Steps p.tables e below (T.setTop (mkF m pc ls st)) t) : Go p e below m F T pc ls st := by
  obtain ⟨V, o, h1, h2⟩ := k
  exact ⟨V, o, q V h1, h2⟩
section Plain
variable {p : Program} {l : Launch} {e : Env} {R : Room} {s : State} {m : MethodId} {args : Array Value} {below : List Frame} {meth : Method} {c : Code} {T : State} {locs : List Loc} {cells slots : Nat} {Z : State} {a0 : Array Value} {h : Heap} {b : ByteArray} {F : Outcome → State → Prop} {pc pc' : Nat} {ls : Array Slot} {rest : List Value}
theorem wk (X : Stand p l e R s m args below meth c T locs cells slots) (hx : p.tables.exec = Jvm.exec) (hby : c.code = b) : Wk p below m c b T := ⟨X.here, hx, hby⟩
theorem s_iconst {i : Int} {v : Int32} (A : Wk p below m c b T) (hd : decode b pc = .ok (.iconst i, 1)) (hp : pc + 1 = pc') (hv : Int32.ofInt i = v) (k : Go p e below m F T pc' ls (.int v :: rest)) : Go p e below m F T pc ls rest := by
  subst hp hv
  exact k.of fun t k => XS.iconst A.1 A.2.1 rfl (hb A.2.2 hd) k
theorem s_bipush {i : Int} {v : Int32} (A : Wk p below m c b T) (hd : decode b pc = .ok (.bipush i, 2)) (hp : pc + 2 = pc') (hv : (Int8.ofInt i).toInt32 = v) (k : Go p e below m F T pc' ls (.int v :: rest)) : Go p e below m F T pc ls rest := by
  subst hp hv
  exact k.of fun t k => XS.bipush A.1 A.2.1 rfl (hb A.2.2 hd) k
theorem s_sipush {i : Int} {v : Int32} (A : Wk p below m c b T) (hd : decode b pc = .ok (.sipush i, 3)) (hp : pc + 3 = pc') (hv : (Int16.ofInt i).toInt32 = v) (k : Go p e below m F T pc' ls (.int v :: rest)) : Go p e below m F T pc ls rest := by
  subst hp hv
  exact k.of fun t k => XS.sipush A.1 A.2.1 rfl (hb A.2.2 hd) k
theorem s_lconst {i : Fin 2} {v : Int64} (A : Wk p below m c b T) (hd : decode b pc = .ok (.lconst i, 1)) (hp : pc + 1 = pc') (hv : Int64.ofNat i = v) (k : Go p e below m F T pc' ls (.long v :: rest)) : Go p e below m F T pc ls rest := by
  subst hp hv
  exact k.of fun t k => XT.lconst A.1 A.2.1 rfl (hb A.2.2 hd) k
theorem s_dconst0 {v : UInt64} (A : Wk p below m c b T) (hd : decode b pc = .ok (.dconst 0, 1)) (hp : pc + 1 = pc') (hv : FP.dconst0 = v) (k : Go p e below m F T pc' ls (.double v :: rest)) : Go p e below m F T pc ls rest := by
  subst hp hv
  exact k.of fun t k => XS.dconst0 A.1 A.2.1 rfl (hb A.2.2 hd) rfl k
theorem s_dconst1 {v : UInt64} (A : Wk p below m c b T) (hd : decode b pc = .ok (.dconst 1, 1)) (hp : pc + 1 = pc') (hv : FP.dconst1 = v) (k : Go p e below m F T pc' ls (.double v :: rest)) : Go p e below m F T pc ls rest := by
  subst hp hv
  exact k.of fun t k => XS.dconst1 A.1 A.2.1 rfl (hb A.2.2 hd) rfl k
theorem s_aconstNull  (A : Wk p below m c b T) (hd : decode b pc = .ok (.aconst_null, 1)) (hp : pc + 1 = pc')  (k : Go p e below m F T pc' ls (.null :: rest)) : Go p e below m F T pc ls rest := by
  subst hp
  exact k.of fun t k => XS.aconstNull A.1 A.2.1 rfl (hb A.2.2 hd) k
theorem s_iloadN {i : Fin 4} {v : Int32} (A : Wk p below m c b T) (hd : decode b pc = .ok (.iload_n i, 1)) (hp : pc + 1 = pc') (hl : ls[i.val]? = some (.val (.int v))) (k : Go p e below m F T pc' ls (.int v :: rest)) : Go p e below m F T pc ls rest := by
  subst hp
  exact k.of fun t k => XS.iloadN A.1 A.2.1 rfl (hb A.2.2 hd) hl k
theorem s_iload {i : Nat} {v : Int32} (A : Wk p below m c b T) (hd : decode b pc = .ok (.iload i, 2)) (hp : pc + 2 = pc') (hl : ls[i]? = some (.val (.int v))) (k : Go p e below m F T pc' ls (.int v :: rest)) : Go p e below m F T pc ls rest := by
  subst hp
  exact k.of fun t k => XS.iload A.1 A.2.1 rfl (hb A.2.2 hd) hl k
theorem s_lloadN {i : Fin 4} {v : Int64} (A : Wk p below m c b T) (hd : decode b pc = .ok (.lload_n i, 1)) (hp : pc + 1 = pc') (hl : ls[i.val]? = some (.val (.long v))) (k : Go p e below m F T pc' ls (.long v :: rest)) : Go p e below m F T pc ls rest := by
  subst hp
  exact k.of fun t k => XT.lloadN A.1 A.2.1 rfl (hb A.2.2 hd) hl k
theorem s_lload {i : Nat} {v : Int64} (A : Wk p below m c b T) (hd : decode b pc = .ok (.lload i, 2)) (hp : pc + 2 = pc') (hl : ls[i]? = some (.val (.long v))) (k : Go p e below m F T pc' ls (.long v :: rest)) : Go p e below m F T pc ls rest := by
  subst hp
  exact k.of fun t k => XT.lload A.1 A.2.1 rfl (hb A.2.2 hd) hl k
theorem s_dloadN {i : Fin 4} {v : UInt64} (A : Wk p below m c b T) (hd : decode b pc = .ok (.dload_n i, 1)) (hp : pc + 1 = pc') (hl : ls[i.val]? = some (.val (.double v))) (k : Go p e below m F T pc' ls (.double v :: rest)) : Go p e below m F T pc ls rest := by
  subst hp
  exact k.of fun t k => XS.dloadN A.1 A.2.1 rfl (hb A.2.2 hd) hl k
theorem s_dload {i : Nat} {v : UInt64} (A : Wk p below m c b T) (hd : decode b pc = .ok (.dload i, 2)) (hp : pc + 2 = pc') (hl : ls[i]? = some (.val (.double v))) (k : Go p e below m F T pc' ls (.double v :: rest)) : Go p e below m F T pc ls rest := by
  subst hp
  exact k.of fun t k => XS.dload A.1 A.2.1 rfl (hb A.2.2 hd) hl k
theorem s_aloadN {i : Fin 4} {v : Value} (A : Wk p below m c b T) (hd : decode b pc = .ok (.aload_n i, 1)) (hp : pc + 1 = pc') (hl : ls[i.val]? = some (.val v)) (hv : v.isRef = true) (k : Go p e below m F T pc' ls (v :: rest)) : Go p e below m F T pc ls rest := by
  subst hp
  exact k.of fun t k => XS.aloadN A.1 A.2.1 rfl (hb A.2.2 hd) hl hv k
theorem s_aload {i : Nat} {v : Value} (A : Wk p below m c b T) (hd : decode b pc = .ok (.aload i, 2)) (hp : pc + 2 = pc') (hl : ls[i]? = some (.val v)) (hv : v.isRef = true) (k : Go p e below m F T pc' ls (v :: rest)) : Go p e below m F T pc ls rest := by
  subst hp
  exact k.of fun t k => XS.aload A.1 A.2.1 rfl (hb A.2.2 hd) hl hv k
theorem s_istoreN {i : Fin 4} {v : Int32} {ls' : Array Slot} (A : Wk p below m c b T) (hd : decode b pc = .ok (.istore_n i, 1)) (hp : pc + 1 = pc') (hl : storeLocals ls i.val (.int v) = some ls') (k : Go p e below m F T pc' ls' rest) : Go p e below m F T pc ls (.int v :: rest) := by
  subst hp
  exact k.of fun t k => XS.istoreN A.1 A.2.1 rfl (hb A.2.2 hd) rfl hl k
theorem s_istore {i : Nat} {v : Int32} {ls' : Array Slot} (A : Wk p below m c b T) (hd : decode b pc = .ok (.istore i, 2)) (hp : pc + 2 = pc') (hl : storeLocals ls i (.int v) = some ls') (k : Go p e below m F T pc' ls' rest) : Go p e below m F T pc ls (.int v :: rest) := by
  subst hp
  exact k.of fun t k => XS.istore A.1 A.2.1 rfl (hb A.2.2 hd) rfl hl k
theorem s_lstoreN {i : Fin 4} {v : Int64} {ls' : Array Slot} (A : Wk p below m c b T) (hd : decode b pc = .ok (.lstore_n i, 1)) (hp : pc + 1 = pc') (hl : storeLocals ls i.val (.long v) = some ls') (k : Go p e below m F T pc' ls' rest) : Go p e below m F T pc ls (.long v :: rest) := by
  subst hp
  exact k.of fun t k => XT.lstoreN A.1 A.2.1 rfl (hb A.2.2 hd) rfl hl k
theorem s_lstore {i : Nat} {v : Int64} {ls' : Array Slot} (A : Wk p below m c b T) (hd : decode b pc = .ok (.lstore i, 2)) (hp : pc + 2 = pc') (hl : storeLocals ls i (.long v) = some ls') (k : Go p e below m F T pc' ls' rest) : Go p e below m F T pc ls (.long v :: rest) := by
  subst hp
  exact k.of fun t k => XT.lstore A.1 A.2.1 rfl (hb A.2.2 hd) rfl hl k
theorem s_dstoreN {i : Fin 4} {v : UInt64} {ls' : Array Slot} (A : Wk p below m c b T) (hd : decode b pc = .ok (.dstore_n i, 1)) (hp : pc + 1 = pc') (hl : storeLocals ls i.val (.double v) = some ls') (k : Go p e below m F T pc' ls' rest) : Go p e below m F T pc ls (.double v :: rest) := by
  subst hp
  exact k.of fun t k => XS.dstoreN A.1 A.2.1 rfl (hb A.2.2 hd) rfl hl k
theorem s_dstore {i : Nat} {v : UInt64} {ls' : Array Slot} (A : Wk p below m c b T) (hd : decode b pc = .ok (.dstore i, 2)) (hp : pc + 2 = pc') (hl : storeLocals ls i (.double v) = some ls') (k : Go p e below m F T pc' ls' rest) : Go p e below m F T pc ls (.double v :: rest) := by
  subst hp
  exact k.of fun t k => XS.dstore A.1 A.2.1 rfl (hb A.2.2 hd) rfl hl k
theorem s_astoreN {i : Fin 4} {v : Value} {ls' : Array Slot} (A : Wk p below m c b T) (hd : decode b pc = .ok (.astore_n i, 1)) (hp : pc + 1 = pc') (hv : v.isRef = true) (hl : storeLocals ls i.val v = some ls') (k : Go p e below m F T pc' ls' rest) : Go p e below m F T pc ls (v :: rest) := by
  subst hp
  exact k.of fun t k => XS.astoreN A.1 A.2.1 rfl (hb A.2.2 hd) rfl hv hl k
theorem s_astore {i : Nat} {v : Value} {ls' : Array Slot} (A : Wk p below m c b T) (hd : decode b pc = .ok (.astore i, 2)) (hp : pc + 2 = pc') (hv : v.isRef = true) (hl : storeLocals ls i v = some ls') (k : Go p e below m F T pc' ls' rest) : Go p e below m F T pc ls (v :: rest) := by
  subst hp
  exact k.of fun t k => XS.astore A.1 A.2.1 rfl (hb A.2.2 hd) rfl hv hl k
theorem s_iinc {i : Nat} {cst : Int} {x v : Int32} {ls' : Array Slot} (A : Wk p below m c b T) (hd : decode b pc = .ok (.iinc i cst, 3)) (hp : pc + 3 = pc') (hl : ls[i]? = some (.val (.int x))) (hv : x + Int32.ofInt cst = v) (hl' : storeLocals ls i (.int v) = some ls') (k : Go p e below m F T pc' ls' rest) : Go p e below m F T pc ls rest := by
  subst hp hv
  exact k.of fun t k => XS.iinc A.1 A.2.1 rfl (hb A.2.2 hd) hl hl' k
theorem s_iadd {x y v : Int32} (A : Wk p below m c b T) (hd : decode b pc = .ok (.iadd, 1)) (hp : pc + 1 = pc') (hv : x + y = v) (k : Go p e below m F T pc' ls (.int v :: rest)) : Go p e below m F T pc ls (.int y :: .int x :: rest) := by
  subst hp hv
  exact k.of fun t k => XS.iadd A.1 A.2.1 rfl (hb A.2.2 hd) rfl k
theorem s_isub {x y v : Int32} (A : Wk p below m c b T) (hd : decode b pc = .ok (.isub, 1)) (hp : pc + 1 = pc') (hv : x - y = v) (k : Go p e below m F T pc' ls (.int v :: rest)) : Go p e below m F T pc ls (.int y :: .int x :: rest) := by
  subst hp hv
  exact k.of fun t k => XS.isub A.1 A.2.1 rfl (hb A.2.2 hd) rfl k
theorem s_imul {x y v : Int32} (A : Wk p below m c b T) (hd : decode b pc = .ok (.imul, 1)) (hp : pc + 1 = pc') (hv : x * y = v) (k : Go p e below m F T pc' ls (.int v :: rest)) : Go p e below m F T pc ls (.int y :: .int x :: rest) := by
  subst hp hv
  exact k.of fun t k => XS.imul A.1 A.2.1 rfl (hb A.2.2 hd) rfl k
theorem s_iand {x y v : Int32} (A : Wk p below m c b T) (hd : decode b pc = .ok (.iand, 1)) (hp : pc + 1 = pc') (hv : x &&& y = v) (k : Go p e below m F T pc' ls (.int v :: rest)) : Go p e below m F T pc ls (.int y :: .int x :: rest) := by
  subst hp hv
  exact k.of fun t k => XS.iand A.1 A.2.1 rfl (hb A.2.2 hd) rfl k
theorem s_ior {x y v : Int32} (A : Wk p below m c b T) (hd : decode b pc = .ok (.ior, 1)) (hp : pc + 1 = pc') (hv : x ||| y = v) (k : Go p e below m F T pc' ls (.int v :: rest)) : Go p e below m F T pc ls (.int y :: .int x :: rest) := by
  subst hp hv
  exact k.of fun t k => XT.ior A.1 A.2.1 rfl (hb A.2.2 hd) rfl k
theorem s_ixor {x y v : Int32} (A : Wk p below m c b T) (hd : decode b pc = .ok (.ixor, 1)) (hp : pc + 1 = pc') (hv : x ^^^ y = v) (k : Go p e below m F T pc' ls (.int v :: rest)) : Go p e below m F T pc ls (.int y :: .int x :: rest) := by
  subst hp hv
  exact k.of fun t k => XT.ixor A.1 A.2.1 rfl (hb A.2.2 hd) rfl k
theorem s_idiv {x y v : Int32} (A : Wk p below m c b T) (hd : decode b pc = .ok (.idiv, 1)) (hp : pc + 1 = pc') (hy : y ≠ 0) (hv : x / y = v) (k : Go p e below m F T pc' ls (.int v :: rest)) : Go p e below m F T pc ls (.int y :: .int x :: rest) := by
  subst hp hv
  exact k.of fun t k => XS.idiv A.1 A.2.1 rfl (hb A.2.2 hd) rfl hy k
theorem s_irem {x y v : Int32} (A : Wk p below m c b T) (hd : decode b pc = .ok (.irem, 1)) (hp : pc + 1 = pc') (hy : y ≠ 0) (hv : x - (x / y) * y = v) (k : Go p e below m F T pc' ls (.int v :: rest)) : Go p e below m F T pc ls (.int y :: .int x :: rest) := by
  subst hp hv
  exact k.of fun t k => XS.irem A.1 A.2.1 rfl (hb A.2.2 hd) rfl hy k
theorem s_ladd {x y v : Int64} (A : Wk p below m c b T) (hd : decode b pc = .ok (.ladd, 1)) (hp : pc + 1 = pc') (hv : x + y = v) (k : Go p e below m F T pc' ls (.long v :: rest)) : Go p e below m F T pc ls (.long y :: .long x :: rest) := by
  subst hp hv
  exact k.of fun t k => XT.ladd A.1 A.2.1 rfl (hb A.2.2 hd) rfl k
theorem s_lsub {x y v : Int64} (A : Wk p below m c b T) (hd : decode b pc = .ok (.lsub, 1)) (hp : pc + 1 = pc') (hv : x - y = v) (k : Go p e below m F T pc' ls (.long v :: rest)) : Go p e below m F T pc ls (.long y :: .long x :: rest) := by
  subst hp hv
  exact k.of fun t k => XT.lsub A.1 A.2.1 rfl (hb A.2.2 hd) rfl k
theorem s_lmul {x y v : Int64} (A : Wk p below m c b T) (hd : decode b pc = .ok (.lmul, 1)) (hp : pc + 1 = pc') (hv : x * y = v) (k : Go p e below m F T pc' ls (.long v :: rest)) : Go p e below m F T pc ls (.long y :: .long x :: rest) := by
  subst hp hv
  exact k.of fun t k => XT.lmul A.1 A.2.1 rfl (hb A.2.2 hd) rfl k
theorem s_land {x y v : Int64} (A : Wk p below m c b T) (hd : decode b pc = .ok (.land, 1)) (hp : pc + 1 = pc') (hv : x &&& y = v) (k : Go p e below m F T pc' ls (.long v :: rest)) : Go p e below m F T pc ls (.long y :: .long x :: rest) := by
  subst hp hv
  exact k.of fun t k => XT.land A.1 A.2.1 rfl (hb A.2.2 hd) rfl k
theorem s_lor {x y v : Int64} (A : Wk p below m c b T) (hd : decode b pc = .ok (.lor, 1)) (hp : pc + 1 = pc') (hv : x ||| y = v) (k : Go p e below m F T pc' ls (.long v :: rest)) : Go p e below m F T pc ls (.long y :: .long x :: rest) := by
  subst hp hv
  exact k.of fun t k => XT.lor A.1 A.2.1 rfl (hb A.2.2 hd) rfl k
theorem s_lxor {x y v : Int64} (A : Wk p below m c b T) (hd : decode b pc = .ok (.lxor, 1)) (hp : pc + 1 = pc') (hv : x ^^^ y = v) (k : Go p e below m F T pc' ls (.long v :: rest)) : Go p e below m F T pc ls (.long y :: .long x :: rest) := by
  subst hp hv
  exact k.of fun t k => XT.lxor A.1 A.2.1 rfl (hb A.2.2 hd) rfl k
theorem s_ldiv {x y v : Int64} (A : Wk p below m c b T) (hd : decode b pc = .ok (.ldiv, 1)) (hp : pc + 1 = pc') (hy : y ≠ 0) (hv : x / y = v) (k : Go p e below m F T pc' ls (.long v :: rest)) : Go p e below m F T pc ls (.long y :: .long x :: rest) := by
  subst hp hv
  exact k.of fun t k => XT.ldiv A.1 A.2.1 rfl (hb A.2.2 hd) rfl hy k
theorem s_lrem {x y v : Int64} (A : Wk p below m c b T) (hd : decode b pc = .ok (.lrem, 1)) (hp : pc + 1 = pc') (hy : y ≠ 0) (hv : x - (x / y) * y = v) (k : Go p e below m F T pc' ls (.long v :: rest)) : Go p e below m F T pc ls (.long y :: .long x :: rest) := by
  subst hp hv
  exact k.of fun t k => XT.lrem A.1 A.2.1 rfl (hb A.2.2 hd) rfl hy k
theorem s_ishl {x v : Int32} {y : Int32} (A : Wk p below m c b T) (hd : decode b pc = .ok (.ishl, 1)) (hp : pc + 1 = pc') (hv : x <<< (y &&& 31) = v) (k : Go p e below m F T pc' ls (.int v :: rest)) : Go p e below m F T pc ls (.int y :: .int x :: rest) := by
  subst hp hv
  exact k.of fun t k => XT.ishl A.1 A.2.1 rfl (hb A.2.2 hd) rfl k
theorem s_ishr {x v : Int32} {y : Int32} (A : Wk p below m c b T) (hd : decode b pc = .ok (.ishr, 1)) (hp : pc + 1 = pc') (hv : x >>> (y &&& 31) = v) (k : Go p e below m F T pc' ls (.int v :: rest)) : Go p e below m F T pc ls (.int y :: .int x :: rest) := by
  subst hp hv
  exact k.of fun t k => XT.ishr A.1 A.2.1 rfl (hb A.2.2 hd) rfl k
theorem s_iushr {x v : Int32} {y : Int32} (A : Wk p below m c b T) (hd : decode b pc = .ok (.iushr, 1)) (hp : pc + 1 = pc') (hv : XT.ushr x y = v) (k : Go p e below m F T pc' ls (.int v :: rest)) : Go p e below m F T pc ls (.int y :: .int x :: rest) := by
  subst hp hv
  exact k.of fun t k => XT.iushr A.1 A.2.1 rfl (hb A.2.2 hd) rfl k
theorem s_lshl {x v : Int64} {y : Int32} (A : Wk p below m c b T) (hd : decode b pc = .ok (.lshl, 1)) (hp : pc + 1 = pc') (hv : x <<< (y.toInt64 &&& 63) = v) (k : Go p e below m F T pc' ls (.long v :: rest)) : Go p e below m F T pc ls (.int y :: .long x :: rest) := by
  subst hp hv
  exact k.of fun t k => XT.lshl A.1 A.2.1 rfl (hb A.2.2 hd) rfl k
theorem s_lshr {x v : Int64} {y : Int32} (A : Wk p below m c b T) (hd : decode b pc = .ok (.lshr, 1)) (hp : pc + 1 = pc') (hv : x >>> (y.toInt64 &&& 63) = v) (k : Go p e below m F T pc' ls (.long v :: rest)) : Go p e below m F T pc ls (.int y :: .long x :: rest) := by
  subst hp hv
  exact k.of fun t k => XT.lshr A.1 A.2.1 rfl (hb A.2.2 hd) rfl k
theorem s_lushr {x v : Int64} {y : Int32} (A : Wk p below m c b T) (hd : decode b pc = .ok (.lushr, 1)) (hp : pc + 1 = pc') (hv : XT.ushrL x y = v) (k : Go p e below m F T pc' ls (.long v :: rest)) : Go p e below m F T pc ls (.int y :: .long x :: rest) := by
  subst hp hv
  exact k.of fun t k => XT.lushr A.1 A.2.1 rfl (hb A.2.2 hd) rfl k
theorem s_i2b {x v : Int32} (A : Wk p below m c b T) (hd : decode b pc = .ok (.i2b, 1)) (hp : pc + 1 = pc') (hv : x.toInt8.toInt32 = v) (k : Go p e below m F T pc' ls (.int v :: rest)) : Go p e below m F T pc ls (.int x :: rest) := by
  subst hp hv
  exact k.of fun t k => XT.i2b A.1 A.2.1 rfl (hb A.2.2 hd) rfl k
theorem s_i2c {x v : Int32} (A : Wk p below m c b T) (hd : decode b pc = .ok (.i2c, 1)) (hp : pc + 1 = pc') (hv : x.toUInt32.toUInt16.toUInt32.toInt32 = v) (k : Go p e below m F T pc' ls (.int v :: rest)) : Go p e below m F T pc ls (.int x :: rest) := by
  subst hp hv
  exact k.of fun t k => XT.i2c A.1 A.2.1 rfl (hb A.2.2 hd) rfl k
theorem s_i2s {x v : Int32} (A : Wk p below m c b T) (hd : decode b pc = .ok (.i2s, 1)) (hp : pc + 1 = pc') (hv : x.toInt16.toInt32 = v) (k : Go p e below m F T pc' ls (.int v :: rest)) : Go p e below m F T pc ls (.int x :: rest) := by
  subst hp hv
  exact k.of fun t k => XT.i2s A.1 A.2.1 rfl (hb A.2.2 hd) rfl k
theorem s_lneg {x v : Int64} (A : Wk p below m c b T) (hd : decode b pc = .ok (.lneg, 1)) (hp : pc + 1 = pc') (hv : -x = v) (k : Go p e below m F T pc' ls (.long v :: rest)) : Go p e below m F T pc ls (.long x :: rest) := by
  subst hp hv
  exact k.of fun t k => XT.lneg A.1 A.2.1 rfl (hb A.2.2 hd) rfl k
theorem s_dupX1 {x y : Value} (A : Wk p below m c b T) (hd : decode b pc = .ok (.dup_x1, 1)) (hp : pc + 1 = pc') (hc : x.category = 1) (hc' : y.category = 1) (k : Go p e below m F T pc' ls (x :: y :: x :: rest)) : Go p e below m F T pc ls (x :: y :: rest) := by
  subst hp
  exact k.of fun t k => XT.dupX1 A.1 A.2.1 rfl (hb A.2.2 hd) rfl hc hc' k
theorem s_dup2 {x y : Value} (A : Wk p below m c b T) (hd : decode b pc = .ok (.dup2, 1)) (hp : pc + 1 = pc') (hc : x.category = 1) (hc' : y.category = 1) (k : Go p e below m F T pc' ls (x :: y :: x :: y :: rest)) : Go p e below m F T pc ls (x :: y :: rest) := by
  subst hp
  exact k.of fun t k => XT.dup2 A.1 A.2.1 rfl (hb A.2.2 hd) rfl hc hc' k
theorem s_i2l {x : Int32} {v : Int64} (A : Wk p below m c b T) (hd : decode b pc = .ok (.i2l, 1)) (hp : pc + 1 = pc') (hv : x.toInt64 = v) (k : Go p e below m F T pc' ls (.long v :: rest)) : Go p e below m F T pc ls (.int x :: rest) := by
  subst hp hv
  exact k.of fun t k => XT.i2l A.1 A.2.1 rfl (hb A.2.2 hd) rfl k
theorem s_l2i {x : Int64} {v : Int32} (A : Wk p below m c b T) (hd : decode b pc = .ok (.l2i, 1)) (hp : pc + 1 = pc') (hv : x.toInt32 = v) (k : Go p e below m F T pc' ls (.int v :: rest)) : Go p e below m F T pc ls (.long x :: rest) := by
  subst hp hv
  exact k.of fun t k => XT.l2i A.1 A.2.1 rfl (hb A.2.2 hd) rfl k
theorem s_ineg {x v : Int32} (A : Wk p below m c b T) (hd : decode b pc = .ok (.ineg, 1)) (hp : pc + 1 = pc') (hv : -x = v) (k : Go p e below m F T pc' ls (.int v :: rest)) : Go p e below m F T pc ls (.int x :: rest) := by
  subst hp hv
  exact k.of fun t k => XS.ineg A.1 A.2.1 rfl (hb A.2.2 hd) rfl k
theorem s_i2d {x : Int32} {v : UInt64} (A : Wk p below m c b T) (hd : decode b pc = .ok (.i2d, 1)) (hp : pc + 1 = pc') (hv : FP.i2d x = v) (k : Go p e below m F T pc' ls (.double v :: rest)) : Go p e below m F T pc ls (.int x :: rest) := by
  subst hp hv
  exact k.of fun t k => XS.i2dS A.1 A.2.1 rfl (hb A.2.2 hd) rfl rfl k
theorem s_l2d {x : Int64} {v : UInt64} (A : Wk p below m c b T) (hd : decode b pc = .ok (.l2d, 1)) (hp : pc + 1 = pc') (hv : FP.l2d x = v) (k : Go p e below m F T pc' ls (.double v :: rest)) : Go p e below m F T pc ls (.long x :: rest) := by
  subst hp hv
  exact k.of fun t k => XS.l2dS A.1 A.2.1 rfl (hb A.2.2 hd) rfl rfl k
theorem s_dneg {x v : UInt64} (A : Wk p below m c b T) (hd : decode b pc = .ok (.dneg, 1)) (hp : pc + 1 = pc') (hv : FP.dneg x = v) (k : Go p e below m F T pc' ls (.double v :: rest)) : Go p e below m F T pc ls (.double x :: rest) := by
  subst hp hv
  exact k.of fun t k => XS.dnegS A.1 A.2.1 rfl (hb A.2.2 hd) rfl rfl k
theorem s_dadd {x y v : UInt64} (A : Wk p below m c b T) (hd : decode b pc = .ok (.dadd, 1)) (hp : pc + 1 = pc') (hv : FP.dadd x y = v) (hn : Jvm.Free.Fl.NoNaN64 v) (k : Go p e below m F T pc' ls (.double v :: rest)) : Go p e below m F T pc ls (.double y :: .double x :: rest) := by
  subst hp hv
  exact k.of fun t k => XS.daddS A.1 A.2.1 rfl (hb A.2.2 hd) rfl hn rfl k
theorem s_dsub {x y v : UInt64} (A : Wk p below m c b T) (hd : decode b pc = .ok (.dsub, 1)) (hp : pc + 1 = pc') (hv : FP.dsub x y = v) (hn : Jvm.Free.Fl.NoNaN64 v) (k : Go p e below m F T pc' ls (.double v :: rest)) : Go p e below m F T pc ls (.double y :: .double x :: rest) := by
  subst hp hv
  exact k.of fun t k => XS.dsubS A.1 A.2.1 rfl (hb A.2.2 hd) rfl hn rfl k
theorem s_dmul {x y v : UInt64} (A : Wk p below m c b T) (hd : decode b pc = .ok (.dmul, 1)) (hp : pc + 1 = pc') (hv : FP.dmul x y = v) (hn : Jvm.Free.Fl.NoNaN64 v) (k : Go p e below m F T pc' ls (.double v :: rest)) : Go p e below m F T pc ls (.double y :: .double x :: rest) := by
  subst hp hv
  exact k.of fun t k => XS.dmulS A.1 A.2.1 rfl (hb A.2.2 hd) rfl hn rfl k
theorem s_ddiv {x y v : UInt64} (A : Wk p below m c b T) (hd : decode b pc = .ok (.ddiv, 1)) (hp : pc + 1 = pc') (hv : FP.ddiv x y = v) (hn : Jvm.Free.Fl.NoNaN64 v) (k : Go p e below m F T pc' ls (.double v :: rest)) : Go p e below m F T pc ls (.double y :: .double x :: rest) := by
  subst hp hv
  exact k.of fun t k => XS.ddivS A.1 A.2.1 rfl (hb A.2.2 hd) rfl hn rfl k
theorem s_dcmp {o : CmpOp} {x y : UInt64} {v : Int32} (A : Wk p below m c b T) (hd : decode b pc = .ok (.dcmp o, 1)) (hp : pc + 1 = pc') (hv : cmpValue (FP.dcmp x y) o = v) (k : Go p e below m F T pc' ls (.int v :: rest)) : Go p e below m F T pc ls (.double y :: .double x :: rest) := by
  subst hp hv
  exact k.of fun t k => XS.dcmpS A.1 A.2.1 rfl (hb A.2.2 hd) rfl rfl k
theorem s_lcmp {x y : Int64} {v : Int32} (A : Wk p below m c b T) (hd : decode b pc = .ok (.lcmp, 1)) (hp : pc + 1 = pc') (hv : XT.cmpL x y = v) (k : Go p e below m F T pc' ls (.int v :: rest)) : Go p e below m F T pc ls (.long y :: .long x :: rest) := by
  subst hp hv
  exact k.of fun t k => XT.lcmp A.1 A.2.1 rfl (hb A.2.2 hd) rfl k
theorem s_dup {x : Value} (A : Wk p below m c b T) (hd : decode b pc = .ok (.dup, 1)) (hp : pc + 1 = pc') (hc : x.category = 1) (k : Go p e below m F T pc' ls (x :: x :: rest)) : Go p e below m F T pc ls (x :: rest) := by
  subst hp
  exact k.of fun t k => XS.dup A.1 A.2.1 rfl (hb A.2.2 hd) rfl hc k
theorem s_pop {x : Value} (A : Wk p below m c b T) (hd : decode b pc = .ok (.pop, 1)) (hp : pc + 1 = pc') (hc : x.category = 1) (k : Go p e below m F T pc' ls rest) : Go p e below m F T pc ls (x :: rest) := by
  subst hp
  exact k.of fun t k => XT.pop A.1 A.2.1 rfl (hb A.2.2 hd) rfl hc k
theorem s_goto {o : Int} (A : Wk p below m c b T) (hd : decode b pc = .ok (.goto o, 3)) (ho : 0 ≤ (pc : Int) + o) (hp : ((pc : Int) + o).toNat = pc') {st : List Value} (k : Go p e below m F T pc' ls st) : Go p e below m F T pc ls st := by
  exact k.of fun t k => XS.goto A.1 A.2.1 rfl rfl (hb A.2.2 hd) ho hp k
theorem n32_lt {x y : Int32} (h : ¬ x < y) : x ≥ y := Int32.not_lt.mp h
theorem n32_le {x y : Int32} (h : ¬ x ≤ y) : x > y := Int32.not_le.mp h
theorem s_ifeq {o : Int} {pY pN : Nat} {x : Int32} (A : Wk p below m c b T) (hd : decode b pc = .ok (.ifCond .eq o, 3)) (ho : 0 ≤ (pc : Int) + o) (hY : ((pc : Int) + o).toNat = pY) (hN : pc + 3 = pN) (kY : x = 0 → Go p e below m F T pY ls rest) (kN : x ≠ 0 → Go p e below m F T pN ls rest) : Go p e below m F T pc ls (.int x :: rest) := by
  subst hN
  cases q : ifCond.holds .eq x with
  | true => exact (kY (beq_iff_eq.mp q)).of fun t k => XS.ifYes A.1 A.2.1 rfl rfl (hb A.2.2 hd) rfl q ho hY k
  | false => exact (kN (beq_eq_false_iff_ne.mp q)).of fun t k => XS.ifNo A.1 A.2.1 rfl (hb A.2.2 hd) rfl q k
theorem s_ifne {o : Int} {pY pN : Nat} {x : Int32} (A : Wk p below m c b T) (hd : decode b pc = .ok (.ifCond .ne o, 3)) (ho : 0 ≤ (pc : Int) + o) (hY : ((pc : Int) + o).toNat = pY) (hN : pc + 3 = pN) (kY : x ≠ 0 → Go p e below m F T pY ls rest) (kN : x = 0 → Go p e below m F T pN ls rest) : Go p e below m F T pc ls (.int x :: rest) := by
  subst hN
  cases q : ifCond.holds .ne x with
  | true => exact (kY (bne_iff_ne.mp q)).of fun t k => XS.ifYes A.1 A.2.1 rfl rfl (hb A.2.2 hd) rfl q ho hY k
  | false => exact (kN (bne_eq_false_iff_eq.mp q)).of fun t k => XS.ifNo A.1 A.2.1 rfl (hb A.2.2 hd) rfl q k
theorem s_iflt {o : Int} {pY pN : Nat} {x : Int32} (A : Wk p below m c b T) (hd : decode b pc = .ok (.ifCond .lt o, 3)) (ho : 0 ≤ (pc : Int) + o) (hY : ((pc : Int) + o).toNat = pY) (hN : pc + 3 = pN) (kY : x < 0 → Go p e below m F T pY ls rest) (kN : x ≥ 0 → Go p e below m F T pN ls rest) : Go p e below m F T pc ls (.int x :: rest) := by
  subst hN
  cases q : ifCond.holds .lt x with
  | true => exact (kY (of_decide_eq_true q)).of fun t k => XS.ifYes A.1 A.2.1 rfl rfl (hb A.2.2 hd) rfl q ho hY k
  | false => exact (kN (n32_lt (of_decide_eq_false q))).of fun t k => XS.ifNo A.1 A.2.1 rfl (hb A.2.2 hd) rfl q k
theorem s_ifge {o : Int} {pY pN : Nat} {x : Int32} (A : Wk p below m c b T) (hd : decode b pc = .ok (.ifCond .ge o, 3)) (ho : 0 ≤ (pc : Int) + o) (hY : ((pc : Int) + o).toNat = pY) (hN : pc + 3 = pN) (kY : x ≥ 0 → Go p e below m F T pY ls rest) (kN : x < 0 → Go p e below m F T pN ls rest) : Go p e below m F T pc ls (.int x :: rest) := by
  subst hN
  cases q : ifCond.holds .ge x with
  | true => exact (kY (of_decide_eq_true q)).of fun t k => XS.ifYes A.1 A.2.1 rfl rfl (hb A.2.2 hd) rfl q ho hY k
  | false => exact (kN (n32_le (of_decide_eq_false q))).of fun t k => XS.ifNo A.1 A.2.1 rfl (hb A.2.2 hd) rfl q k
theorem s_ifgt {o : Int} {pY pN : Nat} {x : Int32} (A : Wk p below m c b T) (hd : decode b pc = .ok (.ifCond .gt o, 3)) (ho : 0 ≤ (pc : Int) + o) (hY : ((pc : Int) + o).toNat = pY) (hN : pc + 3 = pN) (kY : x > 0 → Go p e below m F T pY ls rest) (kN : x ≤ 0 → Go p e below m F T pN ls rest) : Go p e below m F T pc ls (.int x :: rest) := by
  subst hN
  cases q : ifCond.holds .gt x with
  | true => exact (kY (of_decide_eq_true q)).of fun t k => XS.ifYes A.1 A.2.1 rfl rfl (hb A.2.2 hd) rfl q ho hY k
  | false => exact (kN (n32_lt (of_decide_eq_false q))).of fun t k => XS.ifNo A.1 A.2.1 rfl (hb A.2.2 hd) rfl q k
theorem s_ifle {o : Int} {pY pN : Nat} {x : Int32} (A : Wk p below m c b T) (hd : decode b pc = .ok (.ifCond .le o, 3)) (ho : 0 ≤ (pc : Int) + o) (hY : ((pc : Int) + o).toNat = pY) (hN : pc + 3 = pN) (kY : x ≤ 0 → Go p e below m F T pY ls rest) (kN : x > 0 → Go p e below m F T pN ls rest) : Go p e below m F T pc ls (.int x :: rest) := by
  subst hN
  cases q : ifCond.holds .le x with
  | true => exact (kY (of_decide_eq_true q)).of fun t k => XS.ifYes A.1 A.2.1 rfl rfl (hb A.2.2 hd) rfl q ho hY k
  | false => exact (kN (n32_le (of_decide_eq_false q))).of fun t k => XS.ifNo A.1 A.2.1 rfl (hb A.2.2 hd) rfl q k
theorem s_icmpeq {o : Int} {pY pN : Nat} {x y : Int32} (A : Wk p below m c b T) (hd : decode b pc = .ok (.if_icmp .eq o, 3)) (ho : 0 ≤ (pc : Int) + o) (hY : ((pc : Int) + o).toNat = pY) (hN : pc + 3 = pN) (kY : x = y → Go p e below m F T pY ls rest) (kN : x ≠ y → Go p e below m F T pN ls rest) : Go p e below m F T pc ls (.int y :: .int x :: rest) := by
  subst hN
  cases q : if_icmp.holds .eq x y with
  | true => exact (kY (beq_iff_eq.mp q)).of fun t k => XS.icmpYes A.1 A.2.1 rfl rfl (hb A.2.2 hd) rfl q ho hY k
  | false => exact (kN (beq_eq_false_iff_ne.mp q)).of fun t k => XS.icmpNo A.1 A.2.1 rfl (hb A.2.2 hd) rfl q k
theorem s_icmpne {o : Int} {pY pN : Nat} {x y : Int32} (A : Wk p below m c b T) (hd : decode b pc = .ok (.if_icmp .ne o, 3)) (ho : 0 ≤ (pc : Int) + o) (hY : ((pc : Int) + o).toNat = pY) (hN : pc + 3 = pN) (kY : x ≠ y → Go p e below m F T pY ls rest) (kN : x = y → Go p e below m F T pN ls rest) : Go p e below m F T pc ls (.int y :: .int x :: rest) := by
  subst hN
  cases q : if_icmp.holds .ne x y with
  | true => exact (kY (bne_iff_ne.mp q)).of fun t k => XS.icmpYes A.1 A.2.1 rfl rfl (hb A.2.2 hd) rfl q ho hY k
  | false => exact (kN (bne_eq_false_iff_eq.mp q)).of fun t k => XS.icmpNo A.1 A.2.1 rfl (hb A.2.2 hd) rfl q k
theorem s_icmplt {o : Int} {pY pN : Nat} {x y : Int32} (A : Wk p below m c b T) (hd : decode b pc = .ok (.if_icmp .lt o, 3)) (ho : 0 ≤ (pc : Int) + o) (hY : ((pc : Int) + o).toNat = pY) (hN : pc + 3 = pN) (kY : x < y → Go p e below m F T pY ls rest) (kN : x ≥ y → Go p e below m F T pN ls rest) : Go p e below m F T pc ls (.int y :: .int x :: rest) := by
  subst hN
  cases q : if_icmp.holds .lt x y with
  | true => exact (kY (of_decide_eq_true q)).of fun t k => XS.icmpYes A.1 A.2.1 rfl rfl (hb A.2.2 hd) rfl q ho hY k
  | false => exact (kN (n32_lt (of_decide_eq_false q))).of fun t k => XS.icmpNo A.1 A.2.1 rfl (hb A.2.2 hd) rfl q k
theorem s_icmpge {o : Int} {pY pN : Nat} {x y : Int32} (A : Wk p below m c b T) (hd : decode b pc = .ok (.if_icmp .ge o, 3)) (ho : 0 ≤ (pc : Int) + o) (hY : ((pc : Int) + o).toNat = pY) (hN : pc + 3 = pN) (kY : x ≥ y → Go p e below m F T pY ls rest) (kN : x < y → Go p e below m F T pN ls rest) : Go p e below m F T pc ls (.int y :: .int x :: rest) := by
  subst hN
  cases q : if_icmp.holds .ge x y with
  | true => exact (kY (of_decide_eq_true q)).of fun t k => XS.icmpYes A.1 A.2.1 rfl rfl (hb A.2.2 hd) rfl q ho hY k
  | false => exact (kN (n32_le (of_decide_eq_false q))).of fun t k => XS.icmpNo A.1 A.2.1 rfl (hb A.2.2 hd) rfl q k
theorem s_icmpgt {o : Int} {pY pN : Nat} {x y : Int32} (A : Wk p below m c b T) (hd : decode b pc = .ok (.if_icmp .gt o, 3)) (ho : 0 ≤ (pc : Int) + o) (hY : ((pc : Int) + o).toNat = pY) (hN : pc + 3 = pN) (kY : x > y → Go p e below m F T pY ls rest) (kN : x ≤ y → Go p e below m F T pN ls rest) : Go p e below m F T pc ls (.int y :: .int x :: rest) := by
  subst hN
  cases q : if_icmp.holds .gt x y with
  | true => exact (kY (of_decide_eq_true q)).of fun t k => XS.icmpYes A.1 A.2.1 rfl rfl (hb A.2.2 hd) rfl q ho hY k
  | false => exact (kN (n32_lt (of_decide_eq_false q))).of fun t k => XS.icmpNo A.1 A.2.1 rfl (hb A.2.2 hd) rfl q k
theorem s_icmple {o : Int} {pY pN : Nat} {x y : Int32} (A : Wk p below m c b T) (hd : decode b pc = .ok (.if_icmp .le o, 3)) (ho : 0 ≤ (pc : Int) + o) (hY : ((pc : Int) + o).toNat = pY) (hN : pc + 3 = pN) (kY : x ≤ y → Go p e below m F T pY ls rest) (kN : x > y → Go p e below m F T pN ls rest) : Go p e below m F T pc ls (.int y :: .int x :: rest) := by
  subst hN
  cases q : if_icmp.holds .le x y with
  | true => exact (kY (of_decide_eq_true q)).of fun t k => XS.icmpYes A.1 A.2.1 rfl rfl (hb A.2.2 hd) rfl q ho hY k
  | false => exact (kN (n32_le (of_decide_eq_false q))).of fun t k => XS.icmpNo A.1 A.2.1 rfl (hb A.2.2 hd) rfl q k
theorem s_nonnullY {o : Int} {a : Addr} (A : Wk p below m c b T) (hd : decode b pc = .ok (.ifnonnull o, 3)) (ho : 0 ≤ (pc : Int) + o) (hp : ((pc : Int) + o).toNat = pc') (k : Go p e below m F T pc' ls rest) : Go p e below m F T pc ls (.ref a :: rest) := by
  exact k.of fun t k => XT.ifnonnullYes A.1 A.2.1 rfl rfl (hb A.2.2 hd) rfl ho hp k
theorem s_acmpeq {o : Int} {pY pN : Nat} {x y : Value} (A : Wk p below m c b T) (hx' : x.isRef = true) (hy' : y.isRef = true) (hd : decode b pc = .ok (.if_acmp .eq o, 3)) (ho : 0 ≤ (pc : Int) + o) (hY : ((pc : Int) + o).toNat = pY) (hN : pc + 3 = pN) (kY : x = y → Go p e below m F T pY ls rest) (kN : x ≠ y → Go p e below m F T pN ls rest) : Go p e below m F T pc ls (y :: x :: rest) := by
  subst hN
  by_cases q : x = y
  · exact (kY q).of fun t k => XT.acmpYes A.1 A.2.1 rfl rfl (hb A.2.2 hd) rfl hx' hy' (decide_eq_true q) ho hY k
  · exact (kN q).of fun t k => XT.acmpNo A.1 A.2.1 rfl (hb A.2.2 hd) rfl hx' hy' (decide_eq_false q) k
theorem s_acmpne {o : Int} {pY pN : Nat} {x y : Value} (A : Wk p below m c b T) (hx' : x.isRef = true) (hy' : y.isRef = true) (hd : decode b pc = .ok (.if_acmp .ne o, 3)) (ho : 0 ≤ (pc : Int) + o) (hY : ((pc : Int) + o).toNat = pY) (hN : pc + 3 = pN) (kY : x ≠ y → Go p e below m F T pY ls rest) (kN : x = y → Go p e below m F T pN ls rest) : Go p e below m F T pc ls (y :: x :: rest) := by
  subst hN
  by_cases q : x = y
  · exact (kN q).of fun t k => XT.acmpNo A.1 A.2.1 rfl (hb A.2.2 hd) rfl hx' hy' (decide_eq_false (fun r => r q)) k
  · exact (kY q).of fun t k => XT.acmpYes A.1 A.2.1 rfl rfl (hb A.2.2 hd) rfl hx' hy' (decide_eq_true q) ho hY k
theorem s_tsw {dflt low high : Int} {offs : Array Int} {len : Nat} {o : Int} {i : Int32} (A : Wk p below m c b T) (hd : decode b pc = .ok (.tableswitch dflt low high offs, len)) (hin : ¬ (i.toInt < low ∨ i.toInt > high)) (hoff : offs[(i.toInt - low).toNat]? = some o) (ho : 0 ≤ (pc : Int) + o) (hp : ((pc : Int) + o).toNat = pc') (k : Go p e below m F T pc' ls rest) : Go p e below m F T pc ls (.int i :: rest) := by
  exact k.of fun t k => XS.tswIn A.1 A.2.1 rfl rfl (hb A.2.2 hd) rfl hin hoff ho hp k
end Plain
section Heap
variable {p : Program} {l : Launch} {e : Env} {R : Room} {s : State} {m : MethodId} {args : Array Value} {below : List Frame} {meth : Method} {c : Code} {T : State} {locs : List Loc} {cells slots : Nat} {Z : State} {a0 : Array Value} {h : Heap} {b : ByteArray} {F : Outcome → State → Prop} {pc pc' : Nat} {ls : Array Slot} {rest : List Value}
theorem g_ldcI (X : Stand p l e R s m args below meth c T locs cells slots) (hx : p.tables.exec = Jvm.exec) (hZ : Z.Warmed39 s.vm) {own : String} {i : Nat} {v : Int32} (hown : s.vm.findClass own = some m.cls) (w : (Cond.constant own i v).before a0 Z = true) (hd : decode c.code pc = .ok (.ldc i, 2)) (hp : pc + 2 = pc') (k : Go p e below m F T pc' ls (.int v :: rest)) : Go p e below m F T pc ls rest := by
  subst hp
  exact k.of fun t k => X.ldcInt hx hown (mvT hZ w) (g := mkF m pc ls rest) rfl hd t k
theorem g_ldcwI (X : Stand p l e R s m args below meth c T locs cells slots) (hx : p.tables.exec = Jvm.exec) (hZ : Z.Warmed39 s.vm) {own : String} {i : Nat} {v : Int32} (hown : s.vm.findClass own = some m.cls) (w : (Cond.constant own i v).before a0 Z = true) (hd : decode c.code pc = .ok (.ldc_w i, 3)) (hp : pc + 3 = pc') (k : Go p e below m F T pc' ls (.int v :: rest)) : Go p e below m F T pc ls rest := by
  subst hp
  exact k.of fun t k => X.ldcwInt hx hown (mvT hZ w) (g := mkF m pc ls rest) rfl hd t k
theorem g_ldcJ (X : Stand p l e R s m args below meth c T locs cells slots) (hx : p.tables.exec = Jvm.exec) (hZ : Z.Warmed39 s.vm) {own : String} {i : Nat} {v : Int64} (hown : s.vm.findClass own = some m.cls) (w : (Cond.constantLong own i v).before a0 Z = true) (hd : decode c.code pc = .ok (.ldc2_w i, 3)) (hp : pc + 3 = pc') (k : Go p e below m F T pc' ls (.long v :: rest)) : Go p e below m F T pc ls rest := by
  subst hp
  exact k.of fun t k => X.ldc2Long hx hown (mvT hZ w) (g := mkF m pc ls rest) rfl hd t k
theorem g_ldcD (X : Stand p l e R s m args below meth c T locs cells slots) (hx : p.tables.exec = Jvm.exec) (hZ : Z.Warmed39 s.vm) {own : String} {i : Nat} {v : UInt64} (hown : s.vm.findClass own = some m.cls) (w : (Cond.constantDouble own i v).before a0 Z = true) (hd : decode c.code pc = .ok (.ldc2_w i, 3)) (hp : pc + 3 = pc') (k : Go p e below m F T pc' ls (.double v :: rest)) : Go p e below m F T pc ls rest := by
  subst hp
  exact k.of fun t k => X.ldc2DoubleC hx hown (mvT hZ w) (g := mkF m pc ls rest) rfl hd t k
theorem g_getF (X : Stand p l e R s m args below meth c T locs cells slots) (hx : p.tables.exec = Jvm.exec) (hZ : Z.Warmed39 s.vm) {own R0 O n d : String} {i : Nat} (hown : s.vm.findClass own = some m.cls) (w : (Cond.fieldLink own i R0 n d).before a0 Z = true) (via : Via Z R0 O n d) (eT : T.heap = h) {a : Addr} {v : Value} (F0 : Fld Z h a O n d v) (hd : decode c.code pc = .ok (.getfield i, 3)) (hp : pc + 3 = pc') (k : ∀ T', Stand p l e R s m args below meth c T' locs cells slots → T'.heap = h → Go p e below m F T' pc' ls (v :: rest)) : Go p e below m F T pc ls (.ref a :: rest) := by
  subst hp
  obtain ⟨T', X', e', st⟩ := getF X hx hZ hown (host := "") (Or.inl w) via eT F0 (g := mkF m pc ls (.ref a :: rest)) rfl rfl hd
  exact (k T' X' e').of st
theorem g_getFN (X : Stand p l e R s m args below meth c T locs cells slots) (hx : p.tables.exec = Jvm.exec) (hZ : Z.Warmed39 s.vm) {own R0 O n d host : String} {i : Nat} (hown : s.vm.findClass own = some m.cls) (w : (Cond.fieldLinkNest own i R0 n d host).before a0 Z = true) (via : Via Z R0 O n d) (eT : T.heap = h) {a : Addr} {v : Value} (F0 : Fld Z h a O n d v) (hd : decode c.code pc = .ok (.getfield i, 3)) (hp : pc + 3 = pc') (k : ∀ T', Stand p l e R s m args below meth c T' locs cells slots → T'.heap = h → Go p e below m F T' pc' ls (v :: rest)) : Go p e below m F T pc ls (.ref a :: rest) := by
  subst hp
  obtain ⟨T', X', e', st⟩ := getF X hx hZ hown (host := host) (Or.inr w) via eT F0 (g := mkF m pc ls (.ref a :: rest)) rfl rfl hd
  exact (k T' X' e').of st
theorem g_putF (X : Stand p l e R s m args below meth c T locs cells slots) (hx : p.tables.exec = Jvm.exec) (hZ : Z.Warmed39 s.vm) {own R0 O n d C : String} {i kk : Nat} {ty : FieldType} (hown : s.vm.findClass own = some m.cls) (w : (Cond.fieldLink own i R0 n d).before a0 Z = true) (via : Via Z R0 O n d) (eT : T.heap = h) {a : Addr} {v old : Value} (F0 : Fld Z h a O n d old) (E : Exa Z h a C) (L : (Cond.lays C O n d).before a0 Z = true ∨ ((Cond.laysFinal C O n d).before a0 Z = true ∧ own = O ∧ meth.name = "<init>")) (wi : (Cond.instantiable C kk).before a0 Z = true) (hty : parseFieldDescriptor d = some ty) (hn : narrow ty v = v) (hf : fits ty v = true) (hd : decode c.code pc = .ok (.putfield i, 3)) (hp : pc + 3 = pc') (k : ∀ T' h', Stand p l e R s m args below meth c T' (locs ++ [⟨a, RoadKit.slotOf Z O n d⟩]) cells slots → T'.heap = h' → Wr h h' a (RoadKit.slotOf Z O n d) v → Go p e below m F T' pc' ls rest) : Go p e below m F T pc ls (v :: .ref a :: rest) := by
  subst hp
  obtain ⟨T', h', X', e', W', st⟩ := putF X hx hZ hown (host := "") (Or.inl w) via eT F0 E L wi hty hn hf (g := mkF m pc ls (v :: .ref a :: rest)) rfl rfl hd
  exact (k T' h' X' e' W').of st
theorem g_getS (X : Stand p l e R s m args below meth c T locs cells slots) (hx : p.tables.exec = Jvm.exec) (hZ : Z.Warmed39 s.vm) {own R0 O n d : String} {i : Nat} (hown : s.vm.findClass own = some m.cls) (w : (Cond.fieldLink own i R0 n d).before a0 Z = true) (via : Via Z R0 O n d) (eT : T.heap = h) {v : Value} (F0 : Sta Z h O n d v) (hd : decode c.code pc = .ok (.getstatic i, 3)) (hp : pc + 3 = pc') (k : ∀ T', Stand p l e R s m args below meth c T' locs cells slots → T'.heap = h → Go p e below m F T' pc' ls (v :: rest)) : Go p e below m F T pc ls rest := by
  subst hp
  obtain ⟨T', X', e', st⟩ := getS X hx hZ hown (host := "") w via eT F0 (g := mkF m pc ls rest) rfl hd
  exact (k T' X' e').of st
theorem g_new (X : Stand p l e R s m args below meth c T locs cells slots) (hx : p.tables.exec = Jvm.exec) (hZ : Z.Warmed39 s.vm) {own C : String} {i n : Nat} (hown : s.vm.findClass own = some m.cls) (w : (Cond.classLink own i C).before a0 Z = true) (wi : (Cond.instantiable C n).before a0 Z = true) (wz : (Cond.initialized C).before a0 Z = true) (eT : T.heap = h) (hd : decode c.code pc = .ok (.new i, 3)) (hp : pc + 3 = pc') (hc : cells + 1 ≤ R.cells) (hl : slots + n ≤ R.slots) (k : ∀ T' h' a, Stand p l e R s m args below meth c T' locs (cells + 1) (slots + n) → T'.heap = h' → Ext h h' → a = h.size → Exa Z h' a C → (∀ {O nm d : String} {ty : FieldType}, Laid Z a0 C O nm d → parseFieldDescriptor d = some ty → Fld Z h' a O nm d (defaultValue ty)) → Go p e below m F T' pc' ls (.ref a :: rest)) : Go p e below m F T pc ls rest := by
  subst hp
  obtain ⟨T', h', X', e', E', A', D', -, st⟩ := newO X hx hZ hown w wi wz eT (g := mkF m pc ls rest) rfl hd hc hl
  exact (k T' h' _ X' e' E' rfl A' D').of st
theorem g_initO (X : Stand p l e R s m args below meth c T locs cells slots) (hx : p.tables.exec = Jvm.exec) (hZ : Z.Warmed39 s.vm) {own : String} {i : Nat} (hown : s.vm.findClass own = some m.cls) (w1 : (Cond.methodLink own i Lib.objectInit).before a0 Z = true) (w2 : (Cond.instanceMethod Lib.objectInit).before a0 Z = true) (w3 : (Cond.code Lib.objectInit ⟨#[0xb1]⟩ 1 none).before a0 Z = true) (eT : T.heap = h) (hsize : ls.size = c.maxLocals) {a : Addr} (hd : decode c.code pc = .ok (.invokespecial i, 3)) (hp : pc + 3 = pc') (hf : 1 ≤ R.frames) {W : Nat} (hW : 2 * 0 + (rest.map fun v => v.category).sum ≤ W) (hl : W + 12 ≤ R.locals) (k : ∀ T', Stand p l e R s m args below meth c T' locs cells slots → T'.heap = h → Go p e below m F T' pc' ls rest) : Go p e below m F T pc ls (.ref a :: rest) := by
  subst hp
  obtain ⟨T', X', e', st⟩ := initO X hx hZ hown w1 w2 w3 eT (g := mkF m pc ls (.ref a :: rest)) rfl hsize rfl hd hf hW hl
  exact (k T' X' e').of st
theorem g_static (X : Stand p l e R s m args below meth c T locs cells slots) (hx : p.tables.exec = Jvm.exec) (hZ : Z.Warmed39 s.vm) {own : String} {i : Nat} {y : MethodName} {bytes : ByteArray} {maxL : Nat} {ret : Option FieldType} {rm : Room} {Q : Option Value → Heap → List Loc → Prop} (hown : s.vm.findClass own = some m.cls) (w1 : (Cond.methodLink own i y).before a0 Z = true) (w2 : (Cond.static y).before a0 Z = true) (w3 : (Cond.initialized y.cls).before a0 Z = true) (w4 : (Cond.code y bytes maxL ret).before a0 Z = true) (hy : y.cls ≠ "java/lang/invoke/MethodHandle" ∧ y.cls ≠ "java/lang/invoke/VarHandle")
    {argsL st : List Value} {ps : List FieldType} {rt : Option FieldType} (hM : Ctr l Z y bytes maxL ret [] rm argsL.toArray h Q) (hpd : parseMethodDescriptor y.desc = some ⟨ps, rt⟩) (hlen : argsL.length = ps.length) (hst : st = argsL.reverse ++ rest) (hd : decode c.code pc = .ok (.invokestatic i, 3)) (eT : T.heap = h) (hsize : ls.size = c.maxLocals) (hp : pc + 3 = pc') (hf : rm.frames + 1 ≤ R.frames) {W : Nat} (hW : 2 * 0 + (rest.map fun v => v.category).sum ≤ W) (hl : W + (maxL + 11) + rm.locals ≤ R.locals) (hc : cells + rm.cells ≤ R.cells) (hs : slots + rm.slots ≤ R.slots)
    (k : ∀ v T' L, Stand p l e R s m args below meth c T' (locs ++ L) (cells + rm.cells) (slots + rm.slots) → Q v T'.heap L → Go p e below m F T' pc' ls (v.toList ++ rest)) : Go p e below m F T pc ls st := by
  subst hp hst
  obtain ⟨v, _, ⟨T', L', k', n'⟩, -, X', ⟨L, hQ, l1, l2, l3⟩, stp⟩ := Jvm.LawKit.callS X hx (y := y) hown (mvT hZ w1) (mvT hZ w2) (mvT hZ w3) (mvT hZ w4) hy (backOf (W := W) hM hZ w4 w3 hf hl) (g := mkF m pc ls (argsL.reverse ++ rest)) rfl hsize (argsL := argsL) (rest := rest) (lenOf hpd hlen) rfl hW hd (fun _ _ => ⟨rfl, eT, hc, hs⟩)
  dsimp only [Pt.U, Pt.locs, Pt.cells, Pt.slots] at X' l1 l2 l3 stp hQ
  subst l1 l2 l3
  exact (k v T' L X' hQ).of stp
theorem g_special (X : Stand p l e R s m args below meth c T locs cells slots) (hx : p.tables.exec = Jvm.exec) (hZ : Z.Warmed39 s.vm) {own : String} {i : Nat} {y : MethodName} {bytes : ByteArray} {maxL : Nat} {rm : Room} {Q : Option Value → Heap → List Loc → Prop} (hy1 : y.name = "<init>") (hown : s.vm.findClass own = some m.cls) (w1 : (Cond.methodLink own i y).before a0 Z = true) (w2 : (Cond.instanceMethod y).before a0 Z = true) (w3 : (Cond.initialized y.cls).before a0 Z = true) (w4 : (Cond.code y bytes maxL none).before a0 Z = true) (hy : y.cls ≠ "java/lang/invoke/MethodHandle" ∧ y.cls ≠ "java/lang/invoke/VarHandle")
    {a : Addr} {argsL st : List Value} {ps : List FieldType} {rt : Option FieldType} (hM : Ctr l Z y bytes maxL none [] rm (.ref a :: argsL).toArray h Q) (hpd : parseMethodDescriptor y.desc = some ⟨ps, rt⟩) (hlen : argsL.length = ps.length) (hst : st = argsL.reverse ++ .ref a :: rest) (hd : decode c.code pc = .ok (.invokespecial i, 3)) (eT : T.heap = h) (hsize : ls.size = c.maxLocals) (hp : pc + 3 = pc') (hf : rm.frames + 1 ≤ R.frames) {W : Nat} (hW : 2 * 0 + (rest.map fun v => v.category).sum ≤ W) (hl : W + (maxL + 11) + rm.locals ≤ R.locals) (hc : cells + rm.cells ≤ R.cells) (hs : slots + rm.slots ≤ R.slots)
    (k : ∀ v T' L, Stand p l e R s m args below meth c T' (locs ++ L) (cells + rm.cells) (slots + rm.slots) → Q v T'.heap L → Go p e below m F T' pc' ls (v.toList ++ rest)) : Go p e below m F T pc ls st := by
  subst hp hst
  obtain ⟨v, _, ⟨T', L', k', n'⟩, -, X', ⟨L, hQ, l1, l2, l3⟩, stp⟩ := X.specialBack hx (y := y) hy1 hown (mvT hZ w1) (mvT hZ w2) (mvT hZ w4) hy (backOf (W := W) hM hZ w4 w3 hf hl) (g := mkF m pc ls (argsL.reverse ++ .ref a :: rest)) rfl hsize (Steps.refl _) (a := a) (argsL := argsL) (rest := rest) (lenOf hpd hlen) rfl hW hd (fun _ _ => ⟨rfl, eT, hc, hs⟩)
  dsimp only [Pt.U, Pt.locs, Pt.cells, Pt.slots] at X' l1 l2 l3 stp hQ
  subst l1 l2 l3
  exact (k v T' L X' hQ).of fun t q => stp.trans q
theorem g_virtual (X : Stand p l e R s m args below meth c T locs cells slots) (hx : p.tables.exec = Jvm.exec) (hZ : Z.Warmed39 s.vm) {own C : String} {i : Nat} {y : MethodName} {bytes : ByteArray} {maxL : Nat} {ret : Option FieldType} {rm : Room} {Q : Option Value → Heap → List Loc → Prop} (hown : s.vm.findClass own = some m.cls) (w1 : (Cond.methodLink own i y).before a0 Z = true) (w2 : (Cond.declares y).before a0 Z = true) (w5 : (Cond.selects C y y).before a0 Z = true) (w6 : (Cond.instanceMethod y).before a0 Z = true) (w3 : (Cond.initialized y.cls).before a0 Z = true) (w4 : (Cond.code y bytes maxL ret).before a0 Z = true) (hy : y.cls ≠ "java/lang/invoke/MethodHandle" ∧ y.cls ≠ "java/lang/invoke/VarHandle")
    {a : Addr} (Ea : Exa Z h a C) {argsL st : List Value} {ps : List FieldType} {rt : Option FieldType} (hM : Ctr l Z y bytes maxL ret [] rm (.ref a :: argsL).toArray h Q) (hpd : parseMethodDescriptor y.desc = some ⟨ps, rt⟩) (hlen : argsL.length = ps.length) (hst : st = argsL.reverse ++ .ref a :: rest) (hd : decode c.code pc = .ok (.invokevirtual i, 3)) (eT : T.heap = h) (hsize : ls.size = c.maxLocals) (hp : pc + 3 = pc') (hf : rm.frames + 1 ≤ R.frames) {W : Nat} (hW : 2 * 0 + (rest.map fun v => v.category).sum ≤ W) (hl : W + (maxL + 11) + rm.locals ≤ R.locals) (hc : cells + rm.cells ≤ R.cells) (hs : slots + rm.slots ≤ R.slots)
    (k : ∀ v T' L, Stand p l e R s m args below meth c T' (locs ++ L) (cells + rm.cells) (slots + rm.slots) → Q v T'.heap L → Go p e below m F T' pc' ls (v.toList ++ rest)) : Go p e below m F T pc ls st := by
  subst hp hst
  obtain ⟨cq, kq, qa, qb, qc⟩ := isOf hZ eT Ea
  obtain ⟨v, _, ⟨T', L', k', n'⟩, -, X', ⟨L, hQ, l1, l2, l3⟩, stp⟩ := X.virtualBack hx (y := y) (z := y) hown (mvT hZ w1) (mvT hZ w2) (notFace_of_selects (args := #[]) (mvT hZ w5)) (mvT hZ w5) (mvT hZ w6) hy (backOf (W := W) hM hZ w4 w3 hf hl) qa qc (g := mkF m pc ls (argsL.reverse ++ .ref a :: rest)) rfl hsize (Steps.refl _) (argsL := argsL) (rest := rest) (lenOf hpd hlen) rfl hW hd (fun _ _ => ⟨rfl, eT, hc, hs⟩)
  dsimp only [Pt.U, Pt.locs, Pt.cells, Pt.slots] at X' l1 l2 l3 stp hQ
  subst l1 l2 l3
  exact (k v T' L X' hQ).of fun t q => stp.trans q
theorem g_virtualUp (X : Stand p l e R s m args below meth c T locs cells slots) (hx : p.tables.exec = Jvm.exec) (hZ : Z.Warmed39 s.vm) {own C owner : String} {i : Nat} {x y : MethodName} {bytes : ByteArray} {maxL : Nat} {ret : Option FieldType} {rm : Room} {Q : Option Value → Heap → List Loc → Prop} (hown : s.vm.findClass own = some m.cls) (w1 : (Cond.methodLink own i x).before a0 Z = true) (w7 : (Cond.sameMethod x.cls owner x.name x.desc).before a0 Z = true) (w2 : (Cond.declares ⟨owner, x.name, x.desc⟩).before a0 Z = true) (ho : owner ≠ "java/lang/invoke/MethodHandle" ∧ owner ≠ "java/lang/invoke/VarHandle") (w5 : (Cond.selects C x y).before a0 Z = true) (w6 : (Cond.instanceMethod y).before a0 Z = true) (w3 : (Cond.initialized y.cls).before a0 Z = true) (w4 : (Cond.code y bytes maxL ret).before a0 Z = true)
    {a : Addr} (Ea : Exa Z h a C) {argsL st : List Value} {ps : List FieldType} {rt : Option FieldType} (hM : Ctr l Z y bytes maxL ret [] rm (.ref a :: argsL).toArray h Q) (hpd : parseMethodDescriptor x.desc = some ⟨ps, rt⟩) (hlen : argsL.length = ps.length) (hst : st = argsL.reverse ++ .ref a :: rest) (hd : decode c.code pc = .ok (.invokevirtual i, 3)) (eT : T.heap = h) (hsize : ls.size = c.maxLocals) (hp : pc + 3 = pc') (hf : rm.frames + 1 ≤ R.frames) {W : Nat} (hW : 2 * 0 + (rest.map fun v => v.category).sum ≤ W) (hl : W + (maxL + 11) + rm.locals ≤ R.locals) (hc : cells + rm.cells ≤ R.cells) (hs : slots + rm.slots ≤ R.slots)
    (k : ∀ v T' L, Stand p l e R s m args below meth c T' (locs ++ L) (cells + rm.cells) (slots + rm.slots) → Q v T'.heap L → Go p e below m F T' pc' ls (v.toList ++ rest)) : Go p e below m F T pc ls st := by
  subst hp hst
  obtain ⟨cq, kq, qa, qb, qc⟩ := isOf hZ eT Ea
  obtain ⟨v, _, ⟨T', L', k', n'⟩, -, X', ⟨L, hQ, l1, l2, l3⟩, stp⟩ := X.virtualBackUp hx (x := x) (y := y) (owner := owner) hown (mvT hZ w1) (mvT hZ w7) (mvT hZ w2) ho (mvT hZ w5) (mvT hZ w6) (backOf (W := W) hM hZ w4 w3 hf hl) qa qc (g := mkF m pc ls (argsL.reverse ++ .ref a :: rest)) rfl hsize (Steps.refl _) (argsL := argsL) (rest := rest) (lenOf hpd hlen) rfl hW hd (fun _ _ => ⟨rfl, eT, hc, hs⟩)
  dsimp only [Pt.U, Pt.locs, Pt.cells, Pt.slots] at X' l1 l2 l3 stp hQ
  subst l1 l2 l3
  exact (k v T' L X' hQ).of fun t q => stp.trans q
theorem g_retV (X : Stand p l e R s m args below meth c T locs cells slots) (hx : p.tables.exec = Jvm.exec) {Q : Option Value → Heap → List Loc → Prop} {rc rs : Nat} (hlk : meth.locks = false) (hret : meth.sig.returnType = none) (hd : decode c.code pc = .ok (.return_, 1)) (hQ : Q none T.heap locs) (hc : cells ≤ rc) (hs : slots ≤ rs) : Go p e below m (Fini s rc rs Q) T pc ls [] := by
  obtain ⟨fs, hr, hrun, hended, hW, hsame⟩ := X.leave (v := none) (fun _ => rfl)
  exact ⟨_, _, X.returnOut hx hret hd hr, hrun, hended, _, _, rfl, hQ, ⟨_, rfl⟩, hW, hsame.mono hc hs⟩
theorem g_ret (X : Stand p l e R s m args below meth c T locs cells slots) (hx : p.tables.exec = Jvm.exec) {Q : Option Value → Heap → List Loc → Prop} {rc rs : Nat} (hlk : meth.locks = false) {t : FieldType} {w : Value} {i : Instr} (hret : meth.sig.returnType = some t) (hn : narrow t w = w)
    (hi : (i = .ireturn ∧ (t = .int ∨ t = .boolean ∨ t = .byte ∨ t = .char ∨ t = .short) ∧ ∃ z, w = .int z) ∨ (i = .lreturn ∧ t = .long ∧ ∃ z, w = .long z) ∨ (i = .dreturn ∧ t = .double ∧ ∃ z, w = .double z) ∨ (i = .freturn ∧ t = .float ∧ ∃ z, w = .float z) ∨ (i = .areturn ∧ t.isReference = true ∧ w.isRef = true))
    (hd : decode c.code pc = .ok (i, 1)) (hQ : Q (some w) T.heap locs) (hc : cells ≤ rc) (hs : slots ≤ rs) : Go p e below m (Fini s rc rs Q) T pc ls (w :: rest) := by
  obtain ⟨fs, hr, hrun, hended, hW, hsame⟩ := X.leave (v := some w) (fun h => by rw [hret] at h; cases h)
  exact ⟨_, _, retOut X hx hret hn hi hd hr, hrun, hended, _, _, rfl, hQ, ⟨_, rfl⟩, hW, hsame.mono hc hs⟩
theorem g_retZ (X : Stand p l e R s m args below meth c T locs cells slots) (hx : p.tables.exec = Jvm.exec) {Q : Option Value → Heap → List Loc → Prop} {rc rs : Nat} (hlk : meth.locks = false) {z : Int32} (hret : meth.sig.returnType = some .boolean) (hz : z = 0 ∨ z = 1) (hd : decode c.code pc = .ok (.ireturn, 1)) (hQ : Q (some (.int z)) T.heap locs) (hc : cells ≤ rc) (hs : slots ≤ rs) : Go p e below m (Fini s rc rs Q) T pc ls (.int z :: rest) :=
  g_ret X hx hlk hret (by rcases hz with rfl | rfl <;> rfl) (Or.inl ⟨rfl, Or.inr (Or.inl rfl), _, rfl⟩) hd hQ hc hs
theorem g_retI (X : Stand p l e R s m args below meth c T locs cells slots) (hx : p.tables.exec = Jvm.exec) {Q : Option Value → Heap → List Loc → Prop} {rc rs : Nat} (hlk : meth.locks = false) {z : Int32} (hret : meth.sig.returnType = some .int) (hd : decode c.code pc = .ok (.ireturn, 1)) (hQ : Q (some (.int z)) T.heap locs) (hc : cells ≤ rc) (hs : slots ≤ rs) : Go p e below m (Fini s rc rs Q) T pc ls (.int z :: rest) :=
  g_ret X hx hlk hret rfl (Or.inl ⟨rfl, Or.inl rfl, _, rfl⟩) hd hQ hc hs
theorem g_retJ (X : Stand p l e R s m args below meth c T locs cells slots) (hx : p.tables.exec = Jvm.exec) {Q : Option Value → Heap → List Loc → Prop} {rc rs : Nat} (hlk : meth.locks = false) {z : Int64} (hret : meth.sig.returnType = some .long) (hd : decode c.code pc = .ok (.lreturn, 1)) (hQ : Q (some (.long z)) T.heap locs) (hc : cells ≤ rc) (hs : slots ≤ rs) : Go p e below m (Fini s rc rs Q) T pc ls (.long z :: rest) :=
  g_ret X hx hlk hret rfl (Or.inr (Or.inl ⟨rfl, rfl, _, rfl⟩)) hd hQ hc hs
theorem g_retD (X : Stand p l e R s m args below meth c T locs cells slots) (hx : p.tables.exec = Jvm.exec) {Q : Option Value → Heap → List Loc → Prop} {rc rs : Nat} (hlk : meth.locks = false) {z : UInt64} (hret : meth.sig.returnType = some .double) (hd : decode c.code pc = .ok (.dreturn, 1)) (hQ : Q (some (.double z)) T.heap locs) (hc : cells ≤ rc) (hs : slots ≤ rs) : Go p e below m (Fini s rc rs Q) T pc ls (.double z :: rest) :=
  g_ret X hx hlk hret rfl (Or.inr (Or.inr (Or.inl ⟨rfl, rfl, _, rfl⟩))) hd hQ hc hs
theorem g_retA (X : Stand p l e R s m args below meth c T locs cells slots) (hx : p.tables.exec = Jvm.exec) {Q : Option Value → Heap → List Loc → Prop} {rc rs : Nat} (hlk : meth.locks = false) {t : FieldType} {w : Value} (hret : meth.sig.returnType = some t) (ht : t.isReference = true) (hw : w.isRef = true) (hn : narrow t w = w) (hd : decode c.code pc = .ok (.areturn, 1)) (hQ : Q (some w) T.heap locs) (hc : cells ≤ rc) (hs : slots ≤ rs) : Go p e below m (Fini s rc rs Q) T pc ls (w :: rest) :=
  g_ret X hx hlk hret hn (Or.inr (Or.inr (Or.inr (Or.inr ⟨rfl, ht, hw⟩)))) hd hQ hc hs
end Heap
end Jvm.Own
namespace Jvm.Own
open Sem ClassFile Op Lib Jvm.Free
/-! comparisons as whole numbers -/
def cmpI (n m : Int) : Int32 := if n < m then -1 else if n = m then 0 else 1
theorem cmpI_eq {n m : Int} (h : cmpI n m = 0) : n = m := by
  unfold cmpI at h
  by_cases a : n < m
  · rw [if_pos a] at h; exact absurd h (by decide)
  · by_cases b : n = m
    · exact b
    · rw [if_neg a, if_neg b] at h; exact absurd h (by decide)
theorem cmpI_ne {n m : Int} (h : cmpI n m ≠ 0) : n ≠ m := by
  intro b; subst b; exact h (by unfold cmpI; rw [if_neg (by omega), if_pos rfl])
theorem cmpI_lt {n m : Int} (h : cmpI n m < 0) : n < m := by
  unfold cmpI at h
  by_cases a : n < m
  · exact a
  · by_cases b : n = m
    · rw [if_neg a, if_pos b] at h; exact absurd h (by decide)
    · rw [if_neg a, if_neg b] at h; exact absurd h (by decide)
theorem cmpI_ge {n m : Int} (h : cmpI n m ≥ 0) : m ≤ n := by
  by_cases a : n < m
  · unfold cmpI at h; rw [if_pos a] at h; exact absurd h (by decide)
  · omega
theorem cmpI_gt {n m : Int} (h : cmpI n m > 0) : m < n := by
  by_cases a : n < m
  · unfold cmpI at h; rw [if_pos a] at h; exact absurd h (by decide)
  · by_cases b : n = m
    · unfold cmpI at h; rw [if_neg a, if_pos b] at h; exact absurd h (by decide)
    · omega
theorem cmpI_le {n m : Int} (h : cmpI n m ≤ 0) : n ≤ m := by
  by_cases a : n < m
  · omega
  · by_cases b : n = m
    · omega
    · unfold cmpI at h; rw [if_neg a, if_neg b] at h; exact absurd h (by decide)
theorem cmpI_some (n m : Int) (o : CmpOp) : cmpValue (some (compare n m)) o = cmpI n m := by
  unfold cmpI
  rw [Jvm.FP.Core.compare_ite]
  by_cases a : n < m
  · rw [if_pos a, if_pos a]; cases o <;> rfl
  · by_cases b : n = m
    · rw [if_neg a, if_pos b, if_neg a, if_pos b]; cases o <;> rfl
    · rw [if_neg a, if_neg b, if_neg a, if_neg b]; cases o <;> rfl
theorem cmpL_I (x y : Int64) : XT.cmpL x y = cmpI x.toInt y.toInt := by
  unfold XT.cmpL cmpI
  by_cases a : y < x
  · have a' := Int64.lt_iff_toInt_lt.mp a
    rw [if_pos a, if_neg (by omega), if_neg (by omega)]
  · have a' : ¬ y.toInt < x.toInt := fun q => a (Int64.lt_iff_toInt_lt.mpr q)
    by_cases b : x = y
    · subst b; rw [if_neg a, if_pos rfl, if_neg (by omega), if_pos rfl]
    · have b' : x.toInt ≠ y.toInt := fun q => b (Int64.toInt_inj.mp q)
      rw [if_neg a, if_neg b, if_pos (by omega)]
theorem i_eq {x y : Int32} (h : x = y) : x.toInt = y.toInt := by rw [h]
theorem i_ne {x y : Int32} (h : x ≠ y) : x.toInt ≠ y.toInt := fun q => h (Int32.toInt_inj.mp q)
theorem i_lt {x y : Int32} (h : x < y) : x.toInt < y.toInt := Int32.lt_iff_toInt_lt.mp h
theorem i_ge {x y : Int32} (h : x ≥ y) : y.toInt ≤ x.toInt := Int32.le_iff_toInt_le.mp h
theorem i_gt {x y : Int32} (h : x > y) : y.toInt < x.toInt := Int32.lt_iff_toInt_lt.mp h
theorem i_le {x y : Int32} (h : x ≤ y) : x.toInt ≤ y.toInt := Int32.le_iff_toInt_le.mp h
theorem iz_eq {x : Int32} (h : x = 0) : x.toInt = 0 := by rw [h]; rfl
theorem iz_ne {x : Int32} (h : x ≠ 0) : x.toInt ≠ 0 := fun q => h (Int32.toInt_inj.mp q)
theorem iz_lt {x : Int32} (h : x < 0) : x.toInt < 0 := Int32.lt_iff_toInt_lt.mp h
theorem iz_ge {x : Int32} (h : x ≥ 0) : 0 ≤ x.toInt := Int32.le_iff_toInt_le.mp h
theorem iz_gt {x : Int32} (h : x > 0) : 0 < x.toInt := Int32.lt_iff_toInt_lt.mp h
theorem iz_le {x : Int32} (h : x ≤ 0) : x.toInt ≤ 0 := Int32.le_iff_toInt_le.mp h
theorem cmpL_ex {x y : Int64} {n m : Int} (hx : x.toInt = n) (hy : y.toInt = m) : XT.cmpL x y = cmpI n m := by rw [cmpL_I, hx, hy]
theorem small32 {y : Int32} (h : y.toBitVec.toNat < 2147483648) : y.toInt = (y.toBitVec.toNat : Int) := by
  have : y.toInt = y.toBitVec.toInt := rfl
  rw [this, BitVec.toInt_eq_toNat_cond, if_pos (by omega)]
theorem nn32 {y : Int32} (h : 0 ≤ y.toInt) : y.toBitVec.toNat < 2147483648 := by
  have e : y.toInt = y.toBitVec.toInt := rfl
  rw [e, BitVec.toInt_eq_toNat_cond] at h
  by_cases q : 2 * y.toBitVec.toNat < 2 ^ 32
  · omega
  · rw [if_neg q] at h; have := y.toBitVec.isLt; omega
theorem iand_b (x y : Int32) {M : Int} (h0 : 0 ≤ y.toInt) (hM : y.toInt ≤ M) : 0 ≤ (x &&& y).toInt ∧ (x &&& y).toInt ≤ M := by
  have h1 := nn32 h0
  have e : (x &&& y).toBitVec.toNat = x.toBitVec.toNat &&& y.toBitVec.toNat := by simp [Int32.toBitVec_and, BitVec.toNat_and]
  have hle : (x &&& y).toBitVec.toNat ≤ y.toBitVec.toNat := by rw [e]; exact Nat.and_le_right
  have e1 := small32 (y := x &&& y) (by omega)
  have e2 := small32 h1
  omega
theorem small64 {y : Int64} (h : y.toBitVec.toNat < 9223372036854775808) : y.toInt = (y.toBitVec.toNat : Int) := by
  have : y.toInt = y.toBitVec.toInt := rfl
  rw [this, BitVec.toInt_eq_toNat_cond, if_pos (by omega)]
theorem nn64 {y : Int64} (h : 0 ≤ y.toInt) : y.toBitVec.toNat < 9223372036854775808 := by
  have e : y.toInt = y.toBitVec.toInt := rfl
  rw [e, BitVec.toInt_eq_toNat_cond] at h
  by_cases q : 2 * y.toBitVec.toNat < 2 ^ 64
  · omega
  · rw [if_neg q] at h; have := y.toBitVec.isLt; omega
theorem land_b (x y : Int64) {M : Int} (h0 : 0 ≤ y.toInt) (hM : y.toInt ≤ M) : 0 ≤ (x &&& y).toInt ∧ (x &&& y).toInt ≤ M := by
  have h1 := nn64 h0
  have e : (x &&& y).toBitVec.toNat = x.toBitVec.toNat &&& y.toBitVec.toNat := by simp [Int64.toBitVec_and, BitVec.toNat_and]
  have hle : (x &&& y).toBitVec.toNat ≤ y.toBitVec.toNat := by rw [e]; exact Nat.and_le_right
  have e1 := small64 (y := x &&& y) (by omega)
  have e2 := small64 h1
  omega
theorem i32b (v : Int32) : -2147483648 ≤ v.toInt ∧ v.toInt < 2147483648 := ⟨v.le_toInt, v.toInt_lt⟩
theorem i64b (v : Int64) : -9223372036854775808 ≤ v.toInt ∧ v.toInt < 9223372036854775808 := ⟨v.le_toInt, v.toInt_lt⟩
theorem iadd_ex {x y : Int32} {n m : Int} (hx : x.toInt = n) (hy : y.toInt = m) (h : -2147483648 ≤ n + m ∧ n + m < 2147483648) : (x + y).toInt = n + m := by
  rw [Int32.toInt_add, hx, hy]; exact Int.bmod_eq_of_le (by omega) (by omega)
theorem isub_ex {x y : Int32} {n m : Int} (hx : x.toInt = n) (hy : y.toInt = m) (h : -2147483648 ≤ n - m ∧ n - m < 2147483648) : (x - y).toInt = n - m := by
  rw [Int32.toInt_sub, hx, hy]; exact Int.bmod_eq_of_le (by omega) (by omega)
theorem imul_ex {x y : Int32} {n m : Int} (hx : x.toInt = n) (hy : y.toInt = m) (h : -2147483648 ≤ n * m ∧ n * m < 2147483648) : (x * y).toInt = n * m := by
  rw [Int32.toInt_mul, hx, hy]; exact Int.bmod_eq_of_le (by omega) (by omega)
theorem ladd_ex {x y : Int64} {n m : Int} (hx : x.toInt = n) (hy : y.toInt = m) (h : -9223372036854775808 ≤ n + m ∧ n + m < 9223372036854775808) : (x + y).toInt = n + m := by
  rw [Int64.toInt_add, hx, hy]; exact Int.bmod_eq_of_le (by omega) (by omega)
theorem lsub_ex {x y : Int64} {n m : Int} (hx : x.toInt = n) (hy : y.toInt = m) (h : -9223372036854775808 ≤ n - m ∧ n - m < 9223372036854775808) : (x - y).toInt = n - m := by
  rw [Int64.toInt_sub, hx, hy]; exact Int.bmod_eq_of_le (by omega) (by omega)
theorem lmul_ex {x y : Int64} {n m : Int} (hx : x.toInt = n) (hy : y.toInt = m) (h : -9223372036854775808 ≤ n * m ∧ n * m < 9223372036854775808) : (x * y).toInt = n * m := by
  rw [Int64.toInt_mul, hx, hy]; exact Int.bmod_eq_of_le (by omega) (by omega)
theorem i2l_ex {x : Int32} {n : Int} (hx : x.toInt = n) : x.toInt64.toInt = n := by rw [Int32.toInt_toInt64, hx]
theorem pinI {args : Array Value} {s : State} {C n d K O f : String} {k : Int32} (hx : (Cond.exactly (Term.static C n d) K).value args s none s [] = some true) (he : (Cond.eq (Term.field (Term.static C n d) O f "I") (Term.int k)).value args s none s [] = some true) (hi : (Cond.initialized C).before args s = true) (hl : (Cond.laysStatic C n d).before args s = true) : ∃ r, RoadKit.Sta s s.heap C n d (.ref r) ∧ RoadKit.Exa s s.heap r K ∧ RoadKit.Fld s s.heap r O f "I" (.int k) := by
  obtain ⟨r, hr⟩ := RoadKit.exa_v hx
  refine ⟨r, RoadKit.Sta.start hr (Or.inr ⟨hi, hl⟩), RoadKit.Exa.start hr hx, ?_⟩
  obtain ⟨x, y, h1, h2, h3, h4⟩ := RoadKit.cmp_v (Or.inl he)
  rw [RoadKit.fld_at hr] at h1
  obtain rfl : Value.int k = y := Option.some.inj ((Term.int_eval k).symm.trans h2)
  obtain ⟨z, rfl⟩ := h4
  have q := RoadKit.gotT (Cond.eq_ints ((RoadKit.fld_at hr).trans h1) (Term.int_eval k)) he
  subst q
  exact RoadKit.Fld.start h1
theorem pinD {args : Array Value} {s : State} {C n d K O f : String} {k : Int64} (hx : (Cond.exactly (Term.static C n d) K).value args s none s [] = some true) (he : (Cond.eq (Term.field (Term.static C n d) O f "D") (Term.op1 .bitsD (Term.long k))).value args s none s [] = some true) (hi : (Cond.initialized C).before args s = true) (hl : (Cond.laysStatic C n d).before args s = true) : ∃ r, RoadKit.Sta s s.heap C n d (.ref r) ∧ RoadKit.Exa s s.heap r K ∧ RoadKit.Fld s s.heap r O f "D" (.double k.toUInt64) := by
  obtain ⟨r, hr⟩ := RoadKit.exa_v hx
  refine ⟨r, RoadKit.Sta.start hr (Or.inr ⟨hi, hl⟩), RoadKit.Exa.start hr hx, ?_⟩
  obtain ⟨x, y, h1, h2, h3, h4⟩ := RoadKit.cmp_v (Or.inl he)
  have h5 : (Term.op1 .bitsD (Term.long k)).eval args s none [] s = some (.double k.toUInt64) := RoadKit.op1_f (RoadKit.long_at k)
  obtain rfl : Value.double k.toUInt64 = y := Option.some.inj (h5.symm.trans h2)
  obtain ⟨z, rfl⟩ := h4
  have q : z = k.toUInt64 := by simpa [Cond.value, h1, h5] using he
  subst q
  rw [RoadKit.fld_at hr] at h1
  exact RoadKit.Fld.start h1
end Jvm.Own
namespace Jvm.Own
open Jvm.FP.Core
/-! doubles by their values: zval in units of 2^-1074 -/
/-! plain arithmetic, with the unit as a letter -/
theorem ar_mul {a b J K N M O : Nat} (hm : a * J = N * O) (gm : b * K = M * O) : a * b * (J * K) = N * M * (O * O) := by
  calc a * b * (J * K) = (a * J) * (b * K) := by ac_rfl
    _ = N * O * (M * O) := by rw [hm, gm]
    _ = _ := by ac_rfl
theorem ar_z {ab JK NM O z : Nat} (hp : 0 < JK) (q : ab * JK = NM * (O * O)) (hz : z * JK = NM * O) : ab = z * O := by
  apply Nat.eq_of_mul_eq_mul_right hp
  calc ab * JK = NM * O * O := by rw [q]; ac_rfl
    _ = z * JK * O := by rw [hz]
    _ = _ := by ac_rfl
theorem ar_i {X Y J K N M O s : Int} (hO : O ≠ 0) (hx : X * J = N * O) (hy : Y * K = M * O) (hs : s * O = X * Y) : s * (J * K) = N * M * O := by
  apply Int.eq_of_mul_eq_mul_right hO
  calc s * (J * K) * O = s * O * (J * K) := by ac_rfl
    _ = (X * J) * (Y * K) := by rw [hs]; ac_rfl
    _ = N * M * O * O := by rw [hx, hy]; ac_rfl
theorem ar_d {x y z J K I N M W O : Nat} (hp : 0 < J * K * I) (hx : x * J = N * O) (hy : y * K = M * O) (hz : z * I = W * O) (hw : N * K * I = W * M * J) : x * O = z * y := by
  apply Nat.eq_of_mul_eq_mul_right hp
  calc x * O * (J * K * I) = (x * J) * O * (K * I) := by ac_rfl
    _ = (N * K * I) * (O * O) := by rw [hx]; ac_rfl
    _ = (W * O) * (M * O) * J := by rw [hw]; ac_rfl
    _ = (z * I) * (y * K) * J := by rw [hz, hy]
    _ = _ := by ac_rfl
theorem ar_q {q X Y J K I N M W O : Int} (hY : Y ≠ 0) (hJ : J ≠ 0) (hK : K ≠ 0) (hx : X * J = N * O) (hy : Y * K = M * O) (hs : q * Y = X * O) (hw : N * K * I = W * M * J) : q * I = W * O := by
  apply Int.eq_of_mul_eq_mul_right hY
  apply Int.eq_of_mul_eq_mul_right hJ
  apply Int.eq_of_mul_eq_mul_right hK
  calc q * I * Y * J * K = (q * Y) * I * J * K := by ac_rfl
    _ = (X * J) * K * I * O := by rw [hs]; ac_rfl
    _ = (N * K * I) * O * O := by rw [hx]; ac_rfl
    _ = W * (M * O) * J * O := by rw [hw]; ac_rfl
    _ = W * O * Y * J * K := by rw [← hy]; ac_rfl
theorem ar_p {c d P Q X Y W : Nat} (e : P * Q = X * Y * W) : c * d * P * Q = c * X * (d * Y) * 1 * W := by
  rw [Nat.mul_assoc (c * d), e]; ac_rfl
theorem ar_up {X J K N O : Int} (h : X * J = N * O) : X * (J * K) = N * K * O := by
  calc X * (J * K) = X * J * K := by ac_rfl
    _ = N * O * K := by rw [h]
    _ = _ := by ac_rfl
abbrev rr (s : Bool) (A B : Nat) : Datum := roundRatio b64 s A B 0
theorem one_pow : one64 = 2 ^ 1074 := rfl
theorem one_ne : (one64 : Int) ≠ 0 := by have := one64_pos; omega
theorem fin_u {x : UInt64} {s : Bool} {c : Nat} {q : Int} (h : val64 x = .fin s c q) : sgn (val64 x) = s ∧ zmag b64 (val64 x) = c * 2 ^ (q + 1074).toNat ∧ -1074 ≤ q := by
  have hf := val64_fits x
  rw [h] at hf ⊢
  have h2 := hf.2.1
  rw [qmin_b64] at h2
  refine ⟨rfl, ?_, h2⟩
  show inUnits c q b64.qmin = _
  rw [qmin_b64]
  show c * 2 ^ (q - -1074).toNat = _
  rw [show q - -1074 = q + 1074 by omega]
theorem zv_eq (x : UInt64) : zval b64 (val64 x) = signed (sgn (val64 x)) (zmag b64 (val64 x)) := rfl
theorem ddiv_rr {x y : UInt64} (hx : DFin x) (hy : DFin y) (hz : zmag b64 (val64 y) ≠ 0) : val64 (ddiv x y) = rr (sgn (val64 x) != sgn (val64 y)) (zmag b64 (val64 x)) (zmag b64 (val64 y)) := by
  obtain ⟨s, c, q, ex⟩ := hx
  obtain ⟨t, d, r, ey⟩ := hy
  obtain ⟨h1, h2, h3⟩ := fin_u ex
  obtain ⟨g1, g2, g3⟩ := fin_u ey
  rw [g2] at hz
  have hd : d ≠ 0 := fun k => hz (by rw [k, Nat.zero_mul])
  rw [val64_ddiv, h1, h2, g1, g2, ex, ey]
  show (if d = 0 then _ else roundRatio b64 (s != t) c d (q - r)) = _
  rw [if_neg hd]
  refine roundRatio_congr (Nat.pos_of_ne_zero hd) (Nat.pos_of_ne_zero hz) ?_
  have e : 2 ^ (r + 1074).toNat * 2 ^ (q - r - 0).toNat = 2 ^ (q + 1074).toNat * 2 ^ (0 - (q - r)).toNat := by
    rw [← Nat.pow_add, ← Nat.pow_add]
    congr 1
    omega
  calc c * (d * 2 ^ (r + 1074).toNat) * 2 ^ (q - r - 0).toNat = c * d * (2 ^ (r + 1074).toNat * 2 ^ (q - r - 0).toNat) := by ac_rfl
    _ = c * d * (2 ^ (q + 1074).toNat * 2 ^ (0 - (q - r)).toNat) := by rw [e]
    _ = c * 2 ^ (q + 1074).toNat * d * 2 ^ (0 - (q - r)).toNat := by ac_rfl
theorem dmul_rr {x y : UInt64} (hx : DFin x) (hy : DFin y) : val64 (dmul x y) = rr (sgn (val64 x) != sgn (val64 y)) (zmag b64 (val64 x) * zmag b64 (val64 y)) (2 ^ 2148) := by
  obtain ⟨s, c, q, ex⟩ := hx
  obtain ⟨t, d, r, ey⟩ := hy
  obtain ⟨h1, h2, h3⟩ := fin_u ex
  obtain ⟨g1, g2, g3⟩ := fin_u ey
  rw [val64_dmul, h1, h2, g1, g2, ex, ey]
  show roundRatio b64 (s != t) (c * d) 1 (q + r) = _
  refine roundRatio_congr Nat.one_pos (Nat.two_pow_pos _) ?_
  have e : 2 ^ 2148 * 2 ^ (q + r - 0).toNat = 2 ^ (q + 1074).toNat * 2 ^ (r + 1074).toNat * 2 ^ (0 - (q + r)).toNat := by
    rw [← Nat.pow_add, ← Nat.pow_add, ← Nat.pow_add]
    congr 1
    omega
  exact ar_p e
theorem sum_rr {X Y : Datum} (fx : FP.Core.fits b64 X) (fy : FP.Core.fits b64 Y) (hx : ∃ s c q, X = .fin s c q) (hy : ∃ s c q, Y = .fin s c q) : ∃ sg, round b64 (exactSum X Y) = rr sg (zval b64 X + zval b64 Y).natAbs one64 ∧ signed sg (zval b64 X + zval b64 Y).natAbs = zval b64 X + zval b64 Y := by
  obtain ⟨s, c, q, rfl⟩ := hx
  obtain ⟨t, d, r, rfl⟩ := hy
  obtain ⟨sg, n, e, e1, e2, e3⟩ := sum_units fx fy
  have e4 : (zval b64 (.fin s c q) + zval b64 (.fin t d r)).natAbs = inUnits n e b64.qmin := by rw [← e3, natAbs_signed]
  refine ⟨sg, ?_, by rw [e4, e3]⟩
  rw [e4, e1]
  show roundRatio b64 sg n 1 e = _
  refine roundRatio_congr Nat.one_pos one64_pos ?_
  rw [qmin_b64] at e2 ⊢
  show n * one64 * 2 ^ (e - 0).toNat = n * 2 ^ (e - -1074).toNat * 1 * 2 ^ (0 - e).toNat
  rw [one_pow, Nat.mul_assoc, ← Nat.pow_add, Nat.mul_one, Nat.mul_assoc n, ← Nat.pow_add]
  congr 2
  omega
theorem dadd_rr {x y : UInt64} (hx : DFin x) (hy : DFin y) : ∃ sg, val64 (dadd x y) = rr sg (zval b64 (val64 x) + zval b64 (val64 y)).natAbs one64 ∧ signed sg (zval b64 (val64 x) + zval b64 (val64 y)).natAbs = zval b64 (val64 x) + zval b64 (val64 y) := by
  obtain ⟨sg, h1, h2⟩ := sum_rr (val64_fits x) (val64_fits y) hx hy
  exact ⟨sg, by rw [val64_dadd, h1], h2⟩
theorem dsub_rr {x y : UInt64} (hx : DFin x) (hy : DFin y) : ∃ sg, val64 (dsub x y) = rr sg (zval b64 (val64 x) - zval b64 (val64 y)).natAbs one64 ∧ signed sg (zval b64 (val64 x) - zval b64 (val64 y)).natAbs = zval b64 (val64 x) - zval b64 (val64 y) := by
  obtain ⟨t, d, r, ey⟩ := hy
  obtain ⟨sg, h1, h2⟩ := sum_rr (val64_fits x) (negate_fits (val64_fits y)) hx ⟨!t, d, r, by rw [ey]; rfl⟩
  rw [zval_negate, ← Int.sub_eq_add_neg] at h1 h2
  exact ⟨sg, by rw [val64_dsub, h1], h2⟩
/-- a whole number of units that a double holds -/
def Rep (z : Nat) : Prop := ∃ V : Datum, FP.Core.fits b64 V ∧ (∃ s c q, V = .fin s c q) ∧ zmag b64 V = z
theorem rep_pow {n k : Nat} (hn : n < 2 ^ 53) (hk : k ≤ 2045) : Rep (n * 2 ^ k) := by
  obtain ⟨c', q', h1, h2⟩ := round_exact good_b64 false (c := n) (q := (k : Int) - 1074) (by exact hn) (by rw [qmin_b64]; omega) (by show (k : Int) - 1074 ≤ 971; omega)
  refine ⟨.fin false c' q', by rw [← h1]; exact round_fits good_b64 _, ⟨_, _, _, rfl⟩, ?_⟩
  show inUnits c' q' b64.qmin = _
  rw [h2, qmin_b64]
  show n * 2 ^ ((k : Int) - 1074 - -1074).toNat = _
  congr 2
  omega
theorem rep_pow' {n k : Nat} (hn : n ≤ 2 ^ 53) (hk : k ≤ 2044) : Rep (n * 2 ^ k) := by
  by_cases h : n < 2 ^ 53
  · exact rep_pow h (by omega)
  · have e : n * 2 ^ k = 2 ^ 52 * 2 ^ (k + 1) := by
      rw [show n = 2 ^ 53 by omega, ← Nat.pow_add, ← Nat.pow_add]; congr 1; omega
    rw [e]; exact rep_pow (by decide) (by omega)
theorem rep_val {x : UInt64} (h : DFin x) : Rep (zmag b64 (val64 x)) := ⟨_, val64_fits x, h, rfl⟩
theorem in_u (A : Nat) : inUnits A 0 b64.qmin = A * one64 := by rw [qmin_b64]; rfl
theorem rr_le {s : Bool} {A B z : Nat} (hB : 0 < B) (hz : Rep z) (h : A * one64 ≤ z * B) : zmag b64 (rr s A B) ≤ z := by
  obtain ⟨V, f, ⟨t, c, q, rfl⟩, rfl⟩ := hz
  refine zmag_roundRatio_le good_b64 hB f (by intro k; cases k) (Int.le_refl _) (by rw [qmin_b64]; omega) ?_
  rw [in_u, Int.sub_self]
  simpa using h
theorem rr_ge {s : Bool} {A B z : Nat} (hB : 0 < B) (hz : Rep z) (h : z * B ≤ A * one64) : z ≤ zmag b64 (rr s A B) := by
  obtain ⟨V, f, ⟨t, c, q, rfl⟩, rfl⟩ := hz
  refine zmag_roundRatio_ge good_b64 hB f (Int.le_refl _) (by rw [qmin_b64]; omega) ?_
  rw [in_u, Int.sub_self]
  simpa using h
theorem rep_top {z : Nat} (hz : Rep z) : z < b64.tails * 2 ^ (b64.exps - 2) := by
  obtain ⟨V, f, ⟨t, c, q, rfl⟩, rfl⟩ := hz
  exact zmag_lt_top good_b64 f
theorem rr_fin {s : Bool} {A B z : Nat} (hz : Rep z) (h : zmag b64 (rr s A B) ≤ z) : ∃ c q, rr s A B = .fin s c q := by
  rcases roundRatio_cases b64 s A B 0 with k | k
  · exact k
  · rw [show rr s A B = .inf s from k] at h
    have := rep_top hz
    have e : zmag b64 (.inf s) = b64.tails * 2 ^ (b64.exps - 2) := rfl
    rw [e] at h
    exact absurd this (Nat.not_lt.mpr h)
theorem rr_sgn (s : Bool) (A B : Nat) : sgn (rr s A B) = s := sgn_roundRatio b64 s A B 0
theorem of_rr {x : UInt64} {s : Bool} {A B z : Nat} (hx : val64 x = rr s A B) (hB : 0 < B) (hz : Rep z) (h : A * one64 = z * B) : DFin x ∧ zval b64 (val64 x) = signed s z := by
  have h1 := rr_le (s := s) hB hz (Nat.le_of_eq h)
  have h2 := rr_ge (s := s) hB hz (Nat.le_of_eq h.symm)
  obtain ⟨c, q, e⟩ := rr_fin hz h1
  refine ⟨⟨s, c, q, by rw [hx, e]⟩, ?_⟩
  rw [zv_eq, hx, rr_sgn, Nat.le_antisymm h1 h2]
/-- the double is n / 2^j -/
def Dy (n : Int) (j : Nat) (x : UInt64) : Prop := DFin x ∧ zval b64 (val64 x) * ((2 ^ j : Nat) : Int) = n * (one64 : Int)
theorem p2_ne (j : Nat) : ((2 ^ j : Nat) : Int) ≠ 0 := by have := Nat.two_pow_pos j; omega
theorem Dy.mag {n : Int} {j : Nat} {x : UInt64} (h : Dy n j x) : zmag b64 (val64 x) * 2 ^ j = n.natAbs * one64 := by
  have := congrArg Int.natAbs h.2
  rw [Int.natAbs_mul, Int.natAbs_mul, zv_eq, natAbs_signed, Int.natAbs_natCast, Int.natAbs_natCast] at this
  exact this
theorem Dy.noNaN {n : Int} {j : Nat} {x : UInt64} (h : Dy n j x) : Jvm.Free.Fl.NoNaN64 x := (Jvm.Free.Fl.fin64_core.mpr h.1).noNaN
theorem rep_dy {N z j : Nat} (hn : N ≤ 2 ^ 53) (hj : j ≤ 1074) (h : z * 2 ^ j = N * one64) : Rep z := by
  have e : z = N * 2 ^ (1074 - j) := by
    apply Nat.eq_of_mul_eq_mul_right (Nat.two_pow_pos j)
    rw [h, one_pow, Nat.mul_assoc, ← Nat.pow_add]
    congr 2; omega
  rw [e]; exact rep_pow' hn (by omega)
theorem Dy.of_int {n : Int} {x : UInt64} (h : DInt n x) : Dy n 0 x := by
  refine ⟨?_, ?_⟩
  · unfold DInt at h
    cases e : val64 x with
    | nan => rw [e] at h; exact h.elim
    | inf s => rw [e] at h; exact h.elim
    | fin s c q => exact ⟨s, c, q, e⟩
  · rw [DInt_zval h]; simp
theorem Dy.i2d (v : Int32) : Dy v.toInt 0 (FP.i2d v) := Dy.of_int (i2d_int v)
theorem Dy.l2d {v : Int64} (h : v.toInt.natAbs ≤ 2 ^ 53) : Dy v.toInt 0 (FP.l2d v) := Dy.of_int (l2d_int h)
theorem Dy.up {n : Int} {j : Nat} {x : UInt64} (h : Dy n j x) (k : Nat) : Dy (n * ((2 ^ k : Nat) : Int)) (j + k) x := by
  refine ⟨h.1, ?_⟩
  rw [Nat.pow_add, Int.natCast_mul]
  exact ar_up h.2
theorem Dy.cmp {n m : Int} {j : Nat} {x y : UInt64} (h : Dy n j x) (g : Dy m j y) : FP.dcmp x y = some (compare n m) := by
  have hp : (0 : Int) < ((2 ^ j : Nat) : Int) := by have := Nat.two_pow_pos j; omega
  have ho : (0 : Int) < (one64 : Int) := by have := one64_pos; omega
  rw [show FP.dcmp x y = _ from dcmp_zval h.1.ne_nan g.1.ne_nan, ← compare_mul_pos _ _ _ hp, h.2, g.2, compare_mul_pos _ _ _ ho]
theorem Dy.add {n m : Int} {j : Nat} {x y : UInt64} (h : Dy n j x) (g : Dy m j y) (hb : (n + m).natAbs ≤ 2 ^ 53) (hj : j ≤ 1074) : Dy (n + m) j (FP.dadd x y) := by
  obtain ⟨sg, e1, e2⟩ := dadd_rr h.1 g.1
  have e : (zval b64 (val64 x) + zval b64 (val64 y)) * ((2 ^ j : Nat) : Int) = (n + m) * (one64 : Int) := by rw [Int.add_mul, Int.add_mul, h.2, g.2]
  have e' := congrArg Int.natAbs e
  rw [Int.natAbs_mul, Int.natAbs_mul, Int.natAbs_natCast, Int.natAbs_natCast] at e'
  obtain ⟨d1, d2⟩ := of_rr (x := FP.dadd x y) e1 one64_pos (rep_dy hb hj e') rfl
  exact ⟨d1, by rw [d2, e2, e]⟩
theorem Dy.sub {n m : Int} {j : Nat} {x y : UInt64} (h : Dy n j x) (g : Dy m j y) (hb : (n - m).natAbs ≤ 2 ^ 53) (hj : j ≤ 1074) : Dy (n - m) j (FP.dsub x y) := by
  obtain ⟨sg, e1, e2⟩ := dsub_rr h.1 g.1
  have e : (zval b64 (val64 x) - zval b64 (val64 y)) * ((2 ^ j : Nat) : Int) = (n - m) * (one64 : Int) := by rw [Int.sub_mul, Int.sub_mul, h.2, g.2]
  have e' := congrArg Int.natAbs e
  rw [Int.natAbs_mul, Int.natAbs_mul, Int.natAbs_natCast, Int.natAbs_natCast] at e'
  obtain ⟨d1, d2⟩ := of_rr (x := FP.dsub x y) e1 one64_pos (rep_dy hb hj e') rfl
  exact ⟨d1, by rw [d2, e2, e]⟩
theorem one_sq : one64 * one64 = 2 ^ 2148 := by rw [one_pow, ← Nat.pow_add]
theorem Dy.mul {n m : Int} {j k : Nat} {x y : UInt64} (h : Dy n j x) (g : Dy m k y) (hb : (n * m).natAbs ≤ 2 ^ 53) (hj : j + k ≤ 1074) : Dy (n * m) (j + k) (FP.dmul x y) := by
  have e1 := dmul_rr h.1 g.1
  have q1 := ar_mul h.mag g.mag
  rw [← Nat.pow_add, ← Int.natAbs_mul] at q1
  obtain ⟨z, hz⟩ : ∃ z, z = (n * m).natAbs * 2 ^ (1074 - (j + k)) := ⟨_, rfl⟩
  have hz1 : z * 2 ^ (j + k) = (n * m).natAbs * one64 := by
    rw [hz, one_pow, Nat.mul_assoc, ← Nat.pow_add]; congr 2; omega
  have hz2 := ar_z (Nat.two_pow_pos (j + k)) q1 hz1
  have hR : Rep z := by rw [hz]; exact rep_pow' hb (by omega)
  obtain ⟨d1, d2⟩ := of_rr (x := FP.dmul x y) e1 (Nat.two_pow_pos _) hR (by rw [hz2, Nat.mul_assoc, one_sq])
  refine ⟨d1, ?_⟩
  have hs : signed (sgn (val64 x) != sgn (val64 y)) z * (one64 : Int) = zval b64 (val64 x) * zval b64 (val64 y) := by rw [← signed_mul, ← hz2, signed_xor, zv_eq, zv_eq]
  rw [d2, Nat.pow_add, Int.natCast_mul]
  exact ar_i one_ne h.2 g.2 hs
theorem zm_ne {n : Int} {j : Nat} {x : UInt64} (h : Dy n j x) (hn : n ≠ 0) : zmag b64 (val64 x) ≠ 0 := by
  intro k
  have := h.mag
  rw [k, Nat.zero_mul] at this
  have h1 : n.natAbs * one64 ≠ 0 := Nat.mul_ne_zero (by omega) (by have := one64_pos; omega)
  exact h1 this.symm
theorem signed_div (s t : Bool) (a b : Nat) : signed (s != t) a * signed t b = signed s (a * b) := by rw [← signed_xor]; congr 1; cases s <;> cases t <;> rfl
theorem Dy.div {n m w : Int} {j k i : Nat} {x y : UInt64} (h : Dy n j x) (g : Dy m k y) (hm0 : m ≠ 0) (hw : n * ((2 ^ k : Nat) : Int) * ((2 ^ i : Nat) : Int) = w * m * ((2 ^ j : Nat) : Int)) (hb : w.natAbs ≤ 2 ^ 53) (hi : i ≤ 1074) : Dy w i (FP.ddiv x y) := by
  have hz0 := zm_ne g hm0
  have e1 := ddiv_rr h.1 g.1 hz0
  obtain ⟨z, hz⟩ : ∃ z, z = w.natAbs * 2 ^ (1074 - i) := ⟨_, rfl⟩
  have hz1 : z * 2 ^ i = w.natAbs * one64 := by
    rw [hz, one_pow, Nat.mul_assoc, ← Nat.pow_add]; congr 2; omega
  have hw' := congrArg Int.natAbs hw
  simp only [Int.natAbs_mul, Int.natAbs_natCast] at hw'
  have hz2 := ar_d (Nat.mul_pos (Nat.mul_pos (Nat.two_pow_pos j) (Nat.two_pow_pos k)) (Nat.two_pow_pos i)) h.mag g.mag hz1 hw'
  have hR : Rep z := by rw [hz]; exact rep_pow' hb (by omega)
  obtain ⟨d1, d2⟩ := of_rr (x := FP.ddiv x y) e1 (Nat.pos_of_ne_zero hz0) hR hz2
  refine ⟨d1, ?_⟩
  have hs : zval b64 (val64 (FP.ddiv x y)) * zval b64 (val64 y) = zval b64 (val64 x) * (one64 : Int) := by
    rw [d2, zv_eq y, signed_div, ← hz2, signed_mul, zv_eq x]
  have hy0 : zval b64 (val64 y) ≠ 0 := by
    intro q; rw [zv_eq, signed_eq_zero] at q; exact hz0 q
  exact ar_q hy0 (p2_ne j) (p2_ne k) h.2 g.2 hs hw
end Jvm.Own
namespace Jvm.Own
open Jvm.FP.Core Sem ClassFile Op Lib Jvm.Free
theorem Dy.to {n n' : Int} {j j' : Nat} {x : UInt64} (h : Dy n j x) (k : Nat) (hj : j + k = j') (hn : n * ((2 ^ k : Nat) : Int) = n') : Dy n' j' x := by subst hj hn; exact h.up k
theorem Dy.cl {n m : Int} {j : Nat} {x y : UInt64} (h : Dy n j x) (g : Dy m j y) (o : CmpOp) : cmpValue (FP.dcmp x y) o = cmpI n m := by rw [h.cmp g, cmpI_some]
theorem Dy.lit {n : Int} {j : Nat} {x : UInt64} (h1 : x.toNat % 2 ^ 63 < 9218868437227405312) (h2 : zval b64 (val64 x) * ((2 ^ j : Nat) : Int) = n * (one64 : Int)) : Dy n j x := ⟨(fin_bits x).mpr h1, h2⟩
theorem Dy.i2d' {v : Int32} {n : Int} (h : v.toInt = n) : Dy n 0 (FP.i2d v) := h ▸ Dy.i2d v
theorem Dy.l2d' {v : Int64} {n : Int} (h : v.toInt = n) (hb : n.natAbs ≤ 2 ^ 53) : Dy n 0 (FP.l2d v) := by subst h; exact Dy.l2d hb
end Jvm.Own
namespace Jvm.Own
open Jvm.FP.Core Sem ClassFile Op Lib Jvm.Free
/-! the quotient, rounded: between what stands around it -/
abbrev zv (x : UInt64) : Int := zval b64 (val64 x)
theorem Zc {x y : UInt64} (hx : DFin x) (hy : DFin y) (o : CmpOp) : cmpValue (FP.dcmp x y) o = cmpI (zv x) (zv y) := by
  rw [show FP.dcmp x y = _ from dcmp_zval hx.ne_nan hy.ne_nan, cmpI_some]
theorem Dy.same {n : Int} {j : Nat} {x y : UInt64} (h : Dy n j x) (g : Dy n j y) : zv x = zv y := by
  apply Int.eq_of_mul_eq_mul_right (p2_ne j)
  rw [h.2, g.2]
theorem sg_le (s : Bool) (z : Nat) : signed s z ≤ (z : Int) := by cases s <;> simp [signed] <;> omega
theorem sg_ge (s : Bool) (z : Nat) : -(z : Int) ≤ signed s z := by cases s <;> simp [signed] <;> omega
theorem sg_nn {s : Bool} {z : Nat} (h : 0 ≤ signed s z) : signed s z = (z : Int) := by
  cases s
  · rfl
  · have e : signed true z = -(z : Int) := rfl
    rw [e] at h ⊢; omega
theorem sg_np {s : Bool} {z : Nat} (h : signed s z ≤ 0) : signed s z = -(z : Int) := by
  cases s
  · have e : signed false z = (z : Int) := rfl
    rw [e] at h ⊢; omega
  · rfl
theorem Dy.nn {n : Int} {j : Nat} {x : UInt64} (h : Dy n j x) (hn : 0 ≤ n) : 0 ≤ zv x := by
  have hp : (0 : Int) < ((2 ^ j : Nat) : Int) := by have := Nat.two_pow_pos j; omega
  have e : zv x * ((2 ^ j : Nat) : Int) = n * (one64 : Int) := h.2
  have q : 0 ≤ zv x * ((2 ^ j : Nat) : Int) := by rw [e]; exact Int.mul_nonneg hn (Int.natCast_nonneg _)
  exact Int.nonneg_of_mul_nonneg_left q hp
theorem Dy.np {n : Int} {j : Nat} {x : UInt64} (h : Dy n j x) (hn : n ≤ 0) : zv x ≤ 0 := by
  have hp : (0 : Int) < ((2 ^ j : Nat) : Int) := by have := Nat.two_pow_pos j; omega
  have e : zv x * ((2 ^ j : Nat) : Int) = n * (one64 : Int) := h.2
  have q : 0 ≤ -zv x * ((2 ^ j : Nat) : Int) := by
    rw [Int.neg_mul, e, ← Int.neg_mul]; exact Int.mul_nonneg (by omega) (Int.natCast_nonneg _)
  have := Int.nonneg_of_mul_nonneg_left q hp
  omega
theorem Dy.pos_sgn {n : Int} {j : Nat} {x : UInt64} (h : Dy n j x) (hn : 0 < n) : sgn (val64 x) = false := by
  have h0 := h.nn (by omega)
  have hz := zm_ne h (by omega)
  rw [show zv x = signed (sgn (val64 x)) (zmag b64 (val64 x)) from rfl] at h0
  cases e : sgn (val64 x)
  · rfl
  · rw [e] at h0
    have e2 : signed true (zmag b64 (val64 x)) = -(zmag b64 (val64 x) : Int) := rfl
    rw [e2] at h0; omega
theorem zmul_le {a b A B c d P : Nat} (hP : 0 < P) (h1 : a * P = A) (h2 : b * P = B) (h : A ≤ B) : a ≤ b := by
  subst h1 h2; exact Nat.le_of_mul_le_mul_right h hP
/-- the magnitude of x / y against V's -/
theorem ar_le {x y V I K J N M v O : Nat} (hp : 0 < I * K * J) (hx : x * I = N * O) (hy : y * K = M * O) (hV : V * J = v * O) (h : N * K * J ≤ v * M * I) : x * O ≤ V * y := by
  apply Nat.le_of_mul_le_mul_right (c := I * K * J) _ hp
  calc x * O * (I * K * J) = (x * I) * (O * (K * J)) := by ac_rfl
    _ = (N * K * J) * (O * O) := by rw [hx]; ac_rfl
    _ ≤ (v * M * I) * (O * O) := Nat.mul_le_mul_right _ h
    _ = (v * O) * (M * O) * I := by ac_rfl
    _ = (V * J) * (y * K) * I := by rw [hV, hy]
    _ = V * y * (I * K * J) := by ac_rfl
theorem ar_ge {x y V I K J N M v O : Nat} (hp : 0 < I * K * J) (hx : x * I = N * O) (hy : y * K = M * O) (hV : V * J = v * O) (h : v * M * I ≤ N * K * J) : V * y ≤ x * O := by
  apply Nat.le_of_mul_le_mul_right (c := I * K * J) _ hp
  calc V * y * (I * K * J) = (V * J) * (y * K) * I := by ac_rfl
    _ = (v * O) * (M * O) * I := by rw [hV, hy]
    _ = (v * M * I) * (O * O) := by ac_rfl
    _ ≤ (N * K * J) * (O * O) := Nat.mul_le_mul_right _ h
    _ = (x * I) * (O * (K * J)) := by rw [hx]; ac_rfl
    _ = x * O * (I * K * J) := by ac_rfl
theorem p3_pos (i k j : Nat) : 0 < 2 ^ i * 2 ^ k * 2 ^ j := Nat.mul_pos (Nat.mul_pos (Nat.two_pow_pos i) (Nat.two_pow_pos k)) (Nat.two_pow_pos j)
theorem mag_le_of {n m v : Int} {i k j : Nat} {x y V : UInt64} (hx : Dy n i x) (hy : Dy m k y) (hV : Dy v j V) (h : n.natAbs * 2 ^ k * 2 ^ j ≤ v.natAbs * m.natAbs * 2 ^ i) : zmag b64 (val64 x) * one64 ≤ zmag b64 (val64 V) * zmag b64 (val64 y) := ar_le (p3_pos i k j) hx.mag hy.mag hV.mag h
theorem mag_ge_of {n m v : Int} {i k j : Nat} {x y V : UInt64} (hx : Dy n i x) (hy : Dy m k y) (hV : Dy v j V) (h : v.natAbs * m.natAbs * 2 ^ i ≤ n.natAbs * 2 ^ k * 2 ^ j) : zmag b64 (val64 V) * zmag b64 (val64 y) ≤ zmag b64 (val64 x) * one64 := ar_ge (p3_pos i k j) hx.mag hy.mag hV.mag h
theorem zv_div {n m : Int} {i k : Nat} {x y : UInt64} (hx : Dy n i x) (hy : Dy m k y) (hm : 0 < m) : zv (FP.ddiv x y) = signed (sgn (val64 x)) (zmag b64 (rr (sgn (val64 x)) (zmag b64 (val64 x)) (zmag b64 (val64 y)))) ∧ val64 (FP.ddiv x y) = rr (sgn (val64 x)) (zmag b64 (val64 x)) (zmag b64 (val64 y)) := by
  have e := ddiv_rr hx.1 hy.1 (zm_ne hy (by omega))
  rw [hy.pos_sgn hm] at e
  have es : (sgn (val64 x) != false) = sgn (val64 x) := by cases sgn (val64 x) <;> rfl
  rw [es] at e
  refine ⟨?_, e⟩
  show signed (sgn (val64 (ddiv x y))) (zmag b64 (val64 (ddiv x y))) = _
  rw [e, rr_sgn]
theorem rr_zero (s : Bool) (B : Nat) : zmag b64 (rr s 0 B) = 0 := by
  show zmag b64 (roundRatio b64 s 0 B 0) = 0
  unfold roundRatio
  rw [if_pos rfl]
  show 0 * _ = 0
  rw [Nat.zero_mul]
theorem Dy.neg_sgn {n : Int} {j : Nat} {x : UInt64} (h : Dy n j x) (hn : n < 0) : sgn (val64 x) = true := by
  have h0 := h.np (by omega)
  have hz := zm_ne h (by omega)
  rw [show zv x = signed (sgn (val64 x)) (zmag b64 (val64 x)) from rfl] at h0
  cases e : sgn (val64 x)
  · rw [e] at h0
    have e2 : signed false (zmag b64 (val64 x)) = (zmag b64 (val64 x) : Int) := rfl
    rw [e2] at h0; omega
  · rfl
theorem nat_le_of {n m v : Int} {P Q R : Nat} (hn : 0 ≤ n) (hm : 0 < m) (hv : 0 ≤ v) (h : n * (P : Int) * (Q : Int) ≤ v * m * (R : Int)) : n.natAbs * P * Q ≤ v.natAbs * m.natAbs * R := by
  apply Int.ofNat_le.mp
  simp only [Int.natCast_mul, Int.natAbs_of_nonneg hn, Int.natAbs_of_nonneg hv, Int.natAbs_of_nonneg (Int.le_of_lt hm)]
  exact h
theorem nat_ge_of {n m v : Int} {P Q R : Nat} (hn : 0 ≤ n) (hm : 0 < m) (hv : 0 ≤ v) (h : v * m * (R : Int) ≤ n * (P : Int) * (Q : Int)) : v.natAbs * m.natAbs * R ≤ n.natAbs * P * Q := by
  apply Int.ofNat_le.mp
  simp only [Int.natCast_mul, Int.natAbs_of_nonneg hn, Int.natAbs_of_nonneg hv, Int.natAbs_of_nonneg (Int.le_of_lt hm)]
  exact h
theorem neg_side {n m v P Q R : Int} (h : n * P * Q ≤ v * m * R) : (-v) * m * R ≤ (-n) * P * Q := by
  rw [Int.neg_mul, Int.neg_mul, Int.neg_mul, Int.neg_mul]; omega
theorem neg_side' {n m v P Q R : Int} (h : v * m * R ≤ n * P * Q) : (-n) * P * Q ≤ (-v) * m * R := by
  rw [Int.neg_mul, Int.neg_mul, Int.neg_mul, Int.neg_mul]; omega
theorem p2_pos (k : Nat) : (0 : Int) < ((2 ^ k : Nat) : Int) := by have := Nat.two_pow_pos k; omega
theorem div_le {n m v : Int} {i k j : Nat} {x y V : UInt64} (hx : Dy n i x) (hy : Dy m k y) (hm : 0 < m) (hV : Dy v j V) (h : n * ((2 ^ k : Nat) : Int) * ((2 ^ j : Nat) : Int) ≤ v * m * ((2 ^ i : Nat) : Int)) : zv (FP.ddiv x y) ≤ zv V := by
  obtain ⟨e, -⟩ := zv_div hx hy hm
  have hz : 0 < zmag b64 (val64 y) := Nat.pos_of_ne_zero (zm_ne hy (by omega))
  have pk := p2_pos k; have pj := p2_pos j; have pi := p2_pos i
  rw [e]
  by_cases hn : 0 ≤ n
  · have hv : 0 ≤ v := by
      have q : 0 ≤ v * m * ((2 ^ i : Nat) : Int) := Int.le_trans (Int.mul_nonneg (Int.mul_nonneg hn (Int.le_of_lt pk)) (Int.le_of_lt pj)) h
      exact Int.nonneg_of_mul_nonneg_left (Int.nonneg_of_mul_nonneg_left q pi) hm
    have hr := rr_le (s := sgn (val64 x)) hz (rep_val hV.1) (mag_le_of hx hy hV (nat_le_of hn hm hv h))
    have h0 := hV.nn hv
    rw [show zv V = signed (sgn (val64 V)) (zmag b64 (val64 V)) from rfl] at h0 ⊢
    rw [sg_nn h0]
    exact Int.le_trans (sg_le _ _) (Int.ofNat_le.mpr hr)
  · have hn' : n < 0 := by omega
    rw [hx.neg_sgn hn']
    by_cases hv : 0 ≤ v
    · have h0 := hV.nn hv
      have : signed true (zmag b64 (rr true (zmag b64 (val64 x)) (zmag b64 (val64 y)))) ≤ 0 := by
        show -((zmag b64 (rr true (zmag b64 (val64 x)) (zmag b64 (val64 y))) : Nat) : Int) ≤ 0
        omega
      omega
    · have h2 := neg_side h
      have h3 := nat_ge_of (n := -n) (v := -v) (by omega) hm (by omega) h2
      rw [Int.natAbs_neg, Int.natAbs_neg] at h3
      have hr := rr_ge (s := true) hz (rep_val hV.1) (mag_ge_of hx hy hV h3)
      have h0 := hV.np (by omega)
      rw [show zv V = signed (sgn (val64 V)) (zmag b64 (val64 V)) from rfl] at h0 ⊢
      rw [sg_np h0]
      show -((zmag b64 (rr true (zmag b64 (val64 x)) (zmag b64 (val64 y))) : Nat) : Int) ≤ _
      omega
theorem div_ge {n m v : Int} {i k j : Nat} {x y V : UInt64} (hx : Dy n i x) (hy : Dy m k y) (hm : 0 < m) (hV : Dy v j V) (h : v * m * ((2 ^ i : Nat) : Int) ≤ n * ((2 ^ k : Nat) : Int) * ((2 ^ j : Nat) : Int)) : zv V ≤ zv (FP.ddiv x y) := by
  obtain ⟨e, -⟩ := zv_div hx hy hm
  have hz : 0 < zmag b64 (val64 y) := Nat.pos_of_ne_zero (zm_ne hy (by omega))
  have pk := p2_pos k; have pj := p2_pos j; have pi := p2_pos i
  rw [e]
  by_cases hn : n ≤ 0
  · have hv : v ≤ 0 := by
      have q : 0 ≤ (-v) * m * ((2 ^ i : Nat) : Int) := Int.le_trans (Int.mul_nonneg (Int.mul_nonneg (by omega : 0 ≤ -n) (Int.le_of_lt pk)) (Int.le_of_lt pj)) (neg_side' h)
      have := Int.nonneg_of_mul_nonneg_left (Int.nonneg_of_mul_nonneg_left q pi) hm
      omega
    have h3 := nat_le_of (n := -n) (v := -v) (by omega) hm (by omega) (neg_side' h)
    rw [Int.natAbs_neg, Int.natAbs_neg] at h3
    have hr := rr_le (s := sgn (val64 x)) hz (rep_val hV.1) (mag_le_of hx hy hV h3)
    have h0 := hV.np hv
    rw [show zv V = signed (sgn (val64 V)) (zmag b64 (val64 V)) from rfl] at h0 ⊢
    rw [sg_np h0]
    exact Int.le_trans (Int.neg_le_neg (Int.ofNat_le.mpr hr)) (sg_ge _ _)
  · have hn' : 0 < n := by omega
    rw [hx.pos_sgn hn']
    by_cases hv : v ≤ 0
    · have h0 := hV.np hv
      have : 0 ≤ signed false (zmag b64 (rr false (zmag b64 (val64 x)) (zmag b64 (val64 y)))) := by
        show 0 ≤ ((zmag b64 (rr false (zmag b64 (val64 x)) (zmag b64 (val64 y))) : Nat) : Int)
        omega
      omega
    · have h3 := nat_ge_of (by omega) hm (by omega) h
      have hr := rr_ge (s := false) hz (rep_val hV.1) (mag_ge_of hx hy hV h3)
      have h0 := hV.nn (by omega)
      rw [show zv V = signed (sgn (val64 V)) (zmag b64 (val64 V)) from rfl] at h0 ⊢
      rw [sg_nn h0]
      show _ ≤ ((zmag b64 (rr false (zmag b64 (val64 x)) (zmag b64 (val64 y))) : Nat) : Int)
      omega
theorem div_fin {n m v : Int} {i k j : Nat} {x y V : UInt64} (hx : Dy n i x) (hy : Dy m k y) (hm : 0 < m) (hV : Dy v j V) (h : n.natAbs * 2 ^ k * 2 ^ j ≤ v.natAbs * m.natAbs * 2 ^ i) : DFin (FP.ddiv x y) := by
  obtain ⟨-, e⟩ := zv_div hx hy hm
  have hz : 0 < zmag b64 (val64 y) := Nat.pos_of_ne_zero (zm_ne hy (by omega))
  obtain ⟨c, q, r⟩ := rr_fin (rep_val hV.1) (rr_le (s := sgn (val64 x)) hz (rep_val hV.1) (mag_le_of hx hy hV h))
  exact ⟨_, c, q, by rw [show val64 (FP.ddiv x y) = _ from e, r]⟩
theorem DFin.nn64 {x : UInt64} (h : DFin x) : Jvm.Free.Fl.NoNaN64 x := (Jvm.Free.Fl.fin64_core.mpr h).noNaN
/-- a quotient of whole numbers that are small: it is finite -/
theorem div_whole {n m : Int} {x y : UInt64} (hx : Dy n 0 x) (hy : Dy m 0 y) (hm : 0 < m) : DFin (FP.ddiv x y) := by
  refine div_fin hx hy hm hx ?_
  have : 1 ≤ m.natAbs := by omega
  simp only [Nat.pow_zero, Nat.mul_one]
  exact Nat.le_mul_of_pos_right _ (by omega)
end Jvm.Own
namespace Jvm.Own
open Sem ClassFile Op Lib Jvm.Stand Jvm.Free Jvm.LawKit Jvm.RoadKit
/-! arrays whose whole list of values is known -/
def Ars (Z : State) (h : Heap) (a : Addr) (ty : FieldType) (vs : List Value) : Prop := ∃ c : Cell, Arr Z h a c ty ∧ c.slots.toList = vs ∧ ∀ v ∈ vs, fits ty v = true
section ArsFacts
variable {Z : State} {h h' : Heap} {a b : Addr} {ty : FieldType} {vs : List Value} {sl : Nat} {w : Value} {ws : List Addr}
theorem Ars.ext (E : Ext h h') (F : Ars Z h a ty vs) : Ars Z h' a ty vs := by
  obtain ⟨c, A, r⟩ := F; exact ⟨c, A.ext E, r⟩
theorem Ars.other (W : Wr h h' b sl w) (F : Ars Z h a ty vs) (q : a ≠ b) : Ars Z h' a ty vs := by
  obtain ⟨c, A, r⟩ := F; exact ⟨c, A.other W q, r⟩
theorem Ars.keep (F : Ars Z h a ty vs) (K : Keep h h' ws) (q : a ∉ ws) : Ars Z h' a ty vs := by
  obtain ⟨c, A, r⟩ := F; exact ⟨c, ⟨K.2.1 _ _ A.1 q, A.2⟩, r⟩
theorem Ars.lt (F : Ars Z h a ty vs) : a < h.size := by
  obtain ⟨c, A, r⟩ := F; exact A.lt
theorem Ars.set (W : Wr h h' a sl w) (F : Ars Z h a ty vs) (hw : fits ty w = true) : Ars Z h' a ty (vs.set sl w) := by
  obtain ⟨c, A, r1, r2⟩ := F
  refine ⟨_, A.same W, ?_, ?_⟩
  · show (c.slots.setIfInBounds sl w).toList = _
    rw [Array.toList_setIfInBounds, r1]
  · intro v hv
    rcases List.mem_or_eq_of_mem_set hv with q | rfl
    · exact r2 v q
    · exact hw
theorem Ars.new {cA : ClassId} {n : Int32} {k : Nat} (A : Arr Z h a (newA cA ty n) ty) (hk : n.toNatClampNeg = k) (hf : fits ty (defaultValue ty) = true) : Ars Z h a ty (List.replicate k (defaultValue ty)) := by
  subst hk
  refine ⟨_, A, ?_, ?_⟩
  · show (Array.replicate _ _).toList = _
    rw [Array.toList_replicate]
  · intro v hv; rw [List.eq_of_mem_replicate hv]; exact hf
theorem Ars.size {c : Cell} (r : c.slots.toList = vs) : c.slots.size = vs.length := by rw [← r, Array.length_toList]
theorem Ars.at {c : Cell} (r : c.slots.toList = vs) {i : Nat} {v : Value} (hv : vs[i]? = some v) : c.slots[i]? = some v ∧ i < c.slots.size := by
  rw [← r, Array.getElem?_toList] at hv
  exact ⟨hv, (Array.getElem?_eq_some_iff.mp hv).1⟩
end ArsFacts
section ArsSteps
variable {p : Program} {l : Launch} {e : Env} {R : Room} {s : State} {m : MethodId} {args : Array Value} {below : List Frame} {meth : Method} {c : Code} {T : State} {locs : List Loc} {cells slots : Nat} {Z : State} {a0 : Array Value} {h : Heap} {b : ByteArray} {F : Outcome → State → Prop} {pc pc' : Nat} {ls : Array Slot} {rest : List Value} {a : Addr} {vs : List Value} {v : Value} {j : Int32} {i : Nat}
theorem g_len (X : Stand p l e R s m args below meth c T locs cells slots) (hx : p.tables.exec = Jvm.exec) (hZ : Z.Warmed39 s.vm) (eT : T.heap = h) {ty : FieldType} (V : Ars Z h a ty vs) {n : Int32} (hn : vs.length.toInt32 = n) (hd : decode c.code pc = .ok (.arraylength, 1)) (hp : pc + 1 = pc') (k : Go p e below m F T pc' ls (.int n :: rest)) : Go p e below m F T pc ls (.ref a :: rest) := by
  subst hp hn
  obtain ⟨cl, A, r1, r2⟩ := V
  rw [← Ars.size r1] at k
  exact k.of fun t k => X.arraylength hx (by rw [eT]; exact A.1) (State.isArrayOf_alike hZ.alike A.2.1) (g := mkF m pc ls (.ref a :: rest)) rfl rfl hd t k
theorem g_iaload (X : Stand p l e R s m args below meth c T locs cells slots) (hx : p.tables.exec = Jvm.exec) (hZ : Z.Warmed39 s.vm) (eT : T.heap = h) (V : Ars Z h a .int vs) (hj : ¬ j < 0) (hi : j.toNatClampNeg = i) (hv : vs[i]? = some v) (hd : decode c.code pc = .ok (.iaload, 1)) (hp : pc + 1 = pc') (k : Go p e below m F T pc' ls (v :: rest)) : Go p e below m F T pc ls (.int j :: .ref a :: rest) := by
  subst hp hi
  obtain ⟨cl, A, r1, r2⟩ := V
  obtain ⟨q1, q2⟩ := Ars.at r1 hv
  exact k.of fun t k => X.iaload hx (by rw [eT]; exact A.1) (State.isArrayOf_alike hZ.alike A.2.1) A.2.2 (fun q => q.elim hj fun q => absurd q2 (Nat.not_lt.mpr q)) q1 (g := mkF m pc ls (.int j :: .ref a :: rest)) rfl rfl hd t k
theorem g_caload (X : Stand p l e R s m args below meth c T locs cells slots) (hx : p.tables.exec = Jvm.exec) (hZ : Z.Warmed39 s.vm) (eT : T.heap = h) (V : Ars Z h a .char vs) (hj : ¬ j < 0) (hi : j.toNatClampNeg = i) (hv : vs[i]? = some v) (hd : decode c.code pc = .ok (.caload, 1)) (hp : pc + 1 = pc') (k : Go p e below m F T pc' ls (v :: rest)) : Go p e below m F T pc ls (.int j :: .ref a :: rest) := by
  subst hp hi
  obtain ⟨cl, A, r1, r2⟩ := V
  obtain ⟨q1, q2⟩ := Ars.at r1 hv
  exact k.of fun t k => X.caload hx (by rw [eT]; exact A.1) (State.isArrayOf_alike hZ.alike A.2.1) A.2.2 (fun q => q.elim hj fun q => absurd q2 (Nat.not_lt.mpr q)) q1 (g := mkF m pc ls (.int j :: .ref a :: rest)) rfl rfl hd t k
theorem g_baload (X : Stand p l e R s m args below meth c T locs cells slots) (hx : p.tables.exec = Jvm.exec) (hZ : Z.Warmed39 s.vm) (eT : T.heap = h) (V : Ars Z h a .byte vs) (hj : ¬ j < 0) (hi : j.toNatClampNeg = i) (hv : vs[i]? = some v) (hd : decode c.code pc = .ok (.baload, 1)) (hp : pc + 1 = pc') (k : Go p e below m F T pc' ls (v :: rest)) : Go p e below m F T pc ls (.int j :: .ref a :: rest) := by
  subst hp hi
  obtain ⟨cl, A, r1, r2⟩ := V
  obtain ⟨q1, q2⟩ := Ars.at r1 hv
  exact k.of fun t k => X.baloadBytes hx (by rw [eT]; exact A.1) (State.isArrayOf_alike hZ.alike A.2.1) A.2.2 (fun q => q.elim hj fun q => absurd q2 (Nat.not_lt.mpr q)) q1 (g := mkF m pc ls (.int j :: .ref a :: rest)) rfl rfl hd t k
theorem g_daload (X : Stand p l e R s m args below meth c T locs cells slots) (hx : p.tables.exec = Jvm.exec) (hZ : Z.Warmed39 s.vm) (eT : T.heap = h) (V : Ars Z h a .double vs) (hj : ¬ j < 0) (hi : j.toNatClampNeg = i) (hv : vs[i]? = some v) (hd : decode c.code pc = .ok (.daload, 1)) (hp : pc + 1 = pc') (k : Go p e below m F T pc' ls (v :: rest)) : Go p e below m F T pc ls (.int j :: .ref a :: rest) := by
  subst hp hi
  obtain ⟨cl, A, r1, r2⟩ := V
  obtain ⟨q1, q2⟩ := Ars.at r1 hv
  exact k.of fun t k => X.daload hx (by rw [eT]; exact A.1) (State.isArrayOf_alike hZ.alike A.2.1) A.2.2 (fun q => q.elim hj fun q => absurd q2 (Nat.not_lt.mpr q)) q1 (g := mkF m pc ls (.int j :: .ref a :: rest)) rfl rfl hd t k
theorem g_laload (X : Stand p l e R s m args below meth c T locs cells slots) (hx : p.tables.exec = Jvm.exec) (hZ : Z.Warmed39 s.vm) (eT : T.heap = h) (V : Ars Z h a .long vs) (hj : ¬ j < 0) (hi : j.toNatClampNeg = i) (hv : vs[i]? = some v) (hd : decode c.code pc = .ok (.laload, 1)) (hp : pc + 1 = pc') (k : Go p e below m F T pc' ls (v :: rest)) : Go p e below m F T pc ls (.int j :: .ref a :: rest) := by
  subst hp hi
  obtain ⟨cl, A, r1, r2⟩ := V
  obtain ⟨q1, q2⟩ := Ars.at r1 hv
  exact k.of fun t k => X.laload hx (by rw [eT]; exact A.1) (State.isArrayOf_alike hZ.alike A.2.1) A.2.2 (fun q => q.elim hj fun q => absurd q2 (Nat.not_lt.mpr q)) q1 (g := mkF m pc ls (.int j :: .ref a :: rest)) rfl rfl hd t k
theorem g_aaload (X : Stand p l e R s m args below meth c T locs cells slots) (hx : p.tables.exec = Jvm.exec) (hZ : Z.Warmed39 s.vm) (eT : T.heap = h) {ty : FieldType} (hty : ty.isReference = true) (V : Ars Z h a ty vs) (hj : ¬ j < 0) (hi : j.toNatClampNeg = i) (hv : vs[i]? = some v) (hd : decode c.code pc = .ok (.aaload, 1)) (hp : pc + 1 = pc') (k : Go p e below m F T pc' ls (v :: rest)) : Go p e below m F T pc ls (.int j :: .ref a :: rest) := by
  subst hp hi
  obtain ⟨cl, A, r1, r2⟩ := V
  obtain ⟨q1, q2⟩ := Ars.at r1 hv
  exact k.of fun t k => X.aaload hx (by rw [eT]; exact A.1) (State.isArrayOf_alike hZ.alike A.2.1) hty A.2.2 (fun q => q.elim hj fun q => absurd q2 (Nat.not_lt.mpr q)) q1 (g := mkF m pc ls (.int j :: .ref a :: rest)) rfl rfl hd t k
theorem g_iastore (X : Stand p l e R s m args below meth c T locs cells slots) (hx : p.tables.exec = Jvm.exec) (hZ : Z.Warmed39 s.vm) (eT : T.heap = h) {x : Int32} (V : Ars Z h a .int vs) (hj : ¬ j < 0) (hi : j.toNatClampNeg = i) (hb : i < vs.length) (hv : (.int x) = v) (hd : decode c.code pc = .ok (.iastore, 1)) (hp : pc + 1 = pc') (k : ∀ T' h', Stand p l e R s m args below meth c T' (locs ++ [⟨a, i⟩]) cells slots → T'.heap = h' → Wr h h' a i v → Ars Z h' a .int (vs.set i v) → Go p e below m F T' pc' ls rest) : Go p e below m F T pc ls (.int x :: .int j :: .ref a :: rest) := by
  subst hp hi hv
  obtain ⟨cl, A, r1, r2⟩ := V
  obtain ⟨T', h', X', e', W', st⟩ := stI X hx hZ eT A (j := j) (x := x) (fun q => q.elim hj fun q => absurd (Ars.size r1 ▸ hb) (Nat.not_lt.mpr q)) (g := mkF m pc ls (.int x :: .int j :: .ref a :: rest)) rfl rfl hd
  exact (k T' h' X' e' W' (Ars.set W' ⟨cl, A, r1, r2⟩ rfl)).of st
theorem g_castore (X : Stand p l e R s m args below meth c T locs cells slots) (hx : p.tables.exec = Jvm.exec) (hZ : Z.Warmed39 s.vm) (eT : T.heap = h) {x : Int32} (V : Ars Z h a .char vs) (hj : ¬ j < 0) (hi : j.toNatClampNeg = i) (hb : i < vs.length) (hv : (.int (nar .char x)) = v) (hd : decode c.code pc = .ok (.castore, 1)) (hp : pc + 1 = pc') (k : ∀ T' h', Stand p l e R s m args below meth c T' (locs ++ [⟨a, i⟩]) cells slots → T'.heap = h' → Wr h h' a i v → Ars Z h' a .char (vs.set i v) → Go p e below m F T' pc' ls rest) : Go p e below m F T pc ls (.int x :: .int j :: .ref a :: rest) := by
  subst hp hi hv
  obtain ⟨cl, A, r1, r2⟩ := V
  obtain ⟨T', h', X', e', W', st⟩ := stC X hx hZ eT A (j := j) (x := x) (fun q => q.elim hj fun q => absurd (Ars.size r1 ▸ hb) (Nat.not_lt.mpr q)) (g := mkF m pc ls (.int x :: .int j :: .ref a :: rest)) rfl rfl hd
  exact (k T' h' X' e' W' (Ars.set W' ⟨cl, A, r1, r2⟩ (fits_nar_char x))).of st
theorem g_bastore (X : Stand p l e R s m args below meth c T locs cells slots) (hx : p.tables.exec = Jvm.exec) (hZ : Z.Warmed39 s.vm) (eT : T.heap = h) {x : Int32} (V : Ars Z h a .byte vs) (hj : ¬ j < 0) (hi : j.toNatClampNeg = i) (hb : i < vs.length) (hv : (.int (nar .byte x)) = v) (hd : decode c.code pc = .ok (.bastore, 1)) (hp : pc + 1 = pc') (k : ∀ T' h', Stand p l e R s m args below meth c T' (locs ++ [⟨a, i⟩]) cells slots → T'.heap = h' → Wr h h' a i v → Ars Z h' a .byte (vs.set i v) → Go p e below m F T' pc' ls rest) : Go p e below m F T pc ls (.int x :: .int j :: .ref a :: rest) := by
  subst hp hi hv
  obtain ⟨cl, A, r1, r2⟩ := V
  obtain ⟨T', h', X', e', W', st⟩ := stB X hx hZ eT A (j := j) (x := x) (fun q => q.elim hj fun q => absurd (Ars.size r1 ▸ hb) (Nat.not_lt.mpr q)) (g := mkF m pc ls (.int x :: .int j :: .ref a :: rest)) rfl rfl hd
  exact (k T' h' X' e' W' (Ars.set W' ⟨cl, A, r1, r2⟩ (fits_nar_byte x))).of st
theorem g_dastore (X : Stand p l e R s m args below meth c T locs cells slots) (hx : p.tables.exec = Jvm.exec) (hZ : Z.Warmed39 s.vm) (eT : T.heap = h) {x : UInt64} (V : Ars Z h a .double vs) (hj : ¬ j < 0) (hi : j.toNatClampNeg = i) (hb : i < vs.length) (hv : (.double x) = v) (hd : decode c.code pc = .ok (.dastore, 1)) (hp : pc + 1 = pc') (k : ∀ T' h', Stand p l e R s m args below meth c T' (locs ++ [⟨a, i⟩]) cells slots → T'.heap = h' → Wr h h' a i v → Ars Z h' a .double (vs.set i v) → Go p e below m F T' pc' ls rest) : Go p e below m F T pc ls (.double x :: .int j :: .ref a :: rest) := by
  subst hp hi hv
  obtain ⟨cl, A, r1, r2⟩ := V
  obtain ⟨T', h', X', e', W', st⟩ := stD X hx hZ eT A (j := j) (x := x) (fun q => q.elim hj fun q => absurd (Ars.size r1 ▸ hb) (Nat.not_lt.mpr q)) (g := mkF m pc ls (.double x :: .int j :: .ref a :: rest)) rfl rfl hd
  exact (k T' h' X' e' W' (Ars.set W' ⟨cl, A, r1, r2⟩ rfl)).of st
theorem g_lastore (X : Stand p l e R s m args below meth c T locs cells slots) (hx : p.tables.exec = Jvm.exec) (hZ : Z.Warmed39 s.vm) (eT : T.heap = h) {x : Int64} (V : Ars Z h a .long vs) (hj : ¬ j < 0) (hi : j.toNatClampNeg = i) (hb : i < vs.length) (hv : (.long x) = v) (hd : decode c.code pc = .ok (.lastore, 1)) (hp : pc + 1 = pc') (k : ∀ T' h', Stand p l e R s m args below meth c T' (locs ++ [⟨a, i⟩]) cells slots → T'.heap = h' → Wr h h' a i v → Ars Z h' a .long (vs.set i v) → Go p e below m F T' pc' ls rest) : Go p e below m F T pc ls (.long x :: .int j :: .ref a :: rest) := by
  subst hp hi hv
  obtain ⟨cl, A, r1, r2⟩ := V
  obtain ⟨T', h', X', e', W', st⟩ := stJ X hx hZ eT A (j := j) (x := x) (fun q => q.elim hj fun q => absurd (Ars.size r1 ▸ hb) (Nat.not_lt.mpr q)) (g := mkF m pc ls (.long x :: .int j :: .ref a :: rest)) rfl rfl hd
  exact (k T' h' X' e' W' (Ars.set W' ⟨cl, A, r1, r2⟩ rfl)).of st
theorem g_newarray (X : Stand p l e R s m args below meth c T locs cells slots) (hx : p.tables.exec = Jvm.exec) (hZ : Z.Warmed39 s.vm) (eT : T.heap = h) {aty : ArrayType} (w : (Cond.arrayClass (newarray.typeOf aty)).before a0 Z = true) {n : Int32} {k0 : Nat} (hn : ¬ n < 0) (hk : n.toNatClampNeg = k0) (hb : k0 * 8 ≤ 536870912) (hc : cells + 1 ≤ R.cells) (hl : slots + k0 ≤ R.slots) {ad : String} (had : "[" ++ (newarray.typeOf aty).toString = ad) (hf : fits (newarray.typeOf aty) (defaultValue (newarray.typeOf aty)) = true) (hd : decode c.code pc = .ok (.newarray aty, 2)) (hp : pc + 2 = pc')
    (k : ∀ T' h' a, Stand p l e R s m args below meth c T' locs (cells + 1) (slots + k0) → T'.heap = h' → Ext h h' → a = h.size → Ars Z h' a (newarray.typeOf aty) (List.replicate k0 (defaultValue (newarray.typeOf aty))) → Exa Z h' a ad → Go p e below m F T' pc' ls (.ref a :: rest)) : Go p e below m F T pc ls (.int n :: rest) := by
  subst hp
  obtain ⟨T', h', cA, X', e', E', A', Ea', st⟩ := newPE X hx hZ w eT (g := mkF m pc ls (.int n :: rest)) rfl hd rfl hn (cap := k0) (by omega) hb hc hl had
  exact (k T' h' _ X' e' E' rfl (Ars.new A' hk hf) Ea').of st
end ArsSteps
end Jvm.Own
namespace Jvm.Own
open Sem ClassFile Op Lib Jvm.Stand Jvm.Free Jvm.LawKit Jvm.RoadKit
theorem Old.ext' {Z : State} {h h' : Heap} {n0 : Nat} (E : Ext h h') (X : Old Z n0 h) : Old Z n0 h' := X.ext E
end Jvm.Own
namespace Jvm.Own
open Sem ClassFile Op Lib Bundle Jvm.Stand Jvm.Free Jvm.LawKit Jvm.RoadKit
def FinH (Z : State) (EL : List (String × Nat)) (s : State) (h : Heap) (rc rs : Nat) (Q : Option Value → Heap → List Loc → Prop) (o : Outcome) (V : State) : Prop := ∃ v L, o = .returned v ∧ Q v V.heap L ∧ CHr Z EL s.vm h V.vm V.heap ∧ ReturnedEndW s o V L rc rs
abbrev CtrH (l : Launch) (Z : State) (EL : List (String × Nat)) (y : MethodName) (bytes : ByteArray) (maxL : Nat) (ret : Option FieldType) (ws : List Cond) (rm : Room) (as' : Array Value) (h : Heap) (Q : Option Value → Heap → List Loc → Prop) : Prop :=
  MetFree l y (head1 (Cond.code y bytes maxL ret :: ws) rm) (fun a U => a = as' ∧ Z.Warmed39 U.vm ∧ U.heap = h ∧ CHv Z EL U.vm h) (fun _ _ _ _ _ => True) (fun _ U o U' => ∃ v L, o = .returned v ∧ Q v U'.heap L ∧ CHr Z EL U.vm U.heap U'.vm U'.heap ∧ ReturnedEndW U o U' L rm.cells rm.slots)
theorem enterH {l : Launch} {Z : State} {EL : List (String × Nat)} {y : MethodName} {bytes : ByteArray} {maxL : Nat} {ret : Option FieldType} {ws : List Cond} {rm : Room} {as' : Array Value} {h : Heap} {Q : Option Value → Heap → List Loc → Prop} (hpn : plainFor y = true)
    (body : ∀ (p : Program) (e : Env) (s : State) (m : MethodId) (below : List Frame) (meth : Method) (c : Code) (T : State), Stand p l e rm (s.setVm s.vm) m as' below meth c T [] 0 0 → p.tables.exec = Jvm.exec → c.code = bytes → c.maxLocals = maxL → meth.sig.returnType = ret → meth.locks = false → Z.Warmed39 (s.setVm s.vm).vm → (s.setVm s.vm).vm.findClass y.cls = some m.cls → meth.name = y.name → T.heap = h → CHr Z EL s.vm h s.vm h → s.Since s.vm 0 →
      ∃ V o, Steps p.tables e below (T.setTop (entryFrame m as' maxL)) V ∧ V.status = .running ∧ Ended V below o ∧ FinH Z EL s h rm.cells rm.slots Q o V) : CtrH l Z EL y bytes maxL ret ws rm as' h Q := by
  refine MetFree.of_bodySF hpn hisR ?_
  intro p e s m args below meth c s₁ Bd hml0 hP hK
  obtain ⟨rfl, hZ, hh, hC⟩ := hP
  obtain ⟨V, o, r1, r2, r3, v, L, r4, r5, r6, r7⟩ := body p e s m below meth c s₁ (Stand.of_body Bd) Bd.exec Bd.bytes hml0 Bd.returns Bd.notSynchronized hZ (findClass_of_methodNamed Bd.named) (name_of_methodNamed Bd.named Bd.method).1 (by rw [← hh, Bd.state]; rfl) (CHr.refl hC) (State.WarmedH.since (State.WarmedH.refl s) 0)
  exact ⟨V, o, r1, r2, r3, v, L, r4, r5, by rw [hh]; exact r6, r7⟩
theorem Safe.nil {Z : State} {vm : Vm} {h : Heap} {x : Addr} : Safe Z [] vm h x := fun ⟨_, hp, _⟩ => absurd hp List.not_mem_nil
theorem CHv.nil {Z : State} {vm : Vm} {h : Heap} : CHv Z [] vm h := fun _ hp => absurd hp List.not_mem_nil
theorem CHr.nil {Z : State} {vm vm1 : Vm} {h h' : Heap} (q : h.size ≤ h'.size) : CHr Z [] vm h vm1 h' := ⟨CHv.nil, q, fun _ ⟨_, hp, _⟩ => absurd hp List.not_mem_nil⟩
section HSteps
variable {p : Program} {l : Launch} {e : Env} {R : Room} {s : State} {m : MethodId} {args : Array Value} {below : List Frame} {meth : Method} {c : Code} {T : State} {locs : List Loc} {cells slots : Nat} {Z : State} {a0 : Array Value} {EL : List (String × Nat)} {h hA : Heap} {vm0 vmA : Vm} {F : Outcome → State → Prop} {pc pc' : Nat} {ls : Array Slot} {rest : List Value}
theorem g_ldcO (X : Stand p l e R (s.setVm vm0) m args below meth c T locs cells slots) (hx : p.tables.exec = Jvm.exec) (hZ : Z.Warmed39 (s.setVm vm0).vm) {own text : String} {i : Nat} (hown : (s.setVm vm0).vm.findClass own = some m.cls) (w : (Cond.stringLink own i text).before a0 Z = true) (wS : ∀ a ∈ Bundle.stringAtoms, a.before a0 Z = true) (eT : T.heap = h) {k0 : Nat} (hS : s.Since vm0 k0) (hk : k0 ≤ h.size) (hEL : EW Z a0 EL) (C : CHr Z EL vmA hA vm0 h) (hd : decode c.code pc = .ok (.ldc i, 2)) (hp : pc + 2 = pc') {n : Nat} (hn : 4 * text.toList.length ≤ n) (hbig : n ≤ 536870912) (hc : cells + 2 ≤ R.cells) (hl : slots + (n + 4) ≤ R.slots)
    (k : ∀ a T' h' k1, Stand p l e R (s.setVm T'.vm) m args below meth c T' locs (cells + 2) (slots + (n + 4)) → T'.heap = h' → Ext h h' → s.Since T'.vm k1 → k1 ≤ h'.size → Z.Warmed39 (s.setVm T'.vm).vm → (s.setVm T'.vm).vm.findClass own = some m.cls → CHr Z EL vmA hA T'.vm h' → (∀ x, x < h.size → Safe Z EL vm0 h x → Safe Z EL T'.vm h' x) → Go p e below m F T' pc' ls (.ref a :: rest)) : Go p e below m F T pc ls rest := by
  subst hp
  obtain ⟨a, T', h', k1, X', e', E', hS', hk', hZ', ho', C', -, st⟩ := ldcOH X hx hZ hown w wS eT hS hk hEL C.1 (g := mkF m pc ls rest) rfl hd hn hbig hc hl
  exact (k a T' h' k1 X' e' E' hS' hk' hZ' ho' (C.trans C') (fun x q S => C'.safe q S)).of st
theorem g_ldcR (X : Stand p l e R (s.setVm vm0) m args below meth c T locs cells slots) (hx : p.tables.exec = Jvm.exec) (hZ : Z.Warmed39 (s.setVm vm0).vm) {own text : String} {i : Nat} (hown : (s.setVm vm0).vm.findClass own = some m.cls) (w : (Cond.stringLink own i text).before a0 Z = true) (wS : ∀ a ∈ Bundle.stringAtoms, a.before a0 Z = true) (eT : T.heap = h) {k0 : Nat} (hS : s.Since vm0 k0) (hk : k0 ≤ h.size) (hEL : EW Z a0 EL) (C : CHr Z EL vmA hA vm0 h) (hmem : (own, i) ∈ EL) {vs : List Value} {z : Int32} (ht : (∀ c ∈ text.toList, c.toNat < 256) ∧ text.toList.map (fun c => Value.int (Jvm.Lit.byteI c.toNat.toUInt16)) = vs) (hz : ¬ z < 0) (hlz : z.toNatClampNeg = vs.length) (hd : decode c.code pc = .ok (.ldc i, 2)) (hp : pc + 2 = pc') {n : Nat} (hn : 4 * text.toList.length ≤ n) (hbig : n ≤ 536870912) (hc : cells + 2 ≤ R.cells) (hl : slots + (n + 4) ≤ R.slots)
    (k : ∀ a T' h' k1 b kb, Stand p l e R (s.setVm T'.vm) m args below meth c T' locs (cells + 2) (slots + (n + 4)) → T'.heap = h' → Ext h h' → s.Since T'.vm k1 → k1 ≤ h'.size → Z.Warmed39 (s.setVm T'.vm).vm → (s.setVm T'.vm).vm.findClass own = some m.cls → CHr Z EL vmA hA T'.vm h' → (∀ x, x < h.size → Safe Z EL vm0 h x → Safe Z EL T'.vm h' x) → Exa Z h' a "java/lang/String" → Fld Z h' a "java/lang/String" "coder" "B" (.int 0) → Fld Z h' a "java/lang/String" "value" "[B" (.ref b) → Arv Z h' b kb .byte z vs (.int 0) → (∀ x, Safe Z EL T'.vm h' x → x ≠ a ∧ x ≠ b) → Go p e below m F T' pc' ls (.ref a :: rest)) : Go p e below m F T pc ls rest := by
  subst hp
  obtain ⟨a, T', h', k1, b, kb, X', e', E', hS', hk', hZ', ho', x1, x2, x3, x4, -, -, C', -, x5, st⟩ := ldcCH X hx hZ hown w wS eT hS hk hEL hmem C.1 ht hz hlz (g := mkF m pc ls rest) rfl hd hn hbig hc hl
  exact (k a T' h' k1 b kb X' e' E' hS' hk' hZ' ho' (C.trans C') (fun x q S => C'.safe q S) x1 x2 x3 x4 x5).of st
theorem g_staticH (X : Stand p l e R (s.setVm vm0) m args below meth c T locs cells slots) (hx : p.tables.exec = Jvm.exec) (hZ : Z.Warmed39 (s.setVm vm0).vm) {own : String} {i : Nat} {y : MethodName} {bytes : ByteArray} {maxL : Nat} {ret : Option FieldType} {rm : Room} {Q : Option Value → Heap → List Loc → Prop} (hown : (s.setVm vm0).vm.findClass own = some m.cls) (w1 : (Cond.methodLink own i y).before a0 Z = true) (w2 : (Cond.static y).before a0 Z = true) (w3 : (Cond.initialized y.cls).before a0 Z = true) (w4 : (Cond.code y bytes maxL ret).before a0 Z = true) (hy : y.cls ≠ "java/lang/invoke/MethodHandle" ∧ y.cls ≠ "java/lang/invoke/VarHandle") {k0 : Nat} (hS : s.Since vm0 k0) (hk : k0 ≤ h.size) (hEL : EW Z a0 EL) (C : CHr Z EL vmA hA vm0 h)
    {argsL st : List Value} {ps : List FieldType} {rt : Option FieldType} (hM : CtrH l Z EL y bytes maxL ret [] rm argsL.toArray h Q) (hpd : parseMethodDescriptor y.desc = some ⟨ps, rt⟩) (hlen : argsL.length = ps.length) (hst : st = argsL.reverse ++ rest) (hd : decode c.code pc = .ok (.invokestatic i, 3)) (eT : T.heap = h) (hsize : ls.size = c.maxLocals) (hp : pc + 3 = pc') (hf : rm.frames + 1 ≤ R.frames) {W : Nat} (hW : 2 * 0 + (rest.map fun v => v.category).sum ≤ W) (hl : W + (maxL + 11) + rm.locals ≤ R.locals) (hc : cells + rm.cells ≤ R.cells) (hs : slots + rm.slots ≤ R.slots)
    (k : ∀ v T' L, Stand p l e R (s.setVm T'.vm) m args below meth c T' (locs ++ L) (cells + rm.cells) (slots + rm.slots) → s.Since T'.vm T'.heap.size → Z.Warmed39 (s.setVm T'.vm).vm → (s.setVm T'.vm).vm.findClass own = some m.cls → CHr Z EL vmA hA T'.vm T'.heap → (∀ x, x < h.size → Safe Z EL vm0 h x → Safe Z EL T'.vm T'.heap x) → Q v T'.heap L → Go p e below m F T' pc' ls (v.toList ++ rest)) : Go p e below m F T pc ls st := by
  subst hp hst
  obtain ⟨v, _, ⟨T', L', k', n'⟩, -, X', h2, hg, ⟨L, hQ, l1, l2, l3, C'⟩, stp⟩ := callSS X hx (y := y) hown (mvT hZ w1) (mvT hZ w2) (mvT hZ w3) (mvT hZ w4) hy (backOfSH (W := W) hM hZ w4 w3 hf hl hEL C.1) (g := mkF m pc ls (argsL.reverse ++ rest)) rfl hsize (argsL := argsL) (rest := rest) (lenOf hpd hlen) rfl hW hd (fun _ _ => ⟨rfl, eT, hc, hs⟩)
  dsimp only [Pt.U, Pt.locs, Pt.cells, Pt.slots] at X' h2 hg l1 l2 l3 stp hQ C'
  subst l1 l2 l3
  obtain ⟨X2, S2, Z2, O2⟩ := rebS hS hk X' h2 (by rw [← eT]; exact hg) hZ hown
  exact (k v T' L X2 S2 Z2 O2 (C.trans C') (fun x q S => C'.safe q S) hQ).of fun t q => stp.trans q
theorem g_specialH (X : Stand p l e R (s.setVm vm0) m args below meth c T locs cells slots) (hx : p.tables.exec = Jvm.exec) (hZ : Z.Warmed39 (s.setVm vm0).vm) {own : String} {i : Nat} {y : MethodName} {bytes : ByteArray} {maxL : Nat} {rm : Room} {Q : Option Value → Heap → List Loc → Prop} (hy1 : y.name = "<init>") (hown : (s.setVm vm0).vm.findClass own = some m.cls) (w1 : (Cond.methodLink own i y).before a0 Z = true) (w2 : (Cond.instanceMethod y).before a0 Z = true) (w3 : (Cond.initialized y.cls).before a0 Z = true) (w4 : (Cond.code y bytes maxL none).before a0 Z = true) (hy : y.cls ≠ "java/lang/invoke/MethodHandle" ∧ y.cls ≠ "java/lang/invoke/VarHandle") {k0 : Nat} (hS : s.Since vm0 k0) (hk : k0 ≤ h.size) (hEL : EW Z a0 EL) (C : CHr Z EL vmA hA vm0 h)
    {a : Addr} {argsL st : List Value} {ps : List FieldType} {rt : Option FieldType} (hM : CtrH l Z EL y bytes maxL none [] rm (.ref a :: argsL).toArray h Q) (hpd : parseMethodDescriptor y.desc = some ⟨ps, rt⟩) (hlen : argsL.length = ps.length) (hst : st = argsL.reverse ++ .ref a :: rest) (hd : decode c.code pc = .ok (.invokespecial i, 3)) (eT : T.heap = h) (hsize : ls.size = c.maxLocals) (hp : pc + 3 = pc') (hf : rm.frames + 1 ≤ R.frames) {W : Nat} (hW : 2 * 0 + (rest.map fun v => v.category).sum ≤ W) (hl : W + (maxL + 11) + rm.locals ≤ R.locals) (hc : cells + rm.cells ≤ R.cells) (hs : slots + rm.slots ≤ R.slots)
    (k : ∀ v T' L, Stand p l e R (s.setVm T'.vm) m args below meth c T' (locs ++ L) (cells + rm.cells) (slots + rm.slots) → s.Since T'.vm T'.heap.size → Z.Warmed39 (s.setVm T'.vm).vm → (s.setVm T'.vm).vm.findClass own = some m.cls → CHr Z EL vmA hA T'.vm T'.heap → (∀ x, x < h.size → Safe Z EL vm0 h x → Safe Z EL T'.vm T'.heap x) → Q v T'.heap L → Go p e below m F T' pc' ls (v.toList ++ rest)) : Go p e below m F T pc ls st := by
  subst hp hst
  obtain ⟨v, _, ⟨T', L', k', n'⟩, -, X', h2, hg, ⟨L, hQ, l1, l2, l3, C'⟩, stp⟩ := X.specialBackS hx (y := y) hy1 hown (mvT hZ w1) (mvT hZ w2) (mvT hZ w4) hy (backOfSH (W := W) hM hZ w4 w3 hf hl hEL C.1) (g := mkF m pc ls (argsL.reverse ++ .ref a :: rest)) rfl hsize (Steps.refl _) (a := a) (argsL := argsL) (rest := rest) (lenOf hpd hlen) rfl hW hd (fun _ _ => ⟨rfl, eT, hc, hs⟩)
  dsimp only [Pt.U, Pt.locs, Pt.cells, Pt.slots] at X' h2 hg l1 l2 l3 stp hQ C'
  subst l1 l2 l3
  obtain ⟨X2, S2, Z2, O2⟩ := rebS hS hk X' h2 (by rw [← eT]; exact hg) hZ hown
  exact (k v T' L X2 S2 Z2 O2 (C.trans C') (fun x q S => C'.safe q S) hQ).of fun t q => stp.trans q
theorem rw_mono {s t : State} {o : Outcome} {L : List Loc} {k n k' n' : Nat} (h : ReturnedEndW s o t L k n) (hk : k ≤ k') (hn : n ≤ n') : ReturnedEndW s o t L k' n' := ⟨h.1, h.2.1, h.2.2.1, h.2.2.2.mono hk hn⟩
theorem h_retV (X : Stand p l e R (s.setVm vm0) m args below meth c T locs cells slots) (hx : p.tables.exec = Jvm.exec) (hZ : Z.Warmed39 (s.setVm vm0).vm) {Q : Option Value → Heap → List Loc → Prop} {rc rs : Nat} (hlk : meth.locks = false) {k0 : Nat} (hS : s.Since vm0 k0) (eT : T.heap = h) (hk : k0 ≤ h.size) (hEL : EW Z a0 EL) (C : CHr Z EL s.vm hA vm0 h) (hret : meth.sig.returnType = none) (hd : decode c.code pc = .ok (.return_, 1)) (hQ : Q none T.heap locs) (hc : cells ≤ rc) (hs : slots ≤ rs) : Go p e below m (FinH Z EL s hA rc rs Q) T pc ls [] := by
  subst eT
  obtain ⟨fs, hr, hrun, hended, hE⟩ := X.leaveW hS hk (v := none) (fun _ => rfl)
  have hV := C.trans (CHv.at X hZ hEL C.1)
  exact ⟨_, _, X.returnOut hx hret hd hr, hrun, hended, _, _, rfl, hQ, hV, rw_mono hE hc hs⟩
theorem h_ret (X : Stand p l e R (s.setVm vm0) m args below meth c T locs cells slots) (hx : p.tables.exec = Jvm.exec) (hZ : Z.Warmed39 (s.setVm vm0).vm) {Q : Option Value → Heap → List Loc → Prop} {rc rs : Nat} (hlk : meth.locks = false) {k0 : Nat} (hS : s.Since vm0 k0) (eT : T.heap = h) (hk : k0 ≤ h.size) (hEL : EW Z a0 EL) (C : CHr Z EL s.vm hA vm0 h) {t : FieldType} {w : Value} {i : Instr} (hret : meth.sig.returnType = some t) (hn : narrow t w = w)
    (hi : (i = .ireturn ∧ (t = .int ∨ t = .boolean ∨ t = .byte ∨ t = .char ∨ t = .short) ∧ ∃ z, w = .int z) ∨ (i = .lreturn ∧ t = .long ∧ ∃ z, w = .long z) ∨ (i = .dreturn ∧ t = .double ∧ ∃ z, w = .double z) ∨ (i = .freturn ∧ t = .float ∧ ∃ z, w = .float z) ∨ (i = .areturn ∧ t.isReference = true ∧ w.isRef = true))
    (hd : decode c.code pc = .ok (i, 1)) (hQ : Q (some w) T.heap locs) (hc : cells ≤ rc) (hs : slots ≤ rs) : Go p e below m (FinH Z EL s hA rc rs Q) T pc ls (w :: rest) := by
  subst eT
  obtain ⟨fs, hr, hrun, hended, hE⟩ := X.leaveW hS hk (v := some w) (fun h => by rw [hret] at h; cases h)
  have hV := C.trans (CHv.at X hZ hEL C.1)
  exact ⟨_, _, retOut X hx hret hn hi hd hr, hrun, hended, _, _, rfl, hQ, hV, rw_mono hE hc hs⟩
end HSteps
end Jvm.Own
namespace Jvm.Pilot.@@N@@
open Jvm Jvm.ClassFile Sem Op Lib Jvm.Free Jvm.Stand Jvm.LawKit Jvm.RoadKit Bundle Jvm.Own Jvm.Pilot.@@N@@.Jvm.D
theorem own_narb (c : Int32) : nar .byte c.toInt8.toInt32 = c.toInt8.toInt32 := by
  show (c.toInt8.toInt32).toInt8.toInt32 = _
  rw [Int8.toInt8_toInt32]
theorem own_i2c {z : Int32} (h : 0 ≤ z.toInt ∧ z.toInt ≤ 65535) : z.toUInt32.toUInt16.toUInt32.toInt32 = z := by
  have h1 := nn32 h.1
  have e0 := small32 h1
  apply Int32.toInt_inj.mp
  have e : (z.toUInt32.toUInt16.toUInt32.toInt32).toBitVec.toNat = z.toBitVec.toNat := by
    have q : (z.toUInt32.toUInt16.toUInt32.toInt32).toBitVec.toNat = z.toBitVec.toNat % 65536 := by
      simp [UInt32.toBitVec_toInt32]
    rw [q]; omega
  rw [small32 (by rw [e]; exact h1), e, e0]
theorem own_sa {Z : State} {a0 : Array Value} (hw : ∀ d ∈ tables_1, d.before a0 Z = true) : ∀ a ∈ Bundle.stringAtoms, a.before a0 Z = true := by
  intro a ha
  simp only [Bundle.stringAtoms, Bundle.sN, List.mem_cons, List.not_mem_nil, or_false] at ha
  rcases ha with rfl | rfl | rfl | rfl | rfl | rfl | rfl
  · exact (hw _ (List.mem_of_getElem? (i := 7) rfl))
  · exact (hw _ (List.mem_of_getElem? (i := 6) rfl))
  · exact (hw _ (List.mem_of_getElem? (i := 20) rfl))
  · exact (hw _ (List.mem_of_getElem? (i := 21) rfl))
  · exact (hw _ (List.mem_of_getElem? (i := 22) rfl))
  · exact (hw _ (List.mem_of_getElem? (i := 23) rfl))
  · exact (hw _ (List.mem_of_getElem? (i := 24) rfl))
theorem Ars.safe {Z : State} {EL : List (String × Nat)} {vm : Vm} {h : Heap} {a : Addr} {ty : FieldType} {vs : List Value} (hal : Z.vm.Alike vm) (F : Ars Z h a ty vs) (ht : ty ≠ .byte) : Safe Z EL vm h a := by
  obtain ⟨c, A, -⟩ := F; exact Jvm.RoadKit.Safe.arr hal A ht
theorem Ars.empty {Z : State} {h : Heap} {b : Addr} {k : ClassId} (A : Arv Z h b k .byte 0 [] (.int 0)) : Ars Z h b .byte [] := by
  obtain ⟨c, A, -, hs, -, -, -⟩ := A
  refine ⟨c, A, ?_, fun v hv => nomatch hv⟩
  have : c.slots.toList.length = 0 := by rw [Array.length_toList, hs]; rfl
  exact List.length_eq_zero_iff.mp this
theorem own_mt : (∀ c ∈ ("" : String).toList, c.toNat < 256) ∧ ("" : String).toList.map (fun c => Value.int (Jvm.Lit.byteI c.toNat.toUInt16)) = [] := ⟨by simp, by simp⟩
open Jvm.Free.SB Jvm.Free.SBG in
theorem Safe.null {Z : State} {EL : List (String × Nat)} {vm : Vm} {h : Heap} {x : Addr} (hal : Z.vm.Alike vm) (E : Exa Z h x "java/lang/String") (F : Fld Z h x "java/lang/String" "value" "[B" .null) : Safe Z EL vm h x := fun B => by
  obtain ⟨p, -, u, a, -, q, -, G, rfl | rfl⟩ := B
  · obtain ⟨cS, ⟨⟨s1, s2, s3, ⟨cv, kv, iv, s4, s4'⟩, -, s6, s7, s8, -⟩, -⟩, -⟩ := G
    obtain ⟨kv', z4⟩ := ff_back (U := Wst Z vm h) hal s4
    obtain ⟨cell, c1, k1, i1, f1, e1, e2, -, -, -, -, e7⟩ := F
    cases (show h[q.sa]? = some q.sC from s1).symm.trans e1
    have e4 := z4.symm.trans e2
    simp only [Option.some.injEq, Prod.mk.injEq] at e4
    rw [← e4.2.2.2, show q.sC.slots[q.fSV.slot]? = _ from s8] at e7
    cases e7
  · obtain ⟨cell, k, e1, e2, e3, -, -⟩ := E
    cases (show h[q.sd]? = some q.SA from G.hd).symm.trans e1
    obtain ⟨cS, -, -, f, -⟩ := G
    have f : vm.findClass "[B" = some q.SA.cls := f
    rw [hal.findClass] at f
    obtain ⟨k1, q1, q2⟩ := Vm.findClass_spec f
    obtain ⟨k2, q3, q4⟩ := Vm.findClass_spec e2
    cases q1.symm.trans q3
    exact absurd (q2.symm.trans q4) (by decide)
theorem own_by {P : Int32 → Prop} (H : ∀ n : Fin 256, P (Int32.ofNat n.val)) {c : Int32} (h : 0 ≤ c.toInt ∧ c.toInt ≤ 255) : P c := by
  have e : Int32.ofNat c.toInt.toNat = c := by
    apply Int32.toInt_inj.mp
    rw [Int32.toInt_ofNat_of_lt (by omega)]; omega
  have := H ⟨c.toInt.toNat, by omega⟩
  rw [← e]; exact this
theorem own_and255 {c : Int32} (h : 0 ≤ c.toInt ∧ c.toInt ≤ 255) : (c.toInt8.toInt32 &&& 255) = c := own_by (P := fun c => (c.toInt8.toInt32 &&& 255) = c) (by decide +kernel) h
theorem own_lo {c : Int32} (h : 0 ≤ c.toInt ∧ c.toInt ≤ 255) : (c.toInt8.toInt32).toInt = c.toInt ∨ 128 ≤ c.toInt ∧ (c.toInt8.toInt32).toInt = c.toInt - 256 := own_by (P := fun c => (c.toInt8.toInt32).toInt = c.toInt ∨ 128 ≤ c.toInt ∧ (c.toInt8.toInt32).toInt = c.toInt - 256) (by decide +kernel) h
theorem own_rem {x z y : Int32} {M : Int} (hz : (x - x / y * y) = z) (hx : 0 ≤ x.toInt) (hy : y.toInt = M) (hM : 0 < M ∧ M < 100) : 0 ≤ z.toInt ∧ z.toInt < M := by
  subst hz
  have bx := i32b x
  have e0 : (x / y).toInt = x.toInt / M := by
    rw [Int32.toInt_div, hy, Int.tdiv_eq_ediv_of_nonneg hx]
    have h1 : 0 ≤ x.toInt / M := Int.ediv_nonneg hx (by omega)
    have h2 : x.toInt / M ≤ x.toInt := Int.ediv_le_self _ hx
    exact Int.bmod_eq_of_le (by omega) (by omega)
  have em := Int.mul_ediv_add_emod x.toInt M
  have b1 := Int.emod_nonneg x.toInt (by omega : M ≠ 0)
  have b2 := Int.emod_lt_of_pos x.toInt hM.1
  rw [Int.mul_comm] at em
  have e1 : (x / y * y).toInt = x.toInt / M * M := imul_ex e0 hy (by omega)
  have e2 : (x - x / y * y).toInt = x.toInt - x.toInt / M * M := isub_ex rfl e1 (by omega)
  rw [e2]; omega
theorem own_58 {c : Int32} (h : 0 ≤ c.toInt ∧ c.toInt ≤ 255) (q : c.toInt ≠ 58) : (c.toInt8.toInt32).toInt ≠ 58 := by
  rcases own_lo h with e | ⟨e1, e2⟩ <;> omega
theorem own_c5 {z : Int32} (h : 0 ≤ z.toInt ∧ z.toInt < 5) : z = 0 ∨ z = 1 ∨ z = 2 ∨ z = 3 ∨ z = 4 := by
  have k : ∀ y : Int32, z.toInt = y.toInt → z = y := fun y q => Int32.toInt_inj.mp q
  have e0 : (0 : Int32).toInt = 0 := by decide
  have e1 : (1 : Int32).toInt = 1 := by decide
  have e2 : (2 : Int32).toInt = 2 := by decide
  have e3 : (3 : Int32).toInt = 3 := by decide
  have e4 : (4 : Int32).toInt = 4 := by decide
  rcases (by omega : z.toInt = 0 ∨ z.toInt = 1 ∨ z.toInt = 2 ∨ z.toInt = 3 ∨ z.toInt = 4) with q | q | q | q | q
  · exact Or.inl (k 0 (by omega))
  · exact Or.inr (Or.inl (k 1 (by omega)))
  · exact Or.inr (Or.inr (Or.inl (k 2 (by omega))))
  · exact Or.inr (Or.inr (Or.inr (Or.inl (k 3 (by omega)))))
  · exact Or.inr (Or.inr (Or.inr (Or.inr (k 4 (by omega)))))
theorem pd_0 : parseMethodDescriptor "([CI[BII)I" = some ⟨[(.array .char), .int, (.array .byte), .int, .int], some .int⟩ := by decide +kernel
theorem pd_1 : parseMethodDescriptor "([CII)[B" = some ⟨[(.array .char), .int, .int], some (.array .byte)⟩ := by decide +kernel
theorem pd_2 : parseMethodDescriptor "([BI)B" = some ⟨[(.array .byte), .int], some .byte⟩ := by decide +kernel
theorem pd_3 : parseMethodDescriptor "([CIILjava/lang/Void;)V" = some ⟨[(.array .char), .int, .int, (.object "java/lang/Void")], none⟩ := by decide +kernel
theorem pd_4 : parseMethodDescriptor "([C)V" = some ⟨[(.array .char)], none⟩ := by decide +kernel
theorem pd_5 : parseMethodDescriptor "()B" = some ⟨[], some .byte⟩ := by decide +kernel
theorem pd_6 : parseMethodDescriptor "(IILjava/util/function/BiFunction;)I" = some ⟨[.int, .int, (.object "java/util/function/BiFunction")], some .int⟩ := by decide +kernel
theorem pd_7 : parseMethodDescriptor "(II)V" = some ⟨[.int, .int], none⟩ := by decide +kernel
theorem pd_8 : parseMethodDescriptor "()Z" = some ⟨[], some .boolean⟩ := by decide +kernel
theorem pd_9 : parseMethodDescriptor "([BI)C" = some ⟨[(.array .byte), .int], some .char⟩ := by decide +kernel
theorem pd_10 : parseMethodDescriptor "(I)Z" = some ⟨[.int], some .boolean⟩ := by decide +kernel
theorem pd_11 : parseMethodDescriptor "(II)I" = some ⟨[.int, .int], some .int⟩ := by decide +kernel
theorem pd_12 : parseMethodDescriptor "([BIII)I" = some ⟨[(.array .byte), .int, .int, .int], some .int⟩ := by decide +kernel
theorem pd_13 : parseMethodDescriptor "()I" = some ⟨[], some .int⟩ := by decide +kernel
theorem pd_14 : parseMethodDescriptor "(I)C" = some ⟨[.int], some .char⟩ := by decide +kernel
theorem pd_15 : parseMethodDescriptor "(I)I" = some ⟨[.int], some .int⟩ := by decide +kernel
theorem pd_16 : parseMethodDescriptor "(ICCCC)Ljava/lang/String;" = some ⟨[.int, .char, .char, .char, .char], some (.object "java/lang/String")⟩ := by decide +kernel
theorem pd_17 : parseMethodDescriptor "(ICCCC)Z" = some ⟨[.int, .char, .char, .char, .char], some .boolean⟩ := by decide +kernel
theorem pd_18 : parseMethodDescriptor "(Ljava/lang/String;)Ljava/lang/String;" = some ⟨[(.object "java/lang/String")], some (.object "java/lang/String")⟩ := by decide +kernel
theorem pd_19 : parseMethodDescriptor "(Ljava/lang/Object;)Z" = some ⟨[(.object "java/lang/Object")], some .boolean⟩ := by decide +kernel
theorem pn_7 : plainFor (⟨"java/lang/StringUTF16", "compress", "([CI[BII)I"⟩ : MethodName) = true := by decide +kernel
theorem pn_6 : plainFor (⟨"java/lang/StringUTF16", "compress", "([CII)[B"⟩ : MethodName) = true := by decide +kernel
theorem pn_8 : plainFor (⟨"java/lang/StringUTF16", "coderFromArrayLen", "([BI)B"⟩ : MethodName) = true := by decide +kernel
theorem pn_3 : plainFor (⟨"java/lang/String", "<init>", "([CIILjava/lang/Void;)V"⟩ : MethodName) = true := by decide +kernel
theorem pn_2 : plainFor (⟨"java/lang/String", "<init>", "([C)V"⟩ : MethodName) = true := by decide +kernel
theorem pn_1 : plainFor (⟨"com/example/divvy/divvy/document/DocumentIdPartitionKeyPinLaw", "make", "(ICCCC)Ljava/lang/String;"⟩ : MethodName) = true := by decide +kernel
theorem pn_5 : plainFor (⟨"com/example/divvy/divvy/document/DocumentIdPartitionKeyPinLaw", "valid", "(ICCCC)Z"⟩ : MethodName) = true := by decide +kernel
theorem pn_12 : plainFor (⟨"java/lang/String", "isLatin1", "()Z"⟩ : MethodName) = true := by decide +kernel
theorem pn_19 : plainFor (⟨"java/lang/String", "coder", "()B"⟩ : MethodName) = true := by decide +kernel
theorem pn_21 : plainFor (⟨"java/lang/StringLatin1", "canEncode", "(I)Z"⟩ : MethodName) = true := by decide +kernel
theorem pn_22 : plainFor (⟨"java/lang/Math", "max", "(II)I"⟩ : MethodName) = true := by decide +kernel
theorem pn_10 : plainFor (⟨"java/lang/String", "isEmpty", "()Z"⟩ : MethodName) = true := by decide +kernel
theorem pn_18 : plainFor (⟨"java/lang/String", "length", "()I"⟩ : MethodName) = true := by decide +kernel
theorem pn_15 : plainFor (⟨"jdk/internal/util/Preconditions", "checkIndex", "(IILjava/util/function/BiFunction;)I"⟩ : MethodName) = true := by decide +kernel
theorem pn_14 : plainFor (⟨"java/lang/String", "checkIndex", "(II)V"⟩ : MethodName) = true := by decide +kernel
theorem pn_13 : plainFor (⟨"java/lang/StringLatin1", "charAt", "([BI)C"⟩ : MethodName) = true := by decide +kernel
theorem pn_11 : plainFor (⟨"java/lang/String", "charAt", "(I)C"⟩ : MethodName) = true := by decide +kernel
theorem pn_23 : plainFor (⟨"java/lang/Math", "min", "(II)I"⟩ : MethodName) = true := by decide +kernel
theorem pn_24 : plainFor (⟨"java/lang/StringLatin1", "indexOfChar", "([BIII)I"⟩ : MethodName) = true := by decide +kernel
theorem pn_20 : plainFor (⟨"java/lang/StringLatin1", "indexOf", "([BIII)I"⟩ : MethodName) = true := by decide +kernel
theorem pn_17 : plainFor (⟨"java/lang/String", "indexOf", "(II)I"⟩ : MethodName) = true := by decide +kernel
theorem pn_16 : plainFor (⟨"java/lang/String", "indexOf", "(I)I"⟩ : MethodName) = true := by decide +kernel
theorem pn_9 : plainFor (⟨"com/example/divvy/divvy/document/DocumentId", "partitionKey", "(Ljava/lang/String;)Ljava/lang/String;"⟩ : MethodName) = true := by decide +kernel
theorem pn_25 : plainFor (⟨"java/lang/String", "equals", "(Ljava/lang/Object;)Z"⟩ : MethodName) = true := by decide +kernel
theorem pn_0 : plainFor x = true := by decide +kernel
theorem d7_0 : decode jdk_52_method_21_code 0 = .ok (.iconst 0, 1) := by decide +kernel
theorem d7_1 : decode jdk_52_method_21_code 1 = .ok (.istore 5, 2) := by decide +kernel
theorem d7_3 : decode jdk_52_method_21_code 3 = .ok (.iload 5, 2) := by decide +kernel
theorem d7_5 : decode jdk_52_method_21_code 5 = .ok (.iload 4, 2) := by decide +kernel
theorem d7_7 : decode jdk_52_method_21_code 7 = .ok (.if_icmp .ge 37, 3) := by decide +kernel
theorem d7_10 : decode jdk_52_method_21_code 10 = .ok (.aload_n 0, 1) := by decide +kernel
theorem d7_11 : decode jdk_52_method_21_code 11 = .ok (.iload_n 1, 1) := by decide +kernel
theorem d7_12 : decode jdk_52_method_21_code 12 = .ok (.caload, 1) := by decide +kernel
theorem d7_13 : decode jdk_52_method_21_code 13 = .ok (.istore 6, 2) := by decide +kernel
theorem d7_15 : decode jdk_52_method_21_code 15 = .ok (.iload 6, 2) := by decide +kernel
theorem d7_17 : decode jdk_52_method_21_code 17 = .ok (.sipush 255, 3) := by decide +kernel
theorem d7_20 : decode jdk_52_method_21_code 20 = .ok (.if_icmp .le 6, 3) := by decide +kernel
theorem d7_23 : decode jdk_52_method_21_code 23 = .ok (.iload 5, 2) := by decide +kernel
theorem d7_25 : decode jdk_52_method_21_code 25 = .ok (.ireturn, 1) := by decide +kernel
theorem d7_26 : decode jdk_52_method_21_code 26 = .ok (.aload_n 2, 1) := by decide +kernel
theorem d7_27 : decode jdk_52_method_21_code 27 = .ok (.iload_n 3, 1) := by decide +kernel
theorem d7_28 : decode jdk_52_method_21_code 28 = .ok (.iload 6, 2) := by decide +kernel
theorem d7_30 : decode jdk_52_method_21_code 30 = .ok (.i2b, 1) := by decide +kernel
theorem d7_31 : decode jdk_52_method_21_code 31 = .ok (.bastore, 1) := by decide +kernel
theorem d7_32 : decode jdk_52_method_21_code 32 = .ok (.iinc 1 1, 3) := by decide +kernel
theorem d7_35 : decode jdk_52_method_21_code 35 = .ok (.iinc 3 1, 3) := by decide +kernel
theorem d7_38 : decode jdk_52_method_21_code 38 = .ok (.iinc 5 1, 3) := by decide +kernel
theorem d7_41 : decode jdk_52_method_21_code 41 = .ok (.goto (-38), 3) := by decide +kernel
theorem d7_44 : decode jdk_52_method_21_code 44 = .ok (.iload 4, 2) := by decide +kernel
theorem d7_46 : decode jdk_52_method_21_code 46 = .ok (.ireturn, 1) := by decide +kernel
theorem ef_c_cmp5_1 (m : MethodId) (x0 : Addr) (x1 : Int32) (x2 : Addr) (x3 : Int32) (x4 : Int32) : entryFrame m #[(.ref x0), (.int x1), (.ref x2), (.int x3), (.int x4)] 7 = mkF m 0 #[.val (.ref x0), .val (.int x1), .val (.ref x2), .val (.int x3), .val (.int x4), .unset, .unset] [] := by first | (simp [entryFrame, mkF, argsToLocals, Value.category, maxLocals]; done) | rfl
set_option maxRecDepth 65536 in
set_option maxHeartbeats 40000000 in
theorem c_cmp5_1 (l : Launch) (Z : State) (a0 : Array Value) (hw : ∀ d ∈ tables_1, d.before a0 Z = true) (ws : List Jvm.Cond) (a d : Addr) (c0 : Int32) (h0 : Heap) (n0 : Nat) (Z0 : n0 ≤ h0.size) (A : Ars Z h0 a .char [(.int c0)]) (D : Ars Z h0 d .byte [(.int 0)]) (hne : a ≠ d) (gd : n0 ≤ d) (C0 : 0 ≤ c0.toInt ∧ c0.toInt ≤ 255) :
    Ctr l Z (⟨"java/lang/StringUTF16", "compress", "([CI[BII)I"⟩ : MethodName) jdk_52_method_21_code 7 (some .int) ws ({ frames := 0, cells := 0, slots := 0, locals := 0 } : Room) #[(.ref a), (.int (0 : Int32)), (.ref d), (.int (0 : Int32)), (.int (1 : Int32))] h0 (fun v h L => v = some (.int 1) ∧ Fr n0 L ∧ Keep h0 h [d] ∧ Ars Z h d .byte [(.int c0.toInt8.toInt32)]) := by
  refine enter pn_7 ?_
  intro p e s m below meth c T0 X0 hx hby hml hret hlk hZ hown hnm e0
  have A0 := wk X0 hx hby
  have N0 := Fr.nil n0
  refine goIn (ef_c_cmp5_1 m a (0 : Int32) d (0 : Int32) (1 : Int32)) ?_
  show Go p e below m (Fini s 0 0 (fun v h L => v = some (.int 1) ∧ Fr n0 L ∧ Keep h0 h [d] ∧ Ars Z h d .byte [(.int c0.toInt8.toInt32)])) T0 0 #[.val (.ref a), .val (.int (0 : Int32)), .val (.ref d), .val (.int (0 : Int32)), .val (.int (1 : Int32)), .unset, .unset] []
  refine s_iconst A0 d7_0 (pc' := 1) rfl (v := (0 : Int32)) (by decide) ?_
  refine s_istore A0 d7_1 (pc' := 3) rfl (ls' := #[.val (.ref a), .val (.int (0 : Int32)), .val (.ref d), .val (.int (0 : Int32)), .val (.int (1 : Int32)), .val (.int (0 : Int32)), .unset]) rfl ?_
  refine s_iload A0 d7_3 (pc' := 5) rfl rfl ?_
  refine s_iload A0 d7_5 (pc' := 7) rfl rfl ?_
  refine s_icmpge A0 d7_7 (pY := 44) (pN := 10) (by decide) (by decide) rfl (fun c => absurd c (by decide)) (fun _ => ?_)
  refine s_aloadN A0 d7_10 (pc' := 11) rfl rfl rfl ?_
  refine s_iloadN A0 d7_11 (pc' := 12) rfl rfl ?_
  refine g_caload X0 hx hZ e0 A (by decide) (i := 0) (by decide) (v := (.int c0)) rfl (hb hby d7_12) (pc' := 13) rfl ?_
  refine s_istore A0 d7_13 (pc' := 15) rfl (ls' := #[.val (.ref a), .val (.int (0 : Int32)), .val (.ref d), .val (.int (0 : Int32)), .val (.int (1 : Int32)), .val (.int (0 : Int32)), .val (.int c0)]) rfl ?_
  refine s_iload A0 d7_15 (pc' := 17) rfl rfl ?_
  refine s_sipush A0 d7_17 (pc' := 20) rfl (v := (255 : Int32)) (by decide) ?_
  refine s_icmple A0 d7_20 (pY := 26) (pN := 23) (by decide) (by decide) rfl ?_ ?_
  · intro c20
    replace c20 := i_le c20
    rw [show (255 : Int32).toInt = 255 from by decide] at c20
    refine s_aloadN A0 d7_26 (pc' := 27) rfl rfl rfl ?_
    refine s_iloadN A0 d7_27 (pc' := 28) rfl rfl ?_
    refine s_iload A0 d7_28 (pc' := 30) rfl rfl ?_
    refine s_i2b A0 d7_30 (pc' := 31) rfl rfl ?_
    refine g_bastore X0 hx hZ e0 D (by decide) (i := 0) (by decide) (by simp) (v := (.int c0.toInt8.toInt32)) (congrArg Value.int (own_narb c0)) (hb hby d7_31) (pc' := 32) rfl ?_
    intro T1 h1 X1 e1 W1 Ar1
    have A1 := wk X1 hx hby
    have Ar1 : Ars Z h1 d .byte [(.int c0.toInt8.toInt32)] := Ar1
    have kp2 := Keep.wr (Keep.refl h0 [d]) W1 (Or.inl (List.mem_of_getElem? (i := 0) rfl))
    have fr2 := Fr.snoc X1 N0 gd
    refine s_iinc A1 d7_32 (pc' := 35) rfl (v := (1 : Int32)) (ls' := #[.val (.ref a), .val (.int (1 : Int32)), .val (.ref d), .val (.int (0 : Int32)), .val (.int (1 : Int32)), .val (.int (0 : Int32)), .val (.int c0)]) rfl (by decide) rfl ?_
    refine s_iinc A1 d7_35 (pc' := 38) rfl (v := (1 : Int32)) (ls' := #[.val (.ref a), .val (.int (1 : Int32)), .val (.ref d), .val (.int (1 : Int32)), .val (.int (1 : Int32)), .val (.int (0 : Int32)), .val (.int c0)]) rfl (by decide) rfl ?_
    refine s_iinc A1 d7_38 (pc' := 41) rfl (v := (1 : Int32)) (ls' := #[.val (.ref a), .val (.int (1 : Int32)), .val (.ref d), .val (.int (1 : Int32)), .val (.int (1 : Int32)), .val (.int (1 : Int32)), .val (.int c0)]) rfl (by decide) rfl ?_
    refine s_goto A1 d7_41 (pc' := 3) (by decide) (by decide) ?_
    refine s_iload A1 d7_3 (pc' := 5) rfl rfl ?_
    refine s_iload A1 d7_5 (pc' := 7) rfl rfl ?_
    refine s_icmpge A1 d7_7 (pY := 44) (pN := 10) (by decide) (by decide) rfl (fun _ => ?_) (fun c => absurd c (by decide))
    refine s_iload A1 d7_44 (pc' := 46) rfl rfl ?_
    exact g_retI X1 hx hlk hret (hb hby d7_46) (by rw [e1]; exact ⟨rfl, fr2, kp2, Ar1⟩) (by decide) (by decide)
  · intro c20
    replace c20 := i_gt c20
    rw [show (255 : Int32).toInt = 255 from by decide] at c20
    exfalso; omega
theorem d6_0 : decode jdk_52_method_16_code 0 = .ok (.iload_n 2, 1) := by decide +kernel
theorem d6_1 : decode jdk_52_method_16_code 1 = .ok (.newarray .byte, 2) := by decide +kernel
theorem d6_3 : decode jdk_52_method_16_code 3 = .ok (.astore_n 3, 1) := by decide +kernel
theorem d6_4 : decode jdk_52_method_16_code 4 = .ok (.aload_n 0, 1) := by decide +kernel
theorem d6_5 : decode jdk_52_method_16_code 5 = .ok (.iload_n 1, 1) := by decide +kernel
theorem d6_6 : decode jdk_52_method_16_code 6 = .ok (.aload_n 3, 1) := by decide +kernel
theorem d6_7 : decode jdk_52_method_16_code 7 = .ok (.iconst 0, 1) := by decide +kernel
theorem d6_8 : decode jdk_52_method_16_code 8 = .ok (.iload_n 2, 1) := by decide +kernel
theorem d6_9 : decode jdk_52_method_16_code 9 = .ok (.invokestatic 115, 3) := by decide +kernel
theorem d6_12 : decode jdk_52_method_16_code 12 = .ok (.istore 4, 2) := by decide +kernel
theorem d6_14 : decode jdk_52_method_16_code 14 = .ok (.iload 4, 2) := by decide +kernel
theorem d6_16 : decode jdk_52_method_16_code 16 = .ok (.iload_n 2, 1) := by decide +kernel
theorem d6_17 : decode jdk_52_method_16_code 17 = .ok (.if_icmp .eq 40, 3) := by decide +kernel
theorem d6_20 : decode jdk_52_method_16_code 20 = .ok (.aload_n 0, 1) := by decide +kernel
theorem d6_21 : decode jdk_52_method_16_code 21 = .ok (.iload_n 1, 1) := by decide +kernel
theorem d6_22 : decode jdk_52_method_16_code 22 = .ok (.iload_n 2, 1) := by decide +kernel
theorem d6_23 : decode jdk_52_method_16_code 23 = .ok (.invokestatic 119, 3) := by decide +kernel
theorem d6_26 : decode jdk_52_method_16_code 26 = .ok (.astore 5, 2) := by decide +kernel
theorem d6_28 : decode jdk_52_method_16_code 28 = .ok (.aload 5, 2) := by decide +kernel
theorem d6_30 : decode jdk_52_method_16_code 30 = .ok (.iload 4, 2) := by decide +kernel
theorem d6_32 : decode jdk_52_method_16_code 32 = .ok (.invokestatic 71, 3) := by decide +kernel
theorem d6_35 : decode jdk_52_method_16_code 35 = .ok (.sipush 255, 3) := by decide +kernel
theorem d6_38 : decode jdk_52_method_16_code 38 = .ok (.if_icmp .gt 16, 3) := by decide +kernel
theorem d6_41 : decode jdk_52_method_16_code 41 = .ok (.aload 5, 2) := by decide +kernel
theorem d6_43 : decode jdk_52_method_16_code 43 = .ok (.iconst 0, 1) := by decide +kernel
theorem d6_44 : decode jdk_52_method_16_code 44 = .ok (.aload_n 3, 1) := by decide +kernel
theorem d6_45 : decode jdk_52_method_16_code 45 = .ok (.iconst 0, 1) := by decide +kernel
theorem d6_46 : decode jdk_52_method_16_code 46 = .ok (.iload_n 2, 1) := by decide +kernel
theorem d6_47 : decode jdk_52_method_16_code 47 = .ok (.invokestatic 123, 3) := by decide +kernel
theorem d6_50 : decode jdk_52_method_16_code 50 = .ok (.iload_n 2, 1) := by decide +kernel
theorem d6_51 : decode jdk_52_method_16_code 51 = .ok (.if_icmp .eq 6, 3) := by decide +kernel
theorem d6_54 : decode jdk_52_method_16_code 54 = .ok (.aload 5, 2) := by decide +kernel
theorem d6_56 : decode jdk_52_method_16_code 56 = .ok (.areturn, 1) := by decide +kernel
theorem d6_57 : decode jdk_52_method_16_code 57 = .ok (.aload_n 3, 1) := by decide +kernel
theorem d6_58 : decode jdk_52_method_16_code 58 = .ok (.areturn, 1) := by decide +kernel
theorem ef_c_cmp3_1 (m : MethodId) (x0 : Addr) (x1 : Int32) (x2 : Int32) : entryFrame m #[(.ref x0), (.int x1), (.int x2)] 6 = mkF m 0 #[.val (.ref x0), .val (.int x1), .val (.int x2), .unset, .unset, .unset] [] := by first | (simp [entryFrame, mkF, argsToLocals, Value.category, maxLocals]; done) | rfl
set_option maxRecDepth 65536 in
set_option maxHeartbeats 40000000 in
theorem c_cmp3_1 (l : Launch) (Z : State) (a0 : Array Value) (hw : ∀ d ∈ tables_1, d.before a0 Z = true) (ws : List Jvm.Cond) (a : Addr) (c0 : Int32) (h0 : Heap) (n0 : Nat) (Z0 : n0 ≤ h0.size) (A : Ars Z h0 a .char [(.int c0)]) (C0 : 0 ≤ c0.toInt ∧ c0.toInt ≤ 255) :
    Ctr l Z (⟨"java/lang/StringUTF16", "compress", "([CII)[B"⟩ : MethodName) jdk_52_method_16_code 6 (some (.array .byte)) ws ({ frames := 1, cells := 1, slots := 1, locals := 18 } : Room) #[(.ref a), (.int (0 : Int32)), (.int (1 : Int32))] h0 (fun v h L => ∃ d, v = some (.ref d) ∧ Fr n0 L ∧ Keep h0 h [] ∧ Ars Z h d .byte [(.int c0.toInt8.toInt32)] ∧ h0.size ≤ d) := by
  refine enter pn_6 ?_
  intro p e s m below meth c T0 X0 hx hby hml hret hlk hZ hown hnm e0
  have A0 := wk X0 hx hby
  have N0 := Fr.nil n0
  refine goIn (ef_c_cmp3_1 m a (0 : Int32) (1 : Int32)) ?_
  show Go p e below m (Fini s 1 1 (fun v h L => ∃ d, v = some (.ref d) ∧ Fr n0 L ∧ Keep h0 h [] ∧ Ars Z h d .byte [(.int c0.toInt8.toInt32)] ∧ h0.size ≤ d)) T0 0 #[.val (.ref a), .val (.int (0 : Int32)), .val (.int (1 : Int32)), .unset, .unset, .unset] []
  refine s_iloadN A0 d6_0 (pc' := 1) rfl rfl ?_
  refine g_newarray X0 hx hZ e0 (hw _ (List.mem_of_getElem? (i := 20) rfl)) (by decide) (k0 := 1) (by decide) (by decide) (by decide) (by decide) (ad := "[B") (by decide) rfl (hb hby d6_1) (pc' := 3) rfl ?_
  intro T1 h1 a1 X1 e1 E1 ga1 Ar1 Ex1
  have A1 := wk X1 hx hby
  have Ar1 : Ars Z h1 a1 .byte [(.int 0)] := Ar1
  have la2 : a1 < h1.size := Ex1.lt
  have kp3 := Keep.ext (Keep.refl h0 []) E1
  refine s_astoreN A1 d6_3 (pc' := 4) rfl (ls' := #[.val (.ref a), .val (.int (0 : Int32)), .val (.int (1 : Int32)), .val (.ref a1), .unset, .unset]) rfl rfl ?_
  refine s_aloadN A1 d6_4 (pc' := 5) rfl rfl rfl ?_
  refine s_iloadN A1 d6_5 (pc' := 6) rfl rfl ?_
  refine s_aloadN A1 d6_6 (pc' := 7) rfl rfl rfl ?_
  refine s_iconst A1 d6_7 (pc' := 8) rfl (v := (0 : Int32)) (by decide) ?_
  refine s_iloadN A1 d6_8 (pc' := 9) rfl rfl ?_
  have f4 := (Ars.ext E1 A)
  have ge6 : h0.size ≤ a1 := by rw [ga1]; exact (Nat.le_refl _)
  have gn5 : n0 ≤ a1 := Nat.le_trans Z0 ge6
  have ne7 : a ≠ a1 := by rw [ga1]; exact Nat.ne_of_lt (Nat.lt_of_lt_of_le A.lt (Nat.le_refl _))
  have sz9 : h0.size ≤ h1.size := E1.1
  have zs8 : n0 ≤ h1.size := Nat.le_trans Z0 sz9
  refine g_static X1 hx hZ (y := (⟨"java/lang/StringUTF16", "compress", "([CI[BII)I"⟩ : MethodName)) hown (hw _ (List.mem_of_getElem? (i := 35) rfl)) (hw _ (List.mem_of_getElem? (i := 36) rfl)) (hw _ (List.mem_of_getElem? (i := 33) rfl)) (hw _ (List.mem_of_getElem? (i := 37) rfl)) (by decide) (argsL := [(.ref a), (.int (0 : Int32)), (.ref a1), (.int (0 : Int32)), (.int (1 : Int32))]) (rest := []) (c_cmp5_1 l Z a0 hw [] a a1 c0 h1 n0 zs8 f4 Ar1 ne7 gn5 C0) pd_0 rfl rfl (hb hby d6_9) e1 (by rw [hml]; rfl) (pc' := 12) rfl (by decide) (W := 0) (Nat.le_of_eq rfl) (by decide) (by decide) (by decide) ?_
  intro v10 T10 L10 X10 hQ10
  have A10 := wk X10 hx hby
  have e10 : T10.heap = T10.heap := rfl
  obtain ⟨rfl, N10, K10, Ar10⟩ := hQ10
  have kp11 := Keep.trans kp3 K10 (allS (P := fun x => x ∈ [] ∨ h0.size ≤ x) (Or.inr ge6) all0)
  have fr10 := Fr.app N0 N10
  show Go p e below m (Fini s 1 1 (fun v h L => ∃ d, v = some (.ref d) ∧ Fr n0 L ∧ Keep h0 h [] ∧ Ars Z h d .byte [(.int c0.toInt8.toInt32)] ∧ h0.size ≤ d)) T10 12 #[.val (.ref a), .val (.int (0 : Int32)), .val (.int (1 : Int32)), .val (.ref a1), .unset, .unset] [(.int (1 : Int32))]
  refine s_istore A10 d6_12 (pc' := 14) rfl (ls' := #[.val (.ref a), .val (.int (0 : Int32)), .val (.int (1 : Int32)), .val (.ref a1), .val (.int (1 : Int32)), .unset]) rfl ?_
  refine s_iload A10 d6_14 (pc' := 16) rfl rfl ?_
  refine s_iloadN A10 d6_16 (pc' := 17) rfl rfl ?_
  refine s_icmpeq A10 d6_17 (pY := 57) (pN := 20) (by decide) (by decide) rfl (fun _ => ?_) (fun c => absurd c (by decide))
  refine s_aloadN A10 d6_57 (pc' := 58) rfl rfl rfl ?_
  exact g_retA X10 hx hlk hret rfl rfl rfl (hb hby d6_58) (by rw [e10]; exact ⟨_, rfl, fr10, kp11, Ar10, ge6⟩) (by decide) (by decide)
theorem d8_0 : decode jdk_52_method_15_code 0 = .ok (.iload_n 1, 1) := by decide +kernel
theorem d8_1 : decode jdk_52_method_15_code 1 = .ok (.aload_n 0, 1) := by decide +kernel
theorem d8_2 : decode jdk_52_method_15_code 2 = .ok (.arraylength, 1) := by decide +kernel
theorem d8_3 : decode jdk_52_method_15_code 3 = .ok (.isub, 1) := by decide +kernel
theorem d8_4 : decode jdk_52_method_15_code 4 = .ok (.bipush 31, 2) := by decide +kernel
theorem d8_6 : decode jdk_52_method_15_code 6 = .ok (.iushr, 1) := by decide +kernel
theorem d8_7 : decode jdk_52_method_15_code 7 = .ok (.i2b, 1) := by decide +kernel
theorem d8_8 : decode jdk_52_method_15_code 8 = .ok (.ireturn, 1) := by decide +kernel
theorem ef_c_codl_1 (m : MethodId) (x0 : Addr) (x1 : Int32) : entryFrame m #[(.ref x0), (.int x1)] 2 = mkF m 0 #[.val (.ref x0), .val (.int x1)] [] := by first | (simp [entryFrame, mkF, argsToLocals, Value.category, maxLocals]; done) | rfl
set_option maxRecDepth 65536 in
set_option maxHeartbeats 40000000 in
theorem c_codl_1 (l : Launch) (Z : State) (a0 : Array Value) (hw : ∀ d ∈ tables_1, d.before a0 Z = true) (ws : List Jvm.Cond) (d : Addr) (c0 : Int32) (h0 : Heap) (n0 : Nat) (Z0 : n0 ≤ h0.size) (D : Ars Z h0 d .byte [(.int c0.toInt8.toInt32)]) :
    Ctr l Z (⟨"java/lang/StringUTF16", "coderFromArrayLen", "([BI)B"⟩ : MethodName) jdk_52_method_15_code 2 (some .byte) ws ({ frames := 0, cells := 0, slots := 0, locals := 0 } : Room) #[(.ref d), (.int (1 : Int32))] h0 (fun v h L => v = some (.int 0) ∧ Fr n0 L ∧ h = h0) := by
  refine enter pn_8 ?_
  intro p e s m below meth c T0 X0 hx hby hml hret hlk hZ hown hnm e0
  have A0 := wk X0 hx hby
  have N0 := Fr.nil n0
  refine goIn (ef_c_codl_1 m d (1 : Int32)) ?_
  show Go p e below m (Fini s 0 0 (fun v h L => v = some (.int 0) ∧ Fr n0 L ∧ h = h0)) T0 0 #[.val (.ref d), .val (.int (1 : Int32))] []
  refine s_iloadN A0 d8_0 (pc' := 1) rfl rfl ?_
  refine s_aloadN A0 d8_1 (pc' := 2) rfl rfl rfl ?_
  refine g_len X0 hx hZ e0 D (n := (1 : Int32)) rfl (hb hby d8_2) (pc' := 3) rfl ?_
  refine s_isub A0 d8_3 (pc' := 4) rfl (v := (0 : Int32)) (by decide) ?_
  refine s_bipush A0 d8_4 (pc' := 6) rfl (v := (31 : Int32)) (by decide) ?_
  refine s_iushr A0 d8_6 (pc' := 7) rfl (v := (0 : Int32)) (by decide) ?_
  refine s_i2b A0 d8_7 (pc' := 8) rfl (v := (0 : Int32)) (by decide) ?_
  exact g_ret X0 hx hlk hret rfl (Or.inl ⟨rfl, by simp, _, rfl⟩) (hb hby d8_8) ⟨rfl, N0, e0⟩ (by decide) (by decide)
theorem d3_0 : decode jdk_42_method_149_code 0 = .ok (.aload_n 0, 1) := by decide +kernel
theorem d3_1 : decode jdk_42_method_149_code 1 = .ok (.invokespecial 1, 3) := by decide +kernel
theorem d3_4 : decode jdk_42_method_149_code 4 = .ok (.iload_n 3, 1) := by decide +kernel
theorem d3_5 : decode jdk_42_method_149_code 5 = .ok (.ifCond .ne 22, 3) := by decide +kernel
theorem d3_8 : decode jdk_42_method_149_code 8 = .ok (.aload_n 0, 1) := by decide +kernel
theorem d3_9 : decode jdk_42_method_149_code 9 = .ok (.ldc 7, 2) := by decide +kernel
theorem d3_11 : decode jdk_42_method_149_code 11 = .ok (.getfield 9, 3) := by decide +kernel
theorem d3_14 : decode jdk_42_method_149_code 14 = .ok (.putfield 9, 3) := by decide +kernel
theorem d3_17 : decode jdk_42_method_149_code 17 = .ok (.aload_n 0, 1) := by decide +kernel
theorem d3_18 : decode jdk_42_method_149_code 18 = .ok (.ldc 7, 2) := by decide +kernel
theorem d3_20 : decode jdk_42_method_149_code 20 = .ok (.getfield 15, 3) := by decide +kernel
theorem d3_23 : decode jdk_42_method_149_code 23 = .ok (.putfield 15, 3) := by decide +kernel
theorem d3_26 : decode jdk_42_method_149_code 26 = .ok (.return_, 1) := by decide +kernel
theorem d3_27 : decode jdk_42_method_149_code 27 = .ok (.getstatic 38, 3) := by decide +kernel
theorem d3_30 : decode jdk_42_method_149_code 30 = .ok (.ifCond .eq 28, 3) := by decide +kernel
theorem d3_33 : decode jdk_42_method_149_code 33 = .ok (.aload_n 1, 1) := by decide +kernel
theorem d3_34 : decode jdk_42_method_149_code 34 = .ok (.iload_n 2, 1) := by decide +kernel
theorem d3_35 : decode jdk_42_method_149_code 35 = .ok (.iload_n 3, 1) := by decide +kernel
theorem d3_36 : decode jdk_42_method_149_code 36 = .ok (.invokestatic 177, 3) := by decide +kernel
theorem d3_39 : decode jdk_42_method_149_code 39 = .ok (.astore 5, 2) := by decide +kernel
theorem d3_41 : decode jdk_42_method_149_code 41 = .ok (.aload_n 0, 1) := by decide +kernel
theorem d3_42 : decode jdk_42_method_149_code 42 = .ok (.aload 5, 2) := by decide +kernel
theorem d3_44 : decode jdk_42_method_149_code 44 = .ok (.iload_n 3, 1) := by decide +kernel
theorem d3_45 : decode jdk_42_method_149_code 45 = .ok (.invokestatic 47, 3) := by decide +kernel
theorem d3_48 : decode jdk_42_method_149_code 48 = .ok (.putfield 15, 3) := by decide +kernel
theorem d3_51 : decode jdk_42_method_149_code 51 = .ok (.aload_n 0, 1) := by decide +kernel
theorem d3_52 : decode jdk_42_method_149_code 52 = .ok (.aload 5, 2) := by decide +kernel
theorem d3_54 : decode jdk_42_method_149_code 54 = .ok (.putfield 9, 3) := by decide +kernel
theorem d3_57 : decode jdk_42_method_149_code 57 = .ok (.return_, 1) := by decide +kernel
theorem d3_58 : decode jdk_42_method_149_code 58 = .ok (.aload_n 0, 1) := by decide +kernel
theorem d3_59 : decode jdk_42_method_149_code 59 = .ok (.iconst 1, 1) := by decide +kernel
theorem d3_60 : decode jdk_42_method_149_code 60 = .ok (.putfield 15, 3) := by decide +kernel
theorem d3_63 : decode jdk_42_method_149_code 63 = .ok (.aload_n 0, 1) := by decide +kernel
theorem d3_64 : decode jdk_42_method_149_code 64 = .ok (.aload_n 1, 1) := by decide +kernel
theorem d3_65 : decode jdk_42_method_149_code 65 = .ok (.iload_n 2, 1) := by decide +kernel
theorem d3_66 : decode jdk_42_method_149_code 66 = .ok (.iload_n 3, 1) := by decide +kernel
theorem d3_67 : decode jdk_42_method_149_code 67 = .ok (.invokestatic 180, 3) := by decide +kernel
theorem d3_70 : decode jdk_42_method_149_code 70 = .ok (.putfield 9, 3) := by decide +kernel
theorem d3_73 : decode jdk_42_method_149_code 73 = .ok (.return_, 1) := by decide +kernel
theorem ef_c_init4_1 (m : MethodId) (x0 : Addr) (x1 : Addr) (x2 : Int32) (x3 : Int32) : entryFrame m #[(.ref x0), (.ref x1), (.int x2), (.int x3), .null] 6 = mkF m 0 #[.val (.ref x0), .val (.ref x1), .val (.int x2), .val (.int x3), .val .null, .unset] [] := by first | (simp [entryFrame, mkF, argsToLocals, Value.category, maxLocals]; done) | rfl
set_option maxRecDepth 65536 in
set_option maxHeartbeats 40000000 in
theorem c_init4_1 (l : Launch) (Z : State) (a0 : Array Value) (hw : ∀ d ∈ tables_1, d.before a0 Z = true) (ws : List Jvm.Cond) (a ch : Addr) (cz : Int32) (c0 : Int32) (h0 : Heap) (n0 : Nat) (Z0 : n0 ≤ h0.size) (Ea : Exa Z h0 a "java/lang/String") (ga : n0 ≤ a) (F0 : Fld Z h0 a "java/lang/String" "value" "[B" .null) (F1 : Fld Z h0 a "java/lang/String" "coder" "B" (.int 0)) (A : Ars Z h0 ch .char [(.int c0)]) (hne : a ≠ ch) (O : Old Z n0 h0) (S : Sta Z Z.heap "java/lang/String" "COMPACT_STRINGS" "Z" (.int cz)) (hcz : ¬ cz = 0) (C0 : 0 ≤ c0.toInt ∧ c0.toInt ≤ 255) :
    Ctr l Z (⟨"java/lang/String", "<init>", "([CIILjava/lang/Void;)V"⟩ : MethodName) jdk_42_method_149_code 6 none ws ({ frames := 2, cells := 1, slots := 1, locals := 35 } : Room) #[(.ref a), (.ref ch), (.int (0 : Int32)), (.int (1 : Int32)), .null] h0 (fun v h L => v = none ∧ Fr n0 L ∧ Keep h0 h [a] ∧ ∃ d, Fld Z h a "java/lang/String" "value" "[B" (.ref d) ∧ Fld Z h a "java/lang/String" "coder" "B" (.int 0) ∧ Ars Z h d .byte [(.int c0.toInt8.toInt32)] ∧ h0.size ≤ d) := by
  refine enter pn_3 ?_
  intro p e s m below meth c T0 X0 hx hby hml hret hlk hZ hown hnm e0
  have A0 := wk X0 hx hby
  have N0 := Fr.nil n0
  refine goIn (ef_c_init4_1 m a ch (0 : Int32) (1 : Int32)) ?_
  show Go p e below m (Fini s 1 1 (fun v h L => v = none ∧ Fr n0 L ∧ Keep h0 h [a] ∧ ∃ d, Fld Z h a "java/lang/String" "value" "[B" (.ref d) ∧ Fld Z h a "java/lang/String" "coder" "B" (.int 0) ∧ Ars Z h d .byte [(.int c0.toInt8.toInt32)] ∧ h0.size ≤ d)) T0 0 #[.val (.ref a), .val (.ref ch), .val (.int (0 : Int32)), .val (.int (1 : Int32)), .val .null, .unset] []
  refine s_aloadN A0 d3_0 (pc' := 1) rfl rfl rfl ?_
  refine g_initO X0 hx hZ hown (hw _ (List.mem_of_getElem? (i := 16) rfl)) (hw _ (List.mem_of_getElem? (i := 17) rfl)) (hw _ (List.mem_of_getElem? (i := 18) rfl)) e0 (by rw [hml]; rfl) (hb hby d3_1) (pc' := 4) rfl (by decide) (W := 0) (Nat.le_of_eq rfl) (by decide) ?_
  intro T1 X1 e1
  have A1 := wk X1 hx hby
  refine s_iloadN A1 d3_4 (pc' := 5) rfl rfl ?_
  refine s_ifne A1 d3_5 (pY := 27) (pN := 8) (by decide) (by decide) rfl (fun _ => ?_) (fun c => absurd c (by decide))
  have Sc := Sta.ext O.2 S
  refine g_getS X1 hx hZ hown (hw _ (List.mem_of_getElem? (i := 30) rfl)) Via.refl e1 Sc (hb hby d3_27) (pc' := 30) rfl ?_
  intro T2 X2 e2
  have A2 := wk X2 hx hby
  refine s_ifeq A2 d3_30 (pY := 58) (pN := 33) (by decide) (by decide) rfl ?_ ?_
  · intro c30
    replace c30 := iz_eq c30
    exact absurd (show cz = 0 from Int32.toInt_inj.mp c30) hcz
  · intro c30
    replace c30 := iz_ne c30
    refine s_aloadN A2 d3_33 (pc' := 34) rfl rfl rfl ?_
    refine s_iloadN A2 d3_34 (pc' := 35) rfl rfl ?_
    refine s_iloadN A2 d3_35 (pc' := 36) rfl rfl ?_
    refine g_static X2 hx hZ (y := (⟨"java/lang/StringUTF16", "compress", "([CII)[B"⟩ : MethodName)) hown (hw _ (List.mem_of_getElem? (i := 31) rfl)) (hw _ (List.mem_of_getElem? (i := 32) rfl)) (hw _ (List.mem_of_getElem? (i := 33) rfl)) (hw _ (List.mem_of_getElem? (i := 34) rfl)) (by decide) (argsL := [(.ref ch), (.int (0 : Int32)), (.int (1 : Int32))]) (rest := []) (c_cmp3_1 l Z a0 hw [] ch c0 h0 n0 Z0 A C0) pd_1 rfl rfl (hb hby d3_36) e2 (by rw [hml]; rfl) (pc' := 39) rfl (by decide) (W := 0) (Nat.le_of_eq rfl) (by decide) (by decide) (by decide) ?_
    intro v3 T3 L3 X3 hQ3
    have A3 := wk X3 hx hby
    have e3 : T3.heap = T3.heap := rfl
    obtain ⟨d, rfl, N3, K3, Ar3, gd3⟩ := hQ3
    have kp4 := Keep.trans (Keep.refl h0 [a]) K3 (fun x hx => absurd hx nin0)
    have fr3 := Fr.app N0 N3
    show Go p e below m (Fini s 1 1 (fun v h L => v = none ∧ Fr n0 L ∧ Keep h0 h [a] ∧ ∃ d, Fld Z h a "java/lang/String" "value" "[B" (.ref d) ∧ Fld Z h a "java/lang/String" "coder" "B" (.int 0) ∧ Ars Z h d .byte [(.int c0.toInt8.toInt32)] ∧ h0.size ≤ d)) T3 39 #[.val (.ref a), .val (.ref ch), .val (.int (0 : Int32)), .val (.int (1 : Int32)), .val .null, .unset] [(.ref d)]
    have gd0 : h0.size ≤ d := Nat.le_trans (Nat.le_refl _) gd3
    have nad : a ≠ d := Nat.ne_of_lt (Nat.lt_of_lt_of_le Ea.lt gd0)
    refine s_astore A3 d3_39 (pc' := 41) rfl (ls' := #[.val (.ref a), .val (.ref ch), .val (.int (0 : Int32)), .val (.int (1 : Int32)), .val .null, .val (.ref d)]) rfl rfl ?_
    refine s_aloadN A3 d3_41 (pc' := 42) rfl rfl rfl ?_
    refine s_aload A3 d3_42 (pc' := 44) rfl rfl rfl ?_
    refine s_iloadN A3 d3_44 (pc' := 45) rfl rfl ?_
    have sz6 : h0.size ≤ T3.heap.size := K3.1
    have zs5 : n0 ≤ T3.heap.size := Nat.le_trans Z0 sz6
    refine g_static X3 hx hZ (y := (⟨"java/lang/StringUTF16", "coderFromArrayLen", "([BI)B"⟩ : MethodName)) hown (hw _ (List.mem_of_getElem? (i := 38) rfl)) (hw _ (List.mem_of_getElem? (i := 39) rfl)) (hw _ (List.mem_of_getElem? (i := 33) rfl)) (hw _ (List.mem_of_getElem? (i := 40) rfl)) (by decide) (argsL := [(.ref d), (.int (1 : Int32))]) (rest := [(.ref a)]) (c_codl_1 l Z a0 hw [] d c0 T3.heap n0 zs5 Ar3) pd_2 rfl rfl (hb hby d3_45) e3 (by rw [hml]; rfl) (pc' := 48) rfl (by decide) (W := 1) (Nat.le_of_eq rfl) (by decide) (by decide) (by decide) ?_
    intro v7 T7 L7 X7 hQ7
    have A7 := wk X7 hx hby
    have e7 : T7.heap = T7.heap := rfl
    obtain ⟨rfl, N7, hh7⟩ := hQ7
    have e7 : T7.heap = T3.heap := hh7
    have fr7 := Fr.app fr3 N7
    show Go p e below m (Fini s 1 1 (fun v h L => v = none ∧ Fr n0 L ∧ Keep h0 h [a] ∧ ∃ d, Fld Z h a "java/lang/String" "value" "[B" (.ref d) ∧ Fld Z h a "java/lang/String" "coder" "B" (.int 0) ∧ Ars Z h d .byte [(.int c0.toInt8.toInt32)] ∧ h0.size ≤ d)) T7 48 #[.val (.ref a), .val (.ref ch), .val (.int (0 : Int32)), .val (.int (1 : Int32)), .val .null, .val (.ref d)] [(.int (0 : Int32)), (.ref a)]
    have f8 := (Fld.keep F1 K3 nin0)
    have f9 := (Exa.keep Ea K3)
    refine g_putF X7 hx hZ hown (hw _ (List.mem_of_getElem? (i := 26) rfl)) Via.refl e7 f8 f9 (Or.inr ⟨(hw _ (List.mem_of_getElem? (i := 22) rfl)), rfl, hnm⟩) (hw _ (List.mem_of_getElem? (i := 6) rfl)) (ty := .byte) (by decide) rfl rfl (hb hby d3_48) (pc' := 51) rfl ?_
    intro T10 h10 X10 e10 W10
    have A10 := wk X10 hx hby
    have F10 := Fld.same W10 f8
    have kp11 := Keep.wr kp4 W10 (Or.inl (List.mem_of_getElem? (i := 0) rfl))
    have fr11 := Fr.snoc X10 fr7 ga
    refine s_aloadN A10 d3_51 (pc' := 52) rfl rfl rfl ?_
    refine s_aload A10 d3_52 (pc' := 54) rfl rfl rfl ?_
    have f12 := (Fld.other W10 (Fld.keep F0 K3 nin0) (Or.inr (slot_ne (Or.inr (hw _ (List.mem_of_getElem? (i := 21) rfl))) (Or.inr (hw _ (List.mem_of_getElem? (i := 22) rfl))) (by decide) (t := (.array .byte)) (by decide) (t' := .byte) (by decide))))
    have f13 := (Exa.wr W10 f9)
    refine g_putF X10 hx hZ hown (hw _ (List.mem_of_getElem? (i := 25) rfl)) Via.refl e10 f12 f13 (Or.inr ⟨(hw _ (List.mem_of_getElem? (i := 21) rfl)), rfl, hnm⟩) (hw _ (List.mem_of_getElem? (i := 6) rfl)) (ty := (.array .byte)) (by decide) rfl rfl (hb hby d3_54) (pc' := 57) rfl ?_
    intro T14 h14 X14 e14 W14
    have A14 := wk X14 hx hby
    have F14 := Fld.same W14 f12
    have kp15 := Keep.wr kp11 W14 (Or.inl (List.mem_of_getElem? (i := 0) rfl))
    have fr15 := Fr.snoc X14 fr11 ga
    have f16 := (Fld.other W14 F10 (Or.inr (slot_ne (Or.inr (hw _ (List.mem_of_getElem? (i := 22) rfl))) (Or.inr (hw _ (List.mem_of_getElem? (i := 21) rfl))) (by decide) (t := .byte) (by decide) (t' := (.array .byte)) (by decide))))
    have f17 := (Ars.other W14 (Ars.other W10 Ar3 nad.symm) nad.symm)
    exact g_retV X14 hx hlk hret (hb hby d3_57) (by rw [e14]; exact ⟨rfl, fr15, kp15, d, F14, f16, f17, gd0⟩) (by decide) (by decide)
theorem d2_0 : decode jdk_42_method_3_code 0 = .ok (.aload_n 0, 1) := by decide +kernel
theorem d2_1 : decode jdk_42_method_3_code 1 = .ok (.aload_n 1, 1) := by decide +kernel
theorem d2_2 : decode jdk_42_method_3_code 2 = .ok (.iconst 0, 1) := by decide +kernel
theorem d2_3 : decode jdk_42_method_3_code 3 = .ok (.aload_n 1, 1) := by decide +kernel
theorem d2_4 : decode jdk_42_method_3_code 4 = .ok (.arraylength, 1) := by decide +kernel
theorem d2_5 : decode jdk_42_method_3_code 5 = .ok (.aconst_null, 1) := by decide +kernel
theorem d2_6 : decode jdk_42_method_3_code 6 = .ok (.invokespecial 27, 3) := by decide +kernel
theorem d2_9 : decode jdk_42_method_3_code 9 = .ok (.return_, 1) := by decide +kernel
theorem ef_c_str_1 (m : MethodId) (x0 : Addr) (x1 : Addr) : entryFrame m #[(.ref x0), (.ref x1)] 2 = mkF m 0 #[.val (.ref x0), .val (.ref x1)] [] := by first | (simp [entryFrame, mkF, argsToLocals, Value.category, maxLocals]; done) | rfl
set_option maxRecDepth 65536 in
set_option maxHeartbeats 40000000 in
theorem c_str_1 (l : Launch) (Z : State) (a0 : Array Value) (hw : ∀ d ∈ tables_1, d.before a0 Z = true) (ws : List Jvm.Cond) (a ch : Addr) (cz : Int32) (c0 : Int32) (h0 : Heap) (n0 : Nat) (Z0 : n0 ≤ h0.size) (Ea : Exa Z h0 a "java/lang/String") (ga : n0 ≤ a) (F0 : Fld Z h0 a "java/lang/String" "value" "[B" .null) (F1 : Fld Z h0 a "java/lang/String" "coder" "B" (.int 0)) (A : Ars Z h0 ch .char [(.int c0)]) (hne : a ≠ ch) (O : Old Z n0 h0) (S : Sta Z Z.heap "java/lang/String" "COMPACT_STRINGS" "Z" (.int cz)) (hcz : ¬ cz = 0) (C0 : 0 ≤ c0.toInt ∧ c0.toInt ≤ 255) :
    Ctr l Z (⟨"java/lang/String", "<init>", "([C)V"⟩ : MethodName) jdk_42_method_3_code 2 none ws ({ frames := 3, cells := 1, slots := 1, locals := 52 } : Room) #[(.ref a), (.ref ch)] h0 (fun v h L => v = none ∧ Fr n0 L ∧ Keep h0 h [a] ∧ ∃ d, Fld Z h a "java/lang/String" "value" "[B" (.ref d) ∧ Fld Z h a "java/lang/String" "coder" "B" (.int 0) ∧ Ars Z h d .byte [(.int c0.toInt8.toInt32)] ∧ h0.size ≤ d) := by
  refine enter pn_2 ?_
  intro p e s m below meth c T0 X0 hx hby hml hret hlk hZ hown hnm e0
  have A0 := wk X0 hx hby
  have N0 := Fr.nil n0
  refine goIn (ef_c_str_1 m a ch) ?_
  show Go p e below m (Fini s 1 1 (fun v h L => v = none ∧ Fr n0 L ∧ Keep h0 h [a] ∧ ∃ d, Fld Z h a "java/lang/String" "value" "[B" (.ref d) ∧ Fld Z h a "java/lang/String" "coder" "B" (.int 0) ∧ Ars Z h d .byte [(.int c0.toInt8.toInt32)] ∧ h0.size ≤ d)) T0 0 #[.val (.ref a), .val (.ref ch)] []
  refine s_aloadN A0 d2_0 (pc' := 1) rfl rfl rfl ?_
  refine s_aloadN A0 d2_1 (pc' := 2) rfl rfl rfl ?_
  refine s_iconst A0 d2_2 (pc' := 3) rfl (v := (0 : Int32)) (by decide) ?_
  refine s_aloadN A0 d2_3 (pc' := 4) rfl rfl rfl ?_
  refine g_len X0 hx hZ e0 A (n := (1 : Int32)) rfl (hb hby d2_4) (pc' := 5) rfl ?_
  refine s_aconstNull A0 d2_5 (pc' := 6) rfl  ?_
  refine g_special X0 hx hZ (y := (⟨"java/lang/String", "<init>", "([CIILjava/lang/Void;)V"⟩ : MethodName)) rfl hown (hw _ (List.mem_of_getElem? (i := 12) rfl)) (hw _ (List.mem_of_getElem? (i := 13) rfl)) (hw _ (List.mem_of_getElem? (i := 7) rfl)) (hw _ (List.mem_of_getElem? (i := 15) rfl)) (by decide) (a := a) (argsL := [(.ref ch), (.int (0 : Int32)), (.int (1 : Int32)), .null]) (rest := []) (c_init4_1 l Z a0 hw [] a ch cz c0 h0 n0 Z0 Ea ga F0 F1 A hne O S hcz C0) pd_3 rfl rfl (hb hby d2_6) e0 (by rw [hml]; rfl) (pc' := 9) rfl (by decide) (W := 0) (Nat.le_of_eq rfl) (by decide) (by decide) (by decide) ?_
  intro v1 T1 L1 X1 hQ1
  have A1 := wk X1 hx hby
  have e1 : T1.heap = T1.heap := rfl
  obtain ⟨rfl, N1, K1, d, V1, C1, Ar1, gd1⟩ := hQ1
  have kp2 := Keep.trans (Keep.refl h0 [a]) K1 (allS (P := fun x => x ∈ [a] ∨ h0.size ≤ x) (Or.inl (List.mem_of_getElem? (i := 0) rfl)) all0)
  have fr1 := Fr.app N0 N1
  show Go p e below m (Fini s 1 1 (fun v h L => v = none ∧ Fr n0 L ∧ Keep h0 h [a] ∧ ∃ d, Fld Z h a "java/lang/String" "value" "[B" (.ref d) ∧ Fld Z h a "java/lang/String" "coder" "B" (.int 0) ∧ Ars Z h d .byte [(.int c0.toInt8.toInt32)] ∧ h0.size ≤ d)) T1 9 #[.val (.ref a), .val (.ref ch)] []
  exact g_retV X1 hx hlk hret (hb hby d2_9) (by exact ⟨rfl, fr1, K1, d, V1, C1, Ar1, gd1⟩) (by decide) (by decide)
theorem ef_c_cmp5_2 (m : MethodId) (x0 : Addr) (x1 : Int32) (x2 : Addr) (x3 : Int32) (x4 : Int32) : entryFrame m #[(.ref x0), (.int x1), (.ref x2), (.int x3), (.int x4)] 7 = mkF m 0 #[.val (.ref x0), .val (.int x1), .val (.ref x2), .val (.int x3), .val (.int x4), .unset, .unset] [] := by first | (simp [entryFrame, mkF, argsToLocals, Value.category, maxLocals]; done) | rfl
set_option maxRecDepth 65536 in
set_option maxHeartbeats 40000000 in
theorem c_cmp5_2 (l : Launch) (Z : State) (a0 : Array Value) (hw : ∀ d ∈ tables_1, d.before a0 Z = true) (ws : List Jvm.Cond) (a d : Addr) (c0 c1 : Int32) (h0 : Heap) (n0 : Nat) (Z0 : n0 ≤ h0.size) (A : Ars Z h0 a .char [(.int c0), (.int c1)]) (D : Ars Z h0 d .byte [(.int 0), (.int 0)]) (hne : a ≠ d) (gd : n0 ≤ d) (C0 : 0 ≤ c0.toInt ∧ c0.toInt ≤ 255) (C1 : 0 ≤ c1.toInt ∧ c1.toInt ≤ 255) :
    Ctr l Z (⟨"java/lang/StringUTF16", "compress", "([CI[BII)I"⟩ : MethodName) jdk_52_method_21_code 7 (some .int) ws ({ frames := 0, cells := 0, slots := 0, locals := 0 } : Room) #[(.ref a), (.int (0 : Int32)), (.ref d), (.int (0 : Int32)), (.int (2 : Int32))] h0 (fun v h L => v = some (.int 2) ∧ Fr n0 L ∧ Keep h0 h [d] ∧ Ars Z h d .byte [(.int c0.toInt8.toInt32), (.int c1.toInt8.toInt32)]) := by
  refine enter pn_7 ?_
  intro p e s m below meth c T0 X0 hx hby hml hret hlk hZ hown hnm e0
  have A0 := wk X0 hx hby
  have N0 := Fr.nil n0
  refine goIn (ef_c_cmp5_2 m a (0 : Int32) d (0 : Int32) (2 : Int32)) ?_
  show Go p e below m (Fini s 0 0 (fun v h L => v = some (.int 2) ∧ Fr n0 L ∧ Keep h0 h [d] ∧ Ars Z h d .byte [(.int c0.toInt8.toInt32), (.int c1.toInt8.toInt32)])) T0 0 #[.val (.ref a), .val (.int (0 : Int32)), .val (.ref d), .val (.int (0 : Int32)), .val (.int (2 : Int32)), .unset, .unset] []
  refine s_iconst A0 d7_0 (pc' := 1) rfl (v := (0 : Int32)) (by decide) ?_
  refine s_istore A0 d7_1 (pc' := 3) rfl (ls' := #[.val (.ref a), .val (.int (0 : Int32)), .val (.ref d), .val (.int (0 : Int32)), .val (.int (2 : Int32)), .val (.int (0 : Int32)), .unset]) rfl ?_
  refine s_iload A0 d7_3 (pc' := 5) rfl rfl ?_
  refine s_iload A0 d7_5 (pc' := 7) rfl rfl ?_
  refine s_icmpge A0 d7_7 (pY := 44) (pN := 10) (by decide) (by decide) rfl (fun c => absurd c (by decide)) (fun _ => ?_)
  refine s_aloadN A0 d7_10 (pc' := 11) rfl rfl rfl ?_
  refine s_iloadN A0 d7_11 (pc' := 12) rfl rfl ?_
  refine g_caload X0 hx hZ e0 A (by decide) (i := 0) (by decide) (v := (.int c0)) rfl (hb hby d7_12) (pc' := 13) rfl ?_
  refine s_istore A0 d7_13 (pc' := 15) rfl (ls' := #[.val (.ref a), .val (.int (0 : Int32)), .val (.ref d), .val (.int (0 : Int32)), .val (.int (2 : Int32)), .val (.int (0 : Int32)), .val (.int c0)]) rfl ?_
  refine s_iload A0 d7_15 (pc' := 17) rfl rfl ?_
  refine s_sipush A0 d7_17 (pc' := 20) rfl (v := (255 : Int32)) (by decide) ?_
  refine s_icmple A0 d7_20 (pY := 26) (pN := 23) (by decide) (by decide) rfl ?_ ?_
  · intro c20
    replace c20 := i_le c20
    rw [show (255 : Int32).toInt = 255 from by decide] at c20
    refine s_aloadN A0 d7_26 (pc' := 27) rfl rfl rfl ?_
    refine s_iloadN A0 d7_27 (pc' := 28) rfl rfl ?_
    refine s_iload A0 d7_28 (pc' := 30) rfl rfl ?_
    refine s_i2b A0 d7_30 (pc' := 31) rfl rfl ?_
    refine g_bastore X0 hx hZ e0 D (by decide) (i := 0) (by decide) (by simp) (v := (.int c0.toInt8.toInt32)) (congrArg Value.int (own_narb c0)) (hb hby d7_31) (pc' := 32) rfl ?_
    intro T1 h1 X1 e1 W1 Ar1
    have A1 := wk X1 hx hby
    have Ar1 : Ars Z h1 d .byte [(.int c0.toInt8.toInt32), (.int 0)] := Ar1
    have kp2 := Keep.wr (Keep.refl h0 [d]) W1 (Or.inl (List.mem_of_getElem? (i := 0) rfl))
    have fr2 := Fr.snoc X1 N0 gd
    refine s_iinc A1 d7_32 (pc' := 35) rfl (v := (1 : Int32)) (ls' := #[.val (.ref a), .val (.int (1 : Int32)), .val (.ref d), .val (.int (0 : Int32)), .val (.int (2 : Int32)), .val (.int (0 : Int32)), .val (.int c0)]) rfl (by decide) rfl ?_
    refine s_iinc A1 d7_35 (pc' := 38) rfl (v := (1 : Int32)) (ls' := #[.val (.ref a), .val (.int (1 : Int32)), .val (.ref d), .val (.int (1 : Int32)), .val (.int (2 : Int32)), .val (.int (0 : Int32)), .val (.int c0)]) rfl (by decide) rfl ?_
    refine s_iinc A1 d7_38 (pc' := 41) rfl (v := (1 : Int32)) (ls' := #[.val (.ref a), .val (.int (1 : Int32)), .val (.ref d), .val (.int (1 : Int32)), .val (.int (2 : Int32)), .val (.int (1 : Int32)), .val (.int c0)]) rfl (by decide) rfl ?_
    refine s_goto A1 d7_41 (pc' := 3) (by decide) (by decide) ?_
    refine s_iload A1 d7_3 (pc' := 5) rfl rfl ?_
    refine s_iload A1 d7_5 (pc' := 7) rfl rfl ?_
    refine s_icmpge A1 d7_7 (pY := 44) (pN := 10) (by decide) (by decide) rfl (fun c => absurd c (by decide)) (fun _ => ?_)
    refine s_aloadN A1 d7_10 (pc' := 11) rfl rfl rfl ?_
    refine s_iloadN A1 d7_11 (pc' := 12) rfl rfl ?_
    have f3 := (Ars.other W1 A hne)
    refine g_caload X1 hx hZ e1 f3 (by decide) (i := 1) (by decide) (v := (.int c1)) rfl (hb hby d7_12) (pc' := 13) rfl ?_
    refine s_istore A1 d7_13 (pc' := 15) rfl (ls' := #[.val (.ref a), .val (.int (1 : Int32)), .val (.ref d), .val (.int (1 : Int32)), .val (.int (2 : Int32)), .val (.int (1 : Int32)), .val (.int c1)]) rfl ?_
    refine s_iload A1 d7_15 (pc' := 17) rfl rfl ?_
    refine s_sipush A1 d7_17 (pc' := 20) rfl (v := (255 : Int32)) (by decide) ?_
    refine s_icmple A1 d7_20 (pY := 26) (pN := 23) (by decide) (by decide) rfl ?_ ?_
    · intro c20_4
      replace c20_4 := i_le c20_4
      rw [show (255 : Int32).toInt = 255 from by decide] at c20_4
      refine s_aloadN A1 d7_26 (pc' := 27) rfl rfl rfl ?_
      refine s_iloadN A1 d7_27 (pc' := 28) rfl rfl ?_
      refine s_iload A1 d7_28 (pc' := 30) rfl rfl ?_
      refine s_i2b A1 d7_30 (pc' := 31) rfl rfl ?_
      refine g_bastore X1 hx hZ e1 Ar1 (by decide) (i := 1) (by decide) (by simp) (v := (.int c1.toInt8.toInt32)) (congrArg Value.int (own_narb c1)) (hb hby d7_31) (pc' := 32) rfl ?_
      intro T5 h5 X5 e5 W5 Ar5
      have A5 := wk X5 hx hby
      have Ar5 : Ars Z h5 d .byte [(.int c0.toInt8.toInt32), (.int c1.toInt8.toInt32)] := Ar5
      have kp6 := Keep.wr kp2 W5 (Or.inl (List.mem_of_getElem? (i := 0) rfl))
      have fr6 := Fr.snoc X5 fr2 gd
      refine s_iinc A5 d7_32 (pc' := 35) rfl (v := (2 : Int32)) (ls' := #[.val (.ref a), .val (.int (2 : Int32)), .val (.ref d), .val (.int (1 : Int32)), .val (.int (2 : Int32)), .val (.int (1 : Int32)), .val (.int c1)]) rfl (by decide) rfl ?_
      refine s_iinc A5 d7_35 (pc' := 38) rfl (v := (2 : Int32)) (ls' := #[.val (.ref a), .val (.int (2 : Int32)), .val (.ref d), .val (.int (2 : Int32)), .val (.int (2 : Int32)), .val (.int (1 : Int32)), .val (.int c1)]) rfl (by decide) rfl ?_
      refine s_iinc A5 d7_38 (pc' := 41) rfl (v := (2 : Int32)) (ls' := #[.val (.ref a), .val (.int (2 : Int32)), .val (.ref d), .val (.int (2 : Int32)), .val (.int (2 : Int32)), .val (.int (2 : Int32)), .val (.int c1)]) rfl (by decide) rfl ?_
      refine s_goto A5 d7_41 (pc' := 3) (by decide) (by decide) ?_
      refine s_iload A5 d7_3 (pc' := 5) rfl rfl ?_
      refine s_iload A5 d7_5 (pc' := 7) rfl rfl ?_
      refine s_icmpge A5 d7_7 (pY := 44) (pN := 10) (by decide) (by decide) rfl (fun _ => ?_) (fun c => absurd c (by decide))
      refine s_iload A5 d7_44 (pc' := 46) rfl rfl ?_
      exact g_retI X5 hx hlk hret (hb hby d7_46) (by rw [e5]; exact ⟨rfl, fr6, kp6, Ar5⟩) (by decide) (by decide)
    · intro c20_4
      replace c20_4 := i_gt c20_4
      rw [show (255 : Int32).toInt = 255 from by decide] at c20_4
      exfalso; omega
  · intro c20
    replace c20 := i_gt c20
    rw [show (255 : Int32).toInt = 255 from by decide] at c20
    exfalso; omega
theorem ef_c_cmp3_2 (m : MethodId) (x0 : Addr) (x1 : Int32) (x2 : Int32) : entryFrame m #[(.ref x0), (.int x1), (.int x2)] 6 = mkF m 0 #[.val (.ref x0), .val (.int x1), .val (.int x2), .unset, .unset, .unset] [] := by first | (simp [entryFrame, mkF, argsToLocals, Value.category, maxLocals]; done) | rfl
set_option maxRecDepth 65536 in
set_option maxHeartbeats 40000000 in
theorem c_cmp3_2 (l : Launch) (Z : State) (a0 : Array Value) (hw : ∀ d ∈ tables_1, d.before a0 Z = true) (ws : List Jvm.Cond) (a : Addr) (c0 c1 : Int32) (h0 : Heap) (n0 : Nat) (Z0 : n0 ≤ h0.size) (A : Ars Z h0 a .char [(.int c0), (.int c1)]) (C0 : 0 ≤ c0.toInt ∧ c0.toInt ≤ 255) (C1 : 0 ≤ c1.toInt ∧ c1.toInt ≤ 255) :
    Ctr l Z (⟨"java/lang/StringUTF16", "compress", "([CII)[B"⟩ : MethodName) jdk_52_method_16_code 6 (some (.array .byte)) ws ({ frames := 1, cells := 1, slots := 2, locals := 18 } : Room) #[(.ref a), (.int (0 : Int32)), (.int (2 : Int32))] h0 (fun v h L => ∃ d, v = some (.ref d) ∧ Fr n0 L ∧ Keep h0 h [] ∧ Ars Z h d .byte [(.int c0.toInt8.toInt32), (.int c1.toInt8.toInt32)] ∧ h0.size ≤ d) := by
  refine enter pn_6 ?_
  intro p e s m below meth c T0 X0 hx hby hml hret hlk hZ hown hnm e0
  have A0 := wk X0 hx hby
  have N0 := Fr.nil n0
  refine goIn (ef_c_cmp3_2 m a (0 : Int32) (2 : Int32)) ?_
  show Go p e below m (Fini s 1 2 (fun v h L => ∃ d, v = some (.ref d) ∧ Fr n0 L ∧ Keep h0 h [] ∧ Ars Z h d .byte [(.int c0.toInt8.toInt32), (.int c1.toInt8.toInt32)] ∧ h0.size ≤ d)) T0 0 #[.val (.ref a), .val (.int (0 : Int32)), .val (.int (2 : Int32)), .unset, .unset, .unset] []
  refine s_iloadN A0 d6_0 (pc' := 1) rfl rfl ?_
  refine g_newarray X0 hx hZ e0 (hw _ (List.mem_of_getElem? (i := 20) rfl)) (by decide) (k0 := 2) (by decide) (by decide) (by decide) (by decide) (ad := "[B") (by decide) rfl (hb hby d6_1) (pc' := 3) rfl ?_
  intro T1 h1 a1 X1 e1 E1 ga1 Ar1 Ex1
  have A1 := wk X1 hx hby
  have Ar1 : Ars Z h1 a1 .byte [(.int 0), (.int 0)] := Ar1
  have la2 : a1 < h1.size := Ex1.lt
  have kp3 := Keep.ext (Keep.refl h0 []) E1
  refine s_astoreN A1 d6_3 (pc' := 4) rfl (ls' := #[.val (.ref a), .val (.int (0 : Int32)), .val (.int (2 : Int32)), .val (.ref a1), .unset, .unset]) rfl rfl ?_
  refine s_aloadN A1 d6_4 (pc' := 5) rfl rfl rfl ?_
  refine s_iloadN A1 d6_5 (pc' := 6) rfl rfl ?_
  refine s_aloadN A1 d6_6 (pc' := 7) rfl rfl rfl ?_
  refine s_iconst A1 d6_7 (pc' := 8) rfl (v := (0 : Int32)) (by decide) ?_
  refine s_iloadN A1 d6_8 (pc' := 9) rfl rfl ?_
  have f4 := (Ars.ext E1 A)
  have ge6 : h0.size ≤ a1 := by rw [ga1]; exact (Nat.le_refl _)
  have gn5 : n0 ≤ a1 := Nat.le_trans Z0 ge6
  have ne7 : a ≠ a1 := by rw [ga1]; exact Nat.ne_of_lt (Nat.lt_of_lt_of_le A.lt (Nat.le_refl _))
  have sz9 : h0.size ≤ h1.size := E1.1
  have zs8 : n0 ≤ h1.size := Nat.le_trans Z0 sz9
  refine g_static X1 hx hZ (y := (⟨"java/lang/StringUTF16", "compress", "([CI[BII)I"⟩ : MethodName)) hown (hw _ (List.mem_of_getElem? (i := 35) rfl)) (hw _ (List.mem_of_getElem? (i := 36) rfl)) (hw _ (List.mem_of_getElem? (i := 33) rfl)) (hw _ (List.mem_of_getElem? (i := 37) rfl)) (by decide) (argsL := [(.ref a), (.int (0 : Int32)), (.ref a1), (.int (0 : Int32)), (.int (2 : Int32))]) (rest := []) (c_cmp5_2 l Z a0 hw [] a a1 c0 c1 h1 n0 zs8 f4 Ar1 ne7 gn5 C0 C1) pd_0 rfl rfl (hb hby d6_9) e1 (by rw [hml]; rfl) (pc' := 12) rfl (by decide) (W := 0) (Nat.le_of_eq rfl) (by decide) (by decide) (by decide) ?_
  intro v10 T10 L10 X10 hQ10
  have A10 := wk X10 hx hby
  have e10 : T10.heap = T10.heap := rfl
  obtain ⟨rfl, N10, K10, Ar10⟩ := hQ10
  have kp11 := Keep.trans kp3 K10 (allS (P := fun x => x ∈ [] ∨ h0.size ≤ x) (Or.inr ge6) all0)
  have fr10 := Fr.app N0 N10
  show Go p e below m (Fini s 1 2 (fun v h L => ∃ d, v = some (.ref d) ∧ Fr n0 L ∧ Keep h0 h [] ∧ Ars Z h d .byte [(.int c0.toInt8.toInt32), (.int c1.toInt8.toInt32)] ∧ h0.size ≤ d)) T10 12 #[.val (.ref a), .val (.int (0 : Int32)), .val (.int (2 : Int32)), .val (.ref a1), .unset, .unset] [(.int (2 : Int32))]
  refine s_istore A10 d6_12 (pc' := 14) rfl (ls' := #[.val (.ref a), .val (.int (0 : Int32)), .val (.int (2 : Int32)), .val (.ref a1), .val (.int (2 : Int32)), .unset]) rfl ?_
  refine s_iload A10 d6_14 (pc' := 16) rfl rfl ?_
  refine s_iloadN A10 d6_16 (pc' := 17) rfl rfl ?_
  refine s_icmpeq A10 d6_17 (pY := 57) (pN := 20) (by decide) (by decide) rfl (fun _ => ?_) (fun c => absurd c (by decide))
  refine s_aloadN A10 d6_57 (pc' := 58) rfl rfl rfl ?_
  exact g_retA X10 hx hlk hret rfl rfl rfl (hb hby d6_58) (by rw [e10]; exact ⟨_, rfl, fr10, kp11, Ar10, ge6⟩) (by decide) (by decide)
theorem ef_c_codl_2 (m : MethodId) (x0 : Addr) (x1 : Int32) : entryFrame m #[(.ref x0), (.int x1)] 2 = mkF m 0 #[.val (.ref x0), .val (.int x1)] [] := by first | (simp [entryFrame, mkF, argsToLocals, Value.category, maxLocals]; done) | rfl
set_option maxRecDepth 65536 in
set_option maxHeartbeats 40000000 in
theorem c_codl_2 (l : Launch) (Z : State) (a0 : Array Value) (hw : ∀ d ∈ tables_1, d.before a0 Z = true) (ws : List Jvm.Cond) (d : Addr) (c0 c1 : Int32) (h0 : Heap) (n0 : Nat) (Z0 : n0 ≤ h0.size) (D : Ars Z h0 d .byte [(.int c0.toInt8.toInt32), (.int c1.toInt8.toInt32)]) :
    Ctr l Z (⟨"java/lang/StringUTF16", "coderFromArrayLen", "([BI)B"⟩ : MethodName) jdk_52_method_15_code 2 (some .byte) ws ({ frames := 0, cells := 0, slots := 0, locals := 0 } : Room) #[(.ref d), (.int (2 : Int32))] h0 (fun v h L => v = some (.int 0) ∧ Fr n0 L ∧ h = h0) := by
  refine enter pn_8 ?_
  intro p e s m below meth c T0 X0 hx hby hml hret hlk hZ hown hnm e0
  have A0 := wk X0 hx hby
  have N0 := Fr.nil n0
  refine goIn (ef_c_codl_2 m d (2 : Int32)) ?_
  show Go p e below m (Fini s 0 0 (fun v h L => v = some (.int 0) ∧ Fr n0 L ∧ h = h0)) T0 0 #[.val (.ref d), .val (.int (2 : Int32))] []
  refine s_iloadN A0 d8_0 (pc' := 1) rfl rfl ?_
  refine s_aloadN A0 d8_1 (pc' := 2) rfl rfl rfl ?_
  refine g_len X0 hx hZ e0 D (n := (2 : Int32)) rfl (hb hby d8_2) (pc' := 3) rfl ?_
  refine s_isub A0 d8_3 (pc' := 4) rfl (v := (0 : Int32)) (by decide) ?_
  refine s_bipush A0 d8_4 (pc' := 6) rfl (v := (31 : Int32)) (by decide) ?_
  refine s_iushr A0 d8_6 (pc' := 7) rfl (v := (0 : Int32)) (by decide) ?_
  refine s_i2b A0 d8_7 (pc' := 8) rfl (v := (0 : Int32)) (by decide) ?_
  exact g_ret X0 hx hlk hret rfl (Or.inl ⟨rfl, by simp, _, rfl⟩) (hb hby d8_8) ⟨rfl, N0, e0⟩ (by decide) (by decide)
theorem ef_c_init4_2 (m : MethodId) (x0 : Addr) (x1 : Addr) (x2 : Int32) (x3 : Int32) : entryFrame m #[(.ref x0), (.ref x1), (.int x2), (.int x3), .null] 6 = mkF m 0 #[.val (.ref x0), .val (.ref x1), .val (.int x2), .val (.int x3), .val .null, .unset] [] := by first | (simp [entryFrame, mkF, argsToLocals, Value.category, maxLocals]; done) | rfl
set_option maxRecDepth 65536 in
set_option maxHeartbeats 40000000 in
theorem c_init4_2 (l : Launch) (Z : State) (a0 : Array Value) (hw : ∀ d ∈ tables_1, d.before a0 Z = true) (ws : List Jvm.Cond) (a ch : Addr) (cz : Int32) (c0 c1 : Int32) (h0 : Heap) (n0 : Nat) (Z0 : n0 ≤ h0.size) (Ea : Exa Z h0 a "java/lang/String") (ga : n0 ≤ a) (F0 : Fld Z h0 a "java/lang/String" "value" "[B" .null) (F1 : Fld Z h0 a "java/lang/String" "coder" "B" (.int 0)) (A : Ars Z h0 ch .char [(.int c0), (.int c1)]) (hne : a ≠ ch) (O : Old Z n0 h0) (S : Sta Z Z.heap "java/lang/String" "COMPACT_STRINGS" "Z" (.int cz)) (hcz : ¬ cz = 0) (C0 : 0 ≤ c0.toInt ∧ c0.toInt ≤ 255) (C1 : 0 ≤ c1.toInt ∧ c1.toInt ≤ 255) :
    Ctr l Z (⟨"java/lang/String", "<init>", "([CIILjava/lang/Void;)V"⟩ : MethodName) jdk_42_method_149_code 6 none ws ({ frames := 2, cells := 1, slots := 2, locals := 35 } : Room) #[(.ref a), (.ref ch), (.int (0 : Int32)), (.int (2 : Int32)), .null] h0 (fun v h L => v = none ∧ Fr n0 L ∧ Keep h0 h [a] ∧ ∃ d, Fld Z h a "java/lang/String" "value" "[B" (.ref d) ∧ Fld Z h a "java/lang/String" "coder" "B" (.int 0) ∧ Ars Z h d .byte [(.int c0.toInt8.toInt32), (.int c1.toInt8.toInt32)] ∧ h0.size ≤ d) := by
  refine enter pn_3 ?_
  intro p e s m below meth c T0 X0 hx hby hml hret hlk hZ hown hnm e0
  have A0 := wk X0 hx hby
  have N0 := Fr.nil n0
  refine goIn (ef_c_init4_2 m a ch (0 : Int32) (2 : Int32)) ?_
  show Go p e below m (Fini s 1 2 (fun v h L => v = none ∧ Fr n0 L ∧ Keep h0 h [a] ∧ ∃ d, Fld Z h a "java/lang/String" "value" "[B" (.ref d) ∧ Fld Z h a "java/lang/String" "coder" "B" (.int 0) ∧ Ars Z h d .byte [(.int c0.toInt8.toInt32), (.int c1.toInt8.toInt32)] ∧ h0.size ≤ d)) T0 0 #[.val (.ref a), .val (.ref ch), .val (.int (0 : Int32)), .val (.int (2 : Int32)), .val .null, .unset] []
  refine s_aloadN A0 d3_0 (pc' := 1) rfl rfl rfl ?_
  refine g_initO X0 hx hZ hown (hw _ (List.mem_of_getElem? (i := 16) rfl)) (hw _ (List.mem_of_getElem? (i := 17) rfl)) (hw _ (List.mem_of_getElem? (i := 18) rfl)) e0 (by rw [hml]; rfl) (hb hby d3_1) (pc' := 4) rfl (by decide) (W := 0) (Nat.le_of_eq rfl) (by decide) ?_
  intro T1 X1 e1
  have A1 := wk X1 hx hby
  refine s_iloadN A1 d3_4 (pc' := 5) rfl rfl ?_
  refine s_ifne A1 d3_5 (pY := 27) (pN := 8) (by decide) (by decide) rfl (fun _ => ?_) (fun c => absurd c (by decide))
  have Sc := Sta.ext O.2 S
  refine g_getS X1 hx hZ hown (hw _ (List.mem_of_getElem? (i := 30) rfl)) Via.refl e1 Sc (hb hby d3_27) (pc' := 30) rfl ?_
  intro T2 X2 e2
  have A2 := wk X2 hx hby
  refine s_ifeq A2 d3_30 (pY := 58) (pN := 33) (by decide) (by decide) rfl ?_ ?_
  · intro c30
    replace c30 := iz_eq c30
    exact absurd (show cz = 0 from Int32.toInt_inj.mp c30) hcz
  · intro c30
    replace c30 := iz_ne c30
    refine s_aloadN A2 d3_33 (pc' := 34) rfl rfl rfl ?_
    refine s_iloadN A2 d3_34 (pc' := 35) rfl rfl ?_
    refine s_iloadN A2 d3_35 (pc' := 36) rfl rfl ?_
    refine g_static X2 hx hZ (y := (⟨"java/lang/StringUTF16", "compress", "([CII)[B"⟩ : MethodName)) hown (hw _ (List.mem_of_getElem? (i := 31) rfl)) (hw _ (List.mem_of_getElem? (i := 32) rfl)) (hw _ (List.mem_of_getElem? (i := 33) rfl)) (hw _ (List.mem_of_getElem? (i := 34) rfl)) (by decide) (argsL := [(.ref ch), (.int (0 : Int32)), (.int (2 : Int32))]) (rest := []) (c_cmp3_2 l Z a0 hw [] ch c0 c1 h0 n0 Z0 A C0 C1) pd_1 rfl rfl (hb hby d3_36) e2 (by rw [hml]; rfl) (pc' := 39) rfl (by decide) (W := 0) (Nat.le_of_eq rfl) (by decide) (by decide) (by decide) ?_
    intro v3 T3 L3 X3 hQ3
    have A3 := wk X3 hx hby
    have e3 : T3.heap = T3.heap := rfl
    obtain ⟨d, rfl, N3, K3, Ar3, gd3⟩ := hQ3
    have kp4 := Keep.trans (Keep.refl h0 [a]) K3 (fun x hx => absurd hx nin0)
    have fr3 := Fr.app N0 N3
    show Go p e below m (Fini s 1 2 (fun v h L => v = none ∧ Fr n0 L ∧ Keep h0 h [a] ∧ ∃ d, Fld Z h a "java/lang/String" "value" "[B" (.ref d) ∧ Fld Z h a "java/lang/String" "coder" "B" (.int 0) ∧ Ars Z h d .byte [(.int c0.toInt8.toInt32), (.int c1.toInt8.toInt32)] ∧ h0.size ≤ d)) T3 39 #[.val (.ref a), .val (.ref ch), .val (.int (0 : Int32)), .val (.int (2 : Int32)), .val .null, .unset] [(.ref d)]
    have gd0 : h0.size ≤ d := Nat.le_trans (Nat.le_refl _) gd3
    have nad : a ≠ d := Nat.ne_of_lt (Nat.lt_of_lt_of_le Ea.lt gd0)
    refine s_astore A3 d3_39 (pc' := 41) rfl (ls' := #[.val (.ref a), .val (.ref ch), .val (.int (0 : Int32)), .val (.int (2 : Int32)), .val .null, .val (.ref d)]) rfl rfl ?_
    refine s_aloadN A3 d3_41 (pc' := 42) rfl rfl rfl ?_
    refine s_aload A3 d3_42 (pc' := 44) rfl rfl rfl ?_
    refine s_iloadN A3 d3_44 (pc' := 45) rfl rfl ?_
    have sz6 : h0.size ≤ T3.heap.size := K3.1
    have zs5 : n0 ≤ T3.heap.size := Nat.le_trans Z0 sz6
    refine g_static X3 hx hZ (y := (⟨"java/lang/StringUTF16", "coderFromArrayLen", "([BI)B"⟩ : MethodName)) hown (hw _ (List.mem_of_getElem? (i := 38) rfl)) (hw _ (List.mem_of_getElem? (i := 39) rfl)) (hw _ (List.mem_of_getElem? (i := 33) rfl)) (hw _ (List.mem_of_getElem? (i := 40) rfl)) (by decide) (argsL := [(.ref d), (.int (2 : Int32))]) (rest := [(.ref a)]) (c_codl_2 l Z a0 hw [] d c0 c1 T3.heap n0 zs5 Ar3) pd_2 rfl rfl (hb hby d3_45) e3 (by rw [hml]; rfl) (pc' := 48) rfl (by decide) (W := 1) (Nat.le_of_eq rfl) (by decide) (by decide) (by decide) ?_
    intro v7 T7 L7 X7 hQ7
    have A7 := wk X7 hx hby
    have e7 : T7.heap = T7.heap := rfl
    obtain ⟨rfl, N7, hh7⟩ := hQ7
    have e7 : T7.heap = T3.heap := hh7
    have fr7 := Fr.app fr3 N7
    show Go p e below m (Fini s 1 2 (fun v h L => v = none ∧ Fr n0 L ∧ Keep h0 h [a] ∧ ∃ d, Fld Z h a "java/lang/String" "value" "[B" (.ref d) ∧ Fld Z h a "java/lang/String" "coder" "B" (.int 0) ∧ Ars Z h d .byte [(.int c0.toInt8.toInt32), (.int c1.toInt8.toInt32)] ∧ h0.size ≤ d)) T7 48 #[.val (.ref a), .val (.ref ch), .val (.int (0 : Int32)), .val (.int (2 : Int32)), .val .null, .val (.ref d)] [(.int (0 : Int32)), (.ref a)]
    have f8 := (Fld.keep F1 K3 nin0)
    have f9 := (Exa.keep Ea K3)
    refine g_putF X7 hx hZ hown (hw _ (List.mem_of_getElem? (i := 26) rfl)) Via.refl e7 f8 f9 (Or.inr ⟨(hw _ (List.mem_of_getElem? (i := 22) rfl)), rfl, hnm⟩) (hw _ (List.mem_of_getElem? (i := 6) rfl)) (ty := .byte) (by decide) rfl rfl (hb hby d3_48) (pc' := 51) rfl ?_
    intro T10 h10 X10 e10 W10
    have A10 := wk X10 hx hby
    have F10 := Fld.same W10 f8
    have kp11 := Keep.wr kp4 W10 (Or.inl (List.mem_of_getElem? (i := 0) rfl))
    have fr11 := Fr.snoc X10 fr7 ga
    refine s_aloadN A10 d3_51 (pc' := 52) rfl rfl rfl ?_
    refine s_aload A10 d3_52 (pc' := 54) rfl rfl rfl ?_
    have f12 := (Fld.other W10 (Fld.keep F0 K3 nin0) (Or.inr (slot_ne (Or.inr (hw _ (List.mem_of_getElem? (i := 21) rfl))) (Or.inr (hw _ (List.mem_of_getElem? (i := 22) rfl))) (by decide) (t := (.array .byte)) (by decide) (t' := .byte) (by decide))))
    have f13 := (Exa.wr W10 f9)
    refine g_putF X10 hx hZ hown (hw _ (List.mem_of_getElem? (i := 25) rfl)) Via.refl e10 f12 f13 (Or.inr ⟨(hw _ (List.mem_of_getElem? (i := 21) rfl)), rfl, hnm⟩) (hw _ (List.mem_of_getElem? (i := 6) rfl)) (ty := (.array .byte)) (by decide) rfl rfl (hb hby d3_54) (pc' := 57) rfl ?_
    intro T14 h14 X14 e14 W14
    have A14 := wk X14 hx hby
    have F14 := Fld.same W14 f12
    have kp15 := Keep.wr kp11 W14 (Or.inl (List.mem_of_getElem? (i := 0) rfl))
    have fr15 := Fr.snoc X14 fr11 ga
    have f16 := (Fld.other W14 F10 (Or.inr (slot_ne (Or.inr (hw _ (List.mem_of_getElem? (i := 22) rfl))) (Or.inr (hw _ (List.mem_of_getElem? (i := 21) rfl))) (by decide) (t := .byte) (by decide) (t' := (.array .byte)) (by decide))))
    have f17 := (Ars.other W14 (Ars.other W10 Ar3 nad.symm) nad.symm)
    exact g_retV X14 hx hlk hret (hb hby d3_57) (by rw [e14]; exact ⟨rfl, fr15, kp15, d, F14, f16, f17, gd0⟩) (by decide) (by decide)
theorem ef_c_str_2 (m : MethodId) (x0 : Addr) (x1 : Addr) : entryFrame m #[(.ref x0), (.ref x1)] 2 = mkF m 0 #[.val (.ref x0), .val (.ref x1)] [] := by first | (simp [entryFrame, mkF, argsToLocals, Value.category, maxLocals]; done) | rfl
set_option maxRecDepth 65536 in
set_option maxHeartbeats 40000000 in
theorem c_str_2 (l : Launch) (Z : State) (a0 : Array Value) (hw : ∀ d ∈ tables_1, d.before a0 Z = true) (ws : List Jvm.Cond) (a ch : Addr) (cz : Int32) (c0 c1 : Int32) (h0 : Heap) (n0 : Nat) (Z0 : n0 ≤ h0.size) (Ea : Exa Z h0 a "java/lang/String") (ga : n0 ≤ a) (F0 : Fld Z h0 a "java/lang/String" "value" "[B" .null) (F1 : Fld Z h0 a "java/lang/String" "coder" "B" (.int 0)) (A : Ars Z h0 ch .char [(.int c0), (.int c1)]) (hne : a ≠ ch) (O : Old Z n0 h0) (S : Sta Z Z.heap "java/lang/String" "COMPACT_STRINGS" "Z" (.int cz)) (hcz : ¬ cz = 0) (C0 : 0 ≤ c0.toInt ∧ c0.toInt ≤ 255) (C1 : 0 ≤ c1.toInt ∧ c1.toInt ≤ 255) :
    Ctr l Z (⟨"java/lang/String", "<init>", "([C)V"⟩ : MethodName) jdk_42_method_3_code 2 none ws ({ frames := 3, cells := 1, slots := 2, locals := 52 } : Room) #[(.ref a), (.ref ch)] h0 (fun v h L => v = none ∧ Fr n0 L ∧ Keep h0 h [a] ∧ ∃ d, Fld Z h a "java/lang/String" "value" "[B" (.ref d) ∧ Fld Z h a "java/lang/String" "coder" "B" (.int 0) ∧ Ars Z h d .byte [(.int c0.toInt8.toInt32), (.int c1.toInt8.toInt32)] ∧ h0.size ≤ d) := by
  refine enter pn_2 ?_
  intro p e s m below meth c T0 X0 hx hby hml hret hlk hZ hown hnm e0
  have A0 := wk X0 hx hby
  have N0 := Fr.nil n0
  refine goIn (ef_c_str_2 m a ch) ?_
  show Go p e below m (Fini s 1 2 (fun v h L => v = none ∧ Fr n0 L ∧ Keep h0 h [a] ∧ ∃ d, Fld Z h a "java/lang/String" "value" "[B" (.ref d) ∧ Fld Z h a "java/lang/String" "coder" "B" (.int 0) ∧ Ars Z h d .byte [(.int c0.toInt8.toInt32), (.int c1.toInt8.toInt32)] ∧ h0.size ≤ d)) T0 0 #[.val (.ref a), .val (.ref ch)] []
  refine s_aloadN A0 d2_0 (pc' := 1) rfl rfl rfl ?_
  refine s_aloadN A0 d2_1 (pc' := 2) rfl rfl rfl ?_
  refine s_iconst A0 d2_2 (pc' := 3) rfl (v := (0 : Int32)) (by decide) ?_
  refine s_aloadN A0 d2_3 (pc' := 4) rfl rfl rfl ?_
  refine g_len X0 hx hZ e0 A (n := (2 : Int32)) rfl (hb hby d2_4) (pc' := 5) rfl ?_
  refine s_aconstNull A0 d2_5 (pc' := 6) rfl  ?_
  refine g_special X0 hx hZ (y := (⟨"java/lang/String", "<init>", "([CIILjava/lang/Void;)V"⟩ : MethodName)) rfl hown (hw _ (List.mem_of_getElem? (i := 12) rfl)) (hw _ (List.mem_of_getElem? (i := 13) rfl)) (hw _ (List.mem_of_getElem? (i := 7) rfl)) (hw _ (List.mem_of_getElem? (i := 15) rfl)) (by decide) (a := a) (argsL := [(.ref ch), (.int (0 : Int32)), (.int (2 : Int32)), .null]) (rest := []) (c_init4_2 l Z a0 hw [] a ch cz c0 c1 h0 n0 Z0 Ea ga F0 F1 A hne O S hcz C0 C1) pd_3 rfl rfl (hb hby d2_6) e0 (by rw [hml]; rfl) (pc' := 9) rfl (by decide) (W := 0) (Nat.le_of_eq rfl) (by decide) (by decide) (by decide) ?_
  intro v1 T1 L1 X1 hQ1
  have A1 := wk X1 hx hby
  have e1 : T1.heap = T1.heap := rfl
  obtain ⟨rfl, N1, K1, d, V1, C1, Ar1, gd1⟩ := hQ1
  have kp2 := Keep.trans (Keep.refl h0 [a]) K1 (allS (P := fun x => x ∈ [a] ∨ h0.size ≤ x) (Or.inl (List.mem_of_getElem? (i := 0) rfl)) all0)
  have fr1 := Fr.app N0 N1
  show Go p e below m (Fini s 1 2 (fun v h L => v = none ∧ Fr n0 L ∧ Keep h0 h [a] ∧ ∃ d, Fld Z h a "java/lang/String" "value" "[B" (.ref d) ∧ Fld Z h a "java/lang/String" "coder" "B" (.int 0) ∧ Ars Z h d .byte [(.int c0.toInt8.toInt32), (.int c1.toInt8.toInt32)] ∧ h0.size ≤ d)) T1 9 #[.val (.ref a), .val (.ref ch)] []
  exact g_retV X1 hx hlk hret (hb hby d2_9) (by exact ⟨rfl, fr1, K1, d, V1, C1, Ar1, gd1⟩) (by decide) (by decide)
theorem ef_c_cmp5_3 (m : MethodId) (x0 : Addr) (x1 : Int32) (x2 : Addr) (x3 : Int32) (x4 : Int32) : entryFrame m #[(.ref x0), (.int x1), (.ref x2), (.int x3), (.int x4)] 7 = mkF m 0 #[.val (.ref x0), .val (.int x1), .val (.ref x2), .val (.int x3), .val (.int x4), .unset, .unset] [] := by first | (simp [entryFrame, mkF, argsToLocals, Value.category, maxLocals]; done) | rfl
set_option maxRecDepth 65536 in
set_option maxHeartbeats 40000000 in
theorem c_cmp5_3 (l : Launch) (Z : State) (a0 : Array Value) (hw : ∀ d ∈ tables_1, d.before a0 Z = true) (ws : List Jvm.Cond) (a d : Addr) (c0 c1 c2 : Int32) (h0 : Heap) (n0 : Nat) (Z0 : n0 ≤ h0.size) (A : Ars Z h0 a .char [(.int c0), (.int c1), (.int c2)]) (D : Ars Z h0 d .byte [(.int 0), (.int 0), (.int 0)]) (hne : a ≠ d) (gd : n0 ≤ d) (C0 : 0 ≤ c0.toInt ∧ c0.toInt ≤ 255) (C1 : 0 ≤ c1.toInt ∧ c1.toInt ≤ 255) (C2 : 0 ≤ c2.toInt ∧ c2.toInt ≤ 255) :
    Ctr l Z (⟨"java/lang/StringUTF16", "compress", "([CI[BII)I"⟩ : MethodName) jdk_52_method_21_code 7 (some .int) ws ({ frames := 0, cells := 0, slots := 0, locals := 0 } : Room) #[(.ref a), (.int (0 : Int32)), (.ref d), (.int (0 : Int32)), (.int (3 : Int32))] h0 (fun v h L => v = some (.int 3) ∧ Fr n0 L ∧ Keep h0 h [d] ∧ Ars Z h d .byte [(.int c0.toInt8.toInt32), (.int c1.toInt8.toInt32), (.int c2.toInt8.toInt32)]) := by
  refine enter pn_7 ?_
  intro p e s m below meth c T0 X0 hx hby hml hret hlk hZ hown hnm e0
  have A0 := wk X0 hx hby
  have N0 := Fr.nil n0
  refine goIn (ef_c_cmp5_3 m a (0 : Int32) d (0 : Int32) (3 : Int32)) ?_
  show Go p e below m (Fini s 0 0 (fun v h L => v = some (.int 3) ∧ Fr n0 L ∧ Keep h0 h [d] ∧ Ars Z h d .byte [(.int c0.toInt8.toInt32), (.int c1.toInt8.toInt32), (.int c2.toInt8.toInt32)])) T0 0 #[.val (.ref a), .val (.int (0 : Int32)), .val (.ref d), .val (.int (0 : Int32)), .val (.int (3 : Int32)), .unset, .unset] []
  refine s_iconst A0 d7_0 (pc' := 1) rfl (v := (0 : Int32)) (by decide) ?_
  refine s_istore A0 d7_1 (pc' := 3) rfl (ls' := #[.val (.ref a), .val (.int (0 : Int32)), .val (.ref d), .val (.int (0 : Int32)), .val (.int (3 : Int32)), .val (.int (0 : Int32)), .unset]) rfl ?_
  refine s_iload A0 d7_3 (pc' := 5) rfl rfl ?_
  refine s_iload A0 d7_5 (pc' := 7) rfl rfl ?_
  refine s_icmpge A0 d7_7 (pY := 44) (pN := 10) (by decide) (by decide) rfl (fun c => absurd c (by decide)) (fun _ => ?_)
  refine s_aloadN A0 d7_10 (pc' := 11) rfl rfl rfl ?_
  refine s_iloadN A0 d7_11 (pc' := 12) rfl rfl ?_
  refine g_caload X0 hx hZ e0 A (by decide) (i := 0) (by decide) (v := (.int c0)) rfl (hb hby d7_12) (pc' := 13) rfl ?_
  refine s_istore A0 d7_13 (pc' := 15) rfl (ls' := #[.val (.ref a), .val (.int (0 : Int32)), .val (.ref d), .val (.int (0 : Int32)), .val (.int (3 : Int32)), .val (.int (0 : Int32)), .val (.int c0)]) rfl ?_
  refine s_iload A0 d7_15 (pc' := 17) rfl rfl ?_
  refine s_sipush A0 d7_17 (pc' := 20) rfl (v := (255 : Int32)) (by decide) ?_
  refine s_icmple A0 d7_20 (pY := 26) (pN := 23) (by decide) (by decide) rfl ?_ ?_
  · intro c20
    replace c20 := i_le c20
    rw [show (255 : Int32).toInt = 255 from by decide] at c20
    refine s_aloadN A0 d7_26 (pc' := 27) rfl rfl rfl ?_
    refine s_iloadN A0 d7_27 (pc' := 28) rfl rfl ?_
    refine s_iload A0 d7_28 (pc' := 30) rfl rfl ?_
    refine s_i2b A0 d7_30 (pc' := 31) rfl rfl ?_
    refine g_bastore X0 hx hZ e0 D (by decide) (i := 0) (by decide) (by simp) (v := (.int c0.toInt8.toInt32)) (congrArg Value.int (own_narb c0)) (hb hby d7_31) (pc' := 32) rfl ?_
    intro T1 h1 X1 e1 W1 Ar1
    have A1 := wk X1 hx hby
    have Ar1 : Ars Z h1 d .byte [(.int c0.toInt8.toInt32), (.int 0), (.int 0)] := Ar1
    have kp2 := Keep.wr (Keep.refl h0 [d]) W1 (Or.inl (List.mem_of_getElem? (i := 0) rfl))
    have fr2 := Fr.snoc X1 N0 gd
    refine s_iinc A1 d7_32 (pc' := 35) rfl (v := (1 : Int32)) (ls' := #[.val (.ref a), .val (.int (1 : Int32)), .val (.ref d), .val (.int (0 : Int32)), .val (.int (3 : Int32)), .val (.int (0 : Int32)), .val (.int c0)]) rfl (by decide) rfl ?_
    refine s_iinc A1 d7_35 (pc' := 38) rfl (v := (1 : Int32)) (ls' := #[.val (.ref a), .val (.int (1 : Int32)), .val (.ref d), .val (.int (1 : Int32)), .val (.int (3 : Int32)), .val (.int (0 : Int32)), .val (.int c0)]) rfl (by decide) rfl ?_
    refine s_iinc A1 d7_38 (pc' := 41) rfl (v := (1 : Int32)) (ls' := #[.val (.ref a), .val (.int (1 : Int32)), .val (.ref d), .val (.int (1 : Int32)), .val (.int (3 : Int32)), .val (.int (1 : Int32)), .val (.int c0)]) rfl (by decide) rfl ?_
    refine s_goto A1 d7_41 (pc' := 3) (by decide) (by decide) ?_
    refine s_iload A1 d7_3 (pc' := 5) rfl rfl ?_
    refine s_iload A1 d7_5 (pc' := 7) rfl rfl ?_
    refine s_icmpge A1 d7_7 (pY := 44) (pN := 10) (by decide) (by decide) rfl (fun c => absurd c (by decide)) (fun _ => ?_)
    refine s_aloadN A1 d7_10 (pc' := 11) rfl rfl rfl ?_
    refine s_iloadN A1 d7_11 (pc' := 12) rfl rfl ?_
    have f3 := (Ars.other W1 A hne)
    refine g_caload X1 hx hZ e1 f3 (by decide) (i := 1) (by decide) (v := (.int c1)) rfl (hb hby d7_12) (pc' := 13) rfl ?_
    refine s_istore A1 d7_13 (pc' := 15) rfl (ls' := #[.val (.ref a), .val (.int (1 : Int32)), .val (.ref d), .val (.int (1 : Int32)), .val (.int (3 : Int32)), .val (.int (1 : Int32)), .val (.int c1)]) rfl ?_
    refine s_iload A1 d7_15 (pc' := 17) rfl rfl ?_
    refine s_sipush A1 d7_17 (pc' := 20) rfl (v := (255 : Int32)) (by decide) ?_
    refine s_icmple A1 d7_20 (pY := 26) (pN := 23) (by decide) (by decide) rfl ?_ ?_
    · intro c20_4
      replace c20_4 := i_le c20_4
      rw [show (255 : Int32).toInt = 255 from by decide] at c20_4
      refine s_aloadN A1 d7_26 (pc' := 27) rfl rfl rfl ?_
      refine s_iloadN A1 d7_27 (pc' := 28) rfl rfl ?_
      refine s_iload A1 d7_28 (pc' := 30) rfl rfl ?_
      refine s_i2b A1 d7_30 (pc' := 31) rfl rfl ?_
      refine g_bastore X1 hx hZ e1 Ar1 (by decide) (i := 1) (by decide) (by simp) (v := (.int c1.toInt8.toInt32)) (congrArg Value.int (own_narb c1)) (hb hby d7_31) (pc' := 32) rfl ?_
      intro T5 h5 X5 e5 W5 Ar5
      have A5 := wk X5 hx hby
      have Ar5 : Ars Z h5 d .byte [(.int c0.toInt8.toInt32), (.int c1.toInt8.toInt32), (.int 0)] := Ar5
      have kp6 := Keep.wr kp2 W5 (Or.inl (List.mem_of_getElem? (i := 0) rfl))
      have fr6 := Fr.snoc X5 fr2 gd
      refine s_iinc A5 d7_32 (pc' := 35) rfl (v := (2 : Int32)) (ls' := #[.val (.ref a), .val (.int (2 : Int32)), .val (.ref d), .val (.int (1 : Int32)), .val (.int (3 : Int32)), .val (.int (1 : Int32)), .val (.int c1)]) rfl (by decide) rfl ?_
      refine s_iinc A5 d7_35 (pc' := 38) rfl (v := (2 : Int32)) (ls' := #[.val (.ref a), .val (.int (2 : Int32)), .val (.ref d), .val (.int (2 : Int32)), .val (.int (3 : Int32)), .val (.int (1 : Int32)), .val (.int c1)]) rfl (by decide) rfl ?_
      refine s_iinc A5 d7_38 (pc' := 41) rfl (v := (2 : Int32)) (ls' := #[.val (.ref a), .val (.int (2 : Int32)), .val (.ref d), .val (.int (2 : Int32)), .val (.int (3 : Int32)), .val (.int (2 : Int32)), .val (.int c1)]) rfl (by decide) rfl ?_
      refine s_goto A5 d7_41 (pc' := 3) (by decide) (by decide) ?_
      refine s_iload A5 d7_3 (pc' := 5) rfl rfl ?_
      refine s_iload A5 d7_5 (pc' := 7) rfl rfl ?_
      refine s_icmpge A5 d7_7 (pY := 44) (pN := 10) (by decide) (by decide) rfl (fun c => absurd c (by decide)) (fun _ => ?_)
      refine s_aloadN A5 d7_10 (pc' := 11) rfl rfl rfl ?_
      refine s_iloadN A5 d7_11 (pc' := 12) rfl rfl ?_
      have f7 := (Ars.other W5 f3 hne)
      refine g_caload X5 hx hZ e5 f7 (by decide) (i := 2) (by decide) (v := (.int c2)) rfl (hb hby d7_12) (pc' := 13) rfl ?_
      refine s_istore A5 d7_13 (pc' := 15) rfl (ls' := #[.val (.ref a), .val (.int (2 : Int32)), .val (.ref d), .val (.int (2 : Int32)), .val (.int (3 : Int32)), .val (.int (2 : Int32)), .val (.int c2)]) rfl ?_
      refine s_iload A5 d7_15 (pc' := 17) rfl rfl ?_
      refine s_sipush A5 d7_17 (pc' := 20) rfl (v := (255 : Int32)) (by decide) ?_
      refine s_icmple A5 d7_20 (pY := 26) (pN := 23) (by decide) (by decide) rfl ?_ ?_
      · intro c20_8
        replace c20_8 := i_le c20_8
        rw [show (255 : Int32).toInt = 255 from by decide] at c20_8
        refine s_aloadN A5 d7_26 (pc' := 27) rfl rfl rfl ?_
        refine s_iloadN A5 d7_27 (pc' := 28) rfl rfl ?_
        refine s_iload A5 d7_28 (pc' := 30) rfl rfl ?_
        refine s_i2b A5 d7_30 (pc' := 31) rfl rfl ?_
        refine g_bastore X5 hx hZ e5 Ar5 (by decide) (i := 2) (by decide) (by simp) (v := (.int c2.toInt8.toInt32)) (congrArg Value.int (own_narb c2)) (hb hby d7_31) (pc' := 32) rfl ?_
        intro T9 h9 X9 e9 W9 Ar9
        have A9 := wk X9 hx hby
        have Ar9 : Ars Z h9 d .byte [(.int c0.toInt8.toInt32), (.int c1.toInt8.toInt32), (.int c2.toInt8.toInt32)] := Ar9
        have kp10 := Keep.wr kp6 W9 (Or.inl (List.mem_of_getElem? (i := 0) rfl))
        have fr10 := Fr.snoc X9 fr6 gd
        refine s_iinc A9 d7_32 (pc' := 35) rfl (v := (3 : Int32)) (ls' := #[.val (.ref a), .val (.int (3 : Int32)), .val (.ref d), .val (.int (2 : Int32)), .val (.int (3 : Int32)), .val (.int (2 : Int32)), .val (.int c2)]) rfl (by decide) rfl ?_
        refine s_iinc A9 d7_35 (pc' := 38) rfl (v := (3 : Int32)) (ls' := #[.val (.ref a), .val (.int (3 : Int32)), .val (.ref d), .val (.int (3 : Int32)), .val (.int (3 : Int32)), .val (.int (2 : Int32)), .val (.int c2)]) rfl (by decide) rfl ?_
        refine s_iinc A9 d7_38 (pc' := 41) rfl (v := (3 : Int32)) (ls' := #[.val (.ref a), .val (.int (3 : Int32)), .val (.ref d), .val (.int (3 : Int32)), .val (.int (3 : Int32)), .val (.int (3 : Int32)), .val (.int c2)]) rfl (by decide) rfl ?_
        refine s_goto A9 d7_41 (pc' := 3) (by decide) (by decide) ?_
        refine s_iload A9 d7_3 (pc' := 5) rfl rfl ?_
        refine s_iload A9 d7_5 (pc' := 7) rfl rfl ?_
        refine s_icmpge A9 d7_7 (pY := 44) (pN := 10) (by decide) (by decide) rfl (fun _ => ?_) (fun c => absurd c (by decide))
        refine s_iload A9 d7_44 (pc' := 46) rfl rfl ?_
        exact g_retI X9 hx hlk hret (hb hby d7_46) (by rw [e9]; exact ⟨rfl, fr10, kp10, Ar9⟩) (by decide) (by decide)
      · intro c20_8
        replace c20_8 := i_gt c20_8
        rw [show (255 : Int32).toInt = 255 from by decide] at c20_8
        exfalso; omega
    · intro c20_4
      replace c20_4 := i_gt c20_4
      rw [show (255 : Int32).toInt = 255 from by decide] at c20_4
      exfalso; omega
  · intro c20
    replace c20 := i_gt c20
    rw [show (255 : Int32).toInt = 255 from by decide] at c20
    exfalso; omega
theorem ef_c_cmp3_3 (m : MethodId) (x0 : Addr) (x1 : Int32) (x2 : Int32) : entryFrame m #[(.ref x0), (.int x1), (.int x2)] 6 = mkF m 0 #[.val (.ref x0), .val (.int x1), .val (.int x2), .unset, .unset, .unset] [] := by first | (simp [entryFrame, mkF, argsToLocals, Value.category, maxLocals]; done) | rfl
set_option maxRecDepth 65536 in
set_option maxHeartbeats 40000000 in
theorem c_cmp3_3 (l : Launch) (Z : State) (a0 : Array Value) (hw : ∀ d ∈ tables_1, d.before a0 Z = true) (ws : List Jvm.Cond) (a : Addr) (c0 c1 c2 : Int32) (h0 : Heap) (n0 : Nat) (Z0 : n0 ≤ h0.size) (A : Ars Z h0 a .char [(.int c0), (.int c1), (.int c2)]) (C0 : 0 ≤ c0.toInt ∧ c0.toInt ≤ 255) (C1 : 0 ≤ c1.toInt ∧ c1.toInt ≤ 255) (C2 : 0 ≤ c2.toInt ∧ c2.toInt ≤ 255) :
    Ctr l Z (⟨"java/lang/StringUTF16", "compress", "([CII)[B"⟩ : MethodName) jdk_52_method_16_code 6 (some (.array .byte)) ws ({ frames := 1, cells := 1, slots := 3, locals := 18 } : Room) #[(.ref a), (.int (0 : Int32)), (.int (3 : Int32))] h0 (fun v h L => ∃ d, v = some (.ref d) ∧ Fr n0 L ∧ Keep h0 h [] ∧ Ars Z h d .byte [(.int c0.toInt8.toInt32), (.int c1.toInt8.toInt32), (.int c2.toInt8.toInt32)] ∧ h0.size ≤ d) := by
  refine enter pn_6 ?_
  intro p e s m below meth c T0 X0 hx hby hml hret hlk hZ hown hnm e0
  have A0 := wk X0 hx hby
  have N0 := Fr.nil n0
  refine goIn (ef_c_cmp3_3 m a (0 : Int32) (3 : Int32)) ?_
  show Go p e below m (Fini s 1 3 (fun v h L => ∃ d, v = some (.ref d) ∧ Fr n0 L ∧ Keep h0 h [] ∧ Ars Z h d .byte [(.int c0.toInt8.toInt32), (.int c1.toInt8.toInt32), (.int c2.toInt8.toInt32)] ∧ h0.size ≤ d)) T0 0 #[.val (.ref a), .val (.int (0 : Int32)), .val (.int (3 : Int32)), .unset, .unset, .unset] []
  refine s_iloadN A0 d6_0 (pc' := 1) rfl rfl ?_
  refine g_newarray X0 hx hZ e0 (hw _ (List.mem_of_getElem? (i := 20) rfl)) (by decide) (k0 := 3) (by decide) (by decide) (by decide) (by decide) (ad := "[B") (by decide) rfl (hb hby d6_1) (pc' := 3) rfl ?_
  intro T1 h1 a1 X1 e1 E1 ga1 Ar1 Ex1
  have A1 := wk X1 hx hby
  have Ar1 : Ars Z h1 a1 .byte [(.int 0), (.int 0), (.int 0)] := Ar1
  have la2 : a1 < h1.size := Ex1.lt
  have kp3 := Keep.ext (Keep.refl h0 []) E1
  refine s_astoreN A1 d6_3 (pc' := 4) rfl (ls' := #[.val (.ref a), .val (.int (0 : Int32)), .val (.int (3 : Int32)), .val (.ref a1), .unset, .unset]) rfl rfl ?_
  refine s_aloadN A1 d6_4 (pc' := 5) rfl rfl rfl ?_
  refine s_iloadN A1 d6_5 (pc' := 6) rfl rfl ?_
  refine s_aloadN A1 d6_6 (pc' := 7) rfl rfl rfl ?_
  refine s_iconst A1 d6_7 (pc' := 8) rfl (v := (0 : Int32)) (by decide) ?_
  refine s_iloadN A1 d6_8 (pc' := 9) rfl rfl ?_
  have f4 := (Ars.ext E1 A)
  have ge6 : h0.size ≤ a1 := by rw [ga1]; exact (Nat.le_refl _)
  have gn5 : n0 ≤ a1 := Nat.le_trans Z0 ge6
  have ne7 : a ≠ a1 := by rw [ga1]; exact Nat.ne_of_lt (Nat.lt_of_lt_of_le A.lt (Nat.le_refl _))
  have sz9 : h0.size ≤ h1.size := E1.1
  have zs8 : n0 ≤ h1.size := Nat.le_trans Z0 sz9
  refine g_static X1 hx hZ (y := (⟨"java/lang/StringUTF16", "compress", "([CI[BII)I"⟩ : MethodName)) hown (hw _ (List.mem_of_getElem? (i := 35) rfl)) (hw _ (List.mem_of_getElem? (i := 36) rfl)) (hw _ (List.mem_of_getElem? (i := 33) rfl)) (hw _ (List.mem_of_getElem? (i := 37) rfl)) (by decide) (argsL := [(.ref a), (.int (0 : Int32)), (.ref a1), (.int (0 : Int32)), (.int (3 : Int32))]) (rest := []) (c_cmp5_3 l Z a0 hw [] a a1 c0 c1 c2 h1 n0 zs8 f4 Ar1 ne7 gn5 C0 C1 C2) pd_0 rfl rfl (hb hby d6_9) e1 (by rw [hml]; rfl) (pc' := 12) rfl (by decide) (W := 0) (Nat.le_of_eq rfl) (by decide) (by decide) (by decide) ?_
  intro v10 T10 L10 X10 hQ10
  have A10 := wk X10 hx hby
  have e10 : T10.heap = T10.heap := rfl
  obtain ⟨rfl, N10, K10, Ar10⟩ := hQ10
  have kp11 := Keep.trans kp3 K10 (allS (P := fun x => x ∈ [] ∨ h0.size ≤ x) (Or.inr ge6) all0)
  have fr10 := Fr.app N0 N10
  show Go p e below m (Fini s 1 3 (fun v h L => ∃ d, v = some (.ref d) ∧ Fr n0 L ∧ Keep h0 h [] ∧ Ars Z h d .byte [(.int c0.toInt8.toInt32), (.int c1.toInt8.toInt32), (.int c2.toInt8.toInt32)] ∧ h0.size ≤ d)) T10 12 #[.val (.ref a), .val (.int (0 : Int32)), .val (.int (3 : Int32)), .val (.ref a1), .unset, .unset] [(.int (3 : Int32))]
  refine s_istore A10 d6_12 (pc' := 14) rfl (ls' := #[.val (.ref a), .val (.int (0 : Int32)), .val (.int (3 : Int32)), .val (.ref a1), .val (.int (3 : Int32)), .unset]) rfl ?_
  refine s_iload A10 d6_14 (pc' := 16) rfl rfl ?_
  refine s_iloadN A10 d6_16 (pc' := 17) rfl rfl ?_
  refine s_icmpeq A10 d6_17 (pY := 57) (pN := 20) (by decide) (by decide) rfl (fun _ => ?_) (fun c => absurd c (by decide))
  refine s_aloadN A10 d6_57 (pc' := 58) rfl rfl rfl ?_
  exact g_retA X10 hx hlk hret rfl rfl rfl (hb hby d6_58) (by rw [e10]; exact ⟨_, rfl, fr10, kp11, Ar10, ge6⟩) (by decide) (by decide)
theorem ef_c_codl_3 (m : MethodId) (x0 : Addr) (x1 : Int32) : entryFrame m #[(.ref x0), (.int x1)] 2 = mkF m 0 #[.val (.ref x0), .val (.int x1)] [] := by first | (simp [entryFrame, mkF, argsToLocals, Value.category, maxLocals]; done) | rfl
set_option maxRecDepth 65536 in
set_option maxHeartbeats 40000000 in
theorem c_codl_3 (l : Launch) (Z : State) (a0 : Array Value) (hw : ∀ d ∈ tables_1, d.before a0 Z = true) (ws : List Jvm.Cond) (d : Addr) (c0 c1 c2 : Int32) (h0 : Heap) (n0 : Nat) (Z0 : n0 ≤ h0.size) (D : Ars Z h0 d .byte [(.int c0.toInt8.toInt32), (.int c1.toInt8.toInt32), (.int c2.toInt8.toInt32)]) :
    Ctr l Z (⟨"java/lang/StringUTF16", "coderFromArrayLen", "([BI)B"⟩ : MethodName) jdk_52_method_15_code 2 (some .byte) ws ({ frames := 0, cells := 0, slots := 0, locals := 0 } : Room) #[(.ref d), (.int (3 : Int32))] h0 (fun v h L => v = some (.int 0) ∧ Fr n0 L ∧ h = h0) := by
  refine enter pn_8 ?_
  intro p e s m below meth c T0 X0 hx hby hml hret hlk hZ hown hnm e0
  have A0 := wk X0 hx hby
  have N0 := Fr.nil n0
  refine goIn (ef_c_codl_3 m d (3 : Int32)) ?_
  show Go p e below m (Fini s 0 0 (fun v h L => v = some (.int 0) ∧ Fr n0 L ∧ h = h0)) T0 0 #[.val (.ref d), .val (.int (3 : Int32))] []
  refine s_iloadN A0 d8_0 (pc' := 1) rfl rfl ?_
  refine s_aloadN A0 d8_1 (pc' := 2) rfl rfl rfl ?_
  refine g_len X0 hx hZ e0 D (n := (3 : Int32)) rfl (hb hby d8_2) (pc' := 3) rfl ?_
  refine s_isub A0 d8_3 (pc' := 4) rfl (v := (0 : Int32)) (by decide) ?_
  refine s_bipush A0 d8_4 (pc' := 6) rfl (v := (31 : Int32)) (by decide) ?_
  refine s_iushr A0 d8_6 (pc' := 7) rfl (v := (0 : Int32)) (by decide) ?_
  refine s_i2b A0 d8_7 (pc' := 8) rfl (v := (0 : Int32)) (by decide) ?_
  exact g_ret X0 hx hlk hret rfl (Or.inl ⟨rfl, by simp, _, rfl⟩) (hb hby d8_8) ⟨rfl, N0, e0⟩ (by decide) (by decide)
theorem ef_c_init4_3 (m : MethodId) (x0 : Addr) (x1 : Addr) (x2 : Int32) (x3 : Int32) : entryFrame m #[(.ref x0), (.ref x1), (.int x2), (.int x3), .null] 6 = mkF m 0 #[.val (.ref x0), .val (.ref x1), .val (.int x2), .val (.int x3), .val .null, .unset] [] := by first | (simp [entryFrame, mkF, argsToLocals, Value.category, maxLocals]; done) | rfl
set_option maxRecDepth 65536 in
set_option maxHeartbeats 40000000 in
theorem c_init4_3 (l : Launch) (Z : State) (a0 : Array Value) (hw : ∀ d ∈ tables_1, d.before a0 Z = true) (ws : List Jvm.Cond) (a ch : Addr) (cz : Int32) (c0 c1 c2 : Int32) (h0 : Heap) (n0 : Nat) (Z0 : n0 ≤ h0.size) (Ea : Exa Z h0 a "java/lang/String") (ga : n0 ≤ a) (F0 : Fld Z h0 a "java/lang/String" "value" "[B" .null) (F1 : Fld Z h0 a "java/lang/String" "coder" "B" (.int 0)) (A : Ars Z h0 ch .char [(.int c0), (.int c1), (.int c2)]) (hne : a ≠ ch) (O : Old Z n0 h0) (S : Sta Z Z.heap "java/lang/String" "COMPACT_STRINGS" "Z" (.int cz)) (hcz : ¬ cz = 0) (C0 : 0 ≤ c0.toInt ∧ c0.toInt ≤ 255) (C1 : 0 ≤ c1.toInt ∧ c1.toInt ≤ 255) (C2 : 0 ≤ c2.toInt ∧ c2.toInt ≤ 255) :
    Ctr l Z (⟨"java/lang/String", "<init>", "([CIILjava/lang/Void;)V"⟩ : MethodName) jdk_42_method_149_code 6 none ws ({ frames := 2, cells := 1, slots := 3, locals := 35 } : Room) #[(.ref a), (.ref ch), (.int (0 : Int32)), (.int (3 : Int32)), .null] h0 (fun v h L => v = none ∧ Fr n0 L ∧ Keep h0 h [a] ∧ ∃ d, Fld Z h a "java/lang/String" "value" "[B" (.ref d) ∧ Fld Z h a "java/lang/String" "coder" "B" (.int 0) ∧ Ars Z h d .byte [(.int c0.toInt8.toInt32), (.int c1.toInt8.toInt32), (.int c2.toInt8.toInt32)] ∧ h0.size ≤ d) := by
  refine enter pn_3 ?_
  intro p e s m below meth c T0 X0 hx hby hml hret hlk hZ hown hnm e0
  have A0 := wk X0 hx hby
  have N0 := Fr.nil n0
  refine goIn (ef_c_init4_3 m a ch (0 : Int32) (3 : Int32)) ?_
  show Go p e below m (Fini s 1 3 (fun v h L => v = none ∧ Fr n0 L ∧ Keep h0 h [a] ∧ ∃ d, Fld Z h a "java/lang/String" "value" "[B" (.ref d) ∧ Fld Z h a "java/lang/String" "coder" "B" (.int 0) ∧ Ars Z h d .byte [(.int c0.toInt8.toInt32), (.int c1.toInt8.toInt32), (.int c2.toInt8.toInt32)] ∧ h0.size ≤ d)) T0 0 #[.val (.ref a), .val (.ref ch), .val (.int (0 : Int32)), .val (.int (3 : Int32)), .val .null, .unset] []
  refine s_aloadN A0 d3_0 (pc' := 1) rfl rfl rfl ?_
  refine g_initO X0 hx hZ hown (hw _ (List.mem_of_getElem? (i := 16) rfl)) (hw _ (List.mem_of_getElem? (i := 17) rfl)) (hw _ (List.mem_of_getElem? (i := 18) rfl)) e0 (by rw [hml]; rfl) (hb hby d3_1) (pc' := 4) rfl (by decide) (W := 0) (Nat.le_of_eq rfl) (by decide) ?_
  intro T1 X1 e1
  have A1 := wk X1 hx hby
  refine s_iloadN A1 d3_4 (pc' := 5) rfl rfl ?_
  refine s_ifne A1 d3_5 (pY := 27) (pN := 8) (by decide) (by decide) rfl (fun _ => ?_) (fun c => absurd c (by decide))
  have Sc := Sta.ext O.2 S
  refine g_getS X1 hx hZ hown (hw _ (List.mem_of_getElem? (i := 30) rfl)) Via.refl e1 Sc (hb hby d3_27) (pc' := 30) rfl ?_
  intro T2 X2 e2
  have A2 := wk X2 hx hby
  refine s_ifeq A2 d3_30 (pY := 58) (pN := 33) (by decide) (by decide) rfl ?_ ?_
  · intro c30
    replace c30 := iz_eq c30
    exact absurd (show cz = 0 from Int32.toInt_inj.mp c30) hcz
  · intro c30
    replace c30 := iz_ne c30
    refine s_aloadN A2 d3_33 (pc' := 34) rfl rfl rfl ?_
    refine s_iloadN A2 d3_34 (pc' := 35) rfl rfl ?_
    refine s_iloadN A2 d3_35 (pc' := 36) rfl rfl ?_
    refine g_static X2 hx hZ (y := (⟨"java/lang/StringUTF16", "compress", "([CII)[B"⟩ : MethodName)) hown (hw _ (List.mem_of_getElem? (i := 31) rfl)) (hw _ (List.mem_of_getElem? (i := 32) rfl)) (hw _ (List.mem_of_getElem? (i := 33) rfl)) (hw _ (List.mem_of_getElem? (i := 34) rfl)) (by decide) (argsL := [(.ref ch), (.int (0 : Int32)), (.int (3 : Int32))]) (rest := []) (c_cmp3_3 l Z a0 hw [] ch c0 c1 c2 h0 n0 Z0 A C0 C1 C2) pd_1 rfl rfl (hb hby d3_36) e2 (by rw [hml]; rfl) (pc' := 39) rfl (by decide) (W := 0) (Nat.le_of_eq rfl) (by decide) (by decide) (by decide) ?_
    intro v3 T3 L3 X3 hQ3
    have A3 := wk X3 hx hby
    have e3 : T3.heap = T3.heap := rfl
    obtain ⟨d, rfl, N3, K3, Ar3, gd3⟩ := hQ3
    have kp4 := Keep.trans (Keep.refl h0 [a]) K3 (fun x hx => absurd hx nin0)
    have fr3 := Fr.app N0 N3
    show Go p e below m (Fini s 1 3 (fun v h L => v = none ∧ Fr n0 L ∧ Keep h0 h [a] ∧ ∃ d, Fld Z h a "java/lang/String" "value" "[B" (.ref d) ∧ Fld Z h a "java/lang/String" "coder" "B" (.int 0) ∧ Ars Z h d .byte [(.int c0.toInt8.toInt32), (.int c1.toInt8.toInt32), (.int c2.toInt8.toInt32)] ∧ h0.size ≤ d)) T3 39 #[.val (.ref a), .val (.ref ch), .val (.int (0 : Int32)), .val (.int (3 : Int32)), .val .null, .unset] [(.ref d)]
    have gd0 : h0.size ≤ d := Nat.le_trans (Nat.le_refl _) gd3
    have nad : a ≠ d := Nat.ne_of_lt (Nat.lt_of_lt_of_le Ea.lt gd0)
    refine s_astore A3 d3_39 (pc' := 41) rfl (ls' := #[.val (.ref a), .val (.ref ch), .val (.int (0 : Int32)), .val (.int (3 : Int32)), .val .null, .val (.ref d)]) rfl rfl ?_
    refine s_aloadN A3 d3_41 (pc' := 42) rfl rfl rfl ?_
    refine s_aload A3 d3_42 (pc' := 44) rfl rfl rfl ?_
    refine s_iloadN A3 d3_44 (pc' := 45) rfl rfl ?_
    have sz6 : h0.size ≤ T3.heap.size := K3.1
    have zs5 : n0 ≤ T3.heap.size := Nat.le_trans Z0 sz6
    refine g_static X3 hx hZ (y := (⟨"java/lang/StringUTF16", "coderFromArrayLen", "([BI)B"⟩ : MethodName)) hown (hw _ (List.mem_of_getElem? (i := 38) rfl)) (hw _ (List.mem_of_getElem? (i := 39) rfl)) (hw _ (List.mem_of_getElem? (i := 33) rfl)) (hw _ (List.mem_of_getElem? (i := 40) rfl)) (by decide) (argsL := [(.ref d), (.int (3 : Int32))]) (rest := [(.ref a)]) (c_codl_3 l Z a0 hw [] d c0 c1 c2 T3.heap n0 zs5 Ar3) pd_2 rfl rfl (hb hby d3_45) e3 (by rw [hml]; rfl) (pc' := 48) rfl (by decide) (W := 1) (Nat.le_of_eq rfl) (by decide) (by decide) (by decide) ?_
    intro v7 T7 L7 X7 hQ7
    have A7 := wk X7 hx hby
    have e7 : T7.heap = T7.heap := rfl
    obtain ⟨rfl, N7, hh7⟩ := hQ7
    have e7 : T7.heap = T3.heap := hh7
    have fr7 := Fr.app fr3 N7
    show Go p e below m (Fini s 1 3 (fun v h L => v = none ∧ Fr n0 L ∧ Keep h0 h [a] ∧ ∃ d, Fld Z h a "java/lang/String" "value" "[B" (.ref d) ∧ Fld Z h a "java/lang/String" "coder" "B" (.int 0) ∧ Ars Z h d .byte [(.int c0.toInt8.toInt32), (.int c1.toInt8.toInt32), (.int c2.toInt8.toInt32)] ∧ h0.size ≤ d)) T7 48 #[.val (.ref a), .val (.ref ch), .val (.int (0 : Int32)), .val (.int (3 : Int32)), .val .null, .val (.ref d)] [(.int (0 : Int32)), (.ref a)]
    have f8 := (Fld.keep F1 K3 nin0)
    have f9 := (Exa.keep Ea K3)
    refine g_putF X7 hx hZ hown (hw _ (List.mem_of_getElem? (i := 26) rfl)) Via.refl e7 f8 f9 (Or.inr ⟨(hw _ (List.mem_of_getElem? (i := 22) rfl)), rfl, hnm⟩) (hw _ (List.mem_of_getElem? (i := 6) rfl)) (ty := .byte) (by decide) rfl rfl (hb hby d3_48) (pc' := 51) rfl ?_
    intro T10 h10 X10 e10 W10
    have A10 := wk X10 hx hby
    have F10 := Fld.same W10 f8
    have kp11 := Keep.wr kp4 W10 (Or.inl (List.mem_of_getElem? (i := 0) rfl))
    have fr11 := Fr.snoc X10 fr7 ga
    refine s_aloadN A10 d3_51 (pc' := 52) rfl rfl rfl ?_
    refine s_aload A10 d3_52 (pc' := 54) rfl rfl rfl ?_
    have f12 := (Fld.other W10 (Fld.keep F0 K3 nin0) (Or.inr (slot_ne (Or.inr (hw _ (List.mem_of_getElem? (i := 21) rfl))) (Or.inr (hw _ (List.mem_of_getElem? (i := 22) rfl))) (by decide) (t := (.array .byte)) (by decide) (t' := .byte) (by decide))))
    have f13 := (Exa.wr W10 f9)
    refine g_putF X10 hx hZ hown (hw _ (List.mem_of_getElem? (i := 25) rfl)) Via.refl e10 f12 f13 (Or.inr ⟨(hw _ (List.mem_of_getElem? (i := 21) rfl)), rfl, hnm⟩) (hw _ (List.mem_of_getElem? (i := 6) rfl)) (ty := (.array .byte)) (by decide) rfl rfl (hb hby d3_54) (pc' := 57) rfl ?_
    intro T14 h14 X14 e14 W14
    have A14 := wk X14 hx hby
    have F14 := Fld.same W14 f12
    have kp15 := Keep.wr kp11 W14 (Or.inl (List.mem_of_getElem? (i := 0) rfl))
    have fr15 := Fr.snoc X14 fr11 ga
    have f16 := (Fld.other W14 F10 (Or.inr (slot_ne (Or.inr (hw _ (List.mem_of_getElem? (i := 22) rfl))) (Or.inr (hw _ (List.mem_of_getElem? (i := 21) rfl))) (by decide) (t := .byte) (by decide) (t' := (.array .byte)) (by decide))))
    have f17 := (Ars.other W14 (Ars.other W10 Ar3 nad.symm) nad.symm)
    exact g_retV X14 hx hlk hret (hb hby d3_57) (by rw [e14]; exact ⟨rfl, fr15, kp15, d, F14, f16, f17, gd0⟩) (by decide) (by decide)
theorem ef_c_str_3 (m : MethodId) (x0 : Addr) (x1 : Addr) : entryFrame m #[(.ref x0), (.ref x1)] 2 = mkF m 0 #[.val (.ref x0), .val (.ref x1)] [] := by first | (simp [entryFrame, mkF, argsToLocals, Value.category, maxLocals]; done) | rfl
set_option maxRecDepth 65536 in
set_option maxHeartbeats 40000000 in
theorem c_str_3 (l : Launch) (Z : State) (a0 : Array Value) (hw : ∀ d ∈ tables_1, d.before a0 Z = true) (ws : List Jvm.Cond) (a ch : Addr) (cz : Int32) (c0 c1 c2 : Int32) (h0 : Heap) (n0 : Nat) (Z0 : n0 ≤ h0.size) (Ea : Exa Z h0 a "java/lang/String") (ga : n0 ≤ a) (F0 : Fld Z h0 a "java/lang/String" "value" "[B" .null) (F1 : Fld Z h0 a "java/lang/String" "coder" "B" (.int 0)) (A : Ars Z h0 ch .char [(.int c0), (.int c1), (.int c2)]) (hne : a ≠ ch) (O : Old Z n0 h0) (S : Sta Z Z.heap "java/lang/String" "COMPACT_STRINGS" "Z" (.int cz)) (hcz : ¬ cz = 0) (C0 : 0 ≤ c0.toInt ∧ c0.toInt ≤ 255) (C1 : 0 ≤ c1.toInt ∧ c1.toInt ≤ 255) (C2 : 0 ≤ c2.toInt ∧ c2.toInt ≤ 255) :
    Ctr l Z (⟨"java/lang/String", "<init>", "([C)V"⟩ : MethodName) jdk_42_method_3_code 2 none ws ({ frames := 3, cells := 1, slots := 3, locals := 52 } : Room) #[(.ref a), (.ref ch)] h0 (fun v h L => v = none ∧ Fr n0 L ∧ Keep h0 h [a] ∧ ∃ d, Fld Z h a "java/lang/String" "value" "[B" (.ref d) ∧ Fld Z h a "java/lang/String" "coder" "B" (.int 0) ∧ Ars Z h d .byte [(.int c0.toInt8.toInt32), (.int c1.toInt8.toInt32), (.int c2.toInt8.toInt32)] ∧ h0.size ≤ d) := by
  refine enter pn_2 ?_
  intro p e s m below meth c T0 X0 hx hby hml hret hlk hZ hown hnm e0
  have A0 := wk X0 hx hby
  have N0 := Fr.nil n0
  refine goIn (ef_c_str_3 m a ch) ?_
  show Go p e below m (Fini s 1 3 (fun v h L => v = none ∧ Fr n0 L ∧ Keep h0 h [a] ∧ ∃ d, Fld Z h a "java/lang/String" "value" "[B" (.ref d) ∧ Fld Z h a "java/lang/String" "coder" "B" (.int 0) ∧ Ars Z h d .byte [(.int c0.toInt8.toInt32), (.int c1.toInt8.toInt32), (.int c2.toInt8.toInt32)] ∧ h0.size ≤ d)) T0 0 #[.val (.ref a), .val (.ref ch)] []
  refine s_aloadN A0 d2_0 (pc' := 1) rfl rfl rfl ?_
  refine s_aloadN A0 d2_1 (pc' := 2) rfl rfl rfl ?_
  refine s_iconst A0 d2_2 (pc' := 3) rfl (v := (0 : Int32)) (by decide) ?_
  refine s_aloadN A0 d2_3 (pc' := 4) rfl rfl rfl ?_
  refine g_len X0 hx hZ e0 A (n := (3 : Int32)) rfl (hb hby d2_4) (pc' := 5) rfl ?_
  refine s_aconstNull A0 d2_5 (pc' := 6) rfl  ?_
  refine g_special X0 hx hZ (y := (⟨"java/lang/String", "<init>", "([CIILjava/lang/Void;)V"⟩ : MethodName)) rfl hown (hw _ (List.mem_of_getElem? (i := 12) rfl)) (hw _ (List.mem_of_getElem? (i := 13) rfl)) (hw _ (List.mem_of_getElem? (i := 7) rfl)) (hw _ (List.mem_of_getElem? (i := 15) rfl)) (by decide) (a := a) (argsL := [(.ref ch), (.int (0 : Int32)), (.int (3 : Int32)), .null]) (rest := []) (c_init4_3 l Z a0 hw [] a ch cz c0 c1 c2 h0 n0 Z0 Ea ga F0 F1 A hne O S hcz C0 C1 C2) pd_3 rfl rfl (hb hby d2_6) e0 (by rw [hml]; rfl) (pc' := 9) rfl (by decide) (W := 0) (Nat.le_of_eq rfl) (by decide) (by decide) (by decide) ?_
  intro v1 T1 L1 X1 hQ1
  have A1 := wk X1 hx hby
  have e1 : T1.heap = T1.heap := rfl
  obtain ⟨rfl, N1, K1, d, V1, C1, Ar1, gd1⟩ := hQ1
  have kp2 := Keep.trans (Keep.refl h0 [a]) K1 (allS (P := fun x => x ∈ [a] ∨ h0.size ≤ x) (Or.inl (List.mem_of_getElem? (i := 0) rfl)) all0)
  have fr1 := Fr.app N0 N1
  show Go p e below m (Fini s 1 3 (fun v h L => v = none ∧ Fr n0 L ∧ Keep h0 h [a] ∧ ∃ d, Fld Z h a "java/lang/String" "value" "[B" (.ref d) ∧ Fld Z h a "java/lang/String" "coder" "B" (.int 0) ∧ Ars Z h d .byte [(.int c0.toInt8.toInt32), (.int c1.toInt8.toInt32), (.int c2.toInt8.toInt32)] ∧ h0.size ≤ d)) T1 9 #[.val (.ref a), .val (.ref ch)] []
  exact g_retV X1 hx hlk hret (hb hby d2_9) (by exact ⟨rfl, fr1, K1, d, V1, C1, Ar1, gd1⟩) (by decide) (by decide)
theorem ef_c_cmp5_4 (m : MethodId) (x0 : Addr) (x1 : Int32) (x2 : Addr) (x3 : Int32) (x4 : Int32) : entryFrame m #[(.ref x0), (.int x1), (.ref x2), (.int x3), (.int x4)] 7 = mkF m 0 #[.val (.ref x0), .val (.int x1), .val (.ref x2), .val (.int x3), .val (.int x4), .unset, .unset] [] := by first | (simp [entryFrame, mkF, argsToLocals, Value.category, maxLocals]; done) | rfl
set_option maxRecDepth 65536 in
set_option maxHeartbeats 40000000 in
theorem c_cmp5_4 (l : Launch) (Z : State) (a0 : Array Value) (hw : ∀ d ∈ tables_1, d.before a0 Z = true) (ws : List Jvm.Cond) (a d : Addr) (c0 c1 c2 c3 : Int32) (h0 : Heap) (n0 : Nat) (Z0 : n0 ≤ h0.size) (A : Ars Z h0 a .char [(.int c0), (.int c1), (.int c2), (.int c3)]) (D : Ars Z h0 d .byte [(.int 0), (.int 0), (.int 0), (.int 0)]) (hne : a ≠ d) (gd : n0 ≤ d) (C0 : 0 ≤ c0.toInt ∧ c0.toInt ≤ 255) (C1 : 0 ≤ c1.toInt ∧ c1.toInt ≤ 255) (C2 : 0 ≤ c2.toInt ∧ c2.toInt ≤ 255) (C3 : 0 ≤ c3.toInt ∧ c3.toInt ≤ 255) :
    Ctr l Z (⟨"java/lang/StringUTF16", "compress", "([CI[BII)I"⟩ : MethodName) jdk_52_method_21_code 7 (some .int) ws ({ frames := 0, cells := 0, slots := 0, locals := 0 } : Room) #[(.ref a), (.int (0 : Int32)), (.ref d), (.int (0 : Int32)), (.int (4 : Int32))] h0 (fun v h L => v = some (.int 4) ∧ Fr n0 L ∧ Keep h0 h [d] ∧ Ars Z h d .byte [(.int c0.toInt8.toInt32), (.int c1.toInt8.toInt32), (.int c2.toInt8.toInt32), (.int c3.toInt8.toInt32)]) := by
  refine enter pn_7 ?_
  intro p e s m below meth c T0 X0 hx hby hml hret hlk hZ hown hnm e0
  have A0 := wk X0 hx hby
  have N0 := Fr.nil n0
  refine goIn (ef_c_cmp5_4 m a (0 : Int32) d (0 : Int32) (4 : Int32)) ?_
  show Go p e below m (Fini s 0 0 (fun v h L => v = some (.int 4) ∧ Fr n0 L ∧ Keep h0 h [d] ∧ Ars Z h d .byte [(.int c0.toInt8.toInt32), (.int c1.toInt8.toInt32), (.int c2.toInt8.toInt32), (.int c3.toInt8.toInt32)])) T0 0 #[.val (.ref a), .val (.int (0 : Int32)), .val (.ref d), .val (.int (0 : Int32)), .val (.int (4 : Int32)), .unset, .unset] []
  refine s_iconst A0 d7_0 (pc' := 1) rfl (v := (0 : Int32)) (by decide) ?_
  refine s_istore A0 d7_1 (pc' := 3) rfl (ls' := #[.val (.ref a), .val (.int (0 : Int32)), .val (.ref d), .val (.int (0 : Int32)), .val (.int (4 : Int32)), .val (.int (0 : Int32)), .unset]) rfl ?_
  refine s_iload A0 d7_3 (pc' := 5) rfl rfl ?_
  refine s_iload A0 d7_5 (pc' := 7) rfl rfl ?_
  refine s_icmpge A0 d7_7 (pY := 44) (pN := 10) (by decide) (by decide) rfl (fun c => absurd c (by decide)) (fun _ => ?_)
  refine s_aloadN A0 d7_10 (pc' := 11) rfl rfl rfl ?_
  refine s_iloadN A0 d7_11 (pc' := 12) rfl rfl ?_
  refine g_caload X0 hx hZ e0 A (by decide) (i := 0) (by decide) (v := (.int c0)) rfl (hb hby d7_12) (pc' := 13) rfl ?_
  refine s_istore A0 d7_13 (pc' := 15) rfl (ls' := #[.val (.ref a), .val (.int (0 : Int32)), .val (.ref d), .val (.int (0 : Int32)), .val (.int (4 : Int32)), .val (.int (0 : Int32)), .val (.int c0)]) rfl ?_
  refine s_iload A0 d7_15 (pc' := 17) rfl rfl ?_
  refine s_sipush A0 d7_17 (pc' := 20) rfl (v := (255 : Int32)) (by decide) ?_
  refine s_icmple A0 d7_20 (pY := 26) (pN := 23) (by decide) (by decide) rfl ?_ ?_
  · intro c20
    replace c20 := i_le c20
    rw [show (255 : Int32).toInt = 255 from by decide] at c20
    refine s_aloadN A0 d7_26 (pc' := 27) rfl rfl rfl ?_
    refine s_iloadN A0 d7_27 (pc' := 28) rfl rfl ?_
    refine s_iload A0 d7_28 (pc' := 30) rfl rfl ?_
    refine s_i2b A0 d7_30 (pc' := 31) rfl rfl ?_
    refine g_bastore X0 hx hZ e0 D (by decide) (i := 0) (by decide) (by simp) (v := (.int c0.toInt8.toInt32)) (congrArg Value.int (own_narb c0)) (hb hby d7_31) (pc' := 32) rfl ?_
    intro T1 h1 X1 e1 W1 Ar1
    have A1 := wk X1 hx hby
    have Ar1 : Ars Z h1 d .byte [(.int c0.toInt8.toInt32), (.int 0), (.int 0), (.int 0)] := Ar1
    have kp2 := Keep.wr (Keep.refl h0 [d]) W1 (Or.inl (List.mem_of_getElem? (i := 0) rfl))
    have fr2 := Fr.snoc X1 N0 gd
    refine s_iinc A1 d7_32 (pc' := 35) rfl (v := (1 : Int32)) (ls' := #[.val (.ref a), .val (.int (1 : Int32)), .val (.ref d), .val (.int (0 : Int32)), .val (.int (4 : Int32)), .val (.int (0 : Int32)), .val (.int c0)]) rfl (by decide) rfl ?_
    refine s_iinc A1 d7_35 (pc' := 38) rfl (v := (1 : Int32)) (ls' := #[.val (.ref a), .val (.int (1 : Int32)), .val (.ref d), .val (.int (1 : Int32)), .val (.int (4 : Int32)), .val (.int (0 : Int32)), .val (.int c0)]) rfl (by decide) rfl ?_
    refine s_iinc A1 d7_38 (pc' := 41) rfl (v := (1 : Int32)) (ls' := #[.val (.ref a), .val (.int (1 : Int32)), .val (.ref d), .val (.int (1 : Int32)), .val (.int (4 : Int32)), .val (.int (1 : Int32)), .val (.int c0)]) rfl (by decide) rfl ?_
    refine s_goto A1 d7_41 (pc' := 3) (by decide) (by decide) ?_
    refine s_iload A1 d7_3 (pc' := 5) rfl rfl ?_
    refine s_iload A1 d7_5 (pc' := 7) rfl rfl ?_
    refine s_icmpge A1 d7_7 (pY := 44) (pN := 10) (by decide) (by decide) rfl (fun c => absurd c (by decide)) (fun _ => ?_)
    refine s_aloadN A1 d7_10 (pc' := 11) rfl rfl rfl ?_
    refine s_iloadN A1 d7_11 (pc' := 12) rfl rfl ?_
    have f3 := (Ars.other W1 A hne)
    refine g_caload X1 hx hZ e1 f3 (by decide) (i := 1) (by decide) (v := (.int c1)) rfl (hb hby d7_12) (pc' := 13) rfl ?_
    refine s_istore A1 d7_13 (pc' := 15) rfl (ls' := #[.val (.ref a), .val (.int (1 : Int32)), .val (.ref d), .val (.int (1 : Int32)), .val (.int (4 : Int32)), .val (.int (1 : Int32)), .val (.int c1)]) rfl ?_
    refine s_iload A1 d7_15 (pc' := 17) rfl rfl ?_
    refine s_sipush A1 d7_17 (pc' := 20) rfl (v := (255 : Int32)) (by decide) ?_
    refine s_icmple A1 d7_20 (pY := 26) (pN := 23) (by decide) (by decide) rfl ?_ ?_
    · intro c20_4
      replace c20_4 := i_le c20_4
      rw [show (255 : Int32).toInt = 255 from by decide] at c20_4
      refine s_aloadN A1 d7_26 (pc' := 27) rfl rfl rfl ?_
      refine s_iloadN A1 d7_27 (pc' := 28) rfl rfl ?_
      refine s_iload A1 d7_28 (pc' := 30) rfl rfl ?_
      refine s_i2b A1 d7_30 (pc' := 31) rfl rfl ?_
      refine g_bastore X1 hx hZ e1 Ar1 (by decide) (i := 1) (by decide) (by simp) (v := (.int c1.toInt8.toInt32)) (congrArg Value.int (own_narb c1)) (hb hby d7_31) (pc' := 32) rfl ?_
      intro T5 h5 X5 e5 W5 Ar5
      have A5 := wk X5 hx hby
      have Ar5 : Ars Z h5 d .byte [(.int c0.toInt8.toInt32), (.int c1.toInt8.toInt32), (.int 0), (.int 0)] := Ar5
      have kp6 := Keep.wr kp2 W5 (Or.inl (List.mem_of_getElem? (i := 0) rfl))
      have fr6 := Fr.snoc X5 fr2 gd
      refine s_iinc A5 d7_32 (pc' := 35) rfl (v := (2 : Int32)) (ls' := #[.val (.ref a), .val (.int (2 : Int32)), .val (.ref d), .val (.int (1 : Int32)), .val (.int (4 : Int32)), .val (.int (1 : Int32)), .val (.int c1)]) rfl (by decide) rfl ?_
      refine s_iinc A5 d7_35 (pc' := 38) rfl (v := (2 : Int32)) (ls' := #[.val (.ref a), .val (.int (2 : Int32)), .val (.ref d), .val (.int (2 : Int32)), .val (.int (4 : Int32)), .val (.int (1 : Int32)), .val (.int c1)]) rfl (by decide) rfl ?_
      refine s_iinc A5 d7_38 (pc' := 41) rfl (v := (2 : Int32)) (ls' := #[.val (.ref a), .val (.int (2 : Int32)), .val (.ref d), .val (.int (2 : Int32)), .val (.int (4 : Int32)), .val (.int (2 : Int32)), .val (.int c1)]) rfl (by decide) rfl ?_
      refine s_goto A5 d7_41 (pc' := 3) (by decide) (by decide) ?_
      refine s_iload A5 d7_3 (pc' := 5) rfl rfl ?_
      refine s_iload A5 d7_5 (pc' := 7) rfl rfl ?_
      refine s_icmpge A5 d7_7 (pY := 44) (pN := 10) (by decide) (by decide) rfl (fun c => absurd c (by decide)) (fun _ => ?_)
      refine s_aloadN A5 d7_10 (pc' := 11) rfl rfl rfl ?_
      refine s_iloadN A5 d7_11 (pc' := 12) rfl rfl ?_
      have f7 := (Ars.other W5 f3 hne)
      refine g_caload X5 hx hZ e5 f7 (by decide) (i := 2) (by decide) (v := (.int c2)) rfl (hb hby d7_12) (pc' := 13) rfl ?_
      refine s_istore A5 d7_13 (pc' := 15) rfl (ls' := #[.val (.ref a), .val (.int (2 : Int32)), .val (.ref d), .val (.int (2 : Int32)), .val (.int (4 : Int32)), .val (.int (2 : Int32)), .val (.int c2)]) rfl ?_
      refine s_iload A5 d7_15 (pc' := 17) rfl rfl ?_
      refine s_sipush A5 d7_17 (pc' := 20) rfl (v := (255 : Int32)) (by decide) ?_
      refine s_icmple A5 d7_20 (pY := 26) (pN := 23) (by decide) (by decide) rfl ?_ ?_
      · intro c20_8
        replace c20_8 := i_le c20_8
        rw [show (255 : Int32).toInt = 255 from by decide] at c20_8
        refine s_aloadN A5 d7_26 (pc' := 27) rfl rfl rfl ?_
        refine s_iloadN A5 d7_27 (pc' := 28) rfl rfl ?_
        refine s_iload A5 d7_28 (pc' := 30) rfl rfl ?_
        refine s_i2b A5 d7_30 (pc' := 31) rfl rfl ?_
        refine g_bastore X5 hx hZ e5 Ar5 (by decide) (i := 2) (by decide) (by simp) (v := (.int c2.toInt8.toInt32)) (congrArg Value.int (own_narb c2)) (hb hby d7_31) (pc' := 32) rfl ?_
        intro T9 h9 X9 e9 W9 Ar9
        have A9 := wk X9 hx hby
        have Ar9 : Ars Z h9 d .byte [(.int c0.toInt8.toInt32), (.int c1.toInt8.toInt32), (.int c2.toInt8.toInt32), (.int 0)] := Ar9
        have kp10 := Keep.wr kp6 W9 (Or.inl (List.mem_of_getElem? (i := 0) rfl))
        have fr10 := Fr.snoc X9 fr6 gd
        refine s_iinc A9 d7_32 (pc' := 35) rfl (v := (3 : Int32)) (ls' := #[.val (.ref a), .val (.int (3 : Int32)), .val (.ref d), .val (.int (2 : Int32)), .val (.int (4 : Int32)), .val (.int (2 : Int32)), .val (.int c2)]) rfl (by decide) rfl ?_
        refine s_iinc A9 d7_35 (pc' := 38) rfl (v := (3 : Int32)) (ls' := #[.val (.ref a), .val (.int (3 : Int32)), .val (.ref d), .val (.int (3 : Int32)), .val (.int (4 : Int32)), .val (.int (2 : Int32)), .val (.int c2)]) rfl (by decide) rfl ?_
        refine s_iinc A9 d7_38 (pc' := 41) rfl (v := (3 : Int32)) (ls' := #[.val (.ref a), .val (.int (3 : Int32)), .val (.ref d), .val (.int (3 : Int32)), .val (.int (4 : Int32)), .val (.int (3 : Int32)), .val (.int c2)]) rfl (by decide) rfl ?_
        refine s_goto A9 d7_41 (pc' := 3) (by decide) (by decide) ?_
        refine s_iload A9 d7_3 (pc' := 5) rfl rfl ?_
        refine s_iload A9 d7_5 (pc' := 7) rfl rfl ?_
        refine s_icmpge A9 d7_7 (pY := 44) (pN := 10) (by decide) (by decide) rfl (fun c => absurd c (by decide)) (fun _ => ?_)
        refine s_aloadN A9 d7_10 (pc' := 11) rfl rfl rfl ?_
        refine s_iloadN A9 d7_11 (pc' := 12) rfl rfl ?_
        have f11 := (Ars.other W9 f7 hne)
        refine g_caload X9 hx hZ e9 f11 (by decide) (i := 3) (by decide) (v := (.int c3)) rfl (hb hby d7_12) (pc' := 13) rfl ?_
        refine s_istore A9 d7_13 (pc' := 15) rfl (ls' := #[.val (.ref a), .val (.int (3 : Int32)), .val (.ref d), .val (.int (3 : Int32)), .val (.int (4 : Int32)), .val (.int (3 : Int32)), .val (.int c3)]) rfl ?_
        refine s_iload A9 d7_15 (pc' := 17) rfl rfl ?_
        refine s_sipush A9 d7_17 (pc' := 20) rfl (v := (255 : Int32)) (by decide) ?_
        refine s_icmple A9 d7_20 (pY := 26) (pN := 23) (by decide) (by decide) rfl ?_ ?_
        · intro c20_12
          replace c20_12 := i_le c20_12
          rw [show (255 : Int32).toInt = 255 from by decide] at c20_12
          refine s_aloadN A9 d7_26 (pc' := 27) rfl rfl rfl ?_
          refine s_iloadN A9 d7_27 (pc' := 28) rfl rfl ?_
          refine s_iload A9 d7_28 (pc' := 30) rfl rfl ?_
          refine s_i2b A9 d7_30 (pc' := 31) rfl rfl ?_
          refine g_bastore X9 hx hZ e9 Ar9 (by decide) (i := 3) (by decide) (by simp) (v := (.int c3.toInt8.toInt32)) (congrArg Value.int (own_narb c3)) (hb hby d7_31) (pc' := 32) rfl ?_
          intro T13 h13 X13 e13 W13 Ar13
          have A13 := wk X13 hx hby
          have Ar13 : Ars Z h13 d .byte [(.int c0.toInt8.toInt32), (.int c1.toInt8.toInt32), (.int c2.toInt8.toInt32), (.int c3.toInt8.toInt32)] := Ar13
          have kp14 := Keep.wr kp10 W13 (Or.inl (List.mem_of_getElem? (i := 0) rfl))
          have fr14 := Fr.snoc X13 fr10 gd
          refine s_iinc A13 d7_32 (pc' := 35) rfl (v := (4 : Int32)) (ls' := #[.val (.ref a), .val (.int (4 : Int32)), .val (.ref d), .val (.int (3 : Int32)), .val (.int (4 : Int32)), .val (.int (3 : Int32)), .val (.int c3)]) rfl (by decide) rfl ?_
          refine s_iinc A13 d7_35 (pc' := 38) rfl (v := (4 : Int32)) (ls' := #[.val (.ref a), .val (.int (4 : Int32)), .val (.ref d), .val (.int (4 : Int32)), .val (.int (4 : Int32)), .val (.int (3 : Int32)), .val (.int c3)]) rfl (by decide) rfl ?_
          refine s_iinc A13 d7_38 (pc' := 41) rfl (v := (4 : Int32)) (ls' := #[.val (.ref a), .val (.int (4 : Int32)), .val (.ref d), .val (.int (4 : Int32)), .val (.int (4 : Int32)), .val (.int (4 : Int32)), .val (.int c3)]) rfl (by decide) rfl ?_
          refine s_goto A13 d7_41 (pc' := 3) (by decide) (by decide) ?_
          refine s_iload A13 d7_3 (pc' := 5) rfl rfl ?_
          refine s_iload A13 d7_5 (pc' := 7) rfl rfl ?_
          refine s_icmpge A13 d7_7 (pY := 44) (pN := 10) (by decide) (by decide) rfl (fun _ => ?_) (fun c => absurd c (by decide))
          refine s_iload A13 d7_44 (pc' := 46) rfl rfl ?_
          exact g_retI X13 hx hlk hret (hb hby d7_46) (by rw [e13]; exact ⟨rfl, fr14, kp14, Ar13⟩) (by decide) (by decide)
        · intro c20_12
          replace c20_12 := i_gt c20_12
          rw [show (255 : Int32).toInt = 255 from by decide] at c20_12
          exfalso; omega
      · intro c20_8
        replace c20_8 := i_gt c20_8
        rw [show (255 : Int32).toInt = 255 from by decide] at c20_8
        exfalso; omega
    · intro c20_4
      replace c20_4 := i_gt c20_4
      rw [show (255 : Int32).toInt = 255 from by decide] at c20_4
      exfalso; omega
  · intro c20
    replace c20 := i_gt c20
    rw [show (255 : Int32).toInt = 255 from by decide] at c20
    exfalso; omega
theorem ef_c_cmp3_4 (m : MethodId) (x0 : Addr) (x1 : Int32) (x2 : Int32) : entryFrame m #[(.ref x0), (.int x1), (.int x2)] 6 = mkF m 0 #[.val (.ref x0), .val (.int x1), .val (.int x2), .unset, .unset, .unset] [] := by first | (simp [entryFrame, mkF, argsToLocals, Value.category, maxLocals]; done) | rfl
set_option maxRecDepth 65536 in
set_option maxHeartbeats 40000000 in
theorem c_cmp3_4 (l : Launch) (Z : State) (a0 : Array Value) (hw : ∀ d ∈ tables_1, d.before a0 Z = true) (ws : List Jvm.Cond) (a : Addr) (c0 c1 c2 c3 : Int32) (h0 : Heap) (n0 : Nat) (Z0 : n0 ≤ h0.size) (A : Ars Z h0 a .char [(.int c0), (.int c1), (.int c2), (.int c3)]) (C0 : 0 ≤ c0.toInt ∧ c0.toInt ≤ 255) (C1 : 0 ≤ c1.toInt ∧ c1.toInt ≤ 255) (C2 : 0 ≤ c2.toInt ∧ c2.toInt ≤ 255) (C3 : 0 ≤ c3.toInt ∧ c3.toInt ≤ 255) :
    Ctr l Z (⟨"java/lang/StringUTF16", "compress", "([CII)[B"⟩ : MethodName) jdk_52_method_16_code 6 (some (.array .byte)) ws ({ frames := 1, cells := 1, slots := 4, locals := 18 } : Room) #[(.ref a), (.int (0 : Int32)), (.int (4 : Int32))] h0 (fun v h L => ∃ d, v = some (.ref d) ∧ Fr n0 L ∧ Keep h0 h [] ∧ Ars Z h d .byte [(.int c0.toInt8.toInt32), (.int c1.toInt8.toInt32), (.int c2.toInt8.toInt32), (.int c3.toInt8.toInt32)] ∧ h0.size ≤ d) := by
  refine enter pn_6 ?_
  intro p e s m below meth c T0 X0 hx hby hml hret hlk hZ hown hnm e0
  have A0 := wk X0 hx hby
  have N0 := Fr.nil n0
  refine goIn (ef_c_cmp3_4 m a (0 : Int32) (4 : Int32)) ?_
  show Go p e below m (Fini s 1 4 (fun v h L => ∃ d, v = some (.ref d) ∧ Fr n0 L ∧ Keep h0 h [] ∧ Ars Z h d .byte [(.int c0.toInt8.toInt32), (.int c1.toInt8.toInt32), (.int c2.toInt8.toInt32), (.int c3.toInt8.toInt32)] ∧ h0.size ≤ d)) T0 0 #[.val (.ref a), .val (.int (0 : Int32)), .val (.int (4 : Int32)), .unset, .unset, .unset] []
  refine s_iloadN A0 d6_0 (pc' := 1) rfl rfl ?_
  refine g_newarray X0 hx hZ e0 (hw _ (List.mem_of_getElem? (i := 20) rfl)) (by decide) (k0 := 4) (by decide) (by decide) (by decide) (by decide) (ad := "[B") (by decide) rfl (hb hby d6_1) (pc' := 3) rfl ?_
  intro T1 h1 a1 X1 e1 E1 ga1 Ar1 Ex1
  have A1 := wk X1 hx hby
  have Ar1 : Ars Z h1 a1 .byte [(.int 0), (.int 0), (.int 0), (.int 0)] := Ar1
  have la2 : a1 < h1.size := Ex1.lt
  have kp3 := Keep.ext (Keep.refl h0 []) E1
  refine s_astoreN A1 d6_3 (pc' := 4) rfl (ls' := #[.val (.ref a), .val (.int (0 : Int32)), .val (.int (4 : Int32)), .val (.ref a1), .unset, .unset]) rfl rfl ?_
  refine s_aloadN A1 d6_4 (pc' := 5) rfl rfl rfl ?_
  refine s_iloadN A1 d6_5 (pc' := 6) rfl rfl ?_
  refine s_aloadN A1 d6_6 (pc' := 7) rfl rfl rfl ?_
  refine s_iconst A1 d6_7 (pc' := 8) rfl (v := (0 : Int32)) (by decide) ?_
  refine s_iloadN A1 d6_8 (pc' := 9) rfl rfl ?_
  have f4 := (Ars.ext E1 A)
  have ge6 : h0.size ≤ a1 := by rw [ga1]; exact (Nat.le_refl _)
  have gn5 : n0 ≤ a1 := Nat.le_trans Z0 ge6
  have ne7 : a ≠ a1 := by rw [ga1]; exact Nat.ne_of_lt (Nat.lt_of_lt_of_le A.lt (Nat.le_refl _))
  have sz9 : h0.size ≤ h1.size := E1.1
  have zs8 : n0 ≤ h1.size := Nat.le_trans Z0 sz9
  refine g_static X1 hx hZ (y := (⟨"java/lang/StringUTF16", "compress", "([CI[BII)I"⟩ : MethodName)) hown (hw _ (List.mem_of_getElem? (i := 35) rfl)) (hw _ (List.mem_of_getElem? (i := 36) rfl)) (hw _ (List.mem_of_getElem? (i := 33) rfl)) (hw _ (List.mem_of_getElem? (i := 37) rfl)) (by decide) (argsL := [(.ref a), (.int (0 : Int32)), (.ref a1), (.int (0 : Int32)), (.int (4 : Int32))]) (rest := []) (c_cmp5_4 l Z a0 hw [] a a1 c0 c1 c2 c3 h1 n0 zs8 f4 Ar1 ne7 gn5 C0 C1 C2 C3) pd_0 rfl rfl (hb hby d6_9) e1 (by rw [hml]; rfl) (pc' := 12) rfl (by decide) (W := 0) (Nat.le_of_eq rfl) (by decide) (by decide) (by decide) ?_
  intro v10 T10 L10 X10 hQ10
  have A10 := wk X10 hx hby
  have e10 : T10.heap = T10.heap := rfl
  obtain ⟨rfl, N10, K10, Ar10⟩ := hQ10
  have kp11 := Keep.trans kp3 K10 (allS (P := fun x => x ∈ [] ∨ h0.size ≤ x) (Or.inr ge6) all0)
  have fr10 := Fr.app N0 N10
  show Go p e below m (Fini s 1 4 (fun v h L => ∃ d, v = some (.ref d) ∧ Fr n0 L ∧ Keep h0 h [] ∧ Ars Z h d .byte [(.int c0.toInt8.toInt32), (.int c1.toInt8.toInt32), (.int c2.toInt8.toInt32), (.int c3.toInt8.toInt32)] ∧ h0.size ≤ d)) T10 12 #[.val (.ref a), .val (.int (0 : Int32)), .val (.int (4 : Int32)), .val (.ref a1), .unset, .unset] [(.int (4 : Int32))]
  refine s_istore A10 d6_12 (pc' := 14) rfl (ls' := #[.val (.ref a), .val (.int (0 : Int32)), .val (.int (4 : Int32)), .val (.ref a1), .val (.int (4 : Int32)), .unset]) rfl ?_
  refine s_iload A10 d6_14 (pc' := 16) rfl rfl ?_
  refine s_iloadN A10 d6_16 (pc' := 17) rfl rfl ?_
  refine s_icmpeq A10 d6_17 (pY := 57) (pN := 20) (by decide) (by decide) rfl (fun _ => ?_) (fun c => absurd c (by decide))
  refine s_aloadN A10 d6_57 (pc' := 58) rfl rfl rfl ?_
  exact g_retA X10 hx hlk hret rfl rfl rfl (hb hby d6_58) (by rw [e10]; exact ⟨_, rfl, fr10, kp11, Ar10, ge6⟩) (by decide) (by decide)
theorem ef_c_codl_4 (m : MethodId) (x0 : Addr) (x1 : Int32) : entryFrame m #[(.ref x0), (.int x1)] 2 = mkF m 0 #[.val (.ref x0), .val (.int x1)] [] := by first | (simp [entryFrame, mkF, argsToLocals, Value.category, maxLocals]; done) | rfl
set_option maxRecDepth 65536 in
set_option maxHeartbeats 40000000 in
theorem c_codl_4 (l : Launch) (Z : State) (a0 : Array Value) (hw : ∀ d ∈ tables_1, d.before a0 Z = true) (ws : List Jvm.Cond) (d : Addr) (c0 c1 c2 c3 : Int32) (h0 : Heap) (n0 : Nat) (Z0 : n0 ≤ h0.size) (D : Ars Z h0 d .byte [(.int c0.toInt8.toInt32), (.int c1.toInt8.toInt32), (.int c2.toInt8.toInt32), (.int c3.toInt8.toInt32)]) :
    Ctr l Z (⟨"java/lang/StringUTF16", "coderFromArrayLen", "([BI)B"⟩ : MethodName) jdk_52_method_15_code 2 (some .byte) ws ({ frames := 0, cells := 0, slots := 0, locals := 0 } : Room) #[(.ref d), (.int (4 : Int32))] h0 (fun v h L => v = some (.int 0) ∧ Fr n0 L ∧ h = h0) := by
  refine enter pn_8 ?_
  intro p e s m below meth c T0 X0 hx hby hml hret hlk hZ hown hnm e0
  have A0 := wk X0 hx hby
  have N0 := Fr.nil n0
  refine goIn (ef_c_codl_4 m d (4 : Int32)) ?_
  show Go p e below m (Fini s 0 0 (fun v h L => v = some (.int 0) ∧ Fr n0 L ∧ h = h0)) T0 0 #[.val (.ref d), .val (.int (4 : Int32))] []
  refine s_iloadN A0 d8_0 (pc' := 1) rfl rfl ?_
  refine s_aloadN A0 d8_1 (pc' := 2) rfl rfl rfl ?_
  refine g_len X0 hx hZ e0 D (n := (4 : Int32)) rfl (hb hby d8_2) (pc' := 3) rfl ?_
  refine s_isub A0 d8_3 (pc' := 4) rfl (v := (0 : Int32)) (by decide) ?_
  refine s_bipush A0 d8_4 (pc' := 6) rfl (v := (31 : Int32)) (by decide) ?_
  refine s_iushr A0 d8_6 (pc' := 7) rfl (v := (0 : Int32)) (by decide) ?_
  refine s_i2b A0 d8_7 (pc' := 8) rfl (v := (0 : Int32)) (by decide) ?_
  exact g_ret X0 hx hlk hret rfl (Or.inl ⟨rfl, by simp, _, rfl⟩) (hb hby d8_8) ⟨rfl, N0, e0⟩ (by decide) (by decide)
theorem ef_c_init4_4 (m : MethodId) (x0 : Addr) (x1 : Addr) (x2 : Int32) (x3 : Int32) : entryFrame m #[(.ref x0), (.ref x1), (.int x2), (.int x3), .null] 6 = mkF m 0 #[.val (.ref x0), .val (.ref x1), .val (.int x2), .val (.int x3), .val .null, .unset] [] := by first | (simp [entryFrame, mkF, argsToLocals, Value.category, maxLocals]; done) | rfl
set_option maxRecDepth 65536 in
set_option maxHeartbeats 40000000 in
theorem c_init4_4 (l : Launch) (Z : State) (a0 : Array Value) (hw : ∀ d ∈ tables_1, d.before a0 Z = true) (ws : List Jvm.Cond) (a ch : Addr) (cz : Int32) (c0 c1 c2 c3 : Int32) (h0 : Heap) (n0 : Nat) (Z0 : n0 ≤ h0.size) (Ea : Exa Z h0 a "java/lang/String") (ga : n0 ≤ a) (F0 : Fld Z h0 a "java/lang/String" "value" "[B" .null) (F1 : Fld Z h0 a "java/lang/String" "coder" "B" (.int 0)) (A : Ars Z h0 ch .char [(.int c0), (.int c1), (.int c2), (.int c3)]) (hne : a ≠ ch) (O : Old Z n0 h0) (S : Sta Z Z.heap "java/lang/String" "COMPACT_STRINGS" "Z" (.int cz)) (hcz : ¬ cz = 0) (C0 : 0 ≤ c0.toInt ∧ c0.toInt ≤ 255) (C1 : 0 ≤ c1.toInt ∧ c1.toInt ≤ 255) (C2 : 0 ≤ c2.toInt ∧ c2.toInt ≤ 255) (C3 : 0 ≤ c3.toInt ∧ c3.toInt ≤ 255) :
    Ctr l Z (⟨"java/lang/String", "<init>", "([CIILjava/lang/Void;)V"⟩ : MethodName) jdk_42_method_149_code 6 none ws ({ frames := 2, cells := 1, slots := 4, locals := 35 } : Room) #[(.ref a), (.ref ch), (.int (0 : Int32)), (.int (4 : Int32)), .null] h0 (fun v h L => v = none ∧ Fr n0 L ∧ Keep h0 h [a] ∧ ∃ d, Fld Z h a "java/lang/String" "value" "[B" (.ref d) ∧ Fld Z h a "java/lang/String" "coder" "B" (.int 0) ∧ Ars Z h d .byte [(.int c0.toInt8.toInt32), (.int c1.toInt8.toInt32), (.int c2.toInt8.toInt32), (.int c3.toInt8.toInt32)] ∧ h0.size ≤ d) := by
  refine enter pn_3 ?_
  intro p e s m below meth c T0 X0 hx hby hml hret hlk hZ hown hnm e0
  have A0 := wk X0 hx hby
  have N0 := Fr.nil n0
  refine goIn (ef_c_init4_4 m a ch (0 : Int32) (4 : Int32)) ?_
  show Go p e below m (Fini s 1 4 (fun v h L => v = none ∧ Fr n0 L ∧ Keep h0 h [a] ∧ ∃ d, Fld Z h a "java/lang/String" "value" "[B" (.ref d) ∧ Fld Z h a "java/lang/String" "coder" "B" (.int 0) ∧ Ars Z h d .byte [(.int c0.toInt8.toInt32), (.int c1.toInt8.toInt32), (.int c2.toInt8.toInt32), (.int c3.toInt8.toInt32)] ∧ h0.size ≤ d)) T0 0 #[.val (.ref a), .val (.ref ch), .val (.int (0 : Int32)), .val (.int (4 : Int32)), .val .null, .unset] []
  refine s_aloadN A0 d3_0 (pc' := 1) rfl rfl rfl ?_
  refine g_initO X0 hx hZ hown (hw _ (List.mem_of_getElem? (i := 16) rfl)) (hw _ (List.mem_of_getElem? (i := 17) rfl)) (hw _ (List.mem_of_getElem? (i := 18) rfl)) e0 (by rw [hml]; rfl) (hb hby d3_1) (pc' := 4) rfl (by decide) (W := 0) (Nat.le_of_eq rfl) (by decide) ?_
  intro T1 X1 e1
  have A1 := wk X1 hx hby
  refine s_iloadN A1 d3_4 (pc' := 5) rfl rfl ?_
  refine s_ifne A1 d3_5 (pY := 27) (pN := 8) (by decide) (by decide) rfl (fun _ => ?_) (fun c => absurd c (by decide))
  have Sc := Sta.ext O.2 S
  refine g_getS X1 hx hZ hown (hw _ (List.mem_of_getElem? (i := 30) rfl)) Via.refl e1 Sc (hb hby d3_27) (pc' := 30) rfl ?_
  intro T2 X2 e2
  have A2 := wk X2 hx hby
  refine s_ifeq A2 d3_30 (pY := 58) (pN := 33) (by decide) (by decide) rfl ?_ ?_
  · intro c30
    replace c30 := iz_eq c30
    exact absurd (show cz = 0 from Int32.toInt_inj.mp c30) hcz
  · intro c30
    replace c30 := iz_ne c30
    refine s_aloadN A2 d3_33 (pc' := 34) rfl rfl rfl ?_
    refine s_iloadN A2 d3_34 (pc' := 35) rfl rfl ?_
    refine s_iloadN A2 d3_35 (pc' := 36) rfl rfl ?_
    refine g_static X2 hx hZ (y := (⟨"java/lang/StringUTF16", "compress", "([CII)[B"⟩ : MethodName)) hown (hw _ (List.mem_of_getElem? (i := 31) rfl)) (hw _ (List.mem_of_getElem? (i := 32) rfl)) (hw _ (List.mem_of_getElem? (i := 33) rfl)) (hw _ (List.mem_of_getElem? (i := 34) rfl)) (by decide) (argsL := [(.ref ch), (.int (0 : Int32)), (.int (4 : Int32))]) (rest := []) (c_cmp3_4 l Z a0 hw [] ch c0 c1 c2 c3 h0 n0 Z0 A C0 C1 C2 C3) pd_1 rfl rfl (hb hby d3_36) e2 (by rw [hml]; rfl) (pc' := 39) rfl (by decide) (W := 0) (Nat.le_of_eq rfl) (by decide) (by decide) (by decide) ?_
    intro v3 T3 L3 X3 hQ3
    have A3 := wk X3 hx hby
    have e3 : T3.heap = T3.heap := rfl
    obtain ⟨d, rfl, N3, K3, Ar3, gd3⟩ := hQ3
    have kp4 := Keep.trans (Keep.refl h0 [a]) K3 (fun x hx => absurd hx nin0)
    have fr3 := Fr.app N0 N3
    show Go p e below m (Fini s 1 4 (fun v h L => v = none ∧ Fr n0 L ∧ Keep h0 h [a] ∧ ∃ d, Fld Z h a "java/lang/String" "value" "[B" (.ref d) ∧ Fld Z h a "java/lang/String" "coder" "B" (.int 0) ∧ Ars Z h d .byte [(.int c0.toInt8.toInt32), (.int c1.toInt8.toInt32), (.int c2.toInt8.toInt32), (.int c3.toInt8.toInt32)] ∧ h0.size ≤ d)) T3 39 #[.val (.ref a), .val (.ref ch), .val (.int (0 : Int32)), .val (.int (4 : Int32)), .val .null, .unset] [(.ref d)]
    have gd0 : h0.size ≤ d := Nat.le_trans (Nat.le_refl _) gd3
    have nad : a ≠ d := Nat.ne_of_lt (Nat.lt_of_lt_of_le Ea.lt gd0)
    refine s_astore A3 d3_39 (pc' := 41) rfl (ls' := #[.val (.ref a), .val (.ref ch), .val (.int (0 : Int32)), .val (.int (4 : Int32)), .val .null, .val (.ref d)]) rfl rfl ?_
    refine s_aloadN A3 d3_41 (pc' := 42) rfl rfl rfl ?_
    refine s_aload A3 d3_42 (pc' := 44) rfl rfl rfl ?_
    refine s_iloadN A3 d3_44 (pc' := 45) rfl rfl ?_
    have sz6 : h0.size ≤ T3.heap.size := K3.1
    have zs5 : n0 ≤ T3.heap.size := Nat.le_trans Z0 sz6
    refine g_static X3 hx hZ (y := (⟨"java/lang/StringUTF16", "coderFromArrayLen", "([BI)B"⟩ : MethodName)) hown (hw _ (List.mem_of_getElem? (i := 38) rfl)) (hw _ (List.mem_of_getElem? (i := 39) rfl)) (hw _ (List.mem_of_getElem? (i := 33) rfl)) (hw _ (List.mem_of_getElem? (i := 40) rfl)) (by decide) (argsL := [(.ref d), (.int (4 : Int32))]) (rest := [(.ref a)]) (c_codl_4 l Z a0 hw [] d c0 c1 c2 c3 T3.heap n0 zs5 Ar3) pd_2 rfl rfl (hb hby d3_45) e3 (by rw [hml]; rfl) (pc' := 48) rfl (by decide) (W := 1) (Nat.le_of_eq rfl) (by decide) (by decide) (by decide) ?_
    intro v7 T7 L7 X7 hQ7
    have A7 := wk X7 hx hby
    have e7 : T7.heap = T7.heap := rfl
    obtain ⟨rfl, N7, hh7⟩ := hQ7
    have e7 : T7.heap = T3.heap := hh7
    have fr7 := Fr.app fr3 N7
    show Go p e below m (Fini s 1 4 (fun v h L => v = none ∧ Fr n0 L ∧ Keep h0 h [a] ∧ ∃ d, Fld Z h a "java/lang/String" "value" "[B" (.ref d) ∧ Fld Z h a "java/lang/String" "coder" "B" (.int 0) ∧ Ars Z h d .byte [(.int c0.toInt8.toInt32), (.int c1.toInt8.toInt32), (.int c2.toInt8.toInt32), (.int c3.toInt8.toInt32)] ∧ h0.size ≤ d)) T7 48 #[.val (.ref a), .val (.ref ch), .val (.int (0 : Int32)), .val (.int (4 : Int32)), .val .null, .val (.ref d)] [(.int (0 : Int32)), (.ref a)]
    have f8 := (Fld.keep F1 K3 nin0)
    have f9 := (Exa.keep Ea K3)
    refine g_putF X7 hx hZ hown (hw _ (List.mem_of_getElem? (i := 26) rfl)) Via.refl e7 f8 f9 (Or.inr ⟨(hw _ (List.mem_of_getElem? (i := 22) rfl)), rfl, hnm⟩) (hw _ (List.mem_of_getElem? (i := 6) rfl)) (ty := .byte) (by decide) rfl rfl (hb hby d3_48) (pc' := 51) rfl ?_
    intro T10 h10 X10 e10 W10
    have A10 := wk X10 hx hby
    have F10 := Fld.same W10 f8
    have kp11 := Keep.wr kp4 W10 (Or.inl (List.mem_of_getElem? (i := 0) rfl))
    have fr11 := Fr.snoc X10 fr7 ga
    refine s_aloadN A10 d3_51 (pc' := 52) rfl rfl rfl ?_
    refine s_aload A10 d3_52 (pc' := 54) rfl rfl rfl ?_
    have f12 := (Fld.other W10 (Fld.keep F0 K3 nin0) (Or.inr (slot_ne (Or.inr (hw _ (List.mem_of_getElem? (i := 21) rfl))) (Or.inr (hw _ (List.mem_of_getElem? (i := 22) rfl))) (by decide) (t := (.array .byte)) (by decide) (t' := .byte) (by decide))))
    have f13 := (Exa.wr W10 f9)
    refine g_putF X10 hx hZ hown (hw _ (List.mem_of_getElem? (i := 25) rfl)) Via.refl e10 f12 f13 (Or.inr ⟨(hw _ (List.mem_of_getElem? (i := 21) rfl)), rfl, hnm⟩) (hw _ (List.mem_of_getElem? (i := 6) rfl)) (ty := (.array .byte)) (by decide) rfl rfl (hb hby d3_54) (pc' := 57) rfl ?_
    intro T14 h14 X14 e14 W14
    have A14 := wk X14 hx hby
    have F14 := Fld.same W14 f12
    have kp15 := Keep.wr kp11 W14 (Or.inl (List.mem_of_getElem? (i := 0) rfl))
    have fr15 := Fr.snoc X14 fr11 ga
    have f16 := (Fld.other W14 F10 (Or.inr (slot_ne (Or.inr (hw _ (List.mem_of_getElem? (i := 22) rfl))) (Or.inr (hw _ (List.mem_of_getElem? (i := 21) rfl))) (by decide) (t := .byte) (by decide) (t' := (.array .byte)) (by decide))))
    have f17 := (Ars.other W14 (Ars.other W10 Ar3 nad.symm) nad.symm)
    exact g_retV X14 hx hlk hret (hb hby d3_57) (by rw [e14]; exact ⟨rfl, fr15, kp15, d, F14, f16, f17, gd0⟩) (by decide) (by decide)
theorem ef_c_str_4 (m : MethodId) (x0 : Addr) (x1 : Addr) : entryFrame m #[(.ref x0), (.ref x1)] 2 = mkF m 0 #[.val (.ref x0), .val (.ref x1)] [] := by first | (simp [entryFrame, mkF, argsToLocals, Value.category, maxLocals]; done) | rfl
set_option maxRecDepth 65536 in
set_option maxHeartbeats 40000000 in
theorem c_str_4 (l : Launch) (Z : State) (a0 : Array Value) (hw : ∀ d ∈ tables_1, d.before a0 Z = true) (ws : List Jvm.Cond) (a ch : Addr) (cz : Int32) (c0 c1 c2 c3 : Int32) (h0 : Heap) (n0 : Nat) (Z0 : n0 ≤ h0.size) (Ea : Exa Z h0 a "java/lang/String") (ga : n0 ≤ a) (F0 : Fld Z h0 a "java/lang/String" "value" "[B" .null) (F1 : Fld Z h0 a "java/lang/String" "coder" "B" (.int 0)) (A : Ars Z h0 ch .char [(.int c0), (.int c1), (.int c2), (.int c3)]) (hne : a ≠ ch) (O : Old Z n0 h0) (S : Sta Z Z.heap "java/lang/String" "COMPACT_STRINGS" "Z" (.int cz)) (hcz : ¬ cz = 0) (C0 : 0 ≤ c0.toInt ∧ c0.toInt ≤ 255) (C1 : 0 ≤ c1.toInt ∧ c1.toInt ≤ 255) (C2 : 0 ≤ c2.toInt ∧ c2.toInt ≤ 255) (C3 : 0 ≤ c3.toInt ∧ c3.toInt ≤ 255) :
    Ctr l Z (⟨"java/lang/String", "<init>", "([C)V"⟩ : MethodName) jdk_42_method_3_code 2 none ws ({ frames := 3, cells := 1, slots := 4, locals := 52 } : Room) #[(.ref a), (.ref ch)] h0 (fun v h L => v = none ∧ Fr n0 L ∧ Keep h0 h [a] ∧ ∃ d, Fld Z h a "java/lang/String" "value" "[B" (.ref d) ∧ Fld Z h a "java/lang/String" "coder" "B" (.int 0) ∧ Ars Z h d .byte [(.int c0.toInt8.toInt32), (.int c1.toInt8.toInt32), (.int c2.toInt8.toInt32), (.int c3.toInt8.toInt32)] ∧ h0.size ≤ d) := by
  refine enter pn_2 ?_
  intro p e s m below meth c T0 X0 hx hby hml hret hlk hZ hown hnm e0
  have A0 := wk X0 hx hby
  have N0 := Fr.nil n0
  refine goIn (ef_c_str_4 m a ch) ?_
  show Go p e below m (Fini s 1 4 (fun v h L => v = none ∧ Fr n0 L ∧ Keep h0 h [a] ∧ ∃ d, Fld Z h a "java/lang/String" "value" "[B" (.ref d) ∧ Fld Z h a "java/lang/String" "coder" "B" (.int 0) ∧ Ars Z h d .byte [(.int c0.toInt8.toInt32), (.int c1.toInt8.toInt32), (.int c2.toInt8.toInt32), (.int c3.toInt8.toInt32)] ∧ h0.size ≤ d)) T0 0 #[.val (.ref a), .val (.ref ch)] []
  refine s_aloadN A0 d2_0 (pc' := 1) rfl rfl rfl ?_
  refine s_aloadN A0 d2_1 (pc' := 2) rfl rfl rfl ?_
  refine s_iconst A0 d2_2 (pc' := 3) rfl (v := (0 : Int32)) (by decide) ?_
  refine s_aloadN A0 d2_3 (pc' := 4) rfl rfl rfl ?_
  refine g_len X0 hx hZ e0 A (n := (4 : Int32)) rfl (hb hby d2_4) (pc' := 5) rfl ?_
  refine s_aconstNull A0 d2_5 (pc' := 6) rfl  ?_
  refine g_special X0 hx hZ (y := (⟨"java/lang/String", "<init>", "([CIILjava/lang/Void;)V"⟩ : MethodName)) rfl hown (hw _ (List.mem_of_getElem? (i := 12) rfl)) (hw _ (List.mem_of_getElem? (i := 13) rfl)) (hw _ (List.mem_of_getElem? (i := 7) rfl)) (hw _ (List.mem_of_getElem? (i := 15) rfl)) (by decide) (a := a) (argsL := [(.ref ch), (.int (0 : Int32)), (.int (4 : Int32)), .null]) (rest := []) (c_init4_4 l Z a0 hw [] a ch cz c0 c1 c2 c3 h0 n0 Z0 Ea ga F0 F1 A hne O S hcz C0 C1 C2 C3) pd_3 rfl rfl (hb hby d2_6) e0 (by rw [hml]; rfl) (pc' := 9) rfl (by decide) (W := 0) (Nat.le_of_eq rfl) (by decide) (by decide) (by decide) ?_
  intro v1 T1 L1 X1 hQ1
  have A1 := wk X1 hx hby
  have e1 : T1.heap = T1.heap := rfl
  obtain ⟨rfl, N1, K1, d, V1, C1, Ar1, gd1⟩ := hQ1
  have kp2 := Keep.trans (Keep.refl h0 [a]) K1 (allS (P := fun x => x ∈ [a] ∨ h0.size ≤ x) (Or.inl (List.mem_of_getElem? (i := 0) rfl)) all0)
  have fr1 := Fr.app N0 N1
  show Go p e below m (Fini s 1 4 (fun v h L => v = none ∧ Fr n0 L ∧ Keep h0 h [a] ∧ ∃ d, Fld Z h a "java/lang/String" "value" "[B" (.ref d) ∧ Fld Z h a "java/lang/String" "coder" "B" (.int 0) ∧ Ars Z h d .byte [(.int c0.toInt8.toInt32), (.int c1.toInt8.toInt32), (.int c2.toInt8.toInt32), (.int c3.toInt8.toInt32)] ∧ h0.size ≤ d)) T1 9 #[.val (.ref a), .val (.ref ch)] []
  exact g_retV X1 hx hlk hret (hb hby d2_9) (by exact ⟨rfl, fr1, K1, d, V1, C1, Ar1, gd1⟩) (by decide) (by decide)
theorem ef_c_init4_0 (m : MethodId) (x0 : Addr) (x1 : Addr) (x2 : Int32) (x3 : Int32) : entryFrame m #[(.ref x0), (.ref x1), (.int x2), (.int x3), .null] 6 = mkF m 0 #[.val (.ref x0), .val (.ref x1), .val (.int x2), .val (.int x3), .val .null, .unset] [] := by first | (simp [entryFrame, mkF, argsToLocals, Value.category, maxLocals]; done) | rfl
set_option maxRecDepth 65536 in
set_option maxHeartbeats 40000000 in
theorem c_init4_0 (l : Launch) (Z : State) (a0 : Array Value) (hw : ∀ d ∈ tables_1, d.before a0 Z = true) (ws : List Jvm.Cond) (a ch : Addr) (h0 : Heap) (n0 : Nat) (Z0 : n0 ≤ h0.size) (Ea : Exa Z h0 a "java/lang/String") (ga : n0 ≤ a) (F0 : Fld Z h0 a "java/lang/String" "value" "[B" .null) (F1 : Fld Z h0 a "java/lang/String" "coder" "B" (.int 0)) (hEL : EW Z a0 consts_1) :
    CtrH l Z consts_1 (⟨"java/lang/String", "<init>", "([CIILjava/lang/Void;)V"⟩ : MethodName) jdk_42_method_149_code 6 none ws ({ frames := 1, cells := 4, slots := 8, locals := 12 } : Room) #[(.ref a), (.ref ch), (.int (0 : Int32)), (.int (0 : Int32)), .null] h0 (fun v h L => v = none ∧ Fr n0 L ∧ Keep h0 h [a] ∧ ∃ d, Fld Z h a "java/lang/String" "value" "[B" (.ref d) ∧ Fld Z h a "java/lang/String" "coder" "B" (.int 0) ∧ Ars Z h d .byte []) := by
  refine enterH pn_3 ?_
  intro p e s m below meth c T0 X0 hx hby hml hret hlk hZ hown hnm e0 CH0 hS0
  have A0 := wk X0 hx hby
  have N0 := Fr.nil n0
  refine goIn (ef_c_init4_0 m a ch (0 : Int32) (0 : Int32)) ?_
  show Go p e below m (FinH Z consts_1 s h0 4 8 (fun v h L => v = none ∧ Fr n0 L ∧ Keep h0 h [a] ∧ ∃ d, Fld Z h a "java/lang/String" "value" "[B" (.ref d) ∧ Fld Z h a "java/lang/String" "coder" "B" (.int 0) ∧ Ars Z h d .byte [])) T0 0 #[.val (.ref a), .val (.ref ch), .val (.int (0 : Int32)), .val (.int (0 : Int32)), .val .null, .unset] []
  have sa0 : Safe Z consts_1 s.vm h0 a := Safe.null hZ.alike Ea F0
  refine s_aloadN A0 d3_0 (pc' := 1) rfl rfl rfl ?_
  refine g_initO X0 hx hZ hown (hw _ (List.mem_of_getElem? (i := 16) rfl)) (hw _ (List.mem_of_getElem? (i := 17) rfl)) (hw _ (List.mem_of_getElem? (i := 18) rfl)) e0 (by rw [hml]; rfl) (hb hby d3_1) (pc' := 4) rfl (by decide) (W := 0) (Nat.le_of_eq rfl) (by decide) ?_
  intro T1 X1 e1
  have A1 := wk X1 hx hby
  refine s_iloadN A1 d3_4 (pc' := 5) rfl rfl ?_
  refine s_ifne A1 d3_5 (pY := 27) (pN := 8) (by decide) (by decide) rfl (fun c => absurd c (by decide)) (fun _ => ?_)
  refine s_aloadN A1 d3_8 (pc' := 9) rfl rfl rfl ?_
  refine g_ldcR X1 hx hZ hown (hw _ (List.mem_of_getElem? (i := 19) rfl)) (own_sa hw) e1 hS0 (Nat.zero_le _) hEL CH0 (List.mem_of_getElem? (i := 0) rfl) (vs := []) (z := 0) own_mt (by decide) rfl (hb hby d3_9) (pc' := 11) rfl (n := 0) (by decide) (by decide) (by decide) (by decide) ?_
  intro a2 T2 h2 k2 b2 kb2 X2 e2 E2 hS2 hk2 hZ hown ch2 sx2 Ex2 Fc2 Fv2 Av2 nn2
  have A2 := wk X2 hx hby
  have sg2_0 := sx2 a Ea.lt sa0
  have kp3 := Keep.ext (Keep.refl h0 [a]) E2
  have Ab2 := Ars.empty Av2
  have nb2 := nn2 a sg2_0
  refine g_getF X2 hx hZ hown (hw _ (List.mem_of_getElem? (i := 25) rfl)) Via.refl e2 Fv2 (hb hby d3_11) (pc' := 14) rfl ?_
  intro T4 X4 e4
  have A4 := wk X4 hx hby
  have f5 := (Fld.ext E2 F0)
  have f6 := (Exa.ext E2 Ea)
  refine g_putF X4 hx hZ hown (hw _ (List.mem_of_getElem? (i := 25) rfl)) Via.refl e4 f5 f6 (Or.inr ⟨(hw _ (List.mem_of_getElem? (i := 21) rfl)), rfl, hnm⟩) (hw _ (List.mem_of_getElem? (i := 6) rfl)) (ty := (.array .byte)) (by decide) rfl rfl (hb hby d3_14) (pc' := 17) rfl ?_
  intro T7 h7 X7 e7 W7
  have A7 := wk X7 hx hby
  have F7 := Fld.same W7 f5
  have kp8 := Keep.wr kp3 W7 (Or.inl (List.mem_of_getElem? (i := 0) rfl))
  have fr8 := Fr.snoc X7 N0 ga
  have ch8 := CHr.trans ch2 (CHr.wr W7 sg2_0 ch2.1)
  have sf8_0 := Safe.wr W7 sg2_0 ch2.1 sg2_0
  refine s_aloadN A7 d3_17 (pc' := 18) rfl rfl rfl ?_
  have sz10 : h2.size ≤ h7.size := (Nat.le_of_eq (Wr.size W7).symm)
  refine g_ldcR X7 hx hZ hown (hw _ (List.mem_of_getElem? (i := 19) rfl)) (own_sa hw) e7 hS2 (Nat.le_trans hk2 sz10) hEL ch8 (List.mem_of_getElem? (i := 0) rfl) (vs := []) (z := 0) own_mt (by decide) rfl (hb hby d3_18) (pc' := 20) rfl (n := 0) (by decide) (by decide) (by decide) (by decide) ?_
  intro a9 T9 h9 k9 b9 kb9 X9 e9 E9 hS9 hk9 hZ hown ch9 sx9 Ex9 Fc9 Fv9 Av9 nn9
  have A9 := wk X9 hx hby
  have f11 := (Exa.wr W7 f6)
  have sg9_0 := sx9 a f11.lt sf8_0
  have kp12 := Keep.ext kp8 E9
  have Ab9 := Ars.empty Av9
  have nb9 := nn9 a sg9_0
  refine g_getF X9 hx hZ hown (hw _ (List.mem_of_getElem? (i := 26) rfl)) Via.refl e9 Fc9 (hb hby d3_20) (pc' := 23) rfl ?_
  intro T13 X13 e13
  have A13 := wk X13 hx hby
  have f14 := (Fld.ext E9 (Fld.other W7 (Fld.ext E2 F1) (Or.inr (slot_ne (Or.inr (hw _ (List.mem_of_getElem? (i := 22) rfl))) (Or.inr (hw _ (List.mem_of_getElem? (i := 21) rfl))) (by decide) (t := .byte) (by decide) (t' := (.array .byte)) (by decide)))))
  have f15 := (Exa.ext E9 f11)
  refine g_putF X13 hx hZ hown (hw _ (List.mem_of_getElem? (i := 26) rfl)) Via.refl e13 f14 f15 (Or.inr ⟨(hw _ (List.mem_of_getElem? (i := 22) rfl)), rfl, hnm⟩) (hw _ (List.mem_of_getElem? (i := 6) rfl)) (ty := .byte) (by decide) rfl rfl (hb hby d3_23) (pc' := 26) rfl ?_
  intro T16 h16 X16 e16 W16
  have A16 := wk X16 hx hby
  have F16 := Fld.same W16 f14
  have kp17 := Keep.wr kp12 W16 (Or.inl (List.mem_of_getElem? (i := 0) rfl))
  have fr17 := Fr.snoc X16 fr8 ga
  have ch17 := CHr.trans ch9 (CHr.wr W16 sg9_0 ch9.1)
  have sf17_0 := Safe.wr W16 sg9_0 ch9.1 sg9_0
  have f18 := (Fld.other W16 (Fld.ext E9 F7) (Or.inr (slot_ne (Or.inr (hw _ (List.mem_of_getElem? (i := 21) rfl))) (Or.inr (hw _ (List.mem_of_getElem? (i := 22) rfl))) (by decide) (t := (.array .byte)) (by decide) (t' := .byte) (by decide))))
  have f19 := (Ars.other W16 (Ars.ext E9 (Ars.other W7 Ab2 nb2.2.symm)) nb2.2.symm)
  have sz20 : h9.size ≤ h16.size := (Nat.le_of_eq (Wr.size W16).symm)
  exact h_retV X16 hx hZ hlk hS9 e16 (Nat.le_trans hk9 sz20) hEL ch17 hret (hb hby d3_26) (by rw [e16]; exact ⟨rfl, fr17, kp17, b2, f18, F16, f19⟩) (by decide) (by decide)
theorem ef_c_str_0 (m : MethodId) (x0 : Addr) (x1 : Addr) : entryFrame m #[(.ref x0), (.ref x1)] 2 = mkF m 0 #[.val (.ref x0), .val (.ref x1)] [] := by first | (simp [entryFrame, mkF, argsToLocals, Value.category, maxLocals]; done) | rfl
set_option maxRecDepth 65536 in
set_option maxHeartbeats 40000000 in
theorem c_str_0 (l : Launch) (Z : State) (a0 : Array Value) (hw : ∀ d ∈ tables_1, d.before a0 Z = true) (ws : List Jvm.Cond) (a ch : Addr) (h0 : Heap) (n0 : Nat) (Z0 : n0 ≤ h0.size) (Ea : Exa Z h0 a "java/lang/String") (ga : n0 ≤ a) (F0 : Fld Z h0 a "java/lang/String" "value" "[B" .null) (F1 : Fld Z h0 a "java/lang/String" "coder" "B" (.int 0)) (A : Ars Z h0 ch .char []) (hEL : EW Z a0 consts_1) :
    CtrH l Z consts_1 (⟨"java/lang/String", "<init>", "([C)V"⟩ : MethodName) jdk_42_method_3_code 2 none ws ({ frames := 2, cells := 4, slots := 8, locals := 29 } : Room) #[(.ref a), (.ref ch)] h0 (fun v h L => v = none ∧ Fr n0 L ∧ Keep h0 h [a] ∧ ∃ d, Fld Z h a "java/lang/String" "value" "[B" (.ref d) ∧ Fld Z h a "java/lang/String" "coder" "B" (.int 0) ∧ Ars Z h d .byte []) := by
  refine enterH pn_2 ?_
  intro p e s m below meth c T0 X0 hx hby hml hret hlk hZ hown hnm e0 CH0 hS0
  have A0 := wk X0 hx hby
  have N0 := Fr.nil n0
  refine goIn (ef_c_str_0 m a ch) ?_
  show Go p e below m (FinH Z consts_1 s h0 4 8 (fun v h L => v = none ∧ Fr n0 L ∧ Keep h0 h [a] ∧ ∃ d, Fld Z h a "java/lang/String" "value" "[B" (.ref d) ∧ Fld Z h a "java/lang/String" "coder" "B" (.int 0) ∧ Ars Z h d .byte [])) T0 0 #[.val (.ref a), .val (.ref ch)] []
  refine s_aloadN A0 d2_0 (pc' := 1) rfl rfl rfl ?_
  refine s_aloadN A0 d2_1 (pc' := 2) rfl rfl rfl ?_
  refine s_iconst A0 d2_2 (pc' := 3) rfl (v := (0 : Int32)) (by decide) ?_
  refine s_aloadN A0 d2_3 (pc' := 4) rfl rfl rfl ?_
  refine g_len X0 hx hZ e0 A (n := (0 : Int32)) rfl (hb hby d2_4) (pc' := 5) rfl ?_
  refine s_aconstNull A0 d2_5 (pc' := 6) rfl  ?_
  refine g_specialH X0 hx hZ (y := (⟨"java/lang/String", "<init>", "([CIILjava/lang/Void;)V"⟩ : MethodName)) rfl hown (hw _ (List.mem_of_getElem? (i := 12) rfl)) (hw _ (List.mem_of_getElem? (i := 13) rfl)) (hw _ (List.mem_of_getElem? (i := 7) rfl)) (hw _ (List.mem_of_getElem? (i := 15) rfl)) (by decide) hS0 (Nat.zero_le _) hEL CH0 (a := a) (argsL := [(.ref ch), (.int (0 : Int32)), (.int (0 : Int32)), .null]) (rest := []) (c_init4_0 l Z a0 hw [] a ch h0 n0 Z0 Ea ga F0 F1 hEL) pd_3 rfl rfl (hb hby d2_6) e0 (by rw [hml]; rfl) (pc' := 9) rfl (by decide) (W := 0) (Nat.le_of_eq rfl) (by decide) (by decide) (by decide) ?_
  intro v1 T1 L1 X1 hS1 hZ hown ch1 sx1 hQ1
  have A1 := wk X1 hx hby
  have e1 : T1.heap = T1.heap := rfl
  obtain ⟨rfl, N1, K1, d, V1, C1, Ar1⟩ := hQ1
  have kp2 := Keep.trans (Keep.refl h0 [a]) K1 (allS (P := fun x => x ∈ [a] ∨ h0.size ≤ x) (Or.inl (List.mem_of_getElem? (i := 0) rfl)) all0)
  have fr1 := Fr.app N0 N1
  show Go p e below m (FinH Z consts_1 s h0 4 8 (fun v h L => v = none ∧ Fr n0 L ∧ Keep h0 h [a] ∧ ∃ d, Fld Z h a "java/lang/String" "value" "[B" (.ref d) ∧ Fld Z h a "java/lang/String" "coder" "B" (.int 0) ∧ Ars Z h d .byte [])) T1 9 #[.val (.ref a), .val (.ref ch)] []
  exact h_retV X1 hx hZ hlk hS1 e1 (Nat.le_refl _) hEL ch1 hret (hb hby d2_9) (by exact ⟨rfl, fr1, K1, d, V1, C1, Ar1⟩) (by decide) (by decide)
theorem d1_0 : decode method_2_code 0 = .ok (.iload_n 0, 1) := by decide +kernel
theorem d1_1 : decode method_2_code 1 = .ok (.ifCond .ne 14, 3) := by decide +kernel
theorem d1_4 : decode method_2_code 4 = .ok (.new 7, 3) := by decide +kernel
theorem d1_7 : decode method_2_code 7 = .ok (.dup, 1) := by decide +kernel
theorem d1_8 : decode method_2_code 8 = .ok (.iconst 0, 1) := by decide +kernel
theorem d1_9 : decode method_2_code 9 = .ok (.newarray .char, 2) := by decide +kernel
theorem d1_11 : decode method_2_code 11 = .ok (.invokespecial 9, 3) := by decide +kernel
theorem d1_14 : decode method_2_code 14 = .ok (.areturn, 1) := by decide +kernel
theorem d1_15 : decode method_2_code 15 = .ok (.iload_n 0, 1) := by decide +kernel
theorem d1_16 : decode method_2_code 16 = .ok (.iconst 1, 1) := by decide +kernel
theorem d1_17 : decode method_2_code 17 = .ok (.if_icmp .ne 18, 3) := by decide +kernel
theorem d1_20 : decode method_2_code 20 = .ok (.new 7, 3) := by decide +kernel
theorem d1_23 : decode method_2_code 23 = .ok (.dup, 1) := by decide +kernel
theorem d1_24 : decode method_2_code 24 = .ok (.iconst 1, 1) := by decide +kernel
theorem d1_25 : decode method_2_code 25 = .ok (.newarray .char, 2) := by decide +kernel
theorem d1_27 : decode method_2_code 27 = .ok (.dup, 1) := by decide +kernel
theorem d1_28 : decode method_2_code 28 = .ok (.iconst 0, 1) := by decide +kernel
theorem d1_29 : decode method_2_code 29 = .ok (.iload_n 1, 1) := by decide +kernel
theorem d1_30 : decode method_2_code 30 = .ok (.castore, 1) := by decide +kernel
theorem d1_31 : decode method_2_code 31 = .ok (.invokespecial 9, 3) := by decide +kernel
theorem d1_34 : decode method_2_code 34 = .ok (.areturn, 1) := by decide +kernel
theorem d1_35 : decode method_2_code 35 = .ok (.iload_n 0, 1) := by decide +kernel
theorem d1_36 : decode method_2_code 36 = .ok (.iconst 2, 1) := by decide +kernel
theorem d1_37 : decode method_2_code 37 = .ok (.if_icmp .ne 22, 3) := by decide +kernel
theorem d1_40 : decode method_2_code 40 = .ok (.new 7, 3) := by decide +kernel
theorem d1_43 : decode method_2_code 43 = .ok (.dup, 1) := by decide +kernel
theorem d1_44 : decode method_2_code 44 = .ok (.iconst 2, 1) := by decide +kernel
theorem d1_45 : decode method_2_code 45 = .ok (.newarray .char, 2) := by decide +kernel
theorem d1_47 : decode method_2_code 47 = .ok (.dup, 1) := by decide +kernel
theorem d1_48 : decode method_2_code 48 = .ok (.iconst 0, 1) := by decide +kernel
theorem d1_49 : decode method_2_code 49 = .ok (.iload_n 1, 1) := by decide +kernel
theorem d1_50 : decode method_2_code 50 = .ok (.castore, 1) := by decide +kernel
theorem d1_51 : decode method_2_code 51 = .ok (.dup, 1) := by decide +kernel
theorem d1_52 : decode method_2_code 52 = .ok (.iconst 1, 1) := by decide +kernel
theorem d1_53 : decode method_2_code 53 = .ok (.iload_n 2, 1) := by decide +kernel
theorem d1_54 : decode method_2_code 54 = .ok (.castore, 1) := by decide +kernel
theorem d1_55 : decode method_2_code 55 = .ok (.invokespecial 9, 3) := by decide +kernel
theorem d1_58 : decode method_2_code 58 = .ok (.areturn, 1) := by decide +kernel
theorem d1_59 : decode method_2_code 59 = .ok (.iload_n 0, 1) := by decide +kernel
theorem d1_60 : decode method_2_code 60 = .ok (.iconst 3, 1) := by decide +kernel
theorem d1_61 : decode method_2_code 61 = .ok (.if_icmp .ne 26, 3) := by decide +kernel
theorem d1_64 : decode method_2_code 64 = .ok (.new 7, 3) := by decide +kernel
theorem d1_67 : decode method_2_code 67 = .ok (.dup, 1) := by decide +kernel
theorem d1_68 : decode method_2_code 68 = .ok (.iconst 3, 1) := by decide +kernel
theorem d1_69 : decode method_2_code 69 = .ok (.newarray .char, 2) := by decide +kernel
theorem d1_71 : decode method_2_code 71 = .ok (.dup, 1) := by decide +kernel
theorem d1_72 : decode method_2_code 72 = .ok (.iconst 0, 1) := by decide +kernel
theorem d1_73 : decode method_2_code 73 = .ok (.iload_n 1, 1) := by decide +kernel
theorem d1_74 : decode method_2_code 74 = .ok (.castore, 1) := by decide +kernel
theorem d1_75 : decode method_2_code 75 = .ok (.dup, 1) := by decide +kernel
theorem d1_76 : decode method_2_code 76 = .ok (.iconst 1, 1) := by decide +kernel
theorem d1_77 : decode method_2_code 77 = .ok (.iload_n 2, 1) := by decide +kernel
theorem d1_78 : decode method_2_code 78 = .ok (.castore, 1) := by decide +kernel
theorem d1_79 : decode method_2_code 79 = .ok (.dup, 1) := by decide +kernel
theorem d1_80 : decode method_2_code 80 = .ok (.iconst 2, 1) := by decide +kernel
theorem d1_81 : decode method_2_code 81 = .ok (.iload_n 3, 1) := by decide +kernel
theorem d1_82 : decode method_2_code 82 = .ok (.castore, 1) := by decide +kernel
theorem d1_83 : decode method_2_code 83 = .ok (.invokespecial 9, 3) := by decide +kernel
theorem d1_86 : decode method_2_code 86 = .ok (.areturn, 1) := by decide +kernel
theorem d1_87 : decode method_2_code 87 = .ok (.new 7, 3) := by decide +kernel
theorem d1_90 : decode method_2_code 90 = .ok (.dup, 1) := by decide +kernel
theorem d1_91 : decode method_2_code 91 = .ok (.iconst 4, 1) := by decide +kernel
theorem d1_92 : decode method_2_code 92 = .ok (.newarray .char, 2) := by decide +kernel
theorem d1_94 : decode method_2_code 94 = .ok (.dup, 1) := by decide +kernel
theorem d1_95 : decode method_2_code 95 = .ok (.iconst 0, 1) := by decide +kernel
theorem d1_96 : decode method_2_code 96 = .ok (.iload_n 1, 1) := by decide +kernel
theorem d1_97 : decode method_2_code 97 = .ok (.castore, 1) := by decide +kernel
theorem d1_98 : decode method_2_code 98 = .ok (.dup, 1) := by decide +kernel
theorem d1_99 : decode method_2_code 99 = .ok (.iconst 1, 1) := by decide +kernel
theorem d1_100 : decode method_2_code 100 = .ok (.iload_n 2, 1) := by decide +kernel
theorem d1_101 : decode method_2_code 101 = .ok (.castore, 1) := by decide +kernel
theorem d1_102 : decode method_2_code 102 = .ok (.dup, 1) := by decide +kernel
theorem d1_103 : decode method_2_code 103 = .ok (.iconst 2, 1) := by decide +kernel
theorem d1_104 : decode method_2_code 104 = .ok (.iload_n 3, 1) := by decide +kernel
theorem d1_105 : decode method_2_code 105 = .ok (.castore, 1) := by decide +kernel
theorem d1_106 : decode method_2_code 106 = .ok (.dup, 1) := by decide +kernel
theorem d1_107 : decode method_2_code 107 = .ok (.iconst 3, 1) := by decide +kernel
theorem d1_108 : decode method_2_code 108 = .ok (.iload 4, 2) := by decide +kernel
theorem d1_110 : decode method_2_code 110 = .ok (.castore, 1) := by decide +kernel
theorem d1_111 : decode method_2_code 111 = .ok (.invokespecial 9, 3) := by decide +kernel
theorem d1_114 : decode method_2_code 114 = .ok (.areturn, 1) := by decide +kernel
theorem ef_c_make_0 (m : MethodId) (x0 : Int32) (x1 : Int32) (x2 : Int32) (x3 : Int32) (x4 : Int32) : entryFrame m #[(.int x0), (.int x1), (.int x2), (.int x3), (.int x4)] 5 = mkF m 0 #[.val (.int x0), .val (.int x1), .val (.int x2), .val (.int x3), .val (.int x4)] [] := by first | (simp [entryFrame, mkF, argsToLocals, Value.category, maxLocals]; done) | rfl
set_option maxRecDepth 65536 in
set_option maxHeartbeats 40000000 in
theorem c_make_0 (l : Launch) (Z : State) (a0 : Array Value) (hw : ∀ d ∈ tables_1, d.before a0 Z = true) (ws : List Jvm.Cond) (cz c0 c1 c2 c3 : Int32) (h0 : Heap) (n0 : Nat) (Z0 : n0 ≤ h0.size) (O : Old Z n0 h0) (SC : Sta Z Z.heap "java/lang/String" "COMPACT_STRINGS" "Z" (.int cz)) (hcz : ¬ cz = 0) (C0 : 0 ≤ c0.toInt ∧ c0.toInt ≤ 255) (C1 : 0 ≤ c1.toInt ∧ c1.toInt ≤ 255) (C2 : 0 ≤ c2.toInt ∧ c2.toInt ≤ 255) (C3 : 0 ≤ c3.toInt ∧ c3.toInt ≤ 255) (hEL : EW Z a0 consts_1) :
    CtrH l Z consts_1 (⟨"com/example/divvy/divvy/document/DocumentIdPartitionKeyPinLaw", "make", "(ICCCC)Ljava/lang/String;"⟩ : MethodName) method_2_code 5 (some (.object "java/lang/String")) ws ({ frames := 3, cells := 6, slots := 12, locals := 43 } : Room) #[(.int (0 : Int32)), (.int c0), (.int c1), (.int c2), (.int c3)] h0 (fun v h L => ∃ a d, v = some (.ref a) ∧ Fr n0 L ∧ Keep h0 h [] ∧ Exa Z h a "java/lang/String" ∧ Fld Z h a "java/lang/String" "value" "[B" (.ref d) ∧ Fld Z h a "java/lang/String" "coder" "B" (.int 0) ∧ Ars Z h d .byte []) := by
  refine enterH pn_1 ?_
  intro p e s m below meth c T0 X0 hx hby hml hret hlk hZ hown hnm e0 CH0 hS0
  have A0 := wk X0 hx hby
  have N0 := Fr.nil n0
  refine goIn (ef_c_make_0 m (0 : Int32) c0 c1 c2 c3) ?_
  show Go p e below m (FinH Z consts_1 s h0 6 12 (fun v h L => ∃ a d, v = some (.ref a) ∧ Fr n0 L ∧ Keep h0 h [] ∧ Exa Z h a "java/lang/String" ∧ Fld Z h a "java/lang/String" "value" "[B" (.ref d) ∧ Fld Z h a "java/lang/String" "coder" "B" (.int 0) ∧ Ars Z h d .byte [])) T0 0 #[.val (.int (0 : Int32)), .val (.int c0), .val (.int c1), .val (.int c2), .val (.int c3)] []
  refine s_iloadN A0 d1_0 (pc' := 1) rfl rfl ?_
  refine s_ifne A0 d1_1 (pY := 15) (pN := 4) (by decide) (by decide) rfl (fun c => absurd c (by decide)) (fun _ => ?_)
  refine g_new X0 hx hZ hown (hw _ (List.mem_of_getElem? (i := 5) rfl)) (hw _ (List.mem_of_getElem? (i := 6) rfl)) (hw _ (List.mem_of_getElem? (i := 7) rfl)) e0 (hb hby d1_4) (pc' := 7) rfl (by decide) (by decide) ?_
  intro T1 h1 a1 X1 e1 E1 ga1 Ex1 D1
  have A1 := wk X1 hx hby
  have la2 : a1 < h1.size := Ex1.lt
  have kp3 := Keep.ext (Keep.refl h0 []) E1
  have ch3 := CHr.trans CH0 (CHr.ext E1 CH0.1)
  have F1f0 : Fld Z h1 a1 "java/lang/String" "value" "[B" .null := D1 (Or.inr (hw _ (List.mem_of_getElem? (i := 21) rfl))) (ty := (.array .byte)) (by decide)
  have F1f1 : Fld Z h1 a1 "java/lang/String" "coder" "B" (.int 0) := D1 (Or.inr (hw _ (List.mem_of_getElem? (i := 22) rfl))) (ty := .byte) (by decide)
  refine s_dup A1 d1_7 (pc' := 8) rfl rfl ?_
  refine s_iconst A1 d1_8 (pc' := 9) rfl (v := (0 : Int32)) (by decide) ?_
  refine g_newarray X1 hx hZ e1 (hw _ (List.mem_of_getElem? (i := 8) rfl)) (by decide) (k0 := 0) (by decide) (by decide) (by decide) (by decide) (ad := "[C") (by decide) rfl (hb hby d1_9) (pc' := 11) rfl ?_
  intro T4 h4 a4 X4 e4 E4 ga4 Ar4 Ex4
  have A4 := wk X4 hx hby
  have Ar4 : Ars Z h4 a4 .char [] := Ar4
  have la5 : a4 < h4.size := Ex4.lt
  have kp6 := Keep.ext kp3 E4
  have ch6 := CHr.trans ch3 (CHr.ext E4 ch3.1)
  have f7 := (Exa.ext E4 Ex1)
  have f8 := (Fld.ext E4 F1f0)
  have f9 := (Fld.ext E4 F1f1)
  have ge11 : h0.size ≤ a1 := by rw [ga1]; exact (Nat.le_refl _)
  have gn10 : n0 ≤ a1 := Nat.le_trans Z0 ge11
  have sz14 : h0.size ≤ h4.size := (Nat.le_trans E1.1 E4.1)
  have zs13 : n0 ≤ h4.size := Nat.le_trans Z0 sz14
  refine g_specialH X4 hx hZ (y := (⟨"java/lang/String", "<init>", "([C)V"⟩ : MethodName)) rfl hown (hw _ (List.mem_of_getElem? (i := 9) rfl)) (hw _ (List.mem_of_getElem? (i := 10) rfl)) (hw _ (List.mem_of_getElem? (i := 7) rfl)) (hw _ (List.mem_of_getElem? (i := 11) rfl)) (by decide) hS0 (Nat.zero_le _) hEL ch6 (a := a1) (argsL := [(.ref a4)]) (rest := [(.ref a1)]) (c_str_0 l Z a0 hw [] a1 a4 h4 n0 zs13 f7 gn10 f8 f9 Ar4 hEL) pd_4 rfl rfl (hb hby d1_11) e4 (by rw [hml]; rfl) (pc' := 14) rfl (by decide) (W := 1) (Nat.le_of_eq rfl) (by decide) (by decide) (by decide) ?_
  intro v12 T12 L12 X12 hS12 hZ hown ch12 sx12 hQ12
  have A12 := wk X12 hx hby
  have e12 : T12.heap = T12.heap := rfl
  obtain ⟨rfl, N12, K12, d12, V12, C12, Ar12⟩ := hQ12
  have kp15 := Keep.trans kp6 K12 (allS (P := fun x => x ∈ [] ∨ h0.size ≤ x) (Or.inr ge11) all0)
  have fr12 := Fr.app N0 N12
  show Go p e below m (FinH Z consts_1 s h0 6 12 (fun v h L => ∃ a d, v = some (.ref a) ∧ Fr n0 L ∧ Keep h0 h [] ∧ Exa Z h a "java/lang/String" ∧ Fld Z h a "java/lang/String" "value" "[B" (.ref d) ∧ Fld Z h a "java/lang/String" "coder" "B" (.int 0) ∧ Ars Z h d .byte [])) T12 14 #[.val (.int (0 : Int32)), .val (.int c0), .val (.int c1), .val (.int c2), .val (.int c3)] [(.ref a1)]
  have f16 := (Exa.keep f7 K12)
  exact h_ret X12 hx hZ hlk hS12 e12 (Nat.le_refl _) hEL ch12 hret rfl (Or.inr (Or.inr (Or.inr (Or.inr ⟨rfl, rfl, rfl⟩)))) (hb hby d1_14) (by rw [e12]; exact ⟨_, _, rfl, fr12, kp15, f16, V12, C12, Ar12⟩) (by decide) (by decide)
theorem ef_c_make_1 (m : MethodId) (x0 : Int32) (x1 : Int32) (x2 : Int32) (x3 : Int32) (x4 : Int32) : entryFrame m #[(.int x0), (.int x1), (.int x2), (.int x3), (.int x4)] 5 = mkF m 0 #[.val (.int x0), .val (.int x1), .val (.int x2), .val (.int x3), .val (.int x4)] [] := by first | (simp [entryFrame, mkF, argsToLocals, Value.category, maxLocals]; done) | rfl
set_option maxRecDepth 65536 in
set_option maxHeartbeats 40000000 in
theorem c_make_1 (l : Launch) (Z : State) (a0 : Array Value) (hw : ∀ d ∈ tables_1, d.before a0 Z = true) (ws : List Jvm.Cond) (cz c0 c1 c2 c3 : Int32) (h0 : Heap) (n0 : Nat) (Z0 : n0 ≤ h0.size) (O : Old Z n0 h0) (SC : Sta Z Z.heap "java/lang/String" "COMPACT_STRINGS" "Z" (.int cz)) (hcz : ¬ cz = 0) (C0 : 0 ≤ c0.toInt ∧ c0.toInt ≤ 255) (C1 : 0 ≤ c1.toInt ∧ c1.toInt ≤ 255) (C2 : 0 ≤ c2.toInt ∧ c2.toInt ≤ 255) (C3 : 0 ≤ c3.toInt ∧ c3.toInt ≤ 255) (hEL : EW Z a0 consts_1) :
    CtrH l Z consts_1 (⟨"com/example/divvy/divvy/document/DocumentIdPartitionKeyPinLaw", "make", "(ICCCC)Ljava/lang/String;"⟩ : MethodName) method_2_code 5 (some (.object "java/lang/String")) ws ({ frames := 4, cells := 3, slots := 6, locals := 66 } : Room) #[(.int (1 : Int32)), (.int c0), (.int c1), (.int c2), (.int c3)] h0 (fun v h L => ∃ a d, v = some (.ref a) ∧ Fr n0 L ∧ Keep h0 h [] ∧ Exa Z h a "java/lang/String" ∧ Fld Z h a "java/lang/String" "value" "[B" (.ref d) ∧ Fld Z h a "java/lang/String" "coder" "B" (.int 0) ∧ Ars Z h d .byte [(.int c0.toInt8.toInt32)]) := by
  refine enterH pn_1 ?_
  intro p e s m below meth c T0 X0 hx hby hml hret hlk hZ hown hnm e0 CH0 hS0
  have A0 := wk X0 hx hby
  have N0 := Fr.nil n0
  refine goIn (ef_c_make_1 m (1 : Int32) c0 c1 c2 c3) ?_
  show Go p e below m (FinH Z consts_1 s h0 3 6 (fun v h L => ∃ a d, v = some (.ref a) ∧ Fr n0 L ∧ Keep h0 h [] ∧ Exa Z h a "java/lang/String" ∧ Fld Z h a "java/lang/String" "value" "[B" (.ref d) ∧ Fld Z h a "java/lang/String" "coder" "B" (.int 0) ∧ Ars Z h d .byte [(.int c0.toInt8.toInt32)])) T0 0 #[.val (.int (1 : Int32)), .val (.int c0), .val (.int c1), .val (.int c2), .val (.int c3)] []
  refine s_iloadN A0 d1_0 (pc' := 1) rfl rfl ?_
  refine s_ifne A0 d1_1 (pY := 15) (pN := 4) (by decide) (by decide) rfl (fun _ => ?_) (fun c => absurd c (by decide))
  refine s_iloadN A0 d1_15 (pc' := 16) rfl rfl ?_
  refine s_iconst A0 d1_16 (pc' := 17) rfl (v := (1 : Int32)) (by decide) ?_
  refine s_icmpne A0 d1_17 (pY := 35) (pN := 20) (by decide) (by decide) rfl (fun c => absurd c (by decide)) (fun _ => ?_)
  refine g_new X0 hx hZ hown (hw _ (List.mem_of_getElem? (i := 5) rfl)) (hw _ (List.mem_of_getElem? (i := 6) rfl)) (hw _ (List.mem_of_getElem? (i := 7) rfl)) e0 (hb hby d1_20) (pc' := 23) rfl (by decide) (by decide) ?_
  intro T1 h1 a1 X1 e1 E1 ga1 Ex1 D1
  have A1 := wk X1 hx hby
  have la2 : a1 < h1.size := Ex1.lt
  have kp3 := Keep.ext (Keep.refl h0 []) E1
  have ch3 := CHr.trans CH0 (CHr.ext E1 CH0.1)
  have F1f0 : Fld Z h1 a1 "java/lang/String" "value" "[B" .null := D1 (Or.inr (hw _ (List.mem_of_getElem? (i := 21) rfl))) (ty := (.array .byte)) (by decide)
  have F1f1 : Fld Z h1 a1 "java/lang/String" "coder" "B" (.int 0) := D1 (Or.inr (hw _ (List.mem_of_getElem? (i := 22) rfl))) (ty := .byte) (by decide)
  refine s_dup A1 d1_23 (pc' := 24) rfl rfl ?_
  refine s_iconst A1 d1_24 (pc' := 25) rfl (v := (1 : Int32)) (by decide) ?_
  refine g_newarray X1 hx hZ e1 (hw _ (List.mem_of_getElem? (i := 8) rfl)) (by decide) (k0 := 1) (by decide) (by decide) (by decide) (by decide) (ad := "[C") (by decide) rfl (hb hby d1_25) (pc' := 27) rfl ?_
  intro T4 h4 a4 X4 e4 E4 ga4 Ar4 Ex4
  have A4 := wk X4 hx hby
  have Ar4 : Ars Z h4 a4 .char [(.int 0)] := Ar4
  have la5 : a4 < h4.size := Ex4.lt
  have kp6 := Keep.ext kp3 E4
  have ch6 := CHr.trans ch3 (CHr.ext E4 ch3.1)
  refine s_dup A4 d1_27 (pc' := 28) rfl rfl ?_
  refine s_iconst A4 d1_28 (pc' := 29) rfl (v := (0 : Int32)) (by decide) ?_
  refine s_iloadN A4 d1_29 (pc' := 30) rfl rfl ?_
  refine g_castore X4 hx hZ e4 Ar4 (by decide) (i := 0) (by decide) (by simp) (v := (.int c0)) (congrArg Value.int (own_i2c (z := c0) (by omega))) (hb hby d1_30) (pc' := 31) rfl ?_
  intro T7 h7 X7 e7 W7 Ar7
  have A7 := wk X7 hx hby
  have Ar7 : Ars Z h7 a4 .char [(.int c0)] := Ar7
  have sz10 : h0.size ≤ h1.size := E1.1
  have ge9 : h0.size ≤ a4 := by rw [ga4]; exact sz10
  have gn8 : n0 ≤ a4 := Nat.le_trans Z0 ge9
  have kp11 := Keep.wr kp6 W7 (Or.inr ge9)
  have fr11 := Fr.snoc X7 N0 gn8
  have ch11 := CHr.trans ch6 (CHr.wr W7 (Ars.safe hZ.alike Ar4 (by decide)) ch6.1)
  have f12 := (Exa.wr W7 (Exa.ext E4 Ex1))
  have ne13 : a1 ≠ a4 := by rw [ga4]; exact Nat.ne_of_lt (Nat.lt_of_lt_of_le la2 (Nat.le_refl _))
  have f14 := (Fld.other W7 (Fld.ext E4 F1f0) (Or.inl ne13))
  have f15 := (Fld.other W7 (Fld.ext E4 F1f1) (Or.inl ne13))
  have ge17 : h0.size ≤ a1 := by rw [ga1]; exact (Nat.le_refl _)
  have gn16 : n0 ≤ a1 := Nat.le_trans Z0 ge17
  have f18 := (Old.wr (Old.ext' E4 (Old.ext' E1 O)) W7 gn8)
  have sz20 : h0.size ≤ h7.size := (Nat.le_trans (Nat.le_trans sz10 E4.1) (Nat.le_of_eq (Wr.size W7).symm))
  have zs19 : n0 ≤ h7.size := Nat.le_trans Z0 sz20
  refine g_special X7 hx hZ (y := (⟨"java/lang/String", "<init>", "([C)V"⟩ : MethodName)) rfl hown (hw _ (List.mem_of_getElem? (i := 9) rfl)) (hw _ (List.mem_of_getElem? (i := 10) rfl)) (hw _ (List.mem_of_getElem? (i := 7) rfl)) (hw _ (List.mem_of_getElem? (i := 11) rfl)) (by decide) (a := a1) (argsL := [(.ref a4)]) (rest := [(.ref a1)]) (c_str_1 l Z a0 hw [] a1 a4 cz c0 h7 n0 zs19 f12 gn16 f14 f15 Ar7 ne13 f18 SC hcz (by omega)) pd_4 rfl rfl (hb hby d1_31) e7 (by rw [hml]; rfl) (pc' := 34) rfl (by decide) (W := 1) (Nat.le_of_eq rfl) (by decide) (by decide) (by decide) ?_
  intro v21 T21 L21 X21 hQ21
  have A21 := wk X21 hx hby
  have e21 : T21.heap = T21.heap := rfl
  obtain ⟨rfl, N21, K21, d21, V21, C21, Ar21, gd21⟩ := hQ21
  have kp22 := Keep.trans kp11 K21 (allS (P := fun x => x ∈ [] ∨ h0.size ≤ x) (Or.inr ge17) all0)
  have ch22 := CHr.trans ch11 (CHr.keep K21 (allS (P := fun x => Safe Z consts_1 s.vm h7 x) (Safe.null hZ.alike f12 f14) all0) ch11.1)
  have fr21 := Fr.app fr11 N21
  show Go p e below m (FinH Z consts_1 s h0 3 6 (fun v h L => ∃ a d, v = some (.ref a) ∧ Fr n0 L ∧ Keep h0 h [] ∧ Exa Z h a "java/lang/String" ∧ Fld Z h a "java/lang/String" "value" "[B" (.ref d) ∧ Fld Z h a "java/lang/String" "coder" "B" (.int 0) ∧ Ars Z h d .byte [(.int c0.toInt8.toInt32)])) T21 34 #[.val (.int (1 : Int32)), .val (.int c0), .val (.int c1), .val (.int c2), .val (.int c3)] [(.ref a1)]
  have f23 := (Exa.keep f12 K21)
  exact h_ret X21 hx hZ hlk hS0 e21 (Nat.zero_le _) hEL ch22 hret rfl (Or.inr (Or.inr (Or.inr (Or.inr ⟨rfl, rfl, rfl⟩)))) (hb hby d1_34) (by rw [e21]; exact ⟨_, _, rfl, fr21, kp22, f23, V21, C21, Ar21⟩) (by decide) (by decide)
theorem ef_c_make_2 (m : MethodId) (x0 : Int32) (x1 : Int32) (x2 : Int32) (x3 : Int32) (x4 : Int32) : entryFrame m #[(.int x0), (.int x1), (.int x2), (.int x3), (.int x4)] 5 = mkF m 0 #[.val (.int x0), .val (.int x1), .val (.int x2), .val (.int x3), .val (.int x4)] [] := by first | (simp [entryFrame, mkF, argsToLocals, Value.category, maxLocals]; done) | rfl
set_option maxRecDepth 65536 in
set_option maxHeartbeats 40000000 in
theorem c_make_2 (l : Launch) (Z : State) (a0 : Array Value) (hw : ∀ d ∈ tables_1, d.before a0 Z = true) (ws : List Jvm.Cond) (cz c0 c1 c2 c3 : Int32) (h0 : Heap) (n0 : Nat) (Z0 : n0 ≤ h0.size) (O : Old Z n0 h0) (SC : Sta Z Z.heap "java/lang/String" "COMPACT_STRINGS" "Z" (.int cz)) (hcz : ¬ cz = 0) (C0 : 0 ≤ c0.toInt ∧ c0.toInt ≤ 255) (C1 : 0 ≤ c1.toInt ∧ c1.toInt ≤ 255) (C2 : 0 ≤ c2.toInt ∧ c2.toInt ≤ 255) (C3 : 0 ≤ c3.toInt ∧ c3.toInt ≤ 255) (hEL : EW Z a0 consts_1) :
    CtrH l Z consts_1 (⟨"com/example/divvy/divvy/document/DocumentIdPartitionKeyPinLaw", "make", "(ICCCC)Ljava/lang/String;"⟩ : MethodName) method_2_code 5 (some (.object "java/lang/String")) ws ({ frames := 4, cells := 3, slots := 8, locals := 66 } : Room) #[(.int (2 : Int32)), (.int c0), (.int c1), (.int c2), (.int c3)] h0 (fun v h L => ∃ a d, v = some (.ref a) ∧ Fr n0 L ∧ Keep h0 h [] ∧ Exa Z h a "java/lang/String" ∧ Fld Z h a "java/lang/String" "value" "[B" (.ref d) ∧ Fld Z h a "java/lang/String" "coder" "B" (.int 0) ∧ Ars Z h d .byte [(.int c0.toInt8.toInt32), (.int c1.toInt8.toInt32)]) := by
  refine enterH pn_1 ?_
  intro p e s m below meth c T0 X0 hx hby hml hret hlk hZ hown hnm e0 CH0 hS0
  have A0 := wk X0 hx hby
  have N0 := Fr.nil n0
  refine goIn (ef_c_make_2 m (2 : Int32) c0 c1 c2 c3) ?_
  show Go p e below m (FinH Z consts_1 s h0 3 8 (fun v h L => ∃ a d, v = some (.ref a) ∧ Fr n0 L ∧ Keep h0 h [] ∧ Exa Z h a "java/lang/String" ∧ Fld Z h a "java/lang/String" "value" "[B" (.ref d) ∧ Fld Z h a "java/lang/String" "coder" "B" (.int 0) ∧ Ars Z h d .byte [(.int c0.toInt8.toInt32), (.int c1.toInt8.toInt32)])) T0 0 #[.val (.int (2 : Int32)), .val (.int c0), .val (.int c1), .val (.int c2), .val (.int c3)] []
  refine s_iloadN A0 d1_0 (pc' := 1) rfl rfl ?_
  refine s_ifne A0 d1_1 (pY := 15) (pN := 4) (by decide) (by decide) rfl (fun _ => ?_) (fun c => absurd c (by decide))
  refine s_iloadN A0 d1_15 (pc' := 16) rfl rfl ?_
  refine s_iconst A0 d1_16 (pc' := 17) rfl (v := (1 : Int32)) (by decide) ?_
  refine s_icmpne A0 d1_17 (pY := 35) (pN := 20) (by decide) (by decide) rfl (fun _ => ?_) (fun c => absurd c (by decide))
  refine s_iloadN A0 d1_35 (pc' := 36) rfl rfl ?_
  refine s_iconst A0 d1_36 (pc' := 37) rfl (v := (2 : Int32)) (by decide) ?_
  refine s_icmpne A0 d1_37 (pY := 59) (pN := 40) (by decide) (by decide) rfl (fun c => absurd c (by decide)) (fun _ => ?_)
  refine g_new X0 hx hZ hown (hw _ (List.mem_of_getElem? (i := 5) rfl)) (hw _ (List.mem_of_getElem? (i := 6) rfl)) (hw _ (List.mem_of_getElem? (i := 7) rfl)) e0 (hb hby d1_40) (pc' := 43) rfl (by decide) (by decide) ?_
  intro T1 h1 a1 X1 e1 E1 ga1 Ex1 D1
  have A1 := wk X1 hx hby
  have la2 : a1 < h1.size := Ex1.lt
  have kp3 := Keep.ext (Keep.refl h0 []) E1
  have ch3 := CHr.trans CH0 (CHr.ext E1 CH0.1)
  have F1f0 : Fld Z h1 a1 "java/lang/String" "value" "[B" .null := D1 (Or.inr (hw _ (List.mem_of_getElem? (i := 21) rfl))) (ty := (.array .byte)) (by decide)
  have F1f1 : Fld Z h1 a1 "java/lang/String" "coder" "B" (.int 0) := D1 (Or.inr (hw _ (List.mem_of_getElem? (i := 22) rfl))) (ty := .byte) (by decide)
  refine s_dup A1 d1_43 (pc' := 44) rfl rfl ?_
  refine s_iconst A1 d1_44 (pc' := 45) rfl (v := (2 : Int32)) (by decide) ?_
  refine g_newarray X1 hx hZ e1 (hw _ (List.mem_of_getElem? (i := 8) rfl)) (by decide) (k0 := 2) (by decide) (by decide) (by decide) (by decide) (ad := "[C") (by decide) rfl (hb hby d1_45) (pc' := 47) rfl ?_
  intro T4 h4 a4 X4 e4 E4 ga4 Ar4 Ex4
  have A4 := wk X4 hx hby
  have Ar4 : Ars Z h4 a4 .char [(.int 0), (.int 0)] := Ar4
  have la5 : a4 < h4.size := Ex4.lt
  have kp6 := Keep.ext kp3 E4
  have ch6 := CHr.trans ch3 (CHr.ext E4 ch3.1)
  refine s_dup A4 d1_47 (pc' := 48) rfl rfl ?_
  refine s_iconst A4 d1_48 (pc' := 49) rfl (v := (0 : Int32)) (by decide) ?_
  refine s_iloadN A4 d1_49 (pc' := 50) rfl rfl ?_
  refine g_castore X4 hx hZ e4 Ar4 (by decide) (i := 0) (by decide) (by simp) (v := (.int c0)) (congrArg Value.int (own_i2c (z := c0) (by omega))) (hb hby d1_50) (pc' := 51) rfl ?_
  intro T7 h7 X7 e7 W7 Ar7
  have A7 := wk X7 hx hby
  have Ar7 : Ars Z h7 a4 .char [(.int c0), (.int 0)] := Ar7
  have sz10 : h0.size ≤ h1.size := E1.1
  have ge9 : h0.size ≤ a4 := by rw [ga4]; exact sz10
  have gn8 : n0 ≤ a4 := Nat.le_trans Z0 ge9
  have kp11 := Keep.wr kp6 W7 (Or.inr ge9)
  have fr11 := Fr.snoc X7 N0 gn8
  have ch11 := CHr.trans ch6 (CHr.wr W7 (Ars.safe hZ.alike Ar4 (by decide)) ch6.1)
  refine s_dup A7 d1_51 (pc' := 52) rfl rfl ?_
  refine s_iconst A7 d1_52 (pc' := 53) rfl (v := (1 : Int32)) (by decide) ?_
  refine s_iloadN A7 d1_53 (pc' := 54) rfl rfl ?_
  refine g_castore X7 hx hZ e7 Ar7 (by decide) (i := 1) (by decide) (by simp) (v := (.int c1)) (congrArg Value.int (own_i2c (z := c1) (by omega))) (hb hby d1_54) (pc' := 55) rfl ?_
  intro T12 h12 X12 e12 W12 Ar12
  have A12 := wk X12 hx hby
  have Ar12 : Ars Z h12 a4 .char [(.int c0), (.int c1)] := Ar12
  have kp13 := Keep.wr kp11 W12 (Or.inr ge9)
  have fr13 := Fr.snoc X12 fr11 gn8
  have ch13 := CHr.trans ch11 (CHr.wr W12 (Ars.safe hZ.alike Ar7 (by decide)) ch11.1)
  have f14 := (Exa.wr W12 (Exa.wr W7 (Exa.ext E4 Ex1)))
  have ne15 : a1 ≠ a4 := by rw [ga4]; exact Nat.ne_of_lt (Nat.lt_of_lt_of_le la2 (Nat.le_refl _))
  have f16 := (Fld.other W12 (Fld.other W7 (Fld.ext E4 F1f0) (Or.inl ne15)) (Or.inl ne15))
  have f17 := (Fld.other W12 (Fld.other W7 (Fld.ext E4 F1f1) (Or.inl ne15)) (Or.inl ne15))
  have ge19 : h0.size ≤ a1 := by rw [ga1]; exact (Nat.le_refl _)
  have gn18 : n0 ≤ a1 := Nat.le_trans Z0 ge19
  have f20 := (Old.wr (Old.wr (Old.ext' E4 (Old.ext' E1 O)) W7 gn8) W12 gn8)
  have sz22 : h0.size ≤ h12.size := (Nat.le_trans (Nat.le_trans (Nat.le_trans sz10 E4.1) (Nat.le_of_eq (Wr.size W7).symm)) (Nat.le_of_eq (Wr.size W12).symm))
  have zs21 : n0 ≤ h12.size := Nat.le_trans Z0 sz22
  refine g_special X12 hx hZ (y := (⟨"java/lang/String", "<init>", "([C)V"⟩ : MethodName)) rfl hown (hw _ (List.mem_of_getElem? (i := 9) rfl)) (hw _ (List.mem_of_getElem? (i := 10) rfl)) (hw _ (List.mem_of_getElem? (i := 7) rfl)) (hw _ (List.mem_of_getElem? (i := 11) rfl)) (by decide) (a := a1) (argsL := [(.ref a4)]) (rest := [(.ref a1)]) (c_str_2 l Z a0 hw [] a1 a4 cz c0 c1 h12 n0 zs21 f14 gn18 f16 f17 Ar12 ne15 f20 SC hcz (by omega) (by omega)) pd_4 rfl rfl (hb hby d1_55) e12 (by rw [hml]; rfl) (pc' := 58) rfl (by decide) (W := 1) (Nat.le_of_eq rfl) (by decide) (by decide) (by decide) ?_
  intro v23 T23 L23 X23 hQ23
  have A23 := wk X23 hx hby
  have e23 : T23.heap = T23.heap := rfl
  obtain ⟨rfl, N23, K23, d23, V23, C23, Ar23, gd23⟩ := hQ23
  have kp24 := Keep.trans kp13 K23 (allS (P := fun x => x ∈ [] ∨ h0.size ≤ x) (Or.inr ge19) all0)
  have ch24 := CHr.trans ch13 (CHr.keep K23 (allS (P := fun x => Safe Z consts_1 s.vm h12 x) (Safe.null hZ.alike f14 f16) all0) ch13.1)
  have fr23 := Fr.app fr13 N23
  show Go p e below m (FinH Z consts_1 s h0 3 8 (fun v h L => ∃ a d, v = some (.ref a) ∧ Fr n0 L ∧ Keep h0 h [] ∧ Exa Z h a "java/lang/String" ∧ Fld Z h a "java/lang/String" "value" "[B" (.ref d) ∧ Fld Z h a "java/lang/String" "coder" "B" (.int 0) ∧ Ars Z h d .byte [(.int c0.toInt8.toInt32), (.int c1.toInt8.toInt32)])) T23 58 #[.val (.int (2 : Int32)), .val (.int c0), .val (.int c1), .val (.int c2), .val (.int c3)] [(.ref a1)]
  have f25 := (Exa.keep f14 K23)
  exact h_ret X23 hx hZ hlk hS0 e23 (Nat.zero_le _) hEL ch24 hret rfl (Or.inr (Or.inr (Or.inr (Or.inr ⟨rfl, rfl, rfl⟩)))) (hb hby d1_58) (by rw [e23]; exact ⟨_, _, rfl, fr23, kp24, f25, V23, C23, Ar23⟩) (by decide) (by decide)
theorem ef_c_make_3 (m : MethodId) (x0 : Int32) (x1 : Int32) (x2 : Int32) (x3 : Int32) (x4 : Int32) : entryFrame m #[(.int x0), (.int x1), (.int x2), (.int x3), (.int x4)] 5 = mkF m 0 #[.val (.int x0), .val (.int x1), .val (.int x2), .val (.int x3), .val (.int x4)] [] := by first | (simp [entryFrame, mkF, argsToLocals, Value.category, maxLocals]; done) | rfl
set_option maxRecDepth 65536 in
set_option maxHeartbeats 40000000 in
theorem c_make_3 (l : Launch) (Z : State) (a0 : Array Value) (hw : ∀ d ∈ tables_1, d.before a0 Z = true) (ws : List Jvm.Cond) (cz c0 c1 c2 c3 : Int32) (h0 : Heap) (n0 : Nat) (Z0 : n0 ≤ h0.size) (O : Old Z n0 h0) (SC : Sta Z Z.heap "java/lang/String" "COMPACT_STRINGS" "Z" (.int cz)) (hcz : ¬ cz = 0) (C0 : 0 ≤ c0.toInt ∧ c0.toInt ≤ 255) (C1 : 0 ≤ c1.toInt ∧ c1.toInt ≤ 255) (C2 : 0 ≤ c2.toInt ∧ c2.toInt ≤ 255) (C3 : 0 ≤ c3.toInt ∧ c3.toInt ≤ 255) (hEL : EW Z a0 consts_1) :
    CtrH l Z consts_1 (⟨"com/example/divvy/divvy/document/DocumentIdPartitionKeyPinLaw", "make", "(ICCCC)Ljava/lang/String;"⟩ : MethodName) method_2_code 5 (some (.object "java/lang/String")) ws ({ frames := 4, cells := 3, slots := 10, locals := 66 } : Room) #[(.int (3 : Int32)), (.int c0), (.int c1), (.int c2), (.int c3)] h0 (fun v h L => ∃ a d, v = some (.ref a) ∧ Fr n0 L ∧ Keep h0 h [] ∧ Exa Z h a "java/lang/String" ∧ Fld Z h a "java/lang/String" "value" "[B" (.ref d) ∧ Fld Z h a "java/lang/String" "coder" "B" (.int 0) ∧ Ars Z h d .byte [(.int c0.toInt8.toInt32), (.int c1.toInt8.toInt32), (.int c2.toInt8.toInt32)]) := by
  refine enterH pn_1 ?_
  intro p e s m below meth c T0 X0 hx hby hml hret hlk hZ hown hnm e0 CH0 hS0
  have A0 := wk X0 hx hby
  have N0 := Fr.nil n0
  refine goIn (ef_c_make_3 m (3 : Int32) c0 c1 c2 c3) ?_
  show Go p e below m (FinH Z consts_1 s h0 3 10 (fun v h L => ∃ a d, v = some (.ref a) ∧ Fr n0 L ∧ Keep h0 h [] ∧ Exa Z h a "java/lang/String" ∧ Fld Z h a "java/lang/String" "value" "[B" (.ref d) ∧ Fld Z h a "java/lang/String" "coder" "B" (.int 0) ∧ Ars Z h d .byte [(.int c0.toInt8.toInt32), (.int c1.toInt8.toInt32), (.int c2.toInt8.toInt32)])) T0 0 #[.val (.int (3 : Int32)), .val (.int c0), .val (.int c1), .val (.int c2), .val (.int c3)] []
  refine s_iloadN A0 d1_0 (pc' := 1) rfl rfl ?_
  refine s_ifne A0 d1_1 (pY := 15) (pN := 4) (by decide) (by decide) rfl (fun _ => ?_) (fun c => absurd c (by decide))
  refine s_iloadN A0 d1_15 (pc' := 16) rfl rfl ?_
  refine s_iconst A0 d1_16 (pc' := 17) rfl (v := (1 : Int32)) (by decide) ?_
  refine s_icmpne A0 d1_17 (pY := 35) (pN := 20) (by decide) (by decide) rfl (fun _ => ?_) (fun c => absurd c (by decide))
  refine s_iloadN A0 d1_35 (pc' := 36) rfl rfl ?_
  refine s_iconst A0 d1_36 (pc' := 37) rfl (v := (2 : Int32)) (by decide) ?_
  refine s_icmpne A0 d1_37 (pY := 59) (pN := 40) (by decide) (by decide) rfl (fun _ => ?_) (fun c => absurd c (by decide))
  refine s_iloadN A0 d1_59 (pc' := 60) rfl rfl ?_
  refine s_iconst A0 d1_60 (pc' := 61) rfl (v := (3 : Int32)) (by decide) ?_
  refine s_icmpne A0 d1_61 (pY := 87) (pN := 64) (by decide) (by decide) rfl (fun c => absurd c (by decide)) (fun _ => ?_)
  refine g_new X0 hx hZ hown (hw _ (List.mem_of_getElem? (i := 5) rfl)) (hw _ (List.mem_of_getElem? (i := 6) rfl)) (hw _ (List.mem_of_getElem? (i := 7) rfl)) e0 (hb hby d1_64) (pc' := 67) rfl (by decide) (by decide) ?_
  intro T1 h1 a1 X1 e1 E1 ga1 Ex1 D1
  have A1 := wk X1 hx hby
  have la2 : a1 < h1.size := Ex1.lt
  have kp3 := Keep.ext (Keep.refl h0 []) E1
  have ch3 := CHr.trans CH0 (CHr.ext E1 CH0.1)
  have F1f0 : Fld Z h1 a1 "java/lang/String" "value" "[B" .null := D1 (Or.inr (hw _ (List.mem_of_getElem? (i := 21) rfl))) (ty := (.array .byte)) (by decide)
  have F1f1 : Fld Z h1 a1 "java/lang/String" "coder" "B" (.int 0) := D1 (Or.inr (hw _ (List.mem_of_getElem? (i := 22) rfl))) (ty := .byte) (by decide)
  refine s_dup A1 d1_67 (pc' := 68) rfl rfl ?_
  refine s_iconst A1 d1_68 (pc' := 69) rfl (v := (3 : Int32)) (by decide) ?_
  refine g_newarray X1 hx hZ e1 (hw _ (List.mem_of_getElem? (i := 8) rfl)) (by decide) (k0 := 3) (by decide) (by decide) (by decide) (by decide) (ad := "[C") (by decide) rfl (hb hby d1_69) (pc' := 71) rfl ?_
  intro T4 h4 a4 X4 e4 E4 ga4 Ar4 Ex4
  have A4 := wk X4 hx hby
  have Ar4 : Ars Z h4 a4 .char [(.int 0), (.int 0), (.int 0)] := Ar4
  have la5 : a4 < h4.size := Ex4.lt
  have kp6 := Keep.ext kp3 E4
  have ch6 := CHr.trans ch3 (CHr.ext E4 ch3.1)
  refine s_dup A4 d1_71 (pc' := 72) rfl rfl ?_
  refine s_iconst A4 d1_72 (pc' := 73) rfl (v := (0 : Int32)) (by decide) ?_
  refine s_iloadN A4 d1_73 (pc' := 74) rfl rfl ?_
  refine g_castore X4 hx hZ e4 Ar4 (by decide) (i := 0) (by decide) (by simp) (v := (.int c0)) (congrArg Value.int (own_i2c (z := c0) (by omega))) (hb hby d1_74) (pc' := 75) rfl ?_
  intro T7 h7 X7 e7 W7 Ar7
  have A7 := wk X7 hx hby
  have Ar7 : Ars Z h7 a4 .char [(.int c0), (.int 0), (.int 0)] := Ar7
  have sz10 : h0.size ≤ h1.size := E1.1
  have ge9 : h0.size ≤ a4 := by rw [ga4]; exact sz10
  have gn8 : n0 ≤ a4 := Nat.le_trans Z0 ge9
  have kp11 := Keep.wr kp6 W7 (Or.inr ge9)
  have fr11 := Fr.snoc X7 N0 gn8
  have ch11 := CHr.trans ch6 (CHr.wr W7 (Ars.safe hZ.alike Ar4 (by decide)) ch6.1)
  refine s_dup A7 d1_75 (pc' := 76) rfl rfl ?_
  refine s_iconst A7 d1_76 (pc' := 77) rfl (v := (1 : Int32)) (by decide) ?_
  refine s_iloadN A7 d1_77 (pc' := 78) rfl rfl ?_
  refine g_castore X7 hx hZ e7 Ar7 (by decide) (i := 1) (by decide) (by simp) (v := (.int c1)) (congrArg Value.int (own_i2c (z := c1) (by omega))) (hb hby d1_78) (pc' := 79) rfl ?_
  intro T12 h12 X12 e12 W12 Ar12
  have A12 := wk X12 hx hby
  have Ar12 : Ars Z h12 a4 .char [(.int c0), (.int c1), (.int 0)] := Ar12
  have kp13 := Keep.wr kp11 W12 (Or.inr ge9)
  have fr13 := Fr.snoc X12 fr11 gn8
  have ch13 := CHr.trans ch11 (CHr.wr W12 (Ars.safe hZ.alike Ar7 (by decide)) ch11.1)
  refine s_dup A12 d1_79 (pc' := 80) rfl rfl ?_
  refine s_iconst A12 d1_80 (pc' := 81) rfl (v := (2 : Int32)) (by decide) ?_
  refine s_iloadN A12 d1_81 (pc' := 82) rfl rfl ?_
  refine g_castore X12 hx hZ e12 Ar12 (by decide) (i := 2) (by decide) (by simp) (v := (.int c2)) (congrArg Value.int (own_i2c (z := c2) (by omega))) (hb hby d1_82) (pc' := 83) rfl ?_
  intro T14 h14 X14 e14 W14 Ar14
  have A14 := wk X14 hx hby
  have Ar14 : Ars Z h14 a4 .char [(.int c0), (.int c1), (.int c2)] := Ar14
  have kp15 := Keep.wr kp13 W14 (Or.inr ge9)
  have fr15 := Fr.snoc X14 fr13 gn8
  have ch15 := CHr.trans ch13 (CHr.wr W14 (Ars.safe hZ.alike Ar12 (by decide)) ch13.1)
  have f16 := (Exa.wr W14 (Exa.wr W12 (Exa.wr W7 (Exa.ext E4 Ex1))))
  have ne17 : a1 ≠ a4 := by rw [ga4]; exact Nat.ne_of_lt (Nat.lt_of_lt_of_le la2 (Nat.le_refl _))
  have f18 := (Fld.other W14 (Fld.other W12 (Fld.other W7 (Fld.ext E4 F1f0) (Or.inl ne17)) (Or.inl ne17)) (Or.inl ne17))
  have f19 := (Fld.other W14 (Fld.other W12 (Fld.other W7 (Fld.ext E4 F1f1) (Or.inl ne17)) (Or.inl ne17)) (Or.inl ne17))
  have ge21 : h0.size ≤ a1 := by rw [ga1]; exact (Nat.le_refl _)
  have gn20 : n0 ≤ a1 := Nat.le_trans Z0 ge21
  have f22 := (Old.wr (Old.wr (Old.wr (Old.ext' E4 (Old.ext' E1 O)) W7 gn8) W12 gn8) W14 gn8)
  have sz24 : h0.size ≤ h14.size := (Nat.le_trans (Nat.le_trans (Nat.le_trans (Nat.le_trans sz10 E4.1) (Nat.le_of_eq (Wr.size W7).symm)) (Nat.le_of_eq (Wr.size W12).symm)) (Nat.le_of_eq (Wr.size W14).symm))
  have zs23 : n0 ≤ h14.size := Nat.le_trans Z0 sz24
  refine g_special X14 hx hZ (y := (⟨"java/lang/String", "<init>", "([C)V"⟩ : MethodName)) rfl hown (hw _ (List.mem_of_getElem? (i := 9) rfl)) (hw _ (List.mem_of_getElem? (i := 10) rfl)) (hw _ (List.mem_of_getElem? (i := 7) rfl)) (hw _ (List.mem_of_getElem? (i := 11) rfl)) (by decide) (a := a1) (argsL := [(.ref a4)]) (rest := [(.ref a1)]) (c_str_3 l Z a0 hw [] a1 a4 cz c0 c1 c2 h14 n0 zs23 f16 gn20 f18 f19 Ar14 ne17 f22 SC hcz (by omega) (by omega) (by omega)) pd_4 rfl rfl (hb hby d1_83) e14 (by rw [hml]; rfl) (pc' := 86) rfl (by decide) (W := 1) (Nat.le_of_eq rfl) (by decide) (by decide) (by decide) ?_
  intro v25 T25 L25 X25 hQ25
  have A25 := wk X25 hx hby
  have e25 : T25.heap = T25.heap := rfl
  obtain ⟨rfl, N25, K25, d25, V25, C25, Ar25, gd25⟩ := hQ25
  have kp26 := Keep.trans kp15 K25 (allS (P := fun x => x ∈ [] ∨ h0.size ≤ x) (Or.inr ge21) all0)
  have ch26 := CHr.trans ch15 (CHr.keep K25 (allS (P := fun x => Safe Z consts_1 s.vm h14 x) (Safe.null hZ.alike f16 f18) all0) ch15.1)
  have fr25 := Fr.app fr15 N25
  show Go p e below m (FinH Z consts_1 s h0 3 10 (fun v h L => ∃ a d, v = some (.ref a) ∧ Fr n0 L ∧ Keep h0 h [] ∧ Exa Z h a "java/lang/String" ∧ Fld Z h a "java/lang/String" "value" "[B" (.ref d) ∧ Fld Z h a "java/lang/String" "coder" "B" (.int 0) ∧ Ars Z h d .byte [(.int c0.toInt8.toInt32), (.int c1.toInt8.toInt32), (.int c2.toInt8.toInt32)])) T25 86 #[.val (.int (3 : Int32)), .val (.int c0), .val (.int c1), .val (.int c2), .val (.int c3)] [(.ref a1)]
  have f27 := (Exa.keep f16 K25)
  exact h_ret X25 hx hZ hlk hS0 e25 (Nat.zero_le _) hEL ch26 hret rfl (Or.inr (Or.inr (Or.inr (Or.inr ⟨rfl, rfl, rfl⟩)))) (hb hby d1_86) (by rw [e25]; exact ⟨_, _, rfl, fr25, kp26, f27, V25, C25, Ar25⟩) (by decide) (by decide)
theorem ef_c_make_4 (m : MethodId) (x0 : Int32) (x1 : Int32) (x2 : Int32) (x3 : Int32) (x4 : Int32) : entryFrame m #[(.int x0), (.int x1), (.int x2), (.int x3), (.int x4)] 5 = mkF m 0 #[.val (.int x0), .val (.int x1), .val (.int x2), .val (.int x3), .val (.int x4)] [] := by first | (simp [entryFrame, mkF, argsToLocals, Value.category, maxLocals]; done) | rfl
set_option maxRecDepth 65536 in
set_option maxHeartbeats 40000000 in
theorem c_make_4 (l : Launch) (Z : State) (a0 : Array Value) (hw : ∀ d ∈ tables_1, d.before a0 Z = true) (ws : List Jvm.Cond) (cz c0 c1 c2 c3 : Int32) (h0 : Heap) (n0 : Nat) (Z0 : n0 ≤ h0.size) (O : Old Z n0 h0) (SC : Sta Z Z.heap "java/lang/String" "COMPACT_STRINGS" "Z" (.int cz)) (hcz : ¬ cz = 0) (C0 : 0 ≤ c0.toInt ∧ c0.toInt ≤ 255) (C1 : 0 ≤ c1.toInt ∧ c1.toInt ≤ 255) (C2 : 0 ≤ c2.toInt ∧ c2.toInt ≤ 255) (C3 : 0 ≤ c3.toInt ∧ c3.toInt ≤ 255) (hEL : EW Z a0 consts_1) :
    CtrH l Z consts_1 (⟨"com/example/divvy/divvy/document/DocumentIdPartitionKeyPinLaw", "make", "(ICCCC)Ljava/lang/String;"⟩ : MethodName) method_2_code 5 (some (.object "java/lang/String")) ws ({ frames := 4, cells := 3, slots := 12, locals := 66 } : Room) #[(.int (4 : Int32)), (.int c0), (.int c1), (.int c2), (.int c3)] h0 (fun v h L => ∃ a d, v = some (.ref a) ∧ Fr n0 L ∧ Keep h0 h [] ∧ Exa Z h a "java/lang/String" ∧ Fld Z h a "java/lang/String" "value" "[B" (.ref d) ∧ Fld Z h a "java/lang/String" "coder" "B" (.int 0) ∧ Ars Z h d .byte [(.int c0.toInt8.toInt32), (.int c1.toInt8.toInt32), (.int c2.toInt8.toInt32), (.int c3.toInt8.toInt32)]) := by
  refine enterH pn_1 ?_
  intro p e s m below meth c T0 X0 hx hby hml hret hlk hZ hown hnm e0 CH0 hS0
  have A0 := wk X0 hx hby
  have N0 := Fr.nil n0
  refine goIn (ef_c_make_4 m (4 : Int32) c0 c1 c2 c3) ?_
  show Go p e below m (FinH Z consts_1 s h0 3 12 (fun v h L => ∃ a d, v = some (.ref a) ∧ Fr n0 L ∧ Keep h0 h [] ∧ Exa Z h a "java/lang/String" ∧ Fld Z h a "java/lang/String" "value" "[B" (.ref d) ∧ Fld Z h a "java/lang/String" "coder" "B" (.int 0) ∧ Ars Z h d .byte [(.int c0.toInt8.toInt32), (.int c1.toInt8.toInt32), (.int c2.toInt8.toInt32), (.int c3.toInt8.toInt32)])) T0 0 #[.val (.int (4 : Int32)), .val (.int c0), .val (.int c1), .val (.int c2), .val (.int c3)] []
  refine s_iloadN A0 d1_0 (pc' := 1) rfl rfl ?_
  refine s_ifne A0 d1_1 (pY := 15) (pN := 4) (by decide) (by decide) rfl (fun _ => ?_) (fun c => absurd c (by decide))
  refine s_iloadN A0 d1_15 (pc' := 16) rfl rfl ?_
  refine s_iconst A0 d1_16 (pc' := 17) rfl (v := (1 : Int32)) (by decide) ?_
  refine s_icmpne A0 d1_17 (pY := 35) (pN := 20) (by decide) (by decide) rfl (fun _ => ?_) (fun c => absurd c (by decide))
  refine s_iloadN A0 d1_35 (pc' := 36) rfl rfl ?_
  refine s_iconst A0 d1_36 (pc' := 37) rfl (v := (2 : Int32)) (by decide) ?_
  refine s_icmpne A0 d1_37 (pY := 59) (pN := 40) (by decide) (by decide) rfl (fun _ => ?_) (fun c => absurd c (by decide))
  refine s_iloadN A0 d1_59 (pc' := 60) rfl rfl ?_
  refine s_iconst A0 d1_60 (pc' := 61) rfl (v := (3 : Int32)) (by decide) ?_
  refine s_icmpne A0 d1_61 (pY := 87) (pN := 64) (by decide) (by decide) rfl (fun _ => ?_) (fun c => absurd c (by decide))
  refine g_new X0 hx hZ hown (hw _ (List.mem_of_getElem? (i := 5) rfl)) (hw _ (List.mem_of_getElem? (i := 6) rfl)) (hw _ (List.mem_of_getElem? (i := 7) rfl)) e0 (hb hby d1_87) (pc' := 90) rfl (by decide) (by decide) ?_
  intro T1 h1 a1 X1 e1 E1 ga1 Ex1 D1
  have A1 := wk X1 hx hby
  have la2 : a1 < h1.size := Ex1.lt
  have kp3 := Keep.ext (Keep.refl h0 []) E1
  have ch3 := CHr.trans CH0 (CHr.ext E1 CH0.1)
  have F1f0 : Fld Z h1 a1 "java/lang/String" "value" "[B" .null := D1 (Or.inr (hw _ (List.mem_of_getElem? (i := 21) rfl))) (ty := (.array .byte)) (by decide)
  have F1f1 : Fld Z h1 a1 "java/lang/String" "coder" "B" (.int 0) := D1 (Or.inr (hw _ (List.mem_of_getElem? (i := 22) rfl))) (ty := .byte) (by decide)
  refine s_dup A1 d1_90 (pc' := 91) rfl rfl ?_
  refine s_iconst A1 d1_91 (pc' := 92) rfl (v := (4 : Int32)) (by decide) ?_
  refine g_newarray X1 hx hZ e1 (hw _ (List.mem_of_getElem? (i := 8) rfl)) (by decide) (k0 := 4) (by decide) (by decide) (by decide) (by decide) (ad := "[C") (by decide) rfl (hb hby d1_92) (pc' := 94) rfl ?_
  intro T4 h4 a4 X4 e4 E4 ga4 Ar4 Ex4
  have A4 := wk X4 hx hby
  have Ar4 : Ars Z h4 a4 .char [(.int 0), (.int 0), (.int 0), (.int 0)] := Ar4
  have la5 : a4 < h4.size := Ex4.lt
  have kp6 := Keep.ext kp3 E4
  have ch6 := CHr.trans ch3 (CHr.ext E4 ch3.1)
  refine s_dup A4 d1_94 (pc' := 95) rfl rfl ?_
  refine s_iconst A4 d1_95 (pc' := 96) rfl (v := (0 : Int32)) (by decide) ?_
  refine s_iloadN A4 d1_96 (pc' := 97) rfl rfl ?_
  refine g_castore X4 hx hZ e4 Ar4 (by decide) (i := 0) (by decide) (by simp) (v := (.int c0)) (congrArg Value.int (own_i2c (z := c0) (by omega))) (hb hby d1_97) (pc' := 98) rfl ?_
  intro T7 h7 X7 e7 W7 Ar7
  have A7 := wk X7 hx hby
  have Ar7 : Ars Z h7 a4 .char [(.int c0), (.int 0), (.int 0), (.int 0)] := Ar7
  have sz10 : h0.size ≤ h1.size := E1.1
  have ge9 : h0.size ≤ a4 := by rw [ga4]; exact sz10
  have gn8 : n0 ≤ a4 := Nat.le_trans Z0 ge9
  have kp11 := Keep.wr kp6 W7 (Or.inr ge9)
  have fr11 := Fr.snoc X7 N0 gn8
  have ch11 := CHr.trans ch6 (CHr.wr W7 (Ars.safe hZ.alike Ar4 (by decide)) ch6.1)
  refine s_dup A7 d1_98 (pc' := 99) rfl rfl ?_
  refine s_iconst A7 d1_99 (pc' := 100) rfl (v := (1 : Int32)) (by decide) ?_
  refine s_iloadN A7 d1_100 (pc' := 101) rfl rfl ?_
  refine g_castore X7 hx hZ e7 Ar7 (by decide) (i := 1) (by decide) (by simp) (v := (.int c1)) (congrArg Value.int (own_i2c (z := c1) (by omega))) (hb hby d1_101) (pc' := 102) rfl ?_
  intro T12 h12 X12 e12 W12 Ar12
  have A12 := wk X12 hx hby
  have Ar12 : Ars Z h12 a4 .char [(.int c0), (.int c1), (.int 0), (.int 0)] := Ar12
  have kp13 := Keep.wr kp11 W12 (Or.inr ge9)
  have fr13 := Fr.snoc X12 fr11 gn8
  have ch13 := CHr.trans ch11 (CHr.wr W12 (Ars.safe hZ.alike Ar7 (by decide)) ch11.1)
  refine s_dup A12 d1_102 (pc' := 103) rfl rfl ?_
  refine s_iconst A12 d1_103 (pc' := 104) rfl (v := (2 : Int32)) (by decide) ?_
  refine s_iloadN A12 d1_104 (pc' := 105) rfl rfl ?_
  refine g_castore X12 hx hZ e12 Ar12 (by decide) (i := 2) (by decide) (by simp) (v := (.int c2)) (congrArg Value.int (own_i2c (z := c2) (by omega))) (hb hby d1_105) (pc' := 106) rfl ?_
  intro T14 h14 X14 e14 W14 Ar14
  have A14 := wk X14 hx hby
  have Ar14 : Ars Z h14 a4 .char [(.int c0), (.int c1), (.int c2), (.int 0)] := Ar14
  have kp15 := Keep.wr kp13 W14 (Or.inr ge9)
  have fr15 := Fr.snoc X14 fr13 gn8
  have ch15 := CHr.trans ch13 (CHr.wr W14 (Ars.safe hZ.alike Ar12 (by decide)) ch13.1)
  refine s_dup A14 d1_106 (pc' := 107) rfl rfl ?_
  refine s_iconst A14 d1_107 (pc' := 108) rfl (v := (3 : Int32)) (by decide) ?_
  refine s_iload A14 d1_108 (pc' := 110) rfl rfl ?_
  refine g_castore X14 hx hZ e14 Ar14 (by decide) (i := 3) (by decide) (by simp) (v := (.int c3)) (congrArg Value.int (own_i2c (z := c3) (by omega))) (hb hby d1_110) (pc' := 111) rfl ?_
  intro T16 h16 X16 e16 W16 Ar16
  have A16 := wk X16 hx hby
  have Ar16 : Ars Z h16 a4 .char [(.int c0), (.int c1), (.int c2), (.int c3)] := Ar16
  have kp17 := Keep.wr kp15 W16 (Or.inr ge9)
  have fr17 := Fr.snoc X16 fr15 gn8
  have ch17 := CHr.trans ch15 (CHr.wr W16 (Ars.safe hZ.alike Ar14 (by decide)) ch15.1)
  have f18 := (Exa.wr W16 (Exa.wr W14 (Exa.wr W12 (Exa.wr W7 (Exa.ext E4 Ex1)))))
  have ne19 : a1 ≠ a4 := by rw [ga4]; exact Nat.ne_of_lt (Nat.lt_of_lt_of_le la2 (Nat.le_refl _))
  have f20 := (Fld.other W16 (Fld.other W14 (Fld.other W12 (Fld.other W7 (Fld.ext E4 F1f0) (Or.inl ne19)) (Or.inl ne19)) (Or.inl ne19)) (Or.inl ne19))
  have f21 := (Fld.other W16 (Fld.other W14 (Fld.other W12 (Fld.other W7 (Fld.ext E4 F1f1) (Or.inl ne19)) (Or.inl ne19)) (Or.inl ne19)) (Or.inl ne19))
  have ge23 : h0.size ≤ a1 := by rw [ga1]; exact (Nat.le_refl _)
  have gn22 : n0 ≤ a1 := Nat.le_trans Z0 ge23
  have f24 := (Old.wr (Old.wr (Old.wr (Old.wr (Old.ext' E4 (Old.ext' E1 O)) W7 gn8) W12 gn8) W14 gn8) W16 gn8)
  have sz26 : h0.size ≤ h16.size := (Nat.le_trans (Nat.le_trans (Nat.le_trans (Nat.le_trans (Nat.le_trans sz10 E4.1) (Nat.le_of_eq (Wr.size W7).symm)) (Nat.le_of_eq (Wr.size W12).symm)) (Nat.le_of_eq (Wr.size W14).symm)) (Nat.le_of_eq (Wr.size W16).symm))
  have zs25 : n0 ≤ h16.size := Nat.le_trans Z0 sz26
  refine g_special X16 hx hZ (y := (⟨"java/lang/String", "<init>", "([C)V"⟩ : MethodName)) rfl hown (hw _ (List.mem_of_getElem? (i := 9) rfl)) (hw _ (List.mem_of_getElem? (i := 10) rfl)) (hw _ (List.mem_of_getElem? (i := 7) rfl)) (hw _ (List.mem_of_getElem? (i := 11) rfl)) (by decide) (a := a1) (argsL := [(.ref a4)]) (rest := [(.ref a1)]) (c_str_4 l Z a0 hw [] a1 a4 cz c0 c1 c2 c3 h16 n0 zs25 f18 gn22 f20 f21 Ar16 ne19 f24 SC hcz (by omega) (by omega) (by omega) (by omega)) pd_4 rfl rfl (hb hby d1_111) e16 (by rw [hml]; rfl) (pc' := 114) rfl (by decide) (W := 1) (Nat.le_of_eq rfl) (by decide) (by decide) (by decide) ?_
  intro v27 T27 L27 X27 hQ27
  have A27 := wk X27 hx hby
  have e27 : T27.heap = T27.heap := rfl
  obtain ⟨rfl, N27, K27, d27, V27, C27, Ar27, gd27⟩ := hQ27
  have kp28 := Keep.trans kp17 K27 (allS (P := fun x => x ∈ [] ∨ h0.size ≤ x) (Or.inr ge23) all0)
  have ch28 := CHr.trans ch17 (CHr.keep K27 (allS (P := fun x => Safe Z consts_1 s.vm h16 x) (Safe.null hZ.alike f18 f20) all0) ch17.1)
  have fr27 := Fr.app fr17 N27
  show Go p e below m (FinH Z consts_1 s h0 3 12 (fun v h L => ∃ a d, v = some (.ref a) ∧ Fr n0 L ∧ Keep h0 h [] ∧ Exa Z h a "java/lang/String" ∧ Fld Z h a "java/lang/String" "value" "[B" (.ref d) ∧ Fld Z h a "java/lang/String" "coder" "B" (.int 0) ∧ Ars Z h d .byte [(.int c0.toInt8.toInt32), (.int c1.toInt8.toInt32), (.int c2.toInt8.toInt32), (.int c3.toInt8.toInt32)])) T27 114 #[.val (.int (4 : Int32)), .val (.int c0), .val (.int c1), .val (.int c2), .val (.int c3)] [(.ref a1)]
  have f29 := (Exa.keep f18 K27)
  exact h_ret X27 hx hZ hlk hS0 e27 (Nat.zero_le _) hEL ch28 hret rfl (Or.inr (Or.inr (Or.inr (Or.inr ⟨rfl, rfl, rfl⟩)))) (hb hby d1_114) (by rw [e27]; exact ⟨_, _, rfl, fr27, kp28, f29, V27, C27, Ar27⟩) (by decide) (by decide)
theorem d5_0 : decode method_3_code 0 = .ok (.iload_n 0, 1) := by decide +kernel
theorem d5_1 : decode method_3_code 1 = .ok (.ifCond .ne 5, 3) := by decide +kernel
theorem d5_4 : decode method_3_code 4 = .ok (.iconst 0, 1) := by decide +kernel
theorem d5_5 : decode method_3_code 5 = .ok (.ireturn, 1) := by decide +kernel
theorem d5_6 : decode method_3_code 6 = .ok (.iload_n 1, 1) := by decide +kernel
theorem d5_7 : decode method_3_code 7 = .ok (.bipush 95, 2) := by decide +kernel
theorem d5_9 : decode method_3_code 9 = .ok (.if_icmp .ne 5, 3) := by decide +kernel
theorem d5_12 : decode method_3_code 12 = .ok (.iconst 0, 1) := by decide +kernel
theorem d5_13 : decode method_3_code 13 = .ok (.ireturn, 1) := by decide +kernel
theorem d5_14 : decode method_3_code 14 = .ok (.iload_n 1, 1) := by decide +kernel
theorem d5_15 : decode method_3_code 15 = .ok (.bipush 58, 2) := by decide +kernel
theorem d5_17 : decode method_3_code 17 = .ok (.if_icmp .ne 5, 3) := by decide +kernel
theorem d5_20 : decode method_3_code 20 = .ok (.iconst 0, 1) := by decide +kernel
theorem d5_21 : decode method_3_code 21 = .ok (.ireturn, 1) := by decide +kernel
theorem d5_22 : decode method_3_code 22 = .ok (.iload_n 0, 1) := by decide +kernel
theorem d5_23 : decode method_3_code 23 = .ok (.iconst 1, 1) := by decide +kernel
theorem d5_24 : decode method_3_code 24 = .ok (.if_icmp .le 11, 3) := by decide +kernel
theorem d5_27 : decode method_3_code 27 = .ok (.iload_n 2, 1) := by decide +kernel
theorem d5_28 : decode method_3_code 28 = .ok (.bipush 58, 2) := by decide +kernel
theorem d5_30 : decode method_3_code 30 = .ok (.if_icmp .ne 5, 3) := by decide +kernel
theorem d5_33 : decode method_3_code 33 = .ok (.iconst 0, 1) := by decide +kernel
theorem d5_34 : decode method_3_code 34 = .ok (.ireturn, 1) := by decide +kernel
theorem d5_35 : decode method_3_code 35 = .ok (.iload_n 0, 1) := by decide +kernel
theorem d5_36 : decode method_3_code 36 = .ok (.iconst 2, 1) := by decide +kernel
theorem d5_37 : decode method_3_code 37 = .ok (.if_icmp .le 11, 3) := by decide +kernel
theorem d5_40 : decode method_3_code 40 = .ok (.iload_n 3, 1) := by decide +kernel
theorem d5_41 : decode method_3_code 41 = .ok (.bipush 58, 2) := by decide +kernel
theorem d5_43 : decode method_3_code 43 = .ok (.if_icmp .ne 5, 3) := by decide +kernel
theorem d5_46 : decode method_3_code 46 = .ok (.iconst 0, 1) := by decide +kernel
theorem d5_47 : decode method_3_code 47 = .ok (.ireturn, 1) := by decide +kernel
theorem d5_48 : decode method_3_code 48 = .ok (.iload_n 0, 1) := by decide +kernel
theorem d5_49 : decode method_3_code 49 = .ok (.iconst 3, 1) := by decide +kernel
theorem d5_50 : decode method_3_code 50 = .ok (.if_icmp .le 12, 3) := by decide +kernel
theorem d5_53 : decode method_3_code 53 = .ok (.iload 4, 2) := by decide +kernel
theorem d5_55 : decode method_3_code 55 = .ok (.bipush 58, 2) := by decide +kernel
theorem d5_57 : decode method_3_code 57 = .ok (.if_icmp .ne 5, 3) := by decide +kernel
theorem d5_60 : decode method_3_code 60 = .ok (.iconst 0, 1) := by decide +kernel
theorem d5_61 : decode method_3_code 61 = .ok (.ireturn, 1) := by decide +kernel
theorem d5_62 : decode method_3_code 62 = .ok (.iconst 1, 1) := by decide +kernel
theorem d5_63 : decode method_3_code 63 = .ok (.ireturn, 1) := by decide +kernel
theorem ef_c_val_1 (m : MethodId) (x0 : Int32) (x1 : Int32) (x2 : Int32) (x3 : Int32) (x4 : Int32) : entryFrame m #[(.int x0), (.int x1), (.int x2), (.int x3), (.int x4)] 5 = mkF m 0 #[.val (.int x0), .val (.int x1), .val (.int x2), .val (.int x3), .val (.int x4)] [] := by first | (simp [entryFrame, mkF, argsToLocals, Value.category, maxLocals]; done) | rfl
set_option maxRecDepth 65536 in
set_option maxHeartbeats 40000000 in
theorem c_val_1 (l : Launch) (Z : State) (a0 : Array Value) (hw : ∀ d ∈ tables_1, d.before a0 Z = true) (ws : List Jvm.Cond) (c0 c1 c2 c3 : Int32) (h0 : Heap) (n0 : Nat) (Z0 : n0 ≤ h0.size)  :
    Ctr l Z (⟨"com/example/divvy/divvy/document/DocumentIdPartitionKeyPinLaw", "valid", "(ICCCC)Z"⟩ : MethodName) method_3_code 5 (some .boolean) ws ({ frames := 0, cells := 0, slots := 0, locals := 0 } : Room) #[(.int (1 : Int32)), (.int c0), (.int c1), (.int c2), (.int c3)] h0 (fun v h L => ∃ z : Int32, v = some (.int z) ∧ (z = 0 ∨ z = 1) ∧ (z.toInt ≠ 0 → (c0.toInt ≠ 95 ∧ c0.toInt ≠ 58)) ∧ Fr n0 L ∧ h = h0) := by
  refine enter pn_5 ?_
  intro p e s m below meth c T0 X0 hx hby hml hret hlk hZ hown hnm e0
  have A0 := wk X0 hx hby
  have N0 := Fr.nil n0
  refine goIn (ef_c_val_1 m (1 : Int32) c0 c1 c2 c3) ?_
  show Go p e below m (Fini s 0 0 (fun v h L => ∃ z : Int32, v = some (.int z) ∧ (z = 0 ∨ z = 1) ∧ (z.toInt ≠ 0 → (c0.toInt ≠ 95 ∧ c0.toInt ≠ 58)) ∧ Fr n0 L ∧ h = h0)) T0 0 #[.val (.int (1 : Int32)), .val (.int c0), .val (.int c1), .val (.int c2), .val (.int c3)] []
  refine s_iloadN A0 d5_0 (pc' := 1) rfl rfl ?_
  refine s_ifne A0 d5_1 (pY := 6) (pN := 4) (by decide) (by decide) rfl (fun _ => ?_) (fun c => absurd c (by decide))
  refine s_iloadN A0 d5_6 (pc' := 7) rfl rfl ?_
  refine s_bipush A0 d5_7 (pc' := 9) rfl (v := (95 : Int32)) (by decide) ?_
  refine s_icmpne A0 d5_9 (pY := 14) (pN := 12) (by decide) (by decide) rfl ?_ ?_
  · intro c9
    replace c9 := i_ne c9
    rw [show (95 : Int32).toInt = 95 from by decide] at c9
    refine s_iloadN A0 d5_14 (pc' := 15) rfl rfl ?_
    refine s_bipush A0 d5_15 (pc' := 17) rfl (v := (58 : Int32)) (by decide) ?_
    refine s_icmpne A0 d5_17 (pY := 22) (pN := 20) (by decide) (by decide) rfl ?_ ?_
    · intro c17
      replace c17 := i_ne c17
      rw [show (58 : Int32).toInt = 58 from by decide] at c17
      refine s_iloadN A0 d5_22 (pc' := 23) rfl rfl ?_
      refine s_iconst A0 d5_23 (pc' := 24) rfl (v := (1 : Int32)) (by decide) ?_
      refine s_icmple A0 d5_24 (pY := 35) (pN := 27) (by decide) (by decide) rfl (fun _ => ?_) (fun c => absurd c (by decide))
      refine s_iloadN A0 d5_35 (pc' := 36) rfl rfl ?_
      refine s_iconst A0 d5_36 (pc' := 37) rfl (v := (2 : Int32)) (by decide) ?_
      refine s_icmple A0 d5_37 (pY := 48) (pN := 40) (by decide) (by decide) rfl (fun _ => ?_) (fun c => absurd c (by decide))
      refine s_iloadN A0 d5_48 (pc' := 49) rfl rfl ?_
      refine s_iconst A0 d5_49 (pc' := 50) rfl (v := (3 : Int32)) (by decide) ?_
      refine s_icmple A0 d5_50 (pY := 62) (pN := 53) (by decide) (by decide) rfl (fun _ => ?_) (fun c => absurd c (by decide))
      refine s_iconst A0 d5_62 (pc' := 63) rfl (v := (1 : Int32)) (by decide) ?_
      exact g_retZ X0 hx hlk hret (by decide) (hb hby d5_63) ⟨_, rfl, by decide, fun _ => by omega, N0, e0⟩ (by decide) (by decide)
    · intro c17
      replace c17 := i_eq c17
      rw [show (58 : Int32).toInt = 58 from by decide] at c17
      refine s_iconst A0 d5_20 (pc' := 21) rfl (v := (0 : Int32)) (by decide) ?_
      exact g_retZ X0 hx hlk hret (by decide) (hb hby d5_21) ⟨_, rfl, by decide, fun q => absurd rfl q, N0, e0⟩ (by decide) (by decide)
  · intro c9
    replace c9 := i_eq c9
    rw [show (95 : Int32).toInt = 95 from by decide] at c9
    refine s_iconst A0 d5_12 (pc' := 13) rfl (v := (0 : Int32)) (by decide) ?_
    exact g_retZ X0 hx hlk hret (by decide) (hb hby d5_13) ⟨_, rfl, by decide, fun q => absurd rfl q, N0, e0⟩ (by decide) (by decide)
theorem ef_c_val_2 (m : MethodId) (x0 : Int32) (x1 : Int32) (x2 : Int32) (x3 : Int32) (x4 : Int32) : entryFrame m #[(.int x0), (.int x1), (.int x2), (.int x3), (.int x4)] 5 = mkF m 0 #[.val (.int x0), .val (.int x1), .val (.int x2), .val (.int x3), .val (.int x4)] [] := by first | (simp [entryFrame, mkF, argsToLocals, Value.category, maxLocals]; done) | rfl
set_option maxRecDepth 65536 in
set_option maxHeartbeats 40000000 in
theorem c_val_2 (l : Launch) (Z : State) (a0 : Array Value) (hw : ∀ d ∈ tables_1, d.before a0 Z = true) (ws : List Jvm.Cond) (c0 c1 c2 c3 : Int32) (h0 : Heap) (n0 : Nat) (Z0 : n0 ≤ h0.size)  :
    Ctr l Z (⟨"com/example/divvy/divvy/document/DocumentIdPartitionKeyPinLaw", "valid", "(ICCCC)Z"⟩ : MethodName) method_3_code 5 (some .boolean) ws ({ frames := 0, cells := 0, slots := 0, locals := 0 } : Room) #[(.int (2 : Int32)), (.int c0), (.int c1), (.int c2), (.int c3)] h0 (fun v h L => ∃ z : Int32, v = some (.int z) ∧ (z = 0 ∨ z = 1) ∧ (z.toInt ≠ 0 → (c0.toInt ≠ 95 ∧ c0.toInt ≠ 58 ∧ c1.toInt ≠ 58)) ∧ Fr n0 L ∧ h = h0) := by
  refine enter pn_5 ?_
  intro p e s m below meth c T0 X0 hx hby hml hret hlk hZ hown hnm e0
  have A0 := wk X0 hx hby
  have N0 := Fr.nil n0
  refine goIn (ef_c_val_2 m (2 : Int32) c0 c1 c2 c3) ?_
  show Go p e below m (Fini s 0 0 (fun v h L => ∃ z : Int32, v = some (.int z) ∧ (z = 0 ∨ z = 1) ∧ (z.toInt ≠ 0 → (c0.toInt ≠ 95 ∧ c0.toInt ≠ 58 ∧ c1.toInt ≠ 58)) ∧ Fr n0 L ∧ h = h0)) T0 0 #[.val (.int (2 : Int32)), .val (.int c0), .val (.int c1), .val (.int c2), .val (.int c3)] []
  refine s_iloadN A0 d5_0 (pc' := 1) rfl rfl ?_
  refine s_ifne A0 d5_1 (pY := 6) (pN := 4) (by decide) (by decide) rfl (fun _ => ?_) (fun c => absurd c (by decide))
  refine s_iloadN A0 d5_6 (pc' := 7) rfl rfl ?_
  refine s_bipush A0 d5_7 (pc' := 9) rfl (v := (95 : Int32)) (by decide) ?_
  refine s_icmpne A0 d5_9 (pY := 14) (pN := 12) (by decide) (by decide) rfl ?_ ?_
  · intro c9
    replace c9 := i_ne c9
    rw [show (95 : Int32).toInt = 95 from by decide] at c9
    refine s_iloadN A0 d5_14 (pc' := 15) rfl rfl ?_
    refine s_bipush A0 d5_15 (pc' := 17) rfl (v := (58 : Int32)) (by decide) ?_
    refine s_icmpne A0 d5_17 (pY := 22) (pN := 20) (by decide) (by decide) rfl ?_ ?_
    · intro c17
      replace c17 := i_ne c17
      rw [show (58 : Int32).toInt = 58 from by decide] at c17
      refine s_iloadN A0 d5_22 (pc' := 23) rfl rfl ?_
      refine s_iconst A0 d5_23 (pc' := 24) rfl (v := (1 : Int32)) (by decide) ?_
      refine s_icmple A0 d5_24 (pY := 35) (pN := 27) (by decide) (by decide) rfl (fun c => absurd c (by decide)) (fun _ => ?_)
      refine s_iloadN A0 d5_27 (pc' := 28) rfl rfl ?_
      refine s_bipush A0 d5_28 (pc' := 30) rfl (v := (58 : Int32)) (by decide) ?_
      refine s_icmpne A0 d5_30 (pY := 35) (pN := 33) (by decide) (by decide) rfl ?_ ?_
      · intro c30
        replace c30 := i_ne c30
        rw [show (58 : Int32).toInt = 58 from by decide] at c30
        refine s_iloadN A0 d5_35 (pc' := 36) rfl rfl ?_
        refine s_iconst A0 d5_36 (pc' := 37) rfl (v := (2 : Int32)) (by decide) ?_
        refine s_icmple A0 d5_37 (pY := 48) (pN := 40) (by decide) (by decide) rfl (fun _ => ?_) (fun c => absurd c (by decide))
        refine s_iloadN A0 d5_48 (pc' := 49) rfl rfl ?_
        refine s_iconst A0 d5_49 (pc' := 50) rfl (v := (3 : Int32)) (by decide) ?_
        refine s_icmple A0 d5_50 (pY := 62) (pN := 53) (by decide) (by decide) rfl (fun _ => ?_) (fun c => absurd c (by decide))
        refine s_iconst A0 d5_62 (pc' := 63) rfl (v := (1 : Int32)) (by decide) ?_
        exact g_retZ X0 hx hlk hret (by decide) (hb hby d5_63) ⟨_, rfl, by decide, fun _ => by omega, N0, e0⟩ (by decide) (by decide)
      · intro c30
        replace c30 := i_eq c30
        rw [show (58 : Int32).toInt = 58 from by decide] at c30
        refine s_iconst A0 d5_33 (pc' := 34) rfl (v := (0 : Int32)) (by decide) ?_
        exact g_retZ X0 hx hlk hret (by decide) (hb hby d5_34) ⟨_, rfl, by decide, fun q => absurd rfl q, N0, e0⟩ (by decide) (by decide)
    · intro c17
      replace c17 := i_eq c17
      rw [show (58 : Int32).toInt = 58 from by decide] at c17
      refine s_iconst A0 d5_20 (pc' := 21) rfl (v := (0 : Int32)) (by decide) ?_
      exact g_retZ X0 hx hlk hret (by decide) (hb hby d5_21) ⟨_, rfl, by decide, fun q => absurd rfl q, N0, e0⟩ (by decide) (by decide)
  · intro c9
    replace c9 := i_eq c9
    rw [show (95 : Int32).toInt = 95 from by decide] at c9
    refine s_iconst A0 d5_12 (pc' := 13) rfl (v := (0 : Int32)) (by decide) ?_
    exact g_retZ X0 hx hlk hret (by decide) (hb hby d5_13) ⟨_, rfl, by decide, fun q => absurd rfl q, N0, e0⟩ (by decide) (by decide)
theorem ef_c_val_3 (m : MethodId) (x0 : Int32) (x1 : Int32) (x2 : Int32) (x3 : Int32) (x4 : Int32) : entryFrame m #[(.int x0), (.int x1), (.int x2), (.int x3), (.int x4)] 5 = mkF m 0 #[.val (.int x0), .val (.int x1), .val (.int x2), .val (.int x3), .val (.int x4)] [] := by first | (simp [entryFrame, mkF, argsToLocals, Value.category, maxLocals]; done) | rfl
set_option maxRecDepth 65536 in
set_option maxHeartbeats 40000000 in
theorem c_val_3 (l : Launch) (Z : State) (a0 : Array Value) (hw : ∀ d ∈ tables_1, d.before a0 Z = true) (ws : List Jvm.Cond) (c0 c1 c2 c3 : Int32) (h0 : Heap) (n0 : Nat) (Z0 : n0 ≤ h0.size)  :
    Ctr l Z (⟨"com/example/divvy/divvy/document/DocumentIdPartitionKeyPinLaw", "valid", "(ICCCC)Z"⟩ : MethodName) method_3_code 5 (some .boolean) ws ({ frames := 0, cells := 0, slots := 0, locals := 0 } : Room) #[(.int (3 : Int32)), (.int c0), (.int c1), (.int c2), (.int c3)] h0 (fun v h L => ∃ z : Int32, v = some (.int z) ∧ (z = 0 ∨ z = 1) ∧ (z.toInt ≠ 0 → (c0.toInt ≠ 95 ∧ c0.toInt ≠ 58 ∧ c1.toInt ≠ 58 ∧ c2.toInt ≠ 58)) ∧ Fr n0 L ∧ h = h0) := by
  refine enter pn_5 ?_
  intro p e s m below meth c T0 X0 hx hby hml hret hlk hZ hown hnm e0
  have A0 := wk X0 hx hby
  have N0 := Fr.nil n0
  refine goIn (ef_c_val_3 m (3 : Int32) c0 c1 c2 c3) ?_
  show Go p e below m (Fini s 0 0 (fun v h L => ∃ z : Int32, v = some (.int z) ∧ (z = 0 ∨ z = 1) ∧ (z.toInt ≠ 0 → (c0.toInt ≠ 95 ∧ c0.toInt ≠ 58 ∧ c1.toInt ≠ 58 ∧ c2.toInt ≠ 58)) ∧ Fr n0 L ∧ h = h0)) T0 0 #[.val (.int (3 : Int32)), .val (.int c0), .val (.int c1), .val (.int c2), .val (.int c3)] []
  refine s_iloadN A0 d5_0 (pc' := 1) rfl rfl ?_
  refine s_ifne A0 d5_1 (pY := 6) (pN := 4) (by decide) (by decide) rfl (fun _ => ?_) (fun c => absurd c (by decide))
  refine s_iloadN A0 d5_6 (pc' := 7) rfl rfl ?_
  refine s_bipush A0 d5_7 (pc' := 9) rfl (v := (95 : Int32)) (by decide) ?_
  refine s_icmpne A0 d5_9 (pY := 14) (pN := 12) (by decide) (by decide) rfl ?_ ?_
  · intro c9
    replace c9 := i_ne c9
    rw [show (95 : Int32).toInt = 95 from by decide] at c9
    refine s_iloadN A0 d5_14 (pc' := 15) rfl rfl ?_
    refine s_bipush A0 d5_15 (pc' := 17) rfl (v := (58 : Int32)) (by decide) ?_
    refine s_icmpne A0 d5_17 (pY := 22) (pN := 20) (by decide) (by decide) rfl ?_ ?_
    · intro c17
      replace c17 := i_ne c17
      rw [show (58 : Int32).toInt = 58 from by decide] at c17
      refine s_iloadN A0 d5_22 (pc' := 23) rfl rfl ?_
      refine s_iconst A0 d5_23 (pc' := 24) rfl (v := (1 : Int32)) (by decide) ?_
      refine s_icmple A0 d5_24 (pY := 35) (pN := 27) (by decide) (by decide) rfl (fun c => absurd c (by decide)) (fun _ => ?_)
      refine s_iloadN A0 d5_27 (pc' := 28) rfl rfl ?_
      refine s_bipush A0 d5_28 (pc' := 30) rfl (v := (58 : Int32)) (by decide) ?_
      refine s_icmpne A0 d5_30 (pY := 35) (pN := 33) (by decide) (by decide) rfl ?_ ?_
      · intro c30
        replace c30 := i_ne c30
        rw [show (58 : Int32).toInt = 58 from by decide] at c30
        refine s_iloadN A0 d5_35 (pc' := 36) rfl rfl ?_
        refine s_iconst A0 d5_36 (pc' := 37) rfl (v := (2 : Int32)) (by decide) ?_
        refine s_icmple A0 d5_37 (pY := 48) (pN := 40) (by decide) (by decide) rfl (fun c => absurd c (by decide)) (fun _ => ?_)
        refine s_iloadN A0 d5_40 (pc' := 41) rfl rfl ?_
        refine s_bipush A0 d5_41 (pc' := 43) rfl (v := (58 : Int32)) (by decide) ?_
        refine s_icmpne A0 d5_43 (pY := 48) (pN := 46) (by decide) (by decide) rfl ?_ ?_
        · intro c43
          replace c43 := i_ne c43
          rw [show (58 : Int32).toInt = 58 from by decide] at c43
          refine s_iloadN A0 d5_48 (pc' := 49) rfl rfl ?_
          refine s_iconst A0 d5_49 (pc' := 50) rfl (v := (3 : Int32)) (by decide) ?_
          refine s_icmple A0 d5_50 (pY := 62) (pN := 53) (by decide) (by decide) rfl (fun _ => ?_) (fun c => absurd c (by decide))
          refine s_iconst A0 d5_62 (pc' := 63) rfl (v := (1 : Int32)) (by decide) ?_
          exact g_retZ X0 hx hlk hret (by decide) (hb hby d5_63) ⟨_, rfl, by decide, fun _ => by omega, N0, e0⟩ (by decide) (by decide)
        · intro c43
          replace c43 := i_eq c43
          rw [show (58 : Int32).toInt = 58 from by decide] at c43
          refine s_iconst A0 d5_46 (pc' := 47) rfl (v := (0 : Int32)) (by decide) ?_
          exact g_retZ X0 hx hlk hret (by decide) (hb hby d5_47) ⟨_, rfl, by decide, fun q => absurd rfl q, N0, e0⟩ (by decide) (by decide)
      · intro c30
        replace c30 := i_eq c30
        rw [show (58 : Int32).toInt = 58 from by decide] at c30
        refine s_iconst A0 d5_33 (pc' := 34) rfl (v := (0 : Int32)) (by decide) ?_
        exact g_retZ X0 hx hlk hret (by decide) (hb hby d5_34) ⟨_, rfl, by decide, fun q => absurd rfl q, N0, e0⟩ (by decide) (by decide)
    · intro c17
      replace c17 := i_eq c17
      rw [show (58 : Int32).toInt = 58 from by decide] at c17
      refine s_iconst A0 d5_20 (pc' := 21) rfl (v := (0 : Int32)) (by decide) ?_
      exact g_retZ X0 hx hlk hret (by decide) (hb hby d5_21) ⟨_, rfl, by decide, fun q => absurd rfl q, N0, e0⟩ (by decide) (by decide)
  · intro c9
    replace c9 := i_eq c9
    rw [show (95 : Int32).toInt = 95 from by decide] at c9
    refine s_iconst A0 d5_12 (pc' := 13) rfl (v := (0 : Int32)) (by decide) ?_
    exact g_retZ X0 hx hlk hret (by decide) (hb hby d5_13) ⟨_, rfl, by decide, fun q => absurd rfl q, N0, e0⟩ (by decide) (by decide)
theorem ef_c_val_4 (m : MethodId) (x0 : Int32) (x1 : Int32) (x2 : Int32) (x3 : Int32) (x4 : Int32) : entryFrame m #[(.int x0), (.int x1), (.int x2), (.int x3), (.int x4)] 5 = mkF m 0 #[.val (.int x0), .val (.int x1), .val (.int x2), .val (.int x3), .val (.int x4)] [] := by first | (simp [entryFrame, mkF, argsToLocals, Value.category, maxLocals]; done) | rfl
set_option maxRecDepth 65536 in
set_option maxHeartbeats 40000000 in
theorem c_val_4 (l : Launch) (Z : State) (a0 : Array Value) (hw : ∀ d ∈ tables_1, d.before a0 Z = true) (ws : List Jvm.Cond) (c0 c1 c2 c3 : Int32) (h0 : Heap) (n0 : Nat) (Z0 : n0 ≤ h0.size)  :
    Ctr l Z (⟨"com/example/divvy/divvy/document/DocumentIdPartitionKeyPinLaw", "valid", "(ICCCC)Z"⟩ : MethodName) method_3_code 5 (some .boolean) ws ({ frames := 0, cells := 0, slots := 0, locals := 0 } : Room) #[(.int (4 : Int32)), (.int c0), (.int c1), (.int c2), (.int c3)] h0 (fun v h L => ∃ z : Int32, v = some (.int z) ∧ (z = 0 ∨ z = 1) ∧ (z.toInt ≠ 0 → (c0.toInt ≠ 95 ∧ c0.toInt ≠ 58 ∧ c1.toInt ≠ 58 ∧ c2.toInt ≠ 58 ∧ c3.toInt ≠ 58)) ∧ Fr n0 L ∧ h = h0) := by
  refine enter pn_5 ?_
  intro p e s m below meth c T0 X0 hx hby hml hret hlk hZ hown hnm e0
  have A0 := wk X0 hx hby
  have N0 := Fr.nil n0
  refine goIn (ef_c_val_4 m (4 : Int32) c0 c1 c2 c3) ?_
  show Go p e below m (Fini s 0 0 (fun v h L => ∃ z : Int32, v = some (.int z) ∧ (z = 0 ∨ z = 1) ∧ (z.toInt ≠ 0 → (c0.toInt ≠ 95 ∧ c0.toInt ≠ 58 ∧ c1.toInt ≠ 58 ∧ c2.toInt ≠ 58 ∧ c3.toInt ≠ 58)) ∧ Fr n0 L ∧ h = h0)) T0 0 #[.val (.int (4 : Int32)), .val (.int c0), .val (.int c1), .val (.int c2), .val (.int c3)] []
  refine s_iloadN A0 d5_0 (pc' := 1) rfl rfl ?_
  refine s_ifne A0 d5_1 (pY := 6) (pN := 4) (by decide) (by decide) rfl (fun _ => ?_) (fun c => absurd c (by decide))
  refine s_iloadN A0 d5_6 (pc' := 7) rfl rfl ?_
  refine s_bipush A0 d5_7 (pc' := 9) rfl (v := (95 : Int32)) (by decide) ?_
  refine s_icmpne A0 d5_9 (pY := 14) (pN := 12) (by decide) (by decide) rfl ?_ ?_
  · intro c9
    replace c9 := i_ne c9
    rw [show (95 : Int32).toInt = 95 from by decide] at c9
    refine s_iloadN A0 d5_14 (pc' := 15) rfl rfl ?_
    refine s_bipush A0 d5_15 (pc' := 17) rfl (v := (58 : Int32)) (by decide) ?_
    refine s_icmpne A0 d5_17 (pY := 22) (pN := 20) (by decide) (by decide) rfl ?_ ?_
    · intro c17
      replace c17 := i_ne c17
      rw [show (58 : Int32).toInt = 58 from by decide] at c17
      refine s_iloadN A0 d5_22 (pc' := 23) rfl rfl ?_
      refine s_iconst A0 d5_23 (pc' := 24) rfl (v := (1 : Int32)) (by decide) ?_
      refine s_icmple A0 d5_24 (pY := 35) (pN := 27) (by decide) (by decide) rfl (fun c => absurd c (by decide)) (fun _ => ?_)
      refine s_iloadN A0 d5_27 (pc' := 28) rfl rfl ?_
      refine s_bipush A0 d5_28 (pc' := 30) rfl (v := (58 : Int32)) (by decide) ?_
      refine s_icmpne A0 d5_30 (pY := 35) (pN := 33) (by decide) (by decide) rfl ?_ ?_
      · intro c30
        replace c30 := i_ne c30
        rw [show (58 : Int32).toInt = 58 from by decide] at c30
        refine s_iloadN A0 d5_35 (pc' := 36) rfl rfl ?_
        refine s_iconst A0 d5_36 (pc' := 37) rfl (v := (2 : Int32)) (by decide) ?_
        refine s_icmple A0 d5_37 (pY := 48) (pN := 40) (by decide) (by decide) rfl (fun c => absurd c (by decide)) (fun _ => ?_)
        refine s_iloadN A0 d5_40 (pc' := 41) rfl rfl ?_
        refine s_bipush A0 d5_41 (pc' := 43) rfl (v := (58 : Int32)) (by decide) ?_
        refine s_icmpne A0 d5_43 (pY := 48) (pN := 46) (by decide) (by decide) rfl ?_ ?_
        · intro c43
          replace c43 := i_ne c43
          rw [show (58 : Int32).toInt = 58 from by decide] at c43
          refine s_iloadN A0 d5_48 (pc' := 49) rfl rfl ?_
          refine s_iconst A0 d5_49 (pc' := 50) rfl (v := (3 : Int32)) (by decide) ?_
          refine s_icmple A0 d5_50 (pY := 62) (pN := 53) (by decide) (by decide) rfl (fun c => absurd c (by decide)) (fun _ => ?_)
          refine s_iload A0 d5_53 (pc' := 55) rfl rfl ?_
          refine s_bipush A0 d5_55 (pc' := 57) rfl (v := (58 : Int32)) (by decide) ?_
          refine s_icmpne A0 d5_57 (pY := 62) (pN := 60) (by decide) (by decide) rfl ?_ ?_
          · intro c57
            replace c57 := i_ne c57
            rw [show (58 : Int32).toInt = 58 from by decide] at c57
            refine s_iconst A0 d5_62 (pc' := 63) rfl (v := (1 : Int32)) (by decide) ?_
            exact g_retZ X0 hx hlk hret (by decide) (hb hby d5_63) ⟨_, rfl, by decide, fun _ => by omega, N0, e0⟩ (by decide) (by decide)
          · intro c57
            replace c57 := i_eq c57
            rw [show (58 : Int32).toInt = 58 from by decide] at c57
            refine s_iconst A0 d5_60 (pc' := 61) rfl (v := (0 : Int32)) (by decide) ?_
            exact g_retZ X0 hx hlk hret (by decide) (hb hby d5_61) ⟨_, rfl, by decide, fun q => absurd rfl q, N0, e0⟩ (by decide) (by decide)
        · intro c43
          replace c43 := i_eq c43
          rw [show (58 : Int32).toInt = 58 from by decide] at c43
          refine s_iconst A0 d5_46 (pc' := 47) rfl (v := (0 : Int32)) (by decide) ?_
          exact g_retZ X0 hx hlk hret (by decide) (hb hby d5_47) ⟨_, rfl, by decide, fun q => absurd rfl q, N0, e0⟩ (by decide) (by decide)
      · intro c30
        replace c30 := i_eq c30
        rw [show (58 : Int32).toInt = 58 from by decide] at c30
        refine s_iconst A0 d5_33 (pc' := 34) rfl (v := (0 : Int32)) (by decide) ?_
        exact g_retZ X0 hx hlk hret (by decide) (hb hby d5_34) ⟨_, rfl, by decide, fun q => absurd rfl q, N0, e0⟩ (by decide) (by decide)
    · intro c17
      replace c17 := i_eq c17
      rw [show (58 : Int32).toInt = 58 from by decide] at c17
      refine s_iconst A0 d5_20 (pc' := 21) rfl (v := (0 : Int32)) (by decide) ?_
      exact g_retZ X0 hx hlk hret (by decide) (hb hby d5_21) ⟨_, rfl, by decide, fun q => absurd rfl q, N0, e0⟩ (by decide) (by decide)
  · intro c9
    replace c9 := i_eq c9
    rw [show (95 : Int32).toInt = 95 from by decide] at c9
    refine s_iconst A0 d5_12 (pc' := 13) rfl (v := (0 : Int32)) (by decide) ?_
    exact g_retZ X0 hx hlk hret (by decide) (hb hby d5_13) ⟨_, rfl, by decide, fun q => absurd rfl q, N0, e0⟩ (by decide) (by decide)
theorem ef_c_val_0 (m : MethodId) (x0 : Int32) (x1 : Int32) (x2 : Int32) (x3 : Int32) (x4 : Int32) : entryFrame m #[(.int x0), (.int x1), (.int x2), (.int x3), (.int x4)] 5 = mkF m 0 #[.val (.int x0), .val (.int x1), .val (.int x2), .val (.int x3), .val (.int x4)] [] := by first | (simp [entryFrame, mkF, argsToLocals, Value.category, maxLocals]; done) | rfl
set_option maxRecDepth 65536 in
set_option maxHeartbeats 40000000 in
theorem c_val_0 (l : Launch) (Z : State) (a0 : Array Value) (hw : ∀ d ∈ tables_1, d.before a0 Z = true) (ws : List Jvm.Cond) (c0 c1 c2 c3 : Int32) (h0 : Heap) (n0 : Nat) (Z0 : n0 ≤ h0.size)  :
    Ctr l Z (⟨"com/example/divvy/divvy/document/DocumentIdPartitionKeyPinLaw", "valid", "(ICCCC)Z"⟩ : MethodName) method_3_code 5 (some .boolean) ws ({ frames := 0, cells := 0, slots := 0, locals := 0 } : Room) #[(.int (0 : Int32)), (.int c0), (.int c1), (.int c2), (.int c3)] h0 (fun v h L => v = some (.int 0) ∧ Fr n0 L ∧ h = h0) := by
  refine enter pn_5 ?_
  intro p e s m below meth c T0 X0 hx hby hml hret hlk hZ hown hnm e0
  have A0 := wk X0 hx hby
  have N0 := Fr.nil n0
  refine goIn (ef_c_val_0 m (0 : Int32) c0 c1 c2 c3) ?_
  show Go p e below m (Fini s 0 0 (fun v h L => v = some (.int 0) ∧ Fr n0 L ∧ h = h0)) T0 0 #[.val (.int (0 : Int32)), .val (.int c0), .val (.int c1), .val (.int c2), .val (.int c3)] []
  refine s_iloadN A0 d5_0 (pc' := 1) rfl rfl ?_
  refine s_ifne A0 d5_1 (pY := 6) (pN := 4) (by decide) (by decide) rfl (fun c => absurd c (by decide)) (fun _ => ?_)
  refine s_iconst A0 d5_4 (pc' := 5) rfl (v := (0 : Int32)) (by decide) ?_
  exact g_retZ X0 hx hlk hret (by decide) (hb hby d5_5) ⟨rfl, N0, e0⟩ (by decide) (by decide)
theorem d12_0 : decode jdk_42_method_154_code 0 = .ok (.getstatic 38, 3) := by decide +kernel
theorem d12_3 : decode jdk_42_method_154_code 3 = .ok (.ifCond .eq 14, 3) := by decide +kernel
theorem d12_6 : decode jdk_42_method_154_code 6 = .ok (.aload_n 0, 1) := by decide +kernel
theorem d12_7 : decode jdk_42_method_154_code 7 = .ok (.getfield 15, 3) := by decide +kernel
theorem d12_10 : decode jdk_42_method_154_code 10 = .ok (.ifCond .ne 7, 3) := by decide +kernel
theorem d12_13 : decode jdk_42_method_154_code 13 = .ok (.iconst 1, 1) := by decide +kernel
theorem d12_14 : decode jdk_42_method_154_code 14 = .ok (.goto 4, 3) := by decide +kernel
theorem d12_17 : decode jdk_42_method_154_code 17 = .ok (.iconst 0, 1) := by decide +kernel
theorem d12_18 : decode jdk_42_method_154_code 18 = .ok (.ireturn, 1) := by decide +kernel
theorem ef_c_lat (m : MethodId) (x0 : Addr) : entryFrame m #[(.ref x0)] 1 = mkF m 0 #[.val (.ref x0)] [] := by first | (simp [entryFrame, mkF, argsToLocals, Value.category, maxLocals]; done) | rfl
set_option maxRecDepth 65536 in
set_option maxHeartbeats 40000000 in
theorem c_lat (l : Launch) (Z : State) (a0 : Array Value) (hw : ∀ d ∈ tables_1, d.before a0 Z = true) (ws : List Jvm.Cond) (a : Addr) (cz : Int32) (h0 : Heap) (n0 : Nat) (Z0 : n0 ≤ h0.size) (Ea : Exa Z h0 a "java/lang/String") (Fc : Fld Z h0 a "java/lang/String" "coder" "B" (.int 0)) (O : Old Z n0 h0) (SC : Sta Z Z.heap "java/lang/String" "COMPACT_STRINGS" "Z" (.int cz)) (hcz : ¬ cz = 0) :
    Ctr l Z (⟨"java/lang/String", "isLatin1", "()Z"⟩ : MethodName) jdk_42_method_154_code 1 (some .boolean) ws ({ frames := 0, cells := 0, slots := 0, locals := 0 } : Room) #[(.ref a)] h0 (fun v h L => v = some (.int 1) ∧ Fr n0 L ∧ h = h0) := by
  refine enter pn_12 ?_
  intro p e s m below meth c T0 X0 hx hby hml hret hlk hZ hown hnm e0
  have A0 := wk X0 hx hby
  have N0 := Fr.nil n0
  refine goIn (ef_c_lat m a) ?_
  show Go p e below m (Fini s 0 0 (fun v h L => v = some (.int 1) ∧ Fr n0 L ∧ h = h0)) T0 0 #[.val (.ref a)] []
  have Sc1 := Sta.ext O.2 SC
  refine g_getS X0 hx hZ hown (hw _ (List.mem_of_getElem? (i := 30) rfl)) Via.refl e0 Sc1 (hb hby d12_0) (pc' := 3) rfl ?_
  intro T2 X2 e2
  have A2 := wk X2 hx hby
  refine s_ifeq A2 d12_3 (pY := 17) (pN := 6) (by decide) (by decide) rfl ?_ ?_
  · intro c3
    replace c3 := iz_eq c3
    exact absurd (show cz = 0 from Int32.toInt_inj.mp c3) hcz
  · intro c3
    replace c3 := iz_ne c3
    refine s_aloadN A2 d12_6 (pc' := 7) rfl rfl rfl ?_
    refine g_getF X2 hx hZ hown (hw _ (List.mem_of_getElem? (i := 26) rfl)) Via.refl e2 Fc (hb hby d12_7) (pc' := 10) rfl ?_
    intro T3 X3 e3
    have A3 := wk X3 hx hby
    refine s_ifne A3 d12_10 (pY := 17) (pN := 13) (by decide) (by decide) rfl (fun c => absurd c (by decide)) (fun _ => ?_)
    refine s_iconst A3 d12_13 (pc' := 14) rfl (v := (1 : Int32)) (by decide) ?_
    refine s_goto A3 d12_14 (pc' := 18) (by decide) (by decide) ?_
    exact g_retZ X3 hx hlk hret (by decide) (hb hby d12_18) ⟨rfl, N0, e3⟩ (by decide) (by decide)
theorem d19_0 : decode jdk_42_method_152_code 0 = .ok (.getstatic 38, 3) := by decide +kernel
theorem d19_3 : decode jdk_42_method_152_code 3 = .ok (.ifCond .eq 10, 3) := by decide +kernel
theorem d19_6 : decode jdk_42_method_152_code 6 = .ok (.aload_n 0, 1) := by decide +kernel
theorem d19_7 : decode jdk_42_method_152_code 7 = .ok (.getfield 15, 3) := by decide +kernel
theorem d19_10 : decode jdk_42_method_152_code 10 = .ok (.goto 4, 3) := by decide +kernel
theorem d19_13 : decode jdk_42_method_152_code 13 = .ok (.iconst 1, 1) := by decide +kernel
theorem d19_14 : decode jdk_42_method_152_code 14 = .ok (.ireturn, 1) := by decide +kernel
theorem ef_c_cod0 (m : MethodId) (x0 : Addr) : entryFrame m #[(.ref x0)] 1 = mkF m 0 #[.val (.ref x0)] [] := by first | (simp [entryFrame, mkF, argsToLocals, Value.category, maxLocals]; done) | rfl
set_option maxRecDepth 65536 in
set_option maxHeartbeats 40000000 in
theorem c_cod0 (l : Launch) (Z : State) (a0 : Array Value) (hw : ∀ d ∈ tables_1, d.before a0 Z = true) (ws : List Jvm.Cond) (a : Addr) (cz : Int32) (h0 : Heap) (n0 : Nat) (Z0 : n0 ≤ h0.size) (Ea : Exa Z h0 a "java/lang/String") (Fc : Fld Z h0 a "java/lang/String" "coder" "B" (.int 0)) (O : Old Z n0 h0) (SC : Sta Z Z.heap "java/lang/String" "COMPACT_STRINGS" "Z" (.int cz)) (hcz : ¬ cz = 0) :
    Ctr l Z (⟨"java/lang/String", "coder", "()B"⟩ : MethodName) jdk_42_method_152_code 1 (some .byte) ws ({ frames := 0, cells := 0, slots := 0, locals := 0 } : Room) #[(.ref a)] h0 (fun v h L => v = some (.int 0) ∧ Fr n0 L ∧ h = h0) := by
  refine enter pn_19 ?_
  intro p e s m below meth c T0 X0 hx hby hml hret hlk hZ hown hnm e0
  have A0 := wk X0 hx hby
  have N0 := Fr.nil n0
  refine goIn (ef_c_cod0 m a) ?_
  show Go p e below m (Fini s 0 0 (fun v h L => v = some (.int 0) ∧ Fr n0 L ∧ h = h0)) T0 0 #[.val (.ref a)] []
  have Sc1 := Sta.ext O.2 SC
  refine g_getS X0 hx hZ hown (hw _ (List.mem_of_getElem? (i := 30) rfl)) Via.refl e0 Sc1 (hb hby d19_0) (pc' := 3) rfl ?_
  intro T2 X2 e2
  have A2 := wk X2 hx hby
  refine s_ifeq A2 d19_3 (pY := 13) (pN := 6) (by decide) (by decide) rfl ?_ ?_
  · intro c3
    replace c3 := iz_eq c3
    exact absurd (show cz = 0 from Int32.toInt_inj.mp c3) hcz
  · intro c3
    replace c3 := iz_ne c3
    refine s_aloadN A2 d19_6 (pc' := 7) rfl rfl rfl ?_
    refine g_getF X2 hx hZ hown (hw _ (List.mem_of_getElem? (i := 26) rfl)) Via.refl e2 Fc (hb hby d19_7) (pc' := 10) rfl ?_
    intro T3 X3 e3
    have A3 := wk X3 hx hby
    refine s_goto A3 d19_10 (pc' := 14) (by decide) (by decide) ?_
    exact g_ret X3 hx hlk hret rfl (Or.inl ⟨rfl, by simp, _, rfl⟩) (hb hby d19_14) ⟨rfl, N0, e3⟩ (by decide) (by decide)
theorem d21_0 : decode jdk_43_method_4_code 0 = .ok (.iload_n 0, 1) := by decide +kernel
theorem d21_1 : decode jdk_43_method_4_code 1 = .ok (.ifCond .lt 14, 3) := by decide +kernel
theorem d21_4 : decode jdk_43_method_4_code 4 = .ok (.iload_n 0, 1) := by decide +kernel
theorem d21_5 : decode jdk_43_method_4_code 5 = .ok (.sipush 255, 3) := by decide +kernel
theorem d21_8 : decode jdk_43_method_4_code 8 = .ok (.if_icmp .gt 7, 3) := by decide +kernel
theorem d21_11 : decode jdk_43_method_4_code 11 = .ok (.iconst 1, 1) := by decide +kernel
theorem d21_12 : decode jdk_43_method_4_code 12 = .ok (.goto 4, 3) := by decide +kernel
theorem d21_15 : decode jdk_43_method_4_code 15 = .ok (.iconst 0, 1) := by decide +kernel
theorem d21_16 : decode jdk_43_method_4_code 16 = .ok (.ireturn, 1) := by decide +kernel
theorem ef_c_can (m : MethodId) (x0 : Int32) : entryFrame m #[(.int x0)] 1 = mkF m 0 #[.val (.int x0)] [] := by first | (simp [entryFrame, mkF, argsToLocals, Value.category, maxLocals]; done) | rfl
set_option maxRecDepth 65536 in
set_option maxHeartbeats 40000000 in
theorem c_can (l : Launch) (Z : State) (a0 : Array Value) (hw : ∀ d ∈ tables_1, d.before a0 Z = true) (ws : List Jvm.Cond)  (h0 : Heap) (n0 : Nat) (Z0 : n0 ≤ h0.size)  :
    Ctr l Z (⟨"java/lang/StringLatin1", "canEncode", "(I)Z"⟩ : MethodName) jdk_43_method_4_code 1 (some .boolean) ws ({ frames := 0, cells := 0, slots := 0, locals := 0 } : Room) #[(.int (58 : Int32))] h0 (fun v h L => v = some (.int 1) ∧ Fr n0 L ∧ h = h0) := by
  refine enter pn_21 ?_
  intro p e s m below meth c T0 X0 hx hby hml hret hlk hZ hown hnm e0
  have A0 := wk X0 hx hby
  have N0 := Fr.nil n0
  refine goIn (ef_c_can m (58 : Int32)) ?_
  show Go p e below m (Fini s 0 0 (fun v h L => v = some (.int 1) ∧ Fr n0 L ∧ h = h0)) T0 0 #[.val (.int (58 : Int32))] []
  refine s_iloadN A0 d21_0 (pc' := 1) rfl rfl ?_
  refine s_iflt A0 d21_1 (pY := 15) (pN := 4) (by decide) (by decide) rfl (fun c => absurd c (by decide)) (fun _ => ?_)
  refine s_iloadN A0 d21_4 (pc' := 5) rfl rfl ?_
  refine s_sipush A0 d21_5 (pc' := 8) rfl (v := (255 : Int32)) (by decide) ?_
  refine s_icmpgt A0 d21_8 (pY := 15) (pN := 11) (by decide) (by decide) rfl (fun c => absurd c (by decide)) (fun _ => ?_)
  refine s_iconst A0 d21_11 (pc' := 12) rfl (v := (1 : Int32)) (by decide) ?_
  refine s_goto A0 d21_12 (pc' := 16) (by decide) (by decide) ?_
  exact g_retZ X0 hx hlk hret (by decide) (hb hby d21_16) ⟨rfl, N0, e0⟩ (by decide) (by decide)
theorem d22_0 : decode jdk_29_method_65_code 0 = .ok (.iload_n 0, 1) := by decide +kernel
theorem d22_1 : decode jdk_29_method_65_code 1 = .ok (.iload_n 1, 1) := by decide +kernel
theorem d22_2 : decode jdk_29_method_65_code 2 = .ok (.if_icmp .lt 7, 3) := by decide +kernel
theorem d22_5 : decode jdk_29_method_65_code 5 = .ok (.iload_n 0, 1) := by decide +kernel
theorem d22_6 : decode jdk_29_method_65_code 6 = .ok (.goto 4, 3) := by decide +kernel
theorem d22_9 : decode jdk_29_method_65_code 9 = .ok (.iload_n 1, 1) := by decide +kernel
theorem d22_10 : decode jdk_29_method_65_code 10 = .ok (.ireturn, 1) := by decide +kernel
theorem ef_c_max00 (m : MethodId) (x0 : Int32) (x1 : Int32) : entryFrame m #[(.int x0), (.int x1)] 2 = mkF m 0 #[.val (.int x0), .val (.int x1)] [] := by first | (simp [entryFrame, mkF, argsToLocals, Value.category, maxLocals]; done) | rfl
set_option maxRecDepth 65536 in
set_option maxHeartbeats 40000000 in
theorem c_max00 (l : Launch) (Z : State) (a0 : Array Value) (hw : ∀ d ∈ tables_1, d.before a0 Z = true) (ws : List Jvm.Cond)  (h0 : Heap) (n0 : Nat) (Z0 : n0 ≤ h0.size)  :
    Ctr l Z (⟨"java/lang/Math", "max", "(II)I"⟩ : MethodName) jdk_29_method_65_code 2 (some .int) ws ({ frames := 0, cells := 0, slots := 0, locals := 0 } : Room) #[(.int (0 : Int32)), (.int (0 : Int32))] h0 (fun v h L => v = some (.int 0) ∧ Fr n0 L ∧ h = h0) := by
  refine enter pn_22 ?_
  intro p e s m below meth c T0 X0 hx hby hml hret hlk hZ hown hnm e0
  have A0 := wk X0 hx hby
  have N0 := Fr.nil n0
  refine goIn (ef_c_max00 m (0 : Int32) (0 : Int32)) ?_
  show Go p e below m (Fini s 0 0 (fun v h L => v = some (.int 0) ∧ Fr n0 L ∧ h = h0)) T0 0 #[.val (.int (0 : Int32)), .val (.int (0 : Int32))] []
  refine s_iloadN A0 d22_0 (pc' := 1) rfl rfl ?_
  refine s_iloadN A0 d22_1 (pc' := 2) rfl rfl ?_
  refine s_icmplt A0 d22_2 (pY := 9) (pN := 5) (by decide) (by decide) rfl (fun c => absurd c (by decide)) (fun _ => ?_)
  refine s_iloadN A0 d22_5 (pc' := 6) rfl rfl ?_
  refine s_goto A0 d22_6 (pc' := 10) (by decide) (by decide) ?_
  exact g_retI X0 hx hlk hret (hb hby d22_10) ⟨rfl, N0, e0⟩ (by decide) (by decide)
theorem d10_0 : decode jdk_42_method_55_code 0 = .ok (.aload_n 0, 1) := by decide +kernel
theorem d10_1 : decode jdk_42_method_55_code 1 = .ok (.getfield 9, 3) := by decide +kernel
theorem d10_4 : decode jdk_42_method_55_code 4 = .ok (.arraylength, 1) := by decide +kernel
theorem d10_5 : decode jdk_42_method_55_code 5 = .ok (.ifCond .ne 7, 3) := by decide +kernel
theorem d10_8 : decode jdk_42_method_55_code 8 = .ok (.iconst 1, 1) := by decide +kernel
theorem d10_9 : decode jdk_42_method_55_code 9 = .ok (.goto 4, 3) := by decide +kernel
theorem d10_12 : decode jdk_42_method_55_code 12 = .ok (.iconst 0, 1) := by decide +kernel
theorem d10_13 : decode jdk_42_method_55_code 13 = .ok (.ireturn, 1) := by decide +kernel
theorem ef_c_ise_1 (m : MethodId) (x0 : Addr) : entryFrame m #[(.ref x0)] 1 = mkF m 0 #[.val (.ref x0)] [] := by first | (simp [entryFrame, mkF, argsToLocals, Value.category, maxLocals]; done) | rfl
set_option maxRecDepth 65536 in
set_option maxHeartbeats 40000000 in
theorem c_ise_1 (l : Launch) (Z : State) (a0 : Array Value) (hw : ∀ d ∈ tables_1, d.before a0 Z = true) (ws : List Jvm.Cond) (a d : Addr) (cz : Int32) (c0 : Int32) (h0 : Heap) (n0 : Nat) (Z0 : n0 ≤ h0.size) (Ea : Exa Z h0 a "java/lang/String") (Fv : Fld Z h0 a "java/lang/String" "value" "[B" (.ref d)) (Fc : Fld Z h0 a "java/lang/String" "coder" "B" (.int 0)) (D : Ars Z h0 d .byte [(.int c0.toInt8.toInt32)]) (O : Old Z n0 h0) (SC : Sta Z Z.heap "java/lang/String" "COMPACT_STRINGS" "Z" (.int cz)) (hcz : ¬ cz = 0) :
    Ctr l Z (⟨"java/lang/String", "isEmpty", "()Z"⟩ : MethodName) jdk_42_method_55_code 1 (some .boolean) ws ({ frames := 0, cells := 0, slots := 0, locals := 0 } : Room) #[(.ref a)] h0 (fun v h L => v = some (.int 0) ∧ Fr n0 L ∧ h = h0) := by
  refine enter pn_10 ?_
  intro p e s m below meth c T0 X0 hx hby hml hret hlk hZ hown hnm e0
  have A0 := wk X0 hx hby
  have N0 := Fr.nil n0
  refine goIn (ef_c_ise_1 m a) ?_
  show Go p e below m (Fini s 0 0 (fun v h L => v = some (.int 0) ∧ Fr n0 L ∧ h = h0)) T0 0 #[.val (.ref a)] []
  refine s_aloadN A0 d10_0 (pc' := 1) rfl rfl rfl ?_
  refine g_getF X0 hx hZ hown (hw _ (List.mem_of_getElem? (i := 25) rfl)) Via.refl e0 Fv (hb hby d10_1) (pc' := 4) rfl ?_
  intro T1 X1 e1
  have A1 := wk X1 hx hby
  refine g_len X1 hx hZ e1 D (n := (1 : Int32)) rfl (hb hby d10_4) (pc' := 5) rfl ?_
  refine s_ifne A1 d10_5 (pY := 12) (pN := 8) (by decide) (by decide) rfl (fun _ => ?_) (fun c => absurd c (by decide))
  refine s_iconst A1 d10_12 (pc' := 13) rfl (v := (0 : Int32)) (by decide) ?_
  exact g_retZ X1 hx hlk hret (by decide) (hb hby d10_13) ⟨rfl, N0, e1⟩ (by decide) (by decide)
theorem d18_0 : decode jdk_42_method_54_code 0 = .ok (.aload_n 0, 1) := by decide +kernel
theorem d18_1 : decode jdk_42_method_54_code 1 = .ok (.getfield 9, 3) := by decide +kernel
theorem d18_4 : decode jdk_42_method_54_code 4 = .ok (.arraylength, 1) := by decide +kernel
theorem d18_5 : decode jdk_42_method_54_code 5 = .ok (.aload_n 0, 1) := by decide +kernel
theorem d18_6 : decode jdk_42_method_54_code 6 = .ok (.invokevirtual 335, 3) := by decide +kernel
theorem d18_9 : decode jdk_42_method_54_code 9 = .ok (.ishr, 1) := by decide +kernel
theorem d18_10 : decode jdk_42_method_54_code 10 = .ok (.ireturn, 1) := by decide +kernel
theorem ef_c_len_1 (m : MethodId) (x0 : Addr) : entryFrame m #[(.ref x0)] 1 = mkF m 0 #[.val (.ref x0)] [] := by first | (simp [entryFrame, mkF, argsToLocals, Value.category, maxLocals]; done) | rfl
set_option maxRecDepth 65536 in
set_option maxHeartbeats 40000000 in
theorem c_len_1 (l : Launch) (Z : State) (a0 : Array Value) (hw : ∀ d ∈ tables_1, d.before a0 Z = true) (ws : List Jvm.Cond) (a d : Addr) (cz : Int32) (c0 : Int32) (h0 : Heap) (n0 : Nat) (Z0 : n0 ≤ h0.size) (Ea : Exa Z h0 a "java/lang/String") (Fv : Fld Z h0 a "java/lang/String" "value" "[B" (.ref d)) (Fc : Fld Z h0 a "java/lang/String" "coder" "B" (.int 0)) (D : Ars Z h0 d .byte [(.int c0.toInt8.toInt32)]) (O : Old Z n0 h0) (SC : Sta Z Z.heap "java/lang/String" "COMPACT_STRINGS" "Z" (.int cz)) (hcz : ¬ cz = 0) :
    Ctr l Z (⟨"java/lang/String", "length", "()I"⟩ : MethodName) jdk_42_method_54_code 1 (some .int) ws ({ frames := 1, cells := 0, slots := 0, locals := 13 } : Room) #[(.ref a)] h0 (fun v h L => v = some (.int 1) ∧ Fr n0 L ∧ h = h0) := by
  refine enter pn_18 ?_
  intro p e s m below meth c T0 X0 hx hby hml hret hlk hZ hown hnm e0
  have A0 := wk X0 hx hby
  have N0 := Fr.nil n0
  refine goIn (ef_c_len_1 m a) ?_
  show Go p e below m (Fini s 0 0 (fun v h L => v = some (.int 1) ∧ Fr n0 L ∧ h = h0)) T0 0 #[.val (.ref a)] []
  refine s_aloadN A0 d18_0 (pc' := 1) rfl rfl rfl ?_
  refine g_getF X0 hx hZ hown (hw _ (List.mem_of_getElem? (i := 25) rfl)) Via.refl e0 Fv (hb hby d18_1) (pc' := 4) rfl ?_
  intro T1 X1 e1
  have A1 := wk X1 hx hby
  refine g_len X1 hx hZ e1 D (n := (1 : Int32)) rfl (hb hby d18_4) (pc' := 5) rfl ?_
  refine s_aloadN A1 d18_5 (pc' := 6) rfl rfl rfl ?_
  refine g_virtual X1 hx hZ (y := (⟨"java/lang/String", "coder", "()B"⟩ : MethodName)) hown (hw _ (List.mem_of_getElem? (i := 87) rfl)) (hw _ (List.mem_of_getElem? (i := 88) rfl)) (hw _ (List.mem_of_getElem? (i := 90) rfl)) (hw _ (List.mem_of_getElem? (i := 89) rfl)) (hw _ (List.mem_of_getElem? (i := 7) rfl)) (hw _ (List.mem_of_getElem? (i := 91) rfl)) (by decide) Ea (argsL := []) (rest := [(.int (1 : Int32))]) (c_cod0 l Z a0 hw [] a cz h0 n0 Z0 Ea Fc O SC hcz) pd_5 rfl rfl (hb hby d18_6) e1 (by rw [hml]; rfl) (pc' := 9) rfl (by decide) (W := 1) (Nat.le_of_eq rfl) (by decide) (by decide) (by decide) ?_
  intro v2 T2 L2 X2 hQ2
  have A2 := wk X2 hx hby
  have e2 : T2.heap = T2.heap := rfl
  obtain ⟨rfl, N2, hh2⟩ := hQ2
  have e2 : T2.heap = h0 := hh2
  have fr2 := Fr.app N0 N2
  show Go p e below m (Fini s 0 0 (fun v h L => v = some (.int 1) ∧ Fr n0 L ∧ h = h0)) T2 9 #[.val (.ref a)] [(.int (0 : Int32)), (.int (1 : Int32))]
  refine s_ishr A2 d18_9 (pc' := 10) rfl (v := (1 : Int32)) (by decide) ?_
  exact g_retI X2 hx hlk hret (hb hby d18_10) ⟨rfl, fr2, e2⟩ (by decide) (by decide)
theorem d15_0 : decode jdk_41_method_11_code 0 = .ok (.iload_n 0, 1) := by decide +kernel
theorem d15_1 : decode jdk_41_method_11_code 1 = .ok (.ifCond .lt 8, 3) := by decide +kernel
theorem d15_4 : decode jdk_41_method_11_code 4 = .ok (.iload_n 0, 1) := by decide +kernel
theorem d15_5 : decode jdk_41_method_11_code 5 = .ok (.iload_n 1, 1) := by decide +kernel
theorem d15_6 : decode jdk_41_method_11_code 6 = .ok (.if_icmp .lt 10, 3) := by decide +kernel
theorem d15_9 : decode jdk_41_method_11_code 9 = .ok (.aload_n 2, 1) := by decide +kernel
theorem d15_10 : decode jdk_41_method_11_code 10 = .ok (.iload_n 0, 1) := by decide +kernel
theorem d15_11 : decode jdk_41_method_11_code 11 = .ok (.iload_n 1, 1) := by decide +kernel
theorem d15_12 : decode jdk_41_method_11_code 12 = .ok (.invokestatic 95, 3) := by decide +kernel
theorem d15_15 : decode jdk_41_method_11_code 15 = .ok (.athrow, 1) := by decide +kernel
theorem d15_16 : decode jdk_41_method_11_code 16 = .ok (.iload_n 0, 1) := by decide +kernel
theorem d15_17 : decode jdk_41_method_11_code 17 = .ok (.ireturn, 1) := by decide +kernel
theorem ef_c_pciN_0_1 (m : MethodId) (x0 : Int32) (x1 : Int32) : entryFrame m #[(.int x0), (.int x1), .null] 3 = mkF m 0 #[.val (.int x0), .val (.int x1), .val .null] [] := by first | (simp [entryFrame, mkF, argsToLocals, Value.category, maxLocals]; done) | rfl
set_option maxRecDepth 65536 in
set_option maxHeartbeats 40000000 in
theorem c_pciN_0_1 (l : Launch) (Z : State) (a0 : Array Value) (hw : ∀ d ∈ tables_1, d.before a0 Z = true) (ws : List Jvm.Cond)  (h0 : Heap) (n0 : Nat) (Z0 : n0 ≤ h0.size)  :
    Ctr l Z (⟨"jdk/internal/util/Preconditions", "checkIndex", "(IILjava/util/function/BiFunction;)I"⟩ : MethodName) jdk_41_method_11_code 3 (some .int) ws ({ frames := 0, cells := 0, slots := 0, locals := 0 } : Room) #[(.int (0 : Int32)), (.int (1 : Int32)), .null] h0 (fun v h L => v = some (.int 0) ∧ Fr n0 L ∧ h = h0) := by
  refine enter pn_15 ?_
  intro p e s m below meth c T0 X0 hx hby hml hret hlk hZ hown hnm e0
  have A0 := wk X0 hx hby
  have N0 := Fr.nil n0
  refine goIn (ef_c_pciN_0_1 m (0 : Int32) (1 : Int32)) ?_
  show Go p e below m (Fini s 0 0 (fun v h L => v = some (.int 0) ∧ Fr n0 L ∧ h = h0)) T0 0 #[.val (.int (0 : Int32)), .val (.int (1 : Int32)), .val .null] []
  refine s_iloadN A0 d15_0 (pc' := 1) rfl rfl ?_
  refine s_iflt A0 d15_1 (pY := 9) (pN := 4) (by decide) (by decide) rfl (fun c => absurd c (by decide)) (fun _ => ?_)
  refine s_iloadN A0 d15_4 (pc' := 5) rfl rfl ?_
  refine s_iloadN A0 d15_5 (pc' := 6) rfl rfl ?_
  refine s_icmplt A0 d15_6 (pY := 16) (pN := 9) (by decide) (by decide) rfl (fun _ => ?_) (fun c => absurd c (by decide))
  refine s_iloadN A0 d15_16 (pc' := 17) rfl rfl ?_
  exact g_retI X0 hx hlk hret (hb hby d15_17) ⟨rfl, N0, e0⟩ (by decide) (by decide)
theorem ef_c_pciA_0_1 (m : MethodId) (x0 : Int32) (x1 : Int32) (x2 : Addr) : entryFrame m #[(.int x0), (.int x1), (.ref x2)] 3 = mkF m 0 #[.val (.int x0), .val (.int x1), .val (.ref x2)] [] := by first | (simp [entryFrame, mkF, argsToLocals, Value.category, maxLocals]; done) | rfl
set_option maxRecDepth 65536 in
set_option maxHeartbeats 40000000 in
theorem c_pciA_0_1 (l : Launch) (Z : State) (a0 : Array Value) (hw : ∀ d ∈ tables_1, d.before a0 Z = true) (ws : List Jvm.Cond) (f : Addr) (h0 : Heap) (n0 : Nat) (Z0 : n0 ≤ h0.size)  :
    Ctr l Z (⟨"jdk/internal/util/Preconditions", "checkIndex", "(IILjava/util/function/BiFunction;)I"⟩ : MethodName) jdk_41_method_11_code 3 (some .int) ws ({ frames := 0, cells := 0, slots := 0, locals := 0 } : Room) #[(.int (0 : Int32)), (.int (1 : Int32)), (.ref f)] h0 (fun v h L => v = some (.int 0) ∧ Fr n0 L ∧ h = h0) := by
  refine enter pn_15 ?_
  intro p e s m below meth c T0 X0 hx hby hml hret hlk hZ hown hnm e0
  have A0 := wk X0 hx hby
  have N0 := Fr.nil n0
  refine goIn (ef_c_pciA_0_1 m (0 : Int32) (1 : Int32) f) ?_
  show Go p e below m (Fini s 0 0 (fun v h L => v = some (.int 0) ∧ Fr n0 L ∧ h = h0)) T0 0 #[.val (.int (0 : Int32)), .val (.int (1 : Int32)), .val (.ref f)] []
  refine s_iloadN A0 d15_0 (pc' := 1) rfl rfl ?_
  refine s_iflt A0 d15_1 (pY := 9) (pN := 4) (by decide) (by decide) rfl (fun c => absurd c (by decide)) (fun _ => ?_)
  refine s_iloadN A0 d15_4 (pc' := 5) rfl rfl ?_
  refine s_iloadN A0 d15_5 (pc' := 6) rfl rfl ?_
  refine s_icmplt A0 d15_6 (pY := 16) (pN := 9) (by decide) (by decide) rfl (fun _ => ?_) (fun c => absurd c (by decide))
  refine s_iloadN A0 d15_16 (pc' := 17) rfl rfl ?_
  exact g_retI X0 hx hlk hret (hb hby d15_17) ⟨rfl, N0, e0⟩ (by decide) (by decide)
theorem d14_0 : decode jdk_42_method_155_code 0 = .ok (.iload_n 0, 1) := by decide +kernel
theorem d14_1 : decode jdk_42_method_155_code 1 = .ok (.iload_n 1, 1) := by decide +kernel
theorem d14_2 : decode jdk_42_method_155_code 2 = .ok (.getstatic 1053, 3) := by decide +kernel
theorem d14_5 : decode jdk_42_method_155_code 5 = .ok (.invokestatic 1059, 3) := by decide +kernel
theorem d14_8 : decode jdk_42_method_155_code 8 = .ok (.pop, 1) := by decide +kernel
theorem d14_9 : decode jdk_42_method_155_code 9 = .ok (.return_, 1) := by decide +kernel
theorem ef_c_chk_0_1 (m : MethodId) (x0 : Int32) (x1 : Int32) : entryFrame m #[(.int x0), (.int x1)] 2 = mkF m 0 #[.val (.int x0), .val (.int x1)] [] := by first | (simp [entryFrame, mkF, argsToLocals, Value.category, maxLocals]; done) | rfl
set_option maxRecDepth 65536 in
set_option maxHeartbeats 40000000 in
theorem c_chk_0_1 (l : Launch) (Z : State) (a0 : Array Value) (hw : ∀ d ∈ tables_1, d.before a0 Z = true) (ws : List Jvm.Cond) (fv : Value) (h0 : Heap) (n0 : Nat) (Z0 : n0 ≤ h0.size) (O : Old Z n0 h0) (SF : Sta Z Z.heap "jdk/internal/util/Preconditions" "SIOOBE_FORMATTER" "Ljava/util/function/BiFunction;" fv) (hfv : fv = .null ∨ ∃ f, fv = .ref f) :
    Ctr l Z (⟨"java/lang/String", "checkIndex", "(II)V"⟩ : MethodName) jdk_42_method_155_code 2 none ws ({ frames := 1, cells := 0, slots := 0, locals := 14 } : Room) #[(.int (0 : Int32)), (.int (1 : Int32))] h0 (fun v h L => v = none ∧ Fr n0 L ∧ h = h0) := by
  refine enter pn_14 ?_
  intro p e s m below meth c T0 X0 hx hby hml hret hlk hZ hown hnm e0
  have A0 := wk X0 hx hby
  have N0 := Fr.nil n0
  refine goIn (ef_c_chk_0_1 m (0 : Int32) (1 : Int32)) ?_
  show Go p e below m (Fini s 0 0 (fun v h L => v = none ∧ Fr n0 L ∧ h = h0)) T0 0 #[.val (.int (0 : Int32)), .val (.int (1 : Int32))] []
  rcases hfv with rfl | ⟨f, rfl⟩
  ·
    refine s_iloadN A0 d14_0 (pc' := 1) rfl rfl ?_
    refine s_iloadN A0 d14_1 (pc' := 2) rfl rfl ?_
    have Sf := Sta.ext O.2 SF
    refine g_getS X0 hx hZ hown (hw _ (List.mem_of_getElem? (i := 67) rfl)) Via.refl e0 Sf (hb hby d14_2) (pc' := 5) rfl ?_
    intro T1 X1 e1
    have A1 := wk X1 hx hby
    refine g_static X1 hx hZ (y := (⟨"jdk/internal/util/Preconditions", "checkIndex", "(IILjava/util/function/BiFunction;)I"⟩ : MethodName)) hown (hw _ (List.mem_of_getElem? (i := 69) rfl)) (hw _ (List.mem_of_getElem? (i := 70) rfl)) (hw _ (List.mem_of_getElem? (i := 68) rfl)) (hw _ (List.mem_of_getElem? (i := 71) rfl)) (by decide) (argsL := [(.int (0 : Int32)), (.int (1 : Int32)), .null]) (rest := []) (c_pciN_0_1 l Z a0 hw []  h0 n0 Z0) pd_6 rfl rfl (hb hby d14_5) e1 (by rw [hml]; rfl) (pc' := 8) rfl (by decide) (W := 0) (Nat.le_of_eq rfl) (by decide) (by decide) (by decide) ?_
    intro v2 T2 L2 X2 hQ2
    have A2 := wk X2 hx hby
    have e2 : T2.heap = T2.heap := rfl
    obtain ⟨rfl, N2, hh2⟩ := hQ2
    have e2 : T2.heap = h0 := hh2
    have fr2 := Fr.app N0 N2
    show Go p e below m (Fini s 0 0 (fun v h L => v = none ∧ Fr n0 L ∧ h = h0)) T2 8 #[.val (.int (0 : Int32)), .val (.int (1 : Int32))] [(.int (0 : Int32))]
    refine s_pop A2 d14_8 (pc' := 9) rfl rfl ?_
    exact g_retV X2 hx hlk hret (hb hby d14_9) ⟨rfl, fr2, e2⟩ (by decide) (by decide)
  refine s_iloadN A0 d14_0 (pc' := 1) rfl rfl ?_
  refine s_iloadN A0 d14_1 (pc' := 2) rfl rfl ?_
  have Sf := Sta.ext O.2 SF
  refine g_getS X0 hx hZ hown (hw _ (List.mem_of_getElem? (i := 67) rfl)) Via.refl e0 Sf (hb hby d14_2) (pc' := 5) rfl ?_
  intro T53 X53 e53
  have A53 := wk X53 hx hby
  refine g_static X53 hx hZ (y := (⟨"jdk/internal/util/Preconditions", "checkIndex", "(IILjava/util/function/BiFunction;)I"⟩ : MethodName)) hown (hw _ (List.mem_of_getElem? (i := 69) rfl)) (hw _ (List.mem_of_getElem? (i := 70) rfl)) (hw _ (List.mem_of_getElem? (i := 68) rfl)) (hw _ (List.mem_of_getElem? (i := 71) rfl)) (by decide) (argsL := [(.int (0 : Int32)), (.int (1 : Int32)), (.ref f)]) (rest := []) (c_pciA_0_1 l Z a0 hw [] f h0 n0 Z0) pd_6 rfl rfl (hb hby d14_5) e53 (by rw [hml]; rfl) (pc' := 8) rfl (by decide) (W := 0) (Nat.le_of_eq rfl) (by decide) (by decide) (by decide) ?_
  intro v54 T54 L54 X54 hQ54
  have A54 := wk X54 hx hby
  have e54 : T54.heap = T54.heap := rfl
  obtain ⟨rfl, N54, hh54⟩ := hQ54
  have e54 : T54.heap = h0 := hh54
  have fr54 := Fr.app N0 N54
  show Go p e below m (Fini s 0 0 (fun v h L => v = none ∧ Fr n0 L ∧ h = h0)) T54 8 #[.val (.int (0 : Int32)), .val (.int (1 : Int32))] [(.int (0 : Int32))]
  refine s_pop A54 d14_8 (pc' := 9) rfl rfl ?_
  exact g_retV X54 hx hlk hret (hb hby d14_9) ⟨rfl, fr54, e54⟩ (by decide) (by decide)
theorem d13_0 : decode jdk_43_method_2_code 0 = .ok (.iload_n 1, 1) := by decide +kernel
theorem d13_1 : decode jdk_43_method_2_code 1 = .ok (.aload_n 0, 1) := by decide +kernel
theorem d13_2 : decode jdk_43_method_2_code 2 = .ok (.arraylength, 1) := by decide +kernel
theorem d13_3 : decode jdk_43_method_2_code 3 = .ok (.invokestatic 9, 3) := by decide +kernel
theorem d13_6 : decode jdk_43_method_2_code 6 = .ok (.aload_n 0, 1) := by decide +kernel
theorem d13_7 : decode jdk_43_method_2_code 7 = .ok (.iload_n 1, 1) := by decide +kernel
theorem d13_8 : decode jdk_43_method_2_code 8 = .ok (.baload, 1) := by decide +kernel
theorem d13_9 : decode jdk_43_method_2_code 9 = .ok (.sipush 255, 3) := by decide +kernel
theorem d13_12 : decode jdk_43_method_2_code 12 = .ok (.iand, 1) := by decide +kernel
theorem d13_13 : decode jdk_43_method_2_code 13 = .ok (.i2c, 1) := by decide +kernel
theorem d13_14 : decode jdk_43_method_2_code 14 = .ok (.ireturn, 1) := by decide +kernel
theorem ef_c_l1c_0_1 (m : MethodId) (x0 : Addr) (x1 : Int32) : entryFrame m #[(.ref x0), (.int x1)] 2 = mkF m 0 #[.val (.ref x0), .val (.int x1)] [] := by first | (simp [entryFrame, mkF, argsToLocals, Value.category, maxLocals]; done) | rfl
set_option maxRecDepth 65536 in
set_option maxHeartbeats 40000000 in
theorem c_l1c_0_1 (l : Launch) (Z : State) (a0 : Array Value) (hw : ∀ d ∈ tables_1, d.before a0 Z = true) (ws : List Jvm.Cond) (a d : Addr) (cz : Int32) (c0 : Int32) (fv : Value) (h0 : Heap) (n0 : Nat) (Z0 : n0 ≤ h0.size) (Ea : Exa Z h0 a "java/lang/String") (Fv : Fld Z h0 a "java/lang/String" "value" "[B" (.ref d)) (Fc : Fld Z h0 a "java/lang/String" "coder" "B" (.int 0)) (D : Ars Z h0 d .byte [(.int c0.toInt8.toInt32)]) (O : Old Z n0 h0) (SC : Sta Z Z.heap "java/lang/String" "COMPACT_STRINGS" "Z" (.int cz)) (hcz : ¬ cz = 0) (SF : Sta Z Z.heap "jdk/internal/util/Preconditions" "SIOOBE_FORMATTER" "Ljava/util/function/BiFunction;" fv) (hfv : fv = .null ∨ ∃ f, fv = .ref f) (C0 : 0 ≤ c0.toInt ∧ c0.toInt ≤ 255) :
    Ctr l Z (⟨"java/lang/StringLatin1", "charAt", "([BI)C"⟩ : MethodName) jdk_43_method_2_code 2 (some .char) ws ({ frames := 2, cells := 0, slots := 0, locals := 27 } : Room) #[(.ref d), (.int (0 : Int32))] h0 (fun v h L => v = some (.int c0) ∧ Fr n0 L ∧ h = h0) := by
  refine enter pn_13 ?_
  intro p e s m below meth c T0 X0 hx hby hml hret hlk hZ hown hnm e0
  have A0 := wk X0 hx hby
  have N0 := Fr.nil n0
  refine goIn (ef_c_l1c_0_1 m d (0 : Int32)) ?_
  show Go p e below m (Fini s 0 0 (fun v h L => v = some (.int c0) ∧ Fr n0 L ∧ h = h0)) T0 0 #[.val (.ref d), .val (.int (0 : Int32))] []
  refine s_iloadN A0 d13_0 (pc' := 1) rfl rfl ?_
  refine s_aloadN A0 d13_1 (pc' := 2) rfl rfl rfl ?_
  refine g_len X0 hx hZ e0 D (n := (1 : Int32)) rfl (hb hby d13_2) (pc' := 3) rfl ?_
  refine g_static X0 hx hZ (y := (⟨"java/lang/String", "checkIndex", "(II)V"⟩ : MethodName)) hown (hw _ (List.mem_of_getElem? (i := 64) rfl)) (hw _ (List.mem_of_getElem? (i := 65) rfl)) (hw _ (List.mem_of_getElem? (i := 7) rfl)) (hw _ (List.mem_of_getElem? (i := 66) rfl)) (by decide) (argsL := [(.int (0 : Int32)), (.int (1 : Int32))]) (rest := []) (c_chk_0_1 l Z a0 hw [] fv h0 n0 Z0 O SF hfv) pd_7 rfl rfl (hb hby d13_3) e0 (by rw [hml]; rfl) (pc' := 6) rfl (by decide) (W := 0) (Nat.le_of_eq rfl) (by decide) (by decide) (by decide) ?_
  intro v1 T1 L1 X1 hQ1
  have A1 := wk X1 hx hby
  have e1 : T1.heap = T1.heap := rfl
  obtain ⟨rfl, N1, hh1⟩ := hQ1
  have e1 : T1.heap = h0 := hh1
  have fr1 := Fr.app N0 N1
  show Go p e below m (Fini s 0 0 (fun v h L => v = some (.int c0) ∧ Fr n0 L ∧ h = h0)) T1 6 #[.val (.ref d), .val (.int (0 : Int32))] []
  refine s_aloadN A1 d13_6 (pc' := 7) rfl rfl rfl ?_
  refine s_iloadN A1 d13_7 (pc' := 8) rfl rfl ?_
  refine g_baload X1 hx hZ e1 D (by decide) (i := 0) (by decide) (v := (.int c0.toInt8.toInt32)) rfl (hb hby d13_8) (pc' := 9) rfl ?_
  refine s_sipush A1 d13_9 (pc' := 12) rfl (v := (255 : Int32)) (by decide) ?_
  refine s_iand A1 d13_12 (pc' := 13) rfl (own_and255 C0) ?_
  refine s_i2c A1 d13_13 (pc' := 14) rfl (own_i2c (z := c0) (by omega)) ?_
  exact g_ret X1 hx hlk hret (congrArg Value.int (own_i2c (z := c0) (by omega))) (Or.inl ⟨rfl, by simp, _, rfl⟩) (hb hby d13_14) ⟨rfl, fr1, e1⟩ (by decide) (by decide)
theorem d11_0 : decode jdk_42_method_56_code 0 = .ok (.aload_n 0, 1) := by decide +kernel
theorem d11_1 : decode jdk_42_method_56_code 1 = .ok (.invokevirtual 492, 3) := by decide +kernel
theorem d11_4 : decode jdk_42_method_56_code 4 = .ok (.ifCond .eq 12, 3) := by decide +kernel
theorem d11_7 : decode jdk_42_method_56_code 7 = .ok (.aload_n 0, 1) := by decide +kernel
theorem d11_8 : decode jdk_42_method_56_code 8 = .ok (.getfield 9, 3) := by decide +kernel
theorem d11_11 : decode jdk_42_method_56_code 11 = .ok (.iload_n 1, 1) := by decide +kernel
theorem d11_12 : decode jdk_42_method_56_code 12 = .ok (.invokestatic 495, 3) := by decide +kernel
theorem d11_15 : decode jdk_42_method_56_code 15 = .ok (.ireturn, 1) := by decide +kernel
theorem d11_16 : decode jdk_42_method_56_code 16 = .ok (.aload_n 0, 1) := by decide +kernel
theorem d11_17 : decode jdk_42_method_56_code 17 = .ok (.getfield 9, 3) := by decide +kernel
theorem d11_20 : decode jdk_42_method_56_code 20 = .ok (.iload_n 1, 1) := by decide +kernel
theorem d11_21 : decode jdk_42_method_56_code 21 = .ok (.invokestatic 498, 3) := by decide +kernel
theorem d11_24 : decode jdk_42_method_56_code 24 = .ok (.ireturn, 1) := by decide +kernel
theorem ef_c_cha_0_1 (m : MethodId) (x0 : Addr) (x1 : Int32) : entryFrame m #[(.ref x0), (.int x1)] 2 = mkF m 0 #[.val (.ref x0), .val (.int x1)] [] := by first | (simp [entryFrame, mkF, argsToLocals, Value.category, maxLocals]; done) | rfl
set_option maxRecDepth 65536 in
set_option maxHeartbeats 40000000 in
theorem c_cha_0_1 (l : Launch) (Z : State) (a0 : Array Value) (hw : ∀ d ∈ tables_1, d.before a0 Z = true) (ws : List Jvm.Cond) (a d : Addr) (cz : Int32) (c0 : Int32) (fv : Value) (h0 : Heap) (n0 : Nat) (Z0 : n0 ≤ h0.size) (Ea : Exa Z h0 a "java/lang/String") (Fv : Fld Z h0 a "java/lang/String" "value" "[B" (.ref d)) (Fc : Fld Z h0 a "java/lang/String" "coder" "B" (.int 0)) (D : Ars Z h0 d .byte [(.int c0.toInt8.toInt32)]) (O : Old Z n0 h0) (SC : Sta Z Z.heap "java/lang/String" "COMPACT_STRINGS" "Z" (.int cz)) (hcz : ¬ cz = 0) (SF : Sta Z Z.heap "jdk/internal/util/Preconditions" "SIOOBE_FORMATTER" "Ljava/util/function/BiFunction;" fv) (hfv : fv = .null ∨ ∃ f, fv = .ref f) (C0 : 0 ≤ c0.toInt ∧ c0.toInt ≤ 255) :
    Ctr l Z (⟨"java/lang/String", "charAt", "(I)C"⟩ : MethodName) jdk_42_method_56_code 2 (some .char) ws ({ frames := 3, cells := 0, slots := 0, locals := 40 } : Room) #[(.ref a), (.int (0 : Int32))] h0 (fun v h L => v = some (.int c0) ∧ Fr n0 L ∧ h = h0) := by
  refine enter pn_11 ?_
  intro p e s m below meth c T0 X0 hx hby hml hret hlk hZ hown hnm e0
  have A0 := wk X0 hx hby
  have N0 := Fr.nil n0
  refine goIn (ef_c_cha_0_1 m a (0 : Int32)) ?_
  show Go p e below m (Fini s 0 0 (fun v h L => v = some (.int c0) ∧ Fr n0 L ∧ h = h0)) T0 0 #[.val (.ref a), .val (.int (0 : Int32))] []
  refine s_aloadN A0 d11_0 (pc' := 1) rfl rfl rfl ?_
  refine g_virtual X0 hx hZ (y := (⟨"java/lang/String", "isLatin1", "()Z"⟩ : MethodName)) hown (hw _ (List.mem_of_getElem? (i := 55) rfl)) (hw _ (List.mem_of_getElem? (i := 56) rfl)) (hw _ (List.mem_of_getElem? (i := 58) rfl)) (hw _ (List.mem_of_getElem? (i := 57) rfl)) (hw _ (List.mem_of_getElem? (i := 7) rfl)) (hw _ (List.mem_of_getElem? (i := 59) rfl)) (by decide) Ea (argsL := []) (rest := []) (c_lat l Z a0 hw [] a cz h0 n0 Z0 Ea Fc O SC hcz) pd_8 rfl rfl (hb hby d11_1) e0 (by rw [hml]; rfl) (pc' := 4) rfl (by decide) (W := 0) (Nat.le_of_eq rfl) (by decide) (by decide) (by decide) ?_
  intro v1 T1 L1 X1 hQ1
  have A1 := wk X1 hx hby
  have e1 : T1.heap = T1.heap := rfl
  obtain ⟨rfl, N1, hh1⟩ := hQ1
  have e1 : T1.heap = h0 := hh1
  have fr1 := Fr.app N0 N1
  show Go p e below m (Fini s 0 0 (fun v h L => v = some (.int c0) ∧ Fr n0 L ∧ h = h0)) T1 4 #[.val (.ref a), .val (.int (0 : Int32))] [(.int (1 : Int32))]
  refine s_ifeq A1 d11_4 (pY := 16) (pN := 7) (by decide) (by decide) rfl (fun c => absurd c (by decide)) (fun _ => ?_)
  refine s_aloadN A1 d11_7 (pc' := 8) rfl rfl rfl ?_
  refine g_getF X1 hx hZ hown (hw _ (List.mem_of_getElem? (i := 25) rfl)) Via.refl e1 Fv (hb hby d11_8) (pc' := 11) rfl ?_
  intro T2 X2 e2
  have A2 := wk X2 hx hby
  refine s_iloadN A2 d11_11 (pc' := 12) rfl rfl ?_
  refine g_static X2 hx hZ (y := (⟨"java/lang/StringLatin1", "charAt", "([BI)C"⟩ : MethodName)) hown (hw _ (List.mem_of_getElem? (i := 60) rfl)) (hw _ (List.mem_of_getElem? (i := 61) rfl)) (hw _ (List.mem_of_getElem? (i := 62) rfl)) (hw _ (List.mem_of_getElem? (i := 63) rfl)) (by decide) (argsL := [(.ref d), (.int (0 : Int32))]) (rest := []) (c_l1c_0_1 l Z a0 hw [] a d cz c0 fv h0 n0 Z0 Ea Fv Fc D O SC hcz SF hfv C0) pd_9 rfl rfl (hb hby d11_12) e2 (by rw [hml]; rfl) (pc' := 15) rfl (by decide) (W := 0) (Nat.le_of_eq rfl) (by decide) (by decide) (by decide) ?_
  intro v3 T3 L3 X3 hQ3
  have A3 := wk X3 hx hby
  have e3 : T3.heap = T3.heap := rfl
  obtain ⟨rfl, N3, hh3⟩ := hQ3
  have e3 : T3.heap = h0 := hh3
  have fr3 := Fr.app fr1 N3
  show Go p e below m (Fini s 0 0 (fun v h L => v = some (.int c0) ∧ Fr n0 L ∧ h = h0)) T3 15 #[.val (.ref a), .val (.int (0 : Int32))] [(.int c0)]
  exact g_ret X3 hx hlk hret (congrArg Value.int (own_i2c (z := c0) (by omega))) (Or.inl ⟨rfl, by simp, _, rfl⟩) (hb hby d11_15) ⟨rfl, fr3, e3⟩ (by decide) (by decide)
theorem d23_0 : decode jdk_29_method_69_code 0 = .ok (.iload_n 0, 1) := by decide +kernel
theorem d23_1 : decode jdk_29_method_69_code 1 = .ok (.iload_n 1, 1) := by decide +kernel
theorem d23_2 : decode jdk_29_method_69_code 2 = .ok (.if_icmp .gt 7, 3) := by decide +kernel
theorem d23_5 : decode jdk_29_method_69_code 5 = .ok (.iload_n 0, 1) := by decide +kernel
theorem d23_6 : decode jdk_29_method_69_code 6 = .ok (.goto 4, 3) := by decide +kernel
theorem d23_9 : decode jdk_29_method_69_code 9 = .ok (.iload_n 1, 1) := by decide +kernel
theorem d23_10 : decode jdk_29_method_69_code 10 = .ok (.ireturn, 1) := by decide +kernel
theorem ef_c_min_1 (m : MethodId) (x0 : Int32) (x1 : Int32) : entryFrame m #[(.int x0), (.int x1)] 2 = mkF m 0 #[.val (.int x0), .val (.int x1)] [] := by first | (simp [entryFrame, mkF, argsToLocals, Value.category, maxLocals]; done) | rfl
set_option maxRecDepth 65536 in
set_option maxHeartbeats 40000000 in
theorem c_min_1 (l : Launch) (Z : State) (a0 : Array Value) (hw : ∀ d ∈ tables_1, d.before a0 Z = true) (ws : List Jvm.Cond)  (h0 : Heap) (n0 : Nat) (Z0 : n0 ≤ h0.size)  :
    Ctr l Z (⟨"java/lang/Math", "min", "(II)I"⟩ : MethodName) jdk_29_method_69_code 2 (some .int) ws ({ frames := 0, cells := 0, slots := 0, locals := 0 } : Room) #[(.int (1 : Int32)), (.int (1 : Int32))] h0 (fun v h L => v = some (.int 1) ∧ Fr n0 L ∧ h = h0) := by
  refine enter pn_23 ?_
  intro p e s m below meth c T0 X0 hx hby hml hret hlk hZ hown hnm e0
  have A0 := wk X0 hx hby
  have N0 := Fr.nil n0
  refine goIn (ef_c_min_1 m (1 : Int32) (1 : Int32)) ?_
  show Go p e below m (Fini s 0 0 (fun v h L => v = some (.int 1) ∧ Fr n0 L ∧ h = h0)) T0 0 #[.val (.int (1 : Int32)), .val (.int (1 : Int32))] []
  refine s_iloadN A0 d23_0 (pc' := 1) rfl rfl ?_
  refine s_iloadN A0 d23_1 (pc' := 2) rfl rfl ?_
  refine s_icmpgt A0 d23_2 (pY := 9) (pN := 5) (by decide) (by decide) rfl (fun c => absurd c (by decide)) (fun _ => ?_)
  refine s_iloadN A0 d23_5 (pc' := 6) rfl rfl ?_
  refine s_goto A0 d23_6 (pc' := 10) (by decide) (by decide) ?_
  exact g_retI X0 hx hlk hret (hb hby d23_10) ⟨rfl, N0, e0⟩ (by decide) (by decide)
theorem d24_0 : decode jdk_43_method_23_code 0 = .ok (.iload_n 1, 1) := by decide +kernel
theorem d24_1 : decode jdk_43_method_23_code 1 = .ok (.i2b, 1) := by decide +kernel
theorem d24_2 : decode jdk_43_method_23_code 2 = .ok (.istore 4, 2) := by decide +kernel
theorem d24_4 : decode jdk_43_method_23_code 4 = .ok (.iload_n 2, 1) := by decide +kernel
theorem d24_5 : decode jdk_43_method_23_code 5 = .ok (.istore 5, 2) := by decide +kernel
theorem d24_7 : decode jdk_43_method_23_code 7 = .ok (.iload 5, 2) := by decide +kernel
theorem d24_9 : decode jdk_43_method_23_code 9 = .ok (.iload_n 3, 1) := by decide +kernel
theorem d24_10 : decode jdk_43_method_23_code 10 = .ok (.if_icmp .ge 21, 3) := by decide +kernel
theorem d24_13 : decode jdk_43_method_23_code 13 = .ok (.aload_n 0, 1) := by decide +kernel
theorem d24_14 : decode jdk_43_method_23_code 14 = .ok (.iload 5, 2) := by decide +kernel
theorem d24_16 : decode jdk_43_method_23_code 16 = .ok (.baload, 1) := by decide +kernel
theorem d24_17 : decode jdk_43_method_23_code 17 = .ok (.iload 4, 2) := by decide +kernel
theorem d24_19 : decode jdk_43_method_23_code 19 = .ok (.if_icmp .ne 6, 3) := by decide +kernel
theorem d24_22 : decode jdk_43_method_23_code 22 = .ok (.iload 5, 2) := by decide +kernel
theorem d24_24 : decode jdk_43_method_23_code 24 = .ok (.ireturn, 1) := by decide +kernel
theorem d24_25 : decode jdk_43_method_23_code 25 = .ok (.iinc 5 1, 3) := by decide +kernel
theorem d24_28 : decode jdk_43_method_23_code 28 = .ok (.goto (-21), 3) := by decide +kernel
theorem d24_31 : decode jdk_43_method_23_code 31 = .ok (.iconst (-1), 1) := by decide +kernel
theorem d24_32 : decode jdk_43_method_23_code 32 = .ok (.ireturn, 1) := by decide +kernel
theorem ef_c_ioc_1 (m : MethodId) (x0 : Addr) (x1 : Int32) (x2 : Int32) (x3 : Int32) : entryFrame m #[(.ref x0), (.int x1), (.int x2), (.int x3)] 6 = mkF m 0 #[.val (.ref x0), .val (.int x1), .val (.int x2), .val (.int x3), .unset, .unset] [] := by first | (simp [entryFrame, mkF, argsToLocals, Value.category, maxLocals]; done) | rfl
set_option maxRecDepth 65536 in
set_option maxHeartbeats 40000000 in
theorem c_ioc_1 (l : Launch) (Z : State) (a0 : Array Value) (hw : ∀ d ∈ tables_1, d.before a0 Z = true) (ws : List Jvm.Cond) (a d : Addr) (cz : Int32) (c0 : Int32) (h0 : Heap) (n0 : Nat) (Z0 : n0 ≤ h0.size) (Ea : Exa Z h0 a "java/lang/String") (Fv : Fld Z h0 a "java/lang/String" "value" "[B" (.ref d)) (Fc : Fld Z h0 a "java/lang/String" "coder" "B" (.int 0)) (D : Ars Z h0 d .byte [(.int c0.toInt8.toInt32)]) (O : Old Z n0 h0) (SC : Sta Z Z.heap "java/lang/String" "COMPACT_STRINGS" "Z" (.int cz)) (hcz : ¬ cz = 0) (P0 : (c0.toInt8.toInt32).toInt ≠ 58) :
    Ctr l Z (⟨"java/lang/StringLatin1", "indexOfChar", "([BIII)I"⟩ : MethodName) jdk_43_method_23_code 6 (some .int) ws ({ frames := 0, cells := 0, slots := 0, locals := 0 } : Room) #[(.ref d), (.int (58 : Int32)), (.int (0 : Int32)), (.int (1 : Int32))] h0 (fun v h L => v = some (.int (-1)) ∧ Fr n0 L ∧ h = h0) := by
  refine enter pn_24 ?_
  intro p e s m below meth c T0 X0 hx hby hml hret hlk hZ hown hnm e0
  have A0 := wk X0 hx hby
  have N0 := Fr.nil n0
  refine goIn (ef_c_ioc_1 m d (58 : Int32) (0 : Int32) (1 : Int32)) ?_
  show Go p e below m (Fini s 0 0 (fun v h L => v = some (.int (-1)) ∧ Fr n0 L ∧ h = h0)) T0 0 #[.val (.ref d), .val (.int (58 : Int32)), .val (.int (0 : Int32)), .val (.int (1 : Int32)), .unset, .unset] []
  refine s_iloadN A0 d24_0 (pc' := 1) rfl rfl ?_
  refine s_i2b A0 d24_1 (pc' := 2) rfl (v := (58 : Int32)) (by decide) ?_
  refine s_istore A0 d24_2 (pc' := 4) rfl (ls' := #[.val (.ref d), .val (.int (58 : Int32)), .val (.int (0 : Int32)), .val (.int (1 : Int32)), .val (.int (58 : Int32)), .unset]) rfl ?_
  refine s_iloadN A0 d24_4 (pc' := 5) rfl rfl ?_
  refine s_istore A0 d24_5 (pc' := 7) rfl (ls' := #[.val (.ref d), .val (.int (58 : Int32)), .val (.int (0 : Int32)), .val (.int (1 : Int32)), .val (.int (58 : Int32)), .val (.int (0 : Int32))]) rfl ?_
  refine s_iload A0 d24_7 (pc' := 9) rfl rfl ?_
  refine s_iloadN A0 d24_9 (pc' := 10) rfl rfl ?_
  refine s_icmpge A0 d24_10 (pY := 31) (pN := 13) (by decide) (by decide) rfl (fun c => absurd c (by decide)) (fun _ => ?_)
  refine s_aloadN A0 d24_13 (pc' := 14) rfl rfl rfl ?_
  refine s_iload A0 d24_14 (pc' := 16) rfl rfl ?_
  refine g_baload X0 hx hZ e0 D (by decide) (i := 0) (by decide) (v := (.int c0.toInt8.toInt32)) rfl (hb hby d24_16) (pc' := 17) rfl ?_
  refine s_iload A0 d24_17 (pc' := 19) rfl rfl ?_
  refine s_icmpne A0 d24_19 (pY := 25) (pN := 22) (by decide) (by decide) rfl ?_ ?_
  · intro c19
    replace c19 := i_ne c19
    rw [show (58 : Int32).toInt = 58 from by decide] at c19
    refine s_iinc A0 d24_25 (pc' := 28) rfl (v := (1 : Int32)) (ls' := #[.val (.ref d), .val (.int (58 : Int32)), .val (.int (0 : Int32)), .val (.int (1 : Int32)), .val (.int (58 : Int32)), .val (.int (1 : Int32))]) rfl (by decide) rfl ?_
    refine s_goto A0 d24_28 (pc' := 7) (by decide) (by decide) ?_
    refine s_iload A0 d24_7 (pc' := 9) rfl rfl ?_
    refine s_iloadN A0 d24_9 (pc' := 10) rfl rfl ?_
    refine s_icmpge A0 d24_10 (pY := 31) (pN := 13) (by decide) (by decide) rfl (fun _ => ?_) (fun c => absurd c (by decide))
    refine s_iconst A0 d24_31 (pc' := 32) rfl (v := (-1 : Int32)) (by decide) ?_
    exact g_retI X0 hx hlk hret (hb hby d24_32) ⟨rfl, N0, e0⟩ (by decide) (by decide)
  · intro c19
    replace c19 := i_eq c19
    rw [show (58 : Int32).toInt = 58 from by decide] at c19
    exact absurd c19 P0
theorem d20_0 : decode jdk_43_method_22_code 0 = .ok (.iload_n 1, 1) := by decide +kernel
theorem d20_1 : decode jdk_43_method_22_code 1 = .ok (.invokestatic 88, 3) := by decide +kernel
theorem d20_4 : decode jdk_43_method_22_code 4 = .ok (.ifCond .ne 5, 3) := by decide +kernel
theorem d20_7 : decode jdk_43_method_22_code 7 = .ok (.iconst (-1), 1) := by decide +kernel
theorem d20_8 : decode jdk_43_method_22_code 8 = .ok (.ireturn, 1) := by decide +kernel
theorem d20_9 : decode jdk_43_method_22_code 9 = .ok (.iload_n 2, 1) := by decide +kernel
theorem d20_10 : decode jdk_43_method_22_code 10 = .ok (.iconst 0, 1) := by decide +kernel
theorem d20_11 : decode jdk_43_method_22_code 11 = .ok (.invokestatic 92, 3) := by decide +kernel
theorem d20_14 : decode jdk_43_method_22_code 14 = .ok (.istore_n 2, 1) := by decide +kernel
theorem d20_15 : decode jdk_43_method_22_code 15 = .ok (.iload_n 3, 1) := by decide +kernel
theorem d20_16 : decode jdk_43_method_22_code 16 = .ok (.aload_n 0, 1) := by decide +kernel
theorem d20_17 : decode jdk_43_method_22_code 17 = .ok (.arraylength, 1) := by decide +kernel
theorem d20_18 : decode jdk_43_method_22_code 18 = .ok (.invokestatic 38, 3) := by decide +kernel
theorem d20_21 : decode jdk_43_method_22_code 21 = .ok (.istore_n 3, 1) := by decide +kernel
theorem d20_22 : decode jdk_43_method_22_code 22 = .ok (.iload_n 2, 1) := by decide +kernel
theorem d20_23 : decode jdk_43_method_22_code 23 = .ok (.iload_n 3, 1) := by decide +kernel
theorem d20_24 : decode jdk_43_method_22_code 24 = .ok (.if_icmp .lt 5, 3) := by decide +kernel
theorem d20_27 : decode jdk_43_method_22_code 27 = .ok (.iconst (-1), 1) := by decide +kernel
theorem d20_28 : decode jdk_43_method_22_code 28 = .ok (.ireturn, 1) := by decide +kernel
theorem d20_29 : decode jdk_43_method_22_code 29 = .ok (.aload_n 0, 1) := by decide +kernel
theorem d20_30 : decode jdk_43_method_22_code 30 = .ok (.iload_n 1, 1) := by decide +kernel
theorem d20_31 : decode jdk_43_method_22_code 31 = .ok (.iload_n 2, 1) := by decide +kernel
theorem d20_32 : decode jdk_43_method_22_code 32 = .ok (.iload_n 3, 1) := by decide +kernel
theorem d20_33 : decode jdk_43_method_22_code 33 = .ok (.invokestatic 95, 3) := by decide +kernel
theorem d20_36 : decode jdk_43_method_22_code 36 = .ok (.ireturn, 1) := by decide +kernel
theorem ef_c_iol_1 (m : MethodId) (x0 : Addr) (x1 : Int32) (x2 : Int32) (x3 : Int32) : entryFrame m #[(.ref x0), (.int x1), (.int x2), (.int x3)] 4 = mkF m 0 #[.val (.ref x0), .val (.int x1), .val (.int x2), .val (.int x3)] [] := by first | (simp [entryFrame, mkF, argsToLocals, Value.category, maxLocals]; done) | rfl
set_option maxRecDepth 65536 in
set_option maxHeartbeats 40000000 in
theorem c_iol_1 (l : Launch) (Z : State) (a0 : Array Value) (hw : ∀ d ∈ tables_1, d.before a0 Z = true) (ws : List Jvm.Cond) (a d : Addr) (cz : Int32) (c0 : Int32) (h0 : Heap) (n0 : Nat) (Z0 : n0 ≤ h0.size) (Ea : Exa Z h0 a "java/lang/String") (Fv : Fld Z h0 a "java/lang/String" "value" "[B" (.ref d)) (Fc : Fld Z h0 a "java/lang/String" "coder" "B" (.int 0)) (D : Ars Z h0 d .byte [(.int c0.toInt8.toInt32)]) (O : Old Z n0 h0) (SC : Sta Z Z.heap "java/lang/String" "COMPACT_STRINGS" "Z" (.int cz)) (hcz : ¬ cz = 0) (P0 : (c0.toInt8.toInt32).toInt ≠ 58) :
    Ctr l Z (⟨"java/lang/StringLatin1", "indexOf", "([BIII)I"⟩ : MethodName) jdk_43_method_22_code 4 (some .int) ws ({ frames := 1, cells := 0, slots := 0, locals := 17 } : Room) #[(.ref d), (.int (58 : Int32)), (.int (0 : Int32)), (.int (1 : Int32))] h0 (fun v h L => v = some (.int (-1)) ∧ Fr n0 L ∧ h = h0) := by
  refine enter pn_20 ?_
  intro p e s m below meth c T0 X0 hx hby hml hret hlk hZ hown hnm e0
  have A0 := wk X0 hx hby
  have N0 := Fr.nil n0
  refine goIn (ef_c_iol_1 m d (58 : Int32) (0 : Int32) (1 : Int32)) ?_
  show Go p e below m (Fini s 0 0 (fun v h L => v = some (.int (-1)) ∧ Fr n0 L ∧ h = h0)) T0 0 #[.val (.ref d), .val (.int (58 : Int32)), .val (.int (0 : Int32)), .val (.int (1 : Int32))] []
  refine s_iloadN A0 d20_0 (pc' := 1) rfl rfl ?_
  refine g_static X0 hx hZ (y := (⟨"java/lang/StringLatin1", "canEncode", "(I)Z"⟩ : MethodName)) hown (hw _ (List.mem_of_getElem? (i := 95) rfl)) (hw _ (List.mem_of_getElem? (i := 96) rfl)) (hw _ (List.mem_of_getElem? (i := 62) rfl)) (hw _ (List.mem_of_getElem? (i := 97) rfl)) (by decide) (argsL := [(.int (58 : Int32))]) (rest := []) (c_can l Z a0 hw [] h0 n0 Z0) pd_10 rfl rfl (hb hby d20_1) e0 (by rw [hml]; rfl) (pc' := 4) rfl (by decide) (W := 0) (Nat.le_of_eq rfl) (by decide) (by decide) (by decide) ?_
  intro v1 T1 L1 X1 hQ1
  have A1 := wk X1 hx hby
  have e1 : T1.heap = T1.heap := rfl
  obtain ⟨rfl, N1, hh1⟩ := hQ1
  have e1 : T1.heap = h0 := hh1
  have fr1 := Fr.app N0 N1
  show Go p e below m (Fini s 0 0 (fun v h L => v = some (.int (-1)) ∧ Fr n0 L ∧ h = h0)) T1 4 #[.val (.ref d), .val (.int (58 : Int32)), .val (.int (0 : Int32)), .val (.int (1 : Int32))] [(.int (1 : Int32))]
  refine s_ifne A1 d20_4 (pY := 9) (pN := 7) (by decide) (by decide) rfl (fun _ => ?_) (fun c => absurd c (by decide))
  refine s_iloadN A1 d20_9 (pc' := 10) rfl rfl ?_
  refine s_iconst A1 d20_10 (pc' := 11) rfl (v := (0 : Int32)) (by decide) ?_
  refine g_static X1 hx hZ (y := (⟨"java/lang/Math", "max", "(II)I"⟩ : MethodName)) hown (hw _ (List.mem_of_getElem? (i := 98) rfl)) (hw _ (List.mem_of_getElem? (i := 99) rfl)) (hw _ (List.mem_of_getElem? (i := 100) rfl)) (hw _ (List.mem_of_getElem? (i := 101) rfl)) (by decide) (argsL := [(.int (0 : Int32)), (.int (0 : Int32))]) (rest := []) (c_max00 l Z a0 hw [] h0 n0 Z0) pd_11 rfl rfl (hb hby d20_11) e1 (by rw [hml]; rfl) (pc' := 14) rfl (by decide) (W := 0) (Nat.le_of_eq rfl) (by decide) (by decide) (by decide) ?_
  intro v2 T2 L2 X2 hQ2
  have A2 := wk X2 hx hby
  have e2 : T2.heap = T2.heap := rfl
  obtain ⟨rfl, N2, hh2⟩ := hQ2
  have e2 : T2.heap = h0 := hh2
  have fr2 := Fr.app fr1 N2
  show Go p e below m (Fini s 0 0 (fun v h L => v = some (.int (-1)) ∧ Fr n0 L ∧ h = h0)) T2 14 #[.val (.ref d), .val (.int (58 : Int32)), .val (.int (0 : Int32)), .val (.int (1 : Int32))] [(.int (0 : Int32))]
  refine s_istoreN A2 d20_14 (pc' := 15) rfl (ls' := #[.val (.ref d), .val (.int (58 : Int32)), .val (.int (0 : Int32)), .val (.int (1 : Int32))]) rfl ?_
  refine s_iloadN A2 d20_15 (pc' := 16) rfl rfl ?_
  refine s_aloadN A2 d20_16 (pc' := 17) rfl rfl rfl ?_
  refine g_len X2 hx hZ e2 D (n := (1 : Int32)) rfl (hb hby d20_17) (pc' := 18) rfl ?_
  refine g_static X2 hx hZ (y := (⟨"java/lang/Math", "min", "(II)I"⟩ : MethodName)) hown (hw _ (List.mem_of_getElem? (i := 102) rfl)) (hw _ (List.mem_of_getElem? (i := 103) rfl)) (hw _ (List.mem_of_getElem? (i := 100) rfl)) (hw _ (List.mem_of_getElem? (i := 104) rfl)) (by decide) (argsL := [(.int (1 : Int32)), (.int (1 : Int32))]) (rest := []) (c_min_1 l Z a0 hw [] h0 n0 Z0) pd_11 rfl rfl (hb hby d20_18) e2 (by rw [hml]; rfl) (pc' := 21) rfl (by decide) (W := 0) (Nat.le_of_eq rfl) (by decide) (by decide) (by decide) ?_
  intro v3 T3 L3 X3 hQ3
  have A3 := wk X3 hx hby
  have e3 : T3.heap = T3.heap := rfl
  obtain ⟨rfl, N3, hh3⟩ := hQ3
  have e3 : T3.heap = h0 := hh3
  have fr3 := Fr.app fr2 N3
  show Go p e below m (Fini s 0 0 (fun v h L => v = some (.int (-1)) ∧ Fr n0 L ∧ h = h0)) T3 21 #[.val (.ref d), .val (.int (58 : Int32)), .val (.int (0 : Int32)), .val (.int (1 : Int32))] [(.int (1 : Int32))]
  refine s_istoreN A3 d20_21 (pc' := 22) rfl (ls' := #[.val (.ref d), .val (.int (58 : Int32)), .val (.int (0 : Int32)), .val (.int (1 : Int32))]) rfl ?_
  refine s_iloadN A3 d20_22 (pc' := 23) rfl rfl ?_
  refine s_iloadN A3 d20_23 (pc' := 24) rfl rfl ?_
  refine s_icmplt A3 d20_24 (pY := 29) (pN := 27) (by decide) (by decide) rfl (fun _ => ?_) (fun c => absurd c (by decide))
  refine s_aloadN A3 d20_29 (pc' := 30) rfl rfl rfl ?_
  refine s_iloadN A3 d20_30 (pc' := 31) rfl rfl ?_
  refine s_iloadN A3 d20_31 (pc' := 32) rfl rfl ?_
  refine s_iloadN A3 d20_32 (pc' := 33) rfl rfl ?_
  refine g_static X3 hx hZ (y := (⟨"java/lang/StringLatin1", "indexOfChar", "([BIII)I"⟩ : MethodName)) hown (hw _ (List.mem_of_getElem? (i := 105) rfl)) (hw _ (List.mem_of_getElem? (i := 106) rfl)) (hw _ (List.mem_of_getElem? (i := 62) rfl)) (hw _ (List.mem_of_getElem? (i := 107) rfl)) (by decide) (argsL := [(.ref d), (.int (58 : Int32)), (.int (0 : Int32)), (.int (1 : Int32))]) (rest := []) (c_ioc_1 l Z a0 hw [] a d cz c0 h0 n0 Z0 Ea Fv Fc D O SC hcz P0) pd_12 rfl rfl (hb hby d20_33) e3 (by rw [hml]; rfl) (pc' := 36) rfl (by decide) (W := 0) (Nat.le_of_eq rfl) (by decide) (by decide) (by decide) ?_
  intro v4 T4 L4 X4 hQ4
  have A4 := wk X4 hx hby
  have e4 : T4.heap = T4.heap := rfl
  obtain ⟨rfl, N4, hh4⟩ := hQ4
  have e4 : T4.heap = h0 := hh4
  have fr4 := Fr.app fr3 N4
  show Go p e below m (Fini s 0 0 (fun v h L => v = some (.int (-1)) ∧ Fr n0 L ∧ h = h0)) T4 36 #[.val (.ref d), .val (.int (58 : Int32)), .val (.int (0 : Int32)), .val (.int (1 : Int32))] [(.int (-1 : Int32))]
  exact g_retI X4 hx hlk hret (hb hby d20_36) ⟨rfl, fr4, e4⟩ (by decide) (by decide)
theorem d17_0 : decode jdk_42_method_80_code 0 = .ok (.aload_n 0, 1) := by decide +kernel
theorem d17_1 : decode jdk_42_method_80_code 1 = .ok (.invokevirtual 492, 3) := by decide +kernel
theorem d17_4 : decode jdk_42_method_80_code 4 = .ok (.ifCond .eq 19, 3) := by decide +kernel
theorem d17_7 : decode jdk_42_method_80_code 7 = .ok (.aload_n 0, 1) := by decide +kernel
theorem d17_8 : decode jdk_42_method_80_code 8 = .ok (.getfield 9, 3) := by decide +kernel
theorem d17_11 : decode jdk_42_method_80_code 11 = .ok (.iload_n 1, 1) := by decide +kernel
theorem d17_12 : decode jdk_42_method_80_code 12 = .ok (.iload_n 2, 1) := by decide +kernel
theorem d17_13 : decode jdk_42_method_80_code 13 = .ok (.aload_n 0, 1) := by decide +kernel
theorem d17_14 : decode jdk_42_method_80_code 14 = .ok (.invokevirtual 505, 3) := by decide +kernel
theorem d17_17 : decode jdk_42_method_80_code 17 = .ok (.invokestatic 637, 3) := by decide +kernel
theorem d17_20 : decode jdk_42_method_80_code 20 = .ok (.goto 16, 3) := by decide +kernel
theorem d17_23 : decode jdk_42_method_80_code 23 = .ok (.aload_n 0, 1) := by decide +kernel
theorem d17_24 : decode jdk_42_method_80_code 24 = .ok (.getfield 9, 3) := by decide +kernel
theorem d17_27 : decode jdk_42_method_80_code 27 = .ok (.iload_n 1, 1) := by decide +kernel
theorem d17_28 : decode jdk_42_method_80_code 28 = .ok (.iload_n 2, 1) := by decide +kernel
theorem d17_29 : decode jdk_42_method_80_code 29 = .ok (.aload_n 0, 1) := by decide +kernel
theorem d17_30 : decode jdk_42_method_80_code 30 = .ok (.invokevirtual 505, 3) := by decide +kernel
theorem d17_33 : decode jdk_42_method_80_code 33 = .ok (.invokestatic 640, 3) := by decide +kernel
theorem d17_36 : decode jdk_42_method_80_code 36 = .ok (.ireturn, 1) := by decide +kernel
theorem ef_c_io2_1 (m : MethodId) (x0 : Addr) (x1 : Int32) (x2 : Int32) : entryFrame m #[(.ref x0), (.int x1), (.int x2)] 3 = mkF m 0 #[.val (.ref x0), .val (.int x1), .val (.int x2)] [] := by first | (simp [entryFrame, mkF, argsToLocals, Value.category, maxLocals]; done) | rfl
set_option maxRecDepth 65536 in
set_option maxHeartbeats 40000000 in
theorem c_io2_1 (l : Launch) (Z : State) (a0 : Array Value) (hw : ∀ d ∈ tables_1, d.before a0 Z = true) (ws : List Jvm.Cond) (a d : Addr) (cz : Int32) (c0 : Int32) (h0 : Heap) (n0 : Nat) (Z0 : n0 ≤ h0.size) (Ea : Exa Z h0 a "java/lang/String") (Fv : Fld Z h0 a "java/lang/String" "value" "[B" (.ref d)) (Fc : Fld Z h0 a "java/lang/String" "coder" "B" (.int 0)) (D : Ars Z h0 d .byte [(.int c0.toInt8.toInt32)]) (O : Old Z n0 h0) (SC : Sta Z Z.heap "java/lang/String" "COMPACT_STRINGS" "Z" (.int cz)) (hcz : ¬ cz = 0) (P0 : (c0.toInt8.toInt32).toInt ≠ 58) :
    Ctr l Z (⟨"java/lang/String", "indexOf", "(II)I"⟩ : MethodName) jdk_42_method_80_code 3 (some .int) ws ({ frames := 2, cells := 0, slots := 0, locals := 32 } : Room) #[(.ref a), (.int (58 : Int32)), (.int (0 : Int32))] h0 (fun v h L => v = some (.int (-1)) ∧ Fr n0 L ∧ h = h0) := by
  refine enter pn_17 ?_
  intro p e s m below meth c T0 X0 hx hby hml hret hlk hZ hown hnm e0
  have A0 := wk X0 hx hby
  have N0 := Fr.nil n0
  refine goIn (ef_c_io2_1 m a (58 : Int32) (0 : Int32)) ?_
  show Go p e below m (Fini s 0 0 (fun v h L => v = some (.int (-1)) ∧ Fr n0 L ∧ h = h0)) T0 0 #[.val (.ref a), .val (.int (58 : Int32)), .val (.int (0 : Int32))] []
  refine s_aloadN A0 d17_0 (pc' := 1) rfl rfl rfl ?_
  refine g_virtual X0 hx hZ (y := (⟨"java/lang/String", "isLatin1", "()Z"⟩ : MethodName)) hown (hw _ (List.mem_of_getElem? (i := 55) rfl)) (hw _ (List.mem_of_getElem? (i := 56) rfl)) (hw _ (List.mem_of_getElem? (i := 58) rfl)) (hw _ (List.mem_of_getElem? (i := 57) rfl)) (hw _ (List.mem_of_getElem? (i := 7) rfl)) (hw _ (List.mem_of_getElem? (i := 59) rfl)) (by decide) Ea (argsL := []) (rest := []) (c_lat l Z a0 hw [] a cz h0 n0 Z0 Ea Fc O SC hcz) pd_8 rfl rfl (hb hby d17_1) e0 (by rw [hml]; rfl) (pc' := 4) rfl (by decide) (W := 0) (Nat.le_of_eq rfl) (by decide) (by decide) (by decide) ?_
  intro v1 T1 L1 X1 hQ1
  have A1 := wk X1 hx hby
  have e1 : T1.heap = T1.heap := rfl
  obtain ⟨rfl, N1, hh1⟩ := hQ1
  have e1 : T1.heap = h0 := hh1
  have fr1 := Fr.app N0 N1
  show Go p e below m (Fini s 0 0 (fun v h L => v = some (.int (-1)) ∧ Fr n0 L ∧ h = h0)) T1 4 #[.val (.ref a), .val (.int (58 : Int32)), .val (.int (0 : Int32))] [(.int (1 : Int32))]
  refine s_ifeq A1 d17_4 (pY := 23) (pN := 7) (by decide) (by decide) rfl (fun c => absurd c (by decide)) (fun _ => ?_)
  refine s_aloadN A1 d17_7 (pc' := 8) rfl rfl rfl ?_
  refine g_getF X1 hx hZ hown (hw _ (List.mem_of_getElem? (i := 25) rfl)) Via.refl e1 Fv (hb hby d17_8) (pc' := 11) rfl ?_
  intro T2 X2 e2
  have A2 := wk X2 hx hby
  refine s_iloadN A2 d17_11 (pc' := 12) rfl rfl ?_
  refine s_iloadN A2 d17_12 (pc' := 13) rfl rfl ?_
  refine s_aloadN A2 d17_13 (pc' := 14) rfl rfl rfl ?_
  refine g_virtual X2 hx hZ (y := (⟨"java/lang/String", "length", "()I"⟩ : MethodName)) hown (hw _ (List.mem_of_getElem? (i := 82) rfl)) (hw _ (List.mem_of_getElem? (i := 83) rfl)) (hw _ (List.mem_of_getElem? (i := 85) rfl)) (hw _ (List.mem_of_getElem? (i := 84) rfl)) (hw _ (List.mem_of_getElem? (i := 7) rfl)) (hw _ (List.mem_of_getElem? (i := 86) rfl)) (by decide) Ea (argsL := []) (rest := [(.int (0 : Int32)), (.int (58 : Int32)), (.ref d)]) (c_len_1 l Z a0 hw [] a d cz c0 h0 n0 Z0 Ea Fv Fc D O SC hcz) pd_13 rfl rfl (hb hby d17_14) e2 (by rw [hml]; rfl) (pc' := 17) rfl (by decide) (W := 3) (Nat.le_of_eq rfl) (by decide) (by decide) (by decide) ?_
  intro v3 T3 L3 X3 hQ3
  have A3 := wk X3 hx hby
  have e3 : T3.heap = T3.heap := rfl
  obtain ⟨rfl, N3, hh3⟩ := hQ3
  have e3 : T3.heap = h0 := hh3
  have fr3 := Fr.app fr1 N3
  show Go p e below m (Fini s 0 0 (fun v h L => v = some (.int (-1)) ∧ Fr n0 L ∧ h = h0)) T3 17 #[.val (.ref a), .val (.int (58 : Int32)), .val (.int (0 : Int32))] [(.int (1 : Int32)), (.int (0 : Int32)), (.int (58 : Int32)), (.ref d)]
  refine g_static X3 hx hZ (y := (⟨"java/lang/StringLatin1", "indexOf", "([BIII)I"⟩ : MethodName)) hown (hw _ (List.mem_of_getElem? (i := 92) rfl)) (hw _ (List.mem_of_getElem? (i := 93) rfl)) (hw _ (List.mem_of_getElem? (i := 62) rfl)) (hw _ (List.mem_of_getElem? (i := 94) rfl)) (by decide) (argsL := [(.ref d), (.int (58 : Int32)), (.int (0 : Int32)), (.int (1 : Int32))]) (rest := []) (c_iol_1 l Z a0 hw [] a d cz c0 h0 n0 Z0 Ea Fv Fc D O SC hcz P0) pd_12 rfl rfl (hb hby d17_17) e3 (by rw [hml]; rfl) (pc' := 20) rfl (by decide) (W := 0) (Nat.le_of_eq rfl) (by decide) (by decide) (by decide) ?_
  intro v4 T4 L4 X4 hQ4
  have A4 := wk X4 hx hby
  have e4 : T4.heap = T4.heap := rfl
  obtain ⟨rfl, N4, hh4⟩ := hQ4
  have e4 : T4.heap = h0 := hh4
  have fr4 := Fr.app fr3 N4
  show Go p e below m (Fini s 0 0 (fun v h L => v = some (.int (-1)) ∧ Fr n0 L ∧ h = h0)) T4 20 #[.val (.ref a), .val (.int (58 : Int32)), .val (.int (0 : Int32))] [(.int (-1 : Int32))]
  refine s_goto A4 d17_20 (pc' := 36) (by decide) (by decide) ?_
  exact g_retI X4 hx hlk hret (hb hby d17_36) ⟨rfl, fr4, e4⟩ (by decide) (by decide)
theorem d16_0 : decode jdk_42_method_79_code 0 = .ok (.aload_n 0, 1) := by decide +kernel
theorem d16_1 : decode jdk_42_method_79_code 1 = .ok (.iload_n 1, 1) := by decide +kernel
theorem d16_2 : decode jdk_42_method_79_code 2 = .ok (.iconst 0, 1) := by decide +kernel
theorem d16_3 : decode jdk_42_method_79_code 3 = .ok (.invokevirtual 633, 3) := by decide +kernel
theorem d16_6 : decode jdk_42_method_79_code 6 = .ok (.ireturn, 1) := by decide +kernel
theorem ef_c_io1_1 (m : MethodId) (x0 : Addr) (x1 : Int32) : entryFrame m #[(.ref x0), (.int x1)] 2 = mkF m 0 #[.val (.ref x0), .val (.int x1)] [] := by first | (simp [entryFrame, mkF, argsToLocals, Value.category, maxLocals]; done) | rfl
set_option maxRecDepth 65536 in
set_option maxHeartbeats 40000000 in
theorem c_io1_1 (l : Launch) (Z : State) (a0 : Array Value) (hw : ∀ d ∈ tables_1, d.before a0 Z = true) (ws : List Jvm.Cond) (a d : Addr) (cz : Int32) (c0 : Int32) (h0 : Heap) (n0 : Nat) (Z0 : n0 ≤ h0.size) (Ea : Exa Z h0 a "java/lang/String") (Fv : Fld Z h0 a "java/lang/String" "value" "[B" (.ref d)) (Fc : Fld Z h0 a "java/lang/String" "coder" "B" (.int 0)) (D : Ars Z h0 d .byte [(.int c0.toInt8.toInt32)]) (O : Old Z n0 h0) (SC : Sta Z Z.heap "java/lang/String" "COMPACT_STRINGS" "Z" (.int cz)) (hcz : ¬ cz = 0) (P0 : (c0.toInt8.toInt32).toInt ≠ 58) :
    Ctr l Z (⟨"java/lang/String", "indexOf", "(I)I"⟩ : MethodName) jdk_42_method_79_code 2 (some .int) ws ({ frames := 3, cells := 0, slots := 0, locals := 46 } : Room) #[(.ref a), (.int (58 : Int32))] h0 (fun v h L => v = some (.int (-1)) ∧ Fr n0 L ∧ h = h0) := by
  refine enter pn_16 ?_
  intro p e s m below meth c T0 X0 hx hby hml hret hlk hZ hown hnm e0
  have A0 := wk X0 hx hby
  have N0 := Fr.nil n0
  refine goIn (ef_c_io1_1 m a (58 : Int32)) ?_
  show Go p e below m (Fini s 0 0 (fun v h L => v = some (.int (-1)) ∧ Fr n0 L ∧ h = h0)) T0 0 #[.val (.ref a), .val (.int (58 : Int32))] []
  refine s_aloadN A0 d16_0 (pc' := 1) rfl rfl rfl ?_
  refine s_iloadN A0 d16_1 (pc' := 2) rfl rfl ?_
  refine s_iconst A0 d16_2 (pc' := 3) rfl (v := (0 : Int32)) (by decide) ?_
  refine g_virtual X0 hx hZ (y := (⟨"java/lang/String", "indexOf", "(II)I"⟩ : MethodName)) hown (hw _ (List.mem_of_getElem? (i := 77) rfl)) (hw _ (List.mem_of_getElem? (i := 78) rfl)) (hw _ (List.mem_of_getElem? (i := 80) rfl)) (hw _ (List.mem_of_getElem? (i := 79) rfl)) (hw _ (List.mem_of_getElem? (i := 7) rfl)) (hw _ (List.mem_of_getElem? (i := 81) rfl)) (by decide) Ea (argsL := [(.int (58 : Int32)), (.int (0 : Int32))]) (rest := []) (c_io2_1 l Z a0 hw [] a d cz c0 h0 n0 Z0 Ea Fv Fc D O SC hcz P0) pd_11 rfl rfl (hb hby d16_3) e0 (by rw [hml]; rfl) (pc' := 6) rfl (by decide) (W := 0) (Nat.le_of_eq rfl) (by decide) (by decide) (by decide) ?_
  intro v1 T1 L1 X1 hQ1
  have A1 := wk X1 hx hby
  have e1 : T1.heap = T1.heap := rfl
  obtain ⟨rfl, N1, hh1⟩ := hQ1
  have e1 : T1.heap = h0 := hh1
  have fr1 := Fr.app N0 N1
  show Go p e below m (Fini s 0 0 (fun v h L => v = some (.int (-1)) ∧ Fr n0 L ∧ h = h0)) T1 6 #[.val (.ref a), .val (.int (58 : Int32))] [(.int (-1 : Int32))]
  exact g_retI X1 hx hlk hret (hb hby d16_6) ⟨rfl, fr1, e1⟩ (by decide) (by decide)
theorem d9_0 : decode prog_20_method_3_code 0 = .ok (.aload_n 0, 1) := by decide +kernel
theorem d9_1 : decode prog_20_method_3_code 1 = .ok (.invokevirtual 23, 3) := by decide +kernel
theorem d9_4 : decode prog_20_method_3_code 4 = .ok (.ifCond .eq 13, 3) := by decide +kernel
theorem d9_7 : decode prog_20_method_3_code 7 = .ok (.new 29, 3) := by decide +kernel
theorem d9_10 : decode prog_20_method_3_code 10 = .ok (.dup, 1) := by decide +kernel
theorem d9_11 : decode prog_20_method_3_code 11 = .ok (.ldc 67, 2) := by decide +kernel
theorem d9_13 : decode prog_20_method_3_code 13 = .ok (.invokespecial 33, 3) := by decide +kernel
theorem d9_16 : decode prog_20_method_3_code 16 = .ok (.athrow, 1) := by decide +kernel
theorem d9_17 : decode prog_20_method_3_code 17 = .ok (.aload_n 0, 1) := by decide +kernel
theorem d9_18 : decode prog_20_method_3_code 18 = .ok (.iconst 0, 1) := by decide +kernel
theorem d9_19 : decode prog_20_method_3_code 19 = .ok (.invokevirtual 69, 3) := by decide +kernel
theorem d9_22 : decode prog_20_method_3_code 22 = .ok (.bipush 95, 2) := by decide +kernel
theorem d9_24 : decode prog_20_method_3_code 24 = .ok (.if_icmp .ne 13, 3) := by decide +kernel
theorem d9_27 : decode prog_20_method_3_code 27 = .ok (.new 29, 3) := by decide +kernel
theorem d9_30 : decode prog_20_method_3_code 30 = .ok (.dup, 1) := by decide +kernel
theorem d9_31 : decode prog_20_method_3_code 31 = .ok (.ldc 73, 2) := by decide +kernel
theorem d9_33 : decode prog_20_method_3_code 33 = .ok (.invokespecial 33, 3) := by decide +kernel
theorem d9_36 : decode prog_20_method_3_code 36 = .ok (.athrow, 1) := by decide +kernel
theorem d9_37 : decode prog_20_method_3_code 37 = .ok (.aload_n 0, 1) := by decide +kernel
theorem d9_38 : decode prog_20_method_3_code 38 = .ok (.bipush 58, 2) := by decide +kernel
theorem d9_40 : decode prog_20_method_3_code 40 = .ok (.invokevirtual 75, 3) := by decide +kernel
theorem d9_43 : decode prog_20_method_3_code 43 = .ok (.ifCond .lt 13, 3) := by decide +kernel
theorem d9_46 : decode prog_20_method_3_code 46 = .ok (.new 29, 3) := by decide +kernel
theorem d9_49 : decode prog_20_method_3_code 49 = .ok (.dup, 1) := by decide +kernel
theorem d9_50 : decode prog_20_method_3_code 50 = .ok (.ldc 79, 2) := by decide +kernel
theorem d9_52 : decode prog_20_method_3_code 52 = .ok (.invokespecial 33, 3) := by decide +kernel
theorem d9_55 : decode prog_20_method_3_code 55 = .ok (.athrow, 1) := by decide +kernel
theorem d9_56 : decode prog_20_method_3_code 56 = .ok (.aload_n 0, 1) := by decide +kernel
theorem d9_57 : decode prog_20_method_3_code 57 = .ok (.areturn, 1) := by decide +kernel
theorem ef_c_pk_1 (m : MethodId) (x0 : Addr) : entryFrame m #[(.ref x0)] 1 = mkF m 0 #[.val (.ref x0)] [] := by first | (simp [entryFrame, mkF, argsToLocals, Value.category, maxLocals]; done) | rfl
set_option maxRecDepth 65536 in
set_option maxHeartbeats 40000000 in
theorem c_pk_1 (l : Launch) (Z : State) (a0 : Array Value) (hw : ∀ d ∈ tables_1, d.before a0 Z = true) (ws : List Jvm.Cond) (a d : Addr) (cz : Int32) (c0 : Int32) (fv : Value) (h0 : Heap) (n0 : Nat) (Z0 : n0 ≤ h0.size) (Ea : Exa Z h0 a "java/lang/String") (Fv : Fld Z h0 a "java/lang/String" "value" "[B" (.ref d)) (Fc : Fld Z h0 a "java/lang/String" "coder" "B" (.int 0)) (D : Ars Z h0 d .byte [(.int c0.toInt8.toInt32)]) (O : Old Z n0 h0) (SC : Sta Z Z.heap "java/lang/String" "COMPACT_STRINGS" "Z" (.int cz)) (hcz : ¬ cz = 0) (SF : Sta Z Z.heap "jdk/internal/util/Preconditions" "SIOOBE_FORMATTER" "Ljava/util/function/BiFunction;" fv) (hfv : fv = .null ∨ ∃ f, fv = .ref f) (C0 : 0 ≤ c0.toInt ∧ c0.toInt ≤ 255) (P0 : (c0.toInt8.toInt32).toInt ≠ 58) (H95 : c0.toInt ≠ 95) :
    Ctr l Z (⟨"com/example/divvy/divvy/document/DocumentId", "partitionKey", "(Ljava/lang/String;)Ljava/lang/String;"⟩ : MethodName) prog_20_method_3_code 1 (some (.object "java/lang/String")) ws ({ frames := 4, cells := 0, slots := 0, locals := 59 } : Room) #[(.ref a)] h0 (fun v h L => v = some (.ref a) ∧ Fr n0 L ∧ h = h0) := by
  refine enter pn_9 ?_
  intro p e s m below meth c T0 X0 hx hby hml hret hlk hZ hown hnm e0
  have A0 := wk X0 hx hby
  have N0 := Fr.nil n0
  refine goIn (ef_c_pk_1 m a) ?_
  show Go p e below m (Fini s 0 0 (fun v h L => v = some (.ref a) ∧ Fr n0 L ∧ h = h0)) T0 0 #[.val (.ref a)] []
  refine s_aloadN A0 d9_0 (pc' := 1) rfl rfl rfl ?_
  refine g_virtual X0 hx hZ (y := (⟨"java/lang/String", "isEmpty", "()Z"⟩ : MethodName)) hown (hw _ (List.mem_of_getElem? (i := 45) rfl)) (hw _ (List.mem_of_getElem? (i := 46) rfl)) (hw _ (List.mem_of_getElem? (i := 48) rfl)) (hw _ (List.mem_of_getElem? (i := 47) rfl)) (hw _ (List.mem_of_getElem? (i := 7) rfl)) (hw _ (List.mem_of_getElem? (i := 49) rfl)) (by decide) Ea (argsL := []) (rest := []) (c_ise_1 l Z a0 hw [] a d cz c0 h0 n0 Z0 Ea Fv Fc D O SC hcz) pd_8 rfl rfl (hb hby d9_1) e0 (by rw [hml]; rfl) (pc' := 4) rfl (by decide) (W := 0) (Nat.le_of_eq rfl) (by decide) (by decide) (by decide) ?_
  intro v1 T1 L1 X1 hQ1
  have A1 := wk X1 hx hby
  have e1 : T1.heap = T1.heap := rfl
  obtain ⟨rfl, N1, hh1⟩ := hQ1
  have e1 : T1.heap = h0 := hh1
  have fr1 := Fr.app N0 N1
  show Go p e below m (Fini s 0 0 (fun v h L => v = some (.ref a) ∧ Fr n0 L ∧ h = h0)) T1 4 #[.val (.ref a)] [(.int (0 : Int32))]
  refine s_ifeq A1 d9_4 (pY := 17) (pN := 7) (by decide) (by decide) rfl (fun _ => ?_) (fun c => absurd c (by decide))
  refine s_aloadN A1 d9_17 (pc' := 18) rfl rfl rfl ?_
  refine s_iconst A1 d9_18 (pc' := 19) rfl (v := (0 : Int32)) (by decide) ?_
  refine g_virtual X1 hx hZ (y := (⟨"java/lang/String", "charAt", "(I)C"⟩ : MethodName)) hown (hw _ (List.mem_of_getElem? (i := 50) rfl)) (hw _ (List.mem_of_getElem? (i := 51) rfl)) (hw _ (List.mem_of_getElem? (i := 53) rfl)) (hw _ (List.mem_of_getElem? (i := 52) rfl)) (hw _ (List.mem_of_getElem? (i := 7) rfl)) (hw _ (List.mem_of_getElem? (i := 54) rfl)) (by decide) Ea (argsL := [(.int (0 : Int32))]) (rest := []) (c_cha_0_1 l Z a0 hw [] a d cz c0 fv h0 n0 Z0 Ea Fv Fc D O SC hcz SF hfv C0) pd_14 rfl rfl (hb hby d9_19) e1 (by rw [hml]; rfl) (pc' := 22) rfl (by decide) (W := 0) (Nat.le_of_eq rfl) (by decide) (by decide) (by decide) ?_
  intro v2 T2 L2 X2 hQ2
  have A2 := wk X2 hx hby
  have e2 : T2.heap = T2.heap := rfl
  obtain ⟨rfl, N2, hh2⟩ := hQ2
  have e2 : T2.heap = h0 := hh2
  have fr2 := Fr.app fr1 N2
  show Go p e below m (Fini s 0 0 (fun v h L => v = some (.ref a) ∧ Fr n0 L ∧ h = h0)) T2 22 #[.val (.ref a)] [(.int c0)]
  refine s_bipush A2 d9_22 (pc' := 24) rfl (v := (95 : Int32)) (by decide) ?_
  refine s_icmpne A2 d9_24 (pY := 37) (pN := 27) (by decide) (by decide) rfl ?_ ?_
  · intro c24
    replace c24 := i_ne c24
    rw [show (95 : Int32).toInt = 95 from by decide] at c24
    refine s_aloadN A2 d9_37 (pc' := 38) rfl rfl rfl ?_
    refine s_bipush A2 d9_38 (pc' := 40) rfl (v := (58 : Int32)) (by decide) ?_
    refine g_virtual X2 hx hZ (y := (⟨"java/lang/String", "indexOf", "(I)I"⟩ : MethodName)) hown (hw _ (List.mem_of_getElem? (i := 72) rfl)) (hw _ (List.mem_of_getElem? (i := 73) rfl)) (hw _ (List.mem_of_getElem? (i := 75) rfl)) (hw _ (List.mem_of_getElem? (i := 74) rfl)) (hw _ (List.mem_of_getElem? (i := 7) rfl)) (hw _ (List.mem_of_getElem? (i := 76) rfl)) (by decide) Ea (argsL := [(.int (58 : Int32))]) (rest := []) (c_io1_1 l Z a0 hw [] a d cz c0 h0 n0 Z0 Ea Fv Fc D O SC hcz P0) pd_15 rfl rfl (hb hby d9_40) e2 (by rw [hml]; rfl) (pc' := 43) rfl (by decide) (W := 0) (Nat.le_of_eq rfl) (by decide) (by decide) (by decide) ?_
    intro v3 T3 L3 X3 hQ3
    have A3 := wk X3 hx hby
    have e3 : T3.heap = T3.heap := rfl
    obtain ⟨rfl, N3, hh3⟩ := hQ3
    have e3 : T3.heap = h0 := hh3
    have fr3 := Fr.app fr2 N3
    show Go p e below m (Fini s 0 0 (fun v h L => v = some (.ref a) ∧ Fr n0 L ∧ h = h0)) T3 43 #[.val (.ref a)] [(.int (-1 : Int32))]
    refine s_iflt A3 d9_43 (pY := 56) (pN := 46) (by decide) (by decide) rfl (fun _ => ?_) (fun c => absurd c (by decide))
    refine s_aloadN A3 d9_56 (pc' := 57) rfl rfl rfl ?_
    exact g_retA X3 hx hlk hret rfl rfl rfl (hb hby d9_57) ⟨rfl, fr3, e3⟩ (by decide) (by decide)
  · intro c24
    replace c24 := i_eq c24
    rw [show (95 : Int32).toInt = 95 from by decide] at c24
    exact absurd c24 H95
theorem ef_c_ise_2 (m : MethodId) (x0 : Addr) : entryFrame m #[(.ref x0)] 1 = mkF m 0 #[.val (.ref x0)] [] := by first | (simp [entryFrame, mkF, argsToLocals, Value.category, maxLocals]; done) | rfl
set_option maxRecDepth 65536 in
set_option maxHeartbeats 40000000 in
theorem c_ise_2 (l : Launch) (Z : State) (a0 : Array Value) (hw : ∀ d ∈ tables_1, d.before a0 Z = true) (ws : List Jvm.Cond) (a d : Addr) (cz : Int32) (c0 c1 : Int32) (h0 : Heap) (n0 : Nat) (Z0 : n0 ≤ h0.size) (Ea : Exa Z h0 a "java/lang/String") (Fv : Fld Z h0 a "java/lang/String" "value" "[B" (.ref d)) (Fc : Fld Z h0 a "java/lang/String" "coder" "B" (.int 0)) (D : Ars Z h0 d .byte [(.int c0.toInt8.toInt32), (.int c1.toInt8.toInt32)]) (O : Old Z n0 h0) (SC : Sta Z Z.heap "java/lang/String" "COMPACT_STRINGS" "Z" (.int cz)) (hcz : ¬ cz = 0) :
    Ctr l Z (⟨"java/lang/String", "isEmpty", "()Z"⟩ : MethodName) jdk_42_method_55_code 1 (some .boolean) ws ({ frames := 0, cells := 0, slots := 0, locals := 0 } : Room) #[(.ref a)] h0 (fun v h L => v = some (.int 0) ∧ Fr n0 L ∧ h = h0) := by
  refine enter pn_10 ?_
  intro p e s m below meth c T0 X0 hx hby hml hret hlk hZ hown hnm e0
  have A0 := wk X0 hx hby
  have N0 := Fr.nil n0
  refine goIn (ef_c_ise_2 m a) ?_
  show Go p e below m (Fini s 0 0 (fun v h L => v = some (.int 0) ∧ Fr n0 L ∧ h = h0)) T0 0 #[.val (.ref a)] []
  refine s_aloadN A0 d10_0 (pc' := 1) rfl rfl rfl ?_
  refine g_getF X0 hx hZ hown (hw _ (List.mem_of_getElem? (i := 25) rfl)) Via.refl e0 Fv (hb hby d10_1) (pc' := 4) rfl ?_
  intro T1 X1 e1
  have A1 := wk X1 hx hby
  refine g_len X1 hx hZ e1 D (n := (2 : Int32)) rfl (hb hby d10_4) (pc' := 5) rfl ?_
  refine s_ifne A1 d10_5 (pY := 12) (pN := 8) (by decide) (by decide) rfl (fun _ => ?_) (fun c => absurd c (by decide))
  refine s_iconst A1 d10_12 (pc' := 13) rfl (v := (0 : Int32)) (by decide) ?_
  exact g_retZ X1 hx hlk hret (by decide) (hb hby d10_13) ⟨rfl, N0, e1⟩ (by decide) (by decide)
theorem ef_c_len_2 (m : MethodId) (x0 : Addr) : entryFrame m #[(.ref x0)] 1 = mkF m 0 #[.val (.ref x0)] [] := by first | (simp [entryFrame, mkF, argsToLocals, Value.category, maxLocals]; done) | rfl
set_option maxRecDepth 65536 in
set_option maxHeartbeats 40000000 in
theorem c_len_2 (l : Launch) (Z : State) (a0 : Array Value) (hw : ∀ d ∈ tables_1, d.before a0 Z = true) (ws : List Jvm.Cond) (a d : Addr) (cz : Int32) (c0 c1 : Int32) (h0 : Heap) (n0 : Nat) (Z0 : n0 ≤ h0.size) (Ea : Exa Z h0 a "java/lang/String") (Fv : Fld Z h0 a "java/lang/String" "value" "[B" (.ref d)) (Fc : Fld Z h0 a "java/lang/String" "coder" "B" (.int 0)) (D : Ars Z h0 d .byte [(.int c0.toInt8.toInt32), (.int c1.toInt8.toInt32)]) (O : Old Z n0 h0) (SC : Sta Z Z.heap "java/lang/String" "COMPACT_STRINGS" "Z" (.int cz)) (hcz : ¬ cz = 0) :
    Ctr l Z (⟨"java/lang/String", "length", "()I"⟩ : MethodName) jdk_42_method_54_code 1 (some .int) ws ({ frames := 1, cells := 0, slots := 0, locals := 13 } : Room) #[(.ref a)] h0 (fun v h L => v = some (.int 2) ∧ Fr n0 L ∧ h = h0) := by
  refine enter pn_18 ?_
  intro p e s m below meth c T0 X0 hx hby hml hret hlk hZ hown hnm e0
  have A0 := wk X0 hx hby
  have N0 := Fr.nil n0
  refine goIn (ef_c_len_2 m a) ?_
  show Go p e below m (Fini s 0 0 (fun v h L => v = some (.int 2) ∧ Fr n0 L ∧ h = h0)) T0 0 #[.val (.ref a)] []
  refine s_aloadN A0 d18_0 (pc' := 1) rfl rfl rfl ?_
  refine g_getF X0 hx hZ hown (hw _ (List.mem_of_getElem? (i := 25) rfl)) Via.refl e0 Fv (hb hby d18_1) (pc' := 4) rfl ?_
  intro T1 X1 e1
  have A1 := wk X1 hx hby
  refine g_len X1 hx hZ e1 D (n := (2 : Int32)) rfl (hb hby d18_4) (pc' := 5) rfl ?_
  refine s_aloadN A1 d18_5 (pc' := 6) rfl rfl rfl ?_
  refine g_virtual X1 hx hZ (y := (⟨"java/lang/String", "coder", "()B"⟩ : MethodName)) hown (hw _ (List.mem_of_getElem? (i := 87) rfl)) (hw _ (List.mem_of_getElem? (i := 88) rfl)) (hw _ (List.mem_of_getElem? (i := 90) rfl)) (hw _ (List.mem_of_getElem? (i := 89) rfl)) (hw _ (List.mem_of_getElem? (i := 7) rfl)) (hw _ (List.mem_of_getElem? (i := 91) rfl)) (by decide) Ea (argsL := []) (rest := [(.int (2 : Int32))]) (c_cod0 l Z a0 hw [] a cz h0 n0 Z0 Ea Fc O SC hcz) pd_5 rfl rfl (hb hby d18_6) e1 (by rw [hml]; rfl) (pc' := 9) rfl (by decide) (W := 1) (Nat.le_of_eq rfl) (by decide) (by decide) (by decide) ?_
  intro v2 T2 L2 X2 hQ2
  have A2 := wk X2 hx hby
  have e2 : T2.heap = T2.heap := rfl
  obtain ⟨rfl, N2, hh2⟩ := hQ2
  have e2 : T2.heap = h0 := hh2
  have fr2 := Fr.app N0 N2
  show Go p e below m (Fini s 0 0 (fun v h L => v = some (.int 2) ∧ Fr n0 L ∧ h = h0)) T2 9 #[.val (.ref a)] [(.int (0 : Int32)), (.int (2 : Int32))]
  refine s_ishr A2 d18_9 (pc' := 10) rfl (v := (2 : Int32)) (by decide) ?_
  exact g_retI X2 hx hlk hret (hb hby d18_10) ⟨rfl, fr2, e2⟩ (by decide) (by decide)
theorem ef_c_pciN_0_2 (m : MethodId) (x0 : Int32) (x1 : Int32) : entryFrame m #[(.int x0), (.int x1), .null] 3 = mkF m 0 #[.val (.int x0), .val (.int x1), .val .null] [] := by first | (simp [entryFrame, mkF, argsToLocals, Value.category, maxLocals]; done) | rfl
set_option maxRecDepth 65536 in
set_option maxHeartbeats 40000000 in
theorem c_pciN_0_2 (l : Launch) (Z : State) (a0 : Array Value) (hw : ∀ d ∈ tables_1, d.before a0 Z = true) (ws : List Jvm.Cond)  (h0 : Heap) (n0 : Nat) (Z0 : n0 ≤ h0.size)  :
    Ctr l Z (⟨"jdk/internal/util/Preconditions", "checkIndex", "(IILjava/util/function/BiFunction;)I"⟩ : MethodName) jdk_41_method_11_code 3 (some .int) ws ({ frames := 0, cells := 0, slots := 0, locals := 0 } : Room) #[(.int (0 : Int32)), (.int (2 : Int32)), .null] h0 (fun v h L => v = some (.int 0) ∧ Fr n0 L ∧ h = h0) := by
  refine enter pn_15 ?_
  intro p e s m below meth c T0 X0 hx hby hml hret hlk hZ hown hnm e0
  have A0 := wk X0 hx hby
  have N0 := Fr.nil n0
  refine goIn (ef_c_pciN_0_2 m (0 : Int32) (2 : Int32)) ?_
  show Go p e below m (Fini s 0 0 (fun v h L => v = some (.int 0) ∧ Fr n0 L ∧ h = h0)) T0 0 #[.val (.int (0 : Int32)), .val (.int (2 : Int32)), .val .null] []
  refine s_iloadN A0 d15_0 (pc' := 1) rfl rfl ?_
  refine s_iflt A0 d15_1 (pY := 9) (pN := 4) (by decide) (by decide) rfl (fun c => absurd c (by decide)) (fun _ => ?_)
  refine s_iloadN A0 d15_4 (pc' := 5) rfl rfl ?_
  refine s_iloadN A0 d15_5 (pc' := 6) rfl rfl ?_
  refine s_icmplt A0 d15_6 (pY := 16) (pN := 9) (by decide) (by decide) rfl (fun _ => ?_) (fun c => absurd c (by decide))
  refine s_iloadN A0 d15_16 (pc' := 17) rfl rfl ?_
  exact g_retI X0 hx hlk hret (hb hby d15_17) ⟨rfl, N0, e0⟩ (by decide) (by decide)
theorem ef_c_pciA_0_2 (m : MethodId) (x0 : Int32) (x1 : Int32) (x2 : Addr) : entryFrame m #[(.int x0), (.int x1), (.ref x2)] 3 = mkF m 0 #[.val (.int x0), .val (.int x1), .val (.ref x2)] [] := by first | (simp [entryFrame, mkF, argsToLocals, Value.category, maxLocals]; done) | rfl
set_option maxRecDepth 65536 in
set_option maxHeartbeats 40000000 in
theorem c_pciA_0_2 (l : Launch) (Z : State) (a0 : Array Value) (hw : ∀ d ∈ tables_1, d.before a0 Z = true) (ws : List Jvm.Cond) (f : Addr) (h0 : Heap) (n0 : Nat) (Z0 : n0 ≤ h0.size)  :
    Ctr l Z (⟨"jdk/internal/util/Preconditions", "checkIndex", "(IILjava/util/function/BiFunction;)I"⟩ : MethodName) jdk_41_method_11_code 3 (some .int) ws ({ frames := 0, cells := 0, slots := 0, locals := 0 } : Room) #[(.int (0 : Int32)), (.int (2 : Int32)), (.ref f)] h0 (fun v h L => v = some (.int 0) ∧ Fr n0 L ∧ h = h0) := by
  refine enter pn_15 ?_
  intro p e s m below meth c T0 X0 hx hby hml hret hlk hZ hown hnm e0
  have A0 := wk X0 hx hby
  have N0 := Fr.nil n0
  refine goIn (ef_c_pciA_0_2 m (0 : Int32) (2 : Int32) f) ?_
  show Go p e below m (Fini s 0 0 (fun v h L => v = some (.int 0) ∧ Fr n0 L ∧ h = h0)) T0 0 #[.val (.int (0 : Int32)), .val (.int (2 : Int32)), .val (.ref f)] []
  refine s_iloadN A0 d15_0 (pc' := 1) rfl rfl ?_
  refine s_iflt A0 d15_1 (pY := 9) (pN := 4) (by decide) (by decide) rfl (fun c => absurd c (by decide)) (fun _ => ?_)
  refine s_iloadN A0 d15_4 (pc' := 5) rfl rfl ?_
  refine s_iloadN A0 d15_5 (pc' := 6) rfl rfl ?_
  refine s_icmplt A0 d15_6 (pY := 16) (pN := 9) (by decide) (by decide) rfl (fun _ => ?_) (fun c => absurd c (by decide))
  refine s_iloadN A0 d15_16 (pc' := 17) rfl rfl ?_
  exact g_retI X0 hx hlk hret (hb hby d15_17) ⟨rfl, N0, e0⟩ (by decide) (by decide)
theorem ef_c_chk_0_2 (m : MethodId) (x0 : Int32) (x1 : Int32) : entryFrame m #[(.int x0), (.int x1)] 2 = mkF m 0 #[.val (.int x0), .val (.int x1)] [] := by first | (simp [entryFrame, mkF, argsToLocals, Value.category, maxLocals]; done) | rfl
set_option maxRecDepth 65536 in
set_option maxHeartbeats 40000000 in
theorem c_chk_0_2 (l : Launch) (Z : State) (a0 : Array Value) (hw : ∀ d ∈ tables_1, d.before a0 Z = true) (ws : List Jvm.Cond) (fv : Value) (h0 : Heap) (n0 : Nat) (Z0 : n0 ≤ h0.size) (O : Old Z n0 h0) (SF : Sta Z Z.heap "jdk/internal/util/Preconditions" "SIOOBE_FORMATTER" "Ljava/util/function/BiFunction;" fv) (hfv : fv = .null ∨ ∃ f, fv = .ref f) :
    Ctr l Z (⟨"java/lang/String", "checkIndex", "(II)V"⟩ : MethodName) jdk_42_method_155_code 2 none ws ({ frames := 1, cells := 0, slots := 0, locals := 14 } : Room) #[(.int (0 : Int32)), (.int (2 : Int32))] h0 (fun v h L => v = none ∧ Fr n0 L ∧ h = h0) := by
  refine enter pn_14 ?_
  intro p e s m below meth c T0 X0 hx hby hml hret hlk hZ hown hnm e0
  have A0 := wk X0 hx hby
  have N0 := Fr.nil n0
  refine goIn (ef_c_chk_0_2 m (0 : Int32) (2 : Int32)) ?_
  show Go p e below m (Fini s 0 0 (fun v h L => v = none ∧ Fr n0 L ∧ h = h0)) T0 0 #[.val (.int (0 : Int32)), .val (.int (2 : Int32))] []
  rcases hfv with rfl | ⟨f, rfl⟩
  ·
    refine s_iloadN A0 d14_0 (pc' := 1) rfl rfl ?_
    refine s_iloadN A0 d14_1 (pc' := 2) rfl rfl ?_
    have Sf := Sta.ext O.2 SF
    refine g_getS X0 hx hZ hown (hw _ (List.mem_of_getElem? (i := 67) rfl)) Via.refl e0 Sf (hb hby d14_2) (pc' := 5) rfl ?_
    intro T1 X1 e1
    have A1 := wk X1 hx hby
    refine g_static X1 hx hZ (y := (⟨"jdk/internal/util/Preconditions", "checkIndex", "(IILjava/util/function/BiFunction;)I"⟩ : MethodName)) hown (hw _ (List.mem_of_getElem? (i := 69) rfl)) (hw _ (List.mem_of_getElem? (i := 70) rfl)) (hw _ (List.mem_of_getElem? (i := 68) rfl)) (hw _ (List.mem_of_getElem? (i := 71) rfl)) (by decide) (argsL := [(.int (0 : Int32)), (.int (2 : Int32)), .null]) (rest := []) (c_pciN_0_2 l Z a0 hw []  h0 n0 Z0) pd_6 rfl rfl (hb hby d14_5) e1 (by rw [hml]; rfl) (pc' := 8) rfl (by decide) (W := 0) (Nat.le_of_eq rfl) (by decide) (by decide) (by decide) ?_
    intro v2 T2 L2 X2 hQ2
    have A2 := wk X2 hx hby
    have e2 : T2.heap = T2.heap := rfl
    obtain ⟨rfl, N2, hh2⟩ := hQ2
    have e2 : T2.heap = h0 := hh2
    have fr2 := Fr.app N0 N2
    show Go p e below m (Fini s 0 0 (fun v h L => v = none ∧ Fr n0 L ∧ h = h0)) T2 8 #[.val (.int (0 : Int32)), .val (.int (2 : Int32))] [(.int (0 : Int32))]
    refine s_pop A2 d14_8 (pc' := 9) rfl rfl ?_
    exact g_retV X2 hx hlk hret (hb hby d14_9) ⟨rfl, fr2, e2⟩ (by decide) (by decide)
  refine s_iloadN A0 d14_0 (pc' := 1) rfl rfl ?_
  refine s_iloadN A0 d14_1 (pc' := 2) rfl rfl ?_
  have Sf := Sta.ext O.2 SF
  refine g_getS X0 hx hZ hown (hw _ (List.mem_of_getElem? (i := 67) rfl)) Via.refl e0 Sf (hb hby d14_2) (pc' := 5) rfl ?_
  intro T53 X53 e53
  have A53 := wk X53 hx hby
  refine g_static X53 hx hZ (y := (⟨"jdk/internal/util/Preconditions", "checkIndex", "(IILjava/util/function/BiFunction;)I"⟩ : MethodName)) hown (hw _ (List.mem_of_getElem? (i := 69) rfl)) (hw _ (List.mem_of_getElem? (i := 70) rfl)) (hw _ (List.mem_of_getElem? (i := 68) rfl)) (hw _ (List.mem_of_getElem? (i := 71) rfl)) (by decide) (argsL := [(.int (0 : Int32)), (.int (2 : Int32)), (.ref f)]) (rest := []) (c_pciA_0_2 l Z a0 hw [] f h0 n0 Z0) pd_6 rfl rfl (hb hby d14_5) e53 (by rw [hml]; rfl) (pc' := 8) rfl (by decide) (W := 0) (Nat.le_of_eq rfl) (by decide) (by decide) (by decide) ?_
  intro v54 T54 L54 X54 hQ54
  have A54 := wk X54 hx hby
  have e54 : T54.heap = T54.heap := rfl
  obtain ⟨rfl, N54, hh54⟩ := hQ54
  have e54 : T54.heap = h0 := hh54
  have fr54 := Fr.app N0 N54
  show Go p e below m (Fini s 0 0 (fun v h L => v = none ∧ Fr n0 L ∧ h = h0)) T54 8 #[.val (.int (0 : Int32)), .val (.int (2 : Int32))] [(.int (0 : Int32))]
  refine s_pop A54 d14_8 (pc' := 9) rfl rfl ?_
  exact g_retV X54 hx hlk hret (hb hby d14_9) ⟨rfl, fr54, e54⟩ (by decide) (by decide)
theorem ef_c_l1c_0_2 (m : MethodId) (x0 : Addr) (x1 : Int32) : entryFrame m #[(.ref x0), (.int x1)] 2 = mkF m 0 #[.val (.ref x0), .val (.int x1)] [] := by first | (simp [entryFrame, mkF, argsToLocals, Value.category, maxLocals]; done) | rfl
set_option maxRecDepth 65536 in
set_option maxHeartbeats 40000000 in
theorem c_l1c_0_2 (l : Launch) (Z : State) (a0 : Array Value) (hw : ∀ d ∈ tables_1, d.before a0 Z = true) (ws : List Jvm.Cond) (a d : Addr) (cz : Int32) (c0 c1 : Int32) (fv : Value) (h0 : Heap) (n0 : Nat) (Z0 : n0 ≤ h0.size) (Ea : Exa Z h0 a "java/lang/String") (Fv : Fld Z h0 a "java/lang/String" "value" "[B" (.ref d)) (Fc : Fld Z h0 a "java/lang/String" "coder" "B" (.int 0)) (D : Ars Z h0 d .byte [(.int c0.toInt8.toInt32), (.int c1.toInt8.toInt32)]) (O : Old Z n0 h0) (SC : Sta Z Z.heap "java/lang/String" "COMPACT_STRINGS" "Z" (.int cz)) (hcz : ¬ cz = 0) (SF : Sta Z Z.heap "jdk/internal/util/Preconditions" "SIOOBE_FORMATTER" "Ljava/util/function/BiFunction;" fv) (hfv : fv = .null ∨ ∃ f, fv = .ref f) (C0 : 0 ≤ c0.toInt ∧ c0.toInt ≤ 255) (C1 : 0 ≤ c1.toInt ∧ c1.toInt ≤ 255) :
    Ctr l Z (⟨"java/lang/StringLatin1", "charAt", "([BI)C"⟩ : MethodName) jdk_43_method_2_code 2 (some .char) ws ({ frames := 2, cells := 0, slots := 0, locals := 27 } : Room) #[(.ref d), (.int (0 : Int32))] h0 (fun v h L => v = some (.int c0) ∧ Fr n0 L ∧ h = h0) := by
  refine enter pn_13 ?_
  intro p e s m below meth c T0 X0 hx hby hml hret hlk hZ hown hnm e0
  have A0 := wk X0 hx hby
  have N0 := Fr.nil n0
  refine goIn (ef_c_l1c_0_2 m d (0 : Int32)) ?_
  show Go p e below m (Fini s 0 0 (fun v h L => v = some (.int c0) ∧ Fr n0 L ∧ h = h0)) T0 0 #[.val (.ref d), .val (.int (0 : Int32))] []
  refine s_iloadN A0 d13_0 (pc' := 1) rfl rfl ?_
  refine s_aloadN A0 d13_1 (pc' := 2) rfl rfl rfl ?_
  refine g_len X0 hx hZ e0 D (n := (2 : Int32)) rfl (hb hby d13_2) (pc' := 3) rfl ?_
  refine g_static X0 hx hZ (y := (⟨"java/lang/String", "checkIndex", "(II)V"⟩ : MethodName)) hown (hw _ (List.mem_of_getElem? (i := 64) rfl)) (hw _ (List.mem_of_getElem? (i := 65) rfl)) (hw _ (List.mem_of_getElem? (i := 7) rfl)) (hw _ (List.mem_of_getElem? (i := 66) rfl)) (by decide) (argsL := [(.int (0 : Int32)), (.int (2 : Int32))]) (rest := []) (c_chk_0_2 l Z a0 hw [] fv h0 n0 Z0 O SF hfv) pd_7 rfl rfl (hb hby d13_3) e0 (by rw [hml]; rfl) (pc' := 6) rfl (by decide) (W := 0) (Nat.le_of_eq rfl) (by decide) (by decide) (by decide) ?_
  intro v1 T1 L1 X1 hQ1
  have A1 := wk X1 hx hby
  have e1 : T1.heap = T1.heap := rfl
  obtain ⟨rfl, N1, hh1⟩ := hQ1
  have e1 : T1.heap = h0 := hh1
  have fr1 := Fr.app N0 N1
  show Go p e below m (Fini s 0 0 (fun v h L => v = some (.int c0) ∧ Fr n0 L ∧ h = h0)) T1 6 #[.val (.ref d), .val (.int (0 : Int32))] []
  refine s_aloadN A1 d13_6 (pc' := 7) rfl rfl rfl ?_
  refine s_iloadN A1 d13_7 (pc' := 8) rfl rfl ?_
  refine g_baload X1 hx hZ e1 D (by decide) (i := 0) (by decide) (v := (.int c0.toInt8.toInt32)) rfl (hb hby d13_8) (pc' := 9) rfl ?_
  refine s_sipush A1 d13_9 (pc' := 12) rfl (v := (255 : Int32)) (by decide) ?_
  refine s_iand A1 d13_12 (pc' := 13) rfl (own_and255 C0) ?_
  refine s_i2c A1 d13_13 (pc' := 14) rfl (own_i2c (z := c0) (by omega)) ?_
  exact g_ret X1 hx hlk hret (congrArg Value.int (own_i2c (z := c0) (by omega))) (Or.inl ⟨rfl, by simp, _, rfl⟩) (hb hby d13_14) ⟨rfl, fr1, e1⟩ (by decide) (by decide)
theorem ef_c_cha_0_2 (m : MethodId) (x0 : Addr) (x1 : Int32) : entryFrame m #[(.ref x0), (.int x1)] 2 = mkF m 0 #[.val (.ref x0), .val (.int x1)] [] := by first | (simp [entryFrame, mkF, argsToLocals, Value.category, maxLocals]; done) | rfl
set_option maxRecDepth 65536 in
set_option maxHeartbeats 40000000 in
theorem c_cha_0_2 (l : Launch) (Z : State) (a0 : Array Value) (hw : ∀ d ∈ tables_1, d.before a0 Z = true) (ws : List Jvm.Cond) (a d : Addr) (cz : Int32) (c0 c1 : Int32) (fv : Value) (h0 : Heap) (n0 : Nat) (Z0 : n0 ≤ h0.size) (Ea : Exa Z h0 a "java/lang/String") (Fv : Fld Z h0 a "java/lang/String" "value" "[B" (.ref d)) (Fc : Fld Z h0 a "java/lang/String" "coder" "B" (.int 0)) (D : Ars Z h0 d .byte [(.int c0.toInt8.toInt32), (.int c1.toInt8.toInt32)]) (O : Old Z n0 h0) (SC : Sta Z Z.heap "java/lang/String" "COMPACT_STRINGS" "Z" (.int cz)) (hcz : ¬ cz = 0) (SF : Sta Z Z.heap "jdk/internal/util/Preconditions" "SIOOBE_FORMATTER" "Ljava/util/function/BiFunction;" fv) (hfv : fv = .null ∨ ∃ f, fv = .ref f) (C0 : 0 ≤ c0.toInt ∧ c0.toInt ≤ 255) (C1 : 0 ≤ c1.toInt ∧ c1.toInt ≤ 255) :
    Ctr l Z (⟨"java/lang/String", "charAt", "(I)C"⟩ : MethodName) jdk_42_method_56_code 2 (some .char) ws ({ frames := 3, cells := 0, slots := 0, locals := 40 } : Room) #[(.ref a), (.int (0 : Int32))] h0 (fun v h L => v = some (.int c0) ∧ Fr n0 L ∧ h = h0) := by
  refine enter pn_11 ?_
  intro p e s m below meth c T0 X0 hx hby hml hret hlk hZ hown hnm e0
  have A0 := wk X0 hx hby
  have N0 := Fr.nil n0
  refine goIn (ef_c_cha_0_2 m a (0 : Int32)) ?_
  show Go p e below m (Fini s 0 0 (fun v h L => v = some (.int c0) ∧ Fr n0 L ∧ h = h0)) T0 0 #[.val (.ref a), .val (.int (0 : Int32))] []
  refine s_aloadN A0 d11_0 (pc' := 1) rfl rfl rfl ?_
  refine g_virtual X0 hx hZ (y := (⟨"java/lang/String", "isLatin1", "()Z"⟩ : MethodName)) hown (hw _ (List.mem_of_getElem? (i := 55) rfl)) (hw _ (List.mem_of_getElem? (i := 56) rfl)) (hw _ (List.mem_of_getElem? (i := 58) rfl)) (hw _ (List.mem_of_getElem? (i := 57) rfl)) (hw _ (List.mem_of_getElem? (i := 7) rfl)) (hw _ (List.mem_of_getElem? (i := 59) rfl)) (by decide) Ea (argsL := []) (rest := []) (c_lat l Z a0 hw [] a cz h0 n0 Z0 Ea Fc O SC hcz) pd_8 rfl rfl (hb hby d11_1) e0 (by rw [hml]; rfl) (pc' := 4) rfl (by decide) (W := 0) (Nat.le_of_eq rfl) (by decide) (by decide) (by decide) ?_
  intro v1 T1 L1 X1 hQ1
  have A1 := wk X1 hx hby
  have e1 : T1.heap = T1.heap := rfl
  obtain ⟨rfl, N1, hh1⟩ := hQ1
  have e1 : T1.heap = h0 := hh1
  have fr1 := Fr.app N0 N1
  show Go p e below m (Fini s 0 0 (fun v h L => v = some (.int c0) ∧ Fr n0 L ∧ h = h0)) T1 4 #[.val (.ref a), .val (.int (0 : Int32))] [(.int (1 : Int32))]
  refine s_ifeq A1 d11_4 (pY := 16) (pN := 7) (by decide) (by decide) rfl (fun c => absurd c (by decide)) (fun _ => ?_)
  refine s_aloadN A1 d11_7 (pc' := 8) rfl rfl rfl ?_
  refine g_getF X1 hx hZ hown (hw _ (List.mem_of_getElem? (i := 25) rfl)) Via.refl e1 Fv (hb hby d11_8) (pc' := 11) rfl ?_
  intro T2 X2 e2
  have A2 := wk X2 hx hby
  refine s_iloadN A2 d11_11 (pc' := 12) rfl rfl ?_
  refine g_static X2 hx hZ (y := (⟨"java/lang/StringLatin1", "charAt", "([BI)C"⟩ : MethodName)) hown (hw _ (List.mem_of_getElem? (i := 60) rfl)) (hw _ (List.mem_of_getElem? (i := 61) rfl)) (hw _ (List.mem_of_getElem? (i := 62) rfl)) (hw _ (List.mem_of_getElem? (i := 63) rfl)) (by decide) (argsL := [(.ref d), (.int (0 : Int32))]) (rest := []) (c_l1c_0_2 l Z a0 hw [] a d cz c0 c1 fv h0 n0 Z0 Ea Fv Fc D O SC hcz SF hfv C0 C1) pd_9 rfl rfl (hb hby d11_12) e2 (by rw [hml]; rfl) (pc' := 15) rfl (by decide) (W := 0) (Nat.le_of_eq rfl) (by decide) (by decide) (by decide) ?_
  intro v3 T3 L3 X3 hQ3
  have A3 := wk X3 hx hby
  have e3 : T3.heap = T3.heap := rfl
  obtain ⟨rfl, N3, hh3⟩ := hQ3
  have e3 : T3.heap = h0 := hh3
  have fr3 := Fr.app fr1 N3
  show Go p e below m (Fini s 0 0 (fun v h L => v = some (.int c0) ∧ Fr n0 L ∧ h = h0)) T3 15 #[.val (.ref a), .val (.int (0 : Int32))] [(.int c0)]
  exact g_ret X3 hx hlk hret (congrArg Value.int (own_i2c (z := c0) (by omega))) (Or.inl ⟨rfl, by simp, _, rfl⟩) (hb hby d11_15) ⟨rfl, fr3, e3⟩ (by decide) (by decide)
theorem ef_c_min_2 (m : MethodId) (x0 : Int32) (x1 : Int32) : entryFrame m #[(.int x0), (.int x1)] 2 = mkF m 0 #[.val (.int x0), .val (.int x1)] [] := by first | (simp [entryFrame, mkF, argsToLocals, Value.category, maxLocals]; done) | rfl
set_option maxRecDepth 65536 in
set_option maxHeartbeats 40000000 in
theorem c_min_2 (l : Launch) (Z : State) (a0 : Array Value) (hw : ∀ d ∈ tables_1, d.before a0 Z = true) (ws : List Jvm.Cond)  (h0 : Heap) (n0 : Nat) (Z0 : n0 ≤ h0.size)  :
    Ctr l Z (⟨"java/lang/Math", "min", "(II)I"⟩ : MethodName) jdk_29_method_69_code 2 (some .int) ws ({ frames := 0, cells := 0, slots := 0, locals := 0 } : Room) #[(.int (2 : Int32)), (.int (2 : Int32))] h0 (fun v h L => v = some (.int 2) ∧ Fr n0 L ∧ h = h0) := by
  refine enter pn_23 ?_
  intro p e s m below meth c T0 X0 hx hby hml hret hlk hZ hown hnm e0
  have A0 := wk X0 hx hby
  have N0 := Fr.nil n0
  refine goIn (ef_c_min_2 m (2 : Int32) (2 : Int32)) ?_
  show Go p e below m (Fini s 0 0 (fun v h L => v = some (.int 2) ∧ Fr n0 L ∧ h = h0)) T0 0 #[.val (.int (2 : Int32)), .val (.int (2 : Int32))] []
  refine s_iloadN A0 d23_0 (pc' := 1) rfl rfl ?_
  refine s_iloadN A0 d23_1 (pc' := 2) rfl rfl ?_
  refine s_icmpgt A0 d23_2 (pY := 9) (pN := 5) (by decide) (by decide) rfl (fun c => absurd c (by decide)) (fun _ => ?_)
  refine s_iloadN A0 d23_5 (pc' := 6) rfl rfl ?_
  refine s_goto A0 d23_6 (pc' := 10) (by decide) (by decide) ?_
  exact g_retI X0 hx hlk hret (hb hby d23_10) ⟨rfl, N0, e0⟩ (by decide) (by decide)
theorem ef_c_ioc_2 (m : MethodId) (x0 : Addr) (x1 : Int32) (x2 : Int32) (x3 : Int32) : entryFrame m #[(.ref x0), (.int x1), (.int x2), (.int x3)] 6 = mkF m 0 #[.val (.ref x0), .val (.int x1), .val (.int x2), .val (.int x3), .unset, .unset] [] := by first | (simp [entryFrame, mkF, argsToLocals, Value.category, maxLocals]; done) | rfl
set_option maxRecDepth 65536 in
set_option maxHeartbeats 40000000 in
theorem c_ioc_2 (l : Launch) (Z : State) (a0 : Array Value) (hw : ∀ d ∈ tables_1, d.before a0 Z = true) (ws : List Jvm.Cond) (a d : Addr) (cz : Int32) (c0 c1 : Int32) (h0 : Heap) (n0 : Nat) (Z0 : n0 ≤ h0.size) (Ea : Exa Z h0 a "java/lang/String") (Fv : Fld Z h0 a "java/lang/String" "value" "[B" (.ref d)) (Fc : Fld Z h0 a "java/lang/String" "coder" "B" (.int 0)) (D : Ars Z h0 d .byte [(.int c0.toInt8.toInt32), (.int c1.toInt8.toInt32)]) (O : Old Z n0 h0) (SC : Sta Z Z.heap "java/lang/String" "COMPACT_STRINGS" "Z" (.int cz)) (hcz : ¬ cz = 0) (P0 : (c0.toInt8.toInt32).toInt ≠ 58) (P1 : (c1.toInt8.toInt32).toInt ≠ 58) :
    Ctr l Z (⟨"java/lang/StringLatin1", "indexOfChar", "([BIII)I"⟩ : MethodName) jdk_43_method_23_code 6 (some .int) ws ({ frames := 0, cells := 0, slots := 0, locals := 0 } : Room) #[(.ref d), (.int (58 : Int32)), (.int (0 : Int32)), (.int (2 : Int32))] h0 (fun v h L => v = some (.int (-1)) ∧ Fr n0 L ∧ h = h0) := by
  refine enter pn_24 ?_
  intro p e s m below meth c T0 X0 hx hby hml hret hlk hZ hown hnm e0
  have A0 := wk X0 hx hby
  have N0 := Fr.nil n0
  refine goIn (ef_c_ioc_2 m d (58 : Int32) (0 : Int32) (2 : Int32)) ?_
  show Go p e below m (Fini s 0 0 (fun v h L => v = some (.int (-1)) ∧ Fr n0 L ∧ h = h0)) T0 0 #[.val (.ref d), .val (.int (58 : Int32)), .val (.int (0 : Int32)), .val (.int (2 : Int32)), .unset, .unset] []
  refine s_iloadN A0 d24_0 (pc' := 1) rfl rfl ?_
  refine s_i2b A0 d24_1 (pc' := 2) rfl (v := (58 : Int32)) (by decide) ?_
  refine s_istore A0 d24_2 (pc' := 4) rfl (ls' := #[.val (.ref d), .val (.int (58 : Int32)), .val (.int (0 : Int32)), .val (.int (2 : Int32)), .val (.int (58 : Int32)), .unset]) rfl ?_
  refine s_iloadN A0 d24_4 (pc' := 5) rfl rfl ?_
  refine s_istore A0 d24_5 (pc' := 7) rfl (ls' := #[.val (.ref d), .val (.int (58 : Int32)), .val (.int (0 : Int32)), .val (.int (2 : Int32)), .val (.int (58 : Int32)), .val (.int (0 : Int32))]) rfl ?_
  refine s_iload A0 d24_7 (pc' := 9) rfl rfl ?_
  refine s_iloadN A0 d24_9 (pc' := 10) rfl rfl ?_
  refine s_icmpge A0 d24_10 (pY := 31) (pN := 13) (by decide) (by decide) rfl (fun c => absurd c (by decide)) (fun _ => ?_)
  refine s_aloadN A0 d24_13 (pc' := 14) rfl rfl rfl ?_
  refine s_iload A0 d24_14 (pc' := 16) rfl rfl ?_
  refine g_baload X0 hx hZ e0 D (by decide) (i := 0) (by decide) (v := (.int c0.toInt8.toInt32)) rfl (hb hby d24_16) (pc' := 17) rfl ?_
  refine s_iload A0 d24_17 (pc' := 19) rfl rfl ?_
  refine s_icmpne A0 d24_19 (pY := 25) (pN := 22) (by decide) (by decide) rfl ?_ ?_
  · intro c19
    replace c19 := i_ne c19
    rw [show (58 : Int32).toInt = 58 from by decide] at c19
    refine s_iinc A0 d24_25 (pc' := 28) rfl (v := (1 : Int32)) (ls' := #[.val (.ref d), .val (.int (58 : Int32)), .val (.int (0 : Int32)), .val (.int (2 : Int32)), .val (.int (58 : Int32)), .val (.int (1 : Int32))]) rfl (by decide) rfl ?_
    refine s_goto A0 d24_28 (pc' := 7) (by decide) (by decide) ?_
    refine s_iload A0 d24_7 (pc' := 9) rfl rfl ?_
    refine s_iloadN A0 d24_9 (pc' := 10) rfl rfl ?_
    refine s_icmpge A0 d24_10 (pY := 31) (pN := 13) (by decide) (by decide) rfl (fun c => absurd c (by decide)) (fun _ => ?_)
    refine s_aloadN A0 d24_13 (pc' := 14) rfl rfl rfl ?_
    refine s_iload A0 d24_14 (pc' := 16) rfl rfl ?_
    refine g_baload X0 hx hZ e0 D (by decide) (i := 1) (by decide) (v := (.int c1.toInt8.toInt32)) rfl (hb hby d24_16) (pc' := 17) rfl ?_
    refine s_iload A0 d24_17 (pc' := 19) rfl rfl ?_
    refine s_icmpne A0 d24_19 (pY := 25) (pN := 22) (by decide) (by decide) rfl ?_ ?_
    · intro c19_1
      replace c19_1 := i_ne c19_1
      rw [show (58 : Int32).toInt = 58 from by decide] at c19_1
      refine s_iinc A0 d24_25 (pc' := 28) rfl (v := (2 : Int32)) (ls' := #[.val (.ref d), .val (.int (58 : Int32)), .val (.int (0 : Int32)), .val (.int (2 : Int32)), .val (.int (58 : Int32)), .val (.int (2 : Int32))]) rfl (by decide) rfl ?_
      refine s_goto A0 d24_28 (pc' := 7) (by decide) (by decide) ?_
      refine s_iload A0 d24_7 (pc' := 9) rfl rfl ?_
      refine s_iloadN A0 d24_9 (pc' := 10) rfl rfl ?_
      refine s_icmpge A0 d24_10 (pY := 31) (pN := 13) (by decide) (by decide) rfl (fun _ => ?_) (fun c => absurd c (by decide))
      refine s_iconst A0 d24_31 (pc' := 32) rfl (v := (-1 : Int32)) (by decide) ?_
      exact g_retI X0 hx hlk hret (hb hby d24_32) ⟨rfl, N0, e0⟩ (by decide) (by decide)
    · intro c19_1
      replace c19_1 := i_eq c19_1
      rw [show (58 : Int32).toInt = 58 from by decide] at c19_1
      exact absurd c19_1 P1
  · intro c19
    replace c19 := i_eq c19
    rw [show (58 : Int32).toInt = 58 from by decide] at c19
    exact absurd c19 P0
theorem ef_c_iol_2 (m : MethodId) (x0 : Addr) (x1 : Int32) (x2 : Int32) (x3 : Int32) : entryFrame m #[(.ref x0), (.int x1), (.int x2), (.int x3)] 4 = mkF m 0 #[.val (.ref x0), .val (.int x1), .val (.int x2), .val (.int x3)] [] := by first | (simp [entryFrame, mkF, argsToLocals, Value.category, maxLocals]; done) | rfl
set_option maxRecDepth 65536 in
set_option maxHeartbeats 40000000 in
theorem c_iol_2 (l : Launch) (Z : State) (a0 : Array Value) (hw : ∀ d ∈ tables_1, d.before a0 Z = true) (ws : List Jvm.Cond) (a d : Addr) (cz : Int32) (c0 c1 : Int32) (h0 : Heap) (n0 : Nat) (Z0 : n0 ≤ h0.size) (Ea : Exa Z h0 a "java/lang/String") (Fv : Fld Z h0 a "java/lang/String" "value" "[B" (.ref d)) (Fc : Fld Z h0 a "java/lang/String" "coder" "B" (.int 0)) (D : Ars Z h0 d .byte [(.int c0.toInt8.toInt32), (.int c1.toInt8.toInt32)]) (O : Old Z n0 h0) (SC : Sta Z Z.heap "java/lang/String" "COMPACT_STRINGS" "Z" (.int cz)) (hcz : ¬ cz = 0) (P0 : (c0.toInt8.toInt32).toInt ≠ 58) (P1 : (c1.toInt8.toInt32).toInt ≠ 58) :
    Ctr l Z (⟨"java/lang/StringLatin1", "indexOf", "([BIII)I"⟩ : MethodName) jdk_43_method_22_code 4 (some .int) ws ({ frames := 1, cells := 0, slots := 0, locals := 17 } : Room) #[(.ref d), (.int (58 : Int32)), (.int (0 : Int32)), (.int (2 : Int32))] h0 (fun v h L => v = some (.int (-1)) ∧ Fr n0 L ∧ h = h0) := by
  refine enter pn_20 ?_
  intro p e s m below meth c T0 X0 hx hby hml hret hlk hZ hown hnm e0
  have A0 := wk X0 hx hby
  have N0 := Fr.nil n0
  refine goIn (ef_c_iol_2 m d (58 : Int32) (0 : Int32) (2 : Int32)) ?_
  show Go p e below m (Fini s 0 0 (fun v h L => v = some (.int (-1)) ∧ Fr n0 L ∧ h = h0)) T0 0 #[.val (.ref d), .val (.int (58 : Int32)), .val (.int (0 : Int32)), .val (.int (2 : Int32))] []
  refine s_iloadN A0 d20_0 (pc' := 1) rfl rfl ?_
  refine g_static X0 hx hZ (y := (⟨"java/lang/StringLatin1", "canEncode", "(I)Z"⟩ : MethodName)) hown (hw _ (List.mem_of_getElem? (i := 95) rfl)) (hw _ (List.mem_of_getElem? (i := 96) rfl)) (hw _ (List.mem_of_getElem? (i := 62) rfl)) (hw _ (List.mem_of_getElem? (i := 97) rfl)) (by decide) (argsL := [(.int (58 : Int32))]) (rest := []) (c_can l Z a0 hw [] h0 n0 Z0) pd_10 rfl rfl (hb hby d20_1) e0 (by rw [hml]; rfl) (pc' := 4) rfl (by decide) (W := 0) (Nat.le_of_eq rfl) (by decide) (by decide) (by decide) ?_
  intro v1 T1 L1 X1 hQ1
  have A1 := wk X1 hx hby
  have e1 : T1.heap = T1.heap := rfl
  obtain ⟨rfl, N1, hh1⟩ := hQ1
  have e1 : T1.heap = h0 := hh1
  have fr1 := Fr.app N0 N1
  show Go p e below m (Fini s 0 0 (fun v h L => v = some (.int (-1)) ∧ Fr n0 L ∧ h = h0)) T1 4 #[.val (.ref d), .val (.int (58 : Int32)), .val (.int (0 : Int32)), .val (.int (2 : Int32))] [(.int (1 : Int32))]
  refine s_ifne A1 d20_4 (pY := 9) (pN := 7) (by decide) (by decide) rfl (fun _ => ?_) (fun c => absurd c (by decide))
  refine s_iloadN A1 d20_9 (pc' := 10) rfl rfl ?_
  refine s_iconst A1 d20_10 (pc' := 11) rfl (v := (0 : Int32)) (by decide) ?_
  refine g_static X1 hx hZ (y := (⟨"java/lang/Math", "max", "(II)I"⟩ : MethodName)) hown (hw _ (List.mem_of_getElem? (i := 98) rfl)) (hw _ (List.mem_of_getElem? (i := 99) rfl)) (hw _ (List.mem_of_getElem? (i := 100) rfl)) (hw _ (List.mem_of_getElem? (i := 101) rfl)) (by decide) (argsL := [(.int (0 : Int32)), (.int (0 : Int32))]) (rest := []) (c_max00 l Z a0 hw [] h0 n0 Z0) pd_11 rfl rfl (hb hby d20_11) e1 (by rw [hml]; rfl) (pc' := 14) rfl (by decide) (W := 0) (Nat.le_of_eq rfl) (by decide) (by decide) (by decide) ?_
  intro v2 T2 L2 X2 hQ2
  have A2 := wk X2 hx hby
  have e2 : T2.heap = T2.heap := rfl
  obtain ⟨rfl, N2, hh2⟩ := hQ2
  have e2 : T2.heap = h0 := hh2
  have fr2 := Fr.app fr1 N2
  show Go p e below m (Fini s 0 0 (fun v h L => v = some (.int (-1)) ∧ Fr n0 L ∧ h = h0)) T2 14 #[.val (.ref d), .val (.int (58 : Int32)), .val (.int (0 : Int32)), .val (.int (2 : Int32))] [(.int (0 : Int32))]
  refine s_istoreN A2 d20_14 (pc' := 15) rfl (ls' := #[.val (.ref d), .val (.int (58 : Int32)), .val (.int (0 : Int32)), .val (.int (2 : Int32))]) rfl ?_
  refine s_iloadN A2 d20_15 (pc' := 16) rfl rfl ?_
  refine s_aloadN A2 d20_16 (pc' := 17) rfl rfl rfl ?_
  refine g_len X2 hx hZ e2 D (n := (2 : Int32)) rfl (hb hby d20_17) (pc' := 18) rfl ?_
  refine g_static X2 hx hZ (y := (⟨"java/lang/Math", "min", "(II)I"⟩ : MethodName)) hown (hw _ (List.mem_of_getElem? (i := 102) rfl)) (hw _ (List.mem_of_getElem? (i := 103) rfl)) (hw _ (List.mem_of_getElem? (i := 100) rfl)) (hw _ (List.mem_of_getElem? (i := 104) rfl)) (by decide) (argsL := [(.int (2 : Int32)), (.int (2 : Int32))]) (rest := []) (c_min_2 l Z a0 hw [] h0 n0 Z0) pd_11 rfl rfl (hb hby d20_18) e2 (by rw [hml]; rfl) (pc' := 21) rfl (by decide) (W := 0) (Nat.le_of_eq rfl) (by decide) (by decide) (by decide) ?_
  intro v3 T3 L3 X3 hQ3
  have A3 := wk X3 hx hby
  have e3 : T3.heap = T3.heap := rfl
  obtain ⟨rfl, N3, hh3⟩ := hQ3
  have e3 : T3.heap = h0 := hh3
  have fr3 := Fr.app fr2 N3
  show Go p e below m (Fini s 0 0 (fun v h L => v = some (.int (-1)) ∧ Fr n0 L ∧ h = h0)) T3 21 #[.val (.ref d), .val (.int (58 : Int32)), .val (.int (0 : Int32)), .val (.int (2 : Int32))] [(.int (2 : Int32))]
  refine s_istoreN A3 d20_21 (pc' := 22) rfl (ls' := #[.val (.ref d), .val (.int (58 : Int32)), .val (.int (0 : Int32)), .val (.int (2 : Int32))]) rfl ?_
  refine s_iloadN A3 d20_22 (pc' := 23) rfl rfl ?_
  refine s_iloadN A3 d20_23 (pc' := 24) rfl rfl ?_
  refine s_icmplt A3 d20_24 (pY := 29) (pN := 27) (by decide) (by decide) rfl (fun _ => ?_) (fun c => absurd c (by decide))
  refine s_aloadN A3 d20_29 (pc' := 30) rfl rfl rfl ?_
  refine s_iloadN A3 d20_30 (pc' := 31) rfl rfl ?_
  refine s_iloadN A3 d20_31 (pc' := 32) rfl rfl ?_
  refine s_iloadN A3 d20_32 (pc' := 33) rfl rfl ?_
  refine g_static X3 hx hZ (y := (⟨"java/lang/StringLatin1", "indexOfChar", "([BIII)I"⟩ : MethodName)) hown (hw _ (List.mem_of_getElem? (i := 105) rfl)) (hw _ (List.mem_of_getElem? (i := 106) rfl)) (hw _ (List.mem_of_getElem? (i := 62) rfl)) (hw _ (List.mem_of_getElem? (i := 107) rfl)) (by decide) (argsL := [(.ref d), (.int (58 : Int32)), (.int (0 : Int32)), (.int (2 : Int32))]) (rest := []) (c_ioc_2 l Z a0 hw [] a d cz c0 c1 h0 n0 Z0 Ea Fv Fc D O SC hcz P0 P1) pd_12 rfl rfl (hb hby d20_33) e3 (by rw [hml]; rfl) (pc' := 36) rfl (by decide) (W := 0) (Nat.le_of_eq rfl) (by decide) (by decide) (by decide) ?_
  intro v4 T4 L4 X4 hQ4
  have A4 := wk X4 hx hby
  have e4 : T4.heap = T4.heap := rfl
  obtain ⟨rfl, N4, hh4⟩ := hQ4
  have e4 : T4.heap = h0 := hh4
  have fr4 := Fr.app fr3 N4
  show Go p e below m (Fini s 0 0 (fun v h L => v = some (.int (-1)) ∧ Fr n0 L ∧ h = h0)) T4 36 #[.val (.ref d), .val (.int (58 : Int32)), .val (.int (0 : Int32)), .val (.int (2 : Int32))] [(.int (-1 : Int32))]
  exact g_retI X4 hx hlk hret (hb hby d20_36) ⟨rfl, fr4, e4⟩ (by decide) (by decide)
theorem ef_c_io2_2 (m : MethodId) (x0 : Addr) (x1 : Int32) (x2 : Int32) : entryFrame m #[(.ref x0), (.int x1), (.int x2)] 3 = mkF m 0 #[.val (.ref x0), .val (.int x1), .val (.int x2)] [] := by first | (simp [entryFrame, mkF, argsToLocals, Value.category, maxLocals]; done) | rfl
set_option maxRecDepth 65536 in
set_option maxHeartbeats 40000000 in
theorem c_io2_2 (l : Launch) (Z : State) (a0 : Array Value) (hw : ∀ d ∈ tables_1, d.before a0 Z = true) (ws : List Jvm.Cond) (a d : Addr) (cz : Int32) (c0 c1 : Int32) (h0 : Heap) (n0 : Nat) (Z0 : n0 ≤ h0.size) (Ea : Exa Z h0 a "java/lang/String") (Fv : Fld Z h0 a "java/lang/String" "value" "[B" (.ref d)) (Fc : Fld Z h0 a "java/lang/String" "coder" "B" (.int 0)) (D : Ars Z h0 d .byte [(.int c0.toInt8.toInt32), (.int c1.toInt8.toInt32)]) (O : Old Z n0 h0) (SC : Sta Z Z.heap "java/lang/String" "COMPACT_STRINGS" "Z" (.int cz)) (hcz : ¬ cz = 0) (P0 : (c0.toInt8.toInt32).toInt ≠ 58) (P1 : (c1.toInt8.toInt32).toInt ≠ 58) :
    Ctr l Z (⟨"java/lang/String", "indexOf", "(II)I"⟩ : MethodName) jdk_42_method_80_code 3 (some .int) ws ({ frames := 2, cells := 0, slots := 0, locals := 32 } : Room) #[(.ref a), (.int (58 : Int32)), (.int (0 : Int32))] h0 (fun v h L => v = some (.int (-1)) ∧ Fr n0 L ∧ h = h0) := by
  refine enter pn_17 ?_
  intro p e s m below meth c T0 X0 hx hby hml hret hlk hZ hown hnm e0
  have A0 := wk X0 hx hby
  have N0 := Fr.nil n0
  refine goIn (ef_c_io2_2 m a (58 : Int32) (0 : Int32)) ?_
  show Go p e below m (Fini s 0 0 (fun v h L => v = some (.int (-1)) ∧ Fr n0 L ∧ h = h0)) T0 0 #[.val (.ref a), .val (.int (58 : Int32)), .val (.int (0 : Int32))] []
  refine s_aloadN A0 d17_0 (pc' := 1) rfl rfl rfl ?_
  refine g_virtual X0 hx hZ (y := (⟨"java/lang/String", "isLatin1", "()Z"⟩ : MethodName)) hown (hw _ (List.mem_of_getElem? (i := 55) rfl)) (hw _ (List.mem_of_getElem? (i := 56) rfl)) (hw _ (List.mem_of_getElem? (i := 58) rfl)) (hw _ (List.mem_of_getElem? (i := 57) rfl)) (hw _ (List.mem_of_getElem? (i := 7) rfl)) (hw _ (List.mem_of_getElem? (i := 59) rfl)) (by decide) Ea (argsL := []) (rest := []) (c_lat l Z a0 hw [] a cz h0 n0 Z0 Ea Fc O SC hcz) pd_8 rfl rfl (hb hby d17_1) e0 (by rw [hml]; rfl) (pc' := 4) rfl (by decide) (W := 0) (Nat.le_of_eq rfl) (by decide) (by decide) (by decide) ?_
  intro v1 T1 L1 X1 hQ1
  have A1 := wk X1 hx hby
  have e1 : T1.heap = T1.heap := rfl
  obtain ⟨rfl, N1, hh1⟩ := hQ1
  have e1 : T1.heap = h0 := hh1
  have fr1 := Fr.app N0 N1
  show Go p e below m (Fini s 0 0 (fun v h L => v = some (.int (-1)) ∧ Fr n0 L ∧ h = h0)) T1 4 #[.val (.ref a), .val (.int (58 : Int32)), .val (.int (0 : Int32))] [(.int (1 : Int32))]
  refine s_ifeq A1 d17_4 (pY := 23) (pN := 7) (by decide) (by decide) rfl (fun c => absurd c (by decide)) (fun _ => ?_)
  refine s_aloadN A1 d17_7 (pc' := 8) rfl rfl rfl ?_
  refine g_getF X1 hx hZ hown (hw _ (List.mem_of_getElem? (i := 25) rfl)) Via.refl e1 Fv (hb hby d17_8) (pc' := 11) rfl ?_
  intro T2 X2 e2
  have A2 := wk X2 hx hby
  refine s_iloadN A2 d17_11 (pc' := 12) rfl rfl ?_
  refine s_iloadN A2 d17_12 (pc' := 13) rfl rfl ?_
  refine s_aloadN A2 d17_13 (pc' := 14) rfl rfl rfl ?_
  refine g_virtual X2 hx hZ (y := (⟨"java/lang/String", "length", "()I"⟩ : MethodName)) hown (hw _ (List.mem_of_getElem? (i := 82) rfl)) (hw _ (List.mem_of_getElem? (i := 83) rfl)) (hw _ (List.mem_of_getElem? (i := 85) rfl)) (hw _ (List.mem_of_getElem? (i := 84) rfl)) (hw _ (List.mem_of_getElem? (i := 7) rfl)) (hw _ (List.mem_of_getElem? (i := 86) rfl)) (by decide) Ea (argsL := []) (rest := [(.int (0 : Int32)), (.int (58 : Int32)), (.ref d)]) (c_len_2 l Z a0 hw [] a d cz c0 c1 h0 n0 Z0 Ea Fv Fc D O SC hcz) pd_13 rfl rfl (hb hby d17_14) e2 (by rw [hml]; rfl) (pc' := 17) rfl (by decide) (W := 3) (Nat.le_of_eq rfl) (by decide) (by decide) (by decide) ?_
  intro v3 T3 L3 X3 hQ3
  have A3 := wk X3 hx hby
  have e3 : T3.heap = T3.heap := rfl
  obtain ⟨rfl, N3, hh3⟩ := hQ3
  have e3 : T3.heap = h0 := hh3
  have fr3 := Fr.app fr1 N3
  show Go p e below m (Fini s 0 0 (fun v h L => v = some (.int (-1)) ∧ Fr n0 L ∧ h = h0)) T3 17 #[.val (.ref a), .val (.int (58 : Int32)), .val (.int (0 : Int32))] [(.int (2 : Int32)), (.int (0 : Int32)), (.int (58 : Int32)), (.ref d)]
  refine g_static X3 hx hZ (y := (⟨"java/lang/StringLatin1", "indexOf", "([BIII)I"⟩ : MethodName)) hown (hw _ (List.mem_of_getElem? (i := 92) rfl)) (hw _ (List.mem_of_getElem? (i := 93) rfl)) (hw _ (List.mem_of_getElem? (i := 62) rfl)) (hw _ (List.mem_of_getElem? (i := 94) rfl)) (by decide) (argsL := [(.ref d), (.int (58 : Int32)), (.int (0 : Int32)), (.int (2 : Int32))]) (rest := []) (c_iol_2 l Z a0 hw [] a d cz c0 c1 h0 n0 Z0 Ea Fv Fc D O SC hcz P0 P1) pd_12 rfl rfl (hb hby d17_17) e3 (by rw [hml]; rfl) (pc' := 20) rfl (by decide) (W := 0) (Nat.le_of_eq rfl) (by decide) (by decide) (by decide) ?_
  intro v4 T4 L4 X4 hQ4
  have A4 := wk X4 hx hby
  have e4 : T4.heap = T4.heap := rfl
  obtain ⟨rfl, N4, hh4⟩ := hQ4
  have e4 : T4.heap = h0 := hh4
  have fr4 := Fr.app fr3 N4
  show Go p e below m (Fini s 0 0 (fun v h L => v = some (.int (-1)) ∧ Fr n0 L ∧ h = h0)) T4 20 #[.val (.ref a), .val (.int (58 : Int32)), .val (.int (0 : Int32))] [(.int (-1 : Int32))]
  refine s_goto A4 d17_20 (pc' := 36) (by decide) (by decide) ?_
  exact g_retI X4 hx hlk hret (hb hby d17_36) ⟨rfl, fr4, e4⟩ (by decide) (by decide)
theorem ef_c_io1_2 (m : MethodId) (x0 : Addr) (x1 : Int32) : entryFrame m #[(.ref x0), (.int x1)] 2 = mkF m 0 #[.val (.ref x0), .val (.int x1)] [] := by first | (simp [entryFrame, mkF, argsToLocals, Value.category, maxLocals]; done) | rfl
set_option maxRecDepth 65536 in
set_option maxHeartbeats 40000000 in
theorem c_io1_2 (l : Launch) (Z : State) (a0 : Array Value) (hw : ∀ d ∈ tables_1, d.before a0 Z = true) (ws : List Jvm.Cond) (a d : Addr) (cz : Int32) (c0 c1 : Int32) (h0 : Heap) (n0 : Nat) (Z0 : n0 ≤ h0.size) (Ea : Exa Z h0 a "java/lang/String") (Fv : Fld Z h0 a "java/lang/String" "value" "[B" (.ref d)) (Fc : Fld Z h0 a "java/lang/String" "coder" "B" (.int 0)) (D : Ars Z h0 d .byte [(.int c0.toInt8.toInt32), (.int c1.toInt8.toInt32)]) (O : Old Z n0 h0) (SC : Sta Z Z.heap "java/lang/String" "COMPACT_STRINGS" "Z" (.int cz)) (hcz : ¬ cz = 0) (P0 : (c0.toInt8.toInt32).toInt ≠ 58) (P1 : (c1.toInt8.toInt32).toInt ≠ 58) :
    Ctr l Z (⟨"java/lang/String", "indexOf", "(I)I"⟩ : MethodName) jdk_42_method_79_code 2 (some .int) ws ({ frames := 3, cells := 0, slots := 0, locals := 46 } : Room) #[(.ref a), (.int (58 : Int32))] h0 (fun v h L => v = some (.int (-1)) ∧ Fr n0 L ∧ h = h0) := by
  refine enter pn_16 ?_
  intro p e s m below meth c T0 X0 hx hby hml hret hlk hZ hown hnm e0
  have A0 := wk X0 hx hby
  have N0 := Fr.nil n0
  refine goIn (ef_c_io1_2 m a (58 : Int32)) ?_
  show Go p e below m (Fini s 0 0 (fun v h L => v = some (.int (-1)) ∧ Fr n0 L ∧ h = h0)) T0 0 #[.val (.ref a), .val (.int (58 : Int32))] []
  refine s_aloadN A0 d16_0 (pc' := 1) rfl rfl rfl ?_
  refine s_iloadN A0 d16_1 (pc' := 2) rfl rfl ?_
  refine s_iconst A0 d16_2 (pc' := 3) rfl (v := (0 : Int32)) (by decide) ?_
  refine g_virtual X0 hx hZ (y := (⟨"java/lang/String", "indexOf", "(II)I"⟩ : MethodName)) hown (hw _ (List.mem_of_getElem? (i := 77) rfl)) (hw _ (List.mem_of_getElem? (i := 78) rfl)) (hw _ (List.mem_of_getElem? (i := 80) rfl)) (hw _ (List.mem_of_getElem? (i := 79) rfl)) (hw _ (List.mem_of_getElem? (i := 7) rfl)) (hw _ (List.mem_of_getElem? (i := 81) rfl)) (by decide) Ea (argsL := [(.int (58 : Int32)), (.int (0 : Int32))]) (rest := []) (c_io2_2 l Z a0 hw [] a d cz c0 c1 h0 n0 Z0 Ea Fv Fc D O SC hcz P0 P1) pd_11 rfl rfl (hb hby d16_3) e0 (by rw [hml]; rfl) (pc' := 6) rfl (by decide) (W := 0) (Nat.le_of_eq rfl) (by decide) (by decide) (by decide) ?_
  intro v1 T1 L1 X1 hQ1
  have A1 := wk X1 hx hby
  have e1 : T1.heap = T1.heap := rfl
  obtain ⟨rfl, N1, hh1⟩ := hQ1
  have e1 : T1.heap = h0 := hh1
  have fr1 := Fr.app N0 N1
  show Go p e below m (Fini s 0 0 (fun v h L => v = some (.int (-1)) ∧ Fr n0 L ∧ h = h0)) T1 6 #[.val (.ref a), .val (.int (58 : Int32))] [(.int (-1 : Int32))]
  exact g_retI X1 hx hlk hret (hb hby d16_6) ⟨rfl, fr1, e1⟩ (by decide) (by decide)
theorem ef_c_pk_2 (m : MethodId) (x0 : Addr) : entryFrame m #[(.ref x0)] 1 = mkF m 0 #[.val (.ref x0)] [] := by first | (simp [entryFrame, mkF, argsToLocals, Value.category, maxLocals]; done) | rfl
set_option maxRecDepth 65536 in
set_option maxHeartbeats 40000000 in
theorem c_pk_2 (l : Launch) (Z : State) (a0 : Array Value) (hw : ∀ d ∈ tables_1, d.before a0 Z = true) (ws : List Jvm.Cond) (a d : Addr) (cz : Int32) (c0 c1 : Int32) (fv : Value) (h0 : Heap) (n0 : Nat) (Z0 : n0 ≤ h0.size) (Ea : Exa Z h0 a "java/lang/String") (Fv : Fld Z h0 a "java/lang/String" "value" "[B" (.ref d)) (Fc : Fld Z h0 a "java/lang/String" "coder" "B" (.int 0)) (D : Ars Z h0 d .byte [(.int c0.toInt8.toInt32), (.int c1.toInt8.toInt32)]) (O : Old Z n0 h0) (SC : Sta Z Z.heap "java/lang/String" "COMPACT_STRINGS" "Z" (.int cz)) (hcz : ¬ cz = 0) (SF : Sta Z Z.heap "jdk/internal/util/Preconditions" "SIOOBE_FORMATTER" "Ljava/util/function/BiFunction;" fv) (hfv : fv = .null ∨ ∃ f, fv = .ref f) (C0 : 0 ≤ c0.toInt ∧ c0.toInt ≤ 255) (C1 : 0 ≤ c1.toInt ∧ c1.toInt ≤ 255) (P0 : (c0.toInt8.toInt32).toInt ≠ 58) (P1 : (c1.toInt8.toInt32).toInt ≠ 58) (H95 : c0.toInt ≠ 95) :
    Ctr l Z (⟨"com/example/divvy/divvy/document/DocumentId", "partitionKey", "(Ljava/lang/String;)Ljava/lang/String;"⟩ : MethodName) prog_20_method_3_code 1 (some (.object "java/lang/String")) ws ({ frames := 4, cells := 0, slots := 0, locals := 59 } : Room) #[(.ref a)] h0 (fun v h L => v = some (.ref a) ∧ Fr n0 L ∧ h = h0) := by
  refine enter pn_9 ?_
  intro p e s m below meth c T0 X0 hx hby hml hret hlk hZ hown hnm e0
  have A0 := wk X0 hx hby
  have N0 := Fr.nil n0
  refine goIn (ef_c_pk_2 m a) ?_
  show Go p e below m (Fini s 0 0 (fun v h L => v = some (.ref a) ∧ Fr n0 L ∧ h = h0)) T0 0 #[.val (.ref a)] []
  refine s_aloadN A0 d9_0 (pc' := 1) rfl rfl rfl ?_
  refine g_virtual X0 hx hZ (y := (⟨"java/lang/String", "isEmpty", "()Z"⟩ : MethodName)) hown (hw _ (List.mem_of_getElem? (i := 45) rfl)) (hw _ (List.mem_of_getElem? (i := 46) rfl)) (hw _ (List.mem_of_getElem? (i := 48) rfl)) (hw _ (List.mem_of_getElem? (i := 47) rfl)) (hw _ (List.mem_of_getElem? (i := 7) rfl)) (hw _ (List.mem_of_getElem? (i := 49) rfl)) (by decide) Ea (argsL := []) (rest := []) (c_ise_2 l Z a0 hw [] a d cz c0 c1 h0 n0 Z0 Ea Fv Fc D O SC hcz) pd_8 rfl rfl (hb hby d9_1) e0 (by rw [hml]; rfl) (pc' := 4) rfl (by decide) (W := 0) (Nat.le_of_eq rfl) (by decide) (by decide) (by decide) ?_
  intro v1 T1 L1 X1 hQ1
  have A1 := wk X1 hx hby
  have e1 : T1.heap = T1.heap := rfl
  obtain ⟨rfl, N1, hh1⟩ := hQ1
  have e1 : T1.heap = h0 := hh1
  have fr1 := Fr.app N0 N1
  show Go p e below m (Fini s 0 0 (fun v h L => v = some (.ref a) ∧ Fr n0 L ∧ h = h0)) T1 4 #[.val (.ref a)] [(.int (0 : Int32))]
  refine s_ifeq A1 d9_4 (pY := 17) (pN := 7) (by decide) (by decide) rfl (fun _ => ?_) (fun c => absurd c (by decide))
  refine s_aloadN A1 d9_17 (pc' := 18) rfl rfl rfl ?_
  refine s_iconst A1 d9_18 (pc' := 19) rfl (v := (0 : Int32)) (by decide) ?_
  refine g_virtual X1 hx hZ (y := (⟨"java/lang/String", "charAt", "(I)C"⟩ : MethodName)) hown (hw _ (List.mem_of_getElem? (i := 50) rfl)) (hw _ (List.mem_of_getElem? (i := 51) rfl)) (hw _ (List.mem_of_getElem? (i := 53) rfl)) (hw _ (List.mem_of_getElem? (i := 52) rfl)) (hw _ (List.mem_of_getElem? (i := 7) rfl)) (hw _ (List.mem_of_getElem? (i := 54) rfl)) (by decide) Ea (argsL := [(.int (0 : Int32))]) (rest := []) (c_cha_0_2 l Z a0 hw [] a d cz c0 c1 fv h0 n0 Z0 Ea Fv Fc D O SC hcz SF hfv C0 C1) pd_14 rfl rfl (hb hby d9_19) e1 (by rw [hml]; rfl) (pc' := 22) rfl (by decide) (W := 0) (Nat.le_of_eq rfl) (by decide) (by decide) (by decide) ?_
  intro v2 T2 L2 X2 hQ2
  have A2 := wk X2 hx hby
  have e2 : T2.heap = T2.heap := rfl
  obtain ⟨rfl, N2, hh2⟩ := hQ2
  have e2 : T2.heap = h0 := hh2
  have fr2 := Fr.app fr1 N2
  show Go p e below m (Fini s 0 0 (fun v h L => v = some (.ref a) ∧ Fr n0 L ∧ h = h0)) T2 22 #[.val (.ref a)] [(.int c0)]
  refine s_bipush A2 d9_22 (pc' := 24) rfl (v := (95 : Int32)) (by decide) ?_
  refine s_icmpne A2 d9_24 (pY := 37) (pN := 27) (by decide) (by decide) rfl ?_ ?_
  · intro c24
    replace c24 := i_ne c24
    rw [show (95 : Int32).toInt = 95 from by decide] at c24
    refine s_aloadN A2 d9_37 (pc' := 38) rfl rfl rfl ?_
    refine s_bipush A2 d9_38 (pc' := 40) rfl (v := (58 : Int32)) (by decide) ?_
    refine g_virtual X2 hx hZ (y := (⟨"java/lang/String", "indexOf", "(I)I"⟩ : MethodName)) hown (hw _ (List.mem_of_getElem? (i := 72) rfl)) (hw _ (List.mem_of_getElem? (i := 73) rfl)) (hw _ (List.mem_of_getElem? (i := 75) rfl)) (hw _ (List.mem_of_getElem? (i := 74) rfl)) (hw _ (List.mem_of_getElem? (i := 7) rfl)) (hw _ (List.mem_of_getElem? (i := 76) rfl)) (by decide) Ea (argsL := [(.int (58 : Int32))]) (rest := []) (c_io1_2 l Z a0 hw [] a d cz c0 c1 h0 n0 Z0 Ea Fv Fc D O SC hcz P0 P1) pd_15 rfl rfl (hb hby d9_40) e2 (by rw [hml]; rfl) (pc' := 43) rfl (by decide) (W := 0) (Nat.le_of_eq rfl) (by decide) (by decide) (by decide) ?_
    intro v3 T3 L3 X3 hQ3
    have A3 := wk X3 hx hby
    have e3 : T3.heap = T3.heap := rfl
    obtain ⟨rfl, N3, hh3⟩ := hQ3
    have e3 : T3.heap = h0 := hh3
    have fr3 := Fr.app fr2 N3
    show Go p e below m (Fini s 0 0 (fun v h L => v = some (.ref a) ∧ Fr n0 L ∧ h = h0)) T3 43 #[.val (.ref a)] [(.int (-1 : Int32))]
    refine s_iflt A3 d9_43 (pY := 56) (pN := 46) (by decide) (by decide) rfl (fun _ => ?_) (fun c => absurd c (by decide))
    refine s_aloadN A3 d9_56 (pc' := 57) rfl rfl rfl ?_
    exact g_retA X3 hx hlk hret rfl rfl rfl (hb hby d9_57) ⟨rfl, fr3, e3⟩ (by decide) (by decide)
  · intro c24
    replace c24 := i_eq c24
    rw [show (95 : Int32).toInt = 95 from by decide] at c24
    exact absurd c24 H95
theorem ef_c_ise_3 (m : MethodId) (x0 : Addr) : entryFrame m #[(.ref x0)] 1 = mkF m 0 #[.val (.ref x0)] [] := by first | (simp [entryFrame, mkF, argsToLocals, Value.category, maxLocals]; done) | rfl
set_option maxRecDepth 65536 in
set_option maxHeartbeats 40000000 in
theorem c_ise_3 (l : Launch) (Z : State) (a0 : Array Value) (hw : ∀ d ∈ tables_1, d.before a0 Z = true) (ws : List Jvm.Cond) (a d : Addr) (cz : Int32) (c0 c1 c2 : Int32) (h0 : Heap) (n0 : Nat) (Z0 : n0 ≤ h0.size) (Ea : Exa Z h0 a "java/lang/String") (Fv : Fld Z h0 a "java/lang/String" "value" "[B" (.ref d)) (Fc : Fld Z h0 a "java/lang/String" "coder" "B" (.int 0)) (D : Ars Z h0 d .byte [(.int c0.toInt8.toInt32), (.int c1.toInt8.toInt32), (.int c2.toInt8.toInt32)]) (O : Old Z n0 h0) (SC : Sta Z Z.heap "java/lang/String" "COMPACT_STRINGS" "Z" (.int cz)) (hcz : ¬ cz = 0) :
    Ctr l Z (⟨"java/lang/String", "isEmpty", "()Z"⟩ : MethodName) jdk_42_method_55_code 1 (some .boolean) ws ({ frames := 0, cells := 0, slots := 0, locals := 0 } : Room) #[(.ref a)] h0 (fun v h L => v = some (.int 0) ∧ Fr n0 L ∧ h = h0) := by
  refine enter pn_10 ?_
  intro p e s m below meth c T0 X0 hx hby hml hret hlk hZ hown hnm e0
  have A0 := wk X0 hx hby
  have N0 := Fr.nil n0
  refine goIn (ef_c_ise_3 m a) ?_
  show Go p e below m (Fini s 0 0 (fun v h L => v = some (.int 0) ∧ Fr n0 L ∧ h = h0)) T0 0 #[.val (.ref a)] []
  refine s_aloadN A0 d10_0 (pc' := 1) rfl rfl rfl ?_
  refine g_getF X0 hx hZ hown (hw _ (List.mem_of_getElem? (i := 25) rfl)) Via.refl e0 Fv (hb hby d10_1) (pc' := 4) rfl ?_
  intro T1 X1 e1
  have A1 := wk X1 hx hby
  refine g_len X1 hx hZ e1 D (n := (3 : Int32)) rfl (hb hby d10_4) (pc' := 5) rfl ?_
  refine s_ifne A1 d10_5 (pY := 12) (pN := 8) (by decide) (by decide) rfl (fun _ => ?_) (fun c => absurd c (by decide))
  refine s_iconst A1 d10_12 (pc' := 13) rfl (v := (0 : Int32)) (by decide) ?_
  exact g_retZ X1 hx hlk hret (by decide) (hb hby d10_13) ⟨rfl, N0, e1⟩ (by decide) (by decide)
theorem ef_c_len_3 (m : MethodId) (x0 : Addr) : entryFrame m #[(.ref x0)] 1 = mkF m 0 #[.val (.ref x0)] [] := by first | (simp [entryFrame, mkF, argsToLocals, Value.category, maxLocals]; done) | rfl
set_option maxRecDepth 65536 in
set_option maxHeartbeats 40000000 in
theorem c_len_3 (l : Launch) (Z : State) (a0 : Array Value) (hw : ∀ d ∈ tables_1, d.before a0 Z = true) (ws : List Jvm.Cond) (a d : Addr) (cz : Int32) (c0 c1 c2 : Int32) (h0 : Heap) (n0 : Nat) (Z0 : n0 ≤ h0.size) (Ea : Exa Z h0 a "java/lang/String") (Fv : Fld Z h0 a "java/lang/String" "value" "[B" (.ref d)) (Fc : Fld Z h0 a "java/lang/String" "coder" "B" (.int 0)) (D : Ars Z h0 d .byte [(.int c0.toInt8.toInt32), (.int c1.toInt8.toInt32), (.int c2.toInt8.toInt32)]) (O : Old Z n0 h0) (SC : Sta Z Z.heap "java/lang/String" "COMPACT_STRINGS" "Z" (.int cz)) (hcz : ¬ cz = 0) :
    Ctr l Z (⟨"java/lang/String", "length", "()I"⟩ : MethodName) jdk_42_method_54_code 1 (some .int) ws ({ frames := 1, cells := 0, slots := 0, locals := 13 } : Room) #[(.ref a)] h0 (fun v h L => v = some (.int 3) ∧ Fr n0 L ∧ h = h0) := by
  refine enter pn_18 ?_
  intro p e s m below meth c T0 X0 hx hby hml hret hlk hZ hown hnm e0
  have A0 := wk X0 hx hby
  have N0 := Fr.nil n0
  refine goIn (ef_c_len_3 m a) ?_
  show Go p e below m (Fini s 0 0 (fun v h L => v = some (.int 3) ∧ Fr n0 L ∧ h = h0)) T0 0 #[.val (.ref a)] []
  refine s_aloadN A0 d18_0 (pc' := 1) rfl rfl rfl ?_
  refine g_getF X0 hx hZ hown (hw _ (List.mem_of_getElem? (i := 25) rfl)) Via.refl e0 Fv (hb hby d18_1) (pc' := 4) rfl ?_
  intro T1 X1 e1
  have A1 := wk X1 hx hby
  refine g_len X1 hx hZ e1 D (n := (3 : Int32)) rfl (hb hby d18_4) (pc' := 5) rfl ?_
  refine s_aloadN A1 d18_5 (pc' := 6) rfl rfl rfl ?_
  refine g_virtual X1 hx hZ (y := (⟨"java/lang/String", "coder", "()B"⟩ : MethodName)) hown (hw _ (List.mem_of_getElem? (i := 87) rfl)) (hw _ (List.mem_of_getElem? (i := 88) rfl)) (hw _ (List.mem_of_getElem? (i := 90) rfl)) (hw _ (List.mem_of_getElem? (i := 89) rfl)) (hw _ (List.mem_of_getElem? (i := 7) rfl)) (hw _ (List.mem_of_getElem? (i := 91) rfl)) (by decide) Ea (argsL := []) (rest := [(.int (3 : Int32))]) (c_cod0 l Z a0 hw [] a cz h0 n0 Z0 Ea Fc O SC hcz) pd_5 rfl rfl (hb hby d18_6) e1 (by rw [hml]; rfl) (pc' := 9) rfl (by decide) (W := 1) (Nat.le_of_eq rfl) (by decide) (by decide) (by decide) ?_
  intro v2 T2 L2 X2 hQ2
  have A2 := wk X2 hx hby
  have e2 : T2.heap = T2.heap := rfl
  obtain ⟨rfl, N2, hh2⟩ := hQ2
  have e2 : T2.heap = h0 := hh2
  have fr2 := Fr.app N0 N2
  show Go p e below m (Fini s 0 0 (fun v h L => v = some (.int 3) ∧ Fr n0 L ∧ h = h0)) T2 9 #[.val (.ref a)] [(.int (0 : Int32)), (.int (3 : Int32))]
  refine s_ishr A2 d18_9 (pc' := 10) rfl (v := (3 : Int32)) (by decide) ?_
  exact g_retI X2 hx hlk hret (hb hby d18_10) ⟨rfl, fr2, e2⟩ (by decide) (by decide)
theorem ef_c_pciN_0_3 (m : MethodId) (x0 : Int32) (x1 : Int32) : entryFrame m #[(.int x0), (.int x1), .null] 3 = mkF m 0 #[.val (.int x0), .val (.int x1), .val .null] [] := by first | (simp [entryFrame, mkF, argsToLocals, Value.category, maxLocals]; done) | rfl
set_option maxRecDepth 65536 in
set_option maxHeartbeats 40000000 in
theorem c_pciN_0_3 (l : Launch) (Z : State) (a0 : Array Value) (hw : ∀ d ∈ tables_1, d.before a0 Z = true) (ws : List Jvm.Cond)  (h0 : Heap) (n0 : Nat) (Z0 : n0 ≤ h0.size)  :
    Ctr l Z (⟨"jdk/internal/util/Preconditions", "checkIndex", "(IILjava/util/function/BiFunction;)I"⟩ : MethodName) jdk_41_method_11_code 3 (some .int) ws ({ frames := 0, cells := 0, slots := 0, locals := 0 } : Room) #[(.int (0 : Int32)), (.int (3 : Int32)), .null] h0 (fun v h L => v = some (.int 0) ∧ Fr n0 L ∧ h = h0) := by
  refine enter pn_15 ?_
  intro p e s m below meth c T0 X0 hx hby hml hret hlk hZ hown hnm e0
  have A0 := wk X0 hx hby
  have N0 := Fr.nil n0
  refine goIn (ef_c_pciN_0_3 m (0 : Int32) (3 : Int32)) ?_
  show Go p e below m (Fini s 0 0 (fun v h L => v = some (.int 0) ∧ Fr n0 L ∧ h = h0)) T0 0 #[.val (.int (0 : Int32)), .val (.int (3 : Int32)), .val .null] []
  refine s_iloadN A0 d15_0 (pc' := 1) rfl rfl ?_
  refine s_iflt A0 d15_1 (pY := 9) (pN := 4) (by decide) (by decide) rfl (fun c => absurd c (by decide)) (fun _ => ?_)
  refine s_iloadN A0 d15_4 (pc' := 5) rfl rfl ?_
  refine s_iloadN A0 d15_5 (pc' := 6) rfl rfl ?_
  refine s_icmplt A0 d15_6 (pY := 16) (pN := 9) (by decide) (by decide) rfl (fun _ => ?_) (fun c => absurd c (by decide))
  refine s_iloadN A0 d15_16 (pc' := 17) rfl rfl ?_
  exact g_retI X0 hx hlk hret (hb hby d15_17) ⟨rfl, N0, e0⟩ (by decide) (by decide)
theorem ef_c_pciA_0_3 (m : MethodId) (x0 : Int32) (x1 : Int32) (x2 : Addr) : entryFrame m #[(.int x0), (.int x1), (.ref x2)] 3 = mkF m 0 #[.val (.int x0), .val (.int x1), .val (.ref x2)] [] := by first | (simp [entryFrame, mkF, argsToLocals, Value.category, maxLocals]; done) | rfl
set_option maxRecDepth 65536 in
set_option maxHeartbeats 40000000 in
theorem c_pciA_0_3 (l : Launch) (Z : State) (a0 : Array Value) (hw : ∀ d ∈ tables_1, d.before a0 Z = true) (ws : List Jvm.Cond) (f : Addr) (h0 : Heap) (n0 : Nat) (Z0 : n0 ≤ h0.size)  :
    Ctr l Z (⟨"jdk/internal/util/Preconditions", "checkIndex", "(IILjava/util/function/BiFunction;)I"⟩ : MethodName) jdk_41_method_11_code 3 (some .int) ws ({ frames := 0, cells := 0, slots := 0, locals := 0 } : Room) #[(.int (0 : Int32)), (.int (3 : Int32)), (.ref f)] h0 (fun v h L => v = some (.int 0) ∧ Fr n0 L ∧ h = h0) := by
  refine enter pn_15 ?_
  intro p e s m below meth c T0 X0 hx hby hml hret hlk hZ hown hnm e0
  have A0 := wk X0 hx hby
  have N0 := Fr.nil n0
  refine goIn (ef_c_pciA_0_3 m (0 : Int32) (3 : Int32) f) ?_
  show Go p e below m (Fini s 0 0 (fun v h L => v = some (.int 0) ∧ Fr n0 L ∧ h = h0)) T0 0 #[.val (.int (0 : Int32)), .val (.int (3 : Int32)), .val (.ref f)] []
  refine s_iloadN A0 d15_0 (pc' := 1) rfl rfl ?_
  refine s_iflt A0 d15_1 (pY := 9) (pN := 4) (by decide) (by decide) rfl (fun c => absurd c (by decide)) (fun _ => ?_)
  refine s_iloadN A0 d15_4 (pc' := 5) rfl rfl ?_
  refine s_iloadN A0 d15_5 (pc' := 6) rfl rfl ?_
  refine s_icmplt A0 d15_6 (pY := 16) (pN := 9) (by decide) (by decide) rfl (fun _ => ?_) (fun c => absurd c (by decide))
  refine s_iloadN A0 d15_16 (pc' := 17) rfl rfl ?_
  exact g_retI X0 hx hlk hret (hb hby d15_17) ⟨rfl, N0, e0⟩ (by decide) (by decide)
theorem ef_c_chk_0_3 (m : MethodId) (x0 : Int32) (x1 : Int32) : entryFrame m #[(.int x0), (.int x1)] 2 = mkF m 0 #[.val (.int x0), .val (.int x1)] [] := by first | (simp [entryFrame, mkF, argsToLocals, Value.category, maxLocals]; done) | rfl
set_option maxRecDepth 65536 in
set_option maxHeartbeats 40000000 in
theorem c_chk_0_3 (l : Launch) (Z : State) (a0 : Array Value) (hw : ∀ d ∈ tables_1, d.before a0 Z = true) (ws : List Jvm.Cond) (fv : Value) (h0 : Heap) (n0 : Nat) (Z0 : n0 ≤ h0.size) (O : Old Z n0 h0) (SF : Sta Z Z.heap "jdk/internal/util/Preconditions" "SIOOBE_FORMATTER" "Ljava/util/function/BiFunction;" fv) (hfv : fv = .null ∨ ∃ f, fv = .ref f) :
    Ctr l Z (⟨"java/lang/String", "checkIndex", "(II)V"⟩ : MethodName) jdk_42_method_155_code 2 none ws ({ frames := 1, cells := 0, slots := 0, locals := 14 } : Room) #[(.int (0 : Int32)), (.int (3 : Int32))] h0 (fun v h L => v = none ∧ Fr n0 L ∧ h = h0) := by
  refine enter pn_14 ?_
  intro p e s m below meth c T0 X0 hx hby hml hret hlk hZ hown hnm e0
  have A0 := wk X0 hx hby
  have N0 := Fr.nil n0
  refine goIn (ef_c_chk_0_3 m (0 : Int32) (3 : Int32)) ?_
  show Go p e below m (Fini s 0 0 (fun v h L => v = none ∧ Fr n0 L ∧ h = h0)) T0 0 #[.val (.int (0 : Int32)), .val (.int (3 : Int32))] []
  rcases hfv with rfl | ⟨f, rfl⟩
  ·
    refine s_iloadN A0 d14_0 (pc' := 1) rfl rfl ?_
    refine s_iloadN A0 d14_1 (pc' := 2) rfl rfl ?_
    have Sf := Sta.ext O.2 SF
    refine g_getS X0 hx hZ hown (hw _ (List.mem_of_getElem? (i := 67) rfl)) Via.refl e0 Sf (hb hby d14_2) (pc' := 5) rfl ?_
    intro T1 X1 e1
    have A1 := wk X1 hx hby
    refine g_static X1 hx hZ (y := (⟨"jdk/internal/util/Preconditions", "checkIndex", "(IILjava/util/function/BiFunction;)I"⟩ : MethodName)) hown (hw _ (List.mem_of_getElem? (i := 69) rfl)) (hw _ (List.mem_of_getElem? (i := 70) rfl)) (hw _ (List.mem_of_getElem? (i := 68) rfl)) (hw _ (List.mem_of_getElem? (i := 71) rfl)) (by decide) (argsL := [(.int (0 : Int32)), (.int (3 : Int32)), .null]) (rest := []) (c_pciN_0_3 l Z a0 hw []  h0 n0 Z0) pd_6 rfl rfl (hb hby d14_5) e1 (by rw [hml]; rfl) (pc' := 8) rfl (by decide) (W := 0) (Nat.le_of_eq rfl) (by decide) (by decide) (by decide) ?_
    intro v2 T2 L2 X2 hQ2
    have A2 := wk X2 hx hby
    have e2 : T2.heap = T2.heap := rfl
    obtain ⟨rfl, N2, hh2⟩ := hQ2
    have e2 : T2.heap = h0 := hh2
    have fr2 := Fr.app N0 N2
    show Go p e below m (Fini s 0 0 (fun v h L => v = none ∧ Fr n0 L ∧ h = h0)) T2 8 #[.val (.int (0 : Int32)), .val (.int (3 : Int32))] [(.int (0 : Int32))]
    refine s_pop A2 d14_8 (pc' := 9) rfl rfl ?_
    exact g_retV X2 hx hlk hret (hb hby d14_9) ⟨rfl, fr2, e2⟩ (by decide) (by decide)
  refine s_iloadN A0 d14_0 (pc' := 1) rfl rfl ?_
  refine s_iloadN A0 d14_1 (pc' := 2) rfl rfl ?_
  have Sf := Sta.ext O.2 SF
  refine g_getS X0 hx hZ hown (hw _ (List.mem_of_getElem? (i := 67) rfl)) Via.refl e0 Sf (hb hby d14_2) (pc' := 5) rfl ?_
  intro T53 X53 e53
  have A53 := wk X53 hx hby
  refine g_static X53 hx hZ (y := (⟨"jdk/internal/util/Preconditions", "checkIndex", "(IILjava/util/function/BiFunction;)I"⟩ : MethodName)) hown (hw _ (List.mem_of_getElem? (i := 69) rfl)) (hw _ (List.mem_of_getElem? (i := 70) rfl)) (hw _ (List.mem_of_getElem? (i := 68) rfl)) (hw _ (List.mem_of_getElem? (i := 71) rfl)) (by decide) (argsL := [(.int (0 : Int32)), (.int (3 : Int32)), (.ref f)]) (rest := []) (c_pciA_0_3 l Z a0 hw [] f h0 n0 Z0) pd_6 rfl rfl (hb hby d14_5) e53 (by rw [hml]; rfl) (pc' := 8) rfl (by decide) (W := 0) (Nat.le_of_eq rfl) (by decide) (by decide) (by decide) ?_
  intro v54 T54 L54 X54 hQ54
  have A54 := wk X54 hx hby
  have e54 : T54.heap = T54.heap := rfl
  obtain ⟨rfl, N54, hh54⟩ := hQ54
  have e54 : T54.heap = h0 := hh54
  have fr54 := Fr.app N0 N54
  show Go p e below m (Fini s 0 0 (fun v h L => v = none ∧ Fr n0 L ∧ h = h0)) T54 8 #[.val (.int (0 : Int32)), .val (.int (3 : Int32))] [(.int (0 : Int32))]
  refine s_pop A54 d14_8 (pc' := 9) rfl rfl ?_
  exact g_retV X54 hx hlk hret (hb hby d14_9) ⟨rfl, fr54, e54⟩ (by decide) (by decide)
theorem ef_c_l1c_0_3 (m : MethodId) (x0 : Addr) (x1 : Int32) : entryFrame m #[(.ref x0), (.int x1)] 2 = mkF m 0 #[.val (.ref x0), .val (.int x1)] [] := by first | (simp [entryFrame, mkF, argsToLocals, Value.category, maxLocals]; done) | rfl
set_option maxRecDepth 65536 in
set_option maxHeartbeats 40000000 in
theorem c_l1c_0_3 (l : Launch) (Z : State) (a0 : Array Value) (hw : ∀ d ∈ tables_1, d.before a0 Z = true) (ws : List Jvm.Cond) (a d : Addr) (cz : Int32) (c0 c1 c2 : Int32) (fv : Value) (h0 : Heap) (n0 : Nat) (Z0 : n0 ≤ h0.size) (Ea : Exa Z h0 a "java/lang/String") (Fv : Fld Z h0 a "java/lang/String" "value" "[B" (.ref d)) (Fc : Fld Z h0 a "java/lang/String" "coder" "B" (.int 0)) (D : Ars Z h0 d .byte [(.int c0.toInt8.toInt32), (.int c1.toInt8.toInt32), (.int c2.toInt8.toInt32)]) (O : Old Z n0 h0) (SC : Sta Z Z.heap "java/lang/String" "COMPACT_STRINGS" "Z" (.int cz)) (hcz : ¬ cz = 0) (SF : Sta Z Z.heap "jdk/internal/util/Preconditions" "SIOOBE_FORMATTER" "Ljava/util/function/BiFunction;" fv) (hfv : fv = .null ∨ ∃ f, fv = .ref f) (C0 : 0 ≤ c0.toInt ∧ c0.toInt ≤ 255) (C1 : 0 ≤ c1.toInt ∧ c1.toInt ≤ 255) (C2 : 0 ≤ c2.toInt ∧ c2.toInt ≤ 255) :
    Ctr l Z (⟨"java/lang/StringLatin1", "charAt", "([BI)C"⟩ : MethodName) jdk_43_method_2_code 2 (some .char) ws ({ frames := 2, cells := 0, slots := 0, locals := 27 } : Room) #[(.ref d), (.int (0 : Int32))] h0 (fun v h L => v = some (.int c0) ∧ Fr n0 L ∧ h = h0) := by
  refine enter pn_13 ?_
  intro p e s m below meth c T0 X0 hx hby hml hret hlk hZ hown hnm e0
  have A0 := wk X0 hx hby
  have N0 := Fr.nil n0
  refine goIn (ef_c_l1c_0_3 m d (0 : Int32)) ?_
  show Go p e below m (Fini s 0 0 (fun v h L => v = some (.int c0) ∧ Fr n0 L ∧ h = h0)) T0 0 #[.val (.ref d), .val (.int (0 : Int32))] []
  refine s_iloadN A0 d13_0 (pc' := 1) rfl rfl ?_
  refine s_aloadN A0 d13_1 (pc' := 2) rfl rfl rfl ?_
  refine g_len X0 hx hZ e0 D (n := (3 : Int32)) rfl (hb hby d13_2) (pc' := 3) rfl ?_
  refine g_static X0 hx hZ (y := (⟨"java/lang/String", "checkIndex", "(II)V"⟩ : MethodName)) hown (hw _ (List.mem_of_getElem? (i := 64) rfl)) (hw _ (List.mem_of_getElem? (i := 65) rfl)) (hw _ (List.mem_of_getElem? (i := 7) rfl)) (hw _ (List.mem_of_getElem? (i := 66) rfl)) (by decide) (argsL := [(.int (0 : Int32)), (.int (3 : Int32))]) (rest := []) (c_chk_0_3 l Z a0 hw [] fv h0 n0 Z0 O SF hfv) pd_7 rfl rfl (hb hby d13_3) e0 (by rw [hml]; rfl) (pc' := 6) rfl (by decide) (W := 0) (Nat.le_of_eq rfl) (by decide) (by decide) (by decide) ?_
  intro v1 T1 L1 X1 hQ1
  have A1 := wk X1 hx hby
  have e1 : T1.heap = T1.heap := rfl
  obtain ⟨rfl, N1, hh1⟩ := hQ1
  have e1 : T1.heap = h0 := hh1
  have fr1 := Fr.app N0 N1
  show Go p e below m (Fini s 0 0 (fun v h L => v = some (.int c0) ∧ Fr n0 L ∧ h = h0)) T1 6 #[.val (.ref d), .val (.int (0 : Int32))] []
  refine s_aloadN A1 d13_6 (pc' := 7) rfl rfl rfl ?_
  refine s_iloadN A1 d13_7 (pc' := 8) rfl rfl ?_
  refine g_baload X1 hx hZ e1 D (by decide) (i := 0) (by decide) (v := (.int c0.toInt8.toInt32)) rfl (hb hby d13_8) (pc' := 9) rfl ?_
  refine s_sipush A1 d13_9 (pc' := 12) rfl (v := (255 : Int32)) (by decide) ?_
  refine s_iand A1 d13_12 (pc' := 13) rfl (own_and255 C0) ?_
  refine s_i2c A1 d13_13 (pc' := 14) rfl (own_i2c (z := c0) (by omega)) ?_
  exact g_ret X1 hx hlk hret (congrArg Value.int (own_i2c (z := c0) (by omega))) (Or.inl ⟨rfl, by simp, _, rfl⟩) (hb hby d13_14) ⟨rfl, fr1, e1⟩ (by decide) (by decide)
theorem ef_c_cha_0_3 (m : MethodId) (x0 : Addr) (x1 : Int32) : entryFrame m #[(.ref x0), (.int x1)] 2 = mkF m 0 #[.val (.ref x0), .val (.int x1)] [] := by first | (simp [entryFrame, mkF, argsToLocals, Value.category, maxLocals]; done) | rfl
set_option maxRecDepth 65536 in
set_option maxHeartbeats 40000000 in
theorem c_cha_0_3 (l : Launch) (Z : State) (a0 : Array Value) (hw : ∀ d ∈ tables_1, d.before a0 Z = true) (ws : List Jvm.Cond) (a d : Addr) (cz : Int32) (c0 c1 c2 : Int32) (fv : Value) (h0 : Heap) (n0 : Nat) (Z0 : n0 ≤ h0.size) (Ea : Exa Z h0 a "java/lang/String") (Fv : Fld Z h0 a "java/lang/String" "value" "[B" (.ref d)) (Fc : Fld Z h0 a "java/lang/String" "coder" "B" (.int 0)) (D : Ars Z h0 d .byte [(.int c0.toInt8.toInt32), (.int c1.toInt8.toInt32), (.int c2.toInt8.toInt32)]) (O : Old Z n0 h0) (SC : Sta Z Z.heap "java/lang/String" "COMPACT_STRINGS" "Z" (.int cz)) (hcz : ¬ cz = 0) (SF : Sta Z Z.heap "jdk/internal/util/Preconditions" "SIOOBE_FORMATTER" "Ljava/util/function/BiFunction;" fv) (hfv : fv = .null ∨ ∃ f, fv = .ref f) (C0 : 0 ≤ c0.toInt ∧ c0.toInt ≤ 255) (C1 : 0 ≤ c1.toInt ∧ c1.toInt ≤ 255) (C2 : 0 ≤ c2.toInt ∧ c2.toInt ≤ 255) :
    Ctr l Z (⟨"java/lang/String", "charAt", "(I)C"⟩ : MethodName) jdk_42_method_56_code 2 (some .char) ws ({ frames := 3, cells := 0, slots := 0, locals := 40 } : Room) #[(.ref a), (.int (0 : Int32))] h0 (fun v h L => v = some (.int c0) ∧ Fr n0 L ∧ h = h0) := by
  refine enter pn_11 ?_
  intro p e s m below meth c T0 X0 hx hby hml hret hlk hZ hown hnm e0
  have A0 := wk X0 hx hby
  have N0 := Fr.nil n0
  refine goIn (ef_c_cha_0_3 m a (0 : Int32)) ?_
  show Go p e below m (Fini s 0 0 (fun v h L => v = some (.int c0) ∧ Fr n0 L ∧ h = h0)) T0 0 #[.val (.ref a), .val (.int (0 : Int32))] []
  refine s_aloadN A0 d11_0 (pc' := 1) rfl rfl rfl ?_
  refine g_virtual X0 hx hZ (y := (⟨"java/lang/String", "isLatin1", "()Z"⟩ : MethodName)) hown (hw _ (List.mem_of_getElem? (i := 55) rfl)) (hw _ (List.mem_of_getElem? (i := 56) rfl)) (hw _ (List.mem_of_getElem? (i := 58) rfl)) (hw _ (List.mem_of_getElem? (i := 57) rfl)) (hw _ (List.mem_of_getElem? (i := 7) rfl)) (hw _ (List.mem_of_getElem? (i := 59) rfl)) (by decide) Ea (argsL := []) (rest := []) (c_lat l Z a0 hw [] a cz h0 n0 Z0 Ea Fc O SC hcz) pd_8 rfl rfl (hb hby d11_1) e0 (by rw [hml]; rfl) (pc' := 4) rfl (by decide) (W := 0) (Nat.le_of_eq rfl) (by decide) (by decide) (by decide) ?_
  intro v1 T1 L1 X1 hQ1
  have A1 := wk X1 hx hby
  have e1 : T1.heap = T1.heap := rfl
  obtain ⟨rfl, N1, hh1⟩ := hQ1
  have e1 : T1.heap = h0 := hh1
  have fr1 := Fr.app N0 N1
  show Go p e below m (Fini s 0 0 (fun v h L => v = some (.int c0) ∧ Fr n0 L ∧ h = h0)) T1 4 #[.val (.ref a), .val (.int (0 : Int32))] [(.int (1 : Int32))]
  refine s_ifeq A1 d11_4 (pY := 16) (pN := 7) (by decide) (by decide) rfl (fun c => absurd c (by decide)) (fun _ => ?_)
  refine s_aloadN A1 d11_7 (pc' := 8) rfl rfl rfl ?_
  refine g_getF X1 hx hZ hown (hw _ (List.mem_of_getElem? (i := 25) rfl)) Via.refl e1 Fv (hb hby d11_8) (pc' := 11) rfl ?_
  intro T2 X2 e2
  have A2 := wk X2 hx hby
  refine s_iloadN A2 d11_11 (pc' := 12) rfl rfl ?_
  refine g_static X2 hx hZ (y := (⟨"java/lang/StringLatin1", "charAt", "([BI)C"⟩ : MethodName)) hown (hw _ (List.mem_of_getElem? (i := 60) rfl)) (hw _ (List.mem_of_getElem? (i := 61) rfl)) (hw _ (List.mem_of_getElem? (i := 62) rfl)) (hw _ (List.mem_of_getElem? (i := 63) rfl)) (by decide) (argsL := [(.ref d), (.int (0 : Int32))]) (rest := []) (c_l1c_0_3 l Z a0 hw [] a d cz c0 c1 c2 fv h0 n0 Z0 Ea Fv Fc D O SC hcz SF hfv C0 C1 C2) pd_9 rfl rfl (hb hby d11_12) e2 (by rw [hml]; rfl) (pc' := 15) rfl (by decide) (W := 0) (Nat.le_of_eq rfl) (by decide) (by decide) (by decide) ?_
  intro v3 T3 L3 X3 hQ3
  have A3 := wk X3 hx hby
  have e3 : T3.heap = T3.heap := rfl
  obtain ⟨rfl, N3, hh3⟩ := hQ3
  have e3 : T3.heap = h0 := hh3
  have fr3 := Fr.app fr1 N3
  show Go p e below m (Fini s 0 0 (fun v h L => v = some (.int c0) ∧ Fr n0 L ∧ h = h0)) T3 15 #[.val (.ref a), .val (.int (0 : Int32))] [(.int c0)]
  exact g_ret X3 hx hlk hret (congrArg Value.int (own_i2c (z := c0) (by omega))) (Or.inl ⟨rfl, by simp, _, rfl⟩) (hb hby d11_15) ⟨rfl, fr3, e3⟩ (by decide) (by decide)
theorem ef_c_min_3 (m : MethodId) (x0 : Int32) (x1 : Int32) : entryFrame m #[(.int x0), (.int x1)] 2 = mkF m 0 #[.val (.int x0), .val (.int x1)] [] := by first | (simp [entryFrame, mkF, argsToLocals, Value.category, maxLocals]; done) | rfl
set_option maxRecDepth 65536 in
set_option maxHeartbeats 40000000 in
theorem c_min_3 (l : Launch) (Z : State) (a0 : Array Value) (hw : ∀ d ∈ tables_1, d.before a0 Z = true) (ws : List Jvm.Cond)  (h0 : Heap) (n0 : Nat) (Z0 : n0 ≤ h0.size)  :
    Ctr l Z (⟨"java/lang/Math", "min", "(II)I"⟩ : MethodName) jdk_29_method_69_code 2 (some .int) ws ({ frames := 0, cells := 0, slots := 0, locals := 0 } : Room) #[(.int (3 : Int32)), (.int (3 : Int32))] h0 (fun v h L => v = some (.int 3) ∧ Fr n0 L ∧ h = h0) := by
  refine enter pn_23 ?_
  intro p e s m below meth c T0 X0 hx hby hml hret hlk hZ hown hnm e0
  have A0 := wk X0 hx hby
  have N0 := Fr.nil n0
  refine goIn (ef_c_min_3 m (3 : Int32) (3 : Int32)) ?_
  show Go p e below m (Fini s 0 0 (fun v h L => v = some (.int 3) ∧ Fr n0 L ∧ h = h0)) T0 0 #[.val (.int (3 : Int32)), .val (.int (3 : Int32))] []
  refine s_iloadN A0 d23_0 (pc' := 1) rfl rfl ?_
  refine s_iloadN A0 d23_1 (pc' := 2) rfl rfl ?_
  refine s_icmpgt A0 d23_2 (pY := 9) (pN := 5) (by decide) (by decide) rfl (fun c => absurd c (by decide)) (fun _ => ?_)
  refine s_iloadN A0 d23_5 (pc' := 6) rfl rfl ?_
  refine s_goto A0 d23_6 (pc' := 10) (by decide) (by decide) ?_
  exact g_retI X0 hx hlk hret (hb hby d23_10) ⟨rfl, N0, e0⟩ (by decide) (by decide)
theorem ef_c_ioc_3 (m : MethodId) (x0 : Addr) (x1 : Int32) (x2 : Int32) (x3 : Int32) : entryFrame m #[(.ref x0), (.int x1), (.int x2), (.int x3)] 6 = mkF m 0 #[.val (.ref x0), .val (.int x1), .val (.int x2), .val (.int x3), .unset, .unset] [] := by first | (simp [entryFrame, mkF, argsToLocals, Value.category, maxLocals]; done) | rfl
set_option maxRecDepth 65536 in
set_option maxHeartbeats 40000000 in
theorem c_ioc_3 (l : Launch) (Z : State) (a0 : Array Value) (hw : ∀ d ∈ tables_1, d.before a0 Z = true) (ws : List Jvm.Cond) (a d : Addr) (cz : Int32) (c0 c1 c2 : Int32) (h0 : Heap) (n0 : Nat) (Z0 : n0 ≤ h0.size) (Ea : Exa Z h0 a "java/lang/String") (Fv : Fld Z h0 a "java/lang/String" "value" "[B" (.ref d)) (Fc : Fld Z h0 a "java/lang/String" "coder" "B" (.int 0)) (D : Ars Z h0 d .byte [(.int c0.toInt8.toInt32), (.int c1.toInt8.toInt32), (.int c2.toInt8.toInt32)]) (O : Old Z n0 h0) (SC : Sta Z Z.heap "java/lang/String" "COMPACT_STRINGS" "Z" (.int cz)) (hcz : ¬ cz = 0) (P0 : (c0.toInt8.toInt32).toInt ≠ 58) (P1 : (c1.toInt8.toInt32).toInt ≠ 58) (P2 : (c2.toInt8.toInt32).toInt ≠ 58) :
    Ctr l Z (⟨"java/lang/StringLatin1", "indexOfChar", "([BIII)I"⟩ : MethodName) jdk_43_method_23_code 6 (some .int) ws ({ frames := 0, cells := 0, slots := 0, locals := 0 } : Room) #[(.ref d), (.int (58 : Int32)), (.int (0 : Int32)), (.int (3 : Int32))] h0 (fun v h L => v = some (.int (-1)) ∧ Fr n0 L ∧ h = h0) := by
  refine enter pn_24 ?_
  intro p e s m below meth c T0 X0 hx hby hml hret hlk hZ hown hnm e0
  have A0 := wk X0 hx hby
  have N0 := Fr.nil n0
  refine goIn (ef_c_ioc_3 m d (58 : Int32) (0 : Int32) (3 : Int32)) ?_
  show Go p e below m (Fini s 0 0 (fun v h L => v = some (.int (-1)) ∧ Fr n0 L ∧ h = h0)) T0 0 #[.val (.ref d), .val (.int (58 : Int32)), .val (.int (0 : Int32)), .val (.int (3 : Int32)), .unset, .unset] []
  refine s_iloadN A0 d24_0 (pc' := 1) rfl rfl ?_
  refine s_i2b A0 d24_1 (pc' := 2) rfl (v := (58 : Int32)) (by decide) ?_
  refine s_istore A0 d24_2 (pc' := 4) rfl (ls' := #[.val (.ref d), .val (.int (58 : Int32)), .val (.int (0 : Int32)), .val (.int (3 : Int32)), .val (.int (58 : Int32)), .unset]) rfl ?_
  refine s_iloadN A0 d24_4 (pc' := 5) rfl rfl ?_
  refine s_istore A0 d24_5 (pc' := 7) rfl (ls' := #[.val (.ref d), .val (.int (58 : Int32)), .val (.int (0 : Int32)), .val (.int (3 : Int32)), .val (.int (58 : Int32)), .val (.int (0 : Int32))]) rfl ?_
  refine s_iload A0 d24_7 (pc' := 9) rfl rfl ?_
  refine s_iloadN A0 d24_9 (pc' := 10) rfl rfl ?_
  refine s_icmpge A0 d24_10 (pY := 31) (pN := 13) (by decide) (by decide) rfl (fun c => absurd c (by decide)) (fun _ => ?_)
  refine s_aloadN A0 d24_13 (pc' := 14) rfl rfl rfl ?_
  refine s_iload A0 d24_14 (pc' := 16) rfl rfl ?_
  refine g_baload X0 hx hZ e0 D (by decide) (i := 0) (by decide) (v := (.int c0.toInt8.toInt32)) rfl (hb hby d24_16) (pc' := 17) rfl ?_
  refine s_iload A0 d24_17 (pc' := 19) rfl rfl ?_
  refine s_icmpne A0 d24_19 (pY := 25) (pN := 22) (by decide) (by decide) rfl ?_ ?_
  · intro c19
    replace c19 := i_ne c19
    rw [show (58 : Int32).toInt = 58 from by decide] at c19
    refine s_iinc A0 d24_25 (pc' := 28) rfl (v := (1 : Int32)) (ls' := #[.val (.ref d), .val (.int (58 : Int32)), .val (.int (0 : Int32)), .val (.int (3 : Int32)), .val (.int (58 : Int32)), .val (.int (1 : Int32))]) rfl (by decide) rfl ?_
    refine s_goto A0 d24_28 (pc' := 7) (by decide) (by decide) ?_
    refine s_iload A0 d24_7 (pc' := 9) rfl rfl ?_
    refine s_iloadN A0 d24_9 (pc' := 10) rfl rfl ?_
    refine s_icmpge A0 d24_10 (pY := 31) (pN := 13) (by decide) (by decide) rfl (fun c => absurd c (by decide)) (fun _ => ?_)
    refine s_aloadN A0 d24_13 (pc' := 14) rfl rfl rfl ?_
    refine s_iload A0 d24_14 (pc' := 16) rfl rfl ?_
    refine g_baload X0 hx hZ e0 D (by decide) (i := 1) (by decide) (v := (.int c1.toInt8.toInt32)) rfl (hb hby d24_16) (pc' := 17) rfl ?_
    refine s_iload A0 d24_17 (pc' := 19) rfl rfl ?_
    refine s_icmpne A0 d24_19 (pY := 25) (pN := 22) (by decide) (by decide) rfl ?_ ?_
    · intro c19_1
      replace c19_1 := i_ne c19_1
      rw [show (58 : Int32).toInt = 58 from by decide] at c19_1
      refine s_iinc A0 d24_25 (pc' := 28) rfl (v := (2 : Int32)) (ls' := #[.val (.ref d), .val (.int (58 : Int32)), .val (.int (0 : Int32)), .val (.int (3 : Int32)), .val (.int (58 : Int32)), .val (.int (2 : Int32))]) rfl (by decide) rfl ?_
      refine s_goto A0 d24_28 (pc' := 7) (by decide) (by decide) ?_
      refine s_iload A0 d24_7 (pc' := 9) rfl rfl ?_
      refine s_iloadN A0 d24_9 (pc' := 10) rfl rfl ?_
      refine s_icmpge A0 d24_10 (pY := 31) (pN := 13) (by decide) (by decide) rfl (fun c => absurd c (by decide)) (fun _ => ?_)
      refine s_aloadN A0 d24_13 (pc' := 14) rfl rfl rfl ?_
      refine s_iload A0 d24_14 (pc' := 16) rfl rfl ?_
      refine g_baload X0 hx hZ e0 D (by decide) (i := 2) (by decide) (v := (.int c2.toInt8.toInt32)) rfl (hb hby d24_16) (pc' := 17) rfl ?_
      refine s_iload A0 d24_17 (pc' := 19) rfl rfl ?_
      refine s_icmpne A0 d24_19 (pY := 25) (pN := 22) (by decide) (by decide) rfl ?_ ?_
      · intro c19_2
        replace c19_2 := i_ne c19_2
        rw [show (58 : Int32).toInt = 58 from by decide] at c19_2
        refine s_iinc A0 d24_25 (pc' := 28) rfl (v := (3 : Int32)) (ls' := #[.val (.ref d), .val (.int (58 : Int32)), .val (.int (0 : Int32)), .val (.int (3 : Int32)), .val (.int (58 : Int32)), .val (.int (3 : Int32))]) rfl (by decide) rfl ?_
        refine s_goto A0 d24_28 (pc' := 7) (by decide) (by decide) ?_
        refine s_iload A0 d24_7 (pc' := 9) rfl rfl ?_
        refine s_iloadN A0 d24_9 (pc' := 10) rfl rfl ?_
        refine s_icmpge A0 d24_10 (pY := 31) (pN := 13) (by decide) (by decide) rfl (fun _ => ?_) (fun c => absurd c (by decide))
        refine s_iconst A0 d24_31 (pc' := 32) rfl (v := (-1 : Int32)) (by decide) ?_
        exact g_retI X0 hx hlk hret (hb hby d24_32) ⟨rfl, N0, e0⟩ (by decide) (by decide)
      · intro c19_2
        replace c19_2 := i_eq c19_2
        rw [show (58 : Int32).toInt = 58 from by decide] at c19_2
        exact absurd c19_2 P2
    · intro c19_1
      replace c19_1 := i_eq c19_1
      rw [show (58 : Int32).toInt = 58 from by decide] at c19_1
      exact absurd c19_1 P1
  · intro c19
    replace c19 := i_eq c19
    rw [show (58 : Int32).toInt = 58 from by decide] at c19
    exact absurd c19 P0
theorem ef_c_iol_3 (m : MethodId) (x0 : Addr) (x1 : Int32) (x2 : Int32) (x3 : Int32) : entryFrame m #[(.ref x0), (.int x1), (.int x2), (.int x3)] 4 = mkF m 0 #[.val (.ref x0), .val (.int x1), .val (.int x2), .val (.int x3)] [] := by first | (simp [entryFrame, mkF, argsToLocals, Value.category, maxLocals]; done) | rfl
set_option maxRecDepth 65536 in
set_option maxHeartbeats 40000000 in
theorem c_iol_3 (l : Launch) (Z : State) (a0 : Array Value) (hw : ∀ d ∈ tables_1, d.before a0 Z = true) (ws : List Jvm.Cond) (a d : Addr) (cz : Int32) (c0 c1 c2 : Int32) (h0 : Heap) (n0 : Nat) (Z0 : n0 ≤ h0.size) (Ea : Exa Z h0 a "java/lang/String") (Fv : Fld Z h0 a "java/lang/String" "value" "[B" (.ref d)) (Fc : Fld Z h0 a "java/lang/String" "coder" "B" (.int 0)) (D : Ars Z h0 d .byte [(.int c0.toInt8.toInt32), (.int c1.toInt8.toInt32), (.int c2.toInt8.toInt32)]) (O : Old Z n0 h0) (SC : Sta Z Z.heap "java/lang/String" "COMPACT_STRINGS" "Z" (.int cz)) (hcz : ¬ cz = 0) (P0 : (c0.toInt8.toInt32).toInt ≠ 58) (P1 : (c1.toInt8.toInt32).toInt ≠ 58) (P2 : (c2.toInt8.toInt32).toInt ≠ 58) :
    Ctr l Z (⟨"java/lang/StringLatin1", "indexOf", "([BIII)I"⟩ : MethodName) jdk_43_method_22_code 4 (some .int) ws ({ frames := 1, cells := 0, slots := 0, locals := 17 } : Room) #[(.ref d), (.int (58 : Int32)), (.int (0 : Int32)), (.int (3 : Int32))] h0 (fun v h L => v = some (.int (-1)) ∧ Fr n0 L ∧ h = h0) := by
  refine enter pn_20 ?_
  intro p e s m below meth c T0 X0 hx hby hml hret hlk hZ hown hnm e0
  have A0 := wk X0 hx hby
  have N0 := Fr.nil n0
  refine goIn (ef_c_iol_3 m d (58 : Int32) (0 : Int32) (3 : Int32)) ?_
  show Go p e below m (Fini s 0 0 (fun v h L => v = some (.int (-1)) ∧ Fr n0 L ∧ h = h0)) T0 0 #[.val (.ref d), .val (.int (58 : Int32)), .val (.int (0 : Int32)), .val (.int (3 : Int32))] []
  refine s_iloadN A0 d20_0 (pc' := 1) rfl rfl ?_
  refine g_static X0 hx hZ (y := (⟨"java/lang/StringLatin1", "canEncode", "(I)Z"⟩ : MethodName)) hown (hw _ (List.mem_of_getElem? (i := 95) rfl)) (hw _ (List.mem_of_getElem? (i := 96) rfl)) (hw _ (List.mem_of_getElem? (i := 62) rfl)) (hw _ (List.mem_of_getElem? (i := 97) rfl)) (by decide) (argsL := [(.int (58 : Int32))]) (rest := []) (c_can l Z a0 hw [] h0 n0 Z0) pd_10 rfl rfl (hb hby d20_1) e0 (by rw [hml]; rfl) (pc' := 4) rfl (by decide) (W := 0) (Nat.le_of_eq rfl) (by decide) (by decide) (by decide) ?_
  intro v1 T1 L1 X1 hQ1
  have A1 := wk X1 hx hby
  have e1 : T1.heap = T1.heap := rfl
  obtain ⟨rfl, N1, hh1⟩ := hQ1
  have e1 : T1.heap = h0 := hh1
  have fr1 := Fr.app N0 N1
  show Go p e below m (Fini s 0 0 (fun v h L => v = some (.int (-1)) ∧ Fr n0 L ∧ h = h0)) T1 4 #[.val (.ref d), .val (.int (58 : Int32)), .val (.int (0 : Int32)), .val (.int (3 : Int32))] [(.int (1 : Int32))]
  refine s_ifne A1 d20_4 (pY := 9) (pN := 7) (by decide) (by decide) rfl (fun _ => ?_) (fun c => absurd c (by decide))
  refine s_iloadN A1 d20_9 (pc' := 10) rfl rfl ?_
  refine s_iconst A1 d20_10 (pc' := 11) rfl (v := (0 : Int32)) (by decide) ?_
  refine g_static X1 hx hZ (y := (⟨"java/lang/Math", "max", "(II)I"⟩ : MethodName)) hown (hw _ (List.mem_of_getElem? (i := 98) rfl)) (hw _ (List.mem_of_getElem? (i := 99) rfl)) (hw _ (List.mem_of_getElem? (i := 100) rfl)) (hw _ (List.mem_of_getElem? (i := 101) rfl)) (by decide) (argsL := [(.int (0 : Int32)), (.int (0 : Int32))]) (rest := []) (c_max00 l Z a0 hw [] h0 n0 Z0) pd_11 rfl rfl (hb hby d20_11) e1 (by rw [hml]; rfl) (pc' := 14) rfl (by decide) (W := 0) (Nat.le_of_eq rfl) (by decide) (by decide) (by decide) ?_
  intro v2 T2 L2 X2 hQ2
  have A2 := wk X2 hx hby
  have e2 : T2.heap = T2.heap := rfl
  obtain ⟨rfl, N2, hh2⟩ := hQ2
  have e2 : T2.heap = h0 := hh2
  have fr2 := Fr.app fr1 N2
  show Go p e below m (Fini s 0 0 (fun v h L => v = some (.int (-1)) ∧ Fr n0 L ∧ h = h0)) T2 14 #[.val (.ref d), .val (.int (58 : Int32)), .val (.int (0 : Int32)), .val (.int (3 : Int32))] [(.int (0 : Int32))]
  refine s_istoreN A2 d20_14 (pc' := 15) rfl (ls' := #[.val (.ref d), .val (.int (58 : Int32)), .val (.int (0 : Int32)), .val (.int (3 : Int32))]) rfl ?_
  refine s_iloadN A2 d20_15 (pc' := 16) rfl rfl ?_
  refine s_aloadN A2 d20_16 (pc' := 17) rfl rfl rfl ?_
  refine g_len X2 hx hZ e2 D (n := (3 : Int32)) rfl (hb hby d20_17) (pc' := 18) rfl ?_
  refine g_static X2 hx hZ (y := (⟨"java/lang/Math", "min", "(II)I"⟩ : MethodName)) hown (hw _ (List.mem_of_getElem? (i := 102) rfl)) (hw _ (List.mem_of_getElem? (i := 103) rfl)) (hw _ (List.mem_of_getElem? (i := 100) rfl)) (hw _ (List.mem_of_getElem? (i := 104) rfl)) (by decide) (argsL := [(.int (3 : Int32)), (.int (3 : Int32))]) (rest := []) (c_min_3 l Z a0 hw [] h0 n0 Z0) pd_11 rfl rfl (hb hby d20_18) e2 (by rw [hml]; rfl) (pc' := 21) rfl (by decide) (W := 0) (Nat.le_of_eq rfl) (by decide) (by decide) (by decide) ?_
  intro v3 T3 L3 X3 hQ3
  have A3 := wk X3 hx hby
  have e3 : T3.heap = T3.heap := rfl
  obtain ⟨rfl, N3, hh3⟩ := hQ3
  have e3 : T3.heap = h0 := hh3
  have fr3 := Fr.app fr2 N3
  show Go p e below m (Fini s 0 0 (fun v h L => v = some (.int (-1)) ∧ Fr n0 L ∧ h = h0)) T3 21 #[.val (.ref d), .val (.int (58 : Int32)), .val (.int (0 : Int32)), .val (.int (3 : Int32))] [(.int (3 : Int32))]
  refine s_istoreN A3 d20_21 (pc' := 22) rfl (ls' := #[.val (.ref d), .val (.int (58 : Int32)), .val (.int (0 : Int32)), .val (.int (3 : Int32))]) rfl ?_
  refine s_iloadN A3 d20_22 (pc' := 23) rfl rfl ?_
  refine s_iloadN A3 d20_23 (pc' := 24) rfl rfl ?_
  refine s_icmplt A3 d20_24 (pY := 29) (pN := 27) (by decide) (by decide) rfl (fun _ => ?_) (fun c => absurd c (by decide))
  refine s_aloadN A3 d20_29 (pc' := 30) rfl rfl rfl ?_
  refine s_iloadN A3 d20_30 (pc' := 31) rfl rfl ?_
  refine s_iloadN A3 d20_31 (pc' := 32) rfl rfl ?_
  refine s_iloadN A3 d20_32 (pc' := 33) rfl rfl ?_
  refine g_static X3 hx hZ (y := (⟨"java/lang/StringLatin1", "indexOfChar", "([BIII)I"⟩ : MethodName)) hown (hw _ (List.mem_of_getElem? (i := 105) rfl)) (hw _ (List.mem_of_getElem? (i := 106) rfl)) (hw _ (List.mem_of_getElem? (i := 62) rfl)) (hw _ (List.mem_of_getElem? (i := 107) rfl)) (by decide) (argsL := [(.ref d), (.int (58 : Int32)), (.int (0 : Int32)), (.int (3 : Int32))]) (rest := []) (c_ioc_3 l Z a0 hw [] a d cz c0 c1 c2 h0 n0 Z0 Ea Fv Fc D O SC hcz P0 P1 P2) pd_12 rfl rfl (hb hby d20_33) e3 (by rw [hml]; rfl) (pc' := 36) rfl (by decide) (W := 0) (Nat.le_of_eq rfl) (by decide) (by decide) (by decide) ?_
  intro v4 T4 L4 X4 hQ4
  have A4 := wk X4 hx hby
  have e4 : T4.heap = T4.heap := rfl
  obtain ⟨rfl, N4, hh4⟩ := hQ4
  have e4 : T4.heap = h0 := hh4
  have fr4 := Fr.app fr3 N4
  show Go p e below m (Fini s 0 0 (fun v h L => v = some (.int (-1)) ∧ Fr n0 L ∧ h = h0)) T4 36 #[.val (.ref d), .val (.int (58 : Int32)), .val (.int (0 : Int32)), .val (.int (3 : Int32))] [(.int (-1 : Int32))]
  exact g_retI X4 hx hlk hret (hb hby d20_36) ⟨rfl, fr4, e4⟩ (by decide) (by decide)
theorem ef_c_io2_3 (m : MethodId) (x0 : Addr) (x1 : Int32) (x2 : Int32) : entryFrame m #[(.ref x0), (.int x1), (.int x2)] 3 = mkF m 0 #[.val (.ref x0), .val (.int x1), .val (.int x2)] [] := by first | (simp [entryFrame, mkF, argsToLocals, Value.category, maxLocals]; done) | rfl
set_option maxRecDepth 65536 in
set_option maxHeartbeats 40000000 in
theorem c_io2_3 (l : Launch) (Z : State) (a0 : Array Value) (hw : ∀ d ∈ tables_1, d.before a0 Z = true) (ws : List Jvm.Cond) (a d : Addr) (cz : Int32) (c0 c1 c2 : Int32) (h0 : Heap) (n0 : Nat) (Z0 : n0 ≤ h0.size) (Ea : Exa Z h0 a "java/lang/String") (Fv : Fld Z h0 a "java/lang/String" "value" "[B" (.ref d)) (Fc : Fld Z h0 a "java/lang/String" "coder" "B" (.int 0)) (D : Ars Z h0 d .byte [(.int c0.toInt8.toInt32), (.int c1.toInt8.toInt32), (.int c2.toInt8.toInt32)]) (O : Old Z n0 h0) (SC : Sta Z Z.heap "java/lang/String" "COMPACT_STRINGS" "Z" (.int cz)) (hcz : ¬ cz = 0) (P0 : (c0.toInt8.toInt32).toInt ≠ 58) (P1 : (c1.toInt8.toInt32).toInt ≠ 58) (P2 : (c2.toInt8.toInt32).toInt ≠ 58) :
    Ctr l Z (⟨"java/lang/String", "indexOf", "(II)I"⟩ : MethodName) jdk_42_method_80_code 3 (some .int) ws ({ frames := 2, cells := 0, slots := 0, locals := 32 } : Room) #[(.ref a), (.int (58 : Int32)), (.int (0 : Int32))] h0 (fun v h L => v = some (.int (-1)) ∧ Fr n0 L ∧ h = h0) := by
  refine enter pn_17 ?_
  intro p e s m below meth c T0 X0 hx hby hml hret hlk hZ hown hnm e0
  have A0 := wk X0 hx hby
  have N0 := Fr.nil n0
  refine goIn (ef_c_io2_3 m a (58 : Int32) (0 : Int32)) ?_
  show Go p e below m (Fini s 0 0 (fun v h L => v = some (.int (-1)) ∧ Fr n0 L ∧ h = h0)) T0 0 #[.val (.ref a), .val (.int (58 : Int32)), .val (.int (0 : Int32))] []
  refine s_aloadN A0 d17_0 (pc' := 1) rfl rfl rfl ?_
  refine g_virtual X0 hx hZ (y := (⟨"java/lang/String", "isLatin1", "()Z"⟩ : MethodName)) hown (hw _ (List.mem_of_getElem? (i := 55) rfl)) (hw _ (List.mem_of_getElem? (i := 56) rfl)) (hw _ (List.mem_of_getElem? (i := 58) rfl)) (hw _ (List.mem_of_getElem? (i := 57) rfl)) (hw _ (List.mem_of_getElem? (i := 7) rfl)) (hw _ (List.mem_of_getElem? (i := 59) rfl)) (by decide) Ea (argsL := []) (rest := []) (c_lat l Z a0 hw [] a cz h0 n0 Z0 Ea Fc O SC hcz) pd_8 rfl rfl (hb hby d17_1) e0 (by rw [hml]; rfl) (pc' := 4) rfl (by decide) (W := 0) (Nat.le_of_eq rfl) (by decide) (by decide) (by decide) ?_
  intro v1 T1 L1 X1 hQ1
  have A1 := wk X1 hx hby
  have e1 : T1.heap = T1.heap := rfl
  obtain ⟨rfl, N1, hh1⟩ := hQ1
  have e1 : T1.heap = h0 := hh1
  have fr1 := Fr.app N0 N1
  show Go p e below m (Fini s 0 0 (fun v h L => v = some (.int (-1)) ∧ Fr n0 L ∧ h = h0)) T1 4 #[.val (.ref a), .val (.int (58 : Int32)), .val (.int (0 : Int32))] [(.int (1 : Int32))]
  refine s_ifeq A1 d17_4 (pY := 23) (pN := 7) (by decide) (by decide) rfl (fun c => absurd c (by decide)) (fun _ => ?_)
  refine s_aloadN A1 d17_7 (pc' := 8) rfl rfl rfl ?_
  refine g_getF X1 hx hZ hown (hw _ (List.mem_of_getElem? (i := 25) rfl)) Via.refl e1 Fv (hb hby d17_8) (pc' := 11) rfl ?_
  intro T2 X2 e2
  have A2 := wk X2 hx hby
  refine s_iloadN A2 d17_11 (pc' := 12) rfl rfl ?_
  refine s_iloadN A2 d17_12 (pc' := 13) rfl rfl ?_
  refine s_aloadN A2 d17_13 (pc' := 14) rfl rfl rfl ?_
  refine g_virtual X2 hx hZ (y := (⟨"java/lang/String", "length", "()I"⟩ : MethodName)) hown (hw _ (List.mem_of_getElem? (i := 82) rfl)) (hw _ (List.mem_of_getElem? (i := 83) rfl)) (hw _ (List.mem_of_getElem? (i := 85) rfl)) (hw _ (List.mem_of_getElem? (i := 84) rfl)) (hw _ (List.mem_of_getElem? (i := 7) rfl)) (hw _ (List.mem_of_getElem? (i := 86) rfl)) (by decide) Ea (argsL := []) (rest := [(.int (0 : Int32)), (.int (58 : Int32)), (.ref d)]) (c_len_3 l Z a0 hw [] a d cz c0 c1 c2 h0 n0 Z0 Ea Fv Fc D O SC hcz) pd_13 rfl rfl (hb hby d17_14) e2 (by rw [hml]; rfl) (pc' := 17) rfl (by decide) (W := 3) (Nat.le_of_eq rfl) (by decide) (by decide) (by decide) ?_
  intro v3 T3 L3 X3 hQ3
  have A3 := wk X3 hx hby
  have e3 : T3.heap = T3.heap := rfl
  obtain ⟨rfl, N3, hh3⟩ := hQ3
  have e3 : T3.heap = h0 := hh3
  have fr3 := Fr.app fr1 N3
  show Go p e below m (Fini s 0 0 (fun v h L => v = some (.int (-1)) ∧ Fr n0 L ∧ h = h0)) T3 17 #[.val (.ref a), .val (.int (58 : Int32)), .val (.int (0 : Int32))] [(.int (3 : Int32)), (.int (0 : Int32)), (.int (58 : Int32)), (.ref d)]
  refine g_static X3 hx hZ (y := (⟨"java/lang/StringLatin1", "indexOf", "([BIII)I"⟩ : MethodName)) hown (hw _ (List.mem_of_getElem? (i := 92) rfl)) (hw _ (List.mem_of_getElem? (i := 93) rfl)) (hw _ (List.mem_of_getElem? (i := 62) rfl)) (hw _ (List.mem_of_getElem? (i := 94) rfl)) (by decide) (argsL := [(.ref d), (.int (58 : Int32)), (.int (0 : Int32)), (.int (3 : Int32))]) (rest := []) (c_iol_3 l Z a0 hw [] a d cz c0 c1 c2 h0 n0 Z0 Ea Fv Fc D O SC hcz P0 P1 P2) pd_12 rfl rfl (hb hby d17_17) e3 (by rw [hml]; rfl) (pc' := 20) rfl (by decide) (W := 0) (Nat.le_of_eq rfl) (by decide) (by decide) (by decide) ?_
  intro v4 T4 L4 X4 hQ4
  have A4 := wk X4 hx hby
  have e4 : T4.heap = T4.heap := rfl
  obtain ⟨rfl, N4, hh4⟩ := hQ4
  have e4 : T4.heap = h0 := hh4
  have fr4 := Fr.app fr3 N4
  show Go p e below m (Fini s 0 0 (fun v h L => v = some (.int (-1)) ∧ Fr n0 L ∧ h = h0)) T4 20 #[.val (.ref a), .val (.int (58 : Int32)), .val (.int (0 : Int32))] [(.int (-1 : Int32))]
  refine s_goto A4 d17_20 (pc' := 36) (by decide) (by decide) ?_
  exact g_retI X4 hx hlk hret (hb hby d17_36) ⟨rfl, fr4, e4⟩ (by decide) (by decide)
theorem ef_c_io1_3 (m : MethodId) (x0 : Addr) (x1 : Int32) : entryFrame m #[(.ref x0), (.int x1)] 2 = mkF m 0 #[.val (.ref x0), .val (.int x1)] [] := by first | (simp [entryFrame, mkF, argsToLocals, Value.category, maxLocals]; done) | rfl
set_option maxRecDepth 65536 in
set_option maxHeartbeats 40000000 in
theorem c_io1_3 (l : Launch) (Z : State) (a0 : Array Value) (hw : ∀ d ∈ tables_1, d.before a0 Z = true) (ws : List Jvm.Cond) (a d : Addr) (cz : Int32) (c0 c1 c2 : Int32) (h0 : Heap) (n0 : Nat) (Z0 : n0 ≤ h0.size) (Ea : Exa Z h0 a "java/lang/String") (Fv : Fld Z h0 a "java/lang/String" "value" "[B" (.ref d)) (Fc : Fld Z h0 a "java/lang/String" "coder" "B" (.int 0)) (D : Ars Z h0 d .byte [(.int c0.toInt8.toInt32), (.int c1.toInt8.toInt32), (.int c2.toInt8.toInt32)]) (O : Old Z n0 h0) (SC : Sta Z Z.heap "java/lang/String" "COMPACT_STRINGS" "Z" (.int cz)) (hcz : ¬ cz = 0) (P0 : (c0.toInt8.toInt32).toInt ≠ 58) (P1 : (c1.toInt8.toInt32).toInt ≠ 58) (P2 : (c2.toInt8.toInt32).toInt ≠ 58) :
    Ctr l Z (⟨"java/lang/String", "indexOf", "(I)I"⟩ : MethodName) jdk_42_method_79_code 2 (some .int) ws ({ frames := 3, cells := 0, slots := 0, locals := 46 } : Room) #[(.ref a), (.int (58 : Int32))] h0 (fun v h L => v = some (.int (-1)) ∧ Fr n0 L ∧ h = h0) := by
  refine enter pn_16 ?_
  intro p e s m below meth c T0 X0 hx hby hml hret hlk hZ hown hnm e0
  have A0 := wk X0 hx hby
  have N0 := Fr.nil n0
  refine goIn (ef_c_io1_3 m a (58 : Int32)) ?_
  show Go p e below m (Fini s 0 0 (fun v h L => v = some (.int (-1)) ∧ Fr n0 L ∧ h = h0)) T0 0 #[.val (.ref a), .val (.int (58 : Int32))] []
  refine s_aloadN A0 d16_0 (pc' := 1) rfl rfl rfl ?_
  refine s_iloadN A0 d16_1 (pc' := 2) rfl rfl ?_
  refine s_iconst A0 d16_2 (pc' := 3) rfl (v := (0 : Int32)) (by decide) ?_
  refine g_virtual X0 hx hZ (y := (⟨"java/lang/String", "indexOf", "(II)I"⟩ : MethodName)) hown (hw _ (List.mem_of_getElem? (i := 77) rfl)) (hw _ (List.mem_of_getElem? (i := 78) rfl)) (hw _ (List.mem_of_getElem? (i := 80) rfl)) (hw _ (List.mem_of_getElem? (i := 79) rfl)) (hw _ (List.mem_of_getElem? (i := 7) rfl)) (hw _ (List.mem_of_getElem? (i := 81) rfl)) (by decide) Ea (argsL := [(.int (58 : Int32)), (.int (0 : Int32))]) (rest := []) (c_io2_3 l Z a0 hw [] a d cz c0 c1 c2 h0 n0 Z0 Ea Fv Fc D O SC hcz P0 P1 P2) pd_11 rfl rfl (hb hby d16_3) e0 (by rw [hml]; rfl) (pc' := 6) rfl (by decide) (W := 0) (Nat.le_of_eq rfl) (by decide) (by decide) (by decide) ?_
  intro v1 T1 L1 X1 hQ1
  have A1 := wk X1 hx hby
  have e1 : T1.heap = T1.heap := rfl
  obtain ⟨rfl, N1, hh1⟩ := hQ1
  have e1 : T1.heap = h0 := hh1
  have fr1 := Fr.app N0 N1
  show Go p e below m (Fini s 0 0 (fun v h L => v = some (.int (-1)) ∧ Fr n0 L ∧ h = h0)) T1 6 #[.val (.ref a), .val (.int (58 : Int32))] [(.int (-1 : Int32))]
  exact g_retI X1 hx hlk hret (hb hby d16_6) ⟨rfl, fr1, e1⟩ (by decide) (by decide)
theorem ef_c_pk_3 (m : MethodId) (x0 : Addr) : entryFrame m #[(.ref x0)] 1 = mkF m 0 #[.val (.ref x0)] [] := by first | (simp [entryFrame, mkF, argsToLocals, Value.category, maxLocals]; done) | rfl
set_option maxRecDepth 65536 in
set_option maxHeartbeats 40000000 in
theorem c_pk_3 (l : Launch) (Z : State) (a0 : Array Value) (hw : ∀ d ∈ tables_1, d.before a0 Z = true) (ws : List Jvm.Cond) (a d : Addr) (cz : Int32) (c0 c1 c2 : Int32) (fv : Value) (h0 : Heap) (n0 : Nat) (Z0 : n0 ≤ h0.size) (Ea : Exa Z h0 a "java/lang/String") (Fv : Fld Z h0 a "java/lang/String" "value" "[B" (.ref d)) (Fc : Fld Z h0 a "java/lang/String" "coder" "B" (.int 0)) (D : Ars Z h0 d .byte [(.int c0.toInt8.toInt32), (.int c1.toInt8.toInt32), (.int c2.toInt8.toInt32)]) (O : Old Z n0 h0) (SC : Sta Z Z.heap "java/lang/String" "COMPACT_STRINGS" "Z" (.int cz)) (hcz : ¬ cz = 0) (SF : Sta Z Z.heap "jdk/internal/util/Preconditions" "SIOOBE_FORMATTER" "Ljava/util/function/BiFunction;" fv) (hfv : fv = .null ∨ ∃ f, fv = .ref f) (C0 : 0 ≤ c0.toInt ∧ c0.toInt ≤ 255) (C1 : 0 ≤ c1.toInt ∧ c1.toInt ≤ 255) (C2 : 0 ≤ c2.toInt ∧ c2.toInt ≤ 255) (P0 : (c0.toInt8.toInt32).toInt ≠ 58) (P1 : (c1.toInt8.toInt32).toInt ≠ 58) (P2 : (c2.toInt8.toInt32).toInt ≠ 58) (H95 : c0.toInt ≠ 95) :
    Ctr l Z (⟨"com/example/divvy/divvy/document/DocumentId", "partitionKey", "(Ljava/lang/String;)Ljava/lang/String;"⟩ : MethodName) prog_20_method_3_code 1 (some (.object "java/lang/String")) ws ({ frames := 4, cells := 0, slots := 0, locals := 59 } : Room) #[(.ref a)] h0 (fun v h L => v = some (.ref a) ∧ Fr n0 L ∧ h = h0) := by
  refine enter pn_9 ?_
  intro p e s m below meth c T0 X0 hx hby hml hret hlk hZ hown hnm e0
  have A0 := wk X0 hx hby
  have N0 := Fr.nil n0
  refine goIn (ef_c_pk_3 m a) ?_
  show Go p e below m (Fini s 0 0 (fun v h L => v = some (.ref a) ∧ Fr n0 L ∧ h = h0)) T0 0 #[.val (.ref a)] []
  refine s_aloadN A0 d9_0 (pc' := 1) rfl rfl rfl ?_
  refine g_virtual X0 hx hZ (y := (⟨"java/lang/String", "isEmpty", "()Z"⟩ : MethodName)) hown (hw _ (List.mem_of_getElem? (i := 45) rfl)) (hw _ (List.mem_of_getElem? (i := 46) rfl)) (hw _ (List.mem_of_getElem? (i := 48) rfl)) (hw _ (List.mem_of_getElem? (i := 47) rfl)) (hw _ (List.mem_of_getElem? (i := 7) rfl)) (hw _ (List.mem_of_getElem? (i := 49) rfl)) (by decide) Ea (argsL := []) (rest := []) (c_ise_3 l Z a0 hw [] a d cz c0 c1 c2 h0 n0 Z0 Ea Fv Fc D O SC hcz) pd_8 rfl rfl (hb hby d9_1) e0 (by rw [hml]; rfl) (pc' := 4) rfl (by decide) (W := 0) (Nat.le_of_eq rfl) (by decide) (by decide) (by decide) ?_
  intro v1 T1 L1 X1 hQ1
  have A1 := wk X1 hx hby
  have e1 : T1.heap = T1.heap := rfl
  obtain ⟨rfl, N1, hh1⟩ := hQ1
  have e1 : T1.heap = h0 := hh1
  have fr1 := Fr.app N0 N1
  show Go p e below m (Fini s 0 0 (fun v h L => v = some (.ref a) ∧ Fr n0 L ∧ h = h0)) T1 4 #[.val (.ref a)] [(.int (0 : Int32))]
  refine s_ifeq A1 d9_4 (pY := 17) (pN := 7) (by decide) (by decide) rfl (fun _ => ?_) (fun c => absurd c (by decide))
  refine s_aloadN A1 d9_17 (pc' := 18) rfl rfl rfl ?_
  refine s_iconst A1 d9_18 (pc' := 19) rfl (v := (0 : Int32)) (by decide) ?_
  refine g_virtual X1 hx hZ (y := (⟨"java/lang/String", "charAt", "(I)C"⟩ : MethodName)) hown (hw _ (List.mem_of_getElem? (i := 50) rfl)) (hw _ (List.mem_of_getElem? (i := 51) rfl)) (hw _ (List.mem_of_getElem? (i := 53) rfl)) (hw _ (List.mem_of_getElem? (i := 52) rfl)) (hw _ (List.mem_of_getElem? (i := 7) rfl)) (hw _ (List.mem_of_getElem? (i := 54) rfl)) (by decide) Ea (argsL := [(.int (0 : Int32))]) (rest := []) (c_cha_0_3 l Z a0 hw [] a d cz c0 c1 c2 fv h0 n0 Z0 Ea Fv Fc D O SC hcz SF hfv C0 C1 C2) pd_14 rfl rfl (hb hby d9_19) e1 (by rw [hml]; rfl) (pc' := 22) rfl (by decide) (W := 0) (Nat.le_of_eq rfl) (by decide) (by decide) (by decide) ?_
  intro v2 T2 L2 X2 hQ2
  have A2 := wk X2 hx hby
  have e2 : T2.heap = T2.heap := rfl
  obtain ⟨rfl, N2, hh2⟩ := hQ2
  have e2 : T2.heap = h0 := hh2
  have fr2 := Fr.app fr1 N2
  show Go p e below m (Fini s 0 0 (fun v h L => v = some (.ref a) ∧ Fr n0 L ∧ h = h0)) T2 22 #[.val (.ref a)] [(.int c0)]
  refine s_bipush A2 d9_22 (pc' := 24) rfl (v := (95 : Int32)) (by decide) ?_
  refine s_icmpne A2 d9_24 (pY := 37) (pN := 27) (by decide) (by decide) rfl ?_ ?_
  · intro c24
    replace c24 := i_ne c24
    rw [show (95 : Int32).toInt = 95 from by decide] at c24
    refine s_aloadN A2 d9_37 (pc' := 38) rfl rfl rfl ?_
    refine s_bipush A2 d9_38 (pc' := 40) rfl (v := (58 : Int32)) (by decide) ?_
    refine g_virtual X2 hx hZ (y := (⟨"java/lang/String", "indexOf", "(I)I"⟩ : MethodName)) hown (hw _ (List.mem_of_getElem? (i := 72) rfl)) (hw _ (List.mem_of_getElem? (i := 73) rfl)) (hw _ (List.mem_of_getElem? (i := 75) rfl)) (hw _ (List.mem_of_getElem? (i := 74) rfl)) (hw _ (List.mem_of_getElem? (i := 7) rfl)) (hw _ (List.mem_of_getElem? (i := 76) rfl)) (by decide) Ea (argsL := [(.int (58 : Int32))]) (rest := []) (c_io1_3 l Z a0 hw [] a d cz c0 c1 c2 h0 n0 Z0 Ea Fv Fc D O SC hcz P0 P1 P2) pd_15 rfl rfl (hb hby d9_40) e2 (by rw [hml]; rfl) (pc' := 43) rfl (by decide) (W := 0) (Nat.le_of_eq rfl) (by decide) (by decide) (by decide) ?_
    intro v3 T3 L3 X3 hQ3
    have A3 := wk X3 hx hby
    have e3 : T3.heap = T3.heap := rfl
    obtain ⟨rfl, N3, hh3⟩ := hQ3
    have e3 : T3.heap = h0 := hh3
    have fr3 := Fr.app fr2 N3
    show Go p e below m (Fini s 0 0 (fun v h L => v = some (.ref a) ∧ Fr n0 L ∧ h = h0)) T3 43 #[.val (.ref a)] [(.int (-1 : Int32))]
    refine s_iflt A3 d9_43 (pY := 56) (pN := 46) (by decide) (by decide) rfl (fun _ => ?_) (fun c => absurd c (by decide))
    refine s_aloadN A3 d9_56 (pc' := 57) rfl rfl rfl ?_
    exact g_retA X3 hx hlk hret rfl rfl rfl (hb hby d9_57) ⟨rfl, fr3, e3⟩ (by decide) (by decide)
  · intro c24
    replace c24 := i_eq c24
    rw [show (95 : Int32).toInt = 95 from by decide] at c24
    exact absurd c24 H95
theorem ef_c_ise_4 (m : MethodId) (x0 : Addr) : entryFrame m #[(.ref x0)] 1 = mkF m 0 #[.val (.ref x0)] [] := by first | (simp [entryFrame, mkF, argsToLocals, Value.category, maxLocals]; done) | rfl
set_option maxRecDepth 65536 in
set_option maxHeartbeats 40000000 in
theorem c_ise_4 (l : Launch) (Z : State) (a0 : Array Value) (hw : ∀ d ∈ tables_1, d.before a0 Z = true) (ws : List Jvm.Cond) (a d : Addr) (cz : Int32) (c0 c1 c2 c3 : Int32) (h0 : Heap) (n0 : Nat) (Z0 : n0 ≤ h0.size) (Ea : Exa Z h0 a "java/lang/String") (Fv : Fld Z h0 a "java/lang/String" "value" "[B" (.ref d)) (Fc : Fld Z h0 a "java/lang/String" "coder" "B" (.int 0)) (D : Ars Z h0 d .byte [(.int c0.toInt8.toInt32), (.int c1.toInt8.toInt32), (.int c2.toInt8.toInt32), (.int c3.toInt8.toInt32)]) (O : Old Z n0 h0) (SC : Sta Z Z.heap "java/lang/String" "COMPACT_STRINGS" "Z" (.int cz)) (hcz : ¬ cz = 0) :
    Ctr l Z (⟨"java/lang/String", "isEmpty", "()Z"⟩ : MethodName) jdk_42_method_55_code 1 (some .boolean) ws ({ frames := 0, cells := 0, slots := 0, locals := 0 } : Room) #[(.ref a)] h0 (fun v h L => v = some (.int 0) ∧ Fr n0 L ∧ h = h0) := by
  refine enter pn_10 ?_
  intro p e s m below meth c T0 X0 hx hby hml hret hlk hZ hown hnm e0
  have A0 := wk X0 hx hby
  have N0 := Fr.nil n0
  refine goIn (ef_c_ise_4 m a) ?_
  show Go p e below m (Fini s 0 0 (fun v h L => v = some (.int 0) ∧ Fr n0 L ∧ h = h0)) T0 0 #[.val (.ref a)] []
  refine s_aloadN A0 d10_0 (pc' := 1) rfl rfl rfl ?_
  refine g_getF X0 hx hZ hown (hw _ (List.mem_of_getElem? (i := 25) rfl)) Via.refl e0 Fv (hb hby d10_1) (pc' := 4) rfl ?_
  intro T1 X1 e1
  have A1 := wk X1 hx hby
  refine g_len X1 hx hZ e1 D (n := (4 : Int32)) rfl (hb hby d10_4) (pc' := 5) rfl ?_
  refine s_ifne A1 d10_5 (pY := 12) (pN := 8) (by decide) (by decide) rfl (fun _ => ?_) (fun c => absurd c (by decide))
  refine s_iconst A1 d10_12 (pc' := 13) rfl (v := (0 : Int32)) (by decide) ?_
  exact g_retZ X1 hx hlk hret (by decide) (hb hby d10_13) ⟨rfl, N0, e1⟩ (by decide) (by decide)
theorem ef_c_len_4 (m : MethodId) (x0 : Addr) : entryFrame m #[(.ref x0)] 1 = mkF m 0 #[.val (.ref x0)] [] := by first | (simp [entryFrame, mkF, argsToLocals, Value.category, maxLocals]; done) | rfl
set_option maxRecDepth 65536 in
set_option maxHeartbeats 40000000 in
theorem c_len_4 (l : Launch) (Z : State) (a0 : Array Value) (hw : ∀ d ∈ tables_1, d.before a0 Z = true) (ws : List Jvm.Cond) (a d : Addr) (cz : Int32) (c0 c1 c2 c3 : Int32) (h0 : Heap) (n0 : Nat) (Z0 : n0 ≤ h0.size) (Ea : Exa Z h0 a "java/lang/String") (Fv : Fld Z h0 a "java/lang/String" "value" "[B" (.ref d)) (Fc : Fld Z h0 a "java/lang/String" "coder" "B" (.int 0)) (D : Ars Z h0 d .byte [(.int c0.toInt8.toInt32), (.int c1.toInt8.toInt32), (.int c2.toInt8.toInt32), (.int c3.toInt8.toInt32)]) (O : Old Z n0 h0) (SC : Sta Z Z.heap "java/lang/String" "COMPACT_STRINGS" "Z" (.int cz)) (hcz : ¬ cz = 0) :
    Ctr l Z (⟨"java/lang/String", "length", "()I"⟩ : MethodName) jdk_42_method_54_code 1 (some .int) ws ({ frames := 1, cells := 0, slots := 0, locals := 13 } : Room) #[(.ref a)] h0 (fun v h L => v = some (.int 4) ∧ Fr n0 L ∧ h = h0) := by
  refine enter pn_18 ?_
  intro p e s m below meth c T0 X0 hx hby hml hret hlk hZ hown hnm e0
  have A0 := wk X0 hx hby
  have N0 := Fr.nil n0
  refine goIn (ef_c_len_4 m a) ?_
  show Go p e below m (Fini s 0 0 (fun v h L => v = some (.int 4) ∧ Fr n0 L ∧ h = h0)) T0 0 #[.val (.ref a)] []
  refine s_aloadN A0 d18_0 (pc' := 1) rfl rfl rfl ?_
  refine g_getF X0 hx hZ hown (hw _ (List.mem_of_getElem? (i := 25) rfl)) Via.refl e0 Fv (hb hby d18_1) (pc' := 4) rfl ?_
  intro T1 X1 e1
  have A1 := wk X1 hx hby
  refine g_len X1 hx hZ e1 D (n := (4 : Int32)) rfl (hb hby d18_4) (pc' := 5) rfl ?_
  refine s_aloadN A1 d18_5 (pc' := 6) rfl rfl rfl ?_
  refine g_virtual X1 hx hZ (y := (⟨"java/lang/String", "coder", "()B"⟩ : MethodName)) hown (hw _ (List.mem_of_getElem? (i := 87) rfl)) (hw _ (List.mem_of_getElem? (i := 88) rfl)) (hw _ (List.mem_of_getElem? (i := 90) rfl)) (hw _ (List.mem_of_getElem? (i := 89) rfl)) (hw _ (List.mem_of_getElem? (i := 7) rfl)) (hw _ (List.mem_of_getElem? (i := 91) rfl)) (by decide) Ea (argsL := []) (rest := [(.int (4 : Int32))]) (c_cod0 l Z a0 hw [] a cz h0 n0 Z0 Ea Fc O SC hcz) pd_5 rfl rfl (hb hby d18_6) e1 (by rw [hml]; rfl) (pc' := 9) rfl (by decide) (W := 1) (Nat.le_of_eq rfl) (by decide) (by decide) (by decide) ?_
  intro v2 T2 L2 X2 hQ2
  have A2 := wk X2 hx hby
  have e2 : T2.heap = T2.heap := rfl
  obtain ⟨rfl, N2, hh2⟩ := hQ2
  have e2 : T2.heap = h0 := hh2
  have fr2 := Fr.app N0 N2
  show Go p e below m (Fini s 0 0 (fun v h L => v = some (.int 4) ∧ Fr n0 L ∧ h = h0)) T2 9 #[.val (.ref a)] [(.int (0 : Int32)), (.int (4 : Int32))]
  refine s_ishr A2 d18_9 (pc' := 10) rfl (v := (4 : Int32)) (by decide) ?_
  exact g_retI X2 hx hlk hret (hb hby d18_10) ⟨rfl, fr2, e2⟩ (by decide) (by decide)
theorem ef_c_pciN_0_4 (m : MethodId) (x0 : Int32) (x1 : Int32) : entryFrame m #[(.int x0), (.int x1), .null] 3 = mkF m 0 #[.val (.int x0), .val (.int x1), .val .null] [] := by first | (simp [entryFrame, mkF, argsToLocals, Value.category, maxLocals]; done) | rfl
set_option maxRecDepth 65536 in
set_option maxHeartbeats 40000000 in
theorem c_pciN_0_4 (l : Launch) (Z : State) (a0 : Array Value) (hw : ∀ d ∈ tables_1, d.before a0 Z = true) (ws : List Jvm.Cond)  (h0 : Heap) (n0 : Nat) (Z0 : n0 ≤ h0.size)  :
    Ctr l Z (⟨"jdk/internal/util/Preconditions", "checkIndex", "(IILjava/util/function/BiFunction;)I"⟩ : MethodName) jdk_41_method_11_code 3 (some .int) ws ({ frames := 0, cells := 0, slots := 0, locals := 0 } : Room) #[(.int (0 : Int32)), (.int (4 : Int32)), .null] h0 (fun v h L => v = some (.int 0) ∧ Fr n0 L ∧ h = h0) := by
  refine enter pn_15 ?_
  intro p e s m below meth c T0 X0 hx hby hml hret hlk hZ hown hnm e0
  have A0 := wk X0 hx hby
  have N0 := Fr.nil n0
  refine goIn (ef_c_pciN_0_4 m (0 : Int32) (4 : Int32)) ?_
  show Go p e below m (Fini s 0 0 (fun v h L => v = some (.int 0) ∧ Fr n0 L ∧ h = h0)) T0 0 #[.val (.int (0 : Int32)), .val (.int (4 : Int32)), .val .null] []
  refine s_iloadN A0 d15_0 (pc' := 1) rfl rfl ?_
  refine s_iflt A0 d15_1 (pY := 9) (pN := 4) (by decide) (by decide) rfl (fun c => absurd c (by decide)) (fun _ => ?_)
  refine s_iloadN A0 d15_4 (pc' := 5) rfl rfl ?_
  refine s_iloadN A0 d15_5 (pc' := 6) rfl rfl ?_
  refine s_icmplt A0 d15_6 (pY := 16) (pN := 9) (by decide) (by decide) rfl (fun _ => ?_) (fun c => absurd c (by decide))
  refine s_iloadN A0 d15_16 (pc' := 17) rfl rfl ?_
  exact g_retI X0 hx hlk hret (hb hby d15_17) ⟨rfl, N0, e0⟩ (by decide) (by decide)
theorem ef_c_pciA_0_4 (m : MethodId) (x0 : Int32) (x1 : Int32) (x2 : Addr) : entryFrame m #[(.int x0), (.int x1), (.ref x2)] 3 = mkF m 0 #[.val (.int x0), .val (.int x1), .val (.ref x2)] [] := by first | (simp [entryFrame, mkF, argsToLocals, Value.category, maxLocals]; done) | rfl
set_option maxRecDepth 65536 in
set_option maxHeartbeats 40000000 in
theorem c_pciA_0_4 (l : Launch) (Z : State) (a0 : Array Value) (hw : ∀ d ∈ tables_1, d.before a0 Z = true) (ws : List Jvm.Cond) (f : Addr) (h0 : Heap) (n0 : Nat) (Z0 : n0 ≤ h0.size)  :
    Ctr l Z (⟨"jdk/internal/util/Preconditions", "checkIndex", "(IILjava/util/function/BiFunction;)I"⟩ : MethodName) jdk_41_method_11_code 3 (some .int) ws ({ frames := 0, cells := 0, slots := 0, locals := 0 } : Room) #[(.int (0 : Int32)), (.int (4 : Int32)), (.ref f)] h0 (fun v h L => v = some (.int 0) ∧ Fr n0 L ∧ h = h0) := by
  refine enter pn_15 ?_
  intro p e s m below meth c T0 X0 hx hby hml hret hlk hZ hown hnm e0
  have A0 := wk X0 hx hby
  have N0 := Fr.nil n0
  refine goIn (ef_c_pciA_0_4 m (0 : Int32) (4 : Int32) f) ?_
  show Go p e below m (Fini s 0 0 (fun v h L => v = some (.int 0) ∧ Fr n0 L ∧ h = h0)) T0 0 #[.val (.int (0 : Int32)), .val (.int (4 : Int32)), .val (.ref f)] []
  refine s_iloadN A0 d15_0 (pc' := 1) rfl rfl ?_
  refine s_iflt A0 d15_1 (pY := 9) (pN := 4) (by decide) (by decide) rfl (fun c => absurd c (by decide)) (fun _ => ?_)
  refine s_iloadN A0 d15_4 (pc' := 5) rfl rfl ?_
  refine s_iloadN A0 d15_5 (pc' := 6) rfl rfl ?_
  refine s_icmplt A0 d15_6 (pY := 16) (pN := 9) (by decide) (by decide) rfl (fun _ => ?_) (fun c => absurd c (by decide))
  refine s_iloadN A0 d15_16 (pc' := 17) rfl rfl ?_
  exact g_retI X0 hx hlk hret (hb hby d15_17) ⟨rfl, N0, e0⟩ (by decide) (by decide)
theorem ef_c_chk_0_4 (m : MethodId) (x0 : Int32) (x1 : Int32) : entryFrame m #[(.int x0), (.int x1)] 2 = mkF m 0 #[.val (.int x0), .val (.int x1)] [] := by first | (simp [entryFrame, mkF, argsToLocals, Value.category, maxLocals]; done) | rfl
set_option maxRecDepth 65536 in
set_option maxHeartbeats 40000000 in
theorem c_chk_0_4 (l : Launch) (Z : State) (a0 : Array Value) (hw : ∀ d ∈ tables_1, d.before a0 Z = true) (ws : List Jvm.Cond) (fv : Value) (h0 : Heap) (n0 : Nat) (Z0 : n0 ≤ h0.size) (O : Old Z n0 h0) (SF : Sta Z Z.heap "jdk/internal/util/Preconditions" "SIOOBE_FORMATTER" "Ljava/util/function/BiFunction;" fv) (hfv : fv = .null ∨ ∃ f, fv = .ref f) :
    Ctr l Z (⟨"java/lang/String", "checkIndex", "(II)V"⟩ : MethodName) jdk_42_method_155_code 2 none ws ({ frames := 1, cells := 0, slots := 0, locals := 14 } : Room) #[(.int (0 : Int32)), (.int (4 : Int32))] h0 (fun v h L => v = none ∧ Fr n0 L ∧ h = h0) := by
  refine enter pn_14 ?_
  intro p e s m below meth c T0 X0 hx hby hml hret hlk hZ hown hnm e0
  have A0 := wk X0 hx hby
  have N0 := Fr.nil n0
  refine goIn (ef_c_chk_0_4 m (0 : Int32) (4 : Int32)) ?_
  show Go p e below m (Fini s 0 0 (fun v h L => v = none ∧ Fr n0 L ∧ h = h0)) T0 0 #[.val (.int (0 : Int32)), .val (.int (4 : Int32))] []
  rcases hfv with rfl | ⟨f, rfl⟩
  ·
    refine s_iloadN A0 d14_0 (pc' := 1) rfl rfl ?_
    refine s_iloadN A0 d14_1 (pc' := 2) rfl rfl ?_
    have Sf := Sta.ext O.2 SF
    refine g_getS X0 hx hZ hown (hw _ (List.mem_of_getElem? (i := 67) rfl)) Via.refl e0 Sf (hb hby d14_2) (pc' := 5) rfl ?_
    intro T1 X1 e1
    have A1 := wk X1 hx hby
    refine g_static X1 hx hZ (y := (⟨"jdk/internal/util/Preconditions", "checkIndex", "(IILjava/util/function/BiFunction;)I"⟩ : MethodName)) hown (hw _ (List.mem_of_getElem? (i := 69) rfl)) (hw _ (List.mem_of_getElem? (i := 70) rfl)) (hw _ (List.mem_of_getElem? (i := 68) rfl)) (hw _ (List.mem_of_getElem? (i := 71) rfl)) (by decide) (argsL := [(.int (0 : Int32)), (.int (4 : Int32)), .null]) (rest := []) (c_pciN_0_4 l Z a0 hw []  h0 n0 Z0) pd_6 rfl rfl (hb hby d14_5) e1 (by rw [hml]; rfl) (pc' := 8) rfl (by decide) (W := 0) (Nat.le_of_eq rfl) (by decide) (by decide) (by decide) ?_
    intro v2 T2 L2 X2 hQ2
    have A2 := wk X2 hx hby
    have e2 : T2.heap = T2.heap := rfl
    obtain ⟨rfl, N2, hh2⟩ := hQ2
    have e2 : T2.heap = h0 := hh2
    have fr2 := Fr.app N0 N2
    show Go p e below m (Fini s 0 0 (fun v h L => v = none ∧ Fr n0 L ∧ h = h0)) T2 8 #[.val (.int (0 : Int32)), .val (.int (4 : Int32))] [(.int (0 : Int32))]
    refine s_pop A2 d14_8 (pc' := 9) rfl rfl ?_
    exact g_retV X2 hx hlk hret (hb hby d14_9) ⟨rfl, fr2, e2⟩ (by decide) (by decide)
  refine s_iloadN A0 d14_0 (pc' := 1) rfl rfl ?_
  refine s_iloadN A0 d14_1 (pc' := 2) rfl rfl ?_
  have Sf := Sta.ext O.2 SF
  refine g_getS X0 hx hZ hown (hw _ (List.mem_of_getElem? (i := 67) rfl)) Via.refl e0 Sf (hb hby d14_2) (pc' := 5) rfl ?_
  intro T53 X53 e53
  have A53 := wk X53 hx hby
  refine g_static X53 hx hZ (y := (⟨"jdk/internal/util/Preconditions", "checkIndex", "(IILjava/util/function/BiFunction;)I"⟩ : MethodName)) hown (hw _ (List.mem_of_getElem? (i := 69) rfl)) (hw _ (List.mem_of_getElem? (i := 70) rfl)) (hw _ (List.mem_of_getElem? (i := 68) rfl)) (hw _ (List.mem_of_getElem? (i := 71) rfl)) (by decide) (argsL := [(.int (0 : Int32)), (.int (4 : Int32)), (.ref f)]) (rest := []) (c_pciA_0_4 l Z a0 hw [] f h0 n0 Z0) pd_6 rfl rfl (hb hby d14_5) e53 (by rw [hml]; rfl) (pc' := 8) rfl (by decide) (W := 0) (Nat.le_of_eq rfl) (by decide) (by decide) (by decide) ?_
  intro v54 T54 L54 X54 hQ54
  have A54 := wk X54 hx hby
  have e54 : T54.heap = T54.heap := rfl
  obtain ⟨rfl, N54, hh54⟩ := hQ54
  have e54 : T54.heap = h0 := hh54
  have fr54 := Fr.app N0 N54
  show Go p e below m (Fini s 0 0 (fun v h L => v = none ∧ Fr n0 L ∧ h = h0)) T54 8 #[.val (.int (0 : Int32)), .val (.int (4 : Int32))] [(.int (0 : Int32))]
  refine s_pop A54 d14_8 (pc' := 9) rfl rfl ?_
  exact g_retV X54 hx hlk hret (hb hby d14_9) ⟨rfl, fr54, e54⟩ (by decide) (by decide)
theorem ef_c_l1c_0_4 (m : MethodId) (x0 : Addr) (x1 : Int32) : entryFrame m #[(.ref x0), (.int x1)] 2 = mkF m 0 #[.val (.ref x0), .val (.int x1)] [] := by first | (simp [entryFrame, mkF, argsToLocals, Value.category, maxLocals]; done) | rfl
set_option maxRecDepth 65536 in
set_option maxHeartbeats 40000000 in
theorem c_l1c_0_4 (l : Launch) (Z : State) (a0 : Array Value) (hw : ∀ d ∈ tables_1, d.before a0 Z = true) (ws : List Jvm.Cond) (a d : Addr) (cz : Int32) (c0 c1 c2 c3 : Int32) (fv : Value) (h0 : Heap) (n0 : Nat) (Z0 : n0 ≤ h0.size) (Ea : Exa Z h0 a "java/lang/String") (Fv : Fld Z h0 a "java/lang/String" "value" "[B" (.ref d)) (Fc : Fld Z h0 a "java/lang/String" "coder" "B" (.int 0)) (D : Ars Z h0 d .byte [(.int c0.toInt8.toInt32), (.int c1.toInt8.toInt32), (.int c2.toInt8.toInt32), (.int c3.toInt8.toInt32)]) (O : Old Z n0 h0) (SC : Sta Z Z.heap "java/lang/String" "COMPACT_STRINGS" "Z" (.int cz)) (hcz : ¬ cz = 0) (SF : Sta Z Z.heap "jdk/internal/util/Preconditions" "SIOOBE_FORMATTER" "Ljava/util/function/BiFunction;" fv) (hfv : fv = .null ∨ ∃ f, fv = .ref f) (C0 : 0 ≤ c0.toInt ∧ c0.toInt ≤ 255) (C1 : 0 ≤ c1.toInt ∧ c1.toInt ≤ 255) (C2 : 0 ≤ c2.toInt ∧ c2.toInt ≤ 255) (C3 : 0 ≤ c3.toInt ∧ c3.toInt ≤ 255) :
    Ctr l Z (⟨"java/lang/StringLatin1", "charAt", "([BI)C"⟩ : MethodName) jdk_43_method_2_code 2 (some .char) ws ({ frames := 2, cells := 0, slots := 0, locals := 27 } : Room) #[(.ref d), (.int (0 : Int32))] h0 (fun v h L => v = some (.int c0) ∧ Fr n0 L ∧ h = h0) := by
  refine enter pn_13 ?_
  intro p e s m below meth c T0 X0 hx hby hml hret hlk hZ hown hnm e0
  have A0 := wk X0 hx hby
  have N0 := Fr.nil n0
  refine goIn (ef_c_l1c_0_4 m d (0 : Int32)) ?_
  show Go p e below m (Fini s 0 0 (fun v h L => v = some (.int c0) ∧ Fr n0 L ∧ h = h0)) T0 0 #[.val (.ref d), .val (.int (0 : Int32))] []
  refine s_iloadN A0 d13_0 (pc' := 1) rfl rfl ?_
  refine s_aloadN A0 d13_1 (pc' := 2) rfl rfl rfl ?_
  refine g_len X0 hx hZ e0 D (n := (4 : Int32)) rfl (hb hby d13_2) (pc' := 3) rfl ?_
  refine g_static X0 hx hZ (y := (⟨"java/lang/String", "checkIndex", "(II)V"⟩ : MethodName)) hown (hw _ (List.mem_of_getElem? (i := 64) rfl)) (hw _ (List.mem_of_getElem? (i := 65) rfl)) (hw _ (List.mem_of_getElem? (i := 7) rfl)) (hw _ (List.mem_of_getElem? (i := 66) rfl)) (by decide) (argsL := [(.int (0 : Int32)), (.int (4 : Int32))]) (rest := []) (c_chk_0_4 l Z a0 hw [] fv h0 n0 Z0 O SF hfv) pd_7 rfl rfl (hb hby d13_3) e0 (by rw [hml]; rfl) (pc' := 6) rfl (by decide) (W := 0) (Nat.le_of_eq rfl) (by decide) (by decide) (by decide) ?_
  intro v1 T1 L1 X1 hQ1
  have A1 := wk X1 hx hby
  have e1 : T1.heap = T1.heap := rfl
  obtain ⟨rfl, N1, hh1⟩ := hQ1
  have e1 : T1.heap = h0 := hh1
  have fr1 := Fr.app N0 N1
  show Go p e below m (Fini s 0 0 (fun v h L => v = some (.int c0) ∧ Fr n0 L ∧ h = h0)) T1 6 #[.val (.ref d), .val (.int (0 : Int32))] []
  refine s_aloadN A1 d13_6 (pc' := 7) rfl rfl rfl ?_
  refine s_iloadN A1 d13_7 (pc' := 8) rfl rfl ?_
  refine g_baload X1 hx hZ e1 D (by decide) (i := 0) (by decide) (v := (.int c0.toInt8.toInt32)) rfl (hb hby d13_8) (pc' := 9) rfl ?_
  refine s_sipush A1 d13_9 (pc' := 12) rfl (v := (255 : Int32)) (by decide) ?_
  refine s_iand A1 d13_12 (pc' := 13) rfl (own_and255 C0) ?_
  refine s_i2c A1 d13_13 (pc' := 14) rfl (own_i2c (z := c0) (by omega)) ?_
  exact g_ret X1 hx hlk hret (congrArg Value.int (own_i2c (z := c0) (by omega))) (Or.inl ⟨rfl, by simp, _, rfl⟩) (hb hby d13_14) ⟨rfl, fr1, e1⟩ (by decide) (by decide)
theorem ef_c_cha_0_4 (m : MethodId) (x0 : Addr) (x1 : Int32) : entryFrame m #[(.ref x0), (.int x1)] 2 = mkF m 0 #[.val (.ref x0), .val (.int x1)] [] := by first | (simp [entryFrame, mkF, argsToLocals, Value.category, maxLocals]; done) | rfl
set_option maxRecDepth 65536 in
set_option maxHeartbeats 40000000 in
theorem c_cha_0_4 (l : Launch) (Z : State) (a0 : Array Value) (hw : ∀ d ∈ tables_1, d.before a0 Z = true) (ws : List Jvm.Cond) (a d : Addr) (cz : Int32) (c0 c1 c2 c3 : Int32) (fv : Value) (h0 : Heap) (n0 : Nat) (Z0 : n0 ≤ h0.size) (Ea : Exa Z h0 a "java/lang/String") (Fv : Fld Z h0 a "java/lang/String" "value" "[B" (.ref d)) (Fc : Fld Z h0 a "java/lang/String" "coder" "B" (.int 0)) (D : Ars Z h0 d .byte [(.int c0.toInt8.toInt32), (.int c1.toInt8.toInt32), (.int c2.toInt8.toInt32), (.int c3.toInt8.toInt32)]) (O : Old Z n0 h0) (SC : Sta Z Z.heap "java/lang/String" "COMPACT_STRINGS" "Z" (.int cz)) (hcz : ¬ cz = 0) (SF : Sta Z Z.heap "jdk/internal/util/Preconditions" "SIOOBE_FORMATTER" "Ljava/util/function/BiFunction;" fv) (hfv : fv = .null ∨ ∃ f, fv = .ref f) (C0 : 0 ≤ c0.toInt ∧ c0.toInt ≤ 255) (C1 : 0 ≤ c1.toInt ∧ c1.toInt ≤ 255) (C2 : 0 ≤ c2.toInt ∧ c2.toInt ≤ 255) (C3 : 0 ≤ c3.toInt ∧ c3.toInt ≤ 255) :
    Ctr l Z (⟨"java/lang/String", "charAt", "(I)C"⟩ : MethodName) jdk_42_method_56_code 2 (some .char) ws ({ frames := 3, cells := 0, slots := 0, locals := 40 } : Room) #[(.ref a), (.int (0 : Int32))] h0 (fun v h L => v = some (.int c0) ∧ Fr n0 L ∧ h = h0) := by
  refine enter pn_11 ?_
  intro p e s m below meth c T0 X0 hx hby hml hret hlk hZ hown hnm e0
  have A0 := wk X0 hx hby
  have N0 := Fr.nil n0
  refine goIn (ef_c_cha_0_4 m a (0 : Int32)) ?_
  show Go p e below m (Fini s 0 0 (fun v h L => v = some (.int c0) ∧ Fr n0 L ∧ h = h0)) T0 0 #[.val (.ref a), .val (.int (0 : Int32))] []
  refine s_aloadN A0 d11_0 (pc' := 1) rfl rfl rfl ?_
  refine g_virtual X0 hx hZ (y := (⟨"java/lang/String", "isLatin1", "()Z"⟩ : MethodName)) hown (hw _ (List.mem_of_getElem? (i := 55) rfl)) (hw _ (List.mem_of_getElem? (i := 56) rfl)) (hw _ (List.mem_of_getElem? (i := 58) rfl)) (hw _ (List.mem_of_getElem? (i := 57) rfl)) (hw _ (List.mem_of_getElem? (i := 7) rfl)) (hw _ (List.mem_of_getElem? (i := 59) rfl)) (by decide) Ea (argsL := []) (rest := []) (c_lat l Z a0 hw [] a cz h0 n0 Z0 Ea Fc O SC hcz) pd_8 rfl rfl (hb hby d11_1) e0 (by rw [hml]; rfl) (pc' := 4) rfl (by decide) (W := 0) (Nat.le_of_eq rfl) (by decide) (by decide) (by decide) ?_
  intro v1 T1 L1 X1 hQ1
  have A1 := wk X1 hx hby
  have e1 : T1.heap = T1.heap := rfl
  obtain ⟨rfl, N1, hh1⟩ := hQ1
  have e1 : T1.heap = h0 := hh1
  have fr1 := Fr.app N0 N1
  show Go p e below m (Fini s 0 0 (fun v h L => v = some (.int c0) ∧ Fr n0 L ∧ h = h0)) T1 4 #[.val (.ref a), .val (.int (0 : Int32))] [(.int (1 : Int32))]
  refine s_ifeq A1 d11_4 (pY := 16) (pN := 7) (by decide) (by decide) rfl (fun c => absurd c (by decide)) (fun _ => ?_)
  refine s_aloadN A1 d11_7 (pc' := 8) rfl rfl rfl ?_
  refine g_getF X1 hx hZ hown (hw _ (List.mem_of_getElem? (i := 25) rfl)) Via.refl e1 Fv (hb hby d11_8) (pc' := 11) rfl ?_
  intro T2 X2 e2
  have A2 := wk X2 hx hby
  refine s_iloadN A2 d11_11 (pc' := 12) rfl rfl ?_
  refine g_static X2 hx hZ (y := (⟨"java/lang/StringLatin1", "charAt", "([BI)C"⟩ : MethodName)) hown (hw _ (List.mem_of_getElem? (i := 60) rfl)) (hw _ (List.mem_of_getElem? (i := 61) rfl)) (hw _ (List.mem_of_getElem? (i := 62) rfl)) (hw _ (List.mem_of_getElem? (i := 63) rfl)) (by decide) (argsL := [(.ref d), (.int (0 : Int32))]) (rest := []) (c_l1c_0_4 l Z a0 hw [] a d cz c0 c1 c2 c3 fv h0 n0 Z0 Ea Fv Fc D O SC hcz SF hfv C0 C1 C2 C3) pd_9 rfl rfl (hb hby d11_12) e2 (by rw [hml]; rfl) (pc' := 15) rfl (by decide) (W := 0) (Nat.le_of_eq rfl) (by decide) (by decide) (by decide) ?_
  intro v3 T3 L3 X3 hQ3
  have A3 := wk X3 hx hby
  have e3 : T3.heap = T3.heap := rfl
  obtain ⟨rfl, N3, hh3⟩ := hQ3
  have e3 : T3.heap = h0 := hh3
  have fr3 := Fr.app fr1 N3
  show Go p e below m (Fini s 0 0 (fun v h L => v = some (.int c0) ∧ Fr n0 L ∧ h = h0)) T3 15 #[.val (.ref a), .val (.int (0 : Int32))] [(.int c0)]
  exact g_ret X3 hx hlk hret (congrArg Value.int (own_i2c (z := c0) (by omega))) (Or.inl ⟨rfl, by simp, _, rfl⟩) (hb hby d11_15) ⟨rfl, fr3, e3⟩ (by decide) (by decide)
theorem ef_c_min_4 (m : MethodId) (x0 : Int32) (x1 : Int32) : entryFrame m #[(.int x0), (.int x1)] 2 = mkF m 0 #[.val (.int x0), .val (.int x1)] [] := by first | (simp [entryFrame, mkF, argsToLocals, Value.category, maxLocals]; done) | rfl
set_option maxRecDepth 65536 in
set_option maxHeartbeats 40000000 in
theorem c_min_4 (l : Launch) (Z : State) (a0 : Array Value) (hw : ∀ d ∈ tables_1, d.before a0 Z = true) (ws : List Jvm.Cond)  (h0 : Heap) (n0 : Nat) (Z0 : n0 ≤ h0.size)  :
    Ctr l Z (⟨"java/lang/Math", "min", "(II)I"⟩ : MethodName) jdk_29_method_69_code 2 (some .int) ws ({ frames := 0, cells := 0, slots := 0, locals := 0 } : Room) #[(.int (4 : Int32)), (.int (4 : Int32))] h0 (fun v h L => v = some (.int 4) ∧ Fr n0 L ∧ h = h0) := by
  refine enter pn_23 ?_
  intro p e s m below meth c T0 X0 hx hby hml hret hlk hZ hown hnm e0
  have A0 := wk X0 hx hby
  have N0 := Fr.nil n0
  refine goIn (ef_c_min_4 m (4 : Int32) (4 : Int32)) ?_
  show Go p e below m (Fini s 0 0 (fun v h L => v = some (.int 4) ∧ Fr n0 L ∧ h = h0)) T0 0 #[.val (.int (4 : Int32)), .val (.int (4 : Int32))] []
  refine s_iloadN A0 d23_0 (pc' := 1) rfl rfl ?_
  refine s_iloadN A0 d23_1 (pc' := 2) rfl rfl ?_
  refine s_icmpgt A0 d23_2 (pY := 9) (pN := 5) (by decide) (by decide) rfl (fun c => absurd c (by decide)) (fun _ => ?_)
  refine s_iloadN A0 d23_5 (pc' := 6) rfl rfl ?_
  refine s_goto A0 d23_6 (pc' := 10) (by decide) (by decide) ?_
  exact g_retI X0 hx hlk hret (hb hby d23_10) ⟨rfl, N0, e0⟩ (by decide) (by decide)
theorem ef_c_ioc_4 (m : MethodId) (x0 : Addr) (x1 : Int32) (x2 : Int32) (x3 : Int32) : entryFrame m #[(.ref x0), (.int x1), (.int x2), (.int x3)] 6 = mkF m 0 #[.val (.ref x0), .val (.int x1), .val (.int x2), .val (.int x3), .unset, .unset] [] := by first | (simp [entryFrame, mkF, argsToLocals, Value.category, maxLocals]; done) | rfl
set_option maxRecDepth 65536 in
set_option maxHeartbeats 40000000 in
theorem c_ioc_4 (l : Launch) (Z : State) (a0 : Array Value) (hw : ∀ d ∈ tables_1, d.before a0 Z = true) (ws : List Jvm.Cond) (a d : Addr) (cz : Int32) (c0 c1 c2 c3 : Int32) (h0 : Heap) (n0 : Nat) (Z0 : n0 ≤ h0.size) (Ea : Exa Z h0 a "java/lang/String") (Fv : Fld Z h0 a "java/lang/String" "value" "[B" (.ref d)) (Fc : Fld Z h0 a "java/lang/String" "coder" "B" (.int 0)) (D : Ars Z h0 d .byte [(.int c0.toInt8.toInt32), (.int c1.toInt8.toInt32), (.int c2.toInt8.toInt32), (.int c3.toInt8.toInt32)]) (O : Old Z n0 h0) (SC : Sta Z Z.heap "java/lang/String" "COMPACT_STRINGS" "Z" (.int cz)) (hcz : ¬ cz = 0) (P0 : (c0.toInt8.toInt32).toInt ≠ 58) (P1 : (c1.toInt8.toInt32).toInt ≠ 58) (P2 : (c2.toInt8.toInt32).toInt ≠ 58) (P3 : (c3.toInt8.toInt32).toInt ≠ 58) :
    Ctr l Z (⟨"java/lang/StringLatin1", "indexOfChar", "([BIII)I"⟩ : MethodName) jdk_43_method_23_code 6 (some .int) ws ({ frames := 0, cells := 0, slots := 0, locals := 0 } : Room) #[(.ref d), (.int (58 : Int32)), (.int (0 : Int32)), (.int (4 : Int32))] h0 (fun v h L => v = some (.int (-1)) ∧ Fr n0 L ∧ h = h0) := by
  refine enter pn_24 ?_
  intro p e s m below meth c T0 X0 hx hby hml hret hlk hZ hown hnm e0
  have A0 := wk X0 hx hby
  have N0 := Fr.nil n0
  refine goIn (ef_c_ioc_4 m d (58 : Int32) (0 : Int32) (4 : Int32)) ?_
  show Go p e below m (Fini s 0 0 (fun v h L => v = some (.int (-1)) ∧ Fr n0 L ∧ h = h0)) T0 0 #[.val (.ref d), .val (.int (58 : Int32)), .val (.int (0 : Int32)), .val (.int (4 : Int32)), .unset, .unset] []
  refine s_iloadN A0 d24_0 (pc' := 1) rfl rfl ?_
  refine s_i2b A0 d24_1 (pc' := 2) rfl (v := (58 : Int32)) (by decide) ?_
  refine s_istore A0 d24_2 (pc' := 4) rfl (ls' := #[.val (.ref d), .val (.int (58 : Int32)), .val (.int (0 : Int32)), .val (.int (4 : Int32)), .val (.int (58 : Int32)), .unset]) rfl ?_
  refine s_iloadN A0 d24_4 (pc' := 5) rfl rfl ?_
  refine s_istore A0 d24_5 (pc' := 7) rfl (ls' := #[.val (.ref d), .val (.int (58 : Int32)), .val (.int (0 : Int32)), .val (.int (4 : Int32)), .val (.int (58 : Int32)), .val (.int (0 : Int32))]) rfl ?_
  refine s_iload A0 d24_7 (pc' := 9) rfl rfl ?_
  refine s_iloadN A0 d24_9 (pc' := 10) rfl rfl ?_
  refine s_icmpge A0 d24_10 (pY := 31) (pN := 13) (by decide) (by decide) rfl (fun c => absurd c (by decide)) (fun _ => ?_)
  refine s_aloadN A0 d24_13 (pc' := 14) rfl rfl rfl ?_
  refine s_iload A0 d24_14 (pc' := 16) rfl rfl ?_
  refine g_baload X0 hx hZ e0 D (by decide) (i := 0) (by decide) (v := (.int c0.toInt8.toInt32)) rfl (hb hby d24_16) (pc' := 17) rfl ?_
  refine s_iload A0 d24_17 (pc' := 19) rfl rfl ?_
  refine s_icmpne A0 d24_19 (pY := 25) (pN := 22) (by decide) (by decide) rfl ?_ ?_
  · intro c19
    replace c19 := i_ne c19
    rw [show (58 : Int32).toInt = 58 from by decide] at c19
    refine s_iinc A0 d24_25 (pc' := 28) rfl (v := (1 : Int32)) (ls' := #[.val (.ref d), .val (.int (58 : Int32)), .val (.int (0 : Int32)), .val (.int (4 : Int32)), .val (.int (58 : Int32)), .val (.int (1 : Int32))]) rfl (by decide) rfl ?_
    refine s_goto A0 d24_28 (pc' := 7) (by decide) (by decide) ?_
    refine s_iload A0 d24_7 (pc' := 9) rfl rfl ?_
    refine s_iloadN A0 d24_9 (pc' := 10) rfl rfl ?_
    refine s_icmpge A0 d24_10 (pY := 31) (pN := 13) (by decide) (by decide) rfl (fun c => absurd c (by decide)) (fun _ => ?_)
    refine s_aloadN A0 d24_13 (pc' := 14) rfl rfl rfl ?_
    refine s_iload A0 d24_14 (pc' := 16) rfl rfl ?_
    refine g_baload X0 hx hZ e0 D (by decide) (i := 1) (by decide) (v := (.int c1.toInt8.toInt32)) rfl (hb hby d24_16) (pc' := 17) rfl ?_
    refine s_iload A0 d24_17 (pc' := 19) rfl rfl ?_
    refine s_icmpne A0 d24_19 (pY := 25) (pN := 22) (by decide) (by decide) rfl ?_ ?_
    · intro c19_1
      replace c19_1 := i_ne c19_1
      rw [show (58 : Int32).toInt = 58 from by decide] at c19_1
      refine s_iinc A0 d24_25 (pc' := 28) rfl (v := (2 : Int32)) (ls' := #[.val (.ref d), .val (.int (58 : Int32)), .val (.int (0 : Int32)), .val (.int (4 : Int32)), .val (.int (58 : Int32)), .val (.int (2 : Int32))]) rfl (by decide) rfl ?_
      refine s_goto A0 d24_28 (pc' := 7) (by decide) (by decide) ?_
      refine s_iload A0 d24_7 (pc' := 9) rfl rfl ?_
      refine s_iloadN A0 d24_9 (pc' := 10) rfl rfl ?_
      refine s_icmpge A0 d24_10 (pY := 31) (pN := 13) (by decide) (by decide) rfl (fun c => absurd c (by decide)) (fun _ => ?_)
      refine s_aloadN A0 d24_13 (pc' := 14) rfl rfl rfl ?_
      refine s_iload A0 d24_14 (pc' := 16) rfl rfl ?_
      refine g_baload X0 hx hZ e0 D (by decide) (i := 2) (by decide) (v := (.int c2.toInt8.toInt32)) rfl (hb hby d24_16) (pc' := 17) rfl ?_
      refine s_iload A0 d24_17 (pc' := 19) rfl rfl ?_
      refine s_icmpne A0 d24_19 (pY := 25) (pN := 22) (by decide) (by decide) rfl ?_ ?_
      · intro c19_2
        replace c19_2 := i_ne c19_2
        rw [show (58 : Int32).toInt = 58 from by decide] at c19_2
        refine s_iinc A0 d24_25 (pc' := 28) rfl (v := (3 : Int32)) (ls' := #[.val (.ref d), .val (.int (58 : Int32)), .val (.int (0 : Int32)), .val (.int (4 : Int32)), .val (.int (58 : Int32)), .val (.int (3 : Int32))]) rfl (by decide) rfl ?_
        refine s_goto A0 d24_28 (pc' := 7) (by decide) (by decide) ?_
        refine s_iload A0 d24_7 (pc' := 9) rfl rfl ?_
        refine s_iloadN A0 d24_9 (pc' := 10) rfl rfl ?_
        refine s_icmpge A0 d24_10 (pY := 31) (pN := 13) (by decide) (by decide) rfl (fun c => absurd c (by decide)) (fun _ => ?_)
        refine s_aloadN A0 d24_13 (pc' := 14) rfl rfl rfl ?_
        refine s_iload A0 d24_14 (pc' := 16) rfl rfl ?_
        refine g_baload X0 hx hZ e0 D (by decide) (i := 3) (by decide) (v := (.int c3.toInt8.toInt32)) rfl (hb hby d24_16) (pc' := 17) rfl ?_
        refine s_iload A0 d24_17 (pc' := 19) rfl rfl ?_
        refine s_icmpne A0 d24_19 (pY := 25) (pN := 22) (by decide) (by decide) rfl ?_ ?_
        · intro c19_3
          replace c19_3 := i_ne c19_3
          rw [show (58 : Int32).toInt = 58 from by decide] at c19_3
          refine s_iinc A0 d24_25 (pc' := 28) rfl (v := (4 : Int32)) (ls' := #[.val (.ref d), .val (.int (58 : Int32)), .val (.int (0 : Int32)), .val (.int (4 : Int32)), .val (.int (58 : Int32)), .val (.int (4 : Int32))]) rfl (by decide) rfl ?_
          refine s_goto A0 d24_28 (pc' := 7) (by decide) (by decide) ?_
          refine s_iload A0 d24_7 (pc' := 9) rfl rfl ?_
          refine s_iloadN A0 d24_9 (pc' := 10) rfl rfl ?_
          refine s_icmpge A0 d24_10 (pY := 31) (pN := 13) (by decide) (by decide) rfl (fun _ => ?_) (fun c => absurd c (by decide))
          refine s_iconst A0 d24_31 (pc' := 32) rfl (v := (-1 : Int32)) (by decide) ?_
          exact g_retI X0 hx hlk hret (hb hby d24_32) ⟨rfl, N0, e0⟩ (by decide) (by decide)
        · intro c19_3
          replace c19_3 := i_eq c19_3
          rw [show (58 : Int32).toInt = 58 from by decide] at c19_3
          exact absurd c19_3 P3
      · intro c19_2
        replace c19_2 := i_eq c19_2
        rw [show (58 : Int32).toInt = 58 from by decide] at c19_2
        exact absurd c19_2 P2
    · intro c19_1
      replace c19_1 := i_eq c19_1
      rw [show (58 : Int32).toInt = 58 from by decide] at c19_1
      exact absurd c19_1 P1
  · intro c19
    replace c19 := i_eq c19
    rw [show (58 : Int32).toInt = 58 from by decide] at c19
    exact absurd c19 P0
theorem ef_c_iol_4 (m : MethodId) (x0 : Addr) (x1 : Int32) (x2 : Int32) (x3 : Int32) : entryFrame m #[(.ref x0), (.int x1), (.int x2), (.int x3)] 4 = mkF m 0 #[.val (.ref x0), .val (.int x1), .val (.int x2), .val (.int x3)] [] := by first | (simp [entryFrame, mkF, argsToLocals, Value.category, maxLocals]; done) | rfl
set_option maxRecDepth 65536 in
set_option maxHeartbeats 40000000 in
theorem c_iol_4 (l : Launch) (Z : State) (a0 : Array Value) (hw : ∀ d ∈ tables_1, d.before a0 Z = true) (ws : List Jvm.Cond) (a d : Addr) (cz : Int32) (c0 c1 c2 c3 : Int32) (h0 : Heap) (n0 : Nat) (Z0 : n0 ≤ h0.size) (Ea : Exa Z h0 a "java/lang/String") (Fv : Fld Z h0 a "java/lang/String" "value" "[B" (.ref d)) (Fc : Fld Z h0 a "java/lang/String" "coder" "B" (.int 0)) (D : Ars Z h0 d .byte [(.int c0.toInt8.toInt32), (.int c1.toInt8.toInt32), (.int c2.toInt8.toInt32), (.int c3.toInt8.toInt32)]) (O : Old Z n0 h0) (SC : Sta Z Z.heap "java/lang/String" "COMPACT_STRINGS" "Z" (.int cz)) (hcz : ¬ cz = 0) (P0 : (c0.toInt8.toInt32).toInt ≠ 58) (P1 : (c1.toInt8.toInt32).toInt ≠ 58) (P2 : (c2.toInt8.toInt32).toInt ≠ 58) (P3 : (c3.toInt8.toInt32).toInt ≠ 58) :
    Ctr l Z (⟨"java/lang/StringLatin1", "indexOf", "([BIII)I"⟩ : MethodName) jdk_43_method_22_code 4 (some .int) ws ({ frames := 1, cells := 0, slots := 0, locals := 17 } : Room) #[(.ref d), (.int (58 : Int32)), (.int (0 : Int32)), (.int (4 : Int32))] h0 (fun v h L => v = some (.int (-1)) ∧ Fr n0 L ∧ h = h0) := by
  refine enter pn_20 ?_
  intro p e s m below meth c T0 X0 hx hby hml hret hlk hZ hown hnm e0
  have A0 := wk X0 hx hby
  have N0 := Fr.nil n0
  refine goIn (ef_c_iol_4 m d (58 : Int32) (0 : Int32) (4 : Int32)) ?_
  show Go p e below m (Fini s 0 0 (fun v h L => v = some (.int (-1)) ∧ Fr n0 L ∧ h = h0)) T0 0 #[.val (.ref d), .val (.int (58 : Int32)), .val (.int (0 : Int32)), .val (.int (4 : Int32))] []
  refine s_iloadN A0 d20_0 (pc' := 1) rfl rfl ?_
  refine g_static X0 hx hZ (y := (⟨"java/lang/StringLatin1", "canEncode", "(I)Z"⟩ : MethodName)) hown (hw _ (List.mem_of_getElem? (i := 95) rfl)) (hw _ (List.mem_of_getElem? (i := 96) rfl)) (hw _ (List.mem_of_getElem? (i := 62) rfl)) (hw _ (List.mem_of_getElem? (i := 97) rfl)) (by decide) (argsL := [(.int (58 : Int32))]) (rest := []) (c_can l Z a0 hw [] h0 n0 Z0) pd_10 rfl rfl (hb hby d20_1) e0 (by rw [hml]; rfl) (pc' := 4) rfl (by decide) (W := 0) (Nat.le_of_eq rfl) (by decide) (by decide) (by decide) ?_
  intro v1 T1 L1 X1 hQ1
  have A1 := wk X1 hx hby
  have e1 : T1.heap = T1.heap := rfl
  obtain ⟨rfl, N1, hh1⟩ := hQ1
  have e1 : T1.heap = h0 := hh1
  have fr1 := Fr.app N0 N1
  show Go p e below m (Fini s 0 0 (fun v h L => v = some (.int (-1)) ∧ Fr n0 L ∧ h = h0)) T1 4 #[.val (.ref d), .val (.int (58 : Int32)), .val (.int (0 : Int32)), .val (.int (4 : Int32))] [(.int (1 : Int32))]
  refine s_ifne A1 d20_4 (pY := 9) (pN := 7) (by decide) (by decide) rfl (fun _ => ?_) (fun c => absurd c (by decide))
  refine s_iloadN A1 d20_9 (pc' := 10) rfl rfl ?_
  refine s_iconst A1 d20_10 (pc' := 11) rfl (v := (0 : Int32)) (by decide) ?_
  refine g_static X1 hx hZ (y := (⟨"java/lang/Math", "max", "(II)I"⟩ : MethodName)) hown (hw _ (List.mem_of_getElem? (i := 98) rfl)) (hw _ (List.mem_of_getElem? (i := 99) rfl)) (hw _ (List.mem_of_getElem? (i := 100) rfl)) (hw _ (List.mem_of_getElem? (i := 101) rfl)) (by decide) (argsL := [(.int (0 : Int32)), (.int (0 : Int32))]) (rest := []) (c_max00 l Z a0 hw [] h0 n0 Z0) pd_11 rfl rfl (hb hby d20_11) e1 (by rw [hml]; rfl) (pc' := 14) rfl (by decide) (W := 0) (Nat.le_of_eq rfl) (by decide) (by decide) (by decide) ?_
  intro v2 T2 L2 X2 hQ2
  have A2 := wk X2 hx hby
  have e2 : T2.heap = T2.heap := rfl
  obtain ⟨rfl, N2, hh2⟩ := hQ2
  have e2 : T2.heap = h0 := hh2
  have fr2 := Fr.app fr1 N2
  show Go p e below m (Fini s 0 0 (fun v h L => v = some (.int (-1)) ∧ Fr n0 L ∧ h = h0)) T2 14 #[.val (.ref d), .val (.int (58 : Int32)), .val (.int (0 : Int32)), .val (.int (4 : Int32))] [(.int (0 : Int32))]
  refine s_istoreN A2 d20_14 (pc' := 15) rfl (ls' := #[.val (.ref d), .val (.int (58 : Int32)), .val (.int (0 : Int32)), .val (.int (4 : Int32))]) rfl ?_
  refine s_iloadN A2 d20_15 (pc' := 16) rfl rfl ?_
  refine s_aloadN A2 d20_16 (pc' := 17) rfl rfl rfl ?_
  refine g_len X2 hx hZ e2 D (n := (4 : Int32)) rfl (hb hby d20_17) (pc' := 18) rfl ?_
  refine g_static X2 hx hZ (y := (⟨"java/lang/Math", "min", "(II)I"⟩ : MethodName)) hown (hw _ (List.mem_of_getElem? (i := 102) rfl)) (hw _ (List.mem_of_getElem? (i := 103) rfl)) (hw _ (List.mem_of_getElem? (i := 100) rfl)) (hw _ (List.mem_of_getElem? (i := 104) rfl)) (by decide) (argsL := [(.int (4 : Int32)), (.int (4 : Int32))]) (rest := []) (c_min_4 l Z a0 hw [] h0 n0 Z0) pd_11 rfl rfl (hb hby d20_18) e2 (by rw [hml]; rfl) (pc' := 21) rfl (by decide) (W := 0) (Nat.le_of_eq rfl) (by decide) (by decide) (by decide) ?_
  intro v3 T3 L3 X3 hQ3
  have A3 := wk X3 hx hby
  have e3 : T3.heap = T3.heap := rfl
  obtain ⟨rfl, N3, hh3⟩ := hQ3
  have e3 : T3.heap = h0 := hh3
  have fr3 := Fr.app fr2 N3
  show Go p e below m (Fini s 0 0 (fun v h L => v = some (.int (-1)) ∧ Fr n0 L ∧ h = h0)) T3 21 #[.val (.ref d), .val (.int (58 : Int32)), .val (.int (0 : Int32)), .val (.int (4 : Int32))] [(.int (4 : Int32))]
  refine s_istoreN A3 d20_21 (pc' := 22) rfl (ls' := #[.val (.ref d), .val (.int (58 : Int32)), .val (.int (0 : Int32)), .val (.int (4 : Int32))]) rfl ?_
  refine s_iloadN A3 d20_22 (pc' := 23) rfl rfl ?_
  refine s_iloadN A3 d20_23 (pc' := 24) rfl rfl ?_
  refine s_icmplt A3 d20_24 (pY := 29) (pN := 27) (by decide) (by decide) rfl (fun _ => ?_) (fun c => absurd c (by decide))
  refine s_aloadN A3 d20_29 (pc' := 30) rfl rfl rfl ?_
  refine s_iloadN A3 d20_30 (pc' := 31) rfl rfl ?_
  refine s_iloadN A3 d20_31 (pc' := 32) rfl rfl ?_
  refine s_iloadN A3 d20_32 (pc' := 33) rfl rfl ?_
  refine g_static X3 hx hZ (y := (⟨"java/lang/StringLatin1", "indexOfChar", "([BIII)I"⟩ : MethodName)) hown (hw _ (List.mem_of_getElem? (i := 105) rfl)) (hw _ (List.mem_of_getElem? (i := 106) rfl)) (hw _ (List.mem_of_getElem? (i := 62) rfl)) (hw _ (List.mem_of_getElem? (i := 107) rfl)) (by decide) (argsL := [(.ref d), (.int (58 : Int32)), (.int (0 : Int32)), (.int (4 : Int32))]) (rest := []) (c_ioc_4 l Z a0 hw [] a d cz c0 c1 c2 c3 h0 n0 Z0 Ea Fv Fc D O SC hcz P0 P1 P2 P3) pd_12 rfl rfl (hb hby d20_33) e3 (by rw [hml]; rfl) (pc' := 36) rfl (by decide) (W := 0) (Nat.le_of_eq rfl) (by decide) (by decide) (by decide) ?_
  intro v4 T4 L4 X4 hQ4
  have A4 := wk X4 hx hby
  have e4 : T4.heap = T4.heap := rfl
  obtain ⟨rfl, N4, hh4⟩ := hQ4
  have e4 : T4.heap = h0 := hh4
  have fr4 := Fr.app fr3 N4
  show Go p e below m (Fini s 0 0 (fun v h L => v = some (.int (-1)) ∧ Fr n0 L ∧ h = h0)) T4 36 #[.val (.ref d), .val (.int (58 : Int32)), .val (.int (0 : Int32)), .val (.int (4 : Int32))] [(.int (-1 : Int32))]
  exact g_retI X4 hx hlk hret (hb hby d20_36) ⟨rfl, fr4, e4⟩ (by decide) (by decide)
theorem ef_c_io2_4 (m : MethodId) (x0 : Addr) (x1 : Int32) (x2 : Int32) : entryFrame m #[(.ref x0), (.int x1), (.int x2)] 3 = mkF m 0 #[.val (.ref x0), .val (.int x1), .val (.int x2)] [] := by first | (simp [entryFrame, mkF, argsToLocals, Value.category, maxLocals]; done) | rfl
set_option maxRecDepth 65536 in
set_option maxHeartbeats 40000000 in
theorem c_io2_4 (l : Launch) (Z : State) (a0 : Array Value) (hw : ∀ d ∈ tables_1, d.before a0 Z = true) (ws : List Jvm.Cond) (a d : Addr) (cz : Int32) (c0 c1 c2 c3 : Int32) (h0 : Heap) (n0 : Nat) (Z0 : n0 ≤ h0.size) (Ea : Exa Z h0 a "java/lang/String") (Fv : Fld Z h0 a "java/lang/String" "value" "[B" (.ref d)) (Fc : Fld Z h0 a "java/lang/String" "coder" "B" (.int 0)) (D : Ars Z h0 d .byte [(.int c0.toInt8.toInt32), (.int c1.toInt8.toInt32), (.int c2.toInt8.toInt32), (.int c3.toInt8.toInt32)]) (O : Old Z n0 h0) (SC : Sta Z Z.heap "java/lang/String" "COMPACT_STRINGS" "Z" (.int cz)) (hcz : ¬ cz = 0) (P0 : (c0.toInt8.toInt32).toInt ≠ 58) (P1 : (c1.toInt8.toInt32).toInt ≠ 58) (P2 : (c2.toInt8.toInt32).toInt ≠ 58) (P3 : (c3.toInt8.toInt32).toInt ≠ 58) :
    Ctr l Z (⟨"java/lang/String", "indexOf", "(II)I"⟩ : MethodName) jdk_42_method_80_code 3 (some .int) ws ({ frames := 2, cells := 0, slots := 0, locals := 32 } : Room) #[(.ref a), (.int (58 : Int32)), (.int (0 : Int32))] h0 (fun v h L => v = some (.int (-1)) ∧ Fr n0 L ∧ h = h0) := by
  refine enter pn_17 ?_
  intro p e s m below meth c T0 X0 hx hby hml hret hlk hZ hown hnm e0
  have A0 := wk X0 hx hby
  have N0 := Fr.nil n0
  refine goIn (ef_c_io2_4 m a (58 : Int32) (0 : Int32)) ?_
  show Go p e below m (Fini s 0 0 (fun v h L => v = some (.int (-1)) ∧ Fr n0 L ∧ h = h0)) T0 0 #[.val (.ref a), .val (.int (58 : Int32)), .val (.int (0 : Int32))] []
  refine s_aloadN A0 d17_0 (pc' := 1) rfl rfl rfl ?_
  refine g_virtual X0 hx hZ (y := (⟨"java/lang/String", "isLatin1", "()Z"⟩ : MethodName)) hown (hw _ (List.mem_of_getElem? (i := 55) rfl)) (hw _ (List.mem_of_getElem? (i := 56) rfl)) (hw _ (List.mem_of_getElem? (i := 58) rfl)) (hw _ (List.mem_of_getElem? (i := 57) rfl)) (hw _ (List.mem_of_getElem? (i := 7) rfl)) (hw _ (List.mem_of_getElem? (i := 59) rfl)) (by decide) Ea (argsL := []) (rest := []) (c_lat l Z a0 hw [] a cz h0 n0 Z0 Ea Fc O SC hcz) pd_8 rfl rfl (hb hby d17_1) e0 (by rw [hml]; rfl) (pc' := 4) rfl (by decide) (W := 0) (Nat.le_of_eq rfl) (by decide) (by decide) (by decide) ?_
  intro v1 T1 L1 X1 hQ1
  have A1 := wk X1 hx hby
  have e1 : T1.heap = T1.heap := rfl
  obtain ⟨rfl, N1, hh1⟩ := hQ1
  have e1 : T1.heap = h0 := hh1
  have fr1 := Fr.app N0 N1
  show Go p e below m (Fini s 0 0 (fun v h L => v = some (.int (-1)) ∧ Fr n0 L ∧ h = h0)) T1 4 #[.val (.ref a), .val (.int (58 : Int32)), .val (.int (0 : Int32))] [(.int (1 : Int32))]
  refine s_ifeq A1 d17_4 (pY := 23) (pN := 7) (by decide) (by decide) rfl (fun c => absurd c (by decide)) (fun _ => ?_)
  refine s_aloadN A1 d17_7 (pc' := 8) rfl rfl rfl ?_
  refine g_getF X1 hx hZ hown (hw _ (List.mem_of_getElem? (i := 25) rfl)) Via.refl e1 Fv (hb hby d17_8) (pc' := 11) rfl ?_
  intro T2 X2 e2
  have A2 := wk X2 hx hby
  refine s_iloadN A2 d17_11 (pc' := 12) rfl rfl ?_
  refine s_iloadN A2 d17_12 (pc' := 13) rfl rfl ?_
  refine s_aloadN A2 d17_13 (pc' := 14) rfl rfl rfl ?_
  refine g_virtual X2 hx hZ (y := (⟨"java/lang/String", "length", "()I"⟩ : MethodName)) hown (hw _ (List.mem_of_getElem? (i := 82) rfl)) (hw _ (List.mem_of_getElem? (i := 83) rfl)) (hw _ (List.mem_of_getElem? (i := 85) rfl)) (hw _ (List.mem_of_getElem? (i := 84) rfl)) (hw _ (List.mem_of_getElem? (i := 7) rfl)) (hw _ (List.mem_of_getElem? (i := 86) rfl)) (by decide) Ea (argsL := []) (rest := [(.int (0 : Int32)), (.int (58 : Int32)), (.ref d)]) (c_len_4 l Z a0 hw [] a d cz c0 c1 c2 c3 h0 n0 Z0 Ea Fv Fc D O SC hcz) pd_13 rfl rfl (hb hby d17_14) e2 (by rw [hml]; rfl) (pc' := 17) rfl (by decide) (W := 3) (Nat.le_of_eq rfl) (by decide) (by decide) (by decide) ?_
  intro v3 T3 L3 X3 hQ3
  have A3 := wk X3 hx hby
  have e3 : T3.heap = T3.heap := rfl
  obtain ⟨rfl, N3, hh3⟩ := hQ3
  have e3 : T3.heap = h0 := hh3
  have fr3 := Fr.app fr1 N3
  show Go p e below m (Fini s 0 0 (fun v h L => v = some (.int (-1)) ∧ Fr n0 L ∧ h = h0)) T3 17 #[.val (.ref a), .val (.int (58 : Int32)), .val (.int (0 : Int32))] [(.int (4 : Int32)), (.int (0 : Int32)), (.int (58 : Int32)), (.ref d)]
  refine g_static X3 hx hZ (y := (⟨"java/lang/StringLatin1", "indexOf", "([BIII)I"⟩ : MethodName)) hown (hw _ (List.mem_of_getElem? (i := 92) rfl)) (hw _ (List.mem_of_getElem? (i := 93) rfl)) (hw _ (List.mem_of_getElem? (i := 62) rfl)) (hw _ (List.mem_of_getElem? (i := 94) rfl)) (by decide) (argsL := [(.ref d), (.int (58 : Int32)), (.int (0 : Int32)), (.int (4 : Int32))]) (rest := []) (c_iol_4 l Z a0 hw [] a d cz c0 c1 c2 c3 h0 n0 Z0 Ea Fv Fc D O SC hcz P0 P1 P2 P3) pd_12 rfl rfl (hb hby d17_17) e3 (by rw [hml]; rfl) (pc' := 20) rfl (by decide) (W := 0) (Nat.le_of_eq rfl) (by decide) (by decide) (by decide) ?_
  intro v4 T4 L4 X4 hQ4
  have A4 := wk X4 hx hby
  have e4 : T4.heap = T4.heap := rfl
  obtain ⟨rfl, N4, hh4⟩ := hQ4
  have e4 : T4.heap = h0 := hh4
  have fr4 := Fr.app fr3 N4
  show Go p e below m (Fini s 0 0 (fun v h L => v = some (.int (-1)) ∧ Fr n0 L ∧ h = h0)) T4 20 #[.val (.ref a), .val (.int (58 : Int32)), .val (.int (0 : Int32))] [(.int (-1 : Int32))]
  refine s_goto A4 d17_20 (pc' := 36) (by decide) (by decide) ?_
  exact g_retI X4 hx hlk hret (hb hby d17_36) ⟨rfl, fr4, e4⟩ (by decide) (by decide)
theorem ef_c_io1_4 (m : MethodId) (x0 : Addr) (x1 : Int32) : entryFrame m #[(.ref x0), (.int x1)] 2 = mkF m 0 #[.val (.ref x0), .val (.int x1)] [] := by first | (simp [entryFrame, mkF, argsToLocals, Value.category, maxLocals]; done) | rfl
set_option maxRecDepth 65536 in
set_option maxHeartbeats 40000000 in
theorem c_io1_4 (l : Launch) (Z : State) (a0 : Array Value) (hw : ∀ d ∈ tables_1, d.before a0 Z = true) (ws : List Jvm.Cond) (a d : Addr) (cz : Int32) (c0 c1 c2 c3 : Int32) (h0 : Heap) (n0 : Nat) (Z0 : n0 ≤ h0.size) (Ea : Exa Z h0 a "java/lang/String") (Fv : Fld Z h0 a "java/lang/String" "value" "[B" (.ref d)) (Fc : Fld Z h0 a "java/lang/String" "coder" "B" (.int 0)) (D : Ars Z h0 d .byte [(.int c0.toInt8.toInt32), (.int c1.toInt8.toInt32), (.int c2.toInt8.toInt32), (.int c3.toInt8.toInt32)]) (O : Old Z n0 h0) (SC : Sta Z Z.heap "java/lang/String" "COMPACT_STRINGS" "Z" (.int cz)) (hcz : ¬ cz = 0) (P0 : (c0.toInt8.toInt32).toInt ≠ 58) (P1 : (c1.toInt8.toInt32).toInt ≠ 58) (P2 : (c2.toInt8.toInt32).toInt ≠ 58) (P3 : (c3.toInt8.toInt32).toInt ≠ 58) :
    Ctr l Z (⟨"java/lang/String", "indexOf", "(I)I"⟩ : MethodName) jdk_42_method_79_code 2 (some .int) ws ({ frames := 3, cells := 0, slots := 0, locals := 46 } : Room) #[(.ref a), (.int (58 : Int32))] h0 (fun v h L => v = some (.int (-1)) ∧ Fr n0 L ∧ h = h0) := by
  refine enter pn_16 ?_
  intro p e s m below meth c T0 X0 hx hby hml hret hlk hZ hown hnm e0
  have A0 := wk X0 hx hby
  have N0 := Fr.nil n0
  refine goIn (ef_c_io1_4 m a (58 : Int32)) ?_
  show Go p e below m (Fini s 0 0 (fun v h L => v = some (.int (-1)) ∧ Fr n0 L ∧ h = h0)) T0 0 #[.val (.ref a), .val (.int (58 : Int32))] []
  refine s_aloadN A0 d16_0 (pc' := 1) rfl rfl rfl ?_
  refine s_iloadN A0 d16_1 (pc' := 2) rfl rfl ?_
  refine s_iconst A0 d16_2 (pc' := 3) rfl (v := (0 : Int32)) (by decide) ?_
  refine g_virtual X0 hx hZ (y := (⟨"java/lang/String", "indexOf", "(II)I"⟩ : MethodName)) hown (hw _ (List.mem_of_getElem? (i := 77) rfl)) (hw _ (List.mem_of_getElem? (i := 78) rfl)) (hw _ (List.mem_of_getElem? (i := 80) rfl)) (hw _ (List.mem_of_getElem? (i := 79) rfl)) (hw _ (List.mem_of_getElem? (i := 7) rfl)) (hw _ (List.mem_of_getElem? (i := 81) rfl)) (by decide) Ea (argsL := [(.int (58 : Int32)), (.int (0 : Int32))]) (rest := []) (c_io2_4 l Z a0 hw [] a d cz c0 c1 c2 c3 h0 n0 Z0 Ea Fv Fc D O SC hcz P0 P1 P2 P3) pd_11 rfl rfl (hb hby d16_3) e0 (by rw [hml]; rfl) (pc' := 6) rfl (by decide) (W := 0) (Nat.le_of_eq rfl) (by decide) (by decide) (by decide) ?_
  intro v1 T1 L1 X1 hQ1
  have A1 := wk X1 hx hby
  have e1 : T1.heap = T1.heap := rfl
  obtain ⟨rfl, N1, hh1⟩ := hQ1
  have e1 : T1.heap = h0 := hh1
  have fr1 := Fr.app N0 N1
  show Go p e below m (Fini s 0 0 (fun v h L => v = some (.int (-1)) ∧ Fr n0 L ∧ h = h0)) T1 6 #[.val (.ref a), .val (.int (58 : Int32))] [(.int (-1 : Int32))]
  exact g_retI X1 hx hlk hret (hb hby d16_6) ⟨rfl, fr1, e1⟩ (by decide) (by decide)
theorem ef_c_pk_4 (m : MethodId) (x0 : Addr) : entryFrame m #[(.ref x0)] 1 = mkF m 0 #[.val (.ref x0)] [] := by first | (simp [entryFrame, mkF, argsToLocals, Value.category, maxLocals]; done) | rfl
set_option maxRecDepth 65536 in
set_option maxHeartbeats 40000000 in
theorem c_pk_4 (l : Launch) (Z : State) (a0 : Array Value) (hw : ∀ d ∈ tables_1, d.before a0 Z = true) (ws : List Jvm.Cond) (a d : Addr) (cz : Int32) (c0 c1 c2 c3 : Int32) (fv : Value) (h0 : Heap) (n0 : Nat) (Z0 : n0 ≤ h0.size) (Ea : Exa Z h0 a "java/lang/String") (Fv : Fld Z h0 a "java/lang/String" "value" "[B" (.ref d)) (Fc : Fld Z h0 a "java/lang/String" "coder" "B" (.int 0)) (D : Ars Z h0 d .byte [(.int c0.toInt8.toInt32), (.int c1.toInt8.toInt32), (.int c2.toInt8.toInt32), (.int c3.toInt8.toInt32)]) (O : Old Z n0 h0) (SC : Sta Z Z.heap "java/lang/String" "COMPACT_STRINGS" "Z" (.int cz)) (hcz : ¬ cz = 0) (SF : Sta Z Z.heap "jdk/internal/util/Preconditions" "SIOOBE_FORMATTER" "Ljava/util/function/BiFunction;" fv) (hfv : fv = .null ∨ ∃ f, fv = .ref f) (C0 : 0 ≤ c0.toInt ∧ c0.toInt ≤ 255) (C1 : 0 ≤ c1.toInt ∧ c1.toInt ≤ 255) (C2 : 0 ≤ c2.toInt ∧ c2.toInt ≤ 255) (C3 : 0 ≤ c3.toInt ∧ c3.toInt ≤ 255) (P0 : (c0.toInt8.toInt32).toInt ≠ 58) (P1 : (c1.toInt8.toInt32).toInt ≠ 58) (P2 : (c2.toInt8.toInt32).toInt ≠ 58) (P3 : (c3.toInt8.toInt32).toInt ≠ 58) (H95 : c0.toInt ≠ 95) :
    Ctr l Z (⟨"com/example/divvy/divvy/document/DocumentId", "partitionKey", "(Ljava/lang/String;)Ljava/lang/String;"⟩ : MethodName) prog_20_method_3_code 1 (some (.object "java/lang/String")) ws ({ frames := 4, cells := 0, slots := 0, locals := 59 } : Room) #[(.ref a)] h0 (fun v h L => v = some (.ref a) ∧ Fr n0 L ∧ h = h0) := by
  refine enter pn_9 ?_
  intro p e s m below meth c T0 X0 hx hby hml hret hlk hZ hown hnm e0
  have A0 := wk X0 hx hby
  have N0 := Fr.nil n0
  refine goIn (ef_c_pk_4 m a) ?_
  show Go p e below m (Fini s 0 0 (fun v h L => v = some (.ref a) ∧ Fr n0 L ∧ h = h0)) T0 0 #[.val (.ref a)] []
  refine s_aloadN A0 d9_0 (pc' := 1) rfl rfl rfl ?_
  refine g_virtual X0 hx hZ (y := (⟨"java/lang/String", "isEmpty", "()Z"⟩ : MethodName)) hown (hw _ (List.mem_of_getElem? (i := 45) rfl)) (hw _ (List.mem_of_getElem? (i := 46) rfl)) (hw _ (List.mem_of_getElem? (i := 48) rfl)) (hw _ (List.mem_of_getElem? (i := 47) rfl)) (hw _ (List.mem_of_getElem? (i := 7) rfl)) (hw _ (List.mem_of_getElem? (i := 49) rfl)) (by decide) Ea (argsL := []) (rest := []) (c_ise_4 l Z a0 hw [] a d cz c0 c1 c2 c3 h0 n0 Z0 Ea Fv Fc D O SC hcz) pd_8 rfl rfl (hb hby d9_1) e0 (by rw [hml]; rfl) (pc' := 4) rfl (by decide) (W := 0) (Nat.le_of_eq rfl) (by decide) (by decide) (by decide) ?_
  intro v1 T1 L1 X1 hQ1
  have A1 := wk X1 hx hby
  have e1 : T1.heap = T1.heap := rfl
  obtain ⟨rfl, N1, hh1⟩ := hQ1
  have e1 : T1.heap = h0 := hh1
  have fr1 := Fr.app N0 N1
  show Go p e below m (Fini s 0 0 (fun v h L => v = some (.ref a) ∧ Fr n0 L ∧ h = h0)) T1 4 #[.val (.ref a)] [(.int (0 : Int32))]
  refine s_ifeq A1 d9_4 (pY := 17) (pN := 7) (by decide) (by decide) rfl (fun _ => ?_) (fun c => absurd c (by decide))
  refine s_aloadN A1 d9_17 (pc' := 18) rfl rfl rfl ?_
  refine s_iconst A1 d9_18 (pc' := 19) rfl (v := (0 : Int32)) (by decide) ?_
  refine g_virtual X1 hx hZ (y := (⟨"java/lang/String", "charAt", "(I)C"⟩ : MethodName)) hown (hw _ (List.mem_of_getElem? (i := 50) rfl)) (hw _ (List.mem_of_getElem? (i := 51) rfl)) (hw _ (List.mem_of_getElem? (i := 53) rfl)) (hw _ (List.mem_of_getElem? (i := 52) rfl)) (hw _ (List.mem_of_getElem? (i := 7) rfl)) (hw _ (List.mem_of_getElem? (i := 54) rfl)) (by decide) Ea (argsL := [(.int (0 : Int32))]) (rest := []) (c_cha_0_4 l Z a0 hw [] a d cz c0 c1 c2 c3 fv h0 n0 Z0 Ea Fv Fc D O SC hcz SF hfv C0 C1 C2 C3) pd_14 rfl rfl (hb hby d9_19) e1 (by rw [hml]; rfl) (pc' := 22) rfl (by decide) (W := 0) (Nat.le_of_eq rfl) (by decide) (by decide) (by decide) ?_
  intro v2 T2 L2 X2 hQ2
  have A2 := wk X2 hx hby
  have e2 : T2.heap = T2.heap := rfl
  obtain ⟨rfl, N2, hh2⟩ := hQ2
  have e2 : T2.heap = h0 := hh2
  have fr2 := Fr.app fr1 N2
  show Go p e below m (Fini s 0 0 (fun v h L => v = some (.ref a) ∧ Fr n0 L ∧ h = h0)) T2 22 #[.val (.ref a)] [(.int c0)]
  refine s_bipush A2 d9_22 (pc' := 24) rfl (v := (95 : Int32)) (by decide) ?_
  refine s_icmpne A2 d9_24 (pY := 37) (pN := 27) (by decide) (by decide) rfl ?_ ?_
  · intro c24
    replace c24 := i_ne c24
    rw [show (95 : Int32).toInt = 95 from by decide] at c24
    refine s_aloadN A2 d9_37 (pc' := 38) rfl rfl rfl ?_
    refine s_bipush A2 d9_38 (pc' := 40) rfl (v := (58 : Int32)) (by decide) ?_
    refine g_virtual X2 hx hZ (y := (⟨"java/lang/String", "indexOf", "(I)I"⟩ : MethodName)) hown (hw _ (List.mem_of_getElem? (i := 72) rfl)) (hw _ (List.mem_of_getElem? (i := 73) rfl)) (hw _ (List.mem_of_getElem? (i := 75) rfl)) (hw _ (List.mem_of_getElem? (i := 74) rfl)) (hw _ (List.mem_of_getElem? (i := 7) rfl)) (hw _ (List.mem_of_getElem? (i := 76) rfl)) (by decide) Ea (argsL := [(.int (58 : Int32))]) (rest := []) (c_io1_4 l Z a0 hw [] a d cz c0 c1 c2 c3 h0 n0 Z0 Ea Fv Fc D O SC hcz P0 P1 P2 P3) pd_15 rfl rfl (hb hby d9_40) e2 (by rw [hml]; rfl) (pc' := 43) rfl (by decide) (W := 0) (Nat.le_of_eq rfl) (by decide) (by decide) (by decide) ?_
    intro v3 T3 L3 X3 hQ3
    have A3 := wk X3 hx hby
    have e3 : T3.heap = T3.heap := rfl
    obtain ⟨rfl, N3, hh3⟩ := hQ3
    have e3 : T3.heap = h0 := hh3
    have fr3 := Fr.app fr2 N3
    show Go p e below m (Fini s 0 0 (fun v h L => v = some (.ref a) ∧ Fr n0 L ∧ h = h0)) T3 43 #[.val (.ref a)] [(.int (-1 : Int32))]
    refine s_iflt A3 d9_43 (pY := 56) (pN := 46) (by decide) (by decide) rfl (fun _ => ?_) (fun c => absurd c (by decide))
    refine s_aloadN A3 d9_56 (pc' := 57) rfl rfl rfl ?_
    exact g_retA X3 hx hlk hret rfl rfl rfl (hb hby d9_57) ⟨rfl, fr3, e3⟩ (by decide) (by decide)
  · intro c24
    replace c24 := i_eq c24
    rw [show (95 : Int32).toInt = 95 from by decide] at c24
    exact absurd c24 H95
theorem d25_0 : decode jdk_42_method_66_code 0 = .ok (.aload_n 0, 1) := by decide +kernel
theorem d25_1 : decode jdk_42_method_66_code 1 = .ok (.aload_n 1, 1) := by decide +kernel
theorem d25_2 : decode jdk_42_method_66_code 2 = .ok (.if_acmp .ne 5, 3) := by decide +kernel
theorem d25_5 : decode jdk_42_method_66_code 5 = .ok (.iconst 1, 1) := by decide +kernel
theorem d25_6 : decode jdk_42_method_66_code 6 = .ok (.ireturn, 1) := by decide +kernel
theorem d25_7 : decode jdk_42_method_66_code 7 = .ok (.aload_n 1, 1) := by decide +kernel
theorem d25_8 : decode jdk_42_method_66_code 8 = .ok (.instanceof 10, 3) := by decide +kernel
theorem d25_11 : decode jdk_42_method_66_code 11 = .ok (.ifCond .eq 43, 3) := by decide +kernel
theorem d25_14 : decode jdk_42_method_66_code 14 = .ok (.aload_n 1, 1) := by decide +kernel
theorem d25_15 : decode jdk_42_method_66_code 15 = .ok (.checkcast 10, 3) := by decide +kernel
theorem d25_18 : decode jdk_42_method_66_code 18 = .ok (.astore_n 2, 1) := by decide +kernel
theorem d25_19 : decode jdk_42_method_66_code 19 = .ok (.getstatic 38, 3) := by decide +kernel
theorem d25_22 : decode jdk_42_method_66_code 22 = .ok (.ifCond .eq 14, 3) := by decide +kernel
theorem d25_25 : decode jdk_42_method_66_code 25 = .ok (.aload_n 0, 1) := by decide +kernel
theorem d25_26 : decode jdk_42_method_66_code 26 = .ok (.getfield 15, 3) := by decide +kernel
theorem d25_29 : decode jdk_42_method_66_code 29 = .ok (.aload_n 2, 1) := by decide +kernel
theorem d25_30 : decode jdk_42_method_66_code 30 = .ok (.getfield 15, 3) := by decide +kernel
theorem d25_33 : decode jdk_42_method_66_code 33 = .ok (.if_icmp .ne 21, 3) := by decide +kernel
theorem d25_36 : decode jdk_42_method_66_code 36 = .ok (.aload_n 0, 1) := by decide +kernel
theorem d25_37 : decode jdk_42_method_66_code 37 = .ok (.getfield 9, 3) := by decide +kernel
theorem d25_40 : decode jdk_42_method_66_code 40 = .ok (.aload_n 2, 1) := by decide +kernel
theorem d25_41 : decode jdk_42_method_66_code 41 = .ok (.getfield 9, 3) := by decide +kernel
theorem d25_44 : decode jdk_42_method_66_code 44 = .ok (.invokestatic 541, 3) := by decide +kernel
theorem d25_47 : decode jdk_42_method_66_code 47 = .ok (.ifCond .eq 7, 3) := by decide +kernel
theorem d25_50 : decode jdk_42_method_66_code 50 = .ok (.iconst 1, 1) := by decide +kernel
theorem d25_51 : decode jdk_42_method_66_code 51 = .ok (.goto 4, 3) := by decide +kernel
theorem d25_54 : decode jdk_42_method_66_code 54 = .ok (.iconst 0, 1) := by decide +kernel
theorem d25_55 : decode jdk_42_method_66_code 55 = .ok (.ireturn, 1) := by decide +kernel
theorem ef_c_eq (m : MethodId) (x0 : Addr) (x1 : Addr) : entryFrame m #[(.ref x0), (.ref x1)] 3 = mkF m 0 #[.val (.ref x0), .val (.ref x1), .unset] [] := by first | (simp [entryFrame, mkF, argsToLocals, Value.category, maxLocals]; done) | rfl
set_option maxRecDepth 65536 in
set_option maxHeartbeats 40000000 in
theorem c_eq (l : Launch) (Z : State) (a0 : Array Value) (hw : ∀ d ∈ tables_1, d.before a0 Z = true) (ws : List Jvm.Cond) (a : Addr) (h0 : Heap) (n0 : Nat) (Z0 : n0 ≤ h0.size)  :
    Ctr l Z (⟨"java/lang/String", "equals", "(Ljava/lang/Object;)Z"⟩ : MethodName) jdk_42_method_66_code 3 (some .boolean) ws ({ frames := 0, cells := 0, slots := 0, locals := 0 } : Room) #[(.ref a), (.ref a)] h0 (fun v h L => v = some (.int 1) ∧ Fr n0 L ∧ h = h0) := by
  refine enter pn_25 ?_
  intro p e s m below meth c T0 X0 hx hby hml hret hlk hZ hown hnm e0
  have A0 := wk X0 hx hby
  have N0 := Fr.nil n0
  refine goIn (ef_c_eq m a a) ?_
  show Go p e below m (Fini s 0 0 (fun v h L => v = some (.int 1) ∧ Fr n0 L ∧ h = h0)) T0 0 #[.val (.ref a), .val (.ref a), .unset] []
  refine s_aloadN A0 d25_0 (pc' := 1) rfl rfl rfl ?_
  refine s_aloadN A0 d25_1 (pc' := 2) rfl rfl rfl ?_
  refine s_acmpne A0 rfl rfl d25_2 (pY := 7) (pN := 5) (by decide) (by decide) rfl ?_ ?_
  · intro c2
    exact absurd rfl c2
  · intro c2
    refine s_iconst A0 d25_5 (pc' := 6) rfl (v := (1 : Int32)) (by decide) ?_
    exact g_retZ X0 hx hlk hret (by decide) (hb hby d25_6) ⟨rfl, N0, e0⟩ (by decide) (by decide)
theorem ef_c_law (m : MethodId) (x0 : Int32) (x1 : Int32) (x2 : Int32) (x3 : Int32) (x4 : Int32) : entryFrame m #[(.int x0), (.int x1), (.int x2), (.int x3), (.int x4)] maxLocals = mkF m 0 #[.val (.int x0), .val (.int x1), .val (.int x2), .val (.int x3), .val (.int x4), .unset, .unset, .unset, .unset, .unset, .unset, .unset] [] := by first | (simp [entryFrame, mkF, argsToLocals, Value.category, maxLocals]; done) | rfl
set_option maxRecDepth 65536 in
set_option maxHeartbeats 40000000 in
theorem c_law (l : Launch) (Z : State) (a0 : Array Value) (hw : ∀ d ∈ tables_1, d.before a0 Z = true) (ws : List Jvm.Cond) (p0 p1 p2 p3 p4 cz : Int32) (fv : Value) (h0 : Heap) (n0 : Nat) (Z0 : n0 ≤ h0.size) (O : Old Z n0 h0) (SC : Sta Z Z.heap "java/lang/String" "COMPACT_STRINGS" "Z" (.int cz)) (hcz : ¬ cz = 0) (SF : Sta Z Z.heap "jdk/internal/util/Preconditions" "SIOOBE_FORMATTER" "Ljava/util/function/BiFunction;" fv) (hfv : fv = .null ∨ ∃ f, fv = .ref f) (hEL : EW Z a0 consts_1) :
    CtrH l Z consts_1 x code maxLocals ret ws room_1 #[(.int p0), (.int p1), (.int p2), (.int p3), (.int p4)] h0 (fun v h L => v = some (.int 1) ∧ Fr n0 L) := by
  refine enterH pn_0 ?_
  intro p e s m below meth c T0 X0 hx hby hml hret hlk hZ hown hnm e0 CH0 hS0
  have A0 := wk X0 hx hby
  have N0 := Fr.nil n0
  refine goIn (ef_c_law m p0 p1 p2 p3 p4) ?_
  show Go p e below m (FinH Z consts_1 s h0 room_1.cells room_1.slots (fun v h L => v = some (.int 1) ∧ Fr n0 L)) T0 0 #[.val (.int p0), .val (.int p1), .val (.int p2), .val (.int p3), .val (.int p4), .unset, .unset, .unset, .unset, .unset, .unset, .unset] []
  refine s_iloadN A0 at_0 (pc' := 1) rfl rfl ?_
  refine g_ldcI X0 hx hZ (v := (2147483647 : Int32)) hown (hw _ (List.mem_of_getElem? (i := 0) rfl)) (hb hby at_1) (pc' := 3) rfl ?_
  obtain ⟨z1, hz1⟩ : ∃ v : Int32, (p0 &&& (2147483647 : Int32)) = v := ⟨_, rfl⟩
  have q1 : 0 ≤ z1.toInt ∧ z1.toInt ≤ 2147483647 := hz1 ▸ iand_b (M := 2147483647) p0 (2147483647 : Int32) (by decide) (by decide)
  refine s_iand A0 at_3 (pc' := 4) rfl hz1 ?_
  refine s_iconst A0 at_4 (pc' := 5) rfl (v := (5 : Int32)) (by decide) ?_
  obtain ⟨z2, hz2⟩ : ∃ v : Int32, (z1 - (z1 / (5 : Int32)) * (5 : Int32)) = v := ⟨_, rfl⟩
  refine s_irem A0 at_5 (pc' := 6) rfl (by decide) hz2 ?_
  refine s_istore A0 at_6 (pc' := 8) rfl (ls' := #[.val (.int p0), .val (.int p1), .val (.int p2), .val (.int p3), .val (.int p4), .val (.int z2), .unset, .unset, .unset, .unset, .unset, .unset]) rfl ?_
  refine s_iloadN A0 at_8 (pc' := 9) rfl rfl ?_
  refine s_sipush A0 at_9 (pc' := 12) rfl (v := (255 : Int32)) (by decide) ?_
  obtain ⟨z3, hz3⟩ : ∃ v : Int32, (p1 &&& (255 : Int32)) = v := ⟨_, rfl⟩
  have q3 : 0 ≤ z3.toInt ∧ z3.toInt ≤ 255 := hz3 ▸ iand_b (M := 255) p1 (255 : Int32) (by decide) (by decide)
  refine s_iand A0 at_12 (pc' := 13) rfl hz3 ?_
  refine s_i2c A0 at_13 (pc' := 14) rfl (own_i2c (z := z3) (by omega)) ?_
  refine s_istore A0 at_14 (pc' := 16) rfl (ls' := #[.val (.int p0), .val (.int p1), .val (.int p2), .val (.int p3), .val (.int p4), .val (.int z2), .val (.int z3), .unset, .unset, .unset, .unset, .unset]) rfl ?_
  refine s_iloadN A0 at_16 (pc' := 17) rfl rfl ?_
  refine s_sipush A0 at_17 (pc' := 20) rfl (v := (255 : Int32)) (by decide) ?_
  obtain ⟨z4, hz4⟩ : ∃ v : Int32, (p2 &&& (255 : Int32)) = v := ⟨_, rfl⟩
  have q4 : 0 ≤ z4.toInt ∧ z4.toInt ≤ 255 := hz4 ▸ iand_b (M := 255) p2 (255 : Int32) (by decide) (by decide)
  refine s_iand A0 at_20 (pc' := 21) rfl hz4 ?_
  refine s_i2c A0 at_21 (pc' := 22) rfl (own_i2c (z := z4) (by omega)) ?_
  refine s_istore A0 at_22 (pc' := 24) rfl (ls' := #[.val (.int p0), .val (.int p1), .val (.int p2), .val (.int p3), .val (.int p4), .val (.int z2), .val (.int z3), .val (.int z4), .unset, .unset, .unset, .unset]) rfl ?_
  refine s_iloadN A0 at_24 (pc' := 25) rfl rfl ?_
  refine s_sipush A0 at_25 (pc' := 28) rfl (v := (255 : Int32)) (by decide) ?_
  obtain ⟨z5, hz5⟩ : ∃ v : Int32, (p3 &&& (255 : Int32)) = v := ⟨_, rfl⟩
  have q5 : 0 ≤ z5.toInt ∧ z5.toInt ≤ 255 := hz5 ▸ iand_b (M := 255) p3 (255 : Int32) (by decide) (by decide)
  refine s_iand A0 at_28 (pc' := 29) rfl hz5 ?_
  refine s_i2c A0 at_29 (pc' := 30) rfl (own_i2c (z := z5) (by omega)) ?_
  refine s_istore A0 at_30 (pc' := 32) rfl (ls' := #[.val (.int p0), .val (.int p1), .val (.int p2), .val (.int p3), .val (.int p4), .val (.int z2), .val (.int z3), .val (.int z4), .val (.int z5), .unset, .unset, .unset]) rfl ?_
  refine s_iload A0 at_32 (pc' := 34) rfl rfl ?_
  refine s_sipush A0 at_34 (pc' := 37) rfl (v := (255 : Int32)) (by decide) ?_
  obtain ⟨z6, hz6⟩ : ∃ v : Int32, (p4 &&& (255 : Int32)) = v := ⟨_, rfl⟩
  have q6 : 0 ≤ z6.toInt ∧ z6.toInt ≤ 255 := hz6 ▸ iand_b (M := 255) p4 (255 : Int32) (by decide) (by decide)
  refine s_iand A0 at_37 (pc' := 38) rfl hz6 ?_
  refine s_i2c A0 at_38 (pc' := 39) rfl (own_i2c (z := z6) (by omega)) ?_
  refine s_istore A0 at_39 (pc' := 41) rfl (ls' := #[.val (.int p0), .val (.int p1), .val (.int p2), .val (.int p3), .val (.int p4), .val (.int z2), .val (.int z3), .val (.int z4), .val (.int z5), .val (.int z6), .unset, .unset]) rfl ?_
  rcases own_c5 (own_rem hz2 q1.1 (by decide) (by decide)) with rfl | rfl | rfl | rfl | rfl
  ·
    refine s_iload A0 at_41 (pc' := 43) rfl rfl ?_
    refine s_iload A0 at_43 (pc' := 45) rfl rfl ?_
    refine s_iload A0 at_45 (pc' := 47) rfl rfl ?_
    refine s_iload A0 at_47 (pc' := 49) rfl rfl ?_
    refine s_iload A0 at_49 (pc' := 51) rfl rfl ?_
    refine g_staticH X0 hx hZ (y := (⟨"com/example/divvy/divvy/document/DocumentIdPartitionKeyPinLaw", "make", "(ICCCC)Ljava/lang/String;"⟩ : MethodName)) hown (hw _ (List.mem_of_getElem? (i := 1) rfl)) (hw _ (List.mem_of_getElem? (i := 2) rfl)) (hw _ (List.mem_of_getElem? (i := 3) rfl)) (hw _ (List.mem_of_getElem? (i := 4) rfl)) (by decide) hS0 (Nat.zero_le _) hEL CH0 (argsL := [(.int (0 : Int32)), (.int z3), (.int z4), (.int z5), (.int z6)]) (rest := []) (c_make_0 l Z a0 hw [] cz z3 z4 z5 z6 h0 n0 Z0 O SC hcz q3 q4 q5 q6 hEL) pd_16 rfl rfl (hb hby at_51) e0 (by rw [hml]; rfl) (pc' := 54) rfl (by decide) (W := 0) (Nat.le_of_eq rfl) (by decide) (by decide) (by decide) ?_
    intro v101 T101 L101 X101 hS101 hZ hown ch101 sx101 hQ101
    have A101 := wk X101 hx hby
    have e101 : T101.heap = T101.heap := rfl
    obtain ⟨a101, d101, rfl, N101, K101, Ea101, Fv101, Fc101, D101⟩ := hQ101
    have kp102 := Keep.trans (Keep.refl h0 []) K101 (fun x hx => absurd hx nin0)
    have fr101 := Fr.app N0 N101
    show Go p e below m (FinH Z consts_1 s h0 room_1.cells room_1.slots (fun v h L => v = some (.int 1) ∧ Fr n0 L)) T101 54 #[.val (.int p0), .val (.int p1), .val (.int p2), .val (.int p3), .val (.int p4), .val (.int (0 : Int32)), .val (.int z3), .val (.int z4), .val (.int z5), .val (.int z6), .unset, .unset] [(.ref a101)]
    refine s_astore A101 at_54 (pc' := 56) rfl (ls' := #[.val (.int p0), .val (.int p1), .val (.int p2), .val (.int p3), .val (.int p4), .val (.int (0 : Int32)), .val (.int z3), .val (.int z4), .val (.int z5), .val (.int z6), .val (.ref a101), .unset]) rfl rfl ?_
    refine s_iload A101 at_56 (pc' := 58) rfl rfl ?_
    refine s_iload A101 at_58 (pc' := 60) rfl rfl ?_
    refine s_iload A101 at_60 (pc' := 62) rfl rfl ?_
    refine s_iload A101 at_62 (pc' := 64) rfl rfl ?_
    refine s_iload A101 at_64 (pc' := 66) rfl rfl ?_
    have sz104 : h0.size ≤ T101.heap.size := K101.1
    have zs103 : n0 ≤ T101.heap.size := Nat.le_trans Z0 sz104
    refine g_static X101 hx hZ (y := (⟨"com/example/divvy/divvy/document/DocumentIdPartitionKeyPinLaw", "valid", "(ICCCC)Z"⟩ : MethodName)) hown (hw _ (List.mem_of_getElem? (i := 27) rfl)) (hw _ (List.mem_of_getElem? (i := 28) rfl)) (hw _ (List.mem_of_getElem? (i := 3) rfl)) (hw _ (List.mem_of_getElem? (i := 29) rfl)) (by decide) (argsL := [(.int (0 : Int32)), (.int z3), (.int z4), (.int z5), (.int z6)]) (rest := []) (c_val_0 l Z a0 hw [] z3 z4 z5 z6 T101.heap n0 zs103) pd_17 rfl rfl (hb hby at_66) e101 (by rw [hml]; rfl) (pc' := 69) rfl (by decide) (W := 0) (Nat.le_of_eq rfl) (by decide) (by decide) (by decide) ?_
    intro v105 T105 L105 X105 hQ105
    have A105 := wk X105 hx hby
    have e105 : T105.heap = T105.heap := rfl
    obtain ⟨rfl, N105, hh105⟩ := hQ105
    have e105 : T105.heap = T101.heap := hh105
    have fr105 := Fr.app fr101 N105
    show Go p e below m (FinH Z consts_1 s h0 room_1.cells room_1.slots (fun v h L => v = some (.int 1) ∧ Fr n0 L)) T105 69 #[.val (.int p0), .val (.int p1), .val (.int p2), .val (.int p3), .val (.int p4), .val (.int (0 : Int32)), .val (.int z3), .val (.int z4), .val (.int z5), .val (.int z6), .val (.ref a101), .unset] [(.int (0 : Int32))]
    refine s_ifne A105 at_69 (pY := 74) (pN := 72) (by decide) (by decide) rfl (fun c => absurd c (by decide)) (fun _ => ?_)
    refine s_iconst A105 at_72 (pc' := 73) rfl (v := (1 : Int32)) (by decide) ?_
    exact h_ret X105 hx hZ hlk hS101 e105 (Nat.le_refl _) hEL ch101 hret rfl (Or.inl ⟨rfl, by simp, _, rfl⟩) (hb hby at_73) ⟨rfl, fr105⟩ (by decide) (by decide)
  ·
    refine s_iload A0 at_41 (pc' := 43) rfl rfl ?_
    refine s_iload A0 at_43 (pc' := 45) rfl rfl ?_
    refine s_iload A0 at_45 (pc' := 47) rfl rfl ?_
    refine s_iload A0 at_47 (pc' := 49) rfl rfl ?_
    refine s_iload A0 at_49 (pc' := 51) rfl rfl ?_
    refine g_staticH X0 hx hZ (y := (⟨"com/example/divvy/divvy/document/DocumentIdPartitionKeyPinLaw", "make", "(ICCCC)Ljava/lang/String;"⟩ : MethodName)) hown (hw _ (List.mem_of_getElem? (i := 1) rfl)) (hw _ (List.mem_of_getElem? (i := 2) rfl)) (hw _ (List.mem_of_getElem? (i := 3) rfl)) (hw _ (List.mem_of_getElem? (i := 4) rfl)) (by decide) hS0 (Nat.zero_le _) hEL CH0 (argsL := [(.int (1 : Int32)), (.int z3), (.int z4), (.int z5), (.int z6)]) (rest := []) (c_make_1 l Z a0 hw [] cz z3 z4 z5 z6 h0 n0 Z0 O SC hcz q3 q4 q5 q6 hEL) pd_16 rfl rfl (hb hby at_51) e0 (by rw [hml]; rfl) (pc' := 54) rfl (by decide) (W := 0) (Nat.le_of_eq rfl) (by decide) (by decide) (by decide) ?_
    intro v201 T201 L201 X201 hS201 hZ hown ch201 sx201 hQ201
    have A201 := wk X201 hx hby
    have e201 : T201.heap = T201.heap := rfl
    obtain ⟨a201, d201, rfl, N201, K201, Ea201, Fv201, Fc201, D201⟩ := hQ201
    have kp202 := Keep.trans (Keep.refl h0 []) K201 (fun x hx => absurd hx nin0)
    have fr201 := Fr.app N0 N201
    show Go p e below m (FinH Z consts_1 s h0 room_1.cells room_1.slots (fun v h L => v = some (.int 1) ∧ Fr n0 L)) T201 54 #[.val (.int p0), .val (.int p1), .val (.int p2), .val (.int p3), .val (.int p4), .val (.int (1 : Int32)), .val (.int z3), .val (.int z4), .val (.int z5), .val (.int z6), .unset, .unset] [(.ref a201)]
    refine s_astore A201 at_54 (pc' := 56) rfl (ls' := #[.val (.int p0), .val (.int p1), .val (.int p2), .val (.int p3), .val (.int p4), .val (.int (1 : Int32)), .val (.int z3), .val (.int z4), .val (.int z5), .val (.int z6), .val (.ref a201), .unset]) rfl rfl ?_
    refine s_iload A201 at_56 (pc' := 58) rfl rfl ?_
    refine s_iload A201 at_58 (pc' := 60) rfl rfl ?_
    refine s_iload A201 at_60 (pc' := 62) rfl rfl ?_
    refine s_iload A201 at_62 (pc' := 64) rfl rfl ?_
    refine s_iload A201 at_64 (pc' := 66) rfl rfl ?_
    have sz204 : h0.size ≤ T201.heap.size := K201.1
    have zs203 : n0 ≤ T201.heap.size := Nat.le_trans Z0 sz204
    refine g_static X201 hx hZ (y := (⟨"com/example/divvy/divvy/document/DocumentIdPartitionKeyPinLaw", "valid", "(ICCCC)Z"⟩ : MethodName)) hown (hw _ (List.mem_of_getElem? (i := 27) rfl)) (hw _ (List.mem_of_getElem? (i := 28) rfl)) (hw _ (List.mem_of_getElem? (i := 3) rfl)) (hw _ (List.mem_of_getElem? (i := 29) rfl)) (by decide) (argsL := [(.int (1 : Int32)), (.int z3), (.int z4), (.int z5), (.int z6)]) (rest := []) (c_val_1 l Z a0 hw [] z3 z4 z5 z6 T201.heap n0 zs203) pd_17 rfl rfl (hb hby at_66) e201 (by rw [hml]; rfl) (pc' := 69) rfl (by decide) (W := 0) (Nat.le_of_eq rfl) (by decide) (by decide) (by decide) ?_
    intro v205 T205 L205 X205 hQ205
    have A205 := wk X205 hx hby
    have e205 : T205.heap = T205.heap := rfl
    obtain ⟨z205, rfl, zb205, zq205, N205, hh205⟩ := hQ205
    have e205 : T205.heap = T201.heap := hh205
    have fr205 := Fr.app fr201 N205
    show Go p e below m (FinH Z consts_1 s h0 room_1.cells room_1.slots (fun v h L => v = some (.int 1) ∧ Fr n0 L)) T205 69 #[.val (.int p0), .val (.int p1), .val (.int p2), .val (.int p3), .val (.int p4), .val (.int (1 : Int32)), .val (.int z3), .val (.int z4), .val (.int z5), .val (.int z6), .val (.ref a201), .unset] [(.int z205)]
    refine s_ifne A205 at_69 (pY := 74) (pN := 72) (by decide) (by decide) rfl ?_ ?_
    · intro c69
      replace c69 := iz_ne c69
      have cc := zq205 c69
      refine s_aload A205 at_74 (pc' := 76) rfl rfl rfl ?_
      have f206 := (Old.keep O K201 (fun x hx => absurd hx nin0))
      refine g_static X205 hx hZ (y := (⟨"com/example/divvy/divvy/document/DocumentId", "partitionKey", "(Ljava/lang/String;)Ljava/lang/String;"⟩ : MethodName)) hown (hw _ (List.mem_of_getElem? (i := 41) rfl)) (hw _ (List.mem_of_getElem? (i := 42) rfl)) (hw _ (List.mem_of_getElem? (i := 43) rfl)) (hw _ (List.mem_of_getElem? (i := 44) rfl)) (by decide) (argsL := [(.ref a201)]) (rest := []) (c_pk_1 l Z a0 hw [] a201 d201 cz z3 fv T201.heap n0 zs203 Ea201 Fv201 Fc201 D201 f206 SC hcz SF hfv q3 (own_58 q3 (by omega)) cc.1) pd_18 rfl rfl (hb hby at_76) e205 (by rw [hml]; rfl) (pc' := 79) rfl (by decide) (W := 0) (Nat.le_of_eq rfl) (by decide) (by decide) (by decide) ?_
      intro v207 T207 L207 X207 hQ207
      have A207 := wk X207 hx hby
      have e207 : T207.heap = T207.heap := rfl
      obtain ⟨rfl, N207, hh207⟩ := hQ207
      have e207 : T207.heap = T201.heap := hh207
      have fr207 := Fr.app fr205 N207
      show Go p e below m (FinH Z consts_1 s h0 room_1.cells room_1.slots (fun v h L => v = some (.int 1) ∧ Fr n0 L)) T207 79 #[.val (.int p0), .val (.int p1), .val (.int p2), .val (.int p3), .val (.int p4), .val (.int (1 : Int32)), .val (.int z3), .val (.int z4), .val (.int z5), .val (.int z6), .val (.ref a201), .unset] [(.ref a201)]
      refine s_astore A207 at_79 (pc' := 81) rfl (ls' := #[.val (.int p0), .val (.int p1), .val (.int p2), .val (.int p3), .val (.int p4), .val (.int (1 : Int32)), .val (.int z3), .val (.int z4), .val (.int z5), .val (.int z6), .val (.ref a201), .val (.ref a201)]) rfl rfl ?_
      refine s_aload A207 at_81 (pc' := 83) rfl rfl rfl ?_
      refine s_nonnullY A207 at_83 (pc' := 88) (by decide) (by decide) ?_
      refine s_aload A207 at_88 (pc' := 90) rfl rfl rfl ?_
      refine g_virtual X207 hx hZ (y := (⟨"java/lang/String", "length", "()I"⟩ : MethodName)) hown (hw _ (List.mem_of_getElem? (i := 108) rfl)) (hw _ (List.mem_of_getElem? (i := 83) rfl)) (hw _ (List.mem_of_getElem? (i := 85) rfl)) (hw _ (List.mem_of_getElem? (i := 84) rfl)) (hw _ (List.mem_of_getElem? (i := 7) rfl)) (hw _ (List.mem_of_getElem? (i := 86) rfl)) (by decide) Ea201 (argsL := []) (rest := []) (c_len_1 l Z a0 hw [] a201 d201 cz z3 T201.heap n0 zs203 Ea201 Fv201 Fc201 D201 f206 SC hcz) pd_13 rfl rfl (hb hby at_90) e207 (by rw [hml]; rfl) (pc' := 93) rfl (by decide) (W := 0) (Nat.le_of_eq rfl) (by decide) (by decide) (by decide) ?_
      intro v208 T208 L208 X208 hQ208
      have A208 := wk X208 hx hby
      have e208 : T208.heap = T208.heap := rfl
      obtain ⟨rfl, N208, hh208⟩ := hQ208
      have e208 : T208.heap = T201.heap := hh208
      have fr208 := Fr.app fr207 N208
      show Go p e below m (FinH Z consts_1 s h0 room_1.cells room_1.slots (fun v h L => v = some (.int 1) ∧ Fr n0 L)) T208 93 #[.val (.int p0), .val (.int p1), .val (.int p2), .val (.int p3), .val (.int p4), .val (.int (1 : Int32)), .val (.int z3), .val (.int z4), .val (.int z5), .val (.int z6), .val (.ref a201), .val (.ref a201)] [(.int (1 : Int32))]
      refine s_iload A208 at_93 (pc' := 95) rfl rfl ?_
      refine s_icmpeq A208 at_95 (pY := 100) (pN := 98) (by decide) (by decide) rfl (fun _ => ?_) (fun c => absurd c (by decide))
      refine s_aload A208 at_100 (pc' := 102) rfl rfl rfl ?_
      refine s_aload A208 at_102 (pc' := 104) rfl rfl rfl ?_
      refine g_virtual X208 hx hZ (y := (⟨"java/lang/String", "equals", "(Ljava/lang/Object;)Z"⟩ : MethodName)) hown (hw _ (List.mem_of_getElem? (i := 109) rfl)) (hw _ (List.mem_of_getElem? (i := 110) rfl)) (hw _ (List.mem_of_getElem? (i := 112) rfl)) (hw _ (List.mem_of_getElem? (i := 111) rfl)) (hw _ (List.mem_of_getElem? (i := 7) rfl)) (hw _ (List.mem_of_getElem? (i := 113) rfl)) (by decide) Ea201 (argsL := [(.ref a201)]) (rest := []) (c_eq l Z a0 hw [] a201 T201.heap n0 zs203) pd_19 rfl rfl (hb hby at_104) e208 (by rw [hml]; rfl) (pc' := 107) rfl (by decide) (W := 0) (Nat.le_of_eq rfl) (by decide) (by decide) (by decide) ?_
      intro v209 T209 L209 X209 hQ209
      have A209 := wk X209 hx hby
      have e209 : T209.heap = T209.heap := rfl
      obtain ⟨rfl, N209, hh209⟩ := hQ209
      have e209 : T209.heap = T201.heap := hh209
      have fr209 := Fr.app fr208 N209
      show Go p e below m (FinH Z consts_1 s h0 room_1.cells room_1.slots (fun v h L => v = some (.int 1) ∧ Fr n0 L)) T209 107 #[.val (.int p0), .val (.int p1), .val (.int p2), .val (.int p3), .val (.int p4), .val (.int (1 : Int32)), .val (.int z3), .val (.int z4), .val (.int z5), .val (.int z6), .val (.ref a201), .val (.ref a201)] [(.int (1 : Int32))]
      exact h_ret X209 hx hZ hlk hS201 e209 (Nat.le_refl _) hEL ch201 hret rfl (Or.inl ⟨rfl, by simp, _, rfl⟩) (hb hby at_107) ⟨rfl, fr209⟩ (by decide) (by decide)
    · intro c69
      replace c69 := iz_eq c69
      refine s_iconst A205 at_72 (pc' := 73) rfl (v := (1 : Int32)) (by decide) ?_
      exact h_ret X205 hx hZ hlk hS201 e205 (Nat.le_refl _) hEL ch201 hret rfl (Or.inl ⟨rfl, by simp, _, rfl⟩) (hb hby at_73) ⟨rfl, fr205⟩ (by decide) (by decide)
  ·
    refine s_iload A0 at_41 (pc' := 43) rfl rfl ?_
    refine s_iload A0 at_43 (pc' := 45) rfl rfl ?_
    refine s_iload A0 at_45 (pc' := 47) rfl rfl ?_
    refine s_iload A0 at_47 (pc' := 49) rfl rfl ?_
    refine s_iload A0 at_49 (pc' := 51) rfl rfl ?_
    refine g_staticH X0 hx hZ (y := (⟨"com/example/divvy/divvy/document/DocumentIdPartitionKeyPinLaw", "make", "(ICCCC)Ljava/lang/String;"⟩ : MethodName)) hown (hw _ (List.mem_of_getElem? (i := 1) rfl)) (hw _ (List.mem_of_getElem? (i := 2) rfl)) (hw _ (List.mem_of_getElem? (i := 3) rfl)) (hw _ (List.mem_of_getElem? (i := 4) rfl)) (by decide) hS0 (Nat.zero_le _) hEL CH0 (argsL := [(.int (2 : Int32)), (.int z3), (.int z4), (.int z5), (.int z6)]) (rest := []) (c_make_2 l Z a0 hw [] cz z3 z4 z5 z6 h0 n0 Z0 O SC hcz q3 q4 q5 q6 hEL) pd_16 rfl rfl (hb hby at_51) e0 (by rw [hml]; rfl) (pc' := 54) rfl (by decide) (W := 0) (Nat.le_of_eq rfl) (by decide) (by decide) (by decide) ?_
    intro v301 T301 L301 X301 hS301 hZ hown ch301 sx301 hQ301
    have A301 := wk X301 hx hby
    have e301 : T301.heap = T301.heap := rfl
    obtain ⟨a301, d301, rfl, N301, K301, Ea301, Fv301, Fc301, D301⟩ := hQ301
    have kp302 := Keep.trans (Keep.refl h0 []) K301 (fun x hx => absurd hx nin0)
    have fr301 := Fr.app N0 N301
    show Go p e below m (FinH Z consts_1 s h0 room_1.cells room_1.slots (fun v h L => v = some (.int 1) ∧ Fr n0 L)) T301 54 #[.val (.int p0), .val (.int p1), .val (.int p2), .val (.int p3), .val (.int p4), .val (.int (2 : Int32)), .val (.int z3), .val (.int z4), .val (.int z5), .val (.int z6), .unset, .unset] [(.ref a301)]
    refine s_astore A301 at_54 (pc' := 56) rfl (ls' := #[.val (.int p0), .val (.int p1), .val (.int p2), .val (.int p3), .val (.int p4), .val (.int (2 : Int32)), .val (.int z3), .val (.int z4), .val (.int z5), .val (.int z6), .val (.ref a301), .unset]) rfl rfl ?_
    refine s_iload A301 at_56 (pc' := 58) rfl rfl ?_
    refine s_iload A301 at_58 (pc' := 60) rfl rfl ?_
    refine s_iload A301 at_60 (pc' := 62) rfl rfl ?_
    refine s_iload A301 at_62 (pc' := 64) rfl rfl ?_
    refine s_iload A301 at_64 (pc' := 66) rfl rfl ?_
    have sz304 : h0.size ≤ T301.heap.size := K301.1
    have zs303 : n0 ≤ T301.heap.size := Nat.le_trans Z0 sz304
    refine g_static X301 hx hZ (y := (⟨"com/example/divvy/divvy/document/DocumentIdPartitionKeyPinLaw", "valid", "(ICCCC)Z"⟩ : MethodName)) hown (hw _ (List.mem_of_getElem? (i := 27) rfl)) (hw _ (List.mem_of_getElem? (i := 28) rfl)) (hw _ (List.mem_of_getElem? (i := 3) rfl)) (hw _ (List.mem_of_getElem? (i := 29) rfl)) (by decide) (argsL := [(.int (2 : Int32)), (.int z3), (.int z4), (.int z5), (.int z6)]) (rest := []) (c_val_2 l Z a0 hw [] z3 z4 z5 z6 T301.heap n0 zs303) pd_17 rfl rfl (hb hby at_66) e301 (by rw [hml]; rfl) (pc' := 69) rfl (by decide) (W := 0) (Nat.le_of_eq rfl) (by decide) (by decide) (by decide) ?_
    intro v305 T305 L305 X305 hQ305
    have A305 := wk X305 hx hby
    have e305 : T305.heap = T305.heap := rfl
    obtain ⟨z305, rfl, zb305, zq305, N305, hh305⟩ := hQ305
    have e305 : T305.heap = T301.heap := hh305
    have fr305 := Fr.app fr301 N305
    show Go p e below m (FinH Z consts_1 s h0 room_1.cells room_1.slots (fun v h L => v = some (.int 1) ∧ Fr n0 L)) T305 69 #[.val (.int p0), .val (.int p1), .val (.int p2), .val (.int p3), .val (.int p4), .val (.int (2 : Int32)), .val (.int z3), .val (.int z4), .val (.int z5), .val (.int z6), .val (.ref a301), .unset] [(.int z305)]
    refine s_ifne A305 at_69 (pY := 74) (pN := 72) (by decide) (by decide) rfl ?_ ?_
    · intro c69
      replace c69 := iz_ne c69
      have cc := zq305 c69
      refine s_aload A305 at_74 (pc' := 76) rfl rfl rfl ?_
      have f306 := (Old.keep O K301 (fun x hx => absurd hx nin0))
      refine g_static X305 hx hZ (y := (⟨"com/example/divvy/divvy/document/DocumentId", "partitionKey", "(Ljava/lang/String;)Ljava/lang/String;"⟩ : MethodName)) hown (hw _ (List.mem_of_getElem? (i := 41) rfl)) (hw _ (List.mem_of_getElem? (i := 42) rfl)) (hw _ (List.mem_of_getElem? (i := 43) rfl)) (hw _ (List.mem_of_getElem? (i := 44) rfl)) (by decide) (argsL := [(.ref a301)]) (rest := []) (c_pk_2 l Z a0 hw [] a301 d301 cz z3 z4 fv T301.heap n0 zs303 Ea301 Fv301 Fc301 D301 f306 SC hcz SF hfv q3 q4 (own_58 q3 (by omega)) (own_58 q4 (by omega)) cc.1) pd_18 rfl rfl (hb hby at_76) e305 (by rw [hml]; rfl) (pc' := 79) rfl (by decide) (W := 0) (Nat.le_of_eq rfl) (by decide) (by decide) (by decide) ?_
      intro v307 T307 L307 X307 hQ307
      have A307 := wk X307 hx hby
      have e307 : T307.heap = T307.heap := rfl
      obtain ⟨rfl, N307, hh307⟩ := hQ307
      have e307 : T307.heap = T301.heap := hh307
      have fr307 := Fr.app fr305 N307
      show Go p e below m (FinH Z consts_1 s h0 room_1.cells room_1.slots (fun v h L => v = some (.int 1) ∧ Fr n0 L)) T307 79 #[.val (.int p0), .val (.int p1), .val (.int p2), .val (.int p3), .val (.int p4), .val (.int (2 : Int32)), .val (.int z3), .val (.int z4), .val (.int z5), .val (.int z6), .val (.ref a301), .unset] [(.ref a301)]
      refine s_astore A307 at_79 (pc' := 81) rfl (ls' := #[.val (.int p0), .val (.int p1), .val (.int p2), .val (.int p3), .val (.int p4), .val (.int (2 : Int32)), .val (.int z3), .val (.int z4), .val (.int z5), .val (.int z6), .val (.ref a301), .val (.ref a301)]) rfl rfl ?_
      refine s_aload A307 at_81 (pc' := 83) rfl rfl rfl ?_
      refine s_nonnullY A307 at_83 (pc' := 88) (by decide) (by decide) ?_
      refine s_aload A307 at_88 (pc' := 90) rfl rfl rfl ?_
      refine g_virtual X307 hx hZ (y := (⟨"java/lang/String", "length", "()I"⟩ : MethodName)) hown (hw _ (List.mem_of_getElem? (i := 108) rfl)) (hw _ (List.mem_of_getElem? (i := 83) rfl)) (hw _ (List.mem_of_getElem? (i := 85) rfl)) (hw _ (List.mem_of_getElem? (i := 84) rfl)) (hw _ (List.mem_of_getElem? (i := 7) rfl)) (hw _ (List.mem_of_getElem? (i := 86) rfl)) (by decide) Ea301 (argsL := []) (rest := []) (c_len_2 l Z a0 hw [] a301 d301 cz z3 z4 T301.heap n0 zs303 Ea301 Fv301 Fc301 D301 f306 SC hcz) pd_13 rfl rfl (hb hby at_90) e307 (by rw [hml]; rfl) (pc' := 93) rfl (by decide) (W := 0) (Nat.le_of_eq rfl) (by decide) (by decide) (by decide) ?_
      intro v308 T308 L308 X308 hQ308
      have A308 := wk X308 hx hby
      have e308 : T308.heap = T308.heap := rfl
      obtain ⟨rfl, N308, hh308⟩ := hQ308
      have e308 : T308.heap = T301.heap := hh308
      have fr308 := Fr.app fr307 N308
      show Go p e below m (FinH Z consts_1 s h0 room_1.cells room_1.slots (fun v h L => v = some (.int 1) ∧ Fr n0 L)) T308 93 #[.val (.int p0), .val (.int p1), .val (.int p2), .val (.int p3), .val (.int p4), .val (.int (2 : Int32)), .val (.int z3), .val (.int z4), .val (.int z5), .val (.int z6), .val (.ref a301), .val (.ref a301)] [(.int (2 : Int32))]
      refine s_iload A308 at_93 (pc' := 95) rfl rfl ?_
      refine s_icmpeq A308 at_95 (pY := 100) (pN := 98) (by decide) (by decide) rfl (fun _ => ?_) (fun c => absurd c (by decide))
      refine s_aload A308 at_100 (pc' := 102) rfl rfl rfl ?_
      refine s_aload A308 at_102 (pc' := 104) rfl rfl rfl ?_
      refine g_virtual X308 hx hZ (y := (⟨"java/lang/String", "equals", "(Ljava/lang/Object;)Z"⟩ : MethodName)) hown (hw _ (List.mem_of_getElem? (i := 109) rfl)) (hw _ (List.mem_of_getElem? (i := 110) rfl)) (hw _ (List.mem_of_getElem? (i := 112) rfl)) (hw _ (List.mem_of_getElem? (i := 111) rfl)) (hw _ (List.mem_of_getElem? (i := 7) rfl)) (hw _ (List.mem_of_getElem? (i := 113) rfl)) (by decide) Ea301 (argsL := [(.ref a301)]) (rest := []) (c_eq l Z a0 hw [] a301 T301.heap n0 zs303) pd_19 rfl rfl (hb hby at_104) e308 (by rw [hml]; rfl) (pc' := 107) rfl (by decide) (W := 0) (Nat.le_of_eq rfl) (by decide) (by decide) (by decide) ?_
      intro v309 T309 L309 X309 hQ309
      have A309 := wk X309 hx hby
      have e309 : T309.heap = T309.heap := rfl
      obtain ⟨rfl, N309, hh309⟩ := hQ309
      have e309 : T309.heap = T301.heap := hh309
      have fr309 := Fr.app fr308 N309
      show Go p e below m (FinH Z consts_1 s h0 room_1.cells room_1.slots (fun v h L => v = some (.int 1) ∧ Fr n0 L)) T309 107 #[.val (.int p0), .val (.int p1), .val (.int p2), .val (.int p3), .val (.int p4), .val (.int (2 : Int32)), .val (.int z3), .val (.int z4), .val (.int z5), .val (.int z6), .val (.ref a301), .val (.ref a301)] [(.int (1 : Int32))]
      exact h_ret X309 hx hZ hlk hS301 e309 (Nat.le_refl _) hEL ch301 hret rfl (Or.inl ⟨rfl, by simp, _, rfl⟩) (hb hby at_107) ⟨rfl, fr309⟩ (by decide) (by decide)
    · intro c69
      replace c69 := iz_eq c69
      refine s_iconst A305 at_72 (pc' := 73) rfl (v := (1 : Int32)) (by decide) ?_
      exact h_ret X305 hx hZ hlk hS301 e305 (Nat.le_refl _) hEL ch301 hret rfl (Or.inl ⟨rfl, by simp, _, rfl⟩) (hb hby at_73) ⟨rfl, fr305⟩ (by decide) (by decide)
  ·
    refine s_iload A0 at_41 (pc' := 43) rfl rfl ?_
    refine s_iload A0 at_43 (pc' := 45) rfl rfl ?_
    refine s_iload A0 at_45 (pc' := 47) rfl rfl ?_
    refine s_iload A0 at_47 (pc' := 49) rfl rfl ?_
    refine s_iload A0 at_49 (pc' := 51) rfl rfl ?_
    refine g_staticH X0 hx hZ (y := (⟨"com/example/divvy/divvy/document/DocumentIdPartitionKeyPinLaw", "make", "(ICCCC)Ljava/lang/String;"⟩ : MethodName)) hown (hw _ (List.mem_of_getElem? (i := 1) rfl)) (hw _ (List.mem_of_getElem? (i := 2) rfl)) (hw _ (List.mem_of_getElem? (i := 3) rfl)) (hw _ (List.mem_of_getElem? (i := 4) rfl)) (by decide) hS0 (Nat.zero_le _) hEL CH0 (argsL := [(.int (3 : Int32)), (.int z3), (.int z4), (.int z5), (.int z6)]) (rest := []) (c_make_3 l Z a0 hw [] cz z3 z4 z5 z6 h0 n0 Z0 O SC hcz q3 q4 q5 q6 hEL) pd_16 rfl rfl (hb hby at_51) e0 (by rw [hml]; rfl) (pc' := 54) rfl (by decide) (W := 0) (Nat.le_of_eq rfl) (by decide) (by decide) (by decide) ?_
    intro v401 T401 L401 X401 hS401 hZ hown ch401 sx401 hQ401
    have A401 := wk X401 hx hby
    have e401 : T401.heap = T401.heap := rfl
    obtain ⟨a401, d401, rfl, N401, K401, Ea401, Fv401, Fc401, D401⟩ := hQ401
    have kp402 := Keep.trans (Keep.refl h0 []) K401 (fun x hx => absurd hx nin0)
    have fr401 := Fr.app N0 N401
    show Go p e below m (FinH Z consts_1 s h0 room_1.cells room_1.slots (fun v h L => v = some (.int 1) ∧ Fr n0 L)) T401 54 #[.val (.int p0), .val (.int p1), .val (.int p2), .val (.int p3), .val (.int p4), .val (.int (3 : Int32)), .val (.int z3), .val (.int z4), .val (.int z5), .val (.int z6), .unset, .unset] [(.ref a401)]
    refine s_astore A401 at_54 (pc' := 56) rfl (ls' := #[.val (.int p0), .val (.int p1), .val (.int p2), .val (.int p3), .val (.int p4), .val (.int (3 : Int32)), .val (.int z3), .val (.int z4), .val (.int z5), .val (.int z6), .val (.ref a401), .unset]) rfl rfl ?_
    refine s_iload A401 at_56 (pc' := 58) rfl rfl ?_
    refine s_iload A401 at_58 (pc' := 60) rfl rfl ?_
    refine s_iload A401 at_60 (pc' := 62) rfl rfl ?_
    refine s_iload A401 at_62 (pc' := 64) rfl rfl ?_
    refine s_iload A401 at_64 (pc' := 66) rfl rfl ?_
    have sz404 : h0.size ≤ T401.heap.size := K401.1
    have zs403 : n0 ≤ T401.heap.size := Nat.le_trans Z0 sz404
    refine g_static X401 hx hZ (y := (⟨"com/example/divvy/divvy/document/DocumentIdPartitionKeyPinLaw", "valid", "(ICCCC)Z"⟩ : MethodName)) hown (hw _ (List.mem_of_getElem? (i := 27) rfl)) (hw _ (List.mem_of_getElem? (i := 28) rfl)) (hw _ (List.mem_of_getElem? (i := 3) rfl)) (hw _ (List.mem_of_getElem? (i := 29) rfl)) (by decide) (argsL := [(.int (3 : Int32)), (.int z3), (.int z4), (.int z5), (.int z6)]) (rest := []) (c_val_3 l Z a0 hw [] z3 z4 z5 z6 T401.heap n0 zs403) pd_17 rfl rfl (hb hby at_66) e401 (by rw [hml]; rfl) (pc' := 69) rfl (by decide) (W := 0) (Nat.le_of_eq rfl) (by decide) (by decide) (by decide) ?_
    intro v405 T405 L405 X405 hQ405
    have A405 := wk X405 hx hby
    have e405 : T405.heap = T405.heap := rfl
    obtain ⟨z405, rfl, zb405, zq405, N405, hh405⟩ := hQ405
    have e405 : T405.heap = T401.heap := hh405
    have fr405 := Fr.app fr401 N405
    show Go p e below m (FinH Z consts_1 s h0 room_1.cells room_1.slots (fun v h L => v = some (.int 1) ∧ Fr n0 L)) T405 69 #[.val (.int p0), .val (.int p1), .val (.int p2), .val (.int p3), .val (.int p4), .val (.int (3 : Int32)), .val (.int z3), .val (.int z4), .val (.int z5), .val (.int z6), .val (.ref a401), .unset] [(.int z405)]
    refine s_ifne A405 at_69 (pY := 74) (pN := 72) (by decide) (by decide) rfl ?_ ?_
    · intro c69
      replace c69 := iz_ne c69
      have cc := zq405 c69
      refine s_aload A405 at_74 (pc' := 76) rfl rfl rfl ?_
      have f406 := (Old.keep O K401 (fun x hx => absurd hx nin0))
      refine g_static X405 hx hZ (y := (⟨"com/example/divvy/divvy/document/DocumentId", "partitionKey", "(Ljava/lang/String;)Ljava/lang/String;"⟩ : MethodName)) hown (hw _ (List.mem_of_getElem? (i := 41) rfl)) (hw _ (List.mem_of_getElem? (i := 42) rfl)) (hw _ (List.mem_of_getElem? (i := 43) rfl)) (hw _ (List.mem_of_getElem? (i := 44) rfl)) (by decide) (argsL := [(.ref a401)]) (rest := []) (c_pk_3 l Z a0 hw [] a401 d401 cz z3 z4 z5 fv T401.heap n0 zs403 Ea401 Fv401 Fc401 D401 f406 SC hcz SF hfv q3 q4 q5 (own_58 q3 (by omega)) (own_58 q4 (by omega)) (own_58 q5 (by omega)) cc.1) pd_18 rfl rfl (hb hby at_76) e405 (by rw [hml]; rfl) (pc' := 79) rfl (by decide) (W := 0) (Nat.le_of_eq rfl) (by decide) (by decide) (by decide) ?_
      intro v407 T407 L407 X407 hQ407
      have A407 := wk X407 hx hby
      have e407 : T407.heap = T407.heap := rfl
      obtain ⟨rfl, N407, hh407⟩ := hQ407
      have e407 : T407.heap = T401.heap := hh407
      have fr407 := Fr.app fr405 N407
      show Go p e below m (FinH Z consts_1 s h0 room_1.cells room_1.slots (fun v h L => v = some (.int 1) ∧ Fr n0 L)) T407 79 #[.val (.int p0), .val (.int p1), .val (.int p2), .val (.int p3), .val (.int p4), .val (.int (3 : Int32)), .val (.int z3), .val (.int z4), .val (.int z5), .val (.int z6), .val (.ref a401), .unset] [(.ref a401)]
      refine s_astore A407 at_79 (pc' := 81) rfl (ls' := #[.val (.int p0), .val (.int p1), .val (.int p2), .val (.int p3), .val (.int p4), .val (.int (3 : Int32)), .val (.int z3), .val (.int z4), .val (.int z5), .val (.int z6), .val (.ref a401), .val (.ref a401)]) rfl rfl ?_
      refine s_aload A407 at_81 (pc' := 83) rfl rfl rfl ?_
      refine s_nonnullY A407 at_83 (pc' := 88) (by decide) (by decide) ?_
      refine s_aload A407 at_88 (pc' := 90) rfl rfl rfl ?_
      refine g_virtual X407 hx hZ (y := (⟨"java/lang/String", "length", "()I"⟩ : MethodName)) hown (hw _ (List.mem_of_getElem? (i := 108) rfl)) (hw _ (List.mem_of_getElem? (i := 83) rfl)) (hw _ (List.mem_of_getElem? (i := 85) rfl)) (hw _ (List.mem_of_getElem? (i := 84) rfl)) (hw _ (List.mem_of_getElem? (i := 7) rfl)) (hw _ (List.mem_of_getElem? (i := 86) rfl)) (by decide) Ea401 (argsL := []) (rest := []) (c_len_3 l Z a0 hw [] a401 d401 cz z3 z4 z5 T401.heap n0 zs403 Ea401 Fv401 Fc401 D401 f406 SC hcz) pd_13 rfl rfl (hb hby at_90) e407 (by rw [hml]; rfl) (pc' := 93) rfl (by decide) (W := 0) (Nat.le_of_eq rfl) (by decide) (by decide) (by decide) ?_
      intro v408 T408 L408 X408 hQ408
      have A408 := wk X408 hx hby
      have e408 : T408.heap = T408.heap := rfl
      obtain ⟨rfl, N408, hh408⟩ := hQ408
      have e408 : T408.heap = T401.heap := hh408
      have fr408 := Fr.app fr407 N408
      show Go p e below m (FinH Z consts_1 s h0 room_1.cells room_1.slots (fun v h L => v = some (.int 1) ∧ Fr n0 L)) T408 93 #[.val (.int p0), .val (.int p1), .val (.int p2), .val (.int p3), .val (.int p4), .val (.int (3 : Int32)), .val (.int z3), .val (.int z4), .val (.int z5), .val (.int z6), .val (.ref a401), .val (.ref a401)] [(.int (3 : Int32))]
      refine s_iload A408 at_93 (pc' := 95) rfl rfl ?_
      refine s_icmpeq A408 at_95 (pY := 100) (pN := 98) (by decide) (by decide) rfl (fun _ => ?_) (fun c => absurd c (by decide))
      refine s_aload A408 at_100 (pc' := 102) rfl rfl rfl ?_
      refine s_aload A408 at_102 (pc' := 104) rfl rfl rfl ?_
      refine g_virtual X408 hx hZ (y := (⟨"java/lang/String", "equals", "(Ljava/lang/Object;)Z"⟩ : MethodName)) hown (hw _ (List.mem_of_getElem? (i := 109) rfl)) (hw _ (List.mem_of_getElem? (i := 110) rfl)) (hw _ (List.mem_of_getElem? (i := 112) rfl)) (hw _ (List.mem_of_getElem? (i := 111) rfl)) (hw _ (List.mem_of_getElem? (i := 7) rfl)) (hw _ (List.mem_of_getElem? (i := 113) rfl)) (by decide) Ea401 (argsL := [(.ref a401)]) (rest := []) (c_eq l Z a0 hw [] a401 T401.heap n0 zs403) pd_19 rfl rfl (hb hby at_104) e408 (by rw [hml]; rfl) (pc' := 107) rfl (by decide) (W := 0) (Nat.le_of_eq rfl) (by decide) (by decide) (by decide) ?_
      intro v409 T409 L409 X409 hQ409
      have A409 := wk X409 hx hby
      have e409 : T409.heap = T409.heap := rfl
      obtain ⟨rfl, N409, hh409⟩ := hQ409
      have e409 : T409.heap = T401.heap := hh409
      have fr409 := Fr.app fr408 N409
      show Go p e below m (FinH Z consts_1 s h0 room_1.cells room_1.slots (fun v h L => v = some (.int 1) ∧ Fr n0 L)) T409 107 #[.val (.int p0), .val (.int p1), .val (.int p2), .val (.int p3), .val (.int p4), .val (.int (3 : Int32)), .val (.int z3), .val (.int z4), .val (.int z5), .val (.int z6), .val (.ref a401), .val (.ref a401)] [(.int (1 : Int32))]
      exact h_ret X409 hx hZ hlk hS401 e409 (Nat.le_refl _) hEL ch401 hret rfl (Or.inl ⟨rfl, by simp, _, rfl⟩) (hb hby at_107) ⟨rfl, fr409⟩ (by decide) (by decide)
    · intro c69
      replace c69 := iz_eq c69
      refine s_iconst A405 at_72 (pc' := 73) rfl (v := (1 : Int32)) (by decide) ?_
      exact h_ret X405 hx hZ hlk hS401 e405 (Nat.le_refl _) hEL ch401 hret rfl (Or.inl ⟨rfl, by simp, _, rfl⟩) (hb hby at_73) ⟨rfl, fr405⟩ (by decide) (by decide)
  ·
    refine s_iload A0 at_41 (pc' := 43) rfl rfl ?_
    refine s_iload A0 at_43 (pc' := 45) rfl rfl ?_
    refine s_iload A0 at_45 (pc' := 47) rfl rfl ?_
    refine s_iload A0 at_47 (pc' := 49) rfl rfl ?_
    refine s_iload A0 at_49 (pc' := 51) rfl rfl ?_
    refine g_staticH X0 hx hZ (y := (⟨"com/example/divvy/divvy/document/DocumentIdPartitionKeyPinLaw", "make", "(ICCCC)Ljava/lang/String;"⟩ : MethodName)) hown (hw _ (List.mem_of_getElem? (i := 1) rfl)) (hw _ (List.mem_of_getElem? (i := 2) rfl)) (hw _ (List.mem_of_getElem? (i := 3) rfl)) (hw _ (List.mem_of_getElem? (i := 4) rfl)) (by decide) hS0 (Nat.zero_le _) hEL CH0 (argsL := [(.int (4 : Int32)), (.int z3), (.int z4), (.int z5), (.int z6)]) (rest := []) (c_make_4 l Z a0 hw [] cz z3 z4 z5 z6 h0 n0 Z0 O SC hcz q3 q4 q5 q6 hEL) pd_16 rfl rfl (hb hby at_51) e0 (by rw [hml]; rfl) (pc' := 54) rfl (by decide) (W := 0) (Nat.le_of_eq rfl) (by decide) (by decide) (by decide) ?_
    intro v501 T501 L501 X501 hS501 hZ hown ch501 sx501 hQ501
    have A501 := wk X501 hx hby
    have e501 : T501.heap = T501.heap := rfl
    obtain ⟨a501, d501, rfl, N501, K501, Ea501, Fv501, Fc501, D501⟩ := hQ501
    have kp502 := Keep.trans (Keep.refl h0 []) K501 (fun x hx => absurd hx nin0)
    have fr501 := Fr.app N0 N501
    show Go p e below m (FinH Z consts_1 s h0 room_1.cells room_1.slots (fun v h L => v = some (.int 1) ∧ Fr n0 L)) T501 54 #[.val (.int p0), .val (.int p1), .val (.int p2), .val (.int p3), .val (.int p4), .val (.int (4 : Int32)), .val (.int z3), .val (.int z4), .val (.int z5), .val (.int z6), .unset, .unset] [(.ref a501)]
    refine s_astore A501 at_54 (pc' := 56) rfl (ls' := #[.val (.int p0), .val (.int p1), .val (.int p2), .val (.int p3), .val (.int p4), .val (.int (4 : Int32)), .val (.int z3), .val (.int z4), .val (.int z5), .val (.int z6), .val (.ref a501), .unset]) rfl rfl ?_
    refine s_iload A501 at_56 (pc' := 58) rfl rfl ?_
    refine s_iload A501 at_58 (pc' := 60) rfl rfl ?_
    refine s_iload A501 at_60 (pc' := 62) rfl rfl ?_
    refine s_iload A501 at_62 (pc' := 64) rfl rfl ?_
    refine s_iload A501 at_64 (pc' := 66) rfl rfl ?_
    have sz504 : h0.size ≤ T501.heap.size := K501.1
    have zs503 : n0 ≤ T501.heap.size := Nat.le_trans Z0 sz504
    refine g_static X501 hx hZ (y := (⟨"com/example/divvy/divvy/document/DocumentIdPartitionKeyPinLaw", "valid", "(ICCCC)Z"⟩ : MethodName)) hown (hw _ (List.mem_of_getElem? (i := 27) rfl)) (hw _ (List.mem_of_getElem? (i := 28) rfl)) (hw _ (List.mem_of_getElem? (i := 3) rfl)) (hw _ (List.mem_of_getElem? (i := 29) rfl)) (by decide) (argsL := [(.int (4 : Int32)), (.int z3), (.int z4), (.int z5), (.int z6)]) (rest := []) (c_val_4 l Z a0 hw [] z3 z4 z5 z6 T501.heap n0 zs503) pd_17 rfl rfl (hb hby at_66) e501 (by rw [hml]; rfl) (pc' := 69) rfl (by decide) (W := 0) (Nat.le_of_eq rfl) (by decide) (by decide) (by decide) ?_
    intro v505 T505 L505 X505 hQ505
    have A505 := wk X505 hx hby
    have e505 : T505.heap = T505.heap := rfl
    obtain ⟨z505, rfl, zb505, zq505, N505, hh505⟩ := hQ505
    have e505 : T505.heap = T501.heap := hh505
    have fr505 := Fr.app fr501 N505
    show Go p e below m (FinH Z consts_1 s h0 room_1.cells room_1.slots (fun v h L => v = some (.int 1) ∧ Fr n0 L)) T505 69 #[.val (.int p0), .val (.int p1), .val (.int p2), .val (.int p3), .val (.int p4), .val (.int (4 : Int32)), .val (.int z3), .val (.int z4), .val (.int z5), .val (.int z6), .val (.ref a501), .unset] [(.int z505)]
    refine s_ifne A505 at_69 (pY := 74) (pN := 72) (by decide) (by decide) rfl ?_ ?_
    · intro c69
      replace c69 := iz_ne c69
      have cc := zq505 c69
      refine s_aload A505 at_74 (pc' := 76) rfl rfl rfl ?_
      have f506 := (Old.keep O K501 (fun x hx => absurd hx nin0))
      refine g_static X505 hx hZ (y := (⟨"com/example/divvy/divvy/document/DocumentId", "partitionKey", "(Ljava/lang/String;)Ljava/lang/String;"⟩ : MethodName)) hown (hw _ (List.mem_of_getElem? (i := 41) rfl)) (hw _ (List.mem_of_getElem? (i := 42) rfl)) (hw _ (List.mem_of_getElem? (i := 43) rfl)) (hw _ (List.mem_of_getElem? (i := 44) rfl)) (by decide) (argsL := [(.ref a501)]) (rest := []) (c_pk_4 l Z a0 hw [] a501 d501 cz z3 z4 z5 z6 fv T501.heap n0 zs503 Ea501 Fv501 Fc501 D501 f506 SC hcz SF hfv q3 q4 q5 q6 (own_58 q3 (by omega)) (own_58 q4 (by omega)) (own_58 q5 (by omega)) (own_58 q6 (by omega)) cc.1) pd_18 rfl rfl (hb hby at_76) e505 (by rw [hml]; rfl) (pc' := 79) rfl (by decide) (W := 0) (Nat.le_of_eq rfl) (by decide) (by decide) (by decide) ?_
      intro v507 T507 L507 X507 hQ507
      have A507 := wk X507 hx hby
      have e507 : T507.heap = T507.heap := rfl
      obtain ⟨rfl, N507, hh507⟩ := hQ507
      have e507 : T507.heap = T501.heap := hh507
      have fr507 := Fr.app fr505 N507
      show Go p e below m (FinH Z consts_1 s h0 room_1.cells room_1.slots (fun v h L => v = some (.int 1) ∧ Fr n0 L)) T507 79 #[.val (.int p0), .val (.int p1), .val (.int p2), .val (.int p3), .val (.int p4), .val (.int (4 : Int32)), .val (.int z3), .val (.int z4), .val (.int z5), .val (.int z6), .val (.ref a501), .unset] [(.ref a501)]
      refine s_astore A507 at_79 (pc' := 81) rfl (ls' := #[.val (.int p0), .val (.int p1), .val (.int p2), .val (.int p3), .val (.int p4), .val (.int (4 : Int32)), .val (.int z3), .val (.int z4), .val (.int z5), .val (.int z6), .val (.ref a501), .val (.ref a501)]) rfl rfl ?_
      refine s_aload A507 at_81 (pc' := 83) rfl rfl rfl ?_
      refine s_nonnullY A507 at_83 (pc' := 88) (by decide) (by decide) ?_
      refine s_aload A507 at_88 (pc' := 90) rfl rfl rfl ?_
      refine g_virtual X507 hx hZ (y := (⟨"java/lang/String", "length", "()I"⟩ : MethodName)) hown (hw _ (List.mem_of_getElem? (i := 108) rfl)) (hw _ (List.mem_of_getElem? (i := 83) rfl)) (hw _ (List.mem_of_getElem? (i := 85) rfl)) (hw _ (List.mem_of_getElem? (i := 84) rfl)) (hw _ (List.mem_of_getElem? (i := 7) rfl)) (hw _ (List.mem_of_getElem? (i := 86) rfl)) (by decide) Ea501 (argsL := []) (rest := []) (c_len_4 l Z a0 hw [] a501 d501 cz z3 z4 z5 z6 T501.heap n0 zs503 Ea501 Fv501 Fc501 D501 f506 SC hcz) pd_13 rfl rfl (hb hby at_90) e507 (by rw [hml]; rfl) (pc' := 93) rfl (by decide) (W := 0) (Nat.le_of_eq rfl) (by decide) (by decide) (by decide) ?_
      intro v508 T508 L508 X508 hQ508
      have A508 := wk X508 hx hby
      have e508 : T508.heap = T508.heap := rfl
      obtain ⟨rfl, N508, hh508⟩ := hQ508
      have e508 : T508.heap = T501.heap := hh508
      have fr508 := Fr.app fr507 N508
      show Go p e below m (FinH Z consts_1 s h0 room_1.cells room_1.slots (fun v h L => v = some (.int 1) ∧ Fr n0 L)) T508 93 #[.val (.int p0), .val (.int p1), .val (.int p2), .val (.int p3), .val (.int p4), .val (.int (4 : Int32)), .val (.int z3), .val (.int z4), .val (.int z5), .val (.int z6), .val (.ref a501), .val (.ref a501)] [(.int (4 : Int32))]
      refine s_iload A508 at_93 (pc' := 95) rfl rfl ?_
      refine s_icmpeq A508 at_95 (pY := 100) (pN := 98) (by decide) (by decide) rfl (fun _ => ?_) (fun c => absurd c (by decide))
      refine s_aload A508 at_100 (pc' := 102) rfl rfl rfl ?_
      refine s_aload A508 at_102 (pc' := 104) rfl rfl rfl ?_
      refine g_virtual X508 hx hZ (y := (⟨"java/lang/String", "equals", "(Ljava/lang/Object;)Z"⟩ : MethodName)) hown (hw _ (List.mem_of_getElem? (i := 109) rfl)) (hw _ (List.mem_of_getElem? (i := 110) rfl)) (hw _ (List.mem_of_getElem? (i := 112) rfl)) (hw _ (List.mem_of_getElem? (i := 111) rfl)) (hw _ (List.mem_of_getElem? (i := 7) rfl)) (hw _ (List.mem_of_getElem? (i := 113) rfl)) (by decide) Ea501 (argsL := [(.ref a501)]) (rest := []) (c_eq l Z a0 hw [] a501 T501.heap n0 zs503) pd_19 rfl rfl (hb hby at_104) e508 (by rw [hml]; rfl) (pc' := 107) rfl (by decide) (W := 0) (Nat.le_of_eq rfl) (by decide) (by decide) (by decide) ?_
      intro v509 T509 L509 X509 hQ509
      have A509 := wk X509 hx hby
      have e509 : T509.heap = T509.heap := rfl
      obtain ⟨rfl, N509, hh509⟩ := hQ509
      have e509 : T509.heap = T501.heap := hh509
      have fr509 := Fr.app fr508 N509
      show Go p e below m (FinH Z consts_1 s h0 room_1.cells room_1.slots (fun v h L => v = some (.int 1) ∧ Fr n0 L)) T509 107 #[.val (.int p0), .val (.int p1), .val (.int p2), .val (.int p3), .val (.int p4), .val (.int (4 : Int32)), .val (.int z3), .val (.int z4), .val (.int z5), .val (.int z6), .val (.ref a501), .val (.ref a501)] [(.int (1 : Int32))]
      exact h_ret X509 hx hZ hlk hS501 e509 (Nat.le_refl _) hEL ch501 hret rfl (Or.inl ⟨rfl, by simp, _, rfl⟩) (hb hby at_107) ⟨rfl, fr509⟩ (by decide) (by decide)
    · intro c69
      replace c69 := iz_eq c69
      refine s_iconst A505 at_72 (pc' := 73) rfl (v := (1 : Int32)) (by decide) ?_
      exact h_ret X505 hx hZ hlk hS501 e505 (Nat.le_refl _) hEL ch501 hret rfl (Or.inl ⟨rfl, by simp, _, rfl⟩) (hb hby at_73) ⟨rfl, fr505⟩ (by decide) (by decide)
set_option maxRecDepth 65536 in
set_option maxHeartbeats 40000000 in
theorem comes_1 {Post : Tables → Env → Array Value → State → Outcome → State → Prop} (hpost : ∀ tb e args s v u, (limb_1_1.after args s (.returned v) u = true ∧ limb_1_2.after args s (.returned v) u = true ∧ True) → ReturnedEndW s (.returned v) u (Jvm.fieldLocs frame_1_writes args s ++ Jvm.arrayLocs frame_1_arrays args s ++ Jvm.staticLocs frame_1_statics s) 16 1152 → Post tb e args s (.returned v) u) :
    ArmFor flags0 classFile x code maxLocals ret World_1 tables_1 room_1 Calls_1 rest_1 Pre_1 Post := by
  intro l hfl _ _ p e ha hc hk s m args below hf hA hF happ hP
  obtain ⟨hcalls, hrest, hpre⟩ := hP
  obtain ⟨-, -, -, hnamed, -, -, -, hat⟩ := (Spec.applies_iff hf).mp happ
  obtain ⟨hg, hn⟩ := and_e (Cond.before_iff.mp (show (Jvm.Cond.and given_1 narrow_1).before args s = true from hpre))
  obtain ⟨h1, g0⟩ := and_e hg
  obtain ⟨w0, w1, w2, w3, w4, rfl⟩ : ∃ w0 w1 w2 w3 w4 : Value, args = #[w0, w1, w2, w3, w4] := by
    have hs : args.size = 5 := by simpa [Cond.value, given_1] using h1
    obtain ⟨L⟩ := args
    match L, hs with
    | [w0, w1, w2, w3, w4], _ => exact ⟨w0, w1, w2, w3, w4, rfl⟩
  have hw := fun d (hd : d ∈ tables_1) => atoms_spec (ws := Jvm.Cond.code x code maxLocals ret :: tables_1) hat d (List.mem_cons_of_mem _ hd)
  have hfit : Fit s := fun {y c} hc i hi => by
    obtain ⟨ha, rfl⟩ := Array.getElem?_eq_some_iff.mp hc
    have q := List.all_eq_true.mp ((Array.all_eq_true_iff_forall_mem.mp hF) _ (Array.getElem_mem ha)) i (List.mem_range.mpr hi)
    simpa [Array.getElem?_eq_getElem hi] using q
  obtain ⟨k0, g1⟩ := and_e g0
  obtain ⟨i0, j0⟩ := is_v k0
  obtain rfl : w0 = (.int i0) := Option.some.inj j0
  obtain ⟨k1, g2⟩ := and_e g1
  obtain ⟨i1, j1⟩ := is_v k1
  obtain rfl : w1 = (.int i1) := Option.some.inj j1
  obtain ⟨k2, g3⟩ := and_e g2
  obtain ⟨i2, j2⟩ := is_v k2
  obtain rfl : w2 = (.int i2) := Option.some.inj j2
  obtain ⟨k3, g4⟩ := and_e g3
  obtain ⟨i3, j3⟩ := is_v k3
  obtain rfl : w3 = (.int i3) := Option.some.inj j3
  obtain ⟨i4, j4⟩ := is_v g4
  obtain rfl : w4 = (.int i4) := Option.some.inj j4
  have hsets := (atoms_of jdkStatics_1 (show (jdkStatics_1.foldr Cond.and restOwn_1).before _ s = true from by rw [← rest_1_c_eq]; exact hrest)).1
  obtain ⟨cz, ec⟩ := is_v (Cond.before_iff.mp (hsets _ (List.mem_of_getElem? (i := 1) rfl)))
  have SC : Sta s s.heap "java/lang/String" "COMPACT_STRINGS" "Z" (.int cz) := Sta.start ec (Or.inl (hsets _ (List.mem_of_getElem? (i := 0) rfl)))
  have hcz : ¬ cz = 0 := gotF (Cond.eq_ints ec (Term.int_eval 0)) (not_v (Cond.before_iff.mp (hsets _ (List.mem_of_getElem? (i := 2) rfl))))
  have hEL : EW s _ consts_1 := EW.cons (hw _ (List.mem_of_getElem? (i := 19) rfl)) (by simp) EW.nil
  have hCH : CHv s consts_1 s.vm s.heap := CHv.start hEL (fun p hp => hcalls.1 p hp) (hsets _ (List.mem_of_getElem? (i := 2) rfl)) (hw _ (List.mem_of_getElem? (i := 20) rfl)) (hw _ (List.mem_of_getElem? (i := 6) rfl))
  obtain ⟨fv, ef, hfv0⟩ := isR_v (Cond.before_iff.mp (hsets _ (List.mem_of_getElem? (i := 8) rfl)))
  have SF : Sta s s.heap "jdk/internal/util/Preconditions" "SIOOBE_FORMATTER" "Ljava/util/function/BiFunction;" fv := Sta.start ef (Or.inl (hsets _ (List.mem_of_getElem? (i := 7) rfl)))
  have hfv := ref_cases hfv0
  obtain ⟨n, o, r1, r2, r3, _, L, rfl, ⟨rfl, N⟩, -, hq⟩ := c_law l s _ hw tables_1 i0 i1 i2 i3 i4 cz fv s.heap s.heap.size (Nat.le_refl _) (Old.start s) SC hcz SF hfv hEL p e ha hc hk s m _ below hf ((Spec.applies_iff_loose hf).mp happ).1 ⟨rfl, State.Warmed39.refl s, rfl, hCH⟩ trivial
  refine ⟨n, _, r1, r2, r3, hpost _ _ _ _ _ _ ⟨Cond.after_iff.mpr rfl, Cond.after_iff.mpr (eq_i res_at (Term.int_eval (1)) rfl), trivial⟩ ⟨hq.1, hq.2.1, hq.2.2.1, (hq.2.2.2.sift fun y hy => Or.inr (N y hy)).mono (by decide) (by decide)⟩⟩
theorem main_1_1 : Claimed_1_1 := comes_1 fun _ _ _ _ _ _ h hF => ⟨h.1, hF⟩
theorem main_1_2 : Claimed_1_2 := comes_1 fun _ _ _ _ _ _ h hF => ⟨h.2.1, hF⟩
end Jvm.Pilot.@@N@@
namespace Jvm.Pilot.@@N@@
open Jvm Jvm.ClassFile Sem Op Lib Jvm.Free Jvm.Stand Jvm.Pilot.@@N@@.Jvm.D
/-! MADE BY PROGRAM (witnessworld.py) out of the Statement's table words and the real class files: 21 classes; the members and pool entries that the words name. The judged class is class 1, her method 3. -/
namespace start1
open Jvm.ClassFile
def u (s : String) : CpInfo := .utf8 (stringToUtf16 s)
/-- a pool by its gaps: so many unusable entries, then the entry; so many at the end -/
def gap : Nat → List CpInfo → List CpInfo
  | 0, r => r
  | n + 1, r => .unusable :: gap n r
def poolList (es : List (Nat × CpInfo)) (last : Nat) : List CpInfo := es.foldr (fun e r => gap e.1 (e.2 :: r)) (gap last [])
def pool (es : List (Nat × CpInfo)) (last : Nat) : Array CpInfo := ⟨poolList es last⟩
def fileOf (pool : Array CpInfo) (this : Nat) (attrs : Array Attribute := #[]) (ms : Array MethodInfo := #[]) (fl : Nat := 33) (sup : Nat := 0) (ifs : Array Nat := #[]) (fds : Array FieldInfo := #[]) : ClassFile where
  minorVersion := 0
  majorVersion := 65
  constantPool := pool
  accessFlags := fl
  thisClass := this
  superClass := sup
  interfaces := ifs
  fields := fds
  methods := ms
  attributes := attrs
def plain (name : String) (sup : Option ClassId) : Class where
  name := name
  kind := .ordinary
  loader := none
  accessFlags := 33
  super := sup
  interfaces := #[]
  cf := none
  fields := #[]
  methods := #[]
  instanceTypes := #[]
  staticTypes := #[]
  resolved := #[]
  callSites := []
  init := .initialized
  statics := none
  mirror := none

def pool0 : Array CpInfo := pool [(5, u "<init>"), (0, u "()V"), (1, .class_ 10), (1, u "java/lang/Object")] 113

def k0c0 : Code := { maxStack := 0, maxLocals := 1, code := object_method_1_code, exceptionTable := #[], attributes := #[] }
def k0m0 : Method := { name := "<init>", desc := "()V", sig := { parameters := [], returnType := none }, accessFlags := 1, code := some k0c0 }
/-- java/lang/Object -/
def k0 : Class := { plain "java/lang/Object" none with
  accessFlags := 33
  interfaces := #[]
  cf := some (fileOf pool0 8 #[] #[{ accessFlags := 1, nameIndex := 5, descriptorIndex := 6, attributes := #[] }] 33 0 #[] #[])
  fields := #[]
  methods := #[k0m0]
  instanceTypes := #[]
  staticTypes := #[]
  resolved := Array.replicate 124 none
  statics := none }

def pool1 : Array CpInfo := pool [(2, .class_ 4), (1, u "java/lang/Object"), (0, u "<init>"), (0, u "()V"), (0, .class_ 8), (0, u "java/lang/String"), (0, .methodref 7 10), (0, .nameAndType 5 11), (0, u "([C)V"), (0, .integer 2147483647), (0, .methodref 14 15), (0, .class_ 16), (0, .nameAndType 17 18), (0, u "com/example/divvy/divvy/document/DocumentIdPartitionKeyPinLaw"), (0, u "make"), (0, u "(ICCCC)Ljava/lang/String;"), (0, .methodref 14 20), (0, .nameAndType 21 22), (0, u "valid"), (0, u "(ICCCC)Z"), (0, .methodref 24 25), (0, .class_ 26), (0, .nameAndType 27 28), (0, u "com/example/divvy/divvy/document/DocumentId"), (0, u "partitionKey"), (0, u "(Ljava/lang/String;)Ljava/lang/String;"), (0, .methodref 7 30), (0, .nameAndType 31 32), (0, u "length"), (0, u "()I"), (0, .methodref 7 34), (0, .nameAndType 35 36), (0, u "equals"), (0, u "(Ljava/lang/Object;)Z"), (3, u "law"), (0, u "(IIIII)Z")] 2

def k1m0 : Method := { name := "<init>", desc := "()V", sig := { parameters := [], returnType := none }, accessFlags := 1, code := none }
def k1c1 : Code := { maxStack := 6, maxLocals := 5, code := method_2_code, exceptionTable := #[], attributes := #[] }
def k1m1 : Method := { name := "make", desc := "(ICCCC)Ljava/lang/String;", sig := { parameters := [.int, .char, .char, .char, .char], returnType := some (.object "java/lang/String") }, accessFlags := 10, code := some k1c1 }
def k1c2 : Code := { maxStack := 2, maxLocals := 5, code := method_3_code, exceptionTable := #[], attributes := #[] }
def k1m2 : Method := { name := "valid", desc := "(ICCCC)Z", sig := { parameters := [.int, .char, .char, .char, .char], returnType := some .boolean }, accessFlags := 10, code := some k1c2 }
def k1c3 : Code := { maxStack := 5, maxLocals := 12, code := code, exceptionTable := #[], attributes := #[] }
def k1m3 : Method := { name := "law", desc := "(IIIII)Z", sig := { parameters := [.int, .int, .int, .int, .int], returnType := some .boolean }, accessFlags := 9, code := some k1c3 }
/-- com/example/divvy/divvy/document/DocumentIdPartitionKeyPinLaw -/
def k1 : Class := { plain "com/example/divvy/divvy/document/DocumentIdPartitionKeyPinLaw" (some 0) with
  accessFlags := 49
  interfaces := #[]
  cf := some (fileOf pool1 14 #[] #[{ accessFlags := 1, nameIndex := 5, descriptorIndex := 6, attributes := #[] }, { accessFlags := 10, nameIndex := 17, descriptorIndex := 18, attributes := #[] }, { accessFlags := 10, nameIndex := 21, descriptorIndex := 22, attributes := #[] }, { accessFlags := 9, nameIndex := 40, descriptorIndex := 41, attributes := #[] }] 49 2 #[] #[])
  fields := #[]
  methods := #[k1m0, k1m1, k1m2, k1m3]
  instanceTypes := #[]
  staticTypes := #[]
  resolved := Array.replicate 44 none
  statics := none }

def pool2 : Array CpInfo := pool [(1, .class_ 2), (0, u "java/io/Serializable"), (0, .class_ 4), (0, u "java/lang/Object")] 2

/-- java/io/Serializable -/
def k2 : Class := { plain "java/io/Serializable" (some 0) with
  accessFlags := 1537
  interfaces := #[]
  cf := some (fileOf pool2 1 #[] #[] 1537 3 #[] #[])
  fields := #[]
  methods := #[]
  instanceTypes := #[]
  staticTypes := #[]
  resolved := Array.replicate 7 none
  statics := none }

def pool3 : Array CpInfo := pool [(1, .class_ 2), (0, u "java/lang/Comparable"), (0, .class_ 4), (0, u "java/lang/Object")] 7

/-- java/lang/Comparable -/
def k3 : Class := { plain "java/lang/Comparable" (some 0) with
  accessFlags := 1537
  interfaces := #[]
  cf := some (fileOf pool3 1 #[] #[] 1537 3 #[] #[])
  fields := #[]
  methods := #[]
  instanceTypes := #[]
  staticTypes := #[]
  resolved := Array.replicate 12 none
  statics := none }

def pool4 : Array CpInfo := pool [(2, .class_ 4), (1, u "java/lang/CharSequence"), (42, .class_ 48), (0, u "java/lang/CharSequence$1CodePointIterator"), (10, .class_ 60), (0, u "java/lang/CharSequence$1CharIterator"), (5, .class_ 67), (0, u "java/lang/Object")] 63

/-- java/lang/CharSequence -/
def k4 : Class := { plain "java/lang/CharSequence" (some 0) with
  accessFlags := 1537
  interfaces := #[]
  cf := some (fileOf pool4 2 #[.nestMembers #[47, 59]] #[] 1537 66 #[] #[])
  fields := #[]
  methods := #[]
  instanceTypes := #[]
  staticTypes := #[]
  resolved := Array.replicate 131 none
  statics := none }

def pool5 : Array CpInfo := pool [(1, .class_ 2), (0, u "java/lang/constant/Constable"), (0, .class_ 4), (0, u "java/lang/Object")] 6

/-- java/lang/constant/Constable -/
def k5 : Class := { plain "java/lang/constant/Constable" (some 0) with
  accessFlags := 1537
  interfaces := #[]
  cf := some (fileOf pool5 1 #[] #[] 1537 3 #[] #[])
  fields := #[]
  methods := #[]
  instanceTypes := #[]
  staticTypes := #[]
  resolved := Array.replicate 11 none
  statics := none }

def pool6 : Array CpInfo := pool [(1, .class_ 2), (0, u "java/lang/constant/ConstantDesc"), (0, .class_ 4), (0, u "java/lang/Object")] 32

/-- java/lang/constant/ConstantDesc -/
def k6 : Class := { plain "java/lang/constant/ConstantDesc" (some 0) with
  accessFlags := 1537
  interfaces := #[]
  cf := some (fileOf pool6 1 #[] #[] 1537 3 #[] #[])
  fields := #[]
  methods := #[]
  instanceTypes := #[]
  staticTypes := #[]
  resolved := Array.replicate 37 none
  statics := none }

def pool7 : Array CpInfo := pool [(1, .methodref 2 3), (0, .class_ 4), (0, .nameAndType 5 6), (0, u "java/lang/Object"), (0, u "<init>"), (0, u "()V"), (0, .string 8), (0, u ""), (0, .fieldref 10 11), (0, .class_ 12), (0, .nameAndType 13 14), (0, u "java/lang/String"), (0, u "value"), (0, u "[B"), (0, .fieldref 10 16), (0, .nameAndType 17 18), (0, u "coder"), (0, u "B"), (2, u "hash"), (0, u "I"), (2, u "hashIsZero"), (0, u "Z"), (0, .methodref 10 28), (0, .nameAndType 5 29), (0, u "([CIILjava/lang/Void;)V"), (8, .fieldref 10 39), (0, .nameAndType 40 26), (0, u "COMPACT_STRINGS"), (1, .class_ 44), (1, u "java/lang/StringUTF16"), (0, u "compress"), (1, .methodref 42 48), (0, .nameAndType 49 50), (0, u "coderFromArrayLen"), (0, u "([BI)B"), (56, .class_ 109), (1, u "java/lang/StringLatin1"), (32, u "()Z"), (34, .methodref 42 178), (0, .nameAndType 45 179), (0, u "([CII)[B"), (154, u "()I"), (0, .methodref 10 336), (0, .nameAndType 17 337), (0, u "()B"), (25, u "([BI)C"), (27, u "(II)V"), (35, u "(I)C"), (64, .methodref 10 493), (0, .nameAndType 494 142), (0, u "isLatin1"), (0, .methodref 107 496), (0, .nameAndType 497 363), (0, u "charAt"), (3, u "checkIndex"), (3, .methodref 10 506), (0, .nameAndType 507 334), (0, u "length"), (35, u "equals"), (29, u "(Ljava/lang/Object;)Z"), (1, .class_ 576), (0, u "java/lang/CharSequence"), (22, u "CASE_INSENSITIVE_ORDER"), (0, u "Ljava/util/Comparator;"), (32, .methodref 10 634), (0, .nameAndType 635 636), (0, u "indexOf"), (0, u "(II)I"), (0, .methodref 107 638), (0, .nameAndType 635 639), (0, u "([BIII)I"), (52, u "isEmpty"), (72, u "(I)I"), (244, u "([C)V"), (42, .fieldref 1054 1055), (0, .class_ 1056), (0, .nameAndType 1057 1058), (0, u "jdk/internal/util/Preconditions"), (0, u "SIOOBE_FORMATTER"), (0, u "Ljava/util/function/BiFunction;"), (0, .methodref 1054 1060), (0, .nameAndType 501 1061), (0, u "(IILjava/util/function/BiFunction;)I"), (39, u "serialPersistentFields"), (0, u "[Ljava/io/ObjectStreamField;"), (0, .class_ 1104), (0, u "java/lang/String$CaseInsensitiveComparator"), (1, .class_ 1107), (0, u "java/io/Serializable"), (0, .class_ 1109), (0, u "java/lang/Comparable"), (0, .class_ 1111), (0, u "java/lang/constant/Constable"), (0, .class_ 1113), (0, u "java/lang/constant/ConstantDesc"), (2, u "serialVersionUID"), (0, u "J"), (3, u "REPL"), (0, u "C"), (2, u "LATIN1"), (1, u "UTF16")] 323

def k7m0 : Method := { name := "<init>", desc := "()V", sig := { parameters := [], returnType := none }, accessFlags := 1, code := none }
def k7c1 : Code := { maxStack := 5, maxLocals := 2, code := jdk_42_method_3_code, exceptionTable := #[], attributes := #[] }
def k7m1 : Method := { name := "<init>", desc := "([C)V", sig := { parameters := [(.array .char)], returnType := none }, accessFlags := 1, code := some k7c1 }
def k7c2 : Code := { maxStack := 2, maxLocals := 1, code := jdk_42_method_54_code, exceptionTable := #[], attributes := #[] }
def k7m2 : Method := { name := "length", desc := "()I", sig := { parameters := [], returnType := some .int }, accessFlags := 1, code := some k7c2 }
def k7c3 : Code := { maxStack := 1, maxLocals := 1, code := jdk_42_method_55_code, exceptionTable := #[], attributes := #[] }
def k7m3 : Method := { name := "isEmpty", desc := "()Z", sig := { parameters := [], returnType := some .boolean }, accessFlags := 1, code := some k7c3 }
def k7c4 : Code := { maxStack := 2, maxLocals := 2, code := jdk_42_method_56_code, exceptionTable := #[], attributes := #[] }
def k7m4 : Method := { name := "charAt", desc := "(I)C", sig := { parameters := [.int], returnType := some .char }, accessFlags := 1, code := some k7c4 }
def k7c5 : Code := { maxStack := 2, maxLocals := 3, code := jdk_42_method_66_code, exceptionTable := #[], attributes := #[] }
def k7m5 : Method := { name := "equals", desc := "(Ljava/lang/Object;)Z", sig := { parameters := [(.object "java/lang/Object")], returnType := some .boolean }, accessFlags := 1, code := some k7c5 }
def k7c6 : Code := { maxStack := 3, maxLocals := 2, code := jdk_42_method_79_code, exceptionTable := #[], attributes := #[] }
def k7m6 : Method := { name := "indexOf", desc := "(I)I", sig := { parameters := [.int], returnType := some .int }, accessFlags := 1, code := some k7c6 }
def k7c7 : Code := { maxStack := 4, maxLocals := 3, code := jdk_42_method_80_code, exceptionTable := #[], attributes := #[] }
def k7m7 : Method := { name := "indexOf", desc := "(II)I", sig := { parameters := [.int, .int], returnType := some .int }, accessFlags := 1, code := some k7c7 }
def k7c8 : Code := { maxStack := 4, maxLocals := 6, code := jdk_42_method_149_code, exceptionTable := #[], attributes := #[] }
def k7m8 : Method := { name := "<init>", desc := "([CIILjava/lang/Void;)V", sig := { parameters := [(.array .char), .int, .int, (.object "java/lang/Void")], returnType := none }, accessFlags := 2, code := some k7c8 }
def k7c9 : Code := { maxStack := 1, maxLocals := 1, code := jdk_42_method_152_code, exceptionTable := #[], attributes := #[] }
def k7m9 : Method := { name := "coder", desc := "()B", sig := { parameters := [], returnType := some .byte }, accessFlags := 0, code := some k7c9 }
def k7c10 : Code := { maxStack := 1, maxLocals := 1, code := jdk_42_method_154_code, exceptionTable := #[], attributes := #[] }
def k7m10 : Method := { name := "isLatin1", desc := "()Z", sig := { parameters := [], returnType := some .boolean }, accessFlags := 0, code := some k7c10 }
def k7c11 : Code := { maxStack := 3, maxLocals := 2, code := jdk_42_method_155_code, exceptionTable := #[], attributes := #[] }
def k7m11 : Method := { name := "checkIndex", desc := "(II)V", sig := { parameters := [.int, .int], returnType := none }, accessFlags := 8, code := some k7c11 }
/-- java/lang/String -/
def k7 : Class := { plain "java/lang/String" (some 0) with
  accessFlags := 49
  interfaces := #[2, 3, 4, 5, 6]
  cf := some (fileOf pool7 10 #[.nestMembers #[1103]] #[{ accessFlags := 1, nameIndex := 5, descriptorIndex := 6, attributes := #[] }, { accessFlags := 1, nameIndex := 5, descriptorIndex := 1010, attributes := #[] }, { accessFlags := 1, nameIndex := 507, descriptorIndex := 334, attributes := #[] }, { accessFlags := 1, nameIndex := 692, descriptorIndex := 142, attributes := #[] }, { accessFlags := 1, nameIndex := 497, descriptorIndex := 427, attributes := #[] }, { accessFlags := 1, nameIndex := 543, descriptorIndex := 573, attributes := #[] }, { accessFlags := 1, nameIndex := 635, descriptorIndex := 765, attributes := #[] }, { accessFlags := 1, nameIndex := 635, descriptorIndex := 636, attributes := #[] }, { accessFlags := 2, nameIndex := 5, descriptorIndex := 29, attributes := #[] }, { accessFlags := 0, nameIndex := 17, descriptorIndex := 337, attributes := #[] }, { accessFlags := 0, nameIndex := 494, descriptorIndex := 142, attributes := #[] }, { accessFlags := 8, nameIndex := 501, descriptorIndex := 391, attributes := #[] }] 49 2 #[1106, 1108, 575, 1110, 1112] #[{ accessFlags := 18, nameIndex := 13, descriptorIndex := 14, attributes := #[] }, { accessFlags := 18, nameIndex := 17, descriptorIndex := 18, attributes := #[] }, { accessFlags := 2, nameIndex := 21, descriptorIndex := 22, attributes := #[] }, { accessFlags := 2, nameIndex := 25, descriptorIndex := 26, attributes := #[] }, { accessFlags := 26, nameIndex := 1116, descriptorIndex := 1117, attributes := #[] }, { accessFlags := 24, nameIndex := 40, descriptorIndex := 26, attributes := #[] }, { accessFlags := 26, nameIndex := 1101, descriptorIndex := 1102, attributes := #[] }, { accessFlags := 26, nameIndex := 1121, descriptorIndex := 1122, attributes := #[] }, { accessFlags := 25, nameIndex := 599, descriptorIndex := 600, attributes := #[] }, { accessFlags := 24, nameIndex := 1125, descriptorIndex := 18, attributes := #[] }, { accessFlags := 24, nameIndex := 1127, descriptorIndex := 18, attributes := #[] }])
  fields := #[{ name := "value", type := (.array .byte), accessFlags := 18, slot := 0, constantValue := 0 }, { name := "coder", type := .byte, accessFlags := 18, slot := 1, constantValue := 0 }, { name := "hash", type := .int, accessFlags := 2, slot := 2, constantValue := 0 }, { name := "hashIsZero", type := .boolean, accessFlags := 2, slot := 3, constantValue := 0 }, { name := "serialVersionUID", type := .long, accessFlags := 26, slot := 0, constantValue := 0 }, { name := "COMPACT_STRINGS", type := .boolean, accessFlags := 24, slot := 1, constantValue := 0 }, { name := "serialPersistentFields", type := (.array (.object "java/io/ObjectStreamField")), accessFlags := 26, slot := 2, constantValue := 0 }, { name := "REPL", type := .char, accessFlags := 26, slot := 3, constantValue := 0 }, { name := "CASE_INSENSITIVE_ORDER", type := (.object "java/util/Comparator"), accessFlags := 25, slot := 4, constantValue := 0 }, { name := "LATIN1", type := .byte, accessFlags := 24, slot := 5, constantValue := 0 }, { name := "UTF16", type := .byte, accessFlags := 24, slot := 6, constantValue := 0 }]
  methods := #[k7m0, k7m1, k7m2, k7m3, k7m4, k7m5, k7m6, k7m7, k7m8, k7m9, k7m10, k7m11]
  instanceTypes := #[(.array .byte), .byte, .int, .boolean]
  staticTypes := #[.long, .boolean, (.array (.object "java/io/ObjectStreamField")), .char, (.object "java/util/Comparator"), .byte, .byte]
  resolved := Array.replicate 1451 none
  statics := some 0 }

def pool8 : Array CpInfo := pool [(6, .class_ 8), (1, u "java/lang/Object"), (0, u "<init>"), (0, u "()V"), (1, .class_ 14), (1, u "java/lang/StringUTF16"), (31, u "$assertionsDisabled"), (0, u "Z"), (13, u "HI_BYTE_SHIFT"), (0, u "I"), (2, u "LO_BYTE_SHIFT"), (49, .methodref 12 116), (0, .nameAndType 117 118), (0, u "compress"), (0, u "([CI[BII)I"), (3, u "([CII)[B"), (138, u "coderFromArrayLen"), (0, u "([BI)B"), (106, .class_ 371), (1, u "java/lang/StringUTF16$LinesSpliterator"), (58, u "MAX_LENGTH"), (196, .class_ 628), (0, u "java/lang/StringUTF16$CodePointsSpliterator"), (0, .class_ 630), (0, u "java/lang/StringUTF16$CharsSpliterator")] 4

def k8m0 : Method := { name := "<init>", desc := "()V", sig := { parameters := [], returnType := none }, accessFlags := 0, code := none }
def k8c1 : Code := { maxStack := 2, maxLocals := 2, code := jdk_52_method_15_code, exceptionTable := #[], attributes := #[] }
def k8m1 : Method := { name := "coderFromArrayLen", desc := "([BI)B", sig := { parameters := [(.array .byte), .int], returnType := some .byte }, accessFlags := 8, code := some k8c1 }
def k8c2 : Code := { maxStack := 5, maxLocals := 6, code := jdk_52_method_16_code, exceptionTable := #[], attributes := #[] }
def k8m2 : Method := { name := "compress", desc := "([CII)[B", sig := { parameters := [(.array .char), .int, .int], returnType := some (.array .byte) }, accessFlags := 9, code := some k8c2 }
def k8c3 : Code := { maxStack := 3, maxLocals := 7, code := jdk_52_method_21_code, exceptionTable := #[], attributes := #[] }
def k8m3 : Method := { name := "compress", desc := "([CI[BII)I", sig := { parameters := [(.array .char), .int, (.array .byte), .int, .int], returnType := some .int }, accessFlags := 9, code := some k8c3 }
/-- java/lang/StringUTF16 -/
def k8 : Class := { plain "java/lang/StringUTF16" (some 0) with
  accessFlags := 48
  interfaces := #[]
  cf := some (fileOf pool8 12 #[.nestMembers #[627, 629, 369]] #[{ accessFlags := 0, nameIndex := 9, descriptorIndex := 10, attributes := #[] }, { accessFlags := 8, nameIndex := 261, descriptorIndex := 262, attributes := #[] }, { accessFlags := 9, nameIndex := 117, descriptorIndex := 122, attributes := #[] }, { accessFlags := 9, nameIndex := 117, descriptorIndex := 118, attributes := #[] }] 48 6 #[] #[{ accessFlags := 26, nameIndex := 61, descriptorIndex := 62, attributes := #[] }, { accessFlags := 26, nameIndex := 65, descriptorIndex := 62, attributes := #[] }, { accessFlags := 24, nameIndex := 430, descriptorIndex := 62, attributes := #[] }, { accessFlags := 4120, nameIndex := 46, descriptorIndex := 47, attributes := #[] }])
  fields := #[{ name := "HI_BYTE_SHIFT", type := .int, accessFlags := 26, slot := 0, constantValue := 0 }, { name := "LO_BYTE_SHIFT", type := .int, accessFlags := 26, slot := 1, constantValue := 0 }, { name := "MAX_LENGTH", type := .int, accessFlags := 24, slot := 2, constantValue := 0 }, { name := "$assertionsDisabled", type := .boolean, accessFlags := 4120, slot := 3, constantValue := 0 }]
  methods := #[k8m0, k8m1, k8m2, k8m3]
  instanceTypes := #[]
  staticTypes := #[.int, .int, .int, .boolean]
  resolved := Array.replicate 635 none
  statics := none }

def pool9 : Array CpInfo := pool [(2, .class_ 4), (1, u "java/lang/Object"), (3, .class_ 10), (1, u "com/example/divvy/divvy/document/DocumentId"), (0, u "value"), (0, u "Ljava/lang/String;"), (2, u "partition"), (7, .methodref 24 25), (0, .class_ 26), (0, .nameAndType 27 28), (0, u "java/lang/String"), (0, u "isEmpty"), (0, u "()Z"), (34, u "(Ljava/lang/String;)Ljava/lang/String;"), (5, .methodref 24 70), (0, .nameAndType 71 72), (0, u "charAt"), (0, u "(I)C"), (2, .methodref 24 76), (0, .nameAndType 77 78), (0, u "indexOf"), (0, u "(I)I"), (20, u "EXEMPT_PREFIXES"), (0, u "Ljava/util/List;"), (26, u "partitionKey"), (14, u "MEMBER"), (3, u "DESIGN_PREFIX"), (0, u "PARTITION_SEPARATOR"), (0, u "C")] 45

def k9c0 : Code := { maxStack := 3, maxLocals := 1, code := prog_20_method_3_code, exceptionTable := #[], attributes := #[] }
def k9m0 : Method := { name := "partitionKey", desc := "(Ljava/lang/String;)Ljava/lang/String;", sig := { parameters := [(.object "java/lang/String")], returnType := some (.object "java/lang/String") }, accessFlags := 9, code := some k9c0 }
/-- com/example/divvy/divvy/document/DocumentId -/
def k9 : Class := { plain "com/example/divvy/divvy/document/DocumentId" (some 0) with
  accessFlags := 49
  interfaces := #[]
  cf := some (fileOf pool9 8 #[] #[{ accessFlags := 9, nameIndex := 127, descriptorIndex := 63, attributes := #[] }] 49 2 #[] #[{ accessFlags := 25, nameIndex := 142, descriptorIndex := 12, attributes := #[] }, { accessFlags := 25, nameIndex := 146, descriptorIndex := 12, attributes := #[] }, { accessFlags := 26, nameIndex := 147, descriptorIndex := 148, attributes := #[] }, { accessFlags := 26, nameIndex := 99, descriptorIndex := 100, attributes := #[] }, { accessFlags := 18, nameIndex := 11, descriptorIndex := 12, attributes := #[] }, { accessFlags := 18, nameIndex := 15, descriptorIndex := 12, attributes := #[] }])
  fields := #[{ name := "MEMBER", type := (.object "java/lang/String"), accessFlags := 25, slot := 0, constantValue := 0 }, { name := "DESIGN_PREFIX", type := (.object "java/lang/String"), accessFlags := 25, slot := 1, constantValue := 0 }, { name := "PARTITION_SEPARATOR", type := .char, accessFlags := 26, slot := 2, constantValue := 0 }, { name := "EXEMPT_PREFIXES", type := (.object "java/util/List"), accessFlags := 26, slot := 3, constantValue := 0 }, { name := "value", type := (.object "java/lang/String"), accessFlags := 18, slot := 0, constantValue := 0 }, { name := "partition", type := (.object "java/lang/String"), accessFlags := 18, slot := 1, constantValue := 0 }]
  methods := #[k9m0]
  instanceTypes := #[(.object "java/lang/String"), (.object "java/lang/String")]
  staticTypes := #[(.object "java/lang/String"), (.object "java/lang/String"), .char, (.object "java/util/List")]
  resolved := Array.replicate 194 none
  statics := none }

def pool10 : Array CpInfo := pool [(1, .class_ 2), (0, u "java/lang/String"), (1, .class_ 6), (1, u "java/lang/Object"), (0, u "<init>"), (0, u "()V"), (0, .methodref 1 10), (0, .nameAndType 11 12), (0, u "checkIndex"), (0, u "(II)V"), (1, .class_ 16), (1, u "java/lang/StringLatin1"), (21, .methodref 39 40), (0, .class_ 41), (0, .nameAndType 42 43), (0, u "java/lang/Math"), (0, u "min"), (0, u "(II)I"), (9, u "([BI)C"), (34, .methodref 14 89), (0, .nameAndType 90 91), (0, u "canEncode"), (0, u "(I)Z"), (0, .methodref 39 93), (0, .nameAndType 94 43), (0, u "max"), (0, .methodref 14 96), (0, .nameAndType 97 98), (0, u "indexOfChar"), (0, u "([BIII)I"), (2, u "indexOf"), (19, u "$assertionsDisabled"), (0, u "Z"), (98, .class_ 223), (1, u "java/lang/StringLatin1$LinesSpliterator"), (28, u "charAt"), (137, .class_ 391), (0, u "java/lang/StringLatin1$CharsSpliterator")] 3

def k10m0 : Method := { name := "<init>", desc := "()V", sig := { parameters := [], returnType := none }, accessFlags := 0, code := none }
def k10c1 : Code := { maxStack := 2, maxLocals := 2, code := jdk_43_method_2_code, exceptionTable := #[], attributes := #[] }
def k10m1 : Method := { name := "charAt", desc := "([BI)C", sig := { parameters := [(.array .byte), .int], returnType := some .char }, accessFlags := 9, code := some k10c1 }
def k10c2 : Code := { maxStack := 2, maxLocals := 1, code := jdk_43_method_4_code, exceptionTable := #[], attributes := #[] }
def k10m2 : Method := { name := "canEncode", desc := "(I)Z", sig := { parameters := [.int], returnType := some .boolean }, accessFlags := 9, code := some k10c2 }
def k10c3 : Code := { maxStack := 4, maxLocals := 4, code := jdk_43_method_22_code, exceptionTable := #[], attributes := #[] }
def k10m3 : Method := { name := "indexOf", desc := "([BIII)I", sig := { parameters := [(.array .byte), .int, .int, .int], returnType := some .int }, accessFlags := 9, code := some k10c3 }
def k10c4 : Code := { maxStack := 2, maxLocals := 6, code := jdk_43_method_23_code, exceptionTable := #[], attributes := #[] }
def k10m4 : Method := { name := "indexOfChar", desc := "([BIII)I", sig := { parameters := [(.array .byte), .int, .int, .int], returnType := some .int }, accessFlags := 10, code := some k10c4 }
/-- java/lang/StringLatin1 -/
def k10 : Class := { plain "java/lang/StringLatin1" (some 0) with
  accessFlags := 48
  interfaces := #[]
  cf := some (fileOf pool10 14 #[.nestMembers #[390, 221]] #[{ accessFlags := 0, nameIndex := 7, descriptorIndex := 8, attributes := #[] }, { accessFlags := 9, nameIndex := 252, descriptorIndex := 53, attributes := #[] }, { accessFlags := 9, nameIndex := 90, descriptorIndex := 91, attributes := #[] }, { accessFlags := 9, nameIndex := 101, descriptorIndex := 98, attributes := #[] }, { accessFlags := 10, nameIndex := 97, descriptorIndex := 98, attributes := #[] }] 48 4 #[] #[{ accessFlags := 4120, nameIndex := 121, descriptorIndex := 122, attributes := #[] }])
  fields := #[{ name := "$assertionsDisabled", type := .boolean, accessFlags := 4120, slot := 0, constantValue := 0 }]
  methods := #[k10m0, k10m1, k10m2, k10m3, k10m4]
  instanceTypes := #[]
  staticTypes := #[.boolean]
  resolved := Array.replicate 395 none
  statics := none }

def pool11 : Array CpInfo := pool [(2, .class_ 4), (1, u "java/lang/Object"), (0, u "<init>"), (0, u "()V"), (17, .class_ 26), (1, u "jdk/internal/util/Preconditions"), (6, u "checkIndex"), (21, .class_ 56), (0, u "jdk/internal/util/Preconditions$4"), (57, .class_ 115), (0, u "jdk/internal/util/Preconditions$1"), (7, u "SIOOBE_FORMATTER"), (0, u "Ljava/util/function/BiFunction;"), (0, .class_ 126), (0, u "jdk/internal/util/Preconditions$2"), (3, u "AIOOBE_FORMATTER"), (0, .class_ 132), (0, u "jdk/internal/util/Preconditions$3"), (3, u "IOOBE_FORMATTER"), (41, u "(IILjava/util/function/BiFunction;)I")] 15

def k11m0 : Method := { name := "<init>", desc := "()V", sig := { parameters := [], returnType := none }, accessFlags := 1, code := none }
def k11c1 : Code := { maxStack := 3, maxLocals := 3, code := jdk_41_method_11_code, exceptionTable := #[], attributes := #[] }
def k11m1 : Method := { name := "checkIndex", desc := "(IILjava/util/function/BiFunction;)I", sig := { parameters := [.int, .int, (.object "java/util/function/BiFunction")], returnType := some .int }, accessFlags := 9, code := some k11c1 }
/-- jdk/internal/util/Preconditions -/
def k11 : Class := { plain "jdk/internal/util/Preconditions" (some 0) with
  accessFlags := 33
  interfaces := #[]
  cf := some (fileOf pool11 24 #[.nestMembers #[55, 131, 125, 114]] #[{ accessFlags := 1, nameIndex := 5, descriptorIndex := 6, attributes := #[] }, { accessFlags := 9, nameIndex := 33, descriptorIndex := 178, attributes := #[] }] 33 2 #[] #[{ accessFlags := 25, nameIndex := 123, descriptorIndex := 124, attributes := #[] }, { accessFlags := 25, nameIndex := 130, descriptorIndex := 124, attributes := #[] }, { accessFlags := 25, nameIndex := 136, descriptorIndex := 124, attributes := #[] }])
  fields := #[{ name := "SIOOBE_FORMATTER", type := (.object "java/util/function/BiFunction"), accessFlags := 25, slot := 0, constantValue := 0 }, { name := "AIOOBE_FORMATTER", type := (.object "java/util/function/BiFunction"), accessFlags := 25, slot := 1, constantValue := 0 }, { name := "IOOBE_FORMATTER", type := (.object "java/util/function/BiFunction"), accessFlags := 25, slot := 2, constantValue := 0 }]
  methods := #[k11m0, k11m1]
  instanceTypes := #[]
  staticTypes := #[(.object "java/util/function/BiFunction"), (.object "java/util/function/BiFunction"), (.object "java/util/function/BiFunction")]
  resolved := Array.replicate 194 none
  statics := some 1 }

def pool12 : Array CpInfo := pool [(1, .class_ 2), (0, u "java/lang/Math"), (1, .class_ 6), (1, u "java/lang/Object"), (0, u "<init>"), (0, u "()V"), (89, .class_ 100), (1, u "java/lang/Math$RandomNumberGeneratorHolder"), (71, u "negativeZeroFloatBits"), (0, u "J"), (2, u "negativeZeroDoubleBits"), (21, u "max"), (2, u "min"), (43, u "$assertionsDisabled"), (0, u "Z"), (88, u "(II)I"), (2, u "twoToTheDoubleScaleDown"), (0, u "D"), (4, u "twoToTheDoubleScaleUp"), (9, u "E"), (3, u "PI"), (2, u "TAU"), (2, u "DEGREES_TO_RADIANS"), (0, u "RADIANS_TO_DEGREES")] 94

def k12m0 : Method := { name := "<init>", desc := "()V", sig := { parameters := [], returnType := none }, accessFlags := 2, code := none }
def k12c1 : Code := { maxStack := 2, maxLocals := 2, code := jdk_29_method_65_code, exceptionTable := #[], attributes := #[] }
def k12m1 : Method := { name := "max", desc := "(II)I", sig := { parameters := [.int, .int], returnType := some .int }, accessFlags := 9, code := some k12c1 }
def k12c2 : Code := { maxStack := 2, maxLocals := 2, code := jdk_29_method_69_code, exceptionTable := #[], attributes := #[] }
def k12m2 : Method := { name := "min", desc := "(II)I", sig := { parameters := [.int, .int], returnType := some .int }, accessFlags := 9, code := some k12c2 }
/-- java/lang/Math -/
def k12 : Class := { plain "java/lang/Math" (some 0) with
  accessFlags := 49
  interfaces := #[]
  cf := some (fileOf pool12 1 #[.nestMembers #[98]] #[{ accessFlags := 2, nameIndex := 7, descriptorIndex := 8, attributes := #[] }, { accessFlags := 9, nameIndex := 198, descriptorIndex := 335, attributes := #[] }, { accessFlags := 9, nameIndex := 201, descriptorIndex := 335, attributes := #[] }] 49 4 #[] #[{ accessFlags := 25, nameIndex := 354, descriptorIndex := 339, attributes := #[] }, { accessFlags := 25, nameIndex := 358, descriptorIndex := 339, attributes := #[] }, { accessFlags := 25, nameIndex := 361, descriptorIndex := 339, attributes := #[] }, { accessFlags := 26, nameIndex := 364, descriptorIndex := 339, attributes := #[] }, { accessFlags := 26, nameIndex := 365, descriptorIndex := 339, attributes := #[] }, { accessFlags := 26, nameIndex := 172, descriptorIndex := 173, attributes := #[] }, { accessFlags := 26, nameIndex := 176, descriptorIndex := 173, attributes := #[] }, { accessFlags := 8, nameIndex := 344, descriptorIndex := 339, attributes := #[] }, { accessFlags := 8, nameIndex := 338, descriptorIndex := 339, attributes := #[] }, { accessFlags := 4120, nameIndex := 245, descriptorIndex := 246, attributes := #[] }])
  fields := #[{ name := "E", type := .double, accessFlags := 25, slot := 0, constantValue := 0 }, { name := "PI", type := .double, accessFlags := 25, slot := 1, constantValue := 0 }, { name := "TAU", type := .double, accessFlags := 25, slot := 2, constantValue := 0 }, { name := "DEGREES_TO_RADIANS", type := .double, accessFlags := 26, slot := 3, constantValue := 0 }, { name := "RADIANS_TO_DEGREES", type := .double, accessFlags := 26, slot := 4, constantValue := 0 }, { name := "negativeZeroFloatBits", type := .long, accessFlags := 26, slot := 5, constantValue := 0 }, { name := "negativeZeroDoubleBits", type := .long, accessFlags := 26, slot := 6, constantValue := 0 }, { name := "twoToTheDoubleScaleUp", type := .double, accessFlags := 8, slot := 7, constantValue := 0 }, { name := "twoToTheDoubleScaleDown", type := .double, accessFlags := 8, slot := 8, constantValue := 0 }, { name := "$assertionsDisabled", type := .boolean, accessFlags := 4120, slot := 9, constantValue := 0 }]
  methods := #[k12m0, k12m1, k12m2]
  instanceTypes := #[]
  staticTypes := #[.double, .double, .double, .double, .double, .long, .long, .double, .double, .boolean]
  resolved := Array.replicate 460 none
  statics := none }

def pool13 : Array CpInfo := pool [(9, u "<init>"), (6, .class_ 18), (1, u "java/lang/Object"), (0, u "()V"), (1, .class_ 23), (1, u "jdk/internal/util/ArraysSupport"), (0, u "LOG2_ARRAY_LONG_INDEX_SCALE"), (0, u "I"), (2, u "U"), (0, u "Ljdk/internal/misc/Unsafe;"), (8, u "BIG_ENDIAN"), (0, u "Z"), (8, u "LOG2_BYTE_BIT_SIZE"), (4, u "LOG2_ARRAY_INT_INDEX_SCALE"), (54, u "JLA"), (0, u "Ljdk/internal/access/JavaLangAccess;"), (11, u "LOG2_ARRAY_BOOLEAN_INDEX_SCALE"), (9, u "LOG2_ARRAY_BYTE_INDEX_SCALE"), (5, u "LOG2_ARRAY_CHAR_INDEX_SCALE"), (5, u "LOG2_ARRAY_SHORT_INDEX_SCALE"), (18, u "LOG2_ARRAY_FLOAT_INDEX_SCALE"), (24, u "LOG2_ARRAY_DOUBLE_INDEX_SCALE"), (89, u "T_BOOLEAN"), (2, u "T_CHAR"), (1, u "T_FLOAT"), (1, u "T_DOUBLE"), (1, u "T_BYTE"), (1, u "T_SHORT"), (1, u "T_INT"), (1, u "T_LONG"), (1, u "SOFT_MAX_ARRAY_LENGTH")] 83

def k13m0 : Method := { name := "<init>", desc := "()V", sig := { parameters := [], returnType := none }, accessFlags := 2, code := none }
/-- jdk/internal/util/ArraysSupport -/
def k13 : Class := { plain "jdk/internal/util/ArraysSupport" (some 0) with
  accessFlags := 33
  interfaces := #[]
  cf := some (fileOf pool13 21 #[] #[{ accessFlags := 2, nameIndex := 9, descriptorIndex := 19, attributes := #[] }] 33 16 #[] #[{ accessFlags := 24, nameIndex := 28, descriptorIndex := 29, attributes := #[] }, { accessFlags := 26, nameIndex := 38, descriptorIndex := 39, attributes := #[] }, { accessFlags := 25, nameIndex := 121, descriptorIndex := 25, attributes := #[] }, { accessFlags := 25, nameIndex := 131, descriptorIndex := 25, attributes := #[] }, { accessFlags := 25, nameIndex := 137, descriptorIndex := 25, attributes := #[] }, { accessFlags := 25, nameIndex := 143, descriptorIndex := 25, attributes := #[] }, { accessFlags := 25, nameIndex := 53, descriptorIndex := 25, attributes := #[] }, { accessFlags := 25, nameIndex := 24, descriptorIndex := 25, attributes := #[] }, { accessFlags := 25, nameIndex := 162, descriptorIndex := 25, attributes := #[] }, { accessFlags := 25, nameIndex := 187, descriptorIndex := 25, attributes := #[] }, { accessFlags := 26, nameIndex := 48, descriptorIndex := 25, attributes := #[] }, { accessFlags := 25, nameIndex := 277, descriptorIndex := 25, attributes := #[] }, { accessFlags := 25, nameIndex := 280, descriptorIndex := 25, attributes := #[] }, { accessFlags := 25, nameIndex := 282, descriptorIndex := 25, attributes := #[] }, { accessFlags := 25, nameIndex := 284, descriptorIndex := 25, attributes := #[] }, { accessFlags := 25, nameIndex := 286, descriptorIndex := 25, attributes := #[] }, { accessFlags := 25, nameIndex := 288, descriptorIndex := 25, attributes := #[] }, { accessFlags := 25, nameIndex := 290, descriptorIndex := 25, attributes := #[] }, { accessFlags := 25, nameIndex := 292, descriptorIndex := 25, attributes := #[] }, { accessFlags := 26, nameIndex := 108, descriptorIndex := 109, attributes := #[] }, { accessFlags := 25, nameIndex := 294, descriptorIndex := 25, attributes := #[] }])
  fields := #[{ name := "U", type := (.object "jdk/internal/misc/Unsafe"), accessFlags := 24, slot := 0, constantValue := 0 }, { name := "BIG_ENDIAN", type := .boolean, accessFlags := 26, slot := 1, constantValue := 0 }, { name := "LOG2_ARRAY_BOOLEAN_INDEX_SCALE", type := .int, accessFlags := 25, slot := 2, constantValue := 0 }, { name := "LOG2_ARRAY_BYTE_INDEX_SCALE", type := .int, accessFlags := 25, slot := 3, constantValue := 0 }, { name := "LOG2_ARRAY_CHAR_INDEX_SCALE", type := .int, accessFlags := 25, slot := 4, constantValue := 0 }, { name := "LOG2_ARRAY_SHORT_INDEX_SCALE", type := .int, accessFlags := 25, slot := 5, constantValue := 0 }, { name := "LOG2_ARRAY_INT_INDEX_SCALE", type := .int, accessFlags := 25, slot := 6, constantValue := 0 }, { name := "LOG2_ARRAY_LONG_INDEX_SCALE", type := .int, accessFlags := 25, slot := 7, constantValue := 0 }, { name := "LOG2_ARRAY_FLOAT_INDEX_SCALE", type := .int, accessFlags := 25, slot := 8, constantValue := 0 }, { name := "LOG2_ARRAY_DOUBLE_INDEX_SCALE", type := .int, accessFlags := 25, slot := 9, constantValue := 0 }, { name := "LOG2_BYTE_BIT_SIZE", type := .int, accessFlags := 26, slot := 10, constantValue := 0 }, { name := "T_BOOLEAN", type := .int, accessFlags := 25, slot := 11, constantValue := 0 }, { name := "T_CHAR", type := .int, accessFlags := 25, slot := 12, constantValue := 0 }, { name := "T_FLOAT", type := .int, accessFlags := 25, slot := 13, constantValue := 0 }, { name := "T_DOUBLE", type := .int, accessFlags := 25, slot := 14, constantValue := 0 }, { name := "T_BYTE", type := .int, accessFlags := 25, slot := 15, constantValue := 0 }, { name := "T_SHORT", type := .int, accessFlags := 25, slot := 16, constantValue := 0 }, { name := "T_INT", type := .int, accessFlags := 25, slot := 17, constantValue := 0 }, { name := "T_LONG", type := .int, accessFlags := 25, slot := 18, constantValue := 0 }, { name := "JLA", type := (.object "jdk/internal/access/JavaLangAccess"), accessFlags := 26, slot := 19, constantValue := 0 }, { name := "SOFT_MAX_ARRAY_LENGTH", type := .int, accessFlags := 25, slot := 20, constantValue := 0 }]
  methods := #[k13m0]
  instanceTypes := #[]
  staticTypes := #[(.object "jdk/internal/misc/Unsafe"), .boolean, .int, .int, .int, .int, .int, .int, .int, .int, .int, .int, .int, .int, .int, .int, .int, .int, .int, (.object "jdk/internal/access/JavaLangAccess"), .int]
  resolved := Array.replicate 378 none
  statics := none }

def pool14 : Array CpInfo := pool [(1, u "java/lang/Cloneable"), (0, .class_ 1), (0, u "java/lang/Object"), (0, .class_ 3)] 3

/-- java/lang/Cloneable -/
def k14 : Class := { plain "java/lang/Cloneable" (some 0) with
  accessFlags := 1537
  interfaces := #[]
  cf := some (fileOf pool14 2 #[] #[] 1537 4 #[] #[])
  fields := #[]
  methods := #[]
  instanceTypes := #[]
  staticTypes := #[]
  resolved := Array.replicate 8 none
  statics := none }

/-- the primitive byte -/
def k15 : Class := { plain "byte" none with kind := .primitive 'B', accessFlags := 0x411 }
/-- [B -/
def k16 : Class := { plain "[B" (some 0) with kind := .array 15 .byte, interfaces := #[14, 2], accessFlags := 1041 }

/-- the primitive char -/
def k17 : Class := { plain "char" none with kind := .primitive 'C', accessFlags := 0x411 }
/-- [C -/
def k18 : Class := { plain "[C" (some 0) with kind := .array 17 .char, interfaces := #[14, 2], accessFlags := 1041 }

/-- the primitive int -/
def k19 : Class := { plain "int" none with kind := .primitive 'I', accessFlags := 0x411 }
/-- [I -/
def k20 : Class := { plain "[I" (some 0) with kind := .array 19 .int, interfaces := #[14, 2], accessFlags := 1041 }

def heap : Heap := #[{ cls := 7, slots := #[.long 0, .int 1, .null, .int 0, .null, .int 0, .int 0], vm := .statics 7 },
  { cls := 11, slots := #[.null, .null, .null], vm := .statics 11 }]
def classes : Array Class := #[k0, k1, k2, k3, k4, k5, k6, k7, k8, k9, k10, k11, k12, k13, k14, k15, k16, k17, k18, k19, k20]
def interned : List (Array UInt16 × Addr) := []
def slotsUsed : Nat := 10
def theMethod : MethodId := ⟨1, 3⟩
def args0 : Array Value := #[.int 1, .int 2, .int 3, .int 4, .int 5]
def aboutOver (below : List Frame) : State where
  vm := { classes := classes, interned := interned.toArray }
  heap := heap
  slotsUsed := slotsUsed
  threads := #[{ frames := .invoking theMethod args0 :: below }]
def below0 : List Frame := [.native { method := ⟨0, 0⟩, args := #[] }]
def about1 : State := aboutOver below0
def p0 : Program := .bare "" "" ""
def e0 : Env := launch0.env 0 0 0
theorem w_frames : about1.frames = Frame.invoking theMethod args0 :: below0 := rfl
set_option maxRecDepth 65536 in
theorem w_args : argsFit about1.vm theMethod args0 = true := by decide +kernel
set_option maxRecDepth 65536 in
theorem w_heap : heapFits about1 = true := by decide +kernel
set_option maxRecDepth 65536 in
theorem w_runnable : about1.curStatus? = some .runnable := by decide +kernel
set_option maxRecDepth 65536 in
theorem w_alone : about1.alone = true := by decide +kernel
set_option maxRecDepth 65536 in
theorem w_named : about1.methodNamed? x = some theMethod := by decide +kernel
set_option maxRecDepth 65536 in
theorem w_hears : about1.hears theMethod below0 = true := by decide +kernel
set_option maxRecDepth 65536 in
theorem w_ripe : about1.ripe theMethod args0 below0 = true := by decide +kernel
theorem w_running : about1.status = .running := rfl
set_option maxRecDepth 65536 in
theorem w_room : about1.hasRoom e0.platform room_1 = true :=
  launch0.hasRoom_least _ room_1 (by decide +kernel) (by decide +kernel) (by decide +kernel) (by decide +kernel) (by decide +kernel) (by decide +kernel)
theorem allAtoms_all (ts : List Jvm.Cond) (a : Array Jvm.Value) (st : Jvm.State) : (allAtoms ts).before a st = ts.all (fun c => c.before a st) := by
  induction ts with
  | nil => rfl
  | cons c t ih =>
    show (Jvm.Cond.and c (allAtoms t)).before a st = _
    rw [Jvm.Cond.before_and, ih, List.all_cons]
def words1 : List Jvm.Cond := Jvm.Cond.code x code maxLocals ret :: tables_1
/-- a 'code' word, met by the world's own term for the bytes: nothing is compared byte by byte -/
theorem code_word {y : MethodName} {bytes : ByteArray} {mx : Nat} {rt : Option FieldType} {a : Array Value} {s : State} {m : MethodId} {meth : Method} {c : Code} (h1 : s.methodNamed? y = some m) (h2 : s.vm.method? m = some meth) (h3 : meth.code = some c) (h4 : c.code = bytes)
    (h5 : (c.maxLocals == mx && c.exceptionTable.isEmpty && decide (c.maxStack ≤ mostOperands) && decide (meth.sig.returnType = rt) && !meth.locks && decide (parseMethodDescriptor y.desc = some meth.sig)) = true) : (Jvm.Cond.code y bytes mx rt).before a s = true := by
  simp only [Bool.and_eq_true, beq_iff_eq, Bool.not_eq_true', decide_eq_true_eq] at h5
  obtain ⟨⟨⟨⟨⟨g1, g2⟩, g3⟩, g4⟩, g5⟩, g6⟩ := h5
  simp [Cond.before, Cond.holds, Cond.value, h1, h2, h3, h4, g1, g2, g3, g4, g5, g6]
def isCode : Jvm.Cond → Bool
  | .code _ _ _ _ => true
  | _ => false
theorem all_split {L : List Jvm.Cond} {P : Jvm.Cond → Bool} (h1 : L.all (fun c => isCode c || P c) = true) (h2 : ∀ c ∈ L.filter isCode, P c = true) : L.all P = true := by
  refine List.all_eq_true.mpr fun c hc => ?_
  have h := List.all_eq_true.mp h1 c hc
  rcases Bool.eq_false_or_eq_true (isCode c) with hi | hi
  · exact h2 c (List.mem_filter.mpr ⟨hc, hi⟩)
  · simpa [hi] using h
set_option maxRecDepth 65536 in
theorem w_c0 : (Jvm.Cond.code x code maxLocals ret).before args0 about1 = true := code_word (m := ⟨1, 3⟩) (meth := k1m3) (c := k1c3) (by decide +kernel) rfl rfl rfl (by decide +kernel)
set_option maxRecDepth 65536 in
theorem w_c1 : (Jvm.Cond.code ({ cls := "com/example/divvy/divvy/document/DocumentIdPartitionKeyPinLaw", name := "make", desc := "(ICCCC)Ljava/lang/String;" } : Jvm.MethodName) method_2_code (5 : Nat) (Option.some (Jvm.ClassFile.FieldType.object "java/lang/String"))).before args0 about1 = true := code_word (m := ⟨1, 1⟩) (meth := k1m1) (c := k1c1) (by decide +kernel) rfl rfl rfl (by decide +kernel)
set_option maxRecDepth 65536 in
theorem w_c2 : (Jvm.Cond.code ({ cls := "java/lang/String", name := "<init>", desc := "([C)V" } : Jvm.MethodName) jdk_42_method_3_code (2 : Nat) (Option.none : Option Jvm.ClassFile.FieldType)).before args0 about1 = true := code_word (m := ⟨7, 1⟩) (meth := k7m1) (c := k7c1) (by decide +kernel) rfl rfl rfl (by decide +kernel)
set_option maxRecDepth 65536 in
theorem w_c3 : (Jvm.Cond.code ({ cls := "java/lang/String", name := "<init>", desc := "([CIILjava/lang/Void;)V" } : Jvm.MethodName) jdk_42_method_149_code (6 : Nat) (Option.none : Option Jvm.ClassFile.FieldType)).before args0 about1 = true := code_word (m := ⟨7, 8⟩) (meth := k7m8) (c := k7c8) (by decide +kernel) rfl rfl rfl (by decide +kernel)
set_option maxRecDepth 65536 in
theorem w_c4 : (Jvm.Cond.code ({ cls := "java/lang/Object", name := "<init>", desc := "()V" } : Jvm.MethodName) object_method_1_code (1 : Nat) (Option.none : Option Jvm.ClassFile.FieldType)).before args0 about1 = true := code_word (m := ⟨0, 0⟩) (meth := k0m0) (c := k0c0) (by decide +kernel) rfl rfl rfl (by decide +kernel)
set_option maxRecDepth 65536 in
theorem w_c5 : (Jvm.Cond.code ({ cls := "com/example/divvy/divvy/document/DocumentIdPartitionKeyPinLaw", name := "valid", desc := "(ICCCC)Z" } : Jvm.MethodName) method_3_code (5 : Nat) (Option.some Jvm.ClassFile.FieldType.boolean)).before args0 about1 = true := code_word (m := ⟨1, 2⟩) (meth := k1m2) (c := k1c2) (by decide +kernel) rfl rfl rfl (by decide +kernel)
set_option maxRecDepth 65536 in
theorem w_c6 : (Jvm.Cond.code ({ cls := "java/lang/StringUTF16", name := "compress", desc := "([CII)[B" } : Jvm.MethodName) jdk_52_method_16_code (6 : Nat) (Option.some (Jvm.ClassFile.FieldType.array Jvm.ClassFile.FieldType.byte))).before args0 about1 = true := code_word (m := ⟨8, 2⟩) (meth := k8m2) (c := k8c2) (by decide +kernel) rfl rfl rfl (by decide +kernel)
set_option maxRecDepth 65536 in
theorem w_c7 : (Jvm.Cond.code ({ cls := "java/lang/StringUTF16", name := "compress", desc := "([CI[BII)I" } : Jvm.MethodName) jdk_52_method_21_code (7 : Nat) (Option.some Jvm.ClassFile.FieldType.int)).before args0 about1 = true := code_word (m := ⟨8, 3⟩) (meth := k8m3) (c := k8c3) (by decide +kernel) rfl rfl rfl (by decide +kernel)
set_option maxRecDepth 65536 in
theorem w_c8 : (Jvm.Cond.code ({ cls := "java/lang/StringUTF16", name := "coderFromArrayLen", desc := "([BI)B" } : Jvm.MethodName) jdk_52_method_15_code (2 : Nat) (Option.some Jvm.ClassFile.FieldType.byte)).before args0 about1 = true := code_word (m := ⟨8, 1⟩) (meth := k8m1) (c := k8c1) (by decide +kernel) rfl rfl rfl (by decide +kernel)
set_option maxRecDepth 65536 in
theorem w_c9 : (Jvm.Cond.code ({ cls := "com/example/divvy/divvy/document/DocumentId", name := "partitionKey", desc := "(Ljava/lang/String;)Ljava/lang/String;" } : Jvm.MethodName) prog_20_method_3_code (1 : Nat) (Option.some (Jvm.ClassFile.FieldType.object "java/lang/String"))).before args0 about1 = true := code_word (m := ⟨9, 0⟩) (meth := k9m0) (c := k9c0) (by decide +kernel) rfl rfl rfl (by decide +kernel)
set_option maxRecDepth 65536 in
theorem w_c10 : (Jvm.Cond.code ({ cls := "java/lang/String", name := "isEmpty", desc := "()Z" } : Jvm.MethodName) jdk_42_method_55_code (1 : Nat) (Option.some Jvm.ClassFile.FieldType.boolean)).before args0 about1 = true := code_word (m := ⟨7, 3⟩) (meth := k7m3) (c := k7c3) (by decide +kernel) rfl rfl rfl (by decide +kernel)
set_option maxRecDepth 65536 in
theorem w_c11 : (Jvm.Cond.code ({ cls := "java/lang/String", name := "charAt", desc := "(I)C" } : Jvm.MethodName) jdk_42_method_56_code (2 : Nat) (Option.some Jvm.ClassFile.FieldType.char)).before args0 about1 = true := code_word (m := ⟨7, 4⟩) (meth := k7m4) (c := k7c4) (by decide +kernel) rfl rfl rfl (by decide +kernel)
set_option maxRecDepth 65536 in
theorem w_c12 : (Jvm.Cond.code ({ cls := "java/lang/String", name := "isLatin1", desc := "()Z" } : Jvm.MethodName) jdk_42_method_154_code (1 : Nat) (Option.some Jvm.ClassFile.FieldType.boolean)).before args0 about1 = true := code_word (m := ⟨7, 10⟩) (meth := k7m10) (c := k7c10) (by decide +kernel) rfl rfl rfl (by decide +kernel)
set_option maxRecDepth 65536 in
theorem w_c13 : (Jvm.Cond.code ({ cls := "java/lang/StringLatin1", name := "charAt", desc := "([BI)C" } : Jvm.MethodName) jdk_43_method_2_code (2 : Nat) (Option.some Jvm.ClassFile.FieldType.char)).before args0 about1 = true := code_word (m := ⟨10, 1⟩) (meth := k10m1) (c := k10c1) (by decide +kernel) rfl rfl rfl (by decide +kernel)
set_option maxRecDepth 65536 in
theorem w_c14 : (Jvm.Cond.code ({ cls := "java/lang/String", name := "checkIndex", desc := "(II)V" } : Jvm.MethodName) jdk_42_method_155_code (2 : Nat) (Option.none : Option Jvm.ClassFile.FieldType)).before args0 about1 = true := code_word (m := ⟨7, 11⟩) (meth := k7m11) (c := k7c11) (by decide +kernel) rfl rfl rfl (by decide +kernel)
set_option maxRecDepth 65536 in
theorem w_c15 : (Jvm.Cond.code ({ cls := "jdk/internal/util/Preconditions", name := "checkIndex", desc := "(IILjava/util/function/BiFunction;)I" } : Jvm.MethodName) jdk_41_method_11_code (3 : Nat) (Option.some Jvm.ClassFile.FieldType.int)).before args0 about1 = true := code_word (m := ⟨11, 1⟩) (meth := k11m1) (c := k11c1) (by decide +kernel) rfl rfl rfl (by decide +kernel)
set_option maxRecDepth 65536 in
theorem w_c16 : (Jvm.Cond.code ({ cls := "java/lang/String", name := "indexOf", desc := "(I)I" } : Jvm.MethodName) jdk_42_method_79_code (2 : Nat) (Option.some Jvm.ClassFile.FieldType.int)).before args0 about1 = true := code_word (m := ⟨7, 6⟩) (meth := k7m6) (c := k7c6) (by decide +kernel) rfl rfl rfl (by decide +kernel)
set_option maxRecDepth 65536 in
theorem w_c17 : (Jvm.Cond.code ({ cls := "java/lang/String", name := "indexOf", desc := "(II)I" } : Jvm.MethodName) jdk_42_method_80_code (3 : Nat) (Option.some Jvm.ClassFile.FieldType.int)).before args0 about1 = true := code_word (m := ⟨7, 7⟩) (meth := k7m7) (c := k7c7) (by decide +kernel) rfl rfl rfl (by decide +kernel)
set_option maxRecDepth 65536 in
theorem w_c18 : (Jvm.Cond.code ({ cls := "java/lang/String", name := "length", desc := "()I" } : Jvm.MethodName) jdk_42_method_54_code (1 : Nat) (Option.some Jvm.ClassFile.FieldType.int)).before args0 about1 = true := code_word (m := ⟨7, 2⟩) (meth := k7m2) (c := k7c2) (by decide +kernel) rfl rfl rfl (by decide +kernel)
set_option maxRecDepth 65536 in
theorem w_c19 : (Jvm.Cond.code ({ cls := "java/lang/String", name := "coder", desc := "()B" } : Jvm.MethodName) jdk_42_method_152_code (1 : Nat) (Option.some Jvm.ClassFile.FieldType.byte)).before args0 about1 = true := code_word (m := ⟨7, 9⟩) (meth := k7m9) (c := k7c9) (by decide +kernel) rfl rfl rfl (by decide +kernel)
set_option maxRecDepth 65536 in
theorem w_c20 : (Jvm.Cond.code ({ cls := "java/lang/StringLatin1", name := "indexOf", desc := "([BIII)I" } : Jvm.MethodName) jdk_43_method_22_code (4 : Nat) (Option.some Jvm.ClassFile.FieldType.int)).before args0 about1 = true := code_word (m := ⟨10, 3⟩) (meth := k10m3) (c := k10c3) (by decide +kernel) rfl rfl rfl (by decide +kernel)
set_option maxRecDepth 65536 in
theorem w_c21 : (Jvm.Cond.code ({ cls := "java/lang/StringLatin1", name := "canEncode", desc := "(I)Z" } : Jvm.MethodName) jdk_43_method_4_code (1 : Nat) (Option.some Jvm.ClassFile.FieldType.boolean)).before args0 about1 = true := code_word (m := ⟨10, 2⟩) (meth := k10m2) (c := k10c2) (by decide +kernel) rfl rfl rfl (by decide +kernel)
set_option maxRecDepth 65536 in
theorem w_c22 : (Jvm.Cond.code ({ cls := "java/lang/Math", name := "max", desc := "(II)I" } : Jvm.MethodName) jdk_29_method_65_code (2 : Nat) (Option.some Jvm.ClassFile.FieldType.int)).before args0 about1 = true := code_word (m := ⟨12, 1⟩) (meth := k12m1) (c := k12c1) (by decide +kernel) rfl rfl rfl (by decide +kernel)
set_option maxRecDepth 65536 in
theorem w_c23 : (Jvm.Cond.code ({ cls := "java/lang/Math", name := "min", desc := "(II)I" } : Jvm.MethodName) jdk_29_method_69_code (2 : Nat) (Option.some Jvm.ClassFile.FieldType.int)).before args0 about1 = true := code_word (m := ⟨12, 2⟩) (meth := k12m2) (c := k12c2) (by decide +kernel) rfl rfl rfl (by decide +kernel)
set_option maxRecDepth 65536 in
theorem w_c24 : (Jvm.Cond.code ({ cls := "java/lang/StringLatin1", name := "indexOfChar", desc := "([BIII)I" } : Jvm.MethodName) jdk_43_method_23_code (6 : Nat) (Option.some Jvm.ClassFile.FieldType.int)).before args0 about1 = true := code_word (m := ⟨10, 4⟩) (meth := k10m4) (c := k10c4) (by decide +kernel) rfl rfl rfl (by decide +kernel)
set_option maxRecDepth 65536 in
theorem w_c25 : (Jvm.Cond.code ({ cls := "java/lang/String", name := "equals", desc := "(Ljava/lang/Object;)Z" } : Jvm.MethodName) jdk_42_method_66_code (3 : Nat) (Option.some Jvm.ClassFile.FieldType.boolean)).before args0 about1 = true := code_word (m := ⟨7, 5⟩) (meth := k7m5) (c := k7c5) (by decide +kernel) rfl rfl rfl (by decide +kernel)
def codes1 : List Jvm.Cond := [Jvm.Cond.code x code maxLocals ret, Jvm.Cond.code ({ cls := "com/example/divvy/divvy/document/DocumentIdPartitionKeyPinLaw", name := "make", desc := "(ICCCC)Ljava/lang/String;" } : Jvm.MethodName) method_2_code (5 : Nat) (Option.some (Jvm.ClassFile.FieldType.object "java/lang/String")), Jvm.Cond.code ({ cls := "java/lang/String", name := "<init>", desc := "([C)V" } : Jvm.MethodName) jdk_42_method_3_code (2 : Nat) (Option.none : Option Jvm.ClassFile.FieldType), Jvm.Cond.code ({ cls := "java/lang/String", name := "<init>", desc := "([CIILjava/lang/Void;)V" } : Jvm.MethodName) jdk_42_method_149_code (6 : Nat) (Option.none : Option Jvm.ClassFile.FieldType), Jvm.Cond.code ({ cls := "java/lang/Object", name := "<init>", desc := "()V" } : Jvm.MethodName) object_method_1_code (1 : Nat) (Option.none : Option Jvm.ClassFile.FieldType), Jvm.Cond.code ({ cls := "com/example/divvy/divvy/document/DocumentIdPartitionKeyPinLaw", name := "valid", desc := "(ICCCC)Z" } : Jvm.MethodName) method_3_code (5 : Nat) (Option.some Jvm.ClassFile.FieldType.boolean), Jvm.Cond.code ({ cls := "java/lang/StringUTF16", name := "compress", desc := "([CII)[B" } : Jvm.MethodName) jdk_52_method_16_code (6 : Nat) (Option.some (Jvm.ClassFile.FieldType.array Jvm.ClassFile.FieldType.byte)), Jvm.Cond.code ({ cls := "java/lang/StringUTF16", name := "compress", desc := "([CI[BII)I" } : Jvm.MethodName) jdk_52_method_21_code (7 : Nat) (Option.some Jvm.ClassFile.FieldType.int), Jvm.Cond.code ({ cls := "java/lang/StringUTF16", name := "coderFromArrayLen", desc := "([BI)B" } : Jvm.MethodName) jdk_52_method_15_code (2 : Nat) (Option.some Jvm.ClassFile.FieldType.byte), Jvm.Cond.code ({ cls := "com/example/divvy/divvy/document/DocumentId", name := "partitionKey", desc := "(Ljava/lang/String;)Ljava/lang/String;" } : Jvm.MethodName) prog_20_method_3_code (1 : Nat) (Option.some (Jvm.ClassFile.FieldType.object "java/lang/String")), Jvm.Cond.code ({ cls := "java/lang/String", name := "isEmpty", desc := "()Z" } : Jvm.MethodName) jdk_42_method_55_code (1 : Nat) (Option.some Jvm.ClassFile.FieldType.boolean), Jvm.Cond.code ({ cls := "java/lang/String", name := "charAt", desc := "(I)C" } : Jvm.MethodName) jdk_42_method_56_code (2 : Nat) (Option.some Jvm.ClassFile.FieldType.char), Jvm.Cond.code ({ cls := "java/lang/String", name := "isLatin1", desc := "()Z" } : Jvm.MethodName) jdk_42_method_154_code (1 : Nat) (Option.some Jvm.ClassFile.FieldType.boolean), Jvm.Cond.code ({ cls := "java/lang/StringLatin1", name := "charAt", desc := "([BI)C" } : Jvm.MethodName) jdk_43_method_2_code (2 : Nat) (Option.some Jvm.ClassFile.FieldType.char), Jvm.Cond.code ({ cls := "java/lang/String", name := "checkIndex", desc := "(II)V" } : Jvm.MethodName) jdk_42_method_155_code (2 : Nat) (Option.none : Option Jvm.ClassFile.FieldType), Jvm.Cond.code ({ cls := "jdk/internal/util/Preconditions", name := "checkIndex", desc := "(IILjava/util/function/BiFunction;)I" } : Jvm.MethodName) jdk_41_method_11_code (3 : Nat) (Option.some Jvm.ClassFile.FieldType.int), Jvm.Cond.code ({ cls := "java/lang/String", name := "indexOf", desc := "(I)I" } : Jvm.MethodName) jdk_42_method_79_code (2 : Nat) (Option.some Jvm.ClassFile.FieldType.int), Jvm.Cond.code ({ cls := "java/lang/String", name := "indexOf", desc := "(II)I" } : Jvm.MethodName) jdk_42_method_80_code (3 : Nat) (Option.some Jvm.ClassFile.FieldType.int), Jvm.Cond.code ({ cls := "java/lang/String", name := "length", desc := "()I" } : Jvm.MethodName) jdk_42_method_54_code (1 : Nat) (Option.some Jvm.ClassFile.FieldType.int), Jvm.Cond.code ({ cls := "java/lang/String", name := "coder", desc := "()B" } : Jvm.MethodName) jdk_42_method_152_code (1 : Nat) (Option.some Jvm.ClassFile.FieldType.byte), Jvm.Cond.code ({ cls := "java/lang/StringLatin1", name := "indexOf", desc := "([BIII)I" } : Jvm.MethodName) jdk_43_method_22_code (4 : Nat) (Option.some Jvm.ClassFile.FieldType.int), Jvm.Cond.code ({ cls := "java/lang/StringLatin1", name := "canEncode", desc := "(I)Z" } : Jvm.MethodName) jdk_43_method_4_code (1 : Nat) (Option.some Jvm.ClassFile.FieldType.boolean), Jvm.Cond.code ({ cls := "java/lang/Math", name := "max", desc := "(II)I" } : Jvm.MethodName) jdk_29_method_65_code (2 : Nat) (Option.some Jvm.ClassFile.FieldType.int), Jvm.Cond.code ({ cls := "java/lang/Math", name := "min", desc := "(II)I" } : Jvm.MethodName) jdk_29_method_69_code (2 : Nat) (Option.some Jvm.ClassFile.FieldType.int), Jvm.Cond.code ({ cls := "java/lang/StringLatin1", name := "indexOfChar", desc := "([BIII)I" } : Jvm.MethodName) jdk_43_method_23_code (6 : Nat) (Option.some Jvm.ClassFile.FieldType.int), Jvm.Cond.code ({ cls := "java/lang/String", name := "equals", desc := "(Ljava/lang/Object;)Z" } : Jvm.MethodName) jdk_42_method_66_code (3 : Nat) (Option.some Jvm.ClassFile.FieldType.boolean)]
set_option maxRecDepth 65536 in
theorem codes_eq : words1.filter isCode = codes1 := rfl
theorem w_codes : ∀ c ∈ words1.filter isCode, c.before args0 about1 = true := by
  rw [codes_eq]
  intro c hc
  simp only [codes1, List.mem_cons, List.not_mem_nil, or_false] at hc
  rcases hc with rfl | rfl | rfl | rfl | rfl | rfl | rfl | rfl | rfl | rfl | rfl | rfl | rfl | rfl | rfl | rfl | rfl | rfl | rfl | rfl | rfl | rfl | rfl | rfl | rfl | rfl
  · exact w_c0
  · exact w_c1
  · exact w_c2
  · exact w_c3
  · exact w_c4
  · exact w_c5
  · exact w_c6
  · exact w_c7
  · exact w_c8
  · exact w_c9
  · exact w_c10
  · exact w_c11
  · exact w_c12
  · exact w_c13
  · exact w_c14
  · exact w_c15
  · exact w_c16
  · exact w_c17
  · exact w_c18
  · exact w_c19
  · exact w_c20
  · exact w_c21
  · exact w_c22
  · exact w_c23
  · exact w_c24
  · exact w_c25
set_option maxRecDepth 65536 in
theorem w_t1 : (words1.take 24).all (fun c => isCode c || c.before args0 about1) = true := by decide +kernel
set_option maxRecDepth 65536 in
theorem w_t2 : ((words1.drop 24).take 24).all (fun c => isCode c || c.before args0 about1) = true := by decide +kernel
set_option maxRecDepth 65536 in
theorem w_t3 : (((words1.drop 24).drop 24).take 24).all (fun c => isCode c || c.before args0 about1) = true := by decide +kernel
set_option maxRecDepth 65536 in
theorem w_t4 : ((((words1.drop 24).drop 24).drop 24).take 24).all (fun c => isCode c || c.before args0 about1) = true := by decide +kernel
set_option maxRecDepth 65536 in
theorem w_t5 : ((((words1.drop 24).drop 24).drop 24).drop 24).all (fun c => isCode c || c.before args0 about1) = true := by decide +kernel
theorem w_tables : (allAtoms (Jvm.Cond.code x code maxLocals ret :: tables_1)).before args0 about1 = true := by
  rw [allAtoms_all]
  show words1.all (fun c => c.before args0 about1) = true
  refine all_split ?_ w_codes
  rw [← List.take_append_drop 24 words1, List.all_append, w_t1, ← List.take_append_drop 24 (words1.drop 24), List.all_append, w_t2, ← List.take_append_drop 24 ((words1.drop 24).drop 24), List.all_append, w_t3, ← List.take_append_drop 24 (((words1.drop 24).drop 24).drop 24), List.all_append, w_t4, w_t5]
  rfl
set_option maxRecDepth 65536 in
theorem w_rest : rest_1_c.before args0 about1 = true := by decide +kernel
set_option maxRecDepth 65536 in
theorem w_case : (Jvm.Cond.and given_1 narrow_1).before args0 about1 = true := by decide +kernel
set_option maxRecDepth 65536 in
theorem w_consts : constsHeld consts_1 about1 := Jvm.Lit.constsHeldB_iff.mp (by decide +kernel)
theorem w_applies : (headSpec (Jvm.Cond.code x code maxLocals ret :: tables_1) room_1).applies x e0.platform about1 = true :=
  (Spec.applies_iff w_frames).mpr ⟨w_running, w_runnable, w_alone, w_named, w_hears, w_ripe, w_room, w_tables⟩
theorem atStart : AtStart classFile x code maxLocals ret World_1 tables_1 room_1 Calls_1 rest_1 Pre_1 launch0 p0 e0 about1 theMethod args0 below0 :=
  ⟨lists_1, trivial, launch0.admits_env _ _ _, launch0.least_env, fairChoices_fair.cas, fairChoices_fair.clock, w_frames, w_args, w_heap, w_applies, ⟨w_consts, trivial⟩, w_rest, w_case⟩
end start1
theorem witness_1 : WitnessClaimed_1 := ⟨start1.p0, start1.e0, start1.about1, start1.theMethod, start1.args0, start1.below0, start1.atStart⟩
end Jvm.Pilot.@@N@@
