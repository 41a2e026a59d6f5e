import JvmDerived
import JvmDerived.Pilot.@@N@@Statement
import JvmDerived.Pilot.@@N@@Code
set_option linter.unusedVariables false
set_option linter.unusedSimpArgs false
namespace Jvm.OwnW
open Sem ClassFile Op Lib Jvm.Stand Jvm.Free Jvm.LawKit Jvm.RoadKit
/-- from the state S the walk over 'below' comes to an end of which P holds -/
def Goes (tb : Tables) (e : Env) (below : List Frame) (S : State) (P : State → Outcome → Prop) : Prop :=
  ∃ s₂ o, Steps tb e below S s₂ ∧ s₂.status = .running ∧ Ended s₂ below o ∧ P s₂ o
section Walk
variable {p : Program} {l : Launch} {e : Env} {R : Room} {s : State} {m : MethodId} {args : Array Value} {below : List Frame} {meth : Method} {c : Code} {T : State} {locs : List Loc} {cells slots : Nat} {P : State → Outcome → Prop} {pc : Nat} {Ls : Array Slot} {st : List Value} {Z : State} {a0 : Array Value} {h : Heap}
theorem Goes.of {tb : Tables} {S S' : State} (k : Goes tb e below S' P) (h : ∀ t, Steps tb e below S' t → Steps tb e below S t) : Goes tb e below S P := by
  obtain ⟨s₂, o, h1, h2⟩ := k
  exact ⟨s₂, o, h _ h1, h2⟩
theorem Goes.tr {tb : Tables} {S S' : State} (k : Goes tb e below S' P) (h : Steps tb e below S S') : Goes tb e below S P := by
  obtain ⟨s₂, o, h1, h2⟩ := k
  exact ⟨s₂, o, h.trans h1, h2⟩
theorem Goes.join {tb : Tables} {S S' : State} (h1 : Goes tb e below S' P → Goes tb e below S P) (h2 : Goes tb e below S' P) : Goes tb e below S P := h1 h2
theorem Goes.cast {tb : Tables} {g g' : JFrame} (q : g = g') (k : Goes tb e below (T.setTop g') P) : Goes tb e below (T.setTop g) P := q ▸ k
theorem g_nameI {x v : Int32} (q : v = x) (k : Goes p.tables e below (T.setTop (mkF m pc Ls (.int v :: st))) P) : Goes p.tables e below (T.setTop (mkF m pc Ls (.int x :: st))) P := q ▸ k
theorem g_nameL {x v : Int64} (q : v = x) (k : Goes p.tables e below (T.setTop (mkF m pc Ls (.long v :: st))) P) : Goes p.tables e below (T.setTop (mkF m pc Ls (.long x :: st))) P := q ▸ k
theorem g_iloadN (X : Stand p l e R s m args below meth c T locs cells slots) (hx : p.tables.exec = Jvm.exec) {k : Fin 4} {v : Int32} (hd : decode c.code pc = .ok (.iload_n k, 1)) (hl : Ls[k.val]? = some (.val (.int v))) (hr : Goes p.tables e below (T.setTop (mkF m (pc + 1) Ls (.int v :: st))) P) : Goes p.tables e below (T.setTop (mkF m pc Ls st)) P := hr.of fun _ k => XS.iloadN X.here hx rfl hd hl k
theorem g_iload (X : Stand p l e R s m args below meth c T locs cells slots) (hx : p.tables.exec = Jvm.exec) {k : Nat} {v : Int32} (hd : decode c.code pc = .ok (.iload k, 2)) (hl : Ls[k]? = some (.val (.int v))) (hr : Goes p.tables e below (T.setTop (mkF m (pc + 2) Ls (.int v :: st))) P) : Goes p.tables e below (T.setTop (mkF m pc Ls st)) P := hr.of fun _ k => XS.iload X.here hx rfl hd hl k
theorem g_lloadN (X : Stand p l e R s m args below meth c T locs cells slots) (hx : p.tables.exec = Jvm.exec) {k : Fin 4} {v : Int64} (hd : decode c.code pc = .ok (.lload_n k, 1)) (hl : Ls[k.val]? = some (.val (.long v))) (hr : Goes p.tables e below (T.setTop (mkF m (pc + 1) Ls (.long v :: st))) P) : Goes p.tables e below (T.setTop (mkF m pc Ls st)) P := hr.of fun _ k => XT.lloadN X.here hx rfl hd hl k
theorem g_lload (X : Stand p l e R s m args below meth c T locs cells slots) (hx : p.tables.exec = Jvm.exec) {k : Nat} {v : Int64} (hd : decode c.code pc = .ok (.lload k, 2)) (hl : Ls[k]? = some (.val (.long v))) (hr : Goes p.tables e below (T.setTop (mkF m (pc + 2) Ls (.long v :: st))) P) : Goes p.tables e below (T.setTop (mkF m pc Ls st)) P := hr.of fun _ k => XT.lload X.here hx rfl hd hl k
theorem g_aloadN (X : Stand p l e R s m args below meth c T locs cells slots) (hx : p.tables.exec = Jvm.exec) {k : Fin 4} {v : Value} (hd : decode c.code pc = .ok (.aload_n k, 1)) (hl : Ls[k.val]? = some (.val v)) (hv : v.isRef = true) (hr : Goes p.tables e below (T.setTop (mkF m (pc + 1) Ls (v :: st))) P) : Goes p.tables e below (T.setTop (mkF m pc Ls st)) P := hr.of fun _ k => XS.aloadN X.here hx rfl hd hl hv k
theorem g_aload (X : Stand p l e R s m args below meth c T locs cells slots) (hx : p.tables.exec = Jvm.exec) {k : Nat} {v : Value} (hd : decode c.code pc = .ok (.aload k, 2)) (hl : Ls[k]? = some (.val v)) (hv : v.isRef = true) (hr : Goes p.tables e below (T.setTop (mkF m (pc + 2) Ls (v :: st))) P) : Goes p.tables e below (T.setTop (mkF m pc Ls st)) P := hr.of fun _ k => XS.aload X.here hx rfl hd hl hv k
theorem g_istoreN (X : Stand p l e R s m args below meth c T locs cells slots) (hx : p.tables.exec = Jvm.exec) {k : Fin 4} {x : Int32} {l' : Array Slot} (hd : decode c.code pc = .ok (.istore_n k, 1)) (hl : storeLocals Ls k.val (.int x) = some l') (hr : Goes p.tables e below (T.setTop (mkF m (pc + 1) l' st)) P) : Goes p.tables e below (T.setTop (mkF m pc Ls (.int x :: st))) P := hr.of fun _ k => XS.istoreN X.here hx rfl hd rfl hl k
theorem g_istore (X : Stand p l e R s m args below meth c T locs cells slots) (hx : p.tables.exec = Jvm.exec) {k : Nat} {x : Int32} {l' : Array Slot} (hd : decode c.code pc = .ok (.istore k, 2)) (hl : storeLocals Ls k (.int x) = some l') (hr : Goes p.tables e below (T.setTop (mkF m (pc + 2) l' st)) P) : Goes p.tables e below (T.setTop (mkF m pc Ls (.int x :: st))) P := hr.of fun _ k => XS.istore X.here hx rfl hd rfl hl k
theorem g_lstoreN (X : Stand p l e R s m args below meth c T locs cells slots) (hx : p.tables.exec = Jvm.exec) {k : Fin 4} {x : Int64} {l' : Array Slot} (hd : decode c.code pc = .ok (.lstore_n k, 1)) (hl : storeLocals Ls k.val (.long x) = some l') (hr : Goes p.tables e below (T.setTop (mkF m (pc + 1) l' st)) P) : Goes p.tables e below (T.setTop (mkF m pc Ls (.long x :: st))) P := hr.of fun _ k => XT.lstoreN X.here hx rfl hd rfl hl k
theorem g_lstore (X : Stand p l e R s m args below meth c T locs cells slots) (hx : p.tables.exec = Jvm.exec) {k : Nat} {x : Int64} {l' : Array Slot} (hd : decode c.code pc = .ok (.lstore k, 2)) (hl : storeLocals Ls k (.long x) = some l') (hr : Goes p.tables e below (T.setTop (mkF m (pc + 2) l' st)) P) : Goes p.tables e below (T.setTop (mkF m pc Ls (.long x :: st))) P := hr.of fun _ k => XT.lstore X.here hx rfl hd rfl hl k
theorem g_astoreN (X : Stand p l e R s m args below meth c T locs cells slots) (hx : p.tables.exec = Jvm.exec) {k : Fin 4} {x : Value} {l' : Array Slot} (hd : decode c.code pc = .ok (.astore_n k, 1)) (hv : x.isRef = true) (hl : storeLocals Ls k.val x = some l') (hr : Goes p.tables e below (T.setTop (mkF m (pc + 1) l' st)) P) : Goes p.tables e below (T.setTop (mkF m pc Ls (x :: st))) P := hr.of fun _ k => XS.astoreN X.here hx rfl hd rfl hv hl k
theorem g_astore (X : Stand p l e R s m args below meth c T locs cells slots) (hx : p.tables.exec = Jvm.exec) {k : Nat} {x : Value} {l' : Array Slot} (hd : decode c.code pc = .ok (.astore k, 2)) (hv : x.isRef = true) (hl : storeLocals Ls k x = some l') (hr : Goes p.tables e below (T.setTop (mkF m (pc + 2) l' st)) P) : Goes p.tables e below (T.setTop (mkF m pc Ls (x :: st))) P := hr.of fun _ k => XS.astore X.here hx rfl hd rfl hv hl k
theorem g_istoreS (X : Stand p l e R s m args below meth c T locs cells slots) (hx : p.tables.exec = Jvm.exec) {k : Nat} {x : Int32} {o : Slot} (hd : decode c.code pc = .ok (.istore k, 2)) (hold : Ls[k]? = some o) (ho : One o) (hr : Goes p.tables e below (T.setTop (mkF m (pc + 2) (Ls.setIfInBounds k (.val (.int x))) st)) P) : Goes p.tables e below (T.setTop (mkF m pc Ls (.int x :: st))) P := hr.of fun _ k => XS.istoreS X.here hx rfl hd rfl hold ho k
theorem g_istoreNS (X : Stand p l e R s m args below meth c T locs cells slots) (hx : p.tables.exec = Jvm.exec) {k : Fin 4} {x : Int32} {o : Slot} (hd : decode c.code pc = .ok (.istore_n k, 1)) (hold : Ls[k.val]? = some o) (ho : One o) (hr : Goes p.tables e below (T.setTop (mkF m (pc + 1) (Ls.setIfInBounds k.val (.val (.int x))) st)) P) : Goes p.tables e below (T.setTop (mkF m pc Ls (.int x :: st))) P := hr.of fun _ k => XS.istoreNS X.here hx rfl hd rfl hold ho k
theorem g_iconst (X : Stand p l e R s m args below meth c T locs cells slots) (hx : p.tables.exec = Jvm.exec) {i : Int} (v : Int32) (hd : decode c.code pc = .ok (.iconst i, 1)) (hv : Int32.ofInt i = v) (hr : Goes p.tables e below (T.setTop (mkF m (pc + 1) Ls (.int v :: st))) P) : Goes p.tables e below (T.setTop (mkF m pc Ls st)) P := hr.of fun _ k => XT.iconstV X.here hx rfl v hd hv k
theorem g_bipush (X : Stand p l e R s m args below meth c T locs cells slots) (hx : p.tables.exec = Jvm.exec) {i : Int} (v : Int32) (hd : decode c.code pc = .ok (.bipush i, 2)) (hv : (Int8.ofInt i).toInt32 = v) (hr : Goes p.tables e below (T.setTop (mkF m (pc + 2) Ls (.int v :: st))) P) : Goes p.tables e below (T.setTop (mkF m pc Ls st)) P := hr.of fun _ k => XT.bipushV X.here hx rfl v hd hv k
theorem g_sipush (X : Stand p l e R s m args below meth c T locs cells slots) (hx : p.tables.exec = Jvm.exec) {i : Int} (v : Int32) (hd : decode c.code pc = .ok (.sipush i, 3)) (hv : (Int16.ofInt i).toInt32 = v) (hr : Goes p.tables e below (T.setTop (mkF m (pc + 3) Ls (.int v :: st))) P) : Goes p.tables e below (T.setTop (mkF m pc Ls st)) P := hr.of fun _ k => XT.sipushV X.here hx rfl v hd hv k
theorem g_lconst (X : Stand p l e R s m args below meth c T locs cells slots) (hx : p.tables.exec = Jvm.exec) {i : Fin 2} (v : Int64) (hd : decode c.code pc = .ok (.lconst i, 1)) (hv : Int64.ofNat i = v) (hr : Goes p.tables e below (T.setTop (mkF m (pc + 1) Ls (.long v :: st))) P) : Goes p.tables e below (T.setTop (mkF m pc Ls st)) P := hr.of fun _ k => XT.lconstV X.here hx rfl v hd hv k
theorem g_null (X : Stand p l e R s m args below meth c T locs cells slots) (hx : p.tables.exec = Jvm.exec)  (hd : decode c.code pc = .ok (.aconst_null, 1)) (hr : Goes p.tables e below (T.setTop (mkF m (pc + 1) Ls (.null :: st))) P) : Goes p.tables e below (T.setTop (mkF m pc Ls st)) P := hr.of fun _ k => XS.aconstNull X.here hx rfl hd k
theorem g_ldc (X : Stand p l e R s m args below meth c T locs cells slots) (hx : p.tables.exec = Jvm.exec) {own : String} {index : Nat} {v : Int32} (hZ : Z.Warmed39 s.vm) (hown : s.vm.findClass own = some m.cls) (wk : (Jvm.Cond.constant own index v).before a0 Z = true) (hd : decode c.code pc = .ok (.ldc index, 2)) (hr : Goes p.tables e below (T.setTop (mkF m (pc + 2) Ls (.int v :: st))) P) : Goes p.tables e below (T.setTop (mkF m pc Ls st)) P := hr.of fun _ k => X.ldcI hx hown (mvT hZ wk) rfl hd k
theorem g_ldcw (X : Stand p l e R s m args below meth c T locs cells slots) (hx : p.tables.exec = Jvm.exec) {own : String} {index : Nat} {v : Int32} (hZ : Z.Warmed39 s.vm) (hown : s.vm.findClass own = some m.cls) (wk : (Jvm.Cond.constant own index v).before a0 Z = true) (hd : decode c.code pc = .ok (.ldc_w index, 3)) (hr : Goes p.tables e below (T.setTop (mkF m (pc + 3) Ls (.int v :: st))) P) : Goes p.tables e below (T.setTop (mkF m pc Ls st)) P := hr.of fun _ k => X.ldcWI hx hown (mvT hZ wk) rfl hd k
theorem g_ldc2 (X : Stand p l e R s m args below meth c T locs cells slots) (hx : p.tables.exec = Jvm.exec) {own : String} {index : Nat} {v : Int64} (hZ : Z.Warmed39 s.vm) (hown : s.vm.findClass own = some m.cls) (wk : (Jvm.Cond.constantLong own index v).before a0 Z = true) (hd : decode c.code pc = .ok (.ldc2_w index, 3)) (hr : Goes p.tables e below (T.setTop (mkF m (pc + 3) Ls (.long v :: st))) P) : Goes p.tables e below (T.setTop (mkF m pc Ls st)) P := hr.of fun _ k => X.ldc2J hx hown (mvT hZ wk) rfl hd k
theorem g_iadd (X : Stand p l e R s m args below meth c T locs cells slots) (hx : p.tables.exec = Jvm.exec) {x y : Int32} (hd : decode c.code pc = .ok (.iadd, 1)) (hr : Goes p.tables e below (T.setTop (mkF m (pc + 1) Ls (.int (x + y) :: st))) P) : Goes p.tables e below (T.setTop (mkF m pc Ls (.int y :: .int x :: st))) P := hr.of fun _ k => XS.iadd X.here hx rfl hd rfl k
theorem g_isub (X : Stand p l e R s m args below meth c T locs cells slots) (hx : p.tables.exec = Jvm.exec) {x y : Int32} (hd : decode c.code pc = .ok (.isub, 1)) (hr : Goes p.tables e below (T.setTop (mkF m (pc + 1) Ls (.int (x - y) :: st))) P) : Goes p.tables e below (T.setTop (mkF m pc Ls (.int y :: .int x :: st))) P := hr.of fun _ k => XS.isub X.here hx rfl hd rfl k
theorem g_imul (X : Stand p l e R s m args below meth c T locs cells slots) (hx : p.tables.exec = Jvm.exec) {x y : Int32} (hd : decode c.code pc = .ok (.imul, 1)) (hr : Goes p.tables e below (T.setTop (mkF m (pc + 1) Ls (.int (x * y) :: st))) P) : Goes p.tables e below (T.setTop (mkF m pc Ls (.int y :: .int x :: st))) P := hr.of fun _ k => XS.imul X.here hx rfl hd rfl k
theorem g_iand (X : Stand p l e R s m args below meth c T locs cells slots) (hx : p.tables.exec = Jvm.exec) {x y : Int32} (hd : decode c.code pc = .ok (.iand, 1)) (hr : Goes p.tables e below (T.setTop (mkF m (pc + 1) Ls (.int (x &&& y) :: st))) P) : Goes p.tables e below (T.setTop (mkF m pc Ls (.int y :: .int x :: st))) P := hr.of fun _ k => XS.iand X.here hx rfl hd rfl k
theorem g_ior (X : Stand p l e R s m args below meth c T locs cells slots) (hx : p.tables.exec = Jvm.exec) {x y : Int32} (hd : decode c.code pc = .ok (.ior, 1)) (hr : Goes p.tables e below (T.setTop (mkF m (pc + 1) Ls (.int (x ||| y) :: st))) P) : Goes p.tables e below (T.setTop (mkF m pc Ls (.int y :: .int x :: st))) P := hr.of fun _ k => XT.ior X.here hx rfl hd rfl k
theorem g_ixor (X : Stand p l e R s m args below meth c T locs cells slots) (hx : p.tables.exec = Jvm.exec) {x y : Int32} (hd : decode c.code pc = .ok (.ixor, 1)) (hr : Goes p.tables e below (T.setTop (mkF m (pc + 1) Ls (.int (x ^^^ y) :: st))) P) : Goes p.tables e below (T.setTop (mkF m pc Ls (.int y :: .int x :: st))) P := hr.of fun _ k => XT.ixor X.here hx rfl hd rfl k
theorem g_ishl (X : Stand p l e R s m args below meth c T locs cells slots) (hx : p.tables.exec = Jvm.exec) {x y : Int32} (hd : decode c.code pc = .ok (.ishl, 1)) (hr : Goes p.tables e below (T.setTop (mkF m (pc + 1) Ls (.int (x <<< (y &&& 31)) :: st))) P) : Goes p.tables e below (T.setTop (mkF m pc Ls (.int y :: .int x :: st))) P := hr.of fun _ k => XT.ishl X.here hx rfl hd rfl k
theorem g_ishr (X : Stand p l e R s m args below meth c T locs cells slots) (hx : p.tables.exec = Jvm.exec) {x y : Int32} (hd : decode c.code pc = .ok (.ishr, 1)) (hr : Goes p.tables e below (T.setTop (mkF m (pc + 1) Ls (.int (x >>> (y &&& 31)) :: st))) P) : Goes p.tables e below (T.setTop (mkF m pc Ls (.int y :: .int x :: st))) P := hr.of fun _ k => XT.ishr X.here hx rfl hd rfl k
theorem g_iushr (X : Stand p l e R s m args below meth c T locs cells slots) (hx : p.tables.exec = Jvm.exec) {x y : Int32} (hd : decode c.code pc = .ok (.iushr, 1)) (hr : Goes p.tables e below (T.setTop (mkF m (pc + 1) Ls (.int (XT.ushr x y) :: st))) P) : Goes p.tables e below (T.setTop (mkF m pc Ls (.int y :: .int x :: st))) P := hr.of fun _ k => XT.iushr X.here hx rfl hd rfl k
theorem g_ladd (X : Stand p l e R s m args below meth c T locs cells slots) (hx : p.tables.exec = Jvm.exec) {x y : Int64} (hd : decode c.code pc = .ok (.ladd, 1)) (hr : Goes p.tables e below (T.setTop (mkF m (pc + 1) Ls (.long (x + y) :: st))) P) : Goes p.tables e below (T.setTop (mkF m pc Ls (.long y :: .long x :: st))) P := hr.of fun _ k => XT.ladd X.here hx rfl hd rfl k
theorem g_lsub (X : Stand p l e R s m args below meth c T locs cells slots) (hx : p.tables.exec = Jvm.exec) {x y : Int64} (hd : decode c.code pc = .ok (.lsub, 1)) (hr : Goes p.tables e below (T.setTop (mkF m (pc + 1) Ls (.long (x - y) :: st))) P) : Goes p.tables e below (T.setTop (mkF m pc Ls (.long y :: .long x :: st))) P := hr.of fun _ k => XT.lsub X.here hx rfl hd rfl k
theorem g_lmul (X : Stand p l e R s m args below meth c T locs cells slots) (hx : p.tables.exec = Jvm.exec) {x y : Int64} (hd : decode c.code pc = .ok (.lmul, 1)) (hr : Goes p.tables e below (T.setTop (mkF m (pc + 1) Ls (.long (x * y) :: st))) P) : Goes p.tables e below (T.setTop (mkF m pc Ls (.long y :: .long x :: st))) P := hr.of fun _ k => XT.lmul X.here hx rfl hd rfl k
theorem g_land (X : Stand p l e R s m args below meth c T locs cells slots) (hx : p.tables.exec = Jvm.exec) {x y : Int64} (hd : decode c.code pc = .ok (.land, 1)) (hr : Goes p.tables e below (T.setTop (mkF m (pc + 1) Ls (.long (x &&& y) :: st))) P) : Goes p.tables e below (T.setTop (mkF m pc Ls (.long y :: .long x :: st))) P := hr.of fun _ k => XT.land X.here hx rfl hd rfl k
theorem g_lor (X : Stand p l e R s m args below meth c T locs cells slots) (hx : p.tables.exec = Jvm.exec) {x y : Int64} (hd : decode c.code pc = .ok (.lor, 1)) (hr : Goes p.tables e below (T.setTop (mkF m (pc + 1) Ls (.long (x ||| y) :: st))) P) : Goes p.tables e below (T.setTop (mkF m pc Ls (.long y :: .long x :: st))) P := hr.of fun _ k => XT.lor X.here hx rfl hd rfl k
theorem g_lxor (X : Stand p l e R s m args below meth c T locs cells slots) (hx : p.tables.exec = Jvm.exec) {x y : Int64} (hd : decode c.code pc = .ok (.lxor, 1)) (hr : Goes p.tables e below (T.setTop (mkF m (pc + 1) Ls (.long (x ^^^ y) :: st))) P) : Goes p.tables e below (T.setTop (mkF m pc Ls (.long y :: .long x :: st))) P := hr.of fun _ k => XT.lxor X.here hx rfl hd rfl k
theorem g_lshl (X : Stand p l e R s m args below meth c T locs cells slots) (hx : p.tables.exec = Jvm.exec) {x : Int64} {y : Int32} (hd : decode c.code pc = .ok (.lshl, 1)) (hr : Goes p.tables e below (T.setTop (mkF m (pc + 1) Ls (.long (x <<< (y.toInt64 &&& 63)) :: st))) P) : Goes p.tables e below (T.setTop (mkF m pc Ls (.int y :: .long x :: st))) P := hr.of fun _ k => XT.lshl X.here hx rfl hd rfl k
theorem g_lshr (X : Stand p l e R s m args below meth c T locs cells slots) (hx : p.tables.exec = Jvm.exec) {x : Int64} {y : Int32} (hd : decode c.code pc = .ok (.lshr, 1)) (hr : Goes p.tables e below (T.setTop (mkF m (pc + 1) Ls (.long (x >>> (y.toInt64 &&& 63)) :: st))) P) : Goes p.tables e below (T.setTop (mkF m pc Ls (.int y :: .long x :: st))) P := hr.of fun _ k => XT.lshr X.here hx rfl hd rfl k
theorem g_lushr (X : Stand p l e R s m args below meth c T locs cells slots) (hx : p.tables.exec = Jvm.exec) {x : Int64} {y : Int32} (hd : decode c.code pc = .ok (.lushr, 1)) (hr : Goes p.tables e below (T.setTop (mkF m (pc + 1) Ls (.long (XT.ushrL x y) :: st))) P) : Goes p.tables e below (T.setTop (mkF m pc Ls (.int y :: .long x :: st))) P := hr.of fun _ k => XT.lushr X.here hx rfl hd rfl k
theorem g_idiv (X : Stand p l e R s m args below meth c T locs cells slots) (hx : p.tables.exec = Jvm.exec) {x y : Int32} (hd : decode c.code pc = .ok (.idiv, 1)) (hy : y ≠ 0) (hr : Goes p.tables e below (T.setTop (mkF m (pc + 1) Ls (.int (x / y) :: st))) P) : Goes p.tables e below (T.setTop (mkF m pc Ls (.int y :: .int x :: st))) P := hr.of fun _ k => XS.idiv X.here hx rfl hd rfl hy k
theorem g_irem (X : Stand p l e R s m args below meth c T locs cells slots) (hx : p.tables.exec = Jvm.exec) {x y : Int32} (hd : decode c.code pc = .ok (.irem, 1)) (hy : y ≠ 0) (hr : Goes p.tables e below (T.setTop (mkF m (pc + 1) Ls (.int (x % y) :: st))) P) : Goes p.tables e below (T.setTop (mkF m pc Ls (.int y :: .int x :: st))) P := hr.of fun _ k => iremM X hx rfl hd rfl hy k
theorem g_ldiv (X : Stand p l e R s m args below meth c T locs cells slots) (hx : p.tables.exec = Jvm.exec) {x y : Int64} (hd : decode c.code pc = .ok (.ldiv, 1)) (hy : y ≠ 0) (hr : Goes p.tables e below (T.setTop (mkF m (pc + 1) Ls (.long (x / y) :: st))) P) : Goes p.tables e below (T.setTop (mkF m pc Ls (.long y :: .long x :: st))) P := hr.of fun _ k => XT.ldiv X.here hx rfl hd rfl hy k
theorem g_lrem (X : Stand p l e R s m args below meth c T locs cells slots) (hx : p.tables.exec = Jvm.exec) {x y : Int64} (hd : decode c.code pc = .ok (.lrem, 1)) (hy : y ≠ 0) (hr : Goes p.tables e below (T.setTop (mkF m (pc + 1) Ls (.long (x % y) :: st))) P) : Goes p.tables e below (T.setTop (mkF m pc Ls (.long y :: .long x :: st))) P := hr.of fun _ k => XT.lrem X.here hx rfl hd rfl hy (by rw [lrem_mod]; exact k)
theorem g_ineg (X : Stand p l e R s m args below meth c T locs cells slots) (hx : p.tables.exec = Jvm.exec) {x : Int32} (hd : decode c.code pc = .ok (.ineg, 1)) (hr : Goes p.tables e below (T.setTop (mkF m (pc + 1) Ls (.int (-x) :: st))) P) : Goes p.tables e below (T.setTop (mkF m pc Ls (.int x :: st))) P := hr.of fun _ k => XS.ineg X.here hx rfl hd rfl k
theorem g_lneg (X : Stand p l e R s m args below meth c T locs cells slots) (hx : p.tables.exec = Jvm.exec) {x : Int64} (hd : decode c.code pc = .ok (.lneg, 1)) (hr : Goes p.tables e below (T.setTop (mkF m (pc + 1) Ls (.long (-x) :: st))) P) : Goes p.tables e below (T.setTop (mkF m pc Ls (.long x :: st))) P := hr.of fun _ k => XT.lneg X.here hx rfl hd rfl k
theorem g_i2l (X : Stand p l e R s m args below meth c T locs cells slots) (hx : p.tables.exec = Jvm.exec) {x : Int32} (hd : decode c.code pc = .ok (.i2l, 1)) (hr : Goes p.tables e below (T.setTop (mkF m (pc + 1) Ls (.long (x.toInt64) :: st))) P) : Goes p.tables e below (T.setTop (mkF m pc Ls (.int x :: st))) P := hr.of fun _ k => XT.i2l X.here hx rfl hd rfl k
theorem g_l2i (X : Stand p l e R s m args below meth c T locs cells slots) (hx : p.tables.exec = Jvm.exec) {x : Int64} (hd : decode c.code pc = .ok (.l2i, 1)) (hr : Goes p.tables e below (T.setTop (mkF m (pc + 1) Ls (.int (x.toInt32) :: st))) P) : Goes p.tables e below (T.setTop (mkF m pc Ls (.long x :: st))) P := hr.of fun _ k => XT.l2i X.here hx rfl hd rfl k
theorem g_i2b (X : Stand p l e R s m args below meth c T locs cells slots) (hx : p.tables.exec = Jvm.exec) {x : Int32} (hd : decode c.code pc = .ok (.i2b, 1)) (hr : Goes p.tables e below (T.setTop (mkF m (pc + 1) Ls (.int (x.toInt8.toInt32) :: st))) P) : Goes p.tables e below (T.setTop (mkF m pc Ls (.int x :: st))) P := hr.of fun _ k => XT.i2b X.here hx rfl hd rfl k
theorem g_i2c (X : Stand p l e R s m args below meth c T locs cells slots) (hx : p.tables.exec = Jvm.exec) {x : Int32} (hd : decode c.code pc = .ok (.i2c, 1)) (hr : Goes p.tables e below (T.setTop (mkF m (pc + 1) Ls (.int (x.toUInt32.toUInt16.toUInt32.toInt32) :: st))) P) : Goes p.tables e below (T.setTop (mkF m pc Ls (.int x :: st))) P := hr.of fun _ k => XT.i2c X.here hx rfl hd rfl k
theorem g_i2s (X : Stand p l e R s m args below meth c T locs cells slots) (hx : p.tables.exec = Jvm.exec) {x : Int32} (hd : decode c.code pc = .ok (.i2s, 1)) (hr : Goes p.tables e below (T.setTop (mkF m (pc + 1) Ls (.int (x.toInt16.toInt32) :: st))) P) : Goes p.tables e below (T.setTop (mkF m pc Ls (.int x :: st))) P := hr.of fun _ k => XT.i2s X.here hx rfl hd rfl k
theorem g_lcmp (X : Stand p l e R s m args below meth c T locs cells slots) (hx : p.tables.exec = Jvm.exec) {x y : Int64} (hd : decode c.code pc = .ok (.lcmp, 1)) (hr : Goes p.tables e below (T.setTop (mkF m (pc + 1) Ls (.int (XT.cmpL x y) :: st))) P) : Goes p.tables e below (T.setTop (mkF m pc Ls (.long y :: .long x :: st))) P := hr.of fun _ k => XT.lcmp X.here hx rfl hd rfl k
theorem g_dup (X : Stand p l e R s m args below meth c T locs cells slots) (hx : p.tables.exec = Jvm.exec) {x : Value} (hd : decode c.code pc = .ok (.dup, 1)) (hc : x.category = 1) (hr : Goes p.tables e below (T.setTop (mkF m (pc + 1) Ls (x :: x :: st))) P) : Goes p.tables e below (T.setTop (mkF m pc Ls (x :: st))) P := hr.of fun _ k => XS.dup X.here hx rfl hd rfl hc k
theorem g_pop (X : Stand p l e R s m args below meth c T locs cells slots) (hx : p.tables.exec = Jvm.exec) {x : Value} (hd : decode c.code pc = .ok (.pop, 1)) (hc : x.category = 1) (hr : Goes p.tables e below (T.setTop (mkF m (pc + 1) Ls st)) P) : Goes p.tables e below (T.setTop (mkF m pc Ls (x :: st))) P := hr.of fun _ k => XT.pop X.here hx rfl hd rfl hc k
theorem g_dupX1 (X : Stand p l e R s m args below meth c T locs cells slots) (hx : p.tables.exec = Jvm.exec) {x y : Value} (hd : decode c.code pc = .ok (.dup_x1, 1)) (hc : x.category = 1) (hc' : y.category = 1) (hr : Goes p.tables e below (T.setTop (mkF m (pc + 1) Ls (x :: y :: x :: st))) P) : Goes p.tables e below (T.setTop (mkF m pc Ls (x :: y :: st))) P := hr.of fun _ k => XT.dupX1 X.here hx rfl hd rfl hc hc' k
theorem g_dup2 (X : Stand p l e R s m args below meth c T locs cells slots) (hx : p.tables.exec = Jvm.exec) {x y : Value} (hd : decode c.code pc = .ok (.dup2, 1)) (hc : x.category = 1) (hc' : y.category = 1) (hr : Goes p.tables e below (T.setTop (mkF m (pc + 1) Ls (x :: y :: x :: y :: st))) P) : Goes p.tables e below (T.setTop (mkF m pc Ls (x :: y :: st))) P := hr.of fun _ k => XT.dup2 X.here hx rfl hd rfl hc hc' k
theorem g_dup2L (X : Stand p l e R s m args below meth c T locs cells slots) (hx : p.tables.exec = Jvm.exec) {x : Int64} (hd : decode c.code pc = .ok (.dup2, 1)) (hr : Goes p.tables e below (T.setTop (mkF m (pc + 1) Ls (.long x :: .long x :: st))) P) : Goes p.tables e below (T.setTop (mkF m pc Ls (.long x :: st))) P := hr.of fun _ k => XT.dup2L X.here hx rfl hd rfl k
theorem g_iinc (X : Stand p l e R s m args below meth c T locs cells slots) (hx : p.tables.exec = Jvm.exec) {k : Nat} {cst : Int} {x : Int32} {l' : Array Slot} (v : Int32) (hd : decode c.code pc = .ok (.iinc k cst, 3)) (hv : Int32.ofInt cst = v) (hl : Ls[k]? = some (.val (.int x))) (hl' : storeLocals Ls k (.int (x + v)) = some l') (hr : Goes p.tables e below (T.setTop (mkF m (pc + 3) l' st)) P) : Goes p.tables e below (T.setTop (mkF m pc Ls st)) P := hr.of fun _ k => XT.iincV X.here hx rfl v hd hv hl hl' k
theorem g_goto (X : Stand p l e R s m args below meth c T locs cells slots) (hx : p.tables.exec = Jvm.exec) {o : Int} {pc' : Nat} (hd : decode c.code pc = .ok (.goto o, 3)) (ho : 0 ≤ (pc : Int) + o) (hp : ((pc : Int) + o).toNat = pc') (hr : Goes p.tables e below (T.setTop (mkF m pc' Ls st)) P) : Goes p.tables e below (T.setTop (mkF m pc Ls st)) P := hr.of fun _ k => XS.goto X.here hx rfl rfl hd ho hp k
theorem g_icmp_eq (X : Stand p l e R s m args below meth c T locs cells slots) (hx : p.tables.exec = Jvm.exec) {x y : Int32} {o : Int} {pc' : Nat} (hd : decode c.code pc = .ok (.if_icmp .eq o, 3)) (ho : 0 ≤ (pc : Int) + o) (hp : ((pc : Int) + o).toNat = pc') (hT : (x = y) → Goes p.tables e below (T.setTop (mkF m pc' Ls st)) P) (hF : (¬ x = y) → Goes p.tables e below (T.setTop (mkF m (pc + 3) Ls st)) P) : Goes p.tables e below (T.setTop (mkF m pc Ls (.int y :: .int x :: st))) P := by
  by_cases q : x = y
  · exact (hT q).of fun _ k => XS.icmpYes X.here hx rfl rfl hd rfl (XT.ii_eq_t q) ho hp k
  · exact (hF q).of fun _ k => XS.icmpNo X.here hx rfl hd rfl (XT.ii_eq_f q) k
theorem g_if_eq (X : Stand p l e R s m args below meth c T locs cells slots) (hx : p.tables.exec = Jvm.exec) {x : Int32} {o : Int} {pc' : Nat} (hd : decode c.code pc = .ok (.ifCond .eq o, 3)) (ho : 0 ≤ (pc : Int) + o) (hp : ((pc : Int) + o).toNat = pc') (hT : (x = 0) → Goes p.tables e below (T.setTop (mkF m pc' Ls st)) P) (hF : (¬ x = 0) → Goes p.tables e below (T.setTop (mkF m (pc + 3) Ls st)) P) : Goes p.tables e below (T.setTop (mkF m pc Ls (.int x :: st))) P := by
  by_cases q : x = 0
  · exact (hT q).of fun _ k => XS.ifYes X.here hx rfl rfl hd rfl (XT.i0_eq_t q) ho hp k
  · exact (hF q).of fun _ k => XS.ifNo X.here hx rfl hd rfl (XT.i0_eq_f q) k
theorem g_lif_eq (X : Stand p l e R s m args below meth c T locs cells slots) (hx : p.tables.exec = Jvm.exec) {x y : Int64} {o : Int} {pc' : Nat} (hd : decode c.code pc = .ok (.ifCond .eq o, 3)) (ho : 0 ≤ (pc : Int) + o) (hp : ((pc : Int) + o).toNat = pc') (hT : (x = y) → Goes p.tables e below (T.setTop (mkF m pc' Ls st)) P) (hF : (¬ x = y) → Goes p.tables e below (T.setTop (mkF m (pc + 3) Ls st)) P) : Goes p.tables e below (T.setTop (mkF m pc Ls (.int (XT.cmpL x y) :: st))) P := by
  by_cases q : x = y
  · exact (hT q).of fun _ k => XS.ifYes X.here hx rfl rfl hd rfl (XT.ll_eq_t q) ho hp k
  · exact (hF q).of fun _ k => XS.ifNo X.here hx rfl hd rfl (XT.ll_eq_f q) k
theorem g_icmp_ne (X : Stand p l e R s m args below meth c T locs cells slots) (hx : p.tables.exec = Jvm.exec) {x y : Int32} {o : Int} {pc' : Nat} (hd : decode c.code pc = .ok (.if_icmp .ne o, 3)) (ho : 0 ≤ (pc : Int) + o) (hp : ((pc : Int) + o).toNat = pc') (hT : (¬ x = y) → Goes p.tables e below (T.setTop (mkF m pc' Ls st)) P) (hF : (x = y) → Goes p.tables e below (T.setTop (mkF m (pc + 3) Ls st)) P) : Goes p.tables e below (T.setTop (mkF m pc Ls (.int y :: .int x :: st))) P := by
  by_cases q : x = y
  · exact (hF q).of fun _ k => XS.icmpNo X.here hx rfl hd rfl (XT.ii_ne_f q) k
  · exact (hT q).of fun _ k => XS.icmpYes X.here hx rfl rfl hd rfl (XT.ii_ne_t q) ho hp k
theorem g_if_ne (X : Stand p l e R s m args below meth c T locs cells slots) (hx : p.tables.exec = Jvm.exec) {x : Int32} {o : Int} {pc' : Nat} (hd : decode c.code pc = .ok (.ifCond .ne o, 3)) (ho : 0 ≤ (pc : Int) + o) (hp : ((pc : Int) + o).toNat = pc') (hT : (¬ x = 0) → Goes p.tables e below (T.setTop (mkF m pc' Ls st)) P) (hF : (x = 0) → Goes p.tables e below (T.setTop (mkF m (pc + 3) Ls st)) P) : Goes p.tables e below (T.setTop (mkF m pc Ls (.int x :: st))) P := by
  by_cases q : x = 0
  · exact (hF q).of fun _ k => XS.ifNo X.here hx rfl hd rfl (XT.i0_ne_f q) k
  · exact (hT q).of fun _ k => XS.ifYes X.here hx rfl rfl hd rfl (XT.i0_ne_t q) ho hp k
theorem g_lif_ne (X : Stand p l e R s m args below meth c T locs cells slots) (hx : p.tables.exec = Jvm.exec) {x y : Int64} {o : Int} {pc' : Nat} (hd : decode c.code pc = .ok (.ifCond .ne o, 3)) (ho : 0 ≤ (pc : Int) + o) (hp : ((pc : Int) + o).toNat = pc') (hT : (¬ x = y) → Goes p.tables e below (T.setTop (mkF m pc' Ls st)) P) (hF : (x = y) → Goes p.tables e below (T.setTop (mkF m (pc + 3) Ls st)) P) : Goes p.tables e below (T.setTop (mkF m pc Ls (.int (XT.cmpL x y) :: st))) P := by
  by_cases q : x = y
  · exact (hF q).of fun _ k => XS.ifNo X.here hx rfl hd rfl (XT.ll_ne_f q) k
  · exact (hT q).of fun _ k => XS.ifYes X.here hx rfl rfl hd rfl (XT.ll_ne_t q) ho hp k
theorem g_icmp_lt (X : Stand p l e R s m args below meth c T locs cells slots) (hx : p.tables.exec = Jvm.exec) {x y : Int32} {o : Int} {pc' : Nat} (hd : decode c.code pc = .ok (.if_icmp .lt o, 3)) (ho : 0 ≤ (pc : Int) + o) (hp : ((pc : Int) + o).toNat = pc') (hT : (x < y) → Goes p.tables e below (T.setTop (mkF m pc' Ls st)) P) (hF : (¬ x < y) → Goes p.tables e below (T.setTop (mkF m (pc + 3) Ls st)) P) : Goes p.tables e below (T.setTop (mkF m pc Ls (.int y :: .int x :: st))) P := by
  by_cases q : x < y
  · exact (hT q).of fun _ k => XS.icmpYes X.here hx rfl rfl hd rfl (XT.ii_lt_t q) ho hp k
  · exact (hF q).of fun _ k => XS.icmpNo X.here hx rfl hd rfl (XT.ii_lt_f q) k
theorem g_if_lt (X : Stand p l e R s m args below meth c T locs cells slots) (hx : p.tables.exec = Jvm.exec) {x : Int32} {o : Int} {pc' : Nat} (hd : decode c.code pc = .ok (.ifCond .lt o, 3)) (ho : 0 ≤ (pc : Int) + o) (hp : ((pc : Int) + o).toNat = pc') (hT : (x < 0) → Goes p.tables e below (T.setTop (mkF m pc' Ls st)) P) (hF : (¬ x < 0) → Goes p.tables e below (T.setTop (mkF m (pc + 3) Ls st)) P) : Goes p.tables e below (T.setTop (mkF m pc Ls (.int x :: st))) P := by
  by_cases q : x < 0
  · exact (hT q).of fun _ k => XS.ifYes X.here hx rfl rfl hd rfl (XT.i0_lt_t q) ho hp k
  · exact (hF q).of fun _ k => XS.ifNo X.here hx rfl hd rfl (XT.i0_lt_f q) k
theorem g_lif_lt (X : Stand p l e R s m args below meth c T locs cells slots) (hx : p.tables.exec = Jvm.exec) {x y : Int64} {o : Int} {pc' : Nat} (hd : decode c.code pc = .ok (.ifCond .lt o, 3)) (ho : 0 ≤ (pc : Int) + o) (hp : ((pc : Int) + o).toNat = pc') (hT : (x < y) → Goes p.tables e below (T.setTop (mkF m pc' Ls st)) P) (hF : (¬ x < y) → Goes p.tables e below (T.setTop (mkF m (pc + 3) Ls st)) P) : Goes p.tables e below (T.setTop (mkF m pc Ls (.int (XT.cmpL x y) :: st))) P := by
  by_cases q : x < y
  · exact (hT q).of fun _ k => XS.ifYes X.here hx rfl rfl hd rfl (XT.ll_lt_t q) ho hp k
  · exact (hF q).of fun _ k => XS.ifNo X.here hx rfl hd rfl (XT.ll_lt_f q) k
theorem g_icmp_ge (X : Stand p l e R s m args below meth c T locs cells slots) (hx : p.tables.exec = Jvm.exec) {x y : Int32} {o : Int} {pc' : Nat} (hd : decode c.code pc = .ok (.if_icmp .ge o, 3)) (ho : 0 ≤ (pc : Int) + o) (hp : ((pc : Int) + o).toNat = pc') (hT : (¬ x < y) → Goes p.tables e below (T.setTop (mkF m pc' Ls st)) P) (hF : (x < y) → Goes p.tables e below (T.setTop (mkF m (pc + 3) Ls st)) P) : Goes p.tables e below (T.setTop (mkF m pc Ls (.int y :: .int x :: st))) P := by
  by_cases q : x < y
  · exact (hF q).of fun _ k => XS.icmpNo X.here hx rfl hd rfl (XT.ii_ge_f q) k
  · exact (hT q).of fun _ k => XS.icmpYes X.here hx rfl rfl hd rfl (XT.ii_ge_t q) ho hp k
theorem g_if_ge (X : Stand p l e R s m args below meth c T locs cells slots) (hx : p.tables.exec = Jvm.exec) {x : Int32} {o : Int} {pc' : Nat} (hd : decode c.code pc = .ok (.ifCond .ge o, 3)) (ho : 0 ≤ (pc : Int) + o) (hp : ((pc : Int) + o).toNat = pc') (hT : (¬ x < 0) → Goes p.tables e below (T.setTop (mkF m pc' Ls st)) P) (hF : (x < 0) → Goes p.tables e below (T.setTop (mkF m (pc + 3) Ls st)) P) : Goes p.tables e below (T.setTop (mkF m pc Ls (.int x :: st))) P := by
  by_cases q : x < 0
  · exact (hF q).of fun _ k => XS.ifNo X.here hx rfl hd rfl (XT.i0_ge_f q) k
  · exact (hT q).of fun _ k => XS.ifYes X.here hx rfl rfl hd rfl (XT.i0_ge_t q) ho hp k
theorem g_lif_ge (X : Stand p l e R s m args below meth c T locs cells slots) (hx : p.tables.exec = Jvm.exec) {x y : Int64} {o : Int} {pc' : Nat} (hd : decode c.code pc = .ok (.ifCond .ge o, 3)) (ho : 0 ≤ (pc : Int) + o) (hp : ((pc : Int) + o).toNat = pc') (hT : (¬ x < y) → Goes p.tables e below (T.setTop (mkF m pc' Ls st)) P) (hF : (x < y) → Goes p.tables e below (T.setTop (mkF m (pc + 3) Ls st)) P) : Goes p.tables e below (T.setTop (mkF m pc Ls (.int (XT.cmpL x y) :: st))) P := by
  by_cases q : x < y
  · exact (hF q).of fun _ k => XS.ifNo X.here hx rfl hd rfl (XT.ll_ge_f q) k
  · exact (hT q).of fun _ k => XS.ifYes X.here hx rfl rfl hd rfl (XT.ll_ge_t q) ho hp k
theorem g_icmp_gt (X : Stand p l e R s m args below meth c T locs cells slots) (hx : p.tables.exec = Jvm.exec) {x y : Int32} {o : Int} {pc' : Nat} (hd : decode c.code pc = .ok (.if_icmp .gt o, 3)) (ho : 0 ≤ (pc : Int) + o) (hp : ((pc : Int) + o).toNat = pc') (hT : (y < x) → Goes p.tables e below (T.setTop (mkF m pc' Ls st)) P) (hF : (¬ y < x) → Goes p.tables e below (T.setTop (mkF m (pc + 3) Ls st)) P) : Goes p.tables e below (T.setTop (mkF m pc Ls (.int y :: .int x :: st))) P := by
  by_cases q : y < x
  · exact (hT q).of fun _ k => XS.icmpYes X.here hx rfl rfl hd rfl (XT.ii_gt_t q) ho hp k
  · exact (hF q).of fun _ k => XS.icmpNo X.here hx rfl hd rfl (XT.ii_gt_f q) k
theorem g_if_gt (X : Stand p l e R s m args below meth c T locs cells slots) (hx : p.tables.exec = Jvm.exec) {x : Int32} {o : Int} {pc' : Nat} (hd : decode c.code pc = .ok (.ifCond .gt o, 3)) (ho : 0 ≤ (pc : Int) + o) (hp : ((pc : Int) + o).toNat = pc') (hT : (0 < x) → Goes p.tables e below (T.setTop (mkF m pc' Ls st)) P) (hF : (¬ 0 < x) → Goes p.tables e below (T.setTop (mkF m (pc + 3) Ls st)) P) : Goes p.tables e below (T.setTop (mkF m pc Ls (.int x :: st))) P := by
  by_cases q : 0 < x
  · exact (hT q).of fun _ k => XS.ifYes X.here hx rfl rfl hd rfl (XT.i0_gt_t q) ho hp k
  · exact (hF q).of fun _ k => XS.ifNo X.here hx rfl hd rfl (XT.i0_gt_f q) k
theorem g_lif_gt (X : Stand p l e R s m args below meth c T locs cells slots) (hx : p.tables.exec = Jvm.exec) {x y : Int64} {o : Int} {pc' : Nat} (hd : decode c.code pc = .ok (.ifCond .gt o, 3)) (ho : 0 ≤ (pc : Int) + o) (hp : ((pc : Int) + o).toNat = pc') (hT : (y < x) → Goes p.tables e below (T.setTop (mkF m pc' Ls st)) P) (hF : (¬ y < x) → Goes p.tables e below (T.setTop (mkF m (pc + 3) Ls st)) P) : Goes p.tables e below (T.setTop (mkF m pc Ls (.int (XT.cmpL x y) :: st))) P := by
  by_cases q : y < x
  · exact (hT q).of fun _ k => XS.ifYes X.here hx rfl rfl hd rfl (XT.ll_gt_t q) ho hp k
  · exact (hF q).of fun _ k => XS.ifNo X.here hx rfl hd rfl (XT.ll_gt_f q) k
theorem g_icmp_le (X : Stand p l e R s m args below meth c T locs cells slots) (hx : p.tables.exec = Jvm.exec) {x y : Int32} {o : Int} {pc' : Nat} (hd : decode c.code pc = .ok (.if_icmp .le o, 3)) (ho : 0 ≤ (pc : Int) + o) (hp : ((pc : Int) + o).toNat = pc') (hT : (¬ y < x) → Goes p.tables e below (T.setTop (mkF m pc' Ls st)) P) (hF : (y < x) → Goes p.tables e below (T.setTop (mkF m (pc + 3) Ls st)) P) : Goes p.tables e below (T.setTop (mkF m pc Ls (.int y :: .int x :: st))) P := by
  by_cases q : y < x
  · exact (hF q).of fun _ k => XS.icmpNo X.here hx rfl hd rfl (XT.ii_le_f q) k
  · exact (hT q).of fun _ k => XS.icmpYes X.here hx rfl rfl hd rfl (XT.ii_le_t q) ho hp k
theorem g_if_le (X : Stand p l e R s m args below meth c T locs cells slots) (hx : p.tables.exec = Jvm.exec) {x : Int32} {o : Int} {pc' : Nat} (hd : decode c.code pc = .ok (.ifCond .le o, 3)) (ho : 0 ≤ (pc : Int) + o) (hp : ((pc : Int) + o).toNat = pc') (hT : (¬ 0 < x) → Goes p.tables e below (T.setTop (mkF m pc' Ls st)) P) (hF : (0 < x) → Goes p.tables e below (T.setTop (mkF m (pc + 3) Ls st)) P) : Goes p.tables e below (T.setTop (mkF m pc Ls (.int x :: st))) P := by
  by_cases q : 0 < x
  · exact (hF q).of fun _ k => XS.ifNo X.here hx rfl hd rfl (XT.i0_le_f q) k
  · exact (hT q).of fun _ k => XS.ifYes X.here hx rfl rfl hd rfl (XT.i0_le_t q) ho hp k
theorem g_lif_le (X : Stand p l e R s m args below meth c T locs cells slots) (hx : p.tables.exec = Jvm.exec) {x y : Int64} {o : Int} {pc' : Nat} (hd : decode c.code pc = .ok (.ifCond .le o, 3)) (ho : 0 ≤ (pc : Int) + o) (hp : ((pc : Int) + o).toNat = pc') (hT : (¬ y < x) → Goes p.tables e below (T.setTop (mkF m pc' Ls st)) P) (hF : (y < x) → Goes p.tables e below (T.setTop (mkF m (pc + 3) Ls st)) P) : Goes p.tables e below (T.setTop (mkF m pc Ls (.int (XT.cmpL x y) :: st))) P := by
  by_cases q : y < x
  · exact (hF q).of fun _ k => XS.ifNo X.here hx rfl hd rfl (XT.ll_le_f q) k
  · exact (hT q).of fun _ k => XS.ifYes X.here hx rfl rfl hd rfl (XT.ll_le_t q) ho hp k
theorem g_ifnull_ref (X : Stand p l e R s m args below meth c T locs cells slots) (hx : p.tables.exec = Jvm.exec) {b : Addr} {o : Int} (hd : decode c.code pc = .ok (.ifnull o, 3)) (hr : Goes p.tables e below (T.setTop (mkF m (pc + 3) Ls st)) P) : Goes p.tables e below (T.setTop (mkF m pc Ls (.ref b :: st))) P := hr.of fun _ k => XS.ifnullNo X.here hx rfl hd rfl k
theorem g_ifnull_null (X : Stand p l e R s m args below meth c T locs cells slots) (hx : p.tables.exec = Jvm.exec)  {o : Int} {pc' : Nat} (hd : decode c.code pc = .ok (.ifnull o, 3)) (ho : 0 ≤ (pc : Int) + o) (hp : ((pc : Int) + o).toNat = pc') (hr : Goes p.tables e below (T.setTop (mkF m pc' Ls st)) P) : Goes p.tables e below (T.setTop (mkF m pc Ls (.null :: st))) P := hr.of fun _ k => XS.ifnullYes X.here hx rfl rfl hd rfl ho hp k
theorem g_ifnonnull_ref (X : Stand p l e R s m args below meth c T locs cells slots) (hx : p.tables.exec = Jvm.exec) {b : Addr} {o : Int} {pc' : Nat} (hd : decode c.code pc = .ok (.ifnonnull o, 3)) (ho : 0 ≤ (pc : Int) + o) (hp : ((pc : Int) + o).toNat = pc') (hr : Goes p.tables e below (T.setTop (mkF m pc' Ls st)) P) : Goes p.tables e below (T.setTop (mkF m pc Ls (.ref b :: st))) P := hr.of fun _ k => XT.ifnonnullYes X.here hx rfl rfl hd rfl ho hp k
theorem g_ifnonnull_null (X : Stand p l e R s m args below meth c T locs cells slots) (hx : p.tables.exec = Jvm.exec)  {o : Int} (hd : decode c.code pc = .ok (.ifnonnull o, 3)) (hr : Goes p.tables e below (T.setTop (mkF m (pc + 3) Ls st)) P) : Goes p.tables e below (T.setTop (mkF m pc Ls (.null :: st))) P := hr.of fun _ k => XT.ifnonnullNo X.here hx rfl hd rfl k
theorem g_acmp_eq (X : Stand p l e R s m args below meth c T locs cells slots) (hx : p.tables.exec = Jvm.exec) {x y : Value} (hx' : x.isRef = true) (hy' : y.isRef = true) {o : Int} {pc' : Nat} (hd : decode c.code pc = .ok (.if_acmp .eq o, 3)) (ho : 0 ≤ (pc : Int) + o) (hp : ((pc : Int) + o).toNat = pc') (hT : (x = y) → Goes p.tables e below (T.setTop (mkF m pc' Ls st)) P) (hF : (¬ x = y) → Goes p.tables e below (T.setTop (mkF m (pc + 3) Ls st)) P) : Goes p.tables e below (T.setTop (mkF m pc Ls (y :: x :: st))) P := by
  by_cases q : x = y
  · exact (hT q).of fun _ k => XT.acmpYes X.here hx rfl rfl hd rfl hx' hy' (by simp [XT.acmp, q]) ho hp k
  · exact (hF q).of fun _ k => XT.acmpNo X.here hx rfl hd rfl hx' hy' (by simp [XT.acmp, q]) k
theorem g_acmp_ne (X : Stand p l e R s m args below meth c T locs cells slots) (hx : p.tables.exec = Jvm.exec) {x y : Value} (hx' : x.isRef = true) (hy' : y.isRef = true) {o : Int} {pc' : Nat} (hd : decode c.code pc = .ok (.if_acmp .ne o, 3)) (ho : 0 ≤ (pc : Int) + o) (hp : ((pc : Int) + o).toNat = pc') (hT : (¬ x = y) → Goes p.tables e below (T.setTop (mkF m pc' Ls st)) P) (hF : (x = y) → Goes p.tables e below (T.setTop (mkF m (pc + 3) Ls st)) P) : Goes p.tables e below (T.setTop (mkF m pc Ls (y :: x :: st))) P := by
  by_cases q : x = y
  · exact (hF q).of fun _ k => XT.acmpNo X.here hx rfl hd rfl hx' hy' (by simp [XT.acmp, q]) k
  · exact (hT q).of fun _ k => XT.acmpYes X.here hx rfl rfl hd rfl hx' hy' (by simp [XT.acmp, q]) ho hp k
/-- what a body owes at its end: it returned v, Q holds of it, the heap and the places written, within C cells and N slots -/
abbrev Fin (s : State) (C N : Nat) (Q : Option Value → Heap → List Loc → Prop) : State → Outcome → Prop := fun s₂ o => ∃ v L, o = .returned v ∧ Q v s₂.heap L ∧ FrameEnd s o s₂ L C N
variable {C N : Nat} {Q : Option Value → Heap → List Loc → Prop}
theorem g_ret (X : Stand p l e R s m args below meth c T locs cells slots) (hx : p.tables.exec = Jvm.exec) {w : Value} {t : FieldType} {i : Instr} (hret : meth.sig.returnType = some t) (hk : meth.locks = false) (hn : narrow t w = w)
    (hi : (i = .ireturn ∧ (t = .int ∨ t = .boolean ∨ t = .byte ∨ t = .char ∨ t = .short) ∧ ∃ z, w = .int z) ∨ (i = .lreturn ∧ t = .long ∧ ∃ z, w = .long z) ∨ (i = .dreturn ∧ t = .double ∧ ∃ z, w = .double z) ∨ (i = .freturn ∧ t = .float ∧ ∃ z, w = .float z) ∨ (i = .areturn ∧ t.isReference = true ∧ w.isRef = true))
    (hd : decode c.code pc = .ok (i, 1)) (hc : cells ≤ C) (hs : slots ≤ N) (hQ : Q (some w) T.heap locs) : Goes p.tables e below (T.setTop (mkF m pc Ls (w :: st))) (Fin s C N Q) := by
  obtain ⟨fs, hr, hrun, hended, hW, hsame⟩ := X.leave (v := some w) (fun h => by rw [hret] at h; cases h) hk
  exact ⟨_, _, retOut X hx hret hn hi hd hr, hrun, hended, _, _, rfl, hQ, ⟨_, rfl⟩, hW, hsame.mono hc hs⟩
theorem g_retI (X : Stand p l e R s m args below meth c T locs cells slots) (hx : p.tables.exec = Jvm.exec) {z : Int32} (hret : meth.sig.returnType = some .int) (hk : meth.locks = false) (hd : decode c.code pc = .ok (.ireturn, 1)) (hc : cells ≤ C) (hs : slots ≤ N) (hQ : Q (some (.int z)) T.heap locs) :
    Goes p.tables e below (T.setTop (mkF m pc Ls (.int z :: st))) (Fin s C N Q) := g_ret X hx hret hk rfl (Or.inl ⟨rfl, Or.inl rfl, _, rfl⟩) hd hc hs hQ
theorem g_retL (X : Stand p l e R s m args below meth c T locs cells slots) (hx : p.tables.exec = Jvm.exec) {z : Int64} (hret : meth.sig.returnType = some .long) (hk : meth.locks = false) (hd : decode c.code pc = .ok (.lreturn, 1)) (hc : cells ≤ C) (hs : slots ≤ N) (hQ : Q (some (.long z)) T.heap locs) :
    Goes p.tables e below (T.setTop (mkF m pc Ls (.long z :: st))) (Fin s C N Q) := g_ret X hx hret hk rfl (Or.inr (Or.inl ⟨rfl, rfl, _, rfl⟩)) hd hc hs hQ
theorem g_retA (X : Stand p l e R s m args below meth c T locs cells slots) (hx : p.tables.exec = Jvm.exec) {w : Value} {t : FieldType} (hret : meth.sig.returnType = some t) (hk : meth.locks = false) (ht : t.isReference = true) (hw : w.isRef = true) (hd : decode c.code pc = .ok (.areturn, 1)) (hc : cells ≤ C) (hs : slots ≤ N) (hQ : Q (some w) T.heap locs) :
    Goes p.tables e below (T.setTop (mkF m pc Ls (w :: st))) (Fin s C N Q) := g_ret X hx hret hk (by cases t <;> simp [FieldType.isReference] at ht <;> cases w <;> simp [Value.isRef] at hw <;> rfl) (Or.inr (Or.inr (Or.inr (Or.inr ⟨rfl, ht, hw⟩)))) hd hc hs hQ
theorem g_retZ (X : Stand p l e R s m args below meth c T locs cells slots) (hx : p.tables.exec = Jvm.exec) {z : Int32} (hz : z = 0 ∨ z = 1) (hret : meth.sig.returnType = some .boolean) (hk : meth.locks = false) (hd : decode c.code pc = .ok (.ireturn, 1)) (hc : cells ≤ C) (hs : slots ≤ N) (hQ : Q (some (.int z)) T.heap locs) :
    Goes p.tables e below (T.setTop (mkF m pc Ls (.int z :: st))) (Fin s C N Q) := g_ret X hx hret hk (by rcases hz with rfl | rfl <;> rfl) (Or.inl ⟨rfl, Or.inr (Or.inl rfl), _, rfl⟩) hd hc hs hQ
theorem g_retB (X : Stand p l e R s m args below meth c T locs cells slots) (hx : p.tables.exec = Jvm.exec) {z : Int32} (hz : z.toInt8.toInt32 = z) (hret : meth.sig.returnType = some .byte) (hk : meth.locks = false) (hd : decode c.code pc = .ok (.ireturn, 1)) (hc : cells ≤ C) (hs : slots ≤ N) (hQ : Q (some (.int z)) T.heap locs) :
    Goes p.tables e below (T.setTop (mkF m pc Ls (.int z :: st))) (Fin s C N Q) := g_ret X hx hret hk (by show Value.int z.toInt8.toInt32 = _; rw [hz]) (Or.inl ⟨rfl, Or.inr (Or.inr (Or.inl rfl)), _, rfl⟩) hd hc hs hQ
theorem g_ret0 (X : Stand p l e R s m args below meth c T locs cells slots) (hx : p.tables.exec = Jvm.exec) (hret : meth.sig.returnType = none) (hk : meth.locks = false) (hd : decode c.code pc = .ok (.return_, 1)) (hc : cells ≤ C) (hs : slots ≤ N) (hQ : Q none T.heap locs) :
    Goes p.tables e below (T.setTop (mkF m pc Ls [])) (Fin s C N Q) := by
  obtain ⟨fs, hr, hrun, hended, hW, hsame⟩ := X.leave (v := none) (fun _ => rfl) hk
  exact ⟨_, _, X.returnOut hx hret hd hr, hrun, hended, _, _, rfl, hQ, ⟨_, rfl⟩, hW, hsame.mono hc hs⟩
/-- the contract of a body, at these arguments and this heap -/
def Con (l : Launch) (Z : State) (y : MethodName) (bytes : ByteArray) (maxL : Nat) (ret : Option FieldType) (ws : List Jvm.Cond) (rm : Room) (C N : Nat) (as' : Array Value) (h : Heap) (Q : Option Value → Heap → List Loc → Prop) : Prop :=
  MetFree l y (head1 (Jvm.Cond.code y bytes maxL ret :: ws) rm) (fun a U => a = as' ∧ Z.Warmed39 U.vm ∧ U.heap = h) (fun _ _ _ _ _ => True) (fun _ U o U' => ∃ v L, o = .returned v ∧ Q v U'.heap L ∧ FrameEnd U o U' L C N)
theorem Con.body {y : MethodName} {bytes : ByteArray} {maxL : Nat} {ret : Option FieldType} {ws : List Jvm.Cond} {rm : Room} {as' : Array Value} (hp : plainFor y = true)
    (body : ∀ (p : Program) (e : Env) (s : State) (m : MethodId) (below : List Frame) (meth : Method) (c : Code) (T : State), p.tables.exec = Jvm.exec → c.code = bytes → c.maxLocals = maxL → s.vm.findClass y.cls = some m.cls → meth.name = y.name → Z.Warmed39 s.vm → meth.sig.returnType = ret → meth.locks = false →
      Stand p l e rm s m as' below meth c T [] 0 0 → T.heap = h → Goes p.tables e below (T.setTop (entryFrame m as' maxL)) (Fin s C N Q)) : Con l Z y bytes maxL ret ws rm C N as' h Q := by
  refine MetFree.of_bodySF hp hisR ?_
  intro p e s m args below meth c s₁ Bd hml hP hK
  obtain ⟨rfl, hZ, hh⟩ := hP
  exact body p e s m below meth c s₁ Bd.exec Bd.bytes hml (findClass_of_methodNamed Bd.named) (name_of_methodNamed Bd.named Bd.method).1 hZ Bd.returns (BodyLoose.notSynchronized Bd) (Stand.of_body Bd) (by rw [← hh, Bd.state]; rfl)
variable {y : MethodName} {bytes : ByteArray} {maxL : Nat} {ret : Option FieldType} {rm : Room} {as' : Array Value} {own : String} {index W : Nat} {argsL : List Value}
/-- a static call by the callee's contract -/
theorem g_callS (X : Stand p l e R s m args below meth c T locs cells slots) (hx : p.tables.exec = Jvm.exec) (hZ : Z.Warmed39 s.vm) (hown : s.vm.findClass own = some m.cls) (hml : Ls.size = c.maxLocals) (eT : T.heap = h)
    (wl : (Jvm.Cond.methodLink own index y).before a0 Z = true) (wt : (Jvm.Cond.static y).before a0 Z = true) (wz : (Jvm.Cond.initialized y.cls).before a0 Z = true) (wc : (Jvm.Cond.code y bytes maxL ret).before a0 Z = true)
    (hM : Con l Z y bytes maxL ret [] rm rm.cells rm.slots as' h Q) (argsL : List Value) (has : argsL.toArray = as') {S : List Value} (st : List Value) (hS : S = argsL.reverse ++ st) (hlen : ∀ sig, parseMethodDescriptor y.desc = some sig → argsL.length = sig.parameters.length)
    (hd : decode c.code pc = .ok (.invokestatic index, 3)) (hy : y.cls ≠ "java/lang/invoke/MethodHandle" ∧ y.cls ≠ "java/lang/invoke/VarHandle") (W : Nat) (hf : rm.frames + 1 ≤ R.frames) (hl : W + (maxL + 11) + rm.locals ≤ R.locals) (hW : (st.map fun v => v.category).sum ≤ W) (hc : cells + rm.cells ≤ R.cells) (hs : slots + rm.slots ≤ R.slots)
    (k : ∀ v T' L, Stand p l e R s m args below meth c T' (locs ++ L) (cells + rm.cells) (slots + rm.slots) → Q v T'.heap L → Goes p.tables e below (T'.setTop (mkF m (pc + 3) Ls (v.toList ++ st))) P) :
    Goes p.tables e below (T.setTop (mkF m pc Ls S)) P := by
  subst hS
  obtain ⟨v, vm₁, ⟨T', L', k', n'⟩, -, X', ⟨L, hQ, e1, e2, e3⟩, st'⟩ := Jvm.LawKit.callS X hx (y := y) hown (mvT hZ wl) (mvT hZ wt) (mvT hZ wz) (mvT hZ wc) hy (backOf (W := W) hM hZ wc wz hf hl) (g := mkF m pc Ls (argsL.reverse ++ st)) rfl hml (argsL := argsL) (rest := st) hlen rfl (by show 2 * 0 + _ ≤ _; omega) hd (fun _ _ => ⟨has, eT, hc, hs⟩)
  dsimp only [Pt.U, Pt.locs, Pt.cells, Pt.slots] at X' e1 e2 e3 st' hQ
  subst e1 e2 e3
  exact (k v T' L X' hQ).of st'
/-- a constructor by its contract -/
theorem g_callI (X : Stand p l e R s m args below meth c T locs cells slots) (hx : p.tables.exec = Jvm.exec) (hZ : Z.Warmed39 s.vm) (hown : s.vm.findClass own = some m.cls) (hml : Ls.size = c.maxLocals) (eT : T.heap = h) (hn : y.name = "<init>")
    (wl : (Jvm.Cond.methodLink own index y).before a0 Z = true) (wt : (Jvm.Cond.instanceMethod y).before a0 Z = true) (wz : (Jvm.Cond.initialized y.cls).before a0 Z = true) (wc : (Jvm.Cond.code y bytes maxL none).before a0 Z = true)
    (hM : Con l Z y bytes maxL none [] rm rm.cells rm.slots as' h Q) (a : Addr) (argsL : List Value) (has : (.ref a :: argsL).toArray = as') {S : List Value} (st : List Value) (hS : S = argsL.reverse ++ .ref a :: st) (hlen : ∀ sig, parseMethodDescriptor y.desc = some sig → argsL.length = sig.parameters.length)
    (hd : decode c.code pc = .ok (.invokespecial index, 3)) (hy : y.cls ≠ "java/lang/invoke/MethodHandle" ∧ y.cls ≠ "java/lang/invoke/VarHandle") (W : Nat) (hf : rm.frames + 1 ≤ R.frames) (hl : W + (maxL + 11) + rm.locals ≤ R.locals) (hW : (st.map fun v => v.category).sum ≤ W) (hc : cells + rm.cells ≤ R.cells) (hs : slots + rm.slots ≤ R.slots)
    (k : ∀ v T' L, Stand p l e R s m args below meth c T' (locs ++ L) (cells + rm.cells) (slots + rm.slots) → Q v T'.heap L → Goes p.tables e below (T'.setTop (mkF m (pc + 3) Ls (v.toList ++ st))) P) :
    Goes p.tables e below (T.setTop (mkF m pc Ls S)) P := by
  subst hS
  obtain ⟨v, vm₁, ⟨T', L', k', n'⟩, -, X', ⟨L, hQ, e1, e2, e3⟩, st'⟩ := X.specialBack hx (y := y) hn hown (mvT hZ wl) (mvT hZ wt) (mvT hZ wc) hy (backOf (W := W) hM hZ wc wz hf hl) (g := mkF m pc Ls (argsL.reverse ++ .ref a :: st)) rfl hml (Steps.refl _) (a := a) (argsL := argsL) (rest := st) hlen rfl (by show 2 * 0 + _ ≤ _; omega) hd (fun _ _ => ⟨has, eT, hc, hs⟩)
  dsimp only [Pt.U, Pt.locs, Pt.cells, Pt.slots] at X' e1 e2 e3 st' hQ
  subst e1 e2 e3
  exact (k v T' L X' hQ).tr st'
/-- an instance method by its contract -/
theorem g_callV (X : Stand p l e R s m args below meth c T locs cells slots) (hx : p.tables.exec = Jvm.exec) (hZ : Z.Warmed39 s.vm) (hown : s.vm.findClass own = some m.cls) (hml : Ls.size = c.maxLocals) (eT : T.heap = h) {K : String}
    (wl : (Jvm.Cond.methodLink own index y).before a0 Z = true) (wd : (Jvm.Cond.declares y).before a0 Z = true) (wv : (Jvm.Cond.selects K y y).before a0 Z = true) (wt : (Jvm.Cond.instanceMethod y).before a0 Z = true) (wz : (Jvm.Cond.initialized y.cls).before a0 Z = true) (wc : (Jvm.Cond.code y bytes maxL ret).before a0 Z = true)
    {a : Addr} (E : Exa Z h a K) (hM : Con l Z y bytes maxL ret [] rm rm.cells rm.slots as' h Q) (argsL : List Value) (has : (.ref a :: argsL).toArray = as') {S : List Value} (st : List Value) (hS : S = argsL.reverse ++ .ref a :: st) (hlen : ∀ sig, parseMethodDescriptor y.desc = some sig → argsL.length = sig.parameters.length)
    (hd : decode c.code pc = .ok (.invokevirtual index, 3)) (hy : y.cls ≠ "java/lang/invoke/MethodHandle" ∧ y.cls ≠ "java/lang/invoke/VarHandle") (W : Nat) (hf : rm.frames + 1 ≤ R.frames) (hl : W + (maxL + 11) + rm.locals ≤ R.locals) (hW : (st.map fun v => v.category).sum ≤ W) (hc : cells + rm.cells ≤ R.cells) (hs : slots + rm.slots ≤ R.slots)
    (k : ∀ v T' L, Stand p l e R s m args below meth c T' (locs ++ L) (cells + rm.cells) (slots + rm.slots) → Q v T'.heap L → Goes p.tables e below (T'.setTop (mkF m (pc + 3) Ls (v.toList ++ st))) P) :
    Goes p.tables e below (T.setTop (mkF m pc Ls S)) P := by
  subst hS
  obtain ⟨cq, kq, qa, qb, qc⟩ := isOf hZ eT E
  obtain ⟨v, vm₁, ⟨T', L', k', n'⟩, -, X', ⟨L, hQ, e1, e2, e3⟩, st'⟩ := X.virtualBack hx (y := y) (z := y) hown (mvT hZ wl) (mvT hZ wd) (notFace_of_selects (args := #[]) (mvT hZ wv)) (mvT hZ wv) (mvT hZ wt) hy (backOf (W := W) hM hZ wc wz hf hl) qa qc (g := mkF m pc Ls (argsL.reverse ++ .ref a :: st)) rfl hml (Steps.refl _) (argsL := argsL) (rest := st) hlen rfl (by show 2 * 0 + _ ≤ _; omega) hd (fun _ _ => ⟨has, eT, hc, hs⟩)
  dsimp only [Pt.U, Pt.locs, Pt.cells, Pt.slots] at X' e1 e2 e3 st' hQ
  subst e1 e2 e3
  exact (k v T' L X' hQ).tr st'
/-! objects -/
section Objects
variable {own K O R0 nm d host : String} {index kk : Nat} {a : Addr}
theorem g_new (X : Stand p l e R s m args below meth c T locs cells slots) (hx : p.tables.exec = Jvm.exec) (hZ : Z.Warmed39 s.vm) (hown : s.vm.findClass own = some m.cls) (eT : T.heap = h) (w : (Jvm.Cond.classLink own index K).before a0 Z = true) (wi : (Jvm.Cond.instantiable K kk).before a0 Z = true) (wz : (Jvm.Cond.initialized K).before a0 Z = true)
    (hd : decode c.code pc = .ok (.new index, 3)) (hc : cells + 1 ≤ R.cells) (hl : slots + kk ≤ R.slots)
    (k : ∀ T' h' a, a = h.size → Stand p l e R s m args below meth c T' locs (cells + 1) (slots + kk) → T'.heap = h' → Ext h h' → Exa Z h' a K → (∀ {O nm d : String} {ty : FieldType}, Laid Z a0 K O nm d → parseFieldDescriptor d = some ty → Fld Z h' a O nm d (defaultValue ty)) → Goes p.tables e below (T'.setTop (mkF m (pc + 3) Ls (.ref a :: st))) P) :
    Goes p.tables e below (T.setTop (mkF m pc Ls st)) P := by
  obtain ⟨T', h', X', e', E, A, D, -, st'⟩ := newO X hx hZ hown w wi wz eT (g := mkF m pc Ls st) rfl hd hc hl
  exact (k T' h' _ rfl X' e' E A D).of st'
theorem g_init0 (X : Stand p l e R s m args below meth c T locs cells slots) (hx : p.tables.exec = Jvm.exec) (hZ : Z.Warmed39 s.vm) (hown : s.vm.findClass own = some m.cls) (hml : Ls.size = c.maxLocals) (eT : T.heap = h) (w1 : (Jvm.Cond.methodLink own index Lib.objectInit).before a0 Z = true) (w2 : (Jvm.Cond.instanceMethod Lib.objectInit).before a0 Z = true)
    (w3 : (Jvm.Cond.code Lib.objectInit ⟨#[0xb1]⟩ 1 none).before a0 Z = true) (hd : decode c.code pc = .ok (.invokespecial index, 3)) (W : Nat) (hf : 1 ≤ R.frames) (hW : (st.map fun v => v.category).sum ≤ W) (hl : W + 12 ≤ R.locals)
    (k : ∀ T', Stand p l e R s m args below meth c T' locs cells slots → T'.heap = h → Goes p.tables e below (T'.setTop (mkF m (pc + 3) Ls st)) P) : Goes p.tables e below (T.setTop (mkF m pc Ls (.ref a :: st))) P := by
  obtain ⟨T', X', e', st'⟩ := initO X hx hZ hown w1 w2 w3 eT (g := mkF m pc Ls (.ref a :: st)) rfl hml rfl hd hf (W := W) (by show 2 * 0 + _ ≤ _; omega) hl
  exact (k T' X' e').of st'
theorem g_getF (X : Stand p l e R s m args below meth c T locs cells slots) (hx : p.tables.exec = Jvm.exec) (hZ : Z.Warmed39 s.vm) (hown : s.vm.findClass own = some m.cls) (eT : T.heap = h) (w : (Jvm.Cond.fieldLink own index R0 nm d).before a0 Z = true ∨ (Jvm.Cond.fieldLinkNest own index R0 nm d host).before a0 Z = true) (via : Via Z R0 O nm d)
    {v : Value} (F : Fld Z h a O nm d v) (hd : decode c.code pc = .ok (.getfield index, 3))
    (k : ∀ T', Stand p l e R s m args below meth c T' locs cells slots → T'.heap = h → Goes p.tables e below (T'.setTop (mkF m (pc + 3) Ls (v :: st))) P) : Goes p.tables e below (T.setTop (mkF m pc Ls (.ref a :: st))) P := by
  obtain ⟨T', X', e', st'⟩ := getF X hx hZ hown w via eT F (g := mkF m pc Ls (.ref a :: st)) rfl rfl hd
  exact (k T' X' e').of st'
theorem g_getS (X : Stand p l e R s m args below meth c T locs cells slots) (hx : p.tables.exec = Jvm.exec) (hZ : Z.Warmed39 s.vm) (hown : s.vm.findClass own = some m.cls) (eT : T.heap = h) (w : (Jvm.Cond.fieldLink own index O nm d).before a0 Z = true ∨ (Jvm.Cond.fieldLinkNest own index O nm d host).before a0 Z = true)
    {v : Value} (F : Sta Z h O nm d v) (hd : decode c.code pc = .ok (.getstatic index, 3))
    (k : ∀ T', Stand p l e R s m args below meth c T' locs cells slots → T'.heap = h → Goes p.tables e below (T'.setTop (mkF m (pc + 3) Ls (v :: st))) P) : Goes p.tables e below (T.setTop (mkF m pc Ls st)) P := by
  obtain ⟨T', X', e', st'⟩ := getS2 X hx hZ hown w Via.refl eT F (g := mkF m pc Ls st) rfl hd
  exact (k T' X' e').of st'
/-- a field's store; v': what the field then holds -/
theorem g_putF (X : Stand p l e R s m args below meth c T locs cells slots) (hx : p.tables.exec = Jvm.exec) (hZ : Z.Warmed39 s.vm) (hown : s.vm.findClass own = some m.cls) (eT : T.heap = h) (w : (Jvm.Cond.fieldLink own index R0 nm d).before a0 Z = true) (via : Via Z R0 O nm d)
    {v v' old : Value} (F : Fld Z h a O nm d old) (E : Exa Z h a K) (L : (Jvm.Cond.lays K O nm d).before a0 Z = true ∨ ((Jvm.Cond.laysFinal K O nm d).before a0 Z = true ∧ own = O ∧ meth.name = "<init>")) (wi : (Jvm.Cond.instantiable K kk).before a0 Z = true) {ty : FieldType} (hty : parseFieldDescriptor d = some ty) (hn : narrow ty v = v') (hf : fits ty v' = true)
    (hd : decode c.code pc = .ok (.putfield index, 3))
    (k : ∀ T' h', Stand p l e R s m args below meth c T' (locs ++ [⟨a, Jvm.RoadKit.slotOf Z O nm d⟩]) cells slots → T'.heap = h' → Wr h h' a (Jvm.RoadKit.slotOf Z O nm d) v' → Goes p.tables e below (T'.setTop (mkF m (pc + 3) Ls st)) P) : Goes p.tables e below (T.setTop (mkF m pc Ls (v :: .ref a :: st))) P := by
  obtain ⟨T', h', X', e', W', st'⟩ := putFN X hx hZ hown w via eT F E L wi hty hn hf (g := mkF m pc Ls (v :: .ref a :: st)) rfl rfl hd
  exact (k T' h' X' e' W').of st'
end Objects
/-! arrays: the components as a list -/
def Ar (Z : State) (h : Heap) (a : Addr) (ty : FieldType) (vs : List Value) : Prop := ∃ c : Cell, Arr Z h a c ty ∧ c.slots.toList = vs ∧ vs.length < 2 ^ 31 ∧ ∀ v ∈ vs, fits ty v = true
section Arrays
variable {a b : Addr} {ty : FieldType} {vs : List Value} {h' : Heap} {ws : List Addr}
theorem Ar.lt (F : Ar Z h a ty vs) : a < h.size := by obtain ⟨c, A, -⟩ := F; exact A.lt
theorem Ar.ext (F : Ar Z h a ty vs) (E : Ext h h') : Ar Z h' a ty vs := by obtain ⟨c, A, r⟩ := F; exact ⟨c, A.ext E, r⟩
theorem Ar.other (F : Ar Z h b ty vs) {sl : Nat} {v : Value} (W : Wr h h' a sl v) (q : b ≠ a) : Ar Z h' b ty vs := by obtain ⟨c, A, r⟩ := F; exact ⟨c, A.other W q, r⟩
theorem Ar.keep (F : Ar Z h a ty vs) (K : Keep h h' ws) (q : a ∉ ws) : Ar Z h' a ty vs := by obtain ⟨c, A, r⟩ := F; exact ⟨c, ⟨K.2.1 a c A.1 q, A.2⟩, r⟩
theorem own_nat {j : Int32} {i : Nat} (hj : j.toInt = i) : j.toNatClampNeg = i ∧ ¬ j < 0 := by
  have q : ¬ j < 0 := fun q => by have := Int32.lt_iff_toInt_lt.mp q; rw [show (0 : Int32).toInt = 0 from rfl] at this; omega
  have e := nat_of q
  exact ⟨by omega, q⟩
theorem own_in {j : Int32} {i : Nat} (hj : j.toInt = i) {c : Cell} (hs : c.slots.toList = vs) (hi : i < vs.length) : ¬ (j < 0 ∨ c.slots.size ≤ j.toNatClampNeg) := by
  obtain ⟨e, q⟩ := own_nat hj
  rintro (r | r)
  · exact q r
  · rw [← Array.length_toList, hs] at r; omega
theorem own_at {j : Int32} {i : Nat} (hj : j.toInt = i) {c : Cell} (hs : c.slots.toList = vs) {v : Value} (hv : vs[i]? = some v) : c.slots[j.toNatClampNeg]? = some v := by
  rw [(own_nat hj).1, ← Array.getElem?_toList, hs]; exact hv
theorem own_lt {i : Nat} {v : Value} (hv : vs[i]? = some v) : i < vs.length := (List.getElem?_eq_some_iff.mp hv).1
theorem Ar.set {j : Nat} {v : Value} (F : Ar Z h a ty vs) (W : Wr h h' a j v) (hf : fits ty v = true) : Ar Z h' a ty (vs.set j v) := by
  obtain ⟨c, A, hs, hl, hv⟩ := F
  refine ⟨c.setSlot j v, A.same W, by rw [← hs]; simp [Cell.setSlot], by rw [List.length_set]; exact hl, fun w hw => ?_⟩
  rcases List.mem_or_eq_of_mem_set hw with q | q
  · exact hv w q
  · rw [q]; exact hf
theorem g_iaload (X : Stand p l e R s m args below meth c T locs cells slots) (hx : p.tables.exec = Jvm.exec) (hZ : Z.Warmed39 s.vm) (eT : T.heap = h) (A : Ar Z h a .int vs) {j : Int32} {i : Nat} {v : Value} (hj : j.toInt = i) (hv : vs[i]? = some v) (hd : decode c.code pc = .ok (.iaload, 1))
    (hr : Goes p.tables e below (T.setTop (mkF m (pc + 1) Ls (v :: st))) P) : Goes p.tables e below (T.setTop (mkF m pc Ls (.int j :: .ref a :: st))) P := by
  obtain ⟨cl, A, hs, hl, -⟩ := A
  exact hr.of fun _ k => X.iaload hx (by rw [eT]; exact A.1) (State.isArrayOf_alike hZ.alike A.2.1) A.2.2 (own_in hj hs (own_lt hv)) (own_at hj hs hv) (g := mkF m pc Ls (.int j :: .ref a :: st)) rfl rfl hd _ k
theorem g_laload (X : Stand p l e R s m args below meth c T locs cells slots) (hx : p.tables.exec = Jvm.exec) (hZ : Z.Warmed39 s.vm) (eT : T.heap = h) (A : Ar Z h a .long vs) {j : Int32} {i : Nat} {v : Value} (hj : j.toInt = i) (hv : vs[i]? = some v) (hd : decode c.code pc = .ok (.laload, 1))
    (hr : Goes p.tables e below (T.setTop (mkF m (pc + 1) Ls (v :: st))) P) : Goes p.tables e below (T.setTop (mkF m pc Ls (.int j :: .ref a :: st))) P := by
  obtain ⟨cl, A, hs, hl, -⟩ := A
  exact hr.of fun _ k => X.laload hx (by rw [eT]; exact A.1) (State.isArrayOf_alike hZ.alike A.2.1) A.2.2 (own_in hj hs (own_lt hv)) (own_at hj hs hv) (g := mkF m pc Ls (.int j :: .ref a :: st)) rfl rfl hd _ k
theorem g_caload (X : Stand p l e R s m args below meth c T locs cells slots) (hx : p.tables.exec = Jvm.exec) (hZ : Z.Warmed39 s.vm) (eT : T.heap = h) (A : Ar Z h a .char vs) {j : Int32} {i : Nat} {v : Value} (hj : j.toInt = i) (hv : vs[i]? = some v) (hd : decode c.code pc = .ok (.caload, 1))
    (hr : Goes p.tables e below (T.setTop (mkF m (pc + 1) Ls (v :: st))) P) : Goes p.tables e below (T.setTop (mkF m pc Ls (.int j :: .ref a :: st))) P := by
  obtain ⟨cl, A, hs, hl, -⟩ := A
  exact hr.of fun _ k => X.caload hx (by rw [eT]; exact A.1) (State.isArrayOf_alike hZ.alike A.2.1) A.2.2 (own_in hj hs (own_lt hv)) (own_at hj hs hv) (g := mkF m pc Ls (.int j :: .ref a :: st)) rfl rfl hd _ k
theorem g_saload (X : Stand p l e R s m args below meth c T locs cells slots) (hx : p.tables.exec = Jvm.exec) (hZ : Z.Warmed39 s.vm) (eT : T.heap = h) (A : Ar Z h a .short vs) {j : Int32} {i : Nat} {v : Value} (hj : j.toInt = i) (hv : vs[i]? = some v) (hd : decode c.code pc = .ok (.saload, 1))
    (hr : Goes p.tables e below (T.setTop (mkF m (pc + 1) Ls (v :: st))) P) : Goes p.tables e below (T.setTop (mkF m pc Ls (.int j :: .ref a :: st))) P := by
  obtain ⟨cl, A, hs, hl, -⟩ := A
  exact hr.of fun _ k => X.saload hx (by rw [eT]; exact A.1) (State.isArrayOf_alike hZ.alike A.2.1) A.2.2 (own_in hj hs (own_lt hv)) (own_at hj hs hv) (g := mkF m pc Ls (.int j :: .ref a :: st)) rfl rfl hd _ k
theorem g_baload (X : Stand p l e R s m args below meth c T locs cells slots) (hx : p.tables.exec = Jvm.exec) (hZ : Z.Warmed39 s.vm) (eT : T.heap = h) (A : Ar Z h a .byte vs) {j : Int32} {i : Nat} {v : Value} (hj : j.toInt = i) (hv : vs[i]? = some v) (hd : decode c.code pc = .ok (.baload, 1))
    (hr : Goes p.tables e below (T.setTop (mkF m (pc + 1) Ls (v :: st))) P) : Goes p.tables e below (T.setTop (mkF m pc Ls (.int j :: .ref a :: st))) P := by
  obtain ⟨cl, A, hs, hl, -⟩ := A
  exact hr.of fun _ k => X.baloadBytes hx (by rw [eT]; exact A.1) (State.isArrayOf_alike hZ.alike A.2.1) A.2.2 (own_in hj hs (own_lt hv)) (own_at hj hs hv) (g := mkF m pc Ls (.int j :: .ref a :: st)) rfl rfl hd _ k
theorem g_zaload (X : Stand p l e R s m args below meth c T locs cells slots) (hx : p.tables.exec = Jvm.exec) (hZ : Z.Warmed39 s.vm) (eT : T.heap = h) (A : Ar Z h a .boolean vs) {j : Int32} {i : Nat} {v : Value} (hj : j.toInt = i) (hv : vs[i]? = some v) (hd : decode c.code pc = .ok (.baload, 1))
    (hr : Goes p.tables e below (T.setTop (mkF m (pc + 1) Ls (v :: st))) P) : Goes p.tables e below (T.setTop (mkF m pc Ls (.int j :: .ref a :: st))) P := by
  obtain ⟨cl, A, hs, hl, -⟩ := A
  exact hr.of fun _ k => X.baloadBooleans hx (by rw [eT]; exact A.1) (State.isArrayOf_alike hZ.alike A.2.1) A.2.2 (own_in hj hs (own_lt hv)) (own_at hj hs hv) (g := mkF m pc Ls (.int j :: .ref a :: st)) rfl rfl hd _ k
theorem g_aaload (X : Stand p l e R s m args below meth c T locs cells slots) (hx : p.tables.exec = Jvm.exec) (hZ : Z.Warmed39 s.vm) (eT : T.heap = h) (A : Ar Z h a ty vs) (hty : ty.isReference = true) {j : Int32} {i : Nat} {v : Value} (hj : j.toInt = i) (hv : vs[i]? = some v) (hd : decode c.code pc = .ok (.aaload, 1))
    (hr : Goes p.tables e below (T.setTop (mkF m (pc + 1) Ls (v :: st))) P) : Goes p.tables e below (T.setTop (mkF m pc Ls (.int j :: .ref a :: st))) P := by
  obtain ⟨cl, A, hs, hl, -⟩ := A
  exact hr.of fun _ k => X.aaload hx (by rw [eT]; exact A.1) (State.isArrayOf_alike hZ.alike A.2.1) hty A.2.2 (own_in hj hs (own_lt hv)) (own_at hj hs hv) (g := mkF m pc Ls (.int j :: .ref a :: st)) rfl rfl hd _ k
theorem g_alen (X : Stand p l e R s m args below meth c T locs cells slots) (hx : p.tables.exec = Jvm.exec) (hZ : Z.Warmed39 s.vm) (eT : T.heap = h) (A : Ar Z h a ty vs) (z : Int32) (hz : z.toInt = vs.length) (hd : decode c.code pc = .ok (.arraylength, 1))
    (hr : Goes p.tables e below (T.setTop (mkF m (pc + 1) Ls (.int z :: st))) P) : Goes p.tables e below (T.setTop (mkF m pc Ls (.ref a :: st))) P := by
  obtain ⟨cl, A, hs, hl, -⟩ := A
  have q : cl.slots.size.toInt32 = z := by
    have e1 : cl.slots.size = vs.length := by rw [← hs, Array.length_toList]
    exact Int32.toInt_inj.mp (by rw [len_toInt (by rw [e1]; exact hl), hz, e1])
  subst q
  exact hr.of fun _ k => X.arraylength hx (cell := cl) (by rw [eT]; exact A.1) (State.isArrayOf_alike hZ.alike A.2.1) (g := mkF m pc Ls (.ref a :: st)) rfl (rest := st) rfl hd _ k
theorem g_newarr (X : Stand p l e R s m args below meth c T locs cells slots) (hx : p.tables.exec = Jvm.exec) (hZ : Z.Warmed39 s.vm) (eT : T.heap = h) {aty : ArrayType} (w : (Jvm.Cond.arrayClass (newarray.typeOf aty)).before a0 Z = true) (hd : decode c.code pc = .ok (.newarray aty, 2)) {z : Int32} {n : Nat} (hz : z.toInt = n) (cap : Nat) (hcap : n ≤ cap) (hb : cap * 8 ≤ 536870912) (hc : cells + 1 ≤ R.cells) (hl : slots + cap ≤ R.slots) {ad : String} (had : "[" ++ (newarray.typeOf aty).toString = ad) (hfit : fits (newarray.typeOf aty) (defaultValue (newarray.typeOf aty)) = true)
    (k : ∀ T' h' a, a = h.size → Stand p l e R s m args below meth c T' locs (cells + 1) (slots + cap) → T'.heap = h' → Ext h h' → Ar Z h' a (newarray.typeOf aty) (List.replicate n (defaultValue (newarray.typeOf aty))) → Exa Z h' a ad → Goes p.tables e below (T'.setTop (mkF m (pc + 2) Ls (.ref a :: st))) P) :
    Goes p.tables e below (T.setTop (mkF m pc Ls (.int z :: st))) P := by
  obtain ⟨e1, q⟩ := own_nat hz
  obtain ⟨T', h', cA, X', e', E, A, F, st'⟩ := newPE X hx hZ w eT (g := mkF m pc Ls (.int z :: st)) rfl hd rfl q (cap := cap) (by rw [e1]; exact hcap) hb hc hl had
  refine (k T' h' _ rfl X' e' E ⟨_, A, ?_, ?_, ?_⟩ F).of st'
  · simp [newA, e1]
  · rw [List.length_replicate]; have := rng32 z; omega
  · intro v hv; rw [(List.mem_replicate.mp hv).2]; exact hfit
theorem g_iastore (X : Stand p l e R s m args below meth c T locs cells slots) (hx : p.tables.exec = Jvm.exec) (hZ : Z.Warmed39 s.vm) (eT : T.heap = h) (A : Ar Z h a .int vs) {j : Int32} {x : Int32} (i : Nat) (hj : j.toInt = i) (hi : i < vs.length) (hd : decode c.code pc = .ok (.iastore, 1))
    (k : ∀ T' h', Stand p l e R s m args below meth c T' (locs ++ [⟨a, i⟩]) cells slots → T'.heap = h' → Wr h h' a i (.int x) → Ar Z h' a .int (vs.set i (.int x)) → Goes p.tables e below (T'.setTop (mkF m (pc + 1) Ls st)) P) : Goes p.tables e below (T.setTop (mkF m pc Ls (.int x :: .int j :: .ref a :: st))) P := by
  have A' := A
  obtain ⟨cl, A, hs, hl, -⟩ := A
  obtain ⟨T', h', X', e', W', st'⟩ := stI X hx hZ eT A (own_in hj hs hi) (g := mkF m pc Ls (.int x :: .int j :: .ref a :: st)) rfl rfl hd
  rw [(own_nat hj).1] at X' W'
  exact (k T' h' X' e' W' (A'.set W' rfl)).of st'
theorem g_lastore (X : Stand p l e R s m args below meth c T locs cells slots) (hx : p.tables.exec = Jvm.exec) (hZ : Z.Warmed39 s.vm) (eT : T.heap = h) (A : Ar Z h a .long vs) {j : Int32} {x : Int64} (i : Nat) (hj : j.toInt = i) (hi : i < vs.length) (hd : decode c.code pc = .ok (.lastore, 1))
    (k : ∀ T' h', Stand p l e R s m args below meth c T' (locs ++ [⟨a, i⟩]) cells slots → T'.heap = h' → Wr h h' a i (.long x) → Ar Z h' a .long (vs.set i (.long x)) → Goes p.tables e below (T'.setTop (mkF m (pc + 1) Ls st)) P) : Goes p.tables e below (T.setTop (mkF m pc Ls (.long x :: .int j :: .ref a :: st))) P := by
  have A' := A
  obtain ⟨cl, A, hs, hl, -⟩ := A
  obtain ⟨T', h', X', e', W', st'⟩ := stJ X hx hZ eT A (own_in hj hs hi) (g := mkF m pc Ls (.long x :: .int j :: .ref a :: st)) rfl rfl hd
  rw [(own_nat hj).1] at X' W'
  exact (k T' h' X' e' W' (A'.set W' rfl)).of st'
theorem g_castore (X : Stand p l e R s m args below meth c T locs cells slots) (hx : p.tables.exec = Jvm.exec) (hZ : Z.Warmed39 s.vm) (eT : T.heap = h) (A : Ar Z h a .char vs) {j x : Int32} (i : Nat) (hj : j.toInt = i) (hi : i < vs.length) (x' : Int32) (hn : nar .char x = x') (hd : decode c.code pc = .ok (.castore, 1))
    (k : ∀ T' h', Stand p l e R s m args below meth c T' (locs ++ [⟨a, i⟩]) cells slots → T'.heap = h' → Wr h h' a i (.int x') → Ar Z h' a .char (vs.set i (.int x')) → Goes p.tables e below (T'.setTop (mkF m (pc + 1) Ls st)) P) : Goes p.tables e below (T.setTop (mkF m pc Ls (.int x :: .int j :: .ref a :: st))) P := by
  have A' := A
  obtain ⟨cl, A, hs, hl, -⟩ := A
  obtain ⟨T', h', X', e', W', st'⟩ := stC X hx hZ eT A (own_in hj hs hi) (g := mkF m pc Ls (.int x :: .int j :: .ref a :: st)) rfl rfl hd
  rw [(own_nat hj).1, hn] at W'
  rw [(own_nat hj).1] at X'
  exact (k T' h' X' e' W' (A'.set W' (by rw [← hn]; exact fits_nar_char x))).of st'
theorem g_bastore (X : Stand p l e R s m args below meth c T locs cells slots) (hx : p.tables.exec = Jvm.exec) (hZ : Z.Warmed39 s.vm) (eT : T.heap = h) (A : Ar Z h a .byte vs) {j x : Int32} (i : Nat) (hj : j.toInt = i) (hi : i < vs.length) (x' : Int32) (hn : nar .byte x = x') (hd : decode c.code pc = .ok (.bastore, 1))
    (k : ∀ T' h', Stand p l e R s m args below meth c T' (locs ++ [⟨a, i⟩]) cells slots → T'.heap = h' → Wr h h' a i (.int x') → Ar Z h' a .byte (vs.set i (.int x')) → Goes p.tables e below (T'.setTop (mkF m (pc + 1) Ls st)) P) : Goes p.tables e below (T.setTop (mkF m pc Ls (.int x :: .int j :: .ref a :: st))) P := by
  have A' := A
  obtain ⟨cl, A, hs, hl, -⟩ := A
  obtain ⟨T', h', X', e', W', st'⟩ := stB X hx hZ eT A (own_in hj hs hi) (g := mkF m pc Ls (.int x :: .int j :: .ref a :: st)) rfl rfl hd
  rw [(own_nat hj).1, hn] at W'
  rw [(own_nat hj).1] at X'
  exact (k T' h' X' e' W' (A'.set W' (by rw [← hn]; exact fits_nar_byte x))).of st'
theorem g_zastore (X : Stand p l e R s m args below meth c T locs cells slots) (hx : p.tables.exec = Jvm.exec) (hZ : Z.Warmed39 s.vm) (eT : T.heap = h) (A : Ar Z h a .boolean vs) {j x : Int32} (i : Nat) (hj : j.toInt = i) (hi : i < vs.length) (x' : Int32) (hn : nar .boolean x = x') (hd : decode c.code pc = .ok (.bastore, 1))
    (k : ∀ T' h', Stand p l e R s m args below meth c T' (locs ++ [⟨a, i⟩]) cells slots → T'.heap = h' → Wr h h' a i (.int x') → Ar Z h' a .boolean (vs.set i (.int x')) → Goes p.tables e below (T'.setTop (mkF m (pc + 1) Ls st)) P) : Goes p.tables e below (T.setTop (mkF m pc Ls (.int x :: .int j :: .ref a :: st))) P := by
  have A' := A
  obtain ⟨cl, A, hs, hl, -⟩ := A
  obtain ⟨T', h', X', e', W', st'⟩ := stZ X hx hZ eT A (own_in hj hs hi) (g := mkF m pc Ls (.int x :: .int j :: .ref a :: st)) rfl rfl hd
  rw [(own_nat hj).1, hn] at W'
  rw [(own_nat hj).1] at X'
  exact (k T' h' X' e' W' (A'.set W' (by rw [← hn]; exact fits_nar_bool x))).of st'
theorem g_clone (X : Stand p l e R s m args below meth c T locs cells slots) (hx : p.tables.exec = Jvm.exec) (hZ : Z.Warmed39 s.vm) {own ad : String} {index : Nat} (hown : s.vm.findClass own = some m.cls) (hml : Ls.size = c.maxLocals) (eT : T.heap = h)
    (w1 : (Jvm.Cond.methodLink own index ⟨ad, "clone", "()Ljava/lang/Object;"⟩).before a0 Z = true) (w2 : (Jvm.Cond.sameMethod ad "java/lang/Object" "clone" "()Ljava/lang/Object;").before a0 Z = true) (w3 : (Jvm.Cond.native ⟨"java/lang/Object", "clone", "()Ljava/lang/Object;"⟩).before a0 Z = true)
    (w4 : (Jvm.Cond.instanceMethod ⟨"java/lang/Object", "clone", "()Ljava/lang/Object;"⟩).before a0 Z = true) (w5 : (Jvm.Cond.selects ad ⟨ad, "clone", "()Ljava/lang/Object;"⟩ ⟨"java/lang/Object", "clone", "()Ljava/lang/Object;"⟩).before a0 Z = true) (w6 : (Jvm.Cond.castable ad "java/lang/Cloneable").before a0 Z = true)
    (A : Ar Z h a ty vs) (E : Exa Z h a ad) (hd : decode c.code pc = .ok (.invokevirtual index, 3)) (W cap : Nat) (hf : 1 ≤ R.frames) (hW : (st.map fun v => v.category).sum ≤ W) (hl : W + 14 ≤ R.locals) (hcap : vs.length ≤ cap) (hc : cells + 1 ≤ R.cells) (hsl : slots + cap ≤ R.slots)
    (k : ∀ T' h' b, b = h.size → Stand p l e R s m args below meth c T' locs (cells + 1) (slots + cap) → T'.heap = h' → Ext h h' → Ar Z h' b ty vs → Exa Z h' b ad → Goes p.tables e below (T'.setTop (mkF m (pc + 3) Ls (.ref b :: st))) P) :
    Goes p.tables e below (T.setTop (mkF m pc Ls (.ref a :: st))) P := by
  obtain ⟨cl, A, hs, hln, hft⟩ := A
  have hsz : cl.slots.size = vs.length := by rw [← hs, Array.length_toList]
  obtain ⟨T', h', X', e', Ex, A', E', st'⟩ := cloneA X hx hZ hown w1 w2 w3 w4 w5 w6 eT A E (fitC_of A (fun i hi v hv => hft v (by rw [← hs]; exact Array.mem_toList_iff.mpr (Array.mem_of_getElem? hv)))) (g := mkF m pc Ls (.ref a :: st)) rfl hml rfl hd hf (W := W) (cap := cap) (by show 2 * 0 + _ ≤ _; omega) hl (by rw [hsz]; exact hcap) hc hsl
  exact (k T' h' _ rfl X' e' Ex ⟨_, A', hs, hln, hft⟩ E').of st'
theorem g_cast (X : Stand p l e R s m args below meth c T locs cells slots) (hx : p.tables.exec = Jvm.exec) (hZ : Z.Warmed39 s.vm) {own K : String} {index : Nat} (hown : s.vm.findClass own = some m.cls) (eT : T.heap = h) (w : (Jvm.Cond.classLink own index K).before a0 Z = true) (F : Ins Z h a K true) (hd : decode c.code pc = .ok (.checkcast index, 3))
    (k : ∀ T', Stand p l e R s m args below meth c T' locs cells slots → T'.heap = h → Goes p.tables e below (T'.setTop (mkF m (pc + 3) Ls (.ref a :: st))) P) : Goes p.tables e below (T.setTop (mkF m pc Ls (.ref a :: st))) P := by
  obtain ⟨T', X', e', st'⟩ := castY X hx hZ hown w eT F (g := mkF m pc Ls (.ref a :: st)) rfl rfl hd
  exact (k T' X' e').of st'
theorem Ar.toV (F : Ar Z h a ty vs) (d : Value) : ∃ k, Arv Z h a k ty (Int32.ofNat vs.length) vs d := by
  obtain ⟨cl, A, hs, hl, hf⟩ := F
  have e1 : cl.slots.size = vs.length := by rw [← hs, Array.length_toList]
  obtain ⟨e2, q⟩ := own_nat (j := Int32.ofNat vs.length) (i := vs.length) (Int32.toInt_ofNat_of_lt (by omega))
  refine ⟨cl.cls, cl, A, rfl, by rw [e2, e1], q, fun i hi => ?_, fun i hi => ?_⟩
  · rw [← Array.getElem?_toList, hs, List.getD_eq_getElem?_getD, List.getElem?_eq_getElem (by omega)]; rfl
  · rw [List.getD_eq_getElem?_getD, List.getElem?_eq_getElem (by omega)]; exact hf _ (List.getElem_mem _)
theorem Ar.ofV {k : ClassId} {z : Int32} {d : Value} (F : Arv Z h a k ty z vs d) (hl : vs.length = z.toNatClampNeg) (hb : vs.length < 2 ^ 31) : Ar Z h a ty vs := by
  obtain ⟨cl, A, -, hs, -, H, G⟩ := F
  have e : cl.slots.toList = vs := by
    apply List.ext_getElem?
    intro i
    by_cases hi : i < cl.slots.size
    · rw [Array.getElem?_toList, H i hi, List.getD_eq_getElem?_getD, List.getElem?_eq_getElem (by omega)]; rfl
    · rw [List.getElem?_eq_none (by rw [Array.length_toList]; omega), List.getElem?_eq_none (by omega)]
  refine ⟨cl, A, e, hb, fun v hv => ?_⟩
  obtain ⟨i, hi, rfl⟩ := List.getElem_of_mem hv
  have q := G i (by omega)
  rwa [List.getD_eq_getElem?_getD, List.getElem?_eq_getElem hi] at q
theorem own_rangeTake (vs : List Value) (d : Value) (n : Nat) (hn : n ≤ vs.length) : (List.range n).map (fun i => vs.getD (0 + i) d) = vs.take n := by
  apply List.ext_getElem
  · simp; omega
  · intro i h1 h2
    simp at h1 h2
    simp [List.getElem?_eq_getElem (show i < vs.length by omega)]
theorem g_acopy (X : Stand p l e R s m args below meth c T locs cells slots) (hx : p.tables.exec = Jvm.exec) (hZ : Z.Warmed39 s.vm) {own : String} {index : Nat} (hown : s.vm.findClass own = some m.cls) (hml : Ls.size = c.maxLocals) (eT : T.heap = h)
    (w1 : (Jvm.Cond.methodLink own index Jvm.Stand.acN).before a0 Z = true) (w2 : (Jvm.Cond.native Jvm.Stand.acN).before a0 Z = true) (w3 : (Jvm.Cond.static Jvm.Stand.acN).before a0 Z = true) (w4 : (Jvm.Cond.initialized "java/lang/System").before a0 Z = true)
    {vd : List Value} (A : Ar Z h a ty vs) (B : Ar Z h b ty vd) (hp : refKind ty = false) {nn : Int32} {n : Nat} (hn : nn.toInt = n) (h1 : n ≤ vs.length) (h2 : n ≤ vd.length) {n0 : Nat} (N : Fr n0 locs) (ge : n0 ≤ b) (hd : decode c.code pc = .ok (.invokestatic index, 3))
    (W : Nat) (hf : 1 ≤ R.frames) (hW : (st.map fun v => v.category).sum ≤ W) (hlo : W + (nativeFrameWords "java/lang/System" "arraycopy" 5 + 11) ≤ R.locals)
    (k : ∀ T' h' L, Stand p l e R s m args below meth c T' L cells slots → T'.heap = h' → Fr n0 L → Keep h h' [b] → Ar Z h' b ty (vs.take n ++ vd.drop n) → Goes p.tables e below (T'.setTop (mkF m (pc + 3) Ls st)) P) :
    Goes p.tables e below (T.setTop (mkF m pc Ls (.int nn :: .int 0 :: .ref b :: .int 0 :: .ref a :: st))) P := by
  obtain ⟨k1, A1⟩ := A.toV .null
  obtain ⟨k2, B1⟩ := B.toV .null
  obtain ⟨en, qn⟩ := own_nat hn
  have lv : vs.length < 2 ^ 31 := by obtain ⟨_, _, _, q, _⟩ := A; exact q
  have ld : vd.length < 2 ^ 31 := by obtain ⟨_, _, _, q, _⟩ := B; exact q
  have ev : (Int32.ofNat vs.length).toNatClampNeg = vs.length := (own_nat (Int32.toInt_ofNat_of_lt (by omega))).1
  have ed : (Int32.ofNat vd.length).toNatClampNeg = vd.length := (own_nat (Int32.toInt_ofNat_of_lt (by omega))).1
  have e0 : (0 : Int32).toNatClampNeg = 0 := rfl
  obtain ⟨T', h', L, X', e', N', K', B', st'⟩ := cpA X hx hZ hown w1 w2 w3 w4 eT A1 B1 (sp := 0) (dp := 0) (nn := nn) (Or.inl ⟨rfl, hp⟩) (by decide) (by decide) qn (by rw [e0, en, ev]; omega) (by rw [e0, en, ed]; omega) rfl (by rw [e0, en]; omega) N ge (g := mkF m pc Ls (.int nn :: .int 0 :: .ref b :: .int 0 :: .ref a :: st)) rfl hml rfl hd hf (W := W) (by show 2 * 0 + _ ≤ _; omega) hlo
  rw [e0, en, own_rangeTake vs _ n h1, List.take_zero, List.nil_append, Nat.zero_add] at B'
  have hlen : (vs.take n ++ vd.drop n).length = vd.length := by rw [List.length_append, List.length_take, List.length_drop]; omega
  exact (k T' h' L X' e' N' K' (Ar.ofV B' (by rw [hlen, ed]) (by rw [hlen]; exact ld))).of st'
end Arrays
theorem own_nst {a : Addr} {K : String} (E : Exa Z h a K) : ∀ c : Cell, h[a]? = some c → c.vm.isStatics = false := fun c hc => by
  obtain ⟨cell, k, h1, -, -, h4, -⟩ := E
  cases h1.symm.trans hc
  exact h4
theorem own_stakeep {h' : Heap} {K n d : String} {v : Value} {ws : List Addr} (F : Sta Z h K n d v) (hK : Keep h h' ws) (q : ∀ x ∈ ws, ∀ c : Cell, h[x]? = some c → c.vm.isStatics = false) : Sta Z h' K n d v := by
  obtain ⟨cf, i, k, f, sa, cell, h1, h2, h3, h4, h5, h6, h7⟩ := F
  exact ⟨cf, i, k, f, sa, cell, h1, h2, h3, h4, hK.2.1 sa cell h5 (fun hm => by rw [q sa hm cell h5] at h6; cases h6), h6, h7⟩
/-! words on statics -/
section Words
variable {first : State} {o : Option Outcome} {idx : List Nat} {ta tb : Term}
theorem own_eqR {y : Addr} (h : (Jvm.Cond.eq ta tb).value args first o s idx = some true) (hb : tb.eval args first o idx s = some (.ref y)) : ta.eval args first o idx s = some (.ref y) := by
  obtain ⟨x, z, ha, hb', k1, k2⟩ := cmp_v (Or.inl h)
  cases hb.symm.trans hb'
  have e := gotT (eq_R ha hb k2.2 rfl) h
  rw [ha, e]
theorem own_eqI {y : Int32} (h : (Jvm.Cond.eq ta tb).value args first o s idx = some true) (hb : tb.eval args first o idx s = some (.int y)) : ta.eval args first o idx s = some (.int y) := by
  obtain ⟨x, z, ha, hb', k1, k2⟩ := cmp_v (Or.inl h)
  cases hb.symm.trans hb'
  obtain ⟨w, rfl⟩ := k2
  simp [Jvm.Cond.value, ha, hb] at h
  rw [ha, h]
end Words
end Walk
end Jvm.OwnW
namespace Jvm.OwnW
open Jvm Jvm.ClassFile Sem Op Lib Jvm.Free Jvm.Stand Jvm.LawKit Jvm.RoadKit Bundle
section Held
variable {p : Program} {l : Launch} {e : Env} {R : Room} {s : State} {m : MethodId} {args : Array Value} {below : List Frame} {meth : Method} {c : Code} {T : State} {locs : List Loc} {cells slots : Nat} {Z : State} {a0 : Array Value} {h : Heap}
variable {pc : Nat} {Ls : Array Slot} {st : List Value} {P : State → Outcome → Prop} {EL : List (String × Nat)} {vm0 : Vm} {k0 : Nat} {C N : Nat} {Q : Option Value → Heap → List Loc → Prop}
/-- what a body owes at its end that may have loaded String constants -/
abbrev FinH (Z : State) (EL : List (String × Nat)) (s : State) (C N : Nat) (Q : Option Value → Heap → List Loc → Prop) : State → Outcome → Prop := fun s₂ o => ∃ v L, o = .returned v ∧ Q v s₂.heap L ∧ CHr Z EL s.vm s.heap s₂.vm s₂.heap ∧ ReturnedEndW s o s₂ L C N
/-- the contract of such a body -/
def ConH (l : Launch) (Z : State) (EL : List (String × Nat)) (y : MethodName) (bytes : ByteArray) (maxL : Nat) (ret : Option FieldType) (ws : List Jvm.Cond) (rm : Room) (C N : Nat) (as' : Array Value) (h : Heap) (Q : Option Value → Heap → List Loc → Prop) : Prop :=
  MetFree l y (head1 (Jvm.Cond.code y bytes maxL ret :: ws) rm) (fun a U => a = as' ∧ Z.Warmed39 U.vm ∧ U.heap = h ∧ CHv Z EL U.vm h) (fun _ _ _ _ _ => True) (fun _ U o U' => ∃ v L, o = .returned v ∧ Q v U'.heap L ∧ CHr Z EL U.vm U.heap U'.vm U'.heap ∧ ReturnedEndW U o U' L C N)
theorem ConH.body {y : MethodName} {bytes : ByteArray} {maxL : Nat} {ret : Option FieldType} {ws : List Jvm.Cond} {rm : Room} {as' : Array Value} (hp : plainFor y = true)
    (body : ∀ (p : Program) (e : Env) (s : State) (m : MethodId) (below : List Frame) (meth : Method) (c : Code) (T : State), p.tables.exec = Jvm.exec → c.code = bytes → c.maxLocals = maxL → (s.setVm s.vm).vm.findClass y.cls = some m.cls → meth.name = y.name → Z.Warmed39 (s.setVm s.vm).vm → meth.sig.returnType = ret → meth.locks = false →
      s.Since s.vm 0 → CHr Z EL s.vm s.heap s.vm h → Stand p l e rm (s.setVm s.vm) m as' below meth c T [] 0 0 → T.heap = h → Goes p.tables e below (T.setTop (entryFrame m as' maxL)) (FinH Z EL s C N Q)) : ConH l Z EL y bytes maxL ret ws rm C N as' h Q := by
  refine MetFree.of_bodySF hp hisR ?_
  intro p e s m args below meth c s₁ Bd hml hP hK
  obtain ⟨rfl, hZ, hh, hC⟩ := hP
  exact body p e s m below meth c s₁ Bd.exec Bd.bytes hml (findClass_of_methodNamed Bd.named) (name_of_methodNamed Bd.named Bd.method).1 hZ Bd.returns (BodyLoose.notSynchronized Bd) ((State.WarmedH.refl s).since 0) (by rw [hh]; exact CHr.refl hC) (Stand.of_body Bd) (by rw [← hh, Bd.state]; rfl)
theorem g_retH (X : Stand p l e R (s.setVm vm0) m args below meth c T locs cells slots) (hx : p.tables.exec = Jvm.exec) (hZ : Z.Warmed39 vm0) (hEL : EW Z a0 EL) (hS : s.Since vm0 k0) (hk0 : k0 ≤ T.heap.size) (CH : CHr Z EL s.vm s.heap vm0 T.heap) {w : Value} {t : FieldType} {i : Instr} (hret : meth.sig.returnType = some t) (hk : meth.locks = false) (hn : narrow t w = w)
    (hi : (i = .ireturn ∧ (t = .int ∨ t = .boolean ∨ t = .byte ∨ t = .char ∨ t = .short) ∧ ∃ z, w = .int z) ∨ (i = .lreturn ∧ t = .long ∧ ∃ z, w = .long z) ∨ (i = .dreturn ∧ t = .double ∧ ∃ z, w = .double z) ∨ (i = .freturn ∧ t = .float ∧ ∃ z, w = .float z) ∨ (i = .areturn ∧ t.isReference = true ∧ w.isRef = true))
    (hd : decode c.code pc = .ok (i, 1)) (hc : cells ≤ C) (hs : slots ≤ N) (hQ : Q (some w) T.heap locs) : Goes p.tables e below (T.setTop (mkF m pc Ls (w :: st))) (FinH Z EL s C N Q) := by
  obtain ⟨fs, hr, hrun, hended, hv, hW, hb, hsame⟩ := X.leaveW hS hk0 (v := some w) (fun h => by rw [hret] at h; cases h) hk
  exact ⟨_, _, retOut X hx hret hn hi hd hr, hrun, hended, _, _, rfl, hQ, (show CHr Z EL s.vm s.heap T.vm T.heap from CH.trans (CHv.at X hZ hEL CH.1)), hv, hW, hb, hsame.mono hc hs⟩
theorem g_retHZ (X : Stand p l e R (s.setVm vm0) m args below meth c T locs cells slots) (hx : p.tables.exec = Jvm.exec) (hZ : Z.Warmed39 vm0) (hEL : EW Z a0 EL) (hS : s.Since vm0 k0) (hk0 : k0 ≤ T.heap.size) (CH : CHr Z EL s.vm s.heap vm0 T.heap) {z : Int32} (hz : z = 0 ∨ z = 1) (hret : meth.sig.returnType = some .boolean) (hk : meth.locks = false) (hd : decode c.code pc = .ok (.ireturn, 1)) (hc : cells ≤ C) (hs : slots ≤ N) (hQ : Q (some (.int z)) T.heap locs) :
    Goes p.tables e below (T.setTop (mkF m pc Ls (.int z :: st))) (FinH Z EL s C N Q) := g_retH X hx hZ hEL hS hk0 CH hret hk (by rcases hz with rfl | rfl <;> rfl) (Or.inl ⟨rfl, Or.inr (Or.inl rfl), _, rfl⟩) hd hc hs hQ
theorem g_retHA (X : Stand p l e R (s.setVm vm0) m args below meth c T locs cells slots) (hx : p.tables.exec = Jvm.exec) (hZ : Z.Warmed39 vm0) (hEL : EW Z a0 EL) (hS : s.Since vm0 k0) (hk0 : k0 ≤ T.heap.size) (CH : CHr Z EL s.vm s.heap vm0 T.heap) {w : Value} {t : FieldType} (hret : meth.sig.returnType = some t) (hk : meth.locks = false) (ht : t.isReference = true) (hw : w.isRef = true) (hd : decode c.code pc = .ok (.areturn, 1)) (hc : cells ≤ C) (hs : slots ≤ N) (hQ : Q (some w) T.heap locs) :
    Goes p.tables e below (T.setTop (mkF m pc Ls (w :: st))) (FinH Z EL s C N Q) := g_retH X hx hZ hEL hS hk0 CH hret hk (by cases t <;> simp [FieldType.isReference] at ht <;> cases w <;> simp [Value.isRef] at hw <;> rfl) (Or.inr (Or.inr (Or.inr (Or.inr ⟨rfl, ht, hw⟩)))) hd hc hs hQ
theorem g_retH0 (X : Stand p l e R (s.setVm vm0) m args below meth c T locs cells slots) (hx : p.tables.exec = Jvm.exec) (hZ : Z.Warmed39 vm0) (hEL : EW Z a0 EL) (hS : s.Since vm0 k0) (hk0 : k0 ≤ T.heap.size) (CH : CHr Z EL s.vm s.heap vm0 T.heap) (hret : meth.sig.returnType = none) (hk : meth.locks = false) (hd : decode c.code pc = .ok (.return_, 1)) (hc : cells ≤ C) (hs : slots ≤ N) (hQ : Q none T.heap locs) :
    Goes p.tables e below (T.setTop (mkF m pc Ls [])) (FinH Z EL s C N Q) := by
  obtain ⟨fs, hr, hrun, hended, hv, hW, hb, hsame⟩ := X.leaveW hS hk0 (v := none) (fun _ => rfl) hk
  exact ⟨_, _, X.returnOut hx hret hd hr, hrun, hended, _, _, rfl, hQ, (show CHr Z EL s.vm s.heap T.vm T.heap from CH.trans (CHv.at X hZ hEL CH.1)), hv, hW, hb, hsame.mono hc hs⟩
theorem own_safeNull {vm : Vm} {x : Addr} (hal : Z.vm.Alike vm) (E : Exa Z h x "java/lang/String") (F : Fld Z h x "java/lang/String" "value" "[B" .null) : Safe Z EL vm h x := fun B => by
  obtain ⟨cell, k, e1, e2, e3, -, -⟩ := E
  obtain ⟨cell', cf, k', i, f, g1, g2, -, -, -, -, g7⟩ := F
  cases e1.symm.trans g1
  have nm : ∀ {n : String} {c : ClassId}, vm.findClass n = some c → c = cell.cls → n = "java/lang/String" := fun {n c} f e => by
    subst e
    rw [hal.findClass] at f
    obtain ⟨k1, q1, q2⟩ := Vm.findClass_spec f
    obtain ⟨k2, q3, q4⟩ := Vm.findClass_spec e2
    cases q1.symm.trans q3
    exact q2.symm.trans q4
  obtain ⟨p, -, u, a, -, q, -, F, rfl | rfl⟩ := B
  · have hc := (show h[q.sa]? = some q.sC from F.ha).symm.trans e1
    obtain ⟨cS, ⟨⟨-, -, -, ⟨c1, k1, i1, f1, -⟩, -, -, -, v1, -⟩, -⟩, -⟩ := F
    obtain ⟨k3, e3', -⟩ := State.fieldFound?_setVm (s := Z) hal g2
    have e4 := (show (Wst Z vm h).fieldFound? _ _ _ = _ from e3').symm.trans f1
    simp only [Option.some.injEq, Prod.mk.injEq] at e4
    rw [← e4.2.2.2, Option.some.inj hc, g7] at v1
    cases v1
  · cases (show h[q.sd]? = some q.SA from F.hd).symm.trans e1
    obtain ⟨cS, -, -, f, -⟩ := F
    exact absurd (nm f rfl) (by decide)
theorem own_safeAr {vm : Vm} {x : Addr} {ty : FieldType} {vs : List Value} (hal : Z.vm.Alike vm) (A : Ar Z h x ty vs) (ht : ty ≠ .byte) : Safe Z EL vm h x := by
  obtain ⟨cl, A, -⟩ := A
  exact Safe.arr hal A ht
theorem g_instYes {own K : String} {index : Nat} {a : Addr} (X : Stand p l e R s m args below meth c T locs cells slots) (hx : p.tables.exec = Jvm.exec) (hZ : Z.Warmed39 s.vm) (hown : s.vm.findClass own = some m.cls) (eT : T.heap = h) (w : (Jvm.Cond.classLink own index K).before a0 Z = true) (F : Ins Z h a K true) (hd : decode c.code pc = .ok (.instanceof index, 3))
    (k : ∀ T', Stand p l e R s m args below meth c T' locs cells slots → T'.heap = h → Goes p.tables e below (T'.setTop (mkF m (pc + 3) Ls (.int 1 :: st))) P) : Goes p.tables e below (T.setTop (mkF m pc Ls (.ref a :: st))) P := by
  obtain ⟨T', X', e', st'⟩ := instY X hx hZ hown w eT F (g := mkF m pc Ls (.ref a :: st)) rfl rfl hd
  exact (k T' X' e').of st'
theorem own_fldU {a : Addr} {C n d : String} {v w : Value} (F : Fld Z h a C n d v) (G : Fld Z h a C n d w) : v = w := by
  obtain ⟨c1, _, _, _, f, h1, h2, -, -, -, -, h7⟩ := F
  obtain ⟨c2, _, _, _, g, g1, g2, -, -, -, -, g7⟩ := G
  cases h1.symm.trans g1
  have e := h2.symm.trans g2
  simp only [Option.some.injEq, Prod.mk.injEq] at e
  obtain ⟨-, -, -, rfl⟩ := e
  exact Option.some.inj (h7.symm.trans g7)
variable {own : String} {index : Nat}
theorem g_ldcH (X : Stand p l e R (s.setVm vm0) m args below meth c T locs cells slots) (hx : p.tables.exec = Jvm.exec) (hZ : Z.Warmed39 vm0) (hown : vm0.findClass own = some m.cls) (eT : T.heap = h) {text : String} (w : (Jvm.Cond.stringLink own index text).before a0 Z = true) (wS : ∀ a ∈ Bundle.stringAtoms, a.before a0 Z = true) (hS : s.Since vm0 k0) (hk0 : k0 ≤ h.size) (hEL : EW Z a0 EL) (hmem : (own, index) ∈ EL) (CH : CHr Z EL s.vm s.heap vm0 h)
    {vs : List Value} (z : Int32) (ht : (∀ c ∈ text.toList, c.toNat < 256) ∧ text.toList.map (fun c => Value.int (Jvm.Lit.byteI c.toNat.toUInt16)) = vs) (hz : ¬ z < 0) (hl : z.toNatClampNeg = vs.length) (hlt : vs.length < 2 ^ 31) (hd : decode c.code pc = .ok (.ldc index, 2)) (n : Nat) (hn : 4 * text.toList.length ≤ n) (hbig : n ≤ 536870912) (hc : cells + 2 ≤ R.cells) (hl' : slots + (n + 4) ≤ R.slots)
    (k : ∀ T' h' a b k1, Stand p l e R (s.setVm T'.vm) m args below meth c T' locs (cells + 2) (slots + (n + 4)) → T'.heap = h' → Ext h h' → s.Since T'.vm k1 → k1 ≤ h'.size → Z.Warmed39 T'.vm → T'.vm.findClass own = some m.cls → Exa Z h' a "java/lang/String" → Fld Z h' a "java/lang/String" "coder" "B" (.int (0 : Int32)) → Fld Z h' a "java/lang/String" "value" "[B" (.ref b) → Ar Z h' b .byte vs → CHr Z EL vm0 h T'.vm h' → (∀ x, Safe Z EL T'.vm h' x → x ≠ a ∧ x ≠ b) → Goes p.tables e below (T'.setTop (mkF m (pc + 2) Ls (.ref a :: st))) P) :
    Goes p.tables e below (T.setTop (mkF m pc Ls st)) P := by
  obtain ⟨a, T', h', k1, b, kb, X', e', E, hS', hk', hZ', ho', q1, q2, q3, q4, -, -, q5, -, q6, st'⟩ := ldcCH X hx hZ hown w wS eT hS hk0 hEL hmem CH.1 ht hz hl (g := mkF m pc Ls st) rfl hd hn hbig hc hl'
  exact (k T' h' a b k1 X' e' E hS' hk' hZ' ho' q1 q2 q3 (Ar.ofV q4 hl.symm hlt) q5 q6).of st'
variable {y : MethodName} {bytes : ByteArray} {maxL : Nat} {ret : Option FieldType} {rm : Room} {as' : Array Value}
theorem g_callSH (X : Stand p l e R (s.setVm vm0) m args below meth c T locs cells slots) (hx : p.tables.exec = Jvm.exec) (hZ : Z.Warmed39 vm0) (hown : vm0.findClass own = some m.cls) (hml : Ls.size = c.maxLocals) (eT : T.heap = h) (hS : s.Since vm0 k0) (hk0 : k0 ≤ h.size) (hEL : EW Z a0 EL) (CH : CHr Z EL s.vm s.heap vm0 h)
    (wl : (Jvm.Cond.methodLink own index y).before a0 Z = true) (wt : (Jvm.Cond.static y).before a0 Z = true) (wz : (Jvm.Cond.initialized y.cls).before a0 Z = true) (wc : (Jvm.Cond.code y bytes maxL ret).before a0 Z = true)
    (hM : ConH l Z EL y bytes maxL ret [] rm rm.cells rm.slots as' h Q) (argsL : List Value) (has : argsL.toArray = as') {S : List Value} (st : List Value) (hSt : S = argsL.reverse ++ st) (hlen : ∀ sig, parseMethodDescriptor y.desc = some sig → argsL.length = sig.parameters.length)
    (hd : decode c.code pc = .ok (.invokestatic index, 3)) (hy : y.cls ≠ "java/lang/invoke/MethodHandle" ∧ y.cls ≠ "java/lang/invoke/VarHandle") (W : Nat) (hf : rm.frames + 1 ≤ R.frames) (hl : W + (maxL + 11) + rm.locals ≤ R.locals) (hW : (st.map fun v => v.category).sum ≤ W) (hc : cells + rm.cells ≤ R.cells) (hs : slots + rm.slots ≤ R.slots)
    (k : ∀ v T' L, Stand p l e R (s.setVm T'.vm) m args below meth c T' (locs ++ L) (cells + rm.cells) (slots + rm.slots) → s.Since T'.vm T'.heap.size → Z.Warmed39 T'.vm → T'.vm.findClass own = some m.cls → CHr Z EL vm0 h T'.vm T'.heap → Q v T'.heap L → Goes p.tables e below (T'.setTop (mkF m (pc + 3) Ls (v.toList ++ st))) P) :
    Goes p.tables e below (T.setTop (mkF m pc Ls S)) P := by
  subst hSt
  obtain ⟨v, vm₁, ⟨T', L', k', n'⟩, -, X', hS2, hgr, ⟨L, hQ, e1, e2, e3, hC⟩, st'⟩ := callSS X hx (y := y) hown (mvT (s := s.setVm vm0) hZ wl) (mvT (s := s.setVm vm0) hZ wt) (mvT (s := s.setVm vm0) hZ wz) (mvT (s := s.setVm vm0) hZ wc) hy (backOfSH (s := s) (W := W) hM hZ wc wz hf hl hEL CH.1) (g := mkF m pc Ls (argsL.reverse ++ st)) rfl hml (argsL := argsL) (rest := st) hlen rfl (by show 2 * 0 + _ ≤ _; omega) hd (fun _ _ => ⟨has, eT, hc, hs⟩)
  dsimp only [Pt.U, Pt.locs, Pt.cells, Pt.slots] at X' e1 e2 e3 st' hQ hC hS2 hgr
  subst e1 e2 e3
  obtain ⟨Y, q1, q2, q3⟩ := rebS (own := own) hS hk0 X' hS2 (by rw [← eT]; exact hgr) hZ hown
  exact (k v T' L Y q1 q2 q3 hC hQ).tr st'
theorem g_callIH (X : Stand p l e R (s.setVm vm0) m args below meth c T locs cells slots) (hx : p.tables.exec = Jvm.exec) (hZ : Z.Warmed39 vm0) (hown : vm0.findClass own = some m.cls) (hml : Ls.size = c.maxLocals) (eT : T.heap = h) (hS : s.Since vm0 k0) (hk0 : k0 ≤ h.size) (hEL : EW Z a0 EL) (CH : CHr Z EL s.vm s.heap vm0 h) (hn : y.name = "<init>")
    (wl : (Jvm.Cond.methodLink own index y).before a0 Z = true) (wt : (Jvm.Cond.instanceMethod y).before a0 Z = true) (wz : (Jvm.Cond.initialized y.cls).before a0 Z = true) (wc : (Jvm.Cond.code y bytes maxL none).before a0 Z = true)
    (hM : ConH l Z EL y bytes maxL none [] rm rm.cells rm.slots as' h Q) (a : Addr) (argsL : List Value) (has : (.ref a :: argsL).toArray = as') {S : List Value} (st : List Value) (hSt : S = argsL.reverse ++ .ref a :: st) (hlen : ∀ sig, parseMethodDescriptor y.desc = some sig → argsL.length = sig.parameters.length)
    (hd : decode c.code pc = .ok (.invokespecial index, 3)) (hy : y.cls ≠ "java/lang/invoke/MethodHandle" ∧ y.cls ≠ "java/lang/invoke/VarHandle") (W : Nat) (hf : rm.frames + 1 ≤ R.frames) (hl : W + (maxL + 11) + rm.locals ≤ R.locals) (hW : (st.map fun v => v.category).sum ≤ W) (hc : cells + rm.cells ≤ R.cells) (hs : slots + rm.slots ≤ R.slots)
    (k : ∀ v T' L, Stand p l e R (s.setVm T'.vm) m args below meth c T' (locs ++ L) (cells + rm.cells) (slots + rm.slots) → s.Since T'.vm T'.heap.size → Z.Warmed39 T'.vm → T'.vm.findClass own = some m.cls → CHr Z EL vm0 h T'.vm T'.heap → Q v T'.heap L → Goes p.tables e below (T'.setTop (mkF m (pc + 3) Ls (v.toList ++ st))) P) :
    Goes p.tables e below (T.setTop (mkF m pc Ls S)) P := by
  subst hSt
  obtain ⟨v, vm₁, ⟨T', L', k', n'⟩, -, X', hS2, hgr, ⟨L, hQ, e1, e2, e3, hC⟩, st'⟩ := X.specialBackS hx (y := y) hn hown (mvT (s := s.setVm vm0) hZ wl) (mvT (s := s.setVm vm0) hZ wt) (mvT (s := s.setVm vm0) hZ wc) hy (backOfSH (s := s) (W := W) hM hZ wc wz hf hl hEL CH.1) (g := mkF m pc Ls (argsL.reverse ++ .ref a :: st)) rfl hml (Steps.refl _) (a := a) (argsL := argsL) (rest := st) hlen rfl (by show 2 * 0 + _ ≤ _; omega) hd (fun _ _ => ⟨has, eT, hc, hs⟩)
  dsimp only [Pt.U, Pt.locs, Pt.cells, Pt.slots] at X' e1 e2 e3 st' hQ hC hS2 hgr
  subst e1 e2 e3
  obtain ⟨Y, q1, q2, q3⟩ := rebS (own := own) hS hk0 X' hS2 (by rw [← eT]; exact hgr) hZ hown
  exact (k v T' L Y q1 q2 q3 hC hQ).tr st'
end Held
end Jvm.OwnW
namespace Jvm.Pilot.@@N@@
open Jvm Jvm.ClassFile Sem Op Lib Jvm.Free Jvm.Stand Jvm.LawKit Jvm.RoadKit Bundle Jvm.OwnW Jvm.Pilot.@@N@@.Jvm.D
section
theorem own_mask (x : Int32) (m : Nat) : ∃ k, k ≤ m ∧ x &&& Int32.ofNat m = Int32.ofNat k := by
  refine ⟨(x &&& Int32.ofNat m).toBitVec.toNat, ?_, ?_⟩
  · rw [Int32.toBitVec_and, BitVec.toNat_and]
    refine Nat.le_trans Nat.and_le_right ?_
    show (BitVec.ofNat 32 m).toNat ≤ m
    rw [BitVec.toNat_ofNat]
    exact Nat.mod_le _ _
  · apply Int32.toBitVec_inj.mp
    show _ = BitVec.ofNat 32 _
    rw [BitVec.ofNat_toNat, BitVec.setWidth_eq]
def B8 (c : Int32) : Int32 := Int8.toInt32 (Int32.toInt8 c)
def Lat (c : Int32) : Prop := ∃ k : Fin 256, c = Int32.ofNat k.val
def c16 (x : Int32) : Int32 := UInt32.toInt32 (UInt16.toUInt32 (UInt32.toUInt16 (Int32.toUInt32 x)))
theorem lat_c : ∀ k : Fin 256, c16 (Int32.ofNat k.val) = Int32.ofNat k.val := by decide +kernel
theorem lat_le' : ∀ k : Fin 256, ¬ (255 : Int32) < Int32.ofNat k.val := by decide +kernel
theorem lat_inv' : ∀ k : Fin 256, B8 (Int32.ofNat k.val) &&& 255 = Int32.ofNat k.val := by decide +kernel
theorem Lat.le {c : Int32} (h : Lat c) : ¬ (255 : Int32) < c := by obtain ⟨k, rfl⟩ := h; exact lat_le' k
theorem Lat.chr {c : Int32} (h : Lat c) : c16 c = c := by obtain ⟨k, rfl⟩ := h; exact lat_c k
theorem Lat.inj {c d : Int32} (h : Lat c) (h' : Lat d) (q : B8 c = B8 d) : c = d := by
  obtain ⟨k, rfl⟩ := h
  obtain ⟨j, rfl⟩ := h'
  rw [← lat_inv' k, ← lat_inv' j, q]
theorem lat_of (x : Int32) : Lat (c16 (x &&& 255)) := by
  obtain ⟨k, hk, e⟩ := own_mask x 255
  have e' : x &&& 255 = Int32.ofNat k := e
  have h : Lat (x &&& 255) := ⟨⟨k, by omega⟩, e'⟩
  rw [h.chr]; exact h
theorem lat_nil : ∀ x ∈ ([] : List Int32), Lat x := by simp
theorem lat_one {a : Int32} (h : Lat a) : ∀ x ∈ [a], Lat x := by simpa using h
theorem lat_two {a b : Int32} (h : Lat a) (h' : Lat b) : ∀ x ∈ [a, b], Lat x := by simpa using ⟨h, h'⟩
theorem n3_of (x : Int32) : (x &&& 3) % 3 = 0 ∨ (x &&& 3) % 3 = 1 ∨ (x &&& 3) % 3 = 2 := by
  obtain ⟨k, hk, e⟩ := own_mask x 3
  have e' : x &&& 3 = Int32.ofNat k := e
  rw [e']
  have : k = 0 ∨ k = 1 ∨ k = 2 ∨ k = 3 := by omega
  rcases this with rfl | rfl | rfl | rfl <;> decide
theorem k8_of (x : Int32) : ∃ k : Fin 8, x &&& 7 = Int32.ofNat k.val := by
  obtain ⟨k, hk, e⟩ := own_mask x 7
  exact ⟨⟨k, by omega⟩, e⟩
def bts (n c d : Int32) : List Int32 := if n = 0 then [] else if n = 1 then [B8 c] else [B8 c, B8 d]
def eqV (xs ys : List Int32) : Int32 := if xs = ys then 1 else 0
theorem eqV_01 (xs ys : List Int32) : eqV xs ys = 0 ∨ eqV xs ys = 1 := by unfold eqV; split; exact Or.inr rfl; exact Or.inl rfl
theorem eqV_ne {xs ys : List Int32} (h : ¬ eqV xs ys = 0) : eqV xs ys = 1 := (eqV_01 xs ys).resolve_left h
def isV (a b : Nat) (xs ys : List Int32) : Int32 := if a = b then eqV xs ys else 0
theorem isV_01 (a b : Nat) (xs ys : List Int32) : isV a b xs ys = 0 ∨ isV a b xs ys = 1 := by unfold isV; split; exact eqV_01 _ _; exact Or.inl rfl
theorem bts_eq {n m t0 t1 u0 u1 : Int32} (hn : n = 0 ∨ n = 1 ∨ n = 2) (hm : m = 0 ∨ m = 1 ∨ m = 2) (a0 : Lat t0) (a1 : Lat t1) (b0 : Lat u0) (b1 : Lat u1) :
    bts n t0 t1 = bts m u0 u1 ↔ n = m ∧ (n < 1 ∨ t0 = u0) ∧ (n < 2 ∨ t1 = u1) := by
  have i0 : B8 t0 = B8 u0 ↔ t0 = u0 := ⟨a0.inj b0, fun q => by rw [q]⟩
  have i1 : B8 t1 = B8 u1 ↔ t1 = u1 := ⟨a1.inj b1, fun q => by rw [q]⟩
  rcases hn with rfl | rfl | rfl <;> rcases hm with rfl | rfl | rfl <;> simp [bts, i0, i1] <;> decide
def cpL {α : Type} (f : Int32 → α) (z : α) (xs : List Int32) (i : Nat) : List α := (xs.take i).map f ++ List.replicate (xs.length - i) z
theorem cpL_zero {α : Type} (f : Int32 → α) (z : α) (xs : List Int32) : cpL f z xs 0 = List.replicate xs.length z := by simp [cpL]
theorem cpL_end {α : Type} (f : Int32 → α) (z : α) (xs : List Int32) : cpL f z xs xs.length = xs.map f := by simp [cpL]
theorem cpL_len {α : Type} (f : Int32 → α) (z : α) (xs : List Int32) {i : Nat} (h : i ≤ xs.length) : (cpL f z xs i).length = xs.length := by simp [cpL]; omega
theorem cpL_set {α : Type} (f : Int32 → α) (z : α) (xs : List Int32) {i : Nat} {x : Int32} (h : xs[i]? = some x) : (cpL f z xs i).set i (f x) = cpL f z xs (i + 1) := by
  have hi : i < xs.length := (List.getElem?_eq_some_iff.mp h).1
  have hA : ((xs.take i).map f).length = i := by simp; omega
  obtain ⟨k, hk⟩ : ∃ k, xs.length - i = k + 1 := ⟨xs.length - i - 1, by omega⟩
  have hk' : xs.length - (i + 1) = k := by omega
  unfold cpL
  rw [List.set_append, if_neg (by rw [hA]; omega), hA, Nat.sub_self, hk, hk', List.replicate_succ, List.set_cons_zero, List.take_add_one, h, List.map_append]
  simp
theorem take_succ_eq {xs ys : List Int32} {i : Nat} {x : Int32} (h : xs.take i = ys.take i) (hx : xs[i]? = some x) (hy : ys[i]? = some x) : xs.take (i + 1) = ys.take (i + 1) := by
  rw [List.take_add_one, List.take_add_one, h, hx, hy]
end
theorem fin_law {k1 k2 n m t0 t1 u0 u1 : Int32} {K1 K2 : Nat} (hK : K1 = K2 ↔ k1 = k2) (hn : n = 0 ∨ n = 1 ∨ n = 2) (hm : m = 0 ∨ m = 1 ∨ m = 2) (a0 : Lat t0) (a1 : Lat t1) (b0 : Lat u0) (b1 : Lat u1) :
    isV K1 K2 (bts n t0 t1) (bts m u0 u1) = (if k1 = k2 then (if n = m then (if n < 1 then (if n < 2 then 1 else (if t1 = u1 then 1 else 0)) else (if t0 = u0 then (if n < 2 then 1 else (if t1 = u1 then 1 else 0)) else 0)) else 0) else 0) := by
  unfold isV eqV
  simp only [hK, bts_eq hn hm a0 a1 b0 b1]
  by_cases q1 : k1 = k2
  · by_cases q2 : n = m
    · by_cases q3 : n < 1
      · by_cases q4 : n < 2
        · simp [q1, q2 ▸ q3, q2 ▸ q4, q2, q3, q4]
        · by_cases q5 : t1 = u1
          · simp only [if_pos q1, if_pos q2, if_pos q3, if_neg q4, if_pos q5]; exact if_pos ⟨q2, Or.inl q3, Or.inr q5⟩
          · simp only [if_pos q1, if_pos q2, if_pos q3, if_neg q4, if_neg q5]; exact if_neg fun z => z.2.2.elim q4 q5
      · by_cases q6 : t0 = u0
        · by_cases q4 : n < 2
          · simp only [if_pos q1, if_pos q2, if_neg q3, if_pos q6, if_pos q4]; exact if_pos ⟨q2, Or.inr q6, Or.inl q4⟩
          · by_cases q5 : t1 = u1
            · simp only [if_pos q1, if_pos q2, if_neg q3, if_pos q6, if_neg q4, if_pos q5]; exact if_pos ⟨q2, Or.inr q6, Or.inr q5⟩
            · simp only [if_pos q1, if_pos q2, if_neg q3, if_pos q6, if_neg q4, if_neg q5]; exact if_neg fun z => z.2.2.elim q4 q5
        · simp only [if_pos q1, if_pos q2, if_neg q3, if_neg q6]; exact if_neg fun z => z.2.1.elim q3 q6
    · simp only [if_pos q1, if_neg q2]; exact if_neg fun z => q2 z.1
  · simp only [if_neg q1]

theorem own_of {n : Nat} (h : n < 2147483648) : (Int32.ofNat n).toInt = n := Int32.toInt_ofNat_of_lt (by omega)
theorem own_succ (n : Nat) : Int32.ofNat n + (1 : Int32) = Int32.ofNat (n + 1) := by
  rw [show (1 : Int32) = Int32.ofNat 1 from rfl, ← Int32.ofNat_add]
theorem own_ofInj {a b : Nat} (ha : a < 2147483648) (hb' : b < 2147483648) (h : Int32.ofNat a = Int32.ofNat b) : a = b := by
  have q := congrArg Int32.toInt h
  rw [own_of ha, own_of hb'] at q
  omega
theorem own_len {Z : State} {h : Heap} {a : Addr} {ty : FieldType} {xs : List Int32} (A : Ar Z h a ty (xs.map Value.int)) : xs.length < 2147483648 := by
  obtain ⟨_, _, _, q, _⟩ := A
  rw [List.length_map] at q
  omega
theorem own_z {z : Int32} {n : Nat} (h : z.toInt = n) (q : z = 0) : n = 0 := by
  rw [q] at h
  have k : (0 : Int32).toInt = 0 := rfl
  omega
theorem own_ite {P : Int32 → Prop} {c : Prop} [Decidable c] {a b : Int32} (ha : P a) (hb' : P b) : P (if c then a else b) := by
  by_cases q : c
  · rw [if_pos q]; exact ha
  · rw [if_neg q]; exact hb'
def EL1 : List (String × Nat) := [("java/lang/String", 7)]
theorem el_1 {Z : State} {a0 : Array Value} (hw : ∀ d ∈ tables_1, d.before a0 Z = true) : EW Z a0 EL1 := EW.cons (text := "") (hw _ (List.mem_of_getElem? (i := 18) rfl)) (by simp) EW.nil
theorem ws_1 {Z : State} {a0 : Array Value} (hw : ∀ d ∈ tables_1, d.before a0 Z = true) : ∀ a ∈ Bundle.stringAtoms, a.before a0 Z = true := by
  intro a ha
  simp only [Bundle.stringAtoms, List.mem_cons, List.not_mem_nil, or_false] at ha
  rcases ha with rfl | rfl | rfl | rfl | rfl | rfl | rfl
  · exact (hw _ (List.mem_of_getElem? (i := 6) rfl))
  · exact (hw _ (List.mem_of_getElem? (i := 5) rfl))
  · exact (hw _ (List.mem_of_getElem? (i := 19) rfl))
  · exact (hw _ (List.mem_of_getElem? (i := 20) rfl))
  · exact (hw _ (List.mem_of_getElem? (i := 21) rfl))
  · exact (hw _ (List.mem_of_getElem? (i := 22) rfl))
  · exact (hw _ (List.mem_of_getElem? (i := 23) rfl))
theorem own_B8 (x : Int32) : B8 (B8 x) = B8 x := by
  unfold B8
  rw [Int8.toInt8_toInt32]
theorem d12_0 : decode jdk_52_method_21_code 0 = .ok (.iconst 0, 1) := by decide +kernel
theorem d12_1 : decode jdk_52_method_21_code 1 = .ok (.istore 5, 2) := by decide +kernel
theorem d12_3 : decode jdk_52_method_21_code 3 = .ok (.iload 5, 2) := by decide +kernel
theorem d12_5 : decode jdk_52_method_21_code 5 = .ok (.iload 4, 2) := by decide +kernel
theorem d12_7 : decode jdk_52_method_21_code 7 = .ok (.if_icmp .ge 37, 3) := by decide +kernel
theorem d12_10 : decode jdk_52_method_21_code 10 = .ok (.aload_n 0, 1) := by decide +kernel
theorem d12_11 : decode jdk_52_method_21_code 11 = .ok (.iload_n 1, 1) := by decide +kernel
theorem d12_12 : decode jdk_52_method_21_code 12 = .ok (.caload, 1) := by decide +kernel
theorem d12_13 : decode jdk_52_method_21_code 13 = .ok (.istore 6, 2) := by decide +kernel
theorem d12_15 : decode jdk_52_method_21_code 15 = .ok (.iload 6, 2) := by decide +kernel
theorem d12_17 : decode jdk_52_method_21_code 17 = .ok (.sipush 255, 3) := by decide +kernel
theorem d12_20 : decode jdk_52_method_21_code 20 = .ok (.if_icmp .le 6, 3) := by decide +kernel
theorem d12_23 : decode jdk_52_method_21_code 23 = .ok (.iload 5, 2) := by decide +kernel
theorem d12_25 : decode jdk_52_method_21_code 25 = .ok (.ireturn, 1) := by decide +kernel
theorem d12_26 : decode jdk_52_method_21_code 26 = .ok (.aload_n 2, 1) := by decide +kernel
theorem d12_27 : decode jdk_52_method_21_code 27 = .ok (.iload_n 3, 1) := by decide +kernel
theorem d12_28 : decode jdk_52_method_21_code 28 = .ok (.iload 6, 2) := by decide +kernel
theorem d12_30 : decode jdk_52_method_21_code 30 = .ok (.i2b, 1) := by decide +kernel
theorem d12_31 : decode jdk_52_method_21_code 31 = .ok (.bastore, 1) := by decide +kernel
theorem d12_32 : decode jdk_52_method_21_code 32 = .ok (.iinc 1 1, 3) := by decide +kernel
theorem d12_35 : decode jdk_52_method_21_code 35 = .ok (.iinc 3 1, 3) := by decide +kernel
theorem d12_38 : decode jdk_52_method_21_code 38 = .ok (.iinc 5 1, 3) := by decide +kernel
theorem d12_41 : decode jdk_52_method_21_code 41 = .ok (.goto (-38), 3) := by decide +kernel
theorem d12_44 : decode jdk_52_method_21_code 44 = .ok (.iload 4, 2) := by decide +kernel
theorem d12_46 : decode jdk_52_method_21_code 46 = .ok (.ireturn, 1) := by decide +kernel
theorem pd_12 : parseMethodDescriptor "([CI[BII)I" = some ⟨[(.array .char), .int, (.array .byte), .int, .int], some .int⟩ := by decide +kernel
theorem ef_12 (m : MethodId) (p0 : Addr) (p2 : Addr) (p4 : Int32) : entryFrame m #[(.ref p0), (.int (0 : Int32)), (.ref p2), (.int (0 : Int32)), (.int p4)] 7 = mkF m 0 #[.val (.ref p0), .val (.int (0 : Int32)), .val (.ref p2), .val (.int (0 : Int32)), .val (.int p4), .unset, .unset] [] := by first | (simp [entryFrame, mkF, argsToLocals, Value.category]; done) | rfl
set_option maxRecDepth 65536 in
set_option maxHeartbeats 40000000 in
theorem rmCp (l : Launch) (Z : State) (a0 : Array Value) (hw : ∀ d ∈ tables_1, d.before a0 Z = true) (p0 : Addr) (p2 : Addr) (p4 : Int32) (h0 : Heap) (n0 : Nat) (Z0 : n0 ≤ h0.size) (xs : List Int32) (hn : p4.toInt = xs.length) (hlat : ∀ x ∈ xs, Lat x) (A0 : Ar Z h0 p0 .char (xs.map Value.int)) (B0 : Ar Z h0 p2 .byte (List.replicate xs.length (.int (0 : Int32)))) (npd : p0 ≠ p2) (gd : n0 ≤ p2) :
    Con l Z (⟨"java/lang/StringUTF16", "compress", "([CI[BII)I"⟩ : MethodName) jdk_52_method_21_code 7 (some .int) [] ({ frames := 0, cells := 0, slots := 0, locals := 0 } : Room) 0 0 #[(.ref p0), (.int (0 : Int32)), (.ref p2), (.int (0 : Int32)), (.int p4)] h0 (fun v h L => v = some (.int p4) ∧ Fr n0 L ∧ Keep h0 h [p2] ∧ Ar Z h p2 .byte (xs.map fun x => Value.int (B8 x))) := by
  refine Con.body (plainFor_of_name (by first | (simp [plainName, overriddenIn]; done) | decide +kernel)) ?_
  intro p e s m below meth c T0 hx hby hml hown hnm hZ hret hlk X0 e0
  refine Goes.cast (ef_12 m p0 p2 p4) ?_
  have N0 := Fr.nil n0
  have K0 : Keep h0 h0 [p2] := Keep.refl _ _
  have lx := own_len A0
  show Goes p.tables e below (T0.setTop (mkF m 0 #[.val (.ref p0), .val (.int (0 : Int32)), .val (.ref p2), .val (.int (0 : Int32)), .val (.int p4), .unset, .unset] [])) _
  refine g_iconst X0 hx (0 : Int32) (hb hby d12_0) rfl ?_
  show Goes p.tables e below (T0.setTop (mkF m 1 #[.val (.ref p0), .val (.int (0 : Int32)), .val (.ref p2), .val (.int (0 : Int32)), .val (.int p4), .unset, .unset] [(.int (0 : Int32))])) _
  refine g_istore X0 hx (hb hby d12_1) (l' := #[.val (.ref p0), .val (.int (0 : Int32)), .val (.ref p2), .val (.int (0 : Int32)), .val (.int p4), .val (.int (0 : Int32)), .unset]) rfl ?_
  have loop : ∀ k i9 : Nat, ∀ (sl : Slot), One sl → xs.length - i9 = k → i9 ≤ xs.length → ∀ (T : State) (locs : List Loc) (h : Heap), Stand p l e ({ frames := 0, cells := 0, slots := 0, locals := 0 } : Room) s m #[(.ref p0), (.int (0 : Int32)), (.ref p2), (.int (0 : Int32)), (.int p4)] below meth c T locs 0 0 → T.heap = h → Fr n0 locs → n0 ≤ h.size → Keep h0 h [p2] → Ar Z h p2 .byte (cpL (fun x => Value.int (B8 x)) (Value.int (0 : Int32)) xs i9) → Goes p.tables e below (T.setTop (mkF m 3 #[.val (.ref p0), .val (.int (Int32.ofNat i9)), .val (.ref p2), .val (.int (Int32.ofNat i9)), .val (.int p4), .val (.int (Int32.ofNat i9)), sl] [])) (Fin s 0 0 (fun v h L => v = some (.int p4) ∧ Fr n0 L ∧ Keep h0 h [p2] ∧ Ar Z h p2 .byte (xs.map fun x => Value.int (B8 x)))) := by
    intro k
    induction k using Nat.strongRecOn with
    | _ k ih =>
      intro i9 sl hsl hk hi9 T locs h X9 e9 N9 Z9 K9 B9
      have A9 := A0.keep K9 (ninS npd nin0)
      show Goes p.tables e below (T.setTop (mkF m 3 #[.val (.ref p0), .val (.int (Int32.ofNat i9)), .val (.ref p2), .val (.int (Int32.ofNat i9)), .val (.int p4), .val (.int (Int32.ofNat i9)), sl] [])) _
      refine g_iload X9 hx (hb hby d12_3) rfl ?_
      show Goes p.tables e below (T.setTop (mkF m 5 #[.val (.ref p0), .val (.int (Int32.ofNat i9)), .val (.ref p2), .val (.int (Int32.ofNat i9)), .val (.int p4), .val (.int (Int32.ofNat i9)), sl] [(.int (Int32.ofNat i9))])) _
      refine g_iload X9 hx (hb hby d12_5) rfl ?_
      refine g_icmp_ge X9 hx (hb hby d12_7) (by decide) (pc' := 44) (by decide) (fun c7 => ?_) (fun c7 => ?_)
      · skip
        show Goes p.tables e below (T.setTop (mkF m 44 #[.val (.ref p0), .val (.int (Int32.ofNat i9)), .val (.ref p2), .val (.int (Int32.ofNat i9)), .val (.int p4), .val (.int (Int32.ofNat i9)), sl] [])) _
        have en : i9 = xs.length := by have q : ¬ _ < _ := fun z => c7 (Int32.lt_iff_toInt_lt.mpr z); rw [own_of (by omega), hn] at q; omega
        refine g_iload X9 hx (hb hby d12_44) rfl ?_
        show Goes p.tables e below (T.setTop (mkF m 46 #[.val (.ref p0), .val (.int (Int32.ofNat i9)), .val (.ref p2), .val (.int (Int32.ofNat i9)), .val (.int p4), .val (.int (Int32.ofNat i9)), sl] [(.int p4)])) _
        exact g_retI X9 hx hret hlk (hb hby d12_46) (by decide) (by decide) (by rw [e9]; exact ⟨rfl, N9, K9, by rw [← cpL_end (fun x => Value.int (B8 x)) (Value.int (0 : Int32)) xs, ← en]; exact B9⟩)
      · skip
        show Goes p.tables e below (T.setTop (mkF m 10 #[.val (.ref p0), .val (.int (Int32.ofNat i9)), .val (.ref p2), .val (.int (Int32.ofNat i9)), .val (.int p4), .val (.int (Int32.ofNat i9)), sl] [])) _
        have hlt : i9 < xs.length := by have q := Int32.lt_iff_toInt_lt.mp c7; rw [own_of (by omega), hn] at q; omega
        obtain ⟨x, hxx⟩ : ∃ x, xs[i9]? = some x := ⟨_, List.getElem?_eq_getElem hlt⟩
        have hlx := hlat x (List.mem_of_getElem? hxx)
        have hset : List.set (cpL (fun x => Value.int (B8 x)) (Value.int (0 : Int32)) xs i9) i9 (.int (B8 x)) = (cpL (fun x => Value.int (B8 x)) (Value.int (0 : Int32)) xs (i9 + 1)) := cpL_set (fun x => Value.int (B8 x)) (Value.int (0 : Int32)) xs hxx
        refine g_aloadN X9 hx (hb hby d12_10) rfl rfl ?_
        show Goes p.tables e below (T.setTop (mkF m 11 #[.val (.ref p0), .val (.int (Int32.ofNat i9)), .val (.ref p2), .val (.int (Int32.ofNat i9)), .val (.int p4), .val (.int (Int32.ofNat i9)), sl] [(.ref p0)])) _
        refine g_iloadN X9 hx (hb hby d12_11) rfl ?_
        show Goes p.tables e below (T.setTop (mkF m 12 #[.val (.ref p0), .val (.int (Int32.ofNat i9)), .val (.ref p2), .val (.int (Int32.ofNat i9)), .val (.int p4), .val (.int (Int32.ofNat i9)), sl] [(.int (Int32.ofNat i9)), (.ref p0)])) _
        refine g_caload X9 hx hZ e9 A9 (i := i9) (v := (.int x)) (own_of (by omega)) (by rw [List.getElem?_map, hxx]; rfl) (hb hby d12_12) ?_
        show Goes p.tables e below (T.setTop (mkF m 13 #[.val (.ref p0), .val (.int (Int32.ofNat i9)), .val (.ref p2), .val (.int (Int32.ofNat i9)), .val (.int p4), .val (.int (Int32.ofNat i9)), sl] [(.int x)])) _
        refine g_istoreS X9 hx (hb hby d12_13) rfl hsl ?_
        show Goes p.tables e below (T.setTop (mkF m 15 #[.val (.ref p0), .val (.int (Int32.ofNat i9)), .val (.ref p2), .val (.int (Int32.ofNat i9)), .val (.int p4), .val (.int (Int32.ofNat i9)), .val (.int x)] [])) _
        refine g_iload X9 hx (hb hby d12_15) rfl ?_
        show Goes p.tables e below (T.setTop (mkF m 17 #[.val (.ref p0), .val (.int (Int32.ofNat i9)), .val (.ref p2), .val (.int (Int32.ofNat i9)), .val (.int p4), .val (.int (Int32.ofNat i9)), .val (.int x)] [(.int x)])) _
        refine g_sipush X9 hx (255 : Int32) (hb hby d12_17) (by decide) ?_
        show Goes p.tables e below (T.setTop (mkF m 20 #[.val (.ref p0), .val (.int (Int32.ofNat i9)), .val (.ref p2), .val (.int (Int32.ofNat i9)), .val (.int p4), .val (.int (Int32.ofNat i9)), .val (.int x)] [(.int (255 : Int32)), (.int x)])) _
        have c20 : ¬ (255 : Int32) < x := hlx.le
        refine g_icmp_le X9 hx (hb hby d12_20) (by decide) (pc' := 26) (by decide) (fun _ => ?_) (fun q => absurd q c20)
        show Goes p.tables e below (T.setTop (mkF m 26 #[.val (.ref p0), .val (.int (Int32.ofNat i9)), .val (.ref p2), .val (.int (Int32.ofNat i9)), .val (.int p4), .val (.int (Int32.ofNat i9)), .val (.int x)] [])) _
        refine g_aloadN X9 hx (hb hby d12_26) rfl rfl ?_
        show Goes p.tables e below (T.setTop (mkF m 27 #[.val (.ref p0), .val (.int (Int32.ofNat i9)), .val (.ref p2), .val (.int (Int32.ofNat i9)), .val (.int p4), .val (.int (Int32.ofNat i9)), .val (.int x)] [(.ref p2)])) _
        refine g_iloadN X9 hx (hb hby d12_27) rfl ?_
        show Goes p.tables e below (T.setTop (mkF m 28 #[.val (.ref p0), .val (.int (Int32.ofNat i9)), .val (.ref p2), .val (.int (Int32.ofNat i9)), .val (.int p4), .val (.int (Int32.ofNat i9)), .val (.int x)] [(.int (Int32.ofNat i9)), (.ref p2)])) _
        refine g_iload X9 hx (hb hby d12_28) rfl ?_
        show Goes p.tables e below (T.setTop (mkF m 30 #[.val (.ref p0), .val (.int (Int32.ofNat i9)), .val (.ref p2), .val (.int (Int32.ofNat i9)), .val (.int p4), .val (.int (Int32.ofNat i9)), .val (.int x)] [(.int x), (.int (Int32.ofNat i9)), (.ref p2)])) _
        refine g_i2b X9 hx (hb hby d12_30) ?_
        show Goes p.tables e below (T.setTop (mkF m 31 #[.val (.ref p0), .val (.int (Int32.ofNat i9)), .val (.ref p2), .val (.int (Int32.ofNat i9)), .val (.int p4), .val (.int (Int32.ofNat i9)), .val (.int x)] [(.int (Int8.toInt32 (Int32.toInt8 x))), (.int (Int32.ofNat i9)), (.ref p2)])) _
        refine g_bastore X9 hx hZ e9 B9 i9 (own_of (by omega)) (by rw [cpL_len _ _ _ hi9]; exact hlt) (B8 x) (by show B8 (B8 x) = B8 x; exact own_B8 x) (hb hby d12_31) (fun T1 h1 X1 e1 W1 A1 => ?_)
        have fx2 : Ar Z h1 p0 .char (xs.map Value.int) := Ar.other A9 W1 npd
        have fx3 : Ar Z h1 p2 .byte (List.set (cpL (fun x => Value.int (B8 x)) (Value.int (0 : Int32)) xs i9) i9 (.int (B8 x))) := A1
        have N4 := Fr.snoc X1 N9 gd
        have Z5 : n0 ≤ h1.size := by rw [W1.size]; exact Z9
        have K6 : Keep h0 h1 [p2] := Keep.wr K9 W1 (Or.inl (List.mem_of_getElem? (i := 0) rfl))
        show Goes p.tables e below (T1.setTop (mkF m 32 #[.val (.ref p0), .val (.int (Int32.ofNat i9)), .val (.ref p2), .val (.int (Int32.ofNat i9)), .val (.int p4), .val (.int (Int32.ofNat i9)), .val (.int x)] [])) _
        refine g_iinc X1 hx (1 : Int32) (hb hby d12_32) rfl rfl (l' := #[.val (.ref p0), .val (.int ((Int32.ofNat i9) + (1 : Int32))), .val (.ref p2), .val (.int (Int32.ofNat i9)), .val (.int p4), .val (.int (Int32.ofNat i9)), .val (.int x)]) rfl ?_
        show Goes p.tables e below (T1.setTop (mkF m 35 #[.val (.ref p0), .val (.int ((Int32.ofNat i9) + (1 : Int32))), .val (.ref p2), .val (.int (Int32.ofNat i9)), .val (.int p4), .val (.int (Int32.ofNat i9)), .val (.int x)] [])) _
        refine g_iinc X1 hx (1 : Int32) (hb hby d12_35) rfl rfl (l' := #[.val (.ref p0), .val (.int ((Int32.ofNat i9) + (1 : Int32))), .val (.ref p2), .val (.int ((Int32.ofNat i9) + (1 : Int32))), .val (.int p4), .val (.int (Int32.ofNat i9)), .val (.int x)]) rfl ?_
        show Goes p.tables e below (T1.setTop (mkF m 38 #[.val (.ref p0), .val (.int ((Int32.ofNat i9) + (1 : Int32))), .val (.ref p2), .val (.int ((Int32.ofNat i9) + (1 : Int32))), .val (.int p4), .val (.int (Int32.ofNat i9)), .val (.int x)] [])) _
        refine g_iinc X1 hx (1 : Int32) (hb hby d12_38) rfl rfl (l' := #[.val (.ref p0), .val (.int ((Int32.ofNat i9) + (1 : Int32))), .val (.ref p2), .val (.int ((Int32.ofNat i9) + (1 : Int32))), .val (.int p4), .val (.int ((Int32.ofNat i9) + (1 : Int32))), .val (.int x)]) rfl ?_
        show Goes p.tables e below (T1.setTop (mkF m 41 #[.val (.ref p0), .val (.int ((Int32.ofNat i9) + (1 : Int32))), .val (.ref p2), .val (.int ((Int32.ofNat i9) + (1 : Int32))), .val (.int p4), .val (.int ((Int32.ofNat i9) + (1 : Int32))), .val (.int x)] [])) _
        refine g_goto X1 hx (hb hby d12_41) (by decide) (pc' := 3) (by decide) ?_
        rw [own_succ]
        have BN := fx3
        rw [hset] at BN
        exact ih (xs.length - (i9 + 1)) (by omega) (i9 + 1) _ (One.val rfl) rfl (by omega) _ _ _ X1 e1 N4 Z5 K6 BN
  exact loop _ 0 .unset One.u rfl (Nat.zero_le _) _ _ _ X0 e0 N0 Z0 K0 (by rw [cpL_zero]; exact B0)
theorem d11_0 : decode jdk_52_method_16_code 0 = .ok (.iload_n 2, 1) := by decide +kernel
theorem d11_1 : decode jdk_52_method_16_code 1 = .ok (.newarray .byte, 2) := by decide +kernel
theorem d11_3 : decode jdk_52_method_16_code 3 = .ok (.astore_n 3, 1) := by decide +kernel
theorem d11_4 : decode jdk_52_method_16_code 4 = .ok (.aload_n 0, 1) := by decide +kernel
theorem d11_5 : decode jdk_52_method_16_code 5 = .ok (.iload_n 1, 1) := by decide +kernel
theorem d11_6 : decode jdk_52_method_16_code 6 = .ok (.aload_n 3, 1) := by decide +kernel
theorem d11_7 : decode jdk_52_method_16_code 7 = .ok (.iconst 0, 1) := by decide +kernel
theorem d11_8 : decode jdk_52_method_16_code 8 = .ok (.iload_n 2, 1) := by decide +kernel
theorem d11_9 : decode jdk_52_method_16_code 9 = .ok (.invokestatic 115, 3) := by decide +kernel
theorem d11_12 : decode jdk_52_method_16_code 12 = .ok (.istore 4, 2) := by decide +kernel
theorem d11_14 : decode jdk_52_method_16_code 14 = .ok (.iload 4, 2) := by decide +kernel
theorem d11_16 : decode jdk_52_method_16_code 16 = .ok (.iload_n 2, 1) := by decide +kernel
theorem d11_17 : decode jdk_52_method_16_code 17 = .ok (.if_icmp .eq 40, 3) := by decide +kernel
theorem d11_20 : decode jdk_52_method_16_code 20 = .ok (.aload_n 0, 1) := by decide +kernel
theorem d11_21 : decode jdk_52_method_16_code 21 = .ok (.iload_n 1, 1) := by decide +kernel
theorem d11_22 : decode jdk_52_method_16_code 22 = .ok (.iload_n 2, 1) := by decide +kernel
theorem d11_23 : decode jdk_52_method_16_code 23 = .ok (.invokestatic 119, 3) := by decide +kernel
theorem d11_26 : decode jdk_52_method_16_code 26 = .ok (.astore 5, 2) := by decide +kernel
theorem d11_28 : decode jdk_52_method_16_code 28 = .ok (.aload 5, 2) := by decide +kernel
theorem d11_30 : decode jdk_52_method_16_code 30 = .ok (.iload 4, 2) := by decide +kernel
theorem d11_32 : decode jdk_52_method_16_code 32 = .ok (.invokestatic 71, 3) := by decide +kernel
theorem d11_35 : decode jdk_52_method_16_code 35 = .ok (.sipush 255, 3) := by decide +kernel
theorem d11_38 : decode jdk_52_method_16_code 38 = .ok (.if_icmp .gt 16, 3) := by decide +kernel
theorem d11_41 : decode jdk_52_method_16_code 41 = .ok (.aload 5, 2) := by decide +kernel
theorem d11_43 : decode jdk_52_method_16_code 43 = .ok (.iconst 0, 1) := by decide +kernel
theorem d11_44 : decode jdk_52_method_16_code 44 = .ok (.aload_n 3, 1) := by decide +kernel
theorem d11_45 : decode jdk_52_method_16_code 45 = .ok (.iconst 0, 1) := by decide +kernel
theorem d11_46 : decode jdk_52_method_16_code 46 = .ok (.iload_n 2, 1) := by decide +kernel
theorem d11_47 : decode jdk_52_method_16_code 47 = .ok (.invokestatic 123, 3) := by decide +kernel
theorem d11_50 : decode jdk_52_method_16_code 50 = .ok (.iload_n 2, 1) := by decide +kernel
theorem d11_51 : decode jdk_52_method_16_code 51 = .ok (.if_icmp .eq 6, 3) := by decide +kernel
theorem d11_54 : decode jdk_52_method_16_code 54 = .ok (.aload 5, 2) := by decide +kernel
theorem d11_56 : decode jdk_52_method_16_code 56 = .ok (.areturn, 1) := by decide +kernel
theorem d11_57 : decode jdk_52_method_16_code 57 = .ok (.aload_n 3, 1) := by decide +kernel
theorem d11_58 : decode jdk_52_method_16_code 58 = .ok (.areturn, 1) := by decide +kernel
theorem pd_11 : parseMethodDescriptor "([CII)[B" = some ⟨[(.array .char), .int, .int], some (.array .byte)⟩ := by decide +kernel
theorem ef_11 (m : MethodId) (p0 : Addr) (p2 : Int32) : entryFrame m #[(.ref p0), (.int (0 : Int32)), (.int p2)] 6 = mkF m 0 #[.val (.ref p0), .val (.int (0 : Int32)), .val (.int p2), .unset, .unset, .unset] [] := by first | (simp [entryFrame, mkF, argsToLocals, Value.category]; done) | rfl
set_option maxRecDepth 65536 in
set_option maxHeartbeats 40000000 in
theorem rmCm (l : Launch) (Z : State) (a0 : Array Value) (hw : ∀ d ∈ tables_1, d.before a0 Z = true) (p0 : Addr) (p2 : Int32) (h0 : Heap) (n0 : Nat) (Z0 : n0 ≤ h0.size) (xs : List Int32) (hp : p2.toInt = xs.length) (hlat : ∀ x ∈ xs, Lat x) (hl2 : xs.length ≤ 2) (A0 : Ar Z h0 p0 .char (xs.map Value.int)) :
    Con l Z (⟨"java/lang/StringUTF16", "compress", "([CII)[B"⟩ : MethodName) jdk_52_method_16_code 6 (some (.array .byte)) [] ({ frames := 1, cells := 1, slots := 2, locals := 18 } : Room) 1 2 #[(.ref p0), (.int (0 : Int32)), (.int p2)] h0 (fun v h L => ∃ b, v = some (.ref b) ∧ n0 ≤ b ∧ h0.size ≤ b ∧ Fr n0 L ∧ Keep h0 h [] ∧ Ar Z h b .byte (xs.map fun x => Value.int (B8 x))) := by
  refine Con.body (plainFor_of_name (by first | (simp [plainName, overriddenIn]; done) | decide +kernel)) ?_
  intro p e s m below meth c T0 hx hby hml hown hnm hZ hret hlk X0 e0
  refine Goes.cast (ef_11 m p0 p2) ?_
  have N0 := Fr.nil n0
  have K0 : Keep h0 h0 [] := Keep.refl _ _
  show Goes p.tables e below (T0.setTop (mkF m 0 #[.val (.ref p0), .val (.int (0 : Int32)), .val (.int p2), .unset, .unset, .unset] [])) _
  refine g_iloadN X0 hx (hb hby d11_0) rfl ?_
  show Goes p.tables e below (T0.setTop (mkF m 1 #[.val (.ref p0), .val (.int (0 : Int32)), .val (.int p2), .unset, .unset, .unset] [(.int p2)])) _
  refine g_newarr X0 hx hZ e0 (hw _ (List.mem_of_getElem? (i := 19) rfl)) (hb hby d11_1) (n := xs.length) hp 2 (by omega) (by decide) (by decide) (by decide) (ad := "[B") (by decide) rfl (fun T1 h1 a1 ga1 X1 e1 Ex1 Aa1 Ea1 => ?_)
  have ne2 : p0 ≠ a1 := Nat.ne_of_lt (by rw [ga1]; exact A0.lt)
  have ge3 : n0 ≤ a1 := by rw [ga1]; exact Z0
  have ge4 : h0.size ≤ a1 := by rw [ga1]; exact K0.1
  have fx5 : Ar Z h1 p0 .char (xs.map Value.int) := Ar.ext A0 Ex1
  have Z6 : n0 ≤ h1.size := Nat.le_trans Z0 Ex1.1
  have K7 : Keep h0 h1 [] := Keep.ext K0 Ex1
  have fx8 : Ar Z h1 a1 .byte (List.replicate xs.length (.int (0 : Int32))) := Aa1
  show Goes p.tables e below (T1.setTop (mkF m 3 #[.val (.ref p0), .val (.int (0 : Int32)), .val (.int p2), .unset, .unset, .unset] [(.ref a1)])) _
  refine g_astoreN X1 hx (hb hby d11_3) rfl (l' := #[.val (.ref p0), .val (.int (0 : Int32)), .val (.int p2), .val (.ref a1), .unset, .unset]) rfl ?_
  show Goes p.tables e below (T1.setTop (mkF m 4 #[.val (.ref p0), .val (.int (0 : Int32)), .val (.int p2), .val (.ref a1), .unset, .unset] [])) _
  refine g_aloadN X1 hx (hb hby d11_4) rfl rfl ?_
  show Goes p.tables e below (T1.setTop (mkF m 5 #[.val (.ref p0), .val (.int (0 : Int32)), .val (.int p2), .val (.ref a1), .unset, .unset] [(.ref p0)])) _
  refine g_iloadN X1 hx (hb hby d11_5) rfl ?_
  show Goes p.tables e below (T1.setTop (mkF m 6 #[.val (.ref p0), .val (.int (0 : Int32)), .val (.int p2), .val (.ref a1), .unset, .unset] [(.int (0 : Int32)), (.ref p0)])) _
  refine g_aloadN X1 hx (hb hby d11_6) rfl rfl ?_
  show Goes p.tables e below (T1.setTop (mkF m 7 #[.val (.ref p0), .val (.int (0 : Int32)), .val (.int p2), .val (.ref a1), .unset, .unset] [(.ref a1), (.int (0 : Int32)), (.ref p0)])) _
  refine g_iconst X1 hx (0 : Int32) (hb hby d11_7) rfl ?_
  show Goes p.tables e below (T1.setTop (mkF m 8 #[.val (.ref p0), .val (.int (0 : Int32)), .val (.int p2), .val (.ref a1), .unset, .unset] [(.int (0 : Int32)), (.ref a1), (.int (0 : Int32)), (.ref p0)])) _
  refine g_iloadN X1 hx (hb hby d11_8) rfl ?_
  show Goes p.tables e below (T1.setTop (mkF m 9 #[.val (.ref p0), .val (.int (0 : Int32)), .val (.int p2), .val (.ref a1), .unset, .unset] [(.int p2), (.int (0 : Int32)), (.ref a1), (.int (0 : Int32)), (.ref p0)])) _
  refine g_callS X1 hx hZ hown (by rw [hml]; rfl) e1 (hw _ (List.mem_of_getElem? (i := 74) rfl)) (hw _ (List.mem_of_getElem? (i := 75) rfl)) (hw _ (List.mem_of_getElem? (i := 72) rfl)) (hw _ (List.mem_of_getElem? (i := 76) rfl)) (rmCp l Z a0 hw p0 a1 p2 h1 n0 Z6 xs hp hlat fx5 fx8 ne2 ge3) [(.ref p0), (.int (0 : Int32)), (.ref a1), (.int (0 : Int32)), (.int p2)] rfl [] rfl (lenOf pd_12 rfl) (hb hby d11_9) (by decide) 0 (by decide) (by decide) (by first | decide | exact Nat.le_refl _) (by decide) (by decide) (fun v T9 L9 X9 hQ9 => ?_)
  obtain ⟨rfl, Nc9, Kc9, Ac9⟩ := hQ9
  have Kz : Keep h0 T9.heap [] := K7.trans Kc9 (allS (Or.inr ge4) all0)
  have N10 := Fr.app N0 Nc9
  show Goes p.tables e below (T9.setTop (mkF m 12 #[.val (.ref p0), .val (.int (0 : Int32)), .val (.int p2), .val (.ref a1), .unset, .unset] [(.int p2)])) _
  refine g_istore X9 hx (hb hby d11_12) (l' := #[.val (.ref p0), .val (.int (0 : Int32)), .val (.int p2), .val (.ref a1), .val (.int p2), .unset]) rfl ?_
  show Goes p.tables e below (T9.setTop (mkF m 14 #[.val (.ref p0), .val (.int (0 : Int32)), .val (.int p2), .val (.ref a1), .val (.int p2), .unset] [])) _
  refine g_iload X9 hx (hb hby d11_14) rfl ?_
  show Goes p.tables e below (T9.setTop (mkF m 16 #[.val (.ref p0), .val (.int (0 : Int32)), .val (.int p2), .val (.ref a1), .val (.int p2), .unset] [(.int p2)])) _
  refine g_iloadN X9 hx (hb hby d11_16) rfl ?_
  show Goes p.tables e below (T9.setTop (mkF m 17 #[.val (.ref p0), .val (.int (0 : Int32)), .val (.int p2), .val (.ref a1), .val (.int p2), .unset] [(.int p2), (.int p2)])) _
  have c17 : p2 = p2 := rfl
  refine g_icmp_eq X9 hx (hb hby d11_17) (by decide) (pc' := 57) (by decide) (fun _ => ?_) (fun q => absurd c17 q)
  show Goes p.tables e below (T9.setTop (mkF m 57 #[.val (.ref p0), .val (.int (0 : Int32)), .val (.int p2), .val (.ref a1), .val (.int p2), .unset] [])) _
  refine g_aloadN X9 hx (hb hby d11_57) rfl rfl ?_
  show Goes p.tables e below (T9.setTop (mkF m 58 #[.val (.ref p0), .val (.int (0 : Int32)), .val (.int p2), .val (.ref a1), .val (.int p2), .unset] [(.ref a1)])) _
  exact g_retA X9 hx hret hlk rfl rfl (hb hby d11_58) (by decide) (by decide) ⟨a1, rfl, ge3, ge4, N10, Kz, Ac9⟩
theorem d13_0 : decode jdk_52_method_15_code 0 = .ok (.iload_n 1, 1) := by decide +kernel
theorem d13_1 : decode jdk_52_method_15_code 1 = .ok (.aload_n 0, 1) := by decide +kernel
theorem d13_2 : decode jdk_52_method_15_code 2 = .ok (.arraylength, 1) := by decide +kernel
theorem d13_3 : decode jdk_52_method_15_code 3 = .ok (.isub, 1) := by decide +kernel
theorem d13_4 : decode jdk_52_method_15_code 4 = .ok (.bipush 31, 2) := by decide +kernel
theorem d13_6 : decode jdk_52_method_15_code 6 = .ok (.iushr, 1) := by decide +kernel
theorem d13_7 : decode jdk_52_method_15_code 7 = .ok (.i2b, 1) := by decide +kernel
theorem d13_8 : decode jdk_52_method_15_code 8 = .ok (.ireturn, 1) := by decide +kernel
theorem pd_13 : parseMethodDescriptor "([BI)B" = some ⟨[(.array .byte), .int], some .byte⟩ := by decide +kernel
theorem ef_13 (m : MethodId) (p0 : Addr) (p1 : Int32) : entryFrame m #[(.ref p0), (.int p1)] 2 = mkF m 0 #[.val (.ref p0), .val (.int p1)] [] := by first | (simp [entryFrame, mkF, argsToLocals, Value.category]; done) | rfl
set_option maxRecDepth 65536 in
set_option maxHeartbeats 40000000 in
theorem rmCf (l : Launch) (Z : State) (a0 : Array Value) (hw : ∀ d ∈ tables_1, d.before a0 Z = true) (p0 : Addr) (p1 : Int32) (h0 : Heap) (n0 : Nat) (Z0 : n0 ≤ h0.size) (vs : List Value) (hp : p1.toInt = vs.length) (A0 : Ar Z h0 p0 .byte vs) :
    Con l Z (⟨"java/lang/StringUTF16", "coderFromArrayLen", "([BI)B"⟩ : MethodName) jdk_52_method_15_code 2 (some .byte) [] ({ frames := 0, cells := 0, slots := 0, locals := 0 } : Room) 0 0 #[(.ref p0), (.int p1)] h0 (fun v h L => v = some (.int 0) ∧ h = h0 ∧ L = []) := by
  refine Con.body (plainFor_of_name (by first | (simp [plainName, overriddenIn]; done) | decide +kernel)) ?_
  intro p e s m below meth c T0 hx hby hml hown hnm hZ hret hlk X0 e0
  refine Goes.cast (ef_13 m p0 p1) ?_
  have N0 := Fr.nil n0
  show Goes p.tables e below (T0.setTop (mkF m 0 #[.val (.ref p0), .val (.int p1)] [])) _
  refine g_iloadN X0 hx (hb hby d13_0) rfl ?_
  show Goes p.tables e below (T0.setTop (mkF m 1 #[.val (.ref p0), .val (.int p1)] [(.int p1)])) _
  refine g_aloadN X0 hx (hb hby d13_1) rfl rfl ?_
  show Goes p.tables e below (T0.setTop (mkF m 2 #[.val (.ref p0), .val (.int p1)] [(.ref p0), (.int p1)])) _
  refine g_alen X0 hx hZ e0 A0 p1 hp (hb hby d13_2) ?_
  show Goes p.tables e below (T0.setTop (mkF m 3 #[.val (.ref p0), .val (.int p1)] [(.int p1), (.int p1)])) _
  refine g_isub X0 hx (hb hby d13_3) ?_
  show Goes p.tables e below (T0.setTop (mkF m 4 #[.val (.ref p0), .val (.int p1)] [(.int (p1 - p1))])) _
  refine g_bipush X0 hx (31 : Int32) (hb hby d13_4) (by decide) ?_
  show Goes p.tables e below (T0.setTop (mkF m 6 #[.val (.ref p0), .val (.int p1)] [(.int (31 : Int32)), (.int (p1 - p1))])) _
  refine g_iushr X0 hx (hb hby d13_6) ?_
  show Goes p.tables e below (T0.setTop (mkF m 7 #[.val (.ref p0), .val (.int p1)] [(.int (XT.ushr (p1 - p1) (31 : Int32)))])) _
  refine g_i2b X0 hx (hb hby d13_7) ?_
  show Goes p.tables e below (T0.setTop (mkF m 8 #[.val (.ref p0), .val (.int p1)] [(.int (Int8.toInt32 (Int32.toInt8 (XT.ushr (p1 - p1) (31 : Int32)))))])) _
  exact g_retB X0 hx (hz := (by rw [Int32.sub_self]; decide)) hret hlk (hb hby d13_8) (by decide) (by decide) ⟨by rw [Int32.sub_self]; first | rfl | decide, e0, rfl⟩
theorem own_nil {xs : List Int32} (h : xs.length = 0) : xs = [] := List.eq_nil_of_length_eq_zero h
theorem d3_0 : decode jdk_42_method_149_code 0 = .ok (.aload_n 0, 1) := by decide +kernel
theorem d3_1 : decode jdk_42_method_149_code 1 = .ok (.invokespecial 1, 3) := by decide +kernel
theorem d3_4 : decode jdk_42_method_149_code 4 = .ok (.iload_n 3, 1) := by decide +kernel
theorem d3_5 : decode jdk_42_method_149_code 5 = .ok (.ifCond .ne 22, 3) := by decide +kernel
theorem d3_8 : decode jdk_42_method_149_code 8 = .ok (.aload_n 0, 1) := by decide +kernel
theorem d3_9 : decode jdk_42_method_149_code 9 = .ok (.ldc 7, 2) := by decide +kernel
theorem d3_11 : decode jdk_42_method_149_code 11 = .ok (.getfield 9, 3) := by decide +kernel
theorem d3_14 : decode jdk_42_method_149_code 14 = .ok (.putfield 9, 3) := by decide +kernel
theorem d3_17 : decode jdk_42_method_149_code 17 = .ok (.aload_n 0, 1) := by decide +kernel
theorem d3_18 : decode jdk_42_method_149_code 18 = .ok (.ldc 7, 2) := by decide +kernel
theorem d3_20 : decode jdk_42_method_149_code 20 = .ok (.getfield 15, 3) := by decide +kernel
theorem d3_23 : decode jdk_42_method_149_code 23 = .ok (.putfield 15, 3) := by decide +kernel
theorem d3_26 : decode jdk_42_method_149_code 26 = .ok (.return_, 1) := by decide +kernel
theorem d3_27 : decode jdk_42_method_149_code 27 = .ok (.getstatic 38, 3) := by decide +kernel
theorem d3_30 : decode jdk_42_method_149_code 30 = .ok (.ifCond .eq 28, 3) := by decide +kernel
theorem d3_33 : decode jdk_42_method_149_code 33 = .ok (.aload_n 1, 1) := by decide +kernel
theorem d3_34 : decode jdk_42_method_149_code 34 = .ok (.iload_n 2, 1) := by decide +kernel
theorem d3_35 : decode jdk_42_method_149_code 35 = .ok (.iload_n 3, 1) := by decide +kernel
theorem d3_36 : decode jdk_42_method_149_code 36 = .ok (.invokestatic 177, 3) := by decide +kernel
theorem d3_39 : decode jdk_42_method_149_code 39 = .ok (.astore 5, 2) := by decide +kernel
theorem d3_41 : decode jdk_42_method_149_code 41 = .ok (.aload_n 0, 1) := by decide +kernel
theorem d3_42 : decode jdk_42_method_149_code 42 = .ok (.aload 5, 2) := by decide +kernel
theorem d3_44 : decode jdk_42_method_149_code 44 = .ok (.iload_n 3, 1) := by decide +kernel
theorem d3_45 : decode jdk_42_method_149_code 45 = .ok (.invokestatic 47, 3) := by decide +kernel
theorem d3_48 : decode jdk_42_method_149_code 48 = .ok (.putfield 15, 3) := by decide +kernel
theorem d3_51 : decode jdk_42_method_149_code 51 = .ok (.aload_n 0, 1) := by decide +kernel
theorem d3_52 : decode jdk_42_method_149_code 52 = .ok (.aload 5, 2) := by decide +kernel
theorem d3_54 : decode jdk_42_method_149_code 54 = .ok (.putfield 9, 3) := by decide +kernel
theorem d3_57 : decode jdk_42_method_149_code 57 = .ok (.return_, 1) := by decide +kernel
theorem d3_58 : decode jdk_42_method_149_code 58 = .ok (.aload_n 0, 1) := by decide +kernel
theorem d3_59 : decode jdk_42_method_149_code 59 = .ok (.iconst 1, 1) := by decide +kernel
theorem d3_60 : decode jdk_42_method_149_code 60 = .ok (.putfield 15, 3) := by decide +kernel
theorem d3_63 : decode jdk_42_method_149_code 63 = .ok (.aload_n 0, 1) := by decide +kernel
theorem d3_64 : decode jdk_42_method_149_code 64 = .ok (.aload_n 1, 1) := by decide +kernel
theorem d3_65 : decode jdk_42_method_149_code 65 = .ok (.iload_n 2, 1) := by decide +kernel
theorem d3_66 : decode jdk_42_method_149_code 66 = .ok (.iload_n 3, 1) := by decide +kernel
theorem d3_67 : decode jdk_42_method_149_code 67 = .ok (.invokestatic 180, 3) := by decide +kernel
theorem d3_70 : decode jdk_42_method_149_code 70 = .ok (.putfield 9, 3) := by decide +kernel
theorem d3_73 : decode jdk_42_method_149_code 73 = .ok (.return_, 1) := by decide +kernel
theorem pd_3 : parseMethodDescriptor "([CIILjava/lang/Void;)V" = some ⟨[(.array .char), .int, .int, (.object "java/lang/Void")], none⟩ := by decide +kernel
theorem ef_3 (m : MethodId) (p0 : Addr) (p1 : Addr) (p3 : Int32) : entryFrame m #[(.ref p0), (.ref p1), (.int (0 : Int32)), (.int p3), .null] 6 = mkF m 0 #[.val (.ref p0), .val (.ref p1), .val (.int (0 : Int32)), .val (.int p3), .val .null, .unset] [] := by first | (simp [entryFrame, mkF, argsToLocals, Value.category]; done) | rfl
set_option maxRecDepth 65536 in
set_option maxHeartbeats 40000000 in
theorem rmSI (l : Launch) (Z : State) (a0 : Array Value) (hw : ∀ d ∈ tables_1, d.before a0 Z = true) (p0 : Addr) (p1 : Addr) (p3 : Int32) (h0 : Heap) (n0 : Nat) (Z0 : n0 ≤ h0.size) (xs : List Int32) (hp : p3.toInt = xs.length) (hlat : ∀ x ∈ xs, Lat x) (hl2 : xs.length ≤ 2) (A0 : Ar Z h0 p1 .char (xs.map Value.int)) (f1 : Fld Z h0 p0 "java/lang/String" "value" "[B" .null) (f2 : Fld Z h0 p0 "java/lang/String" "coder" "B" (.int (0 : Int32))) (E0 : Exa Z h0 p0 "java/lang/String") (ga : n0 ≤ p0) (cs : Int32) (hcs : ¬ cs = 0) (SC : Sta Z h0 "java/lang/String" "COMPACT_STRINGS" "Z" (.int cs)) :
    ConH l Z EL1 (⟨"java/lang/String", "<init>", "([CIILjava/lang/Void;)V"⟩ : MethodName) jdk_42_method_149_code 6 none [] ({ frames := 2, cells := 4, slots := 8, locals := 35 } : Room) 4 8 #[(.ref p0), (.ref p1), (.int (0 : Int32)), (.int p3), .null] h0 (fun v h L => v = none ∧ Fr n0 L ∧ Keep h0 h [p0] ∧ ∃ b, Fld Z h p0 "java/lang/String" "value" "[B" (.ref b) ∧ Fld Z h p0 "java/lang/String" "coder" "B" (.int (0 : Int32)) ∧ Ar Z h b .byte ((xs.map B8).map Value.int)) := by
  refine ConH.body (plainFor_of_name (by first | (simp [plainName, overriddenIn]; done) | decide +kernel)) ?_
  intro p e s m below meth c T0 hx hby hml hown hnm hZ hret hlk hS CH X0 e0
  have hk0 : 0 ≤ h0.size := Nat.zero_le _
  have hEL := el_1 hw
  have wS := ws_1 hw
  refine Goes.cast (ef_3 m p0 p1 p3) ?_
  have N0 := Fr.nil n0
  have K0 : Keep h0 h0 [p0] := Keep.refl _ _
  have S0 : Safe Z EL1 s.vm h0 p0 := own_safeNull hZ.alike E0 f1
  show Goes p.tables e below (T0.setTop (mkF m 0 #[.val (.ref p0), .val (.ref p1), .val (.int (0 : Int32)), .val (.int p3), .val .null, .unset] [])) _
  refine g_aloadN X0 hx (hb hby d3_0) rfl rfl ?_
  show Goes p.tables e below (T0.setTop (mkF m 1 #[.val (.ref p0), .val (.ref p1), .val (.int (0 : Int32)), .val (.int p3), .val .null, .unset] [(.ref p0)])) _
  refine g_init0 X0 hx hZ hown (by rw [hml]; rfl) e0 (hw _ (List.mem_of_getElem? (i := 15) rfl)) (hw _ (List.mem_of_getElem? (i := 16) rfl)) (hw _ (List.mem_of_getElem? (i := 17) rfl)) (hb hby d3_1) 0 (by decide) (by first | decide | exact Nat.le_refl _) (by first | decide | exact Nat.le_refl _) (fun T1 X1 e1 => ?_)
  show Goes p.tables e below (T1.setTop (mkF m 4 #[.val (.ref p0), .val (.ref p1), .val (.int (0 : Int32)), .val (.int p3), .val .null, .unset] [])) _
  refine g_iloadN X1 hx (hb hby d3_4) rfl ?_
  show Goes p.tables e below (T1.setTop (mkF m 5 #[.val (.ref p0), .val (.ref p1), .val (.int (0 : Int32)), .val (.int p3), .val .null, .unset] [(.int p3)])) _
  refine g_if_ne X1 hx (hb hby d3_5) (by decide) (pc' := 27) (by decide) (fun c5 => ?_) (fun c5 => ?_)
  · skip
    show Goes p.tables e below (T1.setTop (mkF m 27 #[.val (.ref p0), .val (.ref p1), .val (.int (0 : Int32)), .val (.int p3), .val .null, .unset] [])) _
    refine g_getS X1 hx hZ hown e1 (host := "") (Or.inl (hw _ (List.mem_of_getElem? (i := 61) rfl))) SC (hb hby d3_27) (fun T2 X2 e2 => ?_)
    show Goes p.tables e below (T2.setTop (mkF m 30 #[.val (.ref p0), .val (.ref p1), .val (.int (0 : Int32)), .val (.int p3), .val .null, .unset] [(.int cs)])) _
    have c30 : ¬ cs = 0 := hcs
    refine g_if_eq X2 hx (hb hby d3_30) (by decide) (pc' := 58) (by decide) (fun q => absurd q c30) (fun _ => ?_)
    show Goes p.tables e below (T2.setTop (mkF m 33 #[.val (.ref p0), .val (.ref p1), .val (.int (0 : Int32)), .val (.int p3), .val .null, .unset] [])) _
    refine g_aloadN X2 hx (hb hby d3_33) rfl rfl ?_
    show Goes p.tables e below (T2.setTop (mkF m 34 #[.val (.ref p0), .val (.ref p1), .val (.int (0 : Int32)), .val (.int p3), .val .null, .unset] [(.ref p1)])) _
    refine g_iloadN X2 hx (hb hby d3_34) rfl ?_
    show Goes p.tables e below (T2.setTop (mkF m 35 #[.val (.ref p0), .val (.ref p1), .val (.int (0 : Int32)), .val (.int p3), .val .null, .unset] [(.int (0 : Int32)), (.ref p1)])) _
    refine g_iloadN X2 hx (hb hby d3_35) rfl ?_
    show Goes p.tables e below (T2.setTop (mkF m 36 #[.val (.ref p0), .val (.ref p1), .val (.int (0 : Int32)), .val (.int p3), .val .null, .unset] [(.int p3), (.int (0 : Int32)), (.ref p1)])) _
    refine g_callS X2 hx hZ hown (by rw [hml]; rfl) e2 (hw _ (List.mem_of_getElem? (i := 70) rfl)) (hw _ (List.mem_of_getElem? (i := 71) rfl)) (hw _ (List.mem_of_getElem? (i := 72) rfl)) (hw _ (List.mem_of_getElem? (i := 73) rfl)) (rmCm l Z a0 hw p1 p3 h0 n0 Z0 xs hp hlat hl2 A0) [(.ref p1), (.int (0 : Int32)), (.int p3)] rfl [] rfl (lenOf pd_11 rfl) (hb hby d3_36) (by decide) 0 (by decide) (by decide) (by first | decide | exact Nat.le_refl _) (by decide) (by decide) (fun v T3 L3 X3 hQ3 => ?_)
    obtain ⟨b, rfl, gb, hgb, Nb, Kb, Ab⟩ := hQ3
    have nbp : b ≠ p0 := Nat.ne_of_gt (Nat.lt_of_lt_of_le E0.lt hgb)
    have fx4 : Fld Z T3.heap p0 "java/lang/String" "value" "[B" .null := Fld.keep f1 Kb nin0
    have fx5 : Fld Z T3.heap p0 "java/lang/String" "coder" "B" (.int (0 : Int32)) := Fld.keep f2 Kb nin0
    have fx6 : Exa Z T3.heap p0 "java/lang/String" := Exa.keep E0 Kb
    have fx7 : Sta Z T3.heap "java/lang/String" "COMPACT_STRINGS" "Z" (.int cs) := own_stakeep SC Kb all0
    have N8 := Fr.app N0 Nb
    have Z9 : n0 ≤ T3.heap.size := Nat.le_trans Z0 Kb.1
    have C9 := CHr.keep Kb all0 CH.1
    have S0 := Safe.keep Kb all0 CH.1 S0
    have hk0 := Nat.le_trans hk0 C9.2.1
    have CH := CH.trans C9
    have K10 : Keep h0 T3.heap [p0] := K0.trans Kb all0
    show Goes p.tables e below (T3.setTop (mkF m 39 #[.val (.ref p0), .val (.ref p1), .val (.int (0 : Int32)), .val (.int p3), .val .null, .unset] [(.ref b)])) _
    refine g_astore X3 hx (hb hby d3_39) rfl (l' := #[.val (.ref p0), .val (.ref p1), .val (.int (0 : Int32)), .val (.int p3), .val .null, .val (.ref b)]) rfl ?_
    show Goes p.tables e below (T3.setTop (mkF m 41 #[.val (.ref p0), .val (.ref p1), .val (.int (0 : Int32)), .val (.int p3), .val .null, .val (.ref b)] [])) _
    refine g_aloadN X3 hx (hb hby d3_41) rfl rfl ?_
    show Goes p.tables e below (T3.setTop (mkF m 42 #[.val (.ref p0), .val (.ref p1), .val (.int (0 : Int32)), .val (.int p3), .val .null, .val (.ref b)] [(.ref p0)])) _
    refine g_aload X3 hx (hb hby d3_42) rfl rfl ?_
    show Goes p.tables e below (T3.setTop (mkF m 44 #[.val (.ref p0), .val (.ref p1), .val (.int (0 : Int32)), .val (.int p3), .val .null, .val (.ref b)] [(.ref b), (.ref p0)])) _
    refine g_iloadN X3 hx (hb hby d3_44) rfl ?_
    show Goes p.tables e below (T3.setTop (mkF m 45 #[.val (.ref p0), .val (.ref p1), .val (.int (0 : Int32)), .val (.int p3), .val .null, .val (.ref b)] [(.int p3), (.ref b), (.ref p0)])) _
    refine g_callS X3 hx hZ hown (by rw [hml]; rfl) rfl (hw _ (List.mem_of_getElem? (i := 77) rfl)) (hw _ (List.mem_of_getElem? (i := 78) rfl)) (hw _ (List.mem_of_getElem? (i := 72) rfl)) (hw _ (List.mem_of_getElem? (i := 79) rfl)) (rmCf l Z a0 hw b p3 T3.heap n0 Z9 (xs.map fun x => Value.int (B8 x)) (by rw [List.length_map]; exact hp) Ab) [(.ref b), (.int p3)] rfl [(.ref p0)] rfl (lenOf pd_13 rfl) (hb hby d3_45) (by decide) 1 (by decide) (by decide) (by first | decide | exact Nat.le_refl _) (by decide) (by decide) (fun v T11 L11 X11 hQ11 => ?_)
    obtain ⟨rfl, e11, rfl⟩ := hQ11
    have N12 := Fr.app N8 (Fr.nil n0)
    show Goes p.tables e below (T11.setTop (mkF m 48 #[.val (.ref p0), .val (.ref p1), .val (.int (0 : Int32)), .val (.int p3), .val .null, .val (.ref b)] [(.int (0 : Int32)), (.ref p0)])) _
    refine g_putF X11 hx hZ hown e11 (hw _ (List.mem_of_getElem? (i := 25) rfl)) Via.refl (v' := (.int (0 : Int32))) fx5 fx6 (Or.inr ⟨(hw _ (List.mem_of_getElem? (i := 21) rfl)), rfl, hnm⟩) (hw _ (List.mem_of_getElem? (i := 5) rfl)) (ty := .byte) (by decide) rfl rfl (hb hby d3_48) (fun T13 h13 X13 e13 W13 => ?_)
    have fx14 : Fld Z h13 p0 "java/lang/String" "value" "[B" .null := Fld.other W13 fx4 (Or.inr (slot_ne (t := (.array .byte)) (t' := .byte) (Or.inr (hw _ (List.mem_of_getElem? (i := 20) rfl))) (Or.inr (hw _ (List.mem_of_getElem? (i := 21) rfl))) (by decide) (by decide) (by decide)))
    have fx15 : Exa Z h13 p0 "java/lang/String" := Exa.wr W13 fx6
    have fx16 : Sta Z h13 "java/lang/String" "COMPACT_STRINGS" "Z" (.int cs) := Sta.wr W13 fx7
    have fx17 : Ar Z h13 b .byte (xs.map fun x => Value.int (B8 x)) := Ar.other Ab W13 nbp
    have fx18 : Fld Z h13 p0 "java/lang/String" "coder" "B" (.int (0 : Int32)) := Fld.same W13 fx5
    have N19 := Fr.snoc X13 N12 ga
    have Z20 : n0 ≤ h13.size := by rw [W13.size]; exact Z9
    have K21 : Keep h0 h13 [p0] := Keep.wr K10 W13 (Or.inl (List.mem_of_getElem? (i := 0) rfl))
    have C9 := CHr.wr W13 S0 CH.1
    have Sn := Safe.wr W13 S0 CH.1 S0
    have S0 := Sn
    have hk0 := Nat.le_trans hk0 C9.2.1
    have CH := CH.trans C9
    show Goes p.tables e below (T13.setTop (mkF m 51 #[.val (.ref p0), .val (.ref p1), .val (.int (0 : Int32)), .val (.int p3), .val .null, .val (.ref b)] [])) _
    refine g_aloadN X13 hx (hb hby d3_51) rfl rfl ?_
    show Goes p.tables e below (T13.setTop (mkF m 52 #[.val (.ref p0), .val (.ref p1), .val (.int (0 : Int32)), .val (.int p3), .val .null, .val (.ref b)] [(.ref p0)])) _
    refine g_aload X13 hx (hb hby d3_52) rfl rfl ?_
    show Goes p.tables e below (T13.setTop (mkF m 54 #[.val (.ref p0), .val (.ref p1), .val (.int (0 : Int32)), .val (.int p3), .val .null, .val (.ref b)] [(.ref b), (.ref p0)])) _
    refine g_putF X13 hx hZ hown e13 (hw _ (List.mem_of_getElem? (i := 24) rfl)) Via.refl (v' := (.ref b)) fx14 fx15 (Or.inr ⟨(hw _ (List.mem_of_getElem? (i := 20) rfl)), rfl, hnm⟩) (hw _ (List.mem_of_getElem? (i := 5) rfl)) (ty := (.array .byte)) (by decide) rfl rfl (hb hby d3_54) (fun T22 h22 X22 e22 W22 => ?_)
    have fx23 : Exa Z h22 p0 "java/lang/String" := Exa.wr W22 fx15
    have fx24 : Sta Z h22 "java/lang/String" "COMPACT_STRINGS" "Z" (.int cs) := Sta.wr W22 fx16
    have fx25 : Ar Z h22 b .byte (xs.map fun x => Value.int (B8 x)) := Ar.other fx17 W22 nbp
    have fx26 : Fld Z h22 p0 "java/lang/String" "coder" "B" (.int (0 : Int32)) := Fld.other W22 fx18 (Or.inr (slot_ne (t := .byte) (t' := (.array .byte)) (Or.inr (hw _ (List.mem_of_getElem? (i := 21) rfl))) (Or.inr (hw _ (List.mem_of_getElem? (i := 20) rfl))) (by decide) (by decide) (by decide)))
    have fx27 : Fld Z h22 p0 "java/lang/String" "value" "[B" (.ref b) := Fld.same W22 fx14
    have N28 := Fr.snoc X22 N19 ga
    have Z29 : n0 ≤ h22.size := by rw [W22.size]; exact Z20
    have K30 : Keep h0 h22 [p0] := Keep.wr K21 W22 (Or.inl (List.mem_of_getElem? (i := 0) rfl))
    have C9 := CHr.wr W22 S0 CH.1
    have Sn := Safe.wr W22 S0 CH.1 S0
    have S0 := Sn
    have hk0 := Nat.le_trans hk0 C9.2.1
    have CH := CH.trans C9
    show Goes p.tables e below (T22.setTop (mkF m 57 #[.val (.ref p0), .val (.ref p1), .val (.int (0 : Int32)), .val (.int p3), .val .null, .val (.ref b)] [])) _
    exact g_retH0 X22 hx hZ hEL hS (by rw [e22]; exact hk0) (by rw [e22]; exact CH) hret hlk (hb hby d3_57) (by decide) (by decide) (by rw [e22]; exact ⟨rfl, N28, K30, b, fx27, fx26, (by rw [List.map_map]; exact fx25)⟩)
  · skip
    show Goes p.tables e below (T1.setTop (mkF m 8 #[.val (.ref p0), .val (.ref p1), .val (.int (0 : Int32)), .val (.int p3), .val .null, .unset] [])) _
    show Goes p.tables e below (T1.setTop (mkF m 8 #[.val (.ref p0), .val (.ref p1), .val (.int (0 : Int32)), .val (.int p3), .val .null, .unset] [])) _
    refine g_aloadN X1 hx (hb hby d3_8) rfl rfl ?_
    show Goes p.tables e below (T1.setTop (mkF m 9 #[.val (.ref p0), .val (.ref p1), .val (.int (0 : Int32)), .val (.int p3), .val .null, .unset] [(.ref p0)])) _
    refine g_ldcH X1 hx hZ hown e1 (text := "") (hw _ (List.mem_of_getElem? (i := 18) rfl)) wS hS hk0 hEL (List.mem_of_getElem? (i := 0) rfl) CH (vs := []) (0 : Int32) ⟨by first | simp | decide, by first | simp | rfl⟩ (by decide) (by decide) (by decide) (hb hby d3_9) 0 (by first | simp | decide) (by decide) (by decide) (by decide) (fun T31 h31 a31 b31 k31 X31 e31 Ex31 hS hk0 hZ hown Ea31 Fc31 Fv31 Ab31 C9 Sf31 => ?_)
    have fx32 : Fld Z h31 p0 "java/lang/String" "value" "[B" .null := Fld.ext Ex31 f1
    have fx33 : Fld Z h31 p0 "java/lang/String" "coder" "B" (.int (0 : Int32)) := Fld.ext Ex31 f2
    have fx34 : Exa Z h31 p0 "java/lang/String" := Exa.ext Ex31 E0
    have fx35 : Sta Z h31 "java/lang/String" "COMPACT_STRINGS" "Z" (.int cs) := Sta.ext Ex31 SC
    have Z36 : n0 ≤ h31.size := Nat.le_trans Z0 Ex31.1
    have K37 : Keep h0 h31 [p0] := Keep.ext K0 Ex31
    have S0 := CHr.safe C9 E0.lt S0
    have na31 : p0 ≠ a31 := (Sf31 _ S0).1
    have nb31 : p0 ≠ b31 := (Sf31 _ S0).2
    have CH := CH.trans C9
    show Goes p.tables e below (T31.setTop (mkF m 11 #[.val (.ref p0), .val (.ref p1), .val (.int (0 : Int32)), .val (.int p3), .val .null, .unset] [(.ref a31), (.ref p0)])) _
    refine g_getF X31 hx hZ hown e31 (host := "") (Or.inl (hw _ (List.mem_of_getElem? (i := 24) rfl))) Via.refl Fv31 (hb hby d3_11) (fun T38 X38 e38 => ?_)
    show Goes p.tables e below (T38.setTop (mkF m 14 #[.val (.ref p0), .val (.ref p1), .val (.int (0 : Int32)), .val (.int p3), .val .null, .unset] [(.ref b31), (.ref p0)])) _
    refine g_putF X38 hx hZ hown e38 (hw _ (List.mem_of_getElem? (i := 24) rfl)) Via.refl (v' := (.ref b31)) fx32 fx34 (Or.inr ⟨(hw _ (List.mem_of_getElem? (i := 20) rfl)), rfl, hnm⟩) (hw _ (List.mem_of_getElem? (i := 5) rfl)) (ty := (.array .byte)) (by decide) rfl rfl (hb hby d3_14) (fun T39 h39 X39 e39 W39 => ?_)
    have fx40 : Fld Z h39 p0 "java/lang/String" "coder" "B" (.int (0 : Int32)) := Fld.other W39 fx33 (Or.inr (slot_ne (t := .byte) (t' := (.array .byte)) (Or.inr (hw _ (List.mem_of_getElem? (i := 21) rfl))) (Or.inr (hw _ (List.mem_of_getElem? (i := 20) rfl))) (by decide) (by decide) (by decide)))
    have fx41 : Exa Z h39 p0 "java/lang/String" := Exa.wr W39 fx34
    have fx42 : Sta Z h39 "java/lang/String" "COMPACT_STRINGS" "Z" (.int cs) := Sta.wr W39 fx35
    have fx43 : Exa Z h39 a31 "java/lang/String" := Exa.wr W39 Ea31
    have fx44 : Fld Z h39 a31 "java/lang/String" "coder" "B" (.int (0 : Int32)) := Fld.other W39 Fc31 (Or.inl (Ne.symm na31))
    have fx45 : Fld Z h39 a31 "java/lang/String" "value" "[B" (.ref b31) := Fld.other W39 Fv31 (Or.inl (Ne.symm na31))
    have fx46 : Ar Z h39 b31 .byte [] := Ar.other Ab31 W39 (Ne.symm nb31)
    have fx47 : Fld Z h39 p0 "java/lang/String" "value" "[B" (.ref b31) := Fld.same W39 fx32
    have N48 := Fr.snoc X39 N0 ga
    have Z49 : n0 ≤ h39.size := by rw [W39.size]; exact Z36
    have K50 : Keep h0 h39 [p0] := Keep.wr K37 W39 (Or.inl (List.mem_of_getElem? (i := 0) rfl))
    have C9 := CHr.wr W39 S0 CH.1
    have Sn := Safe.wr W39 S0 CH.1 S0
    have S0 := Sn
    have hk0 := Nat.le_trans hk0 C9.2.1
    have CH := CH.trans C9
    show Goes p.tables e below (T39.setTop (mkF m 17 #[.val (.ref p0), .val (.ref p1), .val (.int (0 : Int32)), .val (.int p3), .val .null, .unset] [])) _
    refine g_aloadN X39 hx (hb hby d3_17) rfl rfl ?_
    show Goes p.tables e below (T39.setTop (mkF m 18 #[.val (.ref p0), .val (.ref p1), .val (.int (0 : Int32)), .val (.int p3), .val .null, .unset] [(.ref p0)])) _
    refine g_ldcH X39 hx hZ hown e39 (text := "") (hw _ (List.mem_of_getElem? (i := 18) rfl)) wS hS hk0 hEL (List.mem_of_getElem? (i := 0) rfl) CH (vs := []) (0 : Int32) ⟨by first | simp | decide, by first | simp | rfl⟩ (by decide) (by decide) (by decide) (hb hby d3_18) 0 (by first | simp | decide) (by decide) (by decide) (by decide) (fun T51 h51 a51 b51 k51 X51 e51 Ex51 hS hk0 hZ hown Ea51 Fc51 Fv51 Ab51 C9 Sf51 => ?_)
    have fx52 : Fld Z h51 p0 "java/lang/String" "coder" "B" (.int (0 : Int32)) := Fld.ext Ex51 fx40
    have fx53 : Exa Z h51 p0 "java/lang/String" := Exa.ext Ex51 fx41
    have fx54 : Sta Z h51 "java/lang/String" "COMPACT_STRINGS" "Z" (.int cs) := Sta.ext Ex51 fx42
    have fx55 : Exa Z h51 a31 "java/lang/String" := Exa.ext Ex51 fx43
    have fx56 : Fld Z h51 a31 "java/lang/String" "coder" "B" (.int (0 : Int32)) := Fld.ext Ex51 fx44
    have fx57 : Fld Z h51 a31 "java/lang/String" "value" "[B" (.ref b31) := Fld.ext Ex51 fx45
    have fx58 : Ar Z h51 b31 .byte [] := Ar.ext fx46 Ex51
    have fx59 : Fld Z h51 p0 "java/lang/String" "value" "[B" (.ref b31) := Fld.ext Ex51 fx47
    have Z60 : n0 ≤ h51.size := Nat.le_trans Z49 Ex51.1
    have K61 : Keep h0 h51 [p0] := Keep.ext K50 Ex51
    have S0 := CHr.safe C9 fx41.lt S0
    have na51 : p0 ≠ a51 := (Sf51 _ S0).1
    have nb51 : p0 ≠ b51 := (Sf51 _ S0).2
    have CH := CH.trans C9
    show Goes p.tables e below (T51.setTop (mkF m 20 #[.val (.ref p0), .val (.ref p1), .val (.int (0 : Int32)), .val (.int p3), .val .null, .unset] [(.ref a51), (.ref p0)])) _
    refine g_getF X51 hx hZ hown e51 (host := "") (Or.inl (hw _ (List.mem_of_getElem? (i := 25) rfl))) Via.refl Fc51 (hb hby d3_20) (fun T62 X62 e62 => ?_)
    show Goes p.tables e below (T62.setTop (mkF m 23 #[.val (.ref p0), .val (.ref p1), .val (.int (0 : Int32)), .val (.int p3), .val .null, .unset] [(.int (0 : Int32)), (.ref p0)])) _
    refine g_putF X62 hx hZ hown e62 (hw _ (List.mem_of_getElem? (i := 25) rfl)) Via.refl (v' := (.int (0 : Int32))) fx52 fx53 (Or.inr ⟨(hw _ (List.mem_of_getElem? (i := 21) rfl)), rfl, hnm⟩) (hw _ (List.mem_of_getElem? (i := 5) rfl)) (ty := .byte) (by decide) rfl rfl (hb hby d3_23) (fun T63 h63 X63 e63 W63 => ?_)
    have fx64 : Exa Z h63 p0 "java/lang/String" := Exa.wr W63 fx53
    have fx65 : Sta Z h63 "java/lang/String" "COMPACT_STRINGS" "Z" (.int cs) := Sta.wr W63 fx54
    have fx66 : Exa Z h63 a31 "java/lang/String" := Exa.wr W63 fx55
    have fx67 : Fld Z h63 a31 "java/lang/String" "coder" "B" (.int (0 : Int32)) := Fld.other W63 fx56 (Or.inl (Ne.symm na31))
    have fx68 : Fld Z h63 a31 "java/lang/String" "value" "[B" (.ref b31) := Fld.other W63 fx57 (Or.inl (Ne.symm na31))
    have fx69 : Ar Z h63 b31 .byte [] := Ar.other fx58 W63 (Ne.symm nb31)
    have fx70 : Fld Z h63 p0 "java/lang/String" "value" "[B" (.ref b31) := Fld.other W63 fx59 (Or.inr (slot_ne (t := (.array .byte)) (t' := .byte) (Or.inr (hw _ (List.mem_of_getElem? (i := 20) rfl))) (Or.inr (hw _ (List.mem_of_getElem? (i := 21) rfl))) (by decide) (by decide) (by decide)))
    have fx71 : Exa Z h63 a51 "java/lang/String" := Exa.wr W63 Ea51
    have fx72 : Fld Z h63 a51 "java/lang/String" "coder" "B" (.int (0 : Int32)) := Fld.other W63 Fc51 (Or.inl (Ne.symm na51))
    have fx73 : Fld Z h63 a51 "java/lang/String" "value" "[B" (.ref b51) := Fld.other W63 Fv51 (Or.inl (Ne.symm na51))
    have fx74 : Ar Z h63 b51 .byte [] := Ar.other Ab51 W63 (Ne.symm nb51)
    have fx75 : Fld Z h63 p0 "java/lang/String" "coder" "B" (.int (0 : Int32)) := Fld.same W63 fx52
    have N76 := Fr.snoc X63 N48 ga
    have Z77 : n0 ≤ h63.size := by rw [W63.size]; exact Z60
    have K78 : Keep h0 h63 [p0] := Keep.wr K61 W63 (Or.inl (List.mem_of_getElem? (i := 0) rfl))
    have C9 := CHr.wr W63 S0 CH.1
    have Sn := Safe.wr W63 S0 CH.1 S0
    have S0 := Sn
    have hk0 := Nat.le_trans hk0 C9.2.1
    have CH := CH.trans C9
    show Goes p.tables e below (T63.setTop (mkF m 26 #[.val (.ref p0), .val (.ref p1), .val (.int (0 : Int32)), .val (.int p3), .val .null, .unset] [])) _
    exact g_retH0 X63 hx hZ hEL hS (by rw [e63]; exact hk0) (by rw [e63]; exact CH) hret hlk (hb hby d3_26) (by decide) (by decide) (by rw [e63]; exact ⟨rfl, N76, K78, b31, fx70, fx75, (by rw [own_nil (own_z hp c5)]; exact fx69)⟩)
theorem d2_0 : decode jdk_42_method_3_code 0 = .ok (.aload_n 0, 1) := by decide +kernel
theorem d2_1 : decode jdk_42_method_3_code 1 = .ok (.aload_n 1, 1) := by decide +kernel
theorem d2_2 : decode jdk_42_method_3_code 2 = .ok (.iconst 0, 1) := by decide +kernel
theorem d2_3 : decode jdk_42_method_3_code 3 = .ok (.aload_n 1, 1) := by decide +kernel
theorem d2_4 : decode jdk_42_method_3_code 4 = .ok (.arraylength, 1) := by decide +kernel
theorem d2_5 : decode jdk_42_method_3_code 5 = .ok (.aconst_null, 1) := by decide +kernel
theorem d2_6 : decode jdk_42_method_3_code 6 = .ok (.invokespecial 27, 3) := by decide +kernel
theorem d2_9 : decode jdk_42_method_3_code 9 = .ok (.return_, 1) := by decide +kernel
theorem pd_2 : parseMethodDescriptor "([C)V" = some ⟨[(.array .char)], none⟩ := by decide +kernel
theorem ef_2 (m : MethodId) (p0 : Addr) (p1 : Addr) : entryFrame m #[(.ref p0), (.ref p1)] 2 = mkF m 0 #[.val (.ref p0), .val (.ref p1)] [] := by first | (simp [entryFrame, mkF, argsToLocals, Value.category]; done) | rfl
set_option maxRecDepth 65536 in
set_option maxHeartbeats 40000000 in
theorem rmSC (l : Launch) (Z : State) (a0 : Array Value) (hw : ∀ d ∈ tables_1, d.before a0 Z = true) (p0 : Addr) (p1 : Addr) (h0 : Heap) (n0 : Nat) (Z0 : n0 ≤ h0.size) (xs : List Int32) (hlat : ∀ x ∈ xs, Lat x) (hl2 : xs.length ≤ 2) (A0 : Ar Z h0 p1 .char (xs.map Value.int)) (f1 : Fld Z h0 p0 "java/lang/String" "value" "[B" .null) (f2 : Fld Z h0 p0 "java/lang/String" "coder" "B" (.int (0 : Int32))) (E0 : Exa Z h0 p0 "java/lang/String") (ga : n0 ≤ p0) (cs : Int32) (hcs : ¬ cs = 0) (SC : Sta Z h0 "java/lang/String" "COMPACT_STRINGS" "Z" (.int cs)) :
    ConH l Z EL1 (⟨"java/lang/String", "<init>", "([C)V"⟩ : MethodName) jdk_42_method_3_code 2 none [] ({ frames := 3, cells := 4, slots := 8, locals := 52 } : Room) 4 8 #[(.ref p0), (.ref p1)] h0 (fun v h L => v = none ∧ Fr n0 L ∧ Keep h0 h [p0] ∧ ∃ b, Fld Z h p0 "java/lang/String" "value" "[B" (.ref b) ∧ Fld Z h p0 "java/lang/String" "coder" "B" (.int (0 : Int32)) ∧ Ar Z h b .byte ((xs.map B8).map Value.int)) := by
  refine ConH.body (plainFor_of_name (by first | (simp [plainName, overriddenIn]; done) | decide +kernel)) ?_
  intro p e s m below meth c T0 hx hby hml hown hnm hZ hret hlk hS CH X0 e0
  have hk0 : 0 ≤ h0.size := Nat.zero_le _
  have hEL := el_1 hw
  have wS := ws_1 hw
  refine Goes.cast (ef_2 m p0 p1) ?_
  have N0 := Fr.nil n0
  show Goes p.tables e below (T0.setTop (mkF m 0 #[.val (.ref p0), .val (.ref p1)] [])) _
  refine g_aloadN X0 hx (hb hby d2_0) rfl rfl ?_
  show Goes p.tables e below (T0.setTop (mkF m 1 #[.val (.ref p0), .val (.ref p1)] [(.ref p0)])) _
  refine g_aloadN X0 hx (hb hby d2_1) rfl rfl ?_
  show Goes p.tables e below (T0.setTop (mkF m 2 #[.val (.ref p0), .val (.ref p1)] [(.ref p1), (.ref p0)])) _
  refine g_iconst X0 hx (0 : Int32) (hb hby d2_2) rfl ?_
  show Goes p.tables e below (T0.setTop (mkF m 3 #[.val (.ref p0), .val (.ref p1)] [(.int (0 : Int32)), (.ref p1), (.ref p0)])) _
  refine g_aloadN X0 hx (hb hby d2_3) rfl rfl ?_
  show Goes p.tables e below (T0.setTop (mkF m 4 #[.val (.ref p0), .val (.ref p1)] [(.ref p1), (.int (0 : Int32)), (.ref p1), (.ref p0)])) _
  refine g_alen X0 hx hZ e0 A0 (Int32.ofNat xs.length) (by rw [List.length_map]; exact own_of (own_len A0)) (hb hby d2_4) ?_
  show Goes p.tables e below (T0.setTop (mkF m 5 #[.val (.ref p0), .val (.ref p1)] [(.int (Int32.ofNat xs.length)), (.int (0 : Int32)), (.ref p1), (.ref p0)])) _
  refine g_null X0 hx (hb hby d2_5) ?_
  show Goes p.tables e below (T0.setTop (mkF m 6 #[.val (.ref p0), .val (.ref p1)] [.null, (.int (Int32.ofNat xs.length)), (.int (0 : Int32)), (.ref p1), (.ref p0)])) _
  refine g_callIH X0 hx hZ hown (by rw [hml]; rfl) e0 hS hk0 hEL CH rfl (hw _ (List.mem_of_getElem? (i := 11) rfl)) (hw _ (List.mem_of_getElem? (i := 12) rfl)) (hw _ (List.mem_of_getElem? (i := 6) rfl)) (hw _ (List.mem_of_getElem? (i := 14) rfl)) (rmSI l Z a0 hw p0 p1 (Int32.ofNat xs.length) h0 n0 Z0 xs (own_of (own_len A0)) hlat hl2 A0 f1 f2 E0 ga cs hcs SC) p0 [(.ref p1), (.int (0 : Int32)), (.int (Int32.ofNat xs.length)), .null] rfl [] rfl (lenOf pd_3 rfl) (hb hby d2_6) (by decide) 0 (by decide) (by decide) (by first | decide | exact Nat.le_refl _) (by decide) (by decide) (fun v T1 L1 X1 hS hZ hown C9 hQ1 => ?_)
  obtain ⟨rfl, Nc, Kc, b, fv, fc, Ab⟩ := hQ1
  have hk0 : T1.heap.size ≤ T1.heap.size := Nat.le_refl _
  have CH := CH.trans C9
  show Goes p.tables e below (T1.setTop (mkF m 9 #[.val (.ref p0), .val (.ref p1)] [])) _
  exact g_retH0 X1 hx hZ hEL hS hk0 CH hret hlk (hb hby d2_9) (by decide) (by decide) ⟨rfl, Nc, Kc, b, fv, fc, Ab⟩
theorem d1_0 : decode method_3_code 0 = .ok (.iload_n 0, 1) := by decide +kernel
theorem d1_1 : decode method_3_code 1 = .ok (.ifCond .ne 14, 3) := by decide +kernel
theorem d1_4 : decode method_3_code 4 = .ok (.new 34, 3) := by decide +kernel
theorem d1_7 : decode method_3_code 7 = .ok (.dup, 1) := by decide +kernel
theorem d1_8 : decode method_3_code 8 = .ok (.iconst 0, 1) := by decide +kernel
theorem d1_9 : decode method_3_code 9 = .ok (.newarray .char, 2) := by decide +kernel
theorem d1_11 : decode method_3_code 11 = .ok (.invokespecial 36, 3) := by decide +kernel
theorem d1_14 : decode method_3_code 14 = .ok (.areturn, 1) := by decide +kernel
theorem d1_15 : decode method_3_code 15 = .ok (.iload_n 0, 1) := by decide +kernel
theorem d1_16 : decode method_3_code 16 = .ok (.iconst 1, 1) := by decide +kernel
theorem d1_17 : decode method_3_code 17 = .ok (.if_icmp .ne 20, 3) := by decide +kernel
theorem d1_20 : decode method_3_code 20 = .ok (.iconst 1, 1) := by decide +kernel
theorem d1_21 : decode method_3_code 21 = .ok (.newarray .char, 2) := by decide +kernel
theorem d1_23 : decode method_3_code 23 = .ok (.astore_n 3, 1) := by decide +kernel
theorem d1_24 : decode method_3_code 24 = .ok (.aload_n 3, 1) := by decide +kernel
theorem d1_25 : decode method_3_code 25 = .ok (.iconst 0, 1) := by decide +kernel
theorem d1_26 : decode method_3_code 26 = .ok (.iload_n 1, 1) := by decide +kernel
theorem d1_27 : decode method_3_code 27 = .ok (.castore, 1) := by decide +kernel
theorem d1_28 : decode method_3_code 28 = .ok (.new 34, 3) := by decide +kernel
theorem d1_31 : decode method_3_code 31 = .ok (.dup, 1) := by decide +kernel
theorem d1_32 : decode method_3_code 32 = .ok (.aload_n 3, 1) := by decide +kernel
theorem d1_33 : decode method_3_code 33 = .ok (.invokespecial 36, 3) := by decide +kernel
theorem d1_36 : decode method_3_code 36 = .ok (.areturn, 1) := by decide +kernel
theorem d1_37 : decode method_3_code 37 = .ok (.iconst 2, 1) := by decide +kernel
theorem d1_38 : decode method_3_code 38 = .ok (.newarray .char, 2) := by decide +kernel
theorem d1_40 : decode method_3_code 40 = .ok (.astore_n 3, 1) := by decide +kernel
theorem d1_41 : decode method_3_code 41 = .ok (.aload_n 3, 1) := by decide +kernel
theorem d1_42 : decode method_3_code 42 = .ok (.iconst 0, 1) := by decide +kernel
theorem d1_43 : decode method_3_code 43 = .ok (.iload_n 1, 1) := by decide +kernel
theorem d1_44 : decode method_3_code 44 = .ok (.castore, 1) := by decide +kernel
theorem d1_45 : decode method_3_code 45 = .ok (.aload_n 3, 1) := by decide +kernel
theorem d1_46 : decode method_3_code 46 = .ok (.iconst 1, 1) := by decide +kernel
theorem d1_47 : decode method_3_code 47 = .ok (.iload_n 2, 1) := by decide +kernel
theorem d1_48 : decode method_3_code 48 = .ok (.castore, 1) := by decide +kernel
theorem d1_49 : decode method_3_code 49 = .ok (.new 34, 3) := by decide +kernel
theorem d1_52 : decode method_3_code 52 = .ok (.dup, 1) := by decide +kernel
theorem d1_53 : decode method_3_code 53 = .ok (.aload_n 3, 1) := by decide +kernel
theorem d1_54 : decode method_3_code 54 = .ok (.invokespecial 36, 3) := by decide +kernel
theorem d1_57 : decode method_3_code 57 = .ok (.areturn, 1) := by decide +kernel
theorem pd_1 : parseMethodDescriptor "(ICC)Ljava/lang/String;" = some ⟨[.int, .char, .char], some (.object "java/lang/String")⟩ := by decide +kernel
theorem ef_1 (m : MethodId) (p0 : Int32) (p1 : Int32) (p2 : Int32) : entryFrame m #[(.int p0), (.int p1), (.int p2)] 4 = mkF m 0 #[.val (.int p0), .val (.int p1), .val (.int p2), .unset] [] := by first | (simp [entryFrame, mkF, argsToLocals, Value.category]; done) | rfl
set_option maxRecDepth 65536 in
set_option maxHeartbeats 40000000 in
theorem rmMake (l : Launch) (Z : State) (a0 : Array Value) (hw : ∀ d ∈ tables_1, d.before a0 Z = true) (p0 : Int32) (p1 : Int32) (p2 : Int32) (h0 : Heap) (n0 : Nat) (Z0 : n0 ≤ h0.size) (l1 : Lat p1) (l2 : Lat p2) (cs : Int32) (hcs : ¬ cs = 0) (SC : Sta Z h0 "java/lang/String" "COMPACT_STRINGS" "Z" (.int cs)) :
    ConH l Z EL1 (⟨"com/example/hold/hold/automaton/TokenIsPinLaw", "make", "(ICC)Ljava/lang/String;"⟩ : MethodName) method_3_code 4 (some (.object "java/lang/String")) [] ({ frames := 4, cells := 6, slots := 14, locals := 66 } : Room) 6 14 #[(.int p0), (.int p1), (.int p2)] h0 (fun v h L => ∃ r b, v = some (.ref r) ∧ n0 ≤ r ∧ h0.size ≤ r ∧ Fr n0 L ∧ Keep h0 h [] ∧ Exa Z h r "java/lang/String" ∧ Fld Z h r "java/lang/String" "value" "[B" (.ref b) ∧ Fld Z h r "java/lang/String" "coder" "B" (.int (0 : Int32)) ∧ Ar Z h b .byte ((bts p0 p1 p2).map Value.int)) := by
  refine ConH.body (plainFor_of_name (by first | (simp [plainName, overriddenIn]; done) | decide +kernel)) ?_
  intro p e s m below meth c T0 hx hby hml hown hnm hZ hret hlk hS CH X0 e0
  have hk0 : 0 ≤ h0.size := Nat.zero_le _
  have hEL := el_1 hw
  have wS := ws_1 hw
  refine Goes.cast (ef_1 m p0 p1 p2) ?_
  have N0 := Fr.nil n0
  have K0 : Keep h0 h0 [] := Keep.refl _ _
  show Goes p.tables e below (T0.setTop (mkF m 0 #[.val (.int p0), .val (.int p1), .val (.int p2), .unset] [])) _
  refine g_iloadN X0 hx (hb hby d1_0) rfl ?_
  show Goes p.tables e below (T0.setTop (mkF m 1 #[.val (.int p0), .val (.int p1), .val (.int p2), .unset] [(.int p0)])) _
  refine g_if_ne X0 hx (hb hby d1_1) (by decide) (pc' := 15) (by decide) (fun c1 => ?_) (fun c1 => ?_)
  · skip
    show Goes p.tables e below (T0.setTop (mkF m 15 #[.val (.int p0), .val (.int p1), .val (.int p2), .unset] [])) _
    refine g_iloadN X0 hx (hb hby d1_15) rfl ?_
    show Goes p.tables e below (T0.setTop (mkF m 16 #[.val (.int p0), .val (.int p1), .val (.int p2), .unset] [(.int p0)])) _
    refine g_iconst X0 hx (1 : Int32) (hb hby d1_16) rfl ?_
    show Goes p.tables e below (T0.setTop (mkF m 17 #[.val (.int p0), .val (.int p1), .val (.int p2), .unset] [(.int (1 : Int32)), (.int p0)])) _
    refine g_icmp_ne X0 hx (hb hby d1_17) (by decide) (pc' := 37) (by decide) (fun c17 => ?_) (fun c17 => ?_)
    · skip
      show Goes p.tables e below (T0.setTop (mkF m 37 #[.val (.int p0), .val (.int p1), .val (.int p2), .unset] [])) _
      refine g_iconst X0 hx (2 : Int32) (hb hby d1_37) rfl ?_
      show Goes p.tables e below (T0.setTop (mkF m 38 #[.val (.int p0), .val (.int p1), .val (.int p2), .unset] [(.int (2 : Int32))])) _
      refine g_newarr X0 hx hZ e0 (hw _ (List.mem_of_getElem? (i := 7) rfl)) (hb hby d1_38) (n := 2) (by decide) 2 (by omega) (by decide) (by decide) (by decide) (ad := "[C") (by decide) rfl (fun T1 h1 a1 ga1 X1 e1 Ex1 Aa1 Ea1 => ?_)
      have ge2 : n0 ≤ a1 := by rw [ga1]; exact Z0
      have ge3 : h0.size ≤ a1 := by rw [ga1]; exact K0.1
      have fx4 : Sta Z h1 "java/lang/String" "COMPACT_STRINGS" "Z" (.int cs) := Sta.ext Ex1 SC
      have Z5 : n0 ≤ h1.size := Nat.le_trans Z0 Ex1.1
      have K6 : Keep h0 h1 [] := Keep.ext K0 Ex1
      have C9 := CHr.ext Ex1 CH.1
      have hk0 := Nat.le_trans hk0 C9.2.1
      have CH := CH.trans C9
      have fx7 : Ar Z h1 a1 .char [(.int (0 : Int32)), (.int (0 : Int32))] := Aa1
      show Goes p.tables e below (T1.setTop (mkF m 40 #[.val (.int p0), .val (.int p1), .val (.int p2), .unset] [(.ref a1)])) _
      refine g_astoreN X1 hx (hb hby d1_40) rfl (l' := #[.val (.int p0), .val (.int p1), .val (.int p2), .val (.ref a1)]) rfl ?_
      show Goes p.tables e below (T1.setTop (mkF m 41 #[.val (.int p0), .val (.int p1), .val (.int p2), .val (.ref a1)] [])) _
      refine g_aloadN X1 hx (hb hby d1_41) rfl rfl ?_
      show Goes p.tables e below (T1.setTop (mkF m 42 #[.val (.int p0), .val (.int p1), .val (.int p2), .val (.ref a1)] [(.ref a1)])) _
      refine g_iconst X1 hx (0 : Int32) (hb hby d1_42) rfl ?_
      show Goes p.tables e below (T1.setTop (mkF m 43 #[.val (.int p0), .val (.int p1), .val (.int p2), .val (.ref a1)] [(.int (0 : Int32)), (.ref a1)])) _
      refine g_iloadN X1 hx (hb hby d1_43) rfl ?_
      show Goes p.tables e below (T1.setTop (mkF m 44 #[.val (.int p0), .val (.int p1), .val (.int p2), .val (.ref a1)] [(.int p1), (.int (0 : Int32)), (.ref a1)])) _
      refine g_castore X1 hx hZ e1 fx7 0 (by decide) (by show 0 < 2; decide) p1 l1.chr (hb hby d1_44) (fun T8 h8 X8 e8 W8 A8 => ?_)
      have fx9 : Sta Z h8 "java/lang/String" "COMPACT_STRINGS" "Z" (.int cs) := Sta.wr W8 fx4
      have fx10 : Exa Z h8 a1 "[C" := Exa.wr W8 Ea1
      have fx11 : Ar Z h8 a1 .char [(.int p1), (.int (0 : Int32))] := A8
      have N12 := Fr.snoc X8 N0 ge2
      have Z13 : n0 ≤ h8.size := by rw [W8.size]; exact Z5
      have K14 : Keep h0 h8 [] := Keep.wr K6 W8 (Or.inr ge3)
      have C9 := CHr.wr W8 (own_safeAr hZ.alike fx7 (by first | decide | (intro z; cases z))) CH.1
      have hk0 := Nat.le_trans hk0 C9.2.1
      have CH := CH.trans C9
      show Goes p.tables e below (T8.setTop (mkF m 45 #[.val (.int p0), .val (.int p1), .val (.int p2), .val (.ref a1)] [])) _
      refine g_aloadN X8 hx (hb hby d1_45) rfl rfl ?_
      show Goes p.tables e below (T8.setTop (mkF m 46 #[.val (.int p0), .val (.int p1), .val (.int p2), .val (.ref a1)] [(.ref a1)])) _
      refine g_iconst X8 hx (1 : Int32) (hb hby d1_46) rfl ?_
      show Goes p.tables e below (T8.setTop (mkF m 47 #[.val (.int p0), .val (.int p1), .val (.int p2), .val (.ref a1)] [(.int (1 : Int32)), (.ref a1)])) _
      refine g_iloadN X8 hx (hb hby d1_47) rfl ?_
      show Goes p.tables e below (T8.setTop (mkF m 48 #[.val (.int p0), .val (.int p1), .val (.int p2), .val (.ref a1)] [(.int p2), (.int (1 : Int32)), (.ref a1)])) _
      refine g_castore X8 hx hZ e8 fx11 1 (by decide) (by show 1 < 2; decide) p2 l2.chr (hb hby d1_48) (fun T15 h15 X15 e15 W15 A15 => ?_)
      have fx16 : Sta Z h15 "java/lang/String" "COMPACT_STRINGS" "Z" (.int cs) := Sta.wr W15 fx9
      have fx17 : Exa Z h15 a1 "[C" := Exa.wr W15 fx10
      have fx18 : Ar Z h15 a1 .char [(.int p1), (.int p2)] := A15
      have N19 := Fr.snoc X15 N12 ge2
      have Z20 : n0 ≤ h15.size := by rw [W15.size]; exact Z13
      have K21 : Keep h0 h15 [] := Keep.wr K14 W15 (Or.inr ge3)
      have C9 := CHr.wr W15 (own_safeAr hZ.alike fx11 (by first | decide | (intro z; cases z))) CH.1
      have hk0 := Nat.le_trans hk0 C9.2.1
      have CH := CH.trans C9
      show Goes p.tables e below (T15.setTop (mkF m 49 #[.val (.int p0), .val (.int p1), .val (.int p2), .val (.ref a1)] [])) _
      refine g_new X15 hx hZ hown e15 (hw _ (List.mem_of_getElem? (i := 4) rfl)) (hw _ (List.mem_of_getElem? (i := 5) rfl)) (hw _ (List.mem_of_getElem? (i := 6) rfl)) (hb hby d1_49) (by decide) (by decide) (fun T22 h22 a22 ga22 X22 e22 Ex22 Ea22 Df22 => ?_)
      have ne23 : a1 ≠ a22 := Nat.ne_of_lt (by rw [ga22]; exact fx17.lt)
      have ge24 : n0 ≤ a22 := by rw [ga22]; exact Z20
      have ge25 : h0.size ≤ a22 := by rw [ga22]; exact K21.1
      have fx26 : Sta Z h22 "java/lang/String" "COMPACT_STRINGS" "Z" (.int cs) := Sta.ext Ex22 fx16
      have fx27 : Exa Z h22 a1 "[C" := Exa.ext Ex22 fx17
      have fx28 : Ar Z h22 a1 .char [(.int p1), (.int p2)] := Ar.ext fx18 Ex22
      have Z29 : n0 ≤ h22.size := Nat.le_trans Z20 Ex22.1
      have K30 : Keep h0 h22 [] := Keep.ext K21 Ex22
      have C9 := CHr.ext Ex22 CH.1
      have hk0 := Nat.le_trans hk0 C9.2.1
      have CH := CH.trans C9
      have fx31 : Fld Z h22 a22 "java/lang/String" "value" "[B" .null := Df22 (Or.inr (hw _ (List.mem_of_getElem? (i := 20) rfl))) (ty := (.array .byte)) (by decide)
      have fx32 : Fld Z h22 a22 "java/lang/String" "coder" "B" (.int (0 : Int32)) := Df22 (Or.inr (hw _ (List.mem_of_getElem? (i := 21) rfl))) (ty := .byte) (by decide)
      show Goes p.tables e below (T22.setTop (mkF m 52 #[.val (.int p0), .val (.int p1), .val (.int p2), .val (.ref a1)] [(.ref a22)])) _
      refine g_dup X22 hx (hb hby d1_52) rfl ?_
      show Goes p.tables e below (T22.setTop (mkF m 53 #[.val (.int p0), .val (.int p1), .val (.int p2), .val (.ref a1)] [(.ref a22), (.ref a22)])) _
      refine g_aloadN X22 hx (hb hby d1_53) rfl rfl ?_
      show Goes p.tables e below (T22.setTop (mkF m 54 #[.val (.int p0), .val (.int p1), .val (.int p2), .val (.ref a1)] [(.ref a1), (.ref a22), (.ref a22)])) _
      refine g_callIH X22 hx hZ hown (by rw [hml]; rfl) e22 hS hk0 hEL CH rfl (hw _ (List.mem_of_getElem? (i := 8) rfl)) (hw _ (List.mem_of_getElem? (i := 9) rfl)) (hw _ (List.mem_of_getElem? (i := 6) rfl)) (hw _ (List.mem_of_getElem? (i := 10) rfl)) (rmSC l Z a0 hw a22 a1 h22 n0 Z29 [p1, p2] (lat_two l1 l2) (by show 2 ≤ 2; decide) fx28 fx31 fx32 Ea22 ge24 cs hcs fx26) a22 [(.ref a1)] rfl [(.ref a22)] rfl (lenOf pd_2 rfl) (hb hby d1_54) (by decide) 1 (by decide) (by decide) (by first | decide | exact Nat.le_refl _) (by decide) (by decide) (fun v T33 L33 X33 hS hZ hown C9 hQ33 => ?_)
      obtain ⟨rfl, Nc, Kc, b, fv, fc, Ab⟩ := hQ33
      have hk0 : T33.heap.size ≤ T33.heap.size := Nat.le_refl _
      have CH := CH.trans C9
      have Kz : Keep h0 T33.heap [] := K30.trans Kc (allS (Or.inr ge25) all0)
      have Ez := Exa.keep Ea22 Kc
      have N34 := Fr.app N19 Nc
      show Goes p.tables e below (T33.setTop (mkF m 57 #[.val (.int p0), .val (.int p1), .val (.int p2), .val (.ref a1)] [(.ref a22)])) _
      exact g_retHA X33 hx hZ hEL hS hk0 CH hret hlk rfl rfl (hb hby d1_57) (by decide) (by decide) ⟨a22, b, rfl, ge24, ge25, N34, Kz, Ez, fv, fc, by rw [bts, if_neg c1, if_neg c17]; exact Ab⟩
    · skip
      show Goes p.tables e below (T0.setTop (mkF m 20 #[.val (.int p0), .val (.int p1), .val (.int p2), .unset] [])) _
      refine g_iconst X0 hx (1 : Int32) (hb hby d1_20) rfl ?_
      show Goes p.tables e below (T0.setTop (mkF m 21 #[.val (.int p0), .val (.int p1), .val (.int p2), .unset] [(.int (1 : Int32))])) _
      refine g_newarr X0 hx hZ e0 (hw _ (List.mem_of_getElem? (i := 7) rfl)) (hb hby d1_21) (n := 1) (by decide) 1 (by omega) (by decide) (by decide) (by decide) (ad := "[C") (by decide) rfl (fun T35 h35 a35 ga35 X35 e35 Ex35 Aa35 Ea35 => ?_)
      have ge36 : n0 ≤ a35 := by rw [ga35]; exact Z0
      have ge37 : h0.size ≤ a35 := by rw [ga35]; exact K0.1
      have fx38 : Sta Z h35 "java/lang/String" "COMPACT_STRINGS" "Z" (.int cs) := Sta.ext Ex35 SC
      have Z39 : n0 ≤ h35.size := Nat.le_trans Z0 Ex35.1
      have K40 : Keep h0 h35 [] := Keep.ext K0 Ex35
      have C9 := CHr.ext Ex35 CH.1
      have hk0 := Nat.le_trans hk0 C9.2.1
      have CH := CH.trans C9
      have fx41 : Ar Z h35 a35 .char [(.int (0 : Int32))] := Aa35
      show Goes p.tables e below (T35.setTop (mkF m 23 #[.val (.int p0), .val (.int p1), .val (.int p2), .unset] [(.ref a35)])) _
      refine g_astoreN X35 hx (hb hby d1_23) rfl (l' := #[.val (.int p0), .val (.int p1), .val (.int p2), .val (.ref a35)]) rfl ?_
      show Goes p.tables e below (T35.setTop (mkF m 24 #[.val (.int p0), .val (.int p1), .val (.int p2), .val (.ref a35)] [])) _
      refine g_aloadN X35 hx (hb hby d1_24) rfl rfl ?_
      show Goes p.tables e below (T35.setTop (mkF m 25 #[.val (.int p0), .val (.int p1), .val (.int p2), .val (.ref a35)] [(.ref a35)])) _
      refine g_iconst X35 hx (0 : Int32) (hb hby d1_25) rfl ?_
      show Goes p.tables e below (T35.setTop (mkF m 26 #[.val (.int p0), .val (.int p1), .val (.int p2), .val (.ref a35)] [(.int (0 : Int32)), (.ref a35)])) _
      refine g_iloadN X35 hx (hb hby d1_26) rfl ?_
      show Goes p.tables e below (T35.setTop (mkF m 27 #[.val (.int p0), .val (.int p1), .val (.int p2), .val (.ref a35)] [(.int p1), (.int (0 : Int32)), (.ref a35)])) _
      refine g_castore X35 hx hZ e35 fx41 0 (by decide) (by show 0 < 1; decide) p1 l1.chr (hb hby d1_27) (fun T42 h42 X42 e42 W42 A42 => ?_)
      have fx43 : Sta Z h42 "java/lang/String" "COMPACT_STRINGS" "Z" (.int cs) := Sta.wr W42 fx38
      have fx44 : Exa Z h42 a35 "[C" := Exa.wr W42 Ea35
      have fx45 : Ar Z h42 a35 .char [(.int p1)] := A42
      have N46 := Fr.snoc X42 N0 ge36
      have Z47 : n0 ≤ h42.size := by rw [W42.size]; exact Z39
      have K48 : Keep h0 h42 [] := Keep.wr K40 W42 (Or.inr ge37)
      have C9 := CHr.wr W42 (own_safeAr hZ.alike fx41 (by first | decide | (intro z; cases z))) CH.1
      have hk0 := Nat.le_trans hk0 C9.2.1
      have CH := CH.trans C9
      show Goes p.tables e below (T42.setTop (mkF m 28 #[.val (.int p0), .val (.int p1), .val (.int p2), .val (.ref a35)] [])) _
      refine g_new X42 hx hZ hown e42 (hw _ (List.mem_of_getElem? (i := 4) rfl)) (hw _ (List.mem_of_getElem? (i := 5) rfl)) (hw _ (List.mem_of_getElem? (i := 6) rfl)) (hb hby d1_28) (by decide) (by decide) (fun T49 h49 a49 ga49 X49 e49 Ex49 Ea49 Df49 => ?_)
      have ne50 : a35 ≠ a49 := Nat.ne_of_lt (by rw [ga49]; exact fx44.lt)
      have ge51 : n0 ≤ a49 := by rw [ga49]; exact Z47
      have ge52 : h0.size ≤ a49 := by rw [ga49]; exact K48.1
      have fx53 : Sta Z h49 "java/lang/String" "COMPACT_STRINGS" "Z" (.int cs) := Sta.ext Ex49 fx43
      have fx54 : Exa Z h49 a35 "[C" := Exa.ext Ex49 fx44
      have fx55 : Ar Z h49 a35 .char [(.int p1)] := Ar.ext fx45 Ex49
      have Z56 : n0 ≤ h49.size := Nat.le_trans Z47 Ex49.1
      have K57 : Keep h0 h49 [] := Keep.ext K48 Ex49
      have C9 := CHr.ext Ex49 CH.1
      have hk0 := Nat.le_trans hk0 C9.2.1
      have CH := CH.trans C9
      have fx58 : Fld Z h49 a49 "java/lang/String" "value" "[B" .null := Df49 (Or.inr (hw _ (List.mem_of_getElem? (i := 20) rfl))) (ty := (.array .byte)) (by decide)
      have fx59 : Fld Z h49 a49 "java/lang/String" "coder" "B" (.int (0 : Int32)) := Df49 (Or.inr (hw _ (List.mem_of_getElem? (i := 21) rfl))) (ty := .byte) (by decide)
      show Goes p.tables e below (T49.setTop (mkF m 31 #[.val (.int p0), .val (.int p1), .val (.int p2), .val (.ref a35)] [(.ref a49)])) _
      refine g_dup X49 hx (hb hby d1_31) rfl ?_
      show Goes p.tables e below (T49.setTop (mkF m 32 #[.val (.int p0), .val (.int p1), .val (.int p2), .val (.ref a35)] [(.ref a49), (.ref a49)])) _
      refine g_aloadN X49 hx (hb hby d1_32) rfl rfl ?_
      show Goes p.tables e below (T49.setTop (mkF m 33 #[.val (.int p0), .val (.int p1), .val (.int p2), .val (.ref a35)] [(.ref a35), (.ref a49), (.ref a49)])) _
      refine g_callIH X49 hx hZ hown (by rw [hml]; rfl) e49 hS hk0 hEL CH rfl (hw _ (List.mem_of_getElem? (i := 8) rfl)) (hw _ (List.mem_of_getElem? (i := 9) rfl)) (hw _ (List.mem_of_getElem? (i := 6) rfl)) (hw _ (List.mem_of_getElem? (i := 10) rfl)) (rmSC l Z a0 hw a49 a35 h49 n0 Z56 [p1] (lat_one l1) (by show 1 ≤ 2; decide) fx55 fx58 fx59 Ea49 ge51 cs hcs fx53) a49 [(.ref a35)] rfl [(.ref a49)] rfl (lenOf pd_2 rfl) (hb hby d1_33) (by decide) 1 (by decide) (by decide) (by first | decide | exact Nat.le_refl _) (by decide) (by decide) (fun v T60 L60 X60 hS hZ hown C9 hQ60 => ?_)
      obtain ⟨rfl, Nc, Kc, b, fv, fc, Ab⟩ := hQ60
      have hk0 : T60.heap.size ≤ T60.heap.size := Nat.le_refl _
      have CH := CH.trans C9
      have Kz : Keep h0 T60.heap [] := K57.trans Kc (allS (Or.inr ge52) all0)
      have Ez := Exa.keep Ea49 Kc
      have N61 := Fr.app N46 Nc
      show Goes p.tables e below (T60.setTop (mkF m 36 #[.val (.int p0), .val (.int p1), .val (.int p2), .val (.ref a35)] [(.ref a49)])) _
      exact g_retHA X60 hx hZ hEL hS hk0 CH hret hlk rfl rfl (hb hby d1_36) (by decide) (by decide) ⟨a49, b, rfl, ge51, ge52, N61, Kz, Ez, fv, fc, by rw [bts, if_neg c1, if_pos c17]; exact Ab⟩
  · skip
    show Goes p.tables e below (T0.setTop (mkF m 4 #[.val (.int p0), .val (.int p1), .val (.int p2), .unset] [])) _
    refine g_new X0 hx hZ hown e0 (hw _ (List.mem_of_getElem? (i := 4) rfl)) (hw _ (List.mem_of_getElem? (i := 5) rfl)) (hw _ (List.mem_of_getElem? (i := 6) rfl)) (hb hby d1_4) (by decide) (by decide) (fun T62 h62 a62 ga62 X62 e62 Ex62 Ea62 Df62 => ?_)
    have ge63 : n0 ≤ a62 := by rw [ga62]; exact Z0
    have ge64 : h0.size ≤ a62 := by rw [ga62]; exact K0.1
    have fx65 : Sta Z h62 "java/lang/String" "COMPACT_STRINGS" "Z" (.int cs) := Sta.ext Ex62 SC
    have Z66 : n0 ≤ h62.size := Nat.le_trans Z0 Ex62.1
    have K67 : Keep h0 h62 [] := Keep.ext K0 Ex62
    have C9 := CHr.ext Ex62 CH.1
    have hk0 := Nat.le_trans hk0 C9.2.1
    have CH := CH.trans C9
    have fx68 : Fld Z h62 a62 "java/lang/String" "value" "[B" .null := Df62 (Or.inr (hw _ (List.mem_of_getElem? (i := 20) rfl))) (ty := (.array .byte)) (by decide)
    have fx69 : Fld Z h62 a62 "java/lang/String" "coder" "B" (.int (0 : Int32)) := Df62 (Or.inr (hw _ (List.mem_of_getElem? (i := 21) rfl))) (ty := .byte) (by decide)
    show Goes p.tables e below (T62.setTop (mkF m 7 #[.val (.int p0), .val (.int p1), .val (.int p2), .unset] [(.ref a62)])) _
    refine g_dup X62 hx (hb hby d1_7) rfl ?_
    show Goes p.tables e below (T62.setTop (mkF m 8 #[.val (.int p0), .val (.int p1), .val (.int p2), .unset] [(.ref a62), (.ref a62)])) _
    refine g_iconst X62 hx (0 : Int32) (hb hby d1_8) rfl ?_
    show Goes p.tables e below (T62.setTop (mkF m 9 #[.val (.int p0), .val (.int p1), .val (.int p2), .unset] [(.int (0 : Int32)), (.ref a62), (.ref a62)])) _
    refine g_newarr X62 hx hZ e62 (hw _ (List.mem_of_getElem? (i := 7) rfl)) (hb hby d1_9) (n := 0) (by decide) 0 (by omega) (by decide) (by decide) (by decide) (ad := "[C") (by decide) rfl (fun T70 h70 a70 ga70 X70 e70 Ex70 Aa70 Ea70 => ?_)
    have ne71 : a62 ≠ a70 := Nat.ne_of_lt (by rw [ga70]; exact Ea62.lt)
    have ge72 : n0 ≤ a70 := by rw [ga70]; exact Z66
    have ge73 : h0.size ≤ a70 := by rw [ga70]; exact K67.1
    have fx74 : Sta Z h70 "java/lang/String" "COMPACT_STRINGS" "Z" (.int cs) := Sta.ext Ex70 fx65
    have fx75 : Exa Z h70 a62 "java/lang/String" := Exa.ext Ex70 Ea62
    have fx76 : Fld Z h70 a62 "java/lang/String" "value" "[B" .null := Fld.ext Ex70 fx68
    have fx77 : Fld Z h70 a62 "java/lang/String" "coder" "B" (.int (0 : Int32)) := Fld.ext Ex70 fx69
    have Z78 : n0 ≤ h70.size := Nat.le_trans Z66 Ex70.1
    have K79 : Keep h0 h70 [] := Keep.ext K67 Ex70
    have C9 := CHr.ext Ex70 CH.1
    have hk0 := Nat.le_trans hk0 C9.2.1
    have CH := CH.trans C9
    have fx80 : Ar Z h70 a70 .char [] := Aa70
    show Goes p.tables e below (T70.setTop (mkF m 11 #[.val (.int p0), .val (.int p1), .val (.int p2), .unset] [(.ref a70), (.ref a62), (.ref a62)])) _
    refine g_callIH X70 hx hZ hown (by rw [hml]; rfl) e70 hS hk0 hEL CH rfl (hw _ (List.mem_of_getElem? (i := 8) rfl)) (hw _ (List.mem_of_getElem? (i := 9) rfl)) (hw _ (List.mem_of_getElem? (i := 6) rfl)) (hw _ (List.mem_of_getElem? (i := 10) rfl)) (rmSC l Z a0 hw a62 a70 h70 n0 Z78 [] lat_nil (by show 0 ≤ 2; decide) fx80 fx76 fx77 fx75 ge63 cs hcs fx74) a62 [(.ref a70)] rfl [(.ref a62)] rfl (lenOf pd_2 rfl) (hb hby d1_11) (by decide) 1 (by decide) (by decide) (by first | decide | exact Nat.le_refl _) (by decide) (by decide) (fun v T81 L81 X81 hS hZ hown C9 hQ81 => ?_)
    obtain ⟨rfl, Nc, Kc, b, fv, fc, Ab⟩ := hQ81
    have hk0 : T81.heap.size ≤ T81.heap.size := Nat.le_refl _
    have CH := CH.trans C9
    have Kz : Keep h0 T81.heap [] := K79.trans Kc (allS (Or.inr ge64) all0)
    have Ez := Exa.keep fx75 Kc
    have N82 := Fr.app N0 Nc
    show Goes p.tables e below (T81.setTop (mkF m 14 #[.val (.int p0), .val (.int p1), .val (.int p2), .unset] [(.ref a62)])) _
    exact g_retHA X81 hx hZ hEL hS hk0 CH hret hlk rfl rfl (hb hby d1_14) (by decide) (by decide) ⟨a62, b, rfl, ge63, ge64, N82, Kz, Ez, fv, fc, by rw [bts, if_pos c1]; exact Ab⟩
def kindA (q0 q1 q2 q3 q4 q5 q6 q7 : Addr) (i : Int32) : Addr := if i = 0 then q0 else if i = (1 : Int32) then q1 else if i = (2 : Int32) then q2 else if i = (3 : Int32) then q3 else if i = (4 : Int32) then q4 else if i = (5 : Int32) then q5 else if i = (6 : Int32) then q6 else q7
theorem kindA_ord {Z : State} {h : Heap} {q0 q1 q2 q3 q4 q5 q6 q7 : Addr} (F0 : Fld Z h q0 "java/lang/Enum" "ordinal" "I" (.int (0 : Int32))) (F1 : Fld Z h q1 "java/lang/Enum" "ordinal" "I" (.int (1 : Int32))) (F2 : Fld Z h q2 "java/lang/Enum" "ordinal" "I" (.int (2 : Int32))) (F3 : Fld Z h q3 "java/lang/Enum" "ordinal" "I" (.int (3 : Int32))) (F4 : Fld Z h q4 "java/lang/Enum" "ordinal" "I" (.int (4 : Int32))) (F5 : Fld Z h q5 "java/lang/Enum" "ordinal" "I" (.int (5 : Int32))) (F6 : Fld Z h q6 "java/lang/Enum" "ordinal" "I" (.int (6 : Int32))) (F7 : Fld Z h q7 "java/lang/Enum" "ordinal" "I" (.int (7 : Int32))) (j : Fin 8) : Fld Z h (kindA q0 q1 q2 q3 q4 q5 q6 q7 (Int32.ofNat j.val)) "java/lang/Enum" "ordinal" "I" (.int (Int32.ofNat j.val)) := by
  obtain ⟨j, hj⟩ := j
  have q : j = 0 ∨ j = 1 ∨ j = 2 ∨ j = 3 ∨ j = 4 ∨ j = 5 ∨ j = 6 ∨ j = 7 := by omega
  rcases q with rfl | rfl | rfl | rfl | rfl | rfl | rfl | rfl
  · show Fld Z h (kindA q0 q1 q2 q3 q4 q5 q6 q7 (0 : Int32)) "java/lang/Enum" "ordinal" "I" (.int (0 : Int32))
    rw [kindA, if_pos rfl]; exact F0
  · show Fld Z h (kindA q0 q1 q2 q3 q4 q5 q6 q7 (1 : Int32)) "java/lang/Enum" "ordinal" "I" (.int (1 : Int32))
    rw [kindA, if_neg (by decide), if_pos rfl]; exact F1
  · show Fld Z h (kindA q0 q1 q2 q3 q4 q5 q6 q7 (2 : Int32)) "java/lang/Enum" "ordinal" "I" (.int (2 : Int32))
    rw [kindA, if_neg (by decide), if_neg (by decide), if_pos rfl]; exact F2
  · show Fld Z h (kindA q0 q1 q2 q3 q4 q5 q6 q7 (3 : Int32)) "java/lang/Enum" "ordinal" "I" (.int (3 : Int32))
    rw [kindA, if_neg (by decide), if_neg (by decide), if_neg (by decide), if_pos rfl]; exact F3
  · show Fld Z h (kindA q0 q1 q2 q3 q4 q5 q6 q7 (4 : Int32)) "java/lang/Enum" "ordinal" "I" (.int (4 : Int32))
    rw [kindA, if_neg (by decide), if_neg (by decide), if_neg (by decide), if_neg (by decide), if_pos rfl]; exact F4
  · show Fld Z h (kindA q0 q1 q2 q3 q4 q5 q6 q7 (5 : Int32)) "java/lang/Enum" "ordinal" "I" (.int (5 : Int32))
    rw [kindA, if_neg (by decide), if_neg (by decide), if_neg (by decide), if_neg (by decide), if_neg (by decide), if_pos rfl]; exact F5
  · show Fld Z h (kindA q0 q1 q2 q3 q4 q5 q6 q7 (6 : Int32)) "java/lang/Enum" "ordinal" "I" (.int (6 : Int32))
    rw [kindA, if_neg (by decide), if_neg (by decide), if_neg (by decide), if_neg (by decide), if_neg (by decide), if_neg (by decide), if_pos rfl]; exact F6
  · show Fld Z h (kindA q0 q1 q2 q3 q4 q5 q6 q7 (7 : Int32)) "java/lang/Enum" "ordinal" "I" (.int (7 : Int32))
    rw [kindA, if_neg (by decide), if_neg (by decide), if_neg (by decide), if_neg (by decide), if_neg (by decide), if_neg (by decide), if_neg (by decide)]; exact F7
theorem kindA_inj {Z : State} {h : Heap} {q0 q1 q2 q3 q4 q5 q6 q7 : Addr} (F0 : Fld Z h q0 "java/lang/Enum" "ordinal" "I" (.int (0 : Int32))) (F1 : Fld Z h q1 "java/lang/Enum" "ordinal" "I" (.int (1 : Int32))) (F2 : Fld Z h q2 "java/lang/Enum" "ordinal" "I" (.int (2 : Int32))) (F3 : Fld Z h q3 "java/lang/Enum" "ordinal" "I" (.int (3 : Int32))) (F4 : Fld Z h q4 "java/lang/Enum" "ordinal" "I" (.int (4 : Int32))) (F5 : Fld Z h q5 "java/lang/Enum" "ordinal" "I" (.int (5 : Int32))) (F6 : Fld Z h q6 "java/lang/Enum" "ordinal" "I" (.int (6 : Int32))) (F7 : Fld Z h q7 "java/lang/Enum" "ordinal" "I" (.int (7 : Int32))) {k1 k2 : Int32} (h1 : ∃ j : Fin 8, k1 = Int32.ofNat j.val) (h2 : ∃ j : Fin 8, k2 = Int32.ofNat j.val) : kindA q0 q1 q2 q3 q4 q5 q6 q7 k1 = kindA q0 q1 q2 q3 q4 q5 q6 q7 k2 ↔ k1 = k2 := by
  obtain ⟨i, rfl⟩ := h1
  obtain ⟨j, rfl⟩ := h2
  refine ⟨fun q => ?_, fun q => by rw [q]⟩
  have a := kindA_ord F0 F1 F2 F3 F4 F5 F6 F7 i
  rw [q] at a
  exact Value.int.inj (own_fldU a (kindA_ord F0 F1 F2 F3 F4 F5 F6 F7 j))
theorem d5_0 : decode method_2_code 0 = .ok (.iload_n 0, 1) := by decide +kernel
theorem d5_1 : decode method_2_code 1 = .ok (.ifCond .ne 7, 3) := by decide +kernel
theorem d5_4 : decode method_2_code 4 = .ok (.getstatic 7, 3) := by decide +kernel
theorem d5_7 : decode method_2_code 7 = .ok (.areturn, 1) := by decide +kernel
theorem d5_8 : decode method_2_code 8 = .ok (.iload_n 0, 1) := by decide +kernel
theorem d5_9 : decode method_2_code 9 = .ok (.iconst 1, 1) := by decide +kernel
theorem d5_10 : decode method_2_code 10 = .ok (.if_icmp .ne 7, 3) := by decide +kernel
theorem d5_13 : decode method_2_code 13 = .ok (.getstatic 13, 3) := by decide +kernel
theorem d5_16 : decode method_2_code 16 = .ok (.areturn, 1) := by decide +kernel
theorem d5_17 : decode method_2_code 17 = .ok (.iload_n 0, 1) := by decide +kernel
theorem d5_18 : decode method_2_code 18 = .ok (.iconst 2, 1) := by decide +kernel
theorem d5_19 : decode method_2_code 19 = .ok (.if_icmp .ne 7, 3) := by decide +kernel
theorem d5_22 : decode method_2_code 22 = .ok (.getstatic 16, 3) := by decide +kernel
theorem d5_25 : decode method_2_code 25 = .ok (.areturn, 1) := by decide +kernel
theorem d5_26 : decode method_2_code 26 = .ok (.iload_n 0, 1) := by decide +kernel
theorem d5_27 : decode method_2_code 27 = .ok (.iconst 3, 1) := by decide +kernel
theorem d5_28 : decode method_2_code 28 = .ok (.if_icmp .ne 7, 3) := by decide +kernel
theorem d5_31 : decode method_2_code 31 = .ok (.getstatic 19, 3) := by decide +kernel
theorem d5_34 : decode method_2_code 34 = .ok (.areturn, 1) := by decide +kernel
theorem d5_35 : decode method_2_code 35 = .ok (.iload_n 0, 1) := by decide +kernel
theorem d5_36 : decode method_2_code 36 = .ok (.iconst 4, 1) := by decide +kernel
theorem d5_37 : decode method_2_code 37 = .ok (.if_icmp .ne 7, 3) := by decide +kernel
theorem d5_40 : decode method_2_code 40 = .ok (.getstatic 22, 3) := by decide +kernel
theorem d5_43 : decode method_2_code 43 = .ok (.areturn, 1) := by decide +kernel
theorem d5_44 : decode method_2_code 44 = .ok (.iload_n 0, 1) := by decide +kernel
theorem d5_45 : decode method_2_code 45 = .ok (.iconst 5, 1) := by decide +kernel
theorem d5_46 : decode method_2_code 46 = .ok (.if_icmp .ne 7, 3) := by decide +kernel
theorem d5_49 : decode method_2_code 49 = .ok (.getstatic 25, 3) := by decide +kernel
theorem d5_52 : decode method_2_code 52 = .ok (.areturn, 1) := by decide +kernel
theorem d5_53 : decode method_2_code 53 = .ok (.iload_n 0, 1) := by decide +kernel
theorem d5_54 : decode method_2_code 54 = .ok (.bipush 6, 2) := by decide +kernel
theorem d5_56 : decode method_2_code 56 = .ok (.if_icmp .ne 7, 3) := by decide +kernel
theorem d5_59 : decode method_2_code 59 = .ok (.getstatic 28, 3) := by decide +kernel
theorem d5_62 : decode method_2_code 62 = .ok (.areturn, 1) := by decide +kernel
theorem d5_63 : decode method_2_code 63 = .ok (.getstatic 31, 3) := by decide +kernel
theorem d5_66 : decode method_2_code 66 = .ok (.areturn, 1) := by decide +kernel
theorem pd_5 : parseMethodDescriptor "(I)Lcom/example/hold/hold/automaton/HoaLexer$Kind;" = some ⟨[.int], some (.object "com/example/hold/hold/automaton/HoaLexer$Kind")⟩ := by decide +kernel
theorem ef_5 (m : MethodId) (p0 : Int32) : entryFrame m #[(.int p0)] 1 = mkF m 0 #[.val (.int p0)] [] := by first | (simp [entryFrame, mkF, argsToLocals, Value.category]; done) | rfl
set_option maxRecDepth 65536 in
set_option maxHeartbeats 40000000 in
theorem rmKind (l : Launch) (Z : State) (a0 : Array Value) (hw : ∀ d ∈ tables_1, d.before a0 Z = true) (p0 : Int32) (h0 : Heap) (n0 : Nat) (Z0 : n0 ≤ h0.size) (q0 : Addr) (S0 : Sta Z h0 "com/example/hold/hold/automaton/HoaLexer$Kind" "HEADER" "Lcom/example/hold/hold/automaton/HoaLexer$Kind;" (.ref q0)) (q1 : Addr) (S1 : Sta Z h0 "com/example/hold/hold/automaton/HoaLexer$Kind" "IDENTIFIER" "Lcom/example/hold/hold/automaton/HoaLexer$Kind;" (.ref q1)) (q2 : Addr) (S2 : Sta Z h0 "com/example/hold/hold/automaton/HoaLexer$Kind" "INTEGER" "Lcom/example/hold/hold/automaton/HoaLexer$Kind;" (.ref q2)) (q3 : Addr) (S3 : Sta Z h0 "com/example/hold/hold/automaton/HoaLexer$Kind" "STRING" "Lcom/example/hold/hold/automaton/HoaLexer$Kind;" (.ref q3)) (q4 : Addr) (S4 : Sta Z h0 "com/example/hold/hold/automaton/HoaLexer$Kind" "ALIAS" "Lcom/example/hold/hold/automaton/HoaLexer$Kind;" (.ref q4)) (q5 : Addr) (S5 : Sta Z h0 "com/example/hold/hold/automaton/HoaLexer$Kind" "PUNCTUATION" "Lcom/example/hold/hold/automaton/HoaLexer$Kind;" (.ref q5)) (q6 : Addr) (S6 : Sta Z h0 "com/example/hold/hold/automaton/HoaLexer$Kind" "SEPARATOR" "Lcom/example/hold/hold/automaton/HoaLexer$Kind;" (.ref q6)) (q7 : Addr) (S7 : Sta Z h0 "com/example/hold/hold/automaton/HoaLexer$Kind" "END_OF_FILE" "Lcom/example/hold/hold/automaton/HoaLexer$Kind;" (.ref q7)) :
    Con l Z (⟨"com/example/hold/hold/automaton/TokenIsPinLaw", "kind", "(I)Lcom/example/hold/hold/automaton/HoaLexer$Kind;"⟩ : MethodName) method_2_code 1 (some (.object "com/example/hold/hold/automaton/HoaLexer$Kind")) [] ({ frames := 0, cells := 0, slots := 0, locals := 0 } : Room) 0 0 #[(.int p0)] h0 (fun v h L => v = some (.ref (kindA q0 q1 q2 q3 q4 q5 q6 q7 p0)) ∧ h = h0 ∧ L = []) := by
  refine Con.body (plainFor_of_name (by first | (simp [plainName, overriddenIn]; done) | decide +kernel)) ?_
  intro p e s m below meth c T0 hx hby hml hown hnm hZ hret hlk X0 e0
  refine Goes.cast (ef_5 m p0) ?_
  have N0 := Fr.nil n0
  show Goes p.tables e below (T0.setTop (mkF m 0 #[.val (.int p0)] [])) _
  refine g_iloadN X0 hx (hb hby d5_0) rfl ?_
  show Goes p.tables e below (T0.setTop (mkF m 1 #[.val (.int p0)] [(.int p0)])) _
  refine g_if_ne X0 hx (hb hby d5_1) (by decide) (pc' := 8) (by decide) (fun c1 => ?_) (fun c1 => ?_)
  · skip
    show Goes p.tables e below (T0.setTop (mkF m 8 #[.val (.int p0)] [])) _
    refine g_iloadN X0 hx (hb hby d5_8) rfl ?_
    show Goes p.tables e below (T0.setTop (mkF m 9 #[.val (.int p0)] [(.int p0)])) _
    refine g_iconst X0 hx (1 : Int32) (hb hby d5_9) rfl ?_
    show Goes p.tables e below (T0.setTop (mkF m 10 #[.val (.int p0)] [(.int (1 : Int32)), (.int p0)])) _
    refine g_icmp_ne X0 hx (hb hby d5_10) (by decide) (pc' := 17) (by decide) (fun c10 => ?_) (fun c10 => ?_)
    · skip
      show Goes p.tables e below (T0.setTop (mkF m 17 #[.val (.int p0)] [])) _
      refine g_iloadN X0 hx (hb hby d5_17) rfl ?_
      show Goes p.tables e below (T0.setTop (mkF m 18 #[.val (.int p0)] [(.int p0)])) _
      refine g_iconst X0 hx (2 : Int32) (hb hby d5_18) rfl ?_
      show Goes p.tables e below (T0.setTop (mkF m 19 #[.val (.int p0)] [(.int (2 : Int32)), (.int p0)])) _
      refine g_icmp_ne X0 hx (hb hby d5_19) (by decide) (pc' := 26) (by decide) (fun c19 => ?_) (fun c19 => ?_)
      · skip
        show Goes p.tables e below (T0.setTop (mkF m 26 #[.val (.int p0)] [])) _
        refine g_iloadN X0 hx (hb hby d5_26) rfl ?_
        show Goes p.tables e below (T0.setTop (mkF m 27 #[.val (.int p0)] [(.int p0)])) _
        refine g_iconst X0 hx (3 : Int32) (hb hby d5_27) rfl ?_
        show Goes p.tables e below (T0.setTop (mkF m 28 #[.val (.int p0)] [(.int (3 : Int32)), (.int p0)])) _
        refine g_icmp_ne X0 hx (hb hby d5_28) (by decide) (pc' := 35) (by decide) (fun c28 => ?_) (fun c28 => ?_)
        · skip
          show Goes p.tables e below (T0.setTop (mkF m 35 #[.val (.int p0)] [])) _
          refine g_iloadN X0 hx (hb hby d5_35) rfl ?_
          show Goes p.tables e below (T0.setTop (mkF m 36 #[.val (.int p0)] [(.int p0)])) _
          refine g_iconst X0 hx (4 : Int32) (hb hby d5_36) rfl ?_
          show Goes p.tables e below (T0.setTop (mkF m 37 #[.val (.int p0)] [(.int (4 : Int32)), (.int p0)])) _
          refine g_icmp_ne X0 hx (hb hby d5_37) (by decide) (pc' := 44) (by decide) (fun c37 => ?_) (fun c37 => ?_)
          · skip
            show Goes p.tables e below (T0.setTop (mkF m 44 #[.val (.int p0)] [])) _
            refine g_iloadN X0 hx (hb hby d5_44) rfl ?_
            show Goes p.tables e below (T0.setTop (mkF m 45 #[.val (.int p0)] [(.int p0)])) _
            refine g_iconst X0 hx (5 : Int32) (hb hby d5_45) rfl ?_
            show Goes p.tables e below (T0.setTop (mkF m 46 #[.val (.int p0)] [(.int (5 : Int32)), (.int p0)])) _
            refine g_icmp_ne X0 hx (hb hby d5_46) (by decide) (pc' := 53) (by decide) (fun c46 => ?_) (fun c46 => ?_)
            · skip
              show Goes p.tables e below (T0.setTop (mkF m 53 #[.val (.int p0)] [])) _
              refine g_iloadN X0 hx (hb hby d5_53) rfl ?_
              show Goes p.tables e below (T0.setTop (mkF m 54 #[.val (.int p0)] [(.int p0)])) _
              refine g_bipush X0 hx (6 : Int32) (hb hby d5_54) (by decide) ?_
              show Goes p.tables e below (T0.setTop (mkF m 56 #[.val (.int p0)] [(.int (6 : Int32)), (.int p0)])) _
              refine g_icmp_ne X0 hx (hb hby d5_56) (by decide) (pc' := 63) (by decide) (fun c56 => ?_) (fun c56 => ?_)
              · skip
                show Goes p.tables e below (T0.setTop (mkF m 63 #[.val (.int p0)] [])) _
                refine g_getS X0 hx hZ hown e0 (host := "") (Or.inl (hw _ (List.mem_of_getElem? (i := 68) rfl))) S7 (hb hby d5_63) (fun T1 X1 e1 => ?_)
                show Goes p.tables e below (T1.setTop (mkF m 66 #[.val (.int p0)] [(.ref q7)])) _
                exact g_retA X1 hx hret hlk rfl rfl (hb hby d5_66) (by decide) (by decide) ⟨by rw [kindA, if_neg c1, if_neg c10, if_neg c19, if_neg c28, if_neg c37, if_neg c46, if_neg c56], e1, rfl⟩
              · skip
                show Goes p.tables e below (T0.setTop (mkF m 59 #[.val (.int p0)] [])) _
                refine g_getS X0 hx hZ hown e0 (host := "") (Or.inl (hw _ (List.mem_of_getElem? (i := 88) rfl))) S6 (hb hby d5_59) (fun T2 X2 e2 => ?_)
                show Goes p.tables e below (T2.setTop (mkF m 62 #[.val (.int p0)] [(.ref q6)])) _
                exact g_retA X2 hx hret hlk rfl rfl (hb hby d5_62) (by decide) (by decide) ⟨by rw [kindA, if_neg c1, if_neg c10, if_neg c19, if_neg c28, if_neg c37, if_neg c46, if_pos c56], e2, rfl⟩
            · skip
              show Goes p.tables e below (T0.setTop (mkF m 49 #[.val (.int p0)] [])) _
              refine g_getS X0 hx hZ hown e0 (host := "") (Or.inl (hw _ (List.mem_of_getElem? (i := 86) rfl))) S5 (hb hby d5_49) (fun T3 X3 e3 => ?_)
              show Goes p.tables e below (T3.setTop (mkF m 52 #[.val (.int p0)] [(.ref q5)])) _
              exact g_retA X3 hx hret hlk rfl rfl (hb hby d5_52) (by decide) (by decide) ⟨by rw [kindA, if_neg c1, if_neg c10, if_neg c19, if_neg c28, if_neg c37, if_pos c46], e3, rfl⟩
          · skip
            show Goes p.tables e below (T0.setTop (mkF m 40 #[.val (.int p0)] [])) _
            refine g_getS X0 hx hZ hown e0 (host := "") (Or.inl (hw _ (List.mem_of_getElem? (i := 66) rfl))) S4 (hb hby d5_40) (fun T4 X4 e4 => ?_)
            show Goes p.tables e below (T4.setTop (mkF m 43 #[.val (.int p0)] [(.ref q4)])) _
            exact g_retA X4 hx hret hlk rfl rfl (hb hby d5_43) (by decide) (by decide) ⟨by rw [kindA, if_neg c1, if_neg c10, if_neg c19, if_neg c28, if_pos c37], e4, rfl⟩
        · skip
          show Goes p.tables e below (T0.setTop (mkF m 31 #[.val (.int p0)] [])) _
          refine g_getS X0 hx hZ hown e0 (host := "") (Or.inl (hw _ (List.mem_of_getElem? (i := 82) rfl))) S3 (hb hby d5_31) (fun T5 X5 e5 => ?_)
          show Goes p.tables e below (T5.setTop (mkF m 34 #[.val (.int p0)] [(.ref q3)])) _
          exact g_retA X5 hx hret hlk rfl rfl (hb hby d5_34) (by decide) (by decide) ⟨by rw [kindA, if_neg c1, if_neg c10, if_neg c19, if_pos c28], e5, rfl⟩
      · skip
        show Goes p.tables e below (T0.setTop (mkF m 22 #[.val (.int p0)] [])) _
        refine g_getS X0 hx hZ hown e0 (host := "") (Or.inl (hw _ (List.mem_of_getElem? (i := 80) rfl))) S2 (hb hby d5_22) (fun T6 X6 e6 => ?_)
        show Goes p.tables e below (T6.setTop (mkF m 25 #[.val (.int p0)] [(.ref q2)])) _
        exact g_retA X6 hx hret hlk rfl rfl (hb hby d5_25) (by decide) (by decide) ⟨by rw [kindA, if_neg c1, if_neg c10, if_pos c19], e6, rfl⟩
    · skip
      show Goes p.tables e below (T0.setTop (mkF m 13 #[.val (.int p0)] [])) _
      refine g_getS X0 hx hZ hown e0 (host := "") (Or.inl (hw _ (List.mem_of_getElem? (i := 84) rfl))) S1 (hb hby d5_13) (fun T7 X7 e7 => ?_)
      show Goes p.tables e below (T7.setTop (mkF m 16 #[.val (.int p0)] [(.ref q1)])) _
      exact g_retA X7 hx hret hlk rfl rfl (hb hby d5_16) (by decide) (by decide) ⟨by rw [kindA, if_neg c1, if_pos c10], e7, rfl⟩
  · skip
    show Goes p.tables e below (T0.setTop (mkF m 4 #[.val (.int p0)] [])) _
    refine g_getS X0 hx hZ hown e0 (host := "") (Or.inl (hw _ (List.mem_of_getElem? (i := 32) rfl))) S0 (hb hby d5_4) (fun T8 X8 e8 => ?_)
    show Goes p.tables e below (T8.setTop (mkF m 7 #[.val (.int p0)] [(.ref q0)])) _
    exact g_retA X8 hx hret hlk rfl rfl (hb hby d5_7) (by decide) (by decide) ⟨by rw [kindA, if_pos c1], e8, rfl⟩
theorem d7_0 : decode jdk_30_method_1_code 0 = .ok (.aload_n 0, 1) := by decide +kernel
theorem d7_1 : decode jdk_30_method_1_code 1 = .ok (.invokespecial 1, 3) := by decide +kernel
theorem d7_4 : decode jdk_30_method_1_code 4 = .ok (.return_, 1) := by decide +kernel
theorem pd_7 : parseMethodDescriptor "()V" = some ⟨[], none⟩ := by decide +kernel
theorem ef_7 (m : MethodId) (p0 : Addr) : entryFrame m #[(.ref p0)] 1 = mkF m 0 #[.val (.ref p0)] [] := by first | (simp [entryFrame, mkF, argsToLocals, Value.category]; done) | rfl
set_option maxRecDepth 65536 in
set_option maxHeartbeats 40000000 in
theorem rmRec (l : Launch) (Z : State) (a0 : Array Value) (hw : ∀ d ∈ tables_1, d.before a0 Z = true) (p0 : Addr) (h0 : Heap) (n0 : Nat) (Z0 : n0 ≤ h0.size)  :
    Con l Z (⟨"java/lang/Record", "<init>", "()V"⟩ : MethodName) jdk_30_method_1_code 1 none [] ({ frames := 1, cells := 0, slots := 0, locals := 12 } : Room) 0 0 #[(.ref p0)] h0 (fun v h L => v = none ∧ h = h0 ∧ L = []) := by
  refine Con.body (plainFor_of_name (by first | (simp [plainName, overriddenIn]; done) | decide +kernel)) ?_
  intro p e s m below meth c T0 hx hby hml hown hnm hZ hret hlk X0 e0
  refine Goes.cast (ef_7 m p0) ?_
  have N0 := Fr.nil n0
  show Goes p.tables e below (T0.setTop (mkF m 0 #[.val (.ref p0)] [])) _
  refine g_aloadN X0 hx (hb hby d7_0) rfl rfl ?_
  show Goes p.tables e below (T0.setTop (mkF m 1 #[.val (.ref p0)] [(.ref p0)])) _
  refine g_init0 X0 hx hZ hown (by rw [hml]; rfl) e0 (hw _ (List.mem_of_getElem? (i := 43) rfl)) (hw _ (List.mem_of_getElem? (i := 16) rfl)) (hw _ (List.mem_of_getElem? (i := 17) rfl)) (hb hby d7_1) 0 (by decide) (by first | decide | exact Nat.le_refl _) (by first | decide | exact Nat.le_refl _) (fun T1 X1 e1 => ?_)
  show Goes p.tables e below (T1.setTop (mkF m 4 #[.val (.ref p0)] [])) _
  exact g_ret0 X1 hx hret hlk (hb hby d7_4) (by decide) (by decide) ⟨rfl, e1, rfl⟩
theorem d6_0 : decode prog_15_method_1_code 0 = .ok (.aload_n 0, 1) := by decide +kernel
theorem d6_1 : decode prog_15_method_1_code 1 = .ok (.invokespecial 1, 3) := by decide +kernel
theorem d6_4 : decode prog_15_method_1_code 4 = .ok (.aload_n 0, 1) := by decide +kernel
theorem d6_5 : decode prog_15_method_1_code 5 = .ok (.aload_n 1, 1) := by decide +kernel
theorem d6_6 : decode prog_15_method_1_code 6 = .ok (.putfield 7, 3) := by decide +kernel
theorem d6_9 : decode prog_15_method_1_code 9 = .ok (.aload_n 0, 1) := by decide +kernel
theorem d6_10 : decode prog_15_method_1_code 10 = .ok (.aload_n 2, 1) := by decide +kernel
theorem d6_11 : decode prog_15_method_1_code 11 = .ok (.putfield 13, 3) := by decide +kernel
theorem d6_14 : decode prog_15_method_1_code 14 = .ok (.aload_n 0, 1) := by decide +kernel
theorem d6_15 : decode prog_15_method_1_code 15 = .ok (.iload_n 3, 1) := by decide +kernel
theorem d6_16 : decode prog_15_method_1_code 16 = .ok (.putfield 17, 3) := by decide +kernel
theorem d6_19 : decode prog_15_method_1_code 19 = .ok (.return_, 1) := by decide +kernel
theorem pd_6 : parseMethodDescriptor "(Lcom/example/hold/hold/automaton/HoaLexer$Kind;Ljava/lang/String;I)V" = some ⟨[(.object "com/example/hold/hold/automaton/HoaLexer$Kind"), (.object "java/lang/String"), .int], none⟩ := by decide +kernel
theorem ef_6 (m : MethodId) (p0 : Addr) (p1 : Addr) (p2 : Addr) (p3 : Int32) : entryFrame m #[(.ref p0), (.ref p1), (.ref p2), (.int p3)] 4 = mkF m 0 #[.val (.ref p0), .val (.ref p1), .val (.ref p2), .val (.int p3)] [] := by first | (simp [entryFrame, mkF, argsToLocals, Value.category]; done) | rfl
set_option maxRecDepth 65536 in
set_option maxHeartbeats 40000000 in
theorem rmTok (l : Launch) (Z : State) (a0 : Array Value) (hw : ∀ d ∈ tables_1, d.before a0 Z = true) (p0 : Addr) (p1 : Addr) (p2 : Addr) (p3 : Int32) (h0 : Heap) (n0 : Nat) (Z0 : n0 ≤ h0.size) (f1 : Fld Z h0 p0 "com/example/hold/hold/automaton/HoaLexer$Token" "kind" "Lcom/example/hold/hold/automaton/HoaLexer$Kind;" .null) (f2 : Fld Z h0 p0 "com/example/hold/hold/automaton/HoaLexer$Token" "text" "Ljava/lang/String;" .null) (f3 : Fld Z h0 p0 "com/example/hold/hold/automaton/HoaLexer$Token" "line" "I" (.int (0 : Int32))) (E0 : Exa Z h0 p0 "com/example/hold/hold/automaton/HoaLexer$Token") (ga : n0 ≤ p0) :
    Con l Z (⟨"com/example/hold/hold/automaton/HoaLexer$Token", "<init>", "(Lcom/example/hold/hold/automaton/HoaLexer$Kind;Ljava/lang/String;I)V"⟩ : MethodName) prog_15_method_1_code 4 none [] ({ frames := 2, cells := 0, slots := 0, locals := 24 } : Room) 0 0 #[(.ref p0), (.ref p1), (.ref p2), (.int p3)] h0 (fun v h L => v = none ∧ Fr n0 L ∧ Keep h0 h [p0] ∧ Fld Z h p0 "com/example/hold/hold/automaton/HoaLexer$Token" "kind" "Lcom/example/hold/hold/automaton/HoaLexer$Kind;" (.ref p1) ∧ Fld Z h p0 "com/example/hold/hold/automaton/HoaLexer$Token" "text" "Ljava/lang/String;" (.ref p2)) := by
  refine Con.body (plainFor_of_name (by first | (simp [plainName, overriddenIn]; done) | decide +kernel)) ?_
  intro p e s m below meth c T0 hx hby hml hown hnm hZ hret hlk X0 e0
  refine Goes.cast (ef_6 m p0 p1 p2 p3) ?_
  have N0 := Fr.nil n0
  have K0 : Keep h0 h0 [p0] := Keep.refl _ _
  show Goes p.tables e below (T0.setTop (mkF m 0 #[.val (.ref p0), .val (.ref p1), .val (.ref p2), .val (.int p3)] [])) _
  refine g_aloadN X0 hx (hb hby d6_0) rfl rfl ?_
  show Goes p.tables e below (T0.setTop (mkF m 1 #[.val (.ref p0), .val (.ref p1), .val (.ref p2), .val (.int p3)] [(.ref p0)])) _
  refine g_callI X0 hx hZ hown (by rw [hml]; rfl) e0 rfl (hw _ (List.mem_of_getElem? (i := 38) rfl)) (hw _ (List.mem_of_getElem? (i := 39) rfl)) (hw _ (List.mem_of_getElem? (i := 41) rfl)) (hw _ (List.mem_of_getElem? (i := 42) rfl)) (rmRec l Z a0 hw p0 h0 n0 Z0) p0 [] rfl [] rfl (lenOf pd_7 rfl) (hb hby d6_1) (by decide) 0 (by decide) (by decide) (by first | decide | exact Nat.le_refl _) (by decide) (by decide) (fun v T1 L1 X1 hQ1 => ?_)
  obtain ⟨rfl, e1, rfl⟩ := hQ1
  have N2 := Fr.app N0 (Fr.nil n0)
  show Goes p.tables e below (T1.setTop (mkF m 4 #[.val (.ref p0), .val (.ref p1), .val (.ref p2), .val (.int p3)] [])) _
  refine g_aloadN X1 hx (hb hby d6_4) rfl rfl ?_
  show Goes p.tables e below (T1.setTop (mkF m 5 #[.val (.ref p0), .val (.ref p1), .val (.ref p2), .val (.int p3)] [(.ref p0)])) _
  refine g_aloadN X1 hx (hb hby d6_5) rfl rfl ?_
  show Goes p.tables e below (T1.setTop (mkF m 6 #[.val (.ref p0), .val (.ref p1), .val (.ref p2), .val (.int p3)] [(.ref p1), (.ref p0)])) _
  refine g_putF X1 hx hZ hown e1 (hw _ (List.mem_of_getElem? (i := 44) rfl)) Via.refl (v' := (.ref p1)) f1 E0 (Or.inr ⟨(hw _ (List.mem_of_getElem? (i := 45) rfl)), rfl, hnm⟩) (hw _ (List.mem_of_getElem? (i := 27) rfl)) (ty := (.object "com/example/hold/hold/automaton/HoaLexer$Kind")) (by decide) rfl rfl (hb hby d6_6) (fun T3 h3 X3 e3 W3 => ?_)
  have fx4 : Fld Z h3 p0 "com/example/hold/hold/automaton/HoaLexer$Token" "text" "Ljava/lang/String;" .null := Fld.other W3 f2 (Or.inr (slot_ne (t := (.object "java/lang/String")) (t' := (.object "com/example/hold/hold/automaton/HoaLexer$Kind")) (Or.inr (hw _ (List.mem_of_getElem? (i := 47) rfl))) (Or.inr (hw _ (List.mem_of_getElem? (i := 45) rfl))) (by decide) (by decide) (by decide)))
  have fx5 : Fld Z h3 p0 "com/example/hold/hold/automaton/HoaLexer$Token" "line" "I" (.int (0 : Int32)) := Fld.other W3 f3 (Or.inr (slot_ne (t := .int) (t' := (.object "com/example/hold/hold/automaton/HoaLexer$Kind")) (Or.inr (hw _ (List.mem_of_getElem? (i := 49) rfl))) (Or.inr (hw _ (List.mem_of_getElem? (i := 45) rfl))) (by decide) (by decide) (by decide)))
  have fx6 : Exa Z h3 p0 "com/example/hold/hold/automaton/HoaLexer$Token" := Exa.wr W3 E0
  have fx7 : Fld Z h3 p0 "com/example/hold/hold/automaton/HoaLexer$Token" "kind" "Lcom/example/hold/hold/automaton/HoaLexer$Kind;" (.ref p1) := Fld.same W3 f1
  have N8 := Fr.snoc X3 N2 ga
  have Z9 : n0 ≤ h3.size := by rw [W3.size]; exact Z0
  have K10 : Keep h0 h3 [p0] := Keep.wr K0 W3 (Or.inl (List.mem_of_getElem? (i := 0) rfl))
  show Goes p.tables e below (T3.setTop (mkF m 9 #[.val (.ref p0), .val (.ref p1), .val (.ref p2), .val (.int p3)] [])) _
  refine g_aloadN X3 hx (hb hby d6_9) rfl rfl ?_
  show Goes p.tables e below (T3.setTop (mkF m 10 #[.val (.ref p0), .val (.ref p1), .val (.ref p2), .val (.int p3)] [(.ref p0)])) _
  refine g_aloadN X3 hx (hb hby d6_10) rfl rfl ?_
  show Goes p.tables e below (T3.setTop (mkF m 11 #[.val (.ref p0), .val (.ref p1), .val (.ref p2), .val (.int p3)] [(.ref p2), (.ref p0)])) _
  refine g_putF X3 hx hZ hown e3 (hw _ (List.mem_of_getElem? (i := 46) rfl)) Via.refl (v' := (.ref p2)) fx4 fx6 (Or.inr ⟨(hw _ (List.mem_of_getElem? (i := 47) rfl)), rfl, hnm⟩) (hw _ (List.mem_of_getElem? (i := 27) rfl)) (ty := (.object "java/lang/String")) (by decide) rfl rfl (hb hby d6_11) (fun T11 h11 X11 e11 W11 => ?_)
  have fx12 : Fld Z h11 p0 "com/example/hold/hold/automaton/HoaLexer$Token" "line" "I" (.int (0 : Int32)) := Fld.other W11 fx5 (Or.inr (slot_ne (t := .int) (t' := (.object "java/lang/String")) (Or.inr (hw _ (List.mem_of_getElem? (i := 49) rfl))) (Or.inr (hw _ (List.mem_of_getElem? (i := 47) rfl))) (by decide) (by decide) (by decide)))
  have fx13 : Exa Z h11 p0 "com/example/hold/hold/automaton/HoaLexer$Token" := Exa.wr W11 fx6
  have fx14 : Fld Z h11 p0 "com/example/hold/hold/automaton/HoaLexer$Token" "kind" "Lcom/example/hold/hold/automaton/HoaLexer$Kind;" (.ref p1) := Fld.other W11 fx7 (Or.inr (slot_ne (t := (.object "com/example/hold/hold/automaton/HoaLexer$Kind")) (t' := (.object "java/lang/String")) (Or.inr (hw _ (List.mem_of_getElem? (i := 45) rfl))) (Or.inr (hw _ (List.mem_of_getElem? (i := 47) rfl))) (by decide) (by decide) (by decide)))
  have fx15 : Fld Z h11 p0 "com/example/hold/hold/automaton/HoaLexer$Token" "text" "Ljava/lang/String;" (.ref p2) := Fld.same W11 fx4
  have N16 := Fr.snoc X11 N8 ga
  have Z17 : n0 ≤ h11.size := by rw [W11.size]; exact Z9
  have K18 : Keep h0 h11 [p0] := Keep.wr K10 W11 (Or.inl (List.mem_of_getElem? (i := 0) rfl))
  show Goes p.tables e below (T11.setTop (mkF m 14 #[.val (.ref p0), .val (.ref p1), .val (.ref p2), .val (.int p3)] [])) _
  refine g_aloadN X11 hx (hb hby d6_14) rfl rfl ?_
  show Goes p.tables e below (T11.setTop (mkF m 15 #[.val (.ref p0), .val (.ref p1), .val (.ref p2), .val (.int p3)] [(.ref p0)])) _
  refine g_iloadN X11 hx (hb hby d6_15) rfl ?_
  show Goes p.tables e below (T11.setTop (mkF m 16 #[.val (.ref p0), .val (.ref p1), .val (.ref p2), .val (.int p3)] [(.int p3), (.ref p0)])) _
  refine g_putF X11 hx hZ hown e11 (hw _ (List.mem_of_getElem? (i := 48) rfl)) Via.refl (v' := (.int p3)) fx12 fx13 (Or.inr ⟨(hw _ (List.mem_of_getElem? (i := 49) rfl)), rfl, hnm⟩) (hw _ (List.mem_of_getElem? (i := 27) rfl)) (ty := .int) (by decide) rfl rfl (hb hby d6_16) (fun T19 h19 X19 e19 W19 => ?_)
  have fx20 : Exa Z h19 p0 "com/example/hold/hold/automaton/HoaLexer$Token" := Exa.wr W19 fx13
  have fx21 : Fld Z h19 p0 "com/example/hold/hold/automaton/HoaLexer$Token" "kind" "Lcom/example/hold/hold/automaton/HoaLexer$Kind;" (.ref p1) := Fld.other W19 fx14 (Or.inr (slot_ne (t := (.object "com/example/hold/hold/automaton/HoaLexer$Kind")) (t' := .int) (Or.inr (hw _ (List.mem_of_getElem? (i := 45) rfl))) (Or.inr (hw _ (List.mem_of_getElem? (i := 49) rfl))) (by decide) (by decide) (by decide)))
  have fx22 : Fld Z h19 p0 "com/example/hold/hold/automaton/HoaLexer$Token" "text" "Ljava/lang/String;" (.ref p2) := Fld.other W19 fx15 (Or.inr (slot_ne (t := (.object "java/lang/String")) (t' := .int) (Or.inr (hw _ (List.mem_of_getElem? (i := 47) rfl))) (Or.inr (hw _ (List.mem_of_getElem? (i := 49) rfl))) (by decide) (by decide) (by decide)))
  have fx23 : Fld Z h19 p0 "com/example/hold/hold/automaton/HoaLexer$Token" "line" "I" (.int p3) := Fld.same W19 fx12
  have N24 := Fr.snoc X19 N16 ga
  have Z25 : n0 ≤ h19.size := by rw [W19.size]; exact Z17
  have K26 : Keep h0 h19 [p0] := Keep.wr K18 W19 (Or.inl (List.mem_of_getElem? (i := 0) rfl))
  show Goes p.tables e below (T19.setTop (mkF m 19 #[.val (.ref p0), .val (.ref p1), .val (.ref p2), .val (.int p3)] [])) _
  exact g_ret0 X19 hx hret hlk (hb hby d6_19) (by decide) (by decide) (by rw [e19]; exact ⟨rfl, N24, K26, fx21, fx22⟩)
theorem d10_0 : decode jdk_43_method_13_code 0 = .ok (.aload_n 0, 1) := by decide +kernel
theorem d10_1 : decode jdk_43_method_13_code 1 = .ok (.arraylength, 1) := by decide +kernel
theorem d10_2 : decode jdk_43_method_13_code 2 = .ok (.aload_n 1, 1) := by decide +kernel
theorem d10_3 : decode jdk_43_method_13_code 3 = .ok (.arraylength, 1) := by decide +kernel
theorem d10_4 : decode jdk_43_method_13_code 4 = .ok (.if_icmp .ne 30, 3) := by decide +kernel
theorem d10_7 : decode jdk_43_method_13_code 7 = .ok (.iconst 0, 1) := by decide +kernel
theorem d10_8 : decode jdk_43_method_13_code 8 = .ok (.istore_n 2, 1) := by decide +kernel
theorem d10_9 : decode jdk_43_method_13_code 9 = .ok (.iload_n 2, 1) := by decide +kernel
theorem d10_10 : decode jdk_43_method_13_code 10 = .ok (.aload_n 0, 1) := by decide +kernel
theorem d10_11 : decode jdk_43_method_13_code 11 = .ok (.arraylength, 1) := by decide +kernel
theorem d10_12 : decode jdk_43_method_13_code 12 = .ok (.if_icmp .ge 20, 3) := by decide +kernel
theorem d10_15 : decode jdk_43_method_13_code 15 = .ok (.aload_n 0, 1) := by decide +kernel
theorem d10_16 : decode jdk_43_method_13_code 16 = .ok (.iload_n 2, 1) := by decide +kernel
theorem d10_17 : decode jdk_43_method_13_code 17 = .ok (.baload, 1) := by decide +kernel
theorem d10_18 : decode jdk_43_method_13_code 18 = .ok (.aload_n 1, 1) := by decide +kernel
theorem d10_19 : decode jdk_43_method_13_code 19 = .ok (.iload_n 2, 1) := by decide +kernel
theorem d10_20 : decode jdk_43_method_13_code 20 = .ok (.baload, 1) := by decide +kernel
theorem d10_21 : decode jdk_43_method_13_code 21 = .ok (.if_icmp .eq 5, 3) := by decide +kernel
theorem d10_24 : decode jdk_43_method_13_code 24 = .ok (.iconst 0, 1) := by decide +kernel
theorem d10_25 : decode jdk_43_method_13_code 25 = .ok (.ireturn, 1) := by decide +kernel
theorem d10_26 : decode jdk_43_method_13_code 26 = .ok (.iinc 2 1, 3) := by decide +kernel
theorem d10_29 : decode jdk_43_method_13_code 29 = .ok (.goto (-20), 3) := by decide +kernel
theorem d10_32 : decode jdk_43_method_13_code 32 = .ok (.iconst 1, 1) := by decide +kernel
theorem d10_33 : decode jdk_43_method_13_code 33 = .ok (.ireturn, 1) := by decide +kernel
theorem d10_34 : decode jdk_43_method_13_code 34 = .ok (.iconst 0, 1) := by decide +kernel
theorem d10_35 : decode jdk_43_method_13_code 35 = .ok (.ireturn, 1) := by decide +kernel
theorem pd_10 : parseMethodDescriptor "([B[B)Z" = some ⟨[(.array .byte), (.array .byte)], some .boolean⟩ := by decide +kernel
theorem ef_10 (m : MethodId) (p0 : Addr) (p1 : Addr) : entryFrame m #[(.ref p0), (.ref p1)] 3 = mkF m 0 #[.val (.ref p0), .val (.ref p1), .unset] [] := by first | (simp [entryFrame, mkF, argsToLocals, Value.category]; done) | rfl
set_option maxRecDepth 65536 in
set_option maxHeartbeats 40000000 in
theorem rmEqL (l : Launch) (Z : State) (a0 : Array Value) (hw : ∀ d ∈ tables_1, d.before a0 Z = true) (p0 : Addr) (p1 : Addr) (h0 : Heap) (n0 : Nat) (Z0 : n0 ≤ h0.size) (xs ys : List Int32) (A0 : Ar Z h0 p0 .byte (xs.map Value.int)) (B0 : Ar Z h0 p1 .byte (ys.map Value.int)) :
    Con l Z (⟨"java/lang/StringLatin1", "equals", "([B[B)Z"⟩ : MethodName) jdk_43_method_13_code 3 (some .boolean) [] ({ frames := 0, cells := 0, slots := 0, locals := 0 } : Room) 0 0 #[(.ref p0), (.ref p1)] h0 (fun v h L => v = some (.int (eqV xs ys)) ∧ h = h0 ∧ L = []) := by
  refine Con.body (plainFor_of_name (by first | (simp [plainName, overriddenIn]; done) | decide +kernel)) ?_
  intro p e s m below meth c T0 hx hby hml hown hnm hZ hret hlk X0 e0
  refine Goes.cast (ef_10 m p0 p1) ?_
  have N0 := Fr.nil n0
  have lx := own_len A0
  have ly := own_len B0
  show Goes p.tables e below (T0.setTop (mkF m 0 #[.val (.ref p0), .val (.ref p1), .unset] [])) _
  refine g_aloadN X0 hx (hb hby d10_0) rfl rfl ?_
  show Goes p.tables e below (T0.setTop (mkF m 1 #[.val (.ref p0), .val (.ref p1), .unset] [(.ref p0)])) _
  refine g_alen X0 hx hZ e0 A0 (Int32.ofNat xs.length) (by rw [List.length_map]; exact own_of lx) (hb hby d10_1) ?_
  show Goes p.tables e below (T0.setTop (mkF m 2 #[.val (.ref p0), .val (.ref p1), .unset] [(.int (Int32.ofNat xs.length))])) _
  refine g_aloadN X0 hx (hb hby d10_2) rfl rfl ?_
  show Goes p.tables e below (T0.setTop (mkF m 3 #[.val (.ref p0), .val (.ref p1), .unset] [(.ref p1), (.int (Int32.ofNat xs.length))])) _
  refine g_alen X0 hx hZ e0 B0 (Int32.ofNat ys.length) (by rw [List.length_map]; exact own_of ly) (hb hby d10_3) ?_
  refine g_icmp_ne X0 hx (hb hby d10_4) (by decide) (pc' := 34) (by decide) (fun c4 => ?_) (fun c4 => ?_)
  · skip
    show Goes p.tables e below (T0.setTop (mkF m 34 #[.val (.ref p0), .val (.ref p1), .unset] [])) _
    refine g_iconst X0 hx (0 : Int32) (hb hby d10_34) rfl ?_
    show Goes p.tables e below (T0.setTop (mkF m 35 #[.val (.ref p0), .val (.ref p1), .unset] [(.int (0 : Int32))])) _
    exact g_retZ X0 hx (hz := (by decide)) hret hlk (hb hby d10_35) (by decide) (by decide) ⟨by rw [eqV, if_neg (fun q => c4 (by rw [q]))], e0, rfl⟩
  · skip
    show Goes p.tables e below (T0.setTop (mkF m 7 #[.val (.ref p0), .val (.ref p1), .unset] [])) _
    have hxy := own_ofInj lx ly c4
    refine g_iconst X0 hx (0 : Int32) (hb hby d10_7) rfl ?_
    show Goes p.tables e below (T0.setTop (mkF m 8 #[.val (.ref p0), .val (.ref p1), .unset] [(.int (0 : Int32))])) _
    refine g_istoreN X0 hx (hb hby d10_8) (l' := #[.val (.ref p0), .val (.ref p1), .val (.int (0 : Int32))]) rfl ?_
    have loop : ∀ k i9 : Nat, xs.length - i9 = k → i9 ≤ xs.length → xs.take i9 = ys.take i9 → Goes p.tables e below (T0.setTop (mkF m 9 #[.val (.ref p0), .val (.ref p1), .val (.int (Int32.ofNat i9))] [])) (Fin s 0 0 (fun v h L => v = some (.int (eqV xs ys)) ∧ h = h0 ∧ L = [])) := by
      intro k
      induction k using Nat.strongRecOn with
      | _ k ih =>
        intro i9 hk hi9 ht9
        show Goes p.tables e below (T0.setTop (mkF m 9 #[.val (.ref p0), .val (.ref p1), .val (.int (Int32.ofNat i9))] [])) _
        refine g_iloadN X0 hx (hb hby d10_9) rfl ?_
        show Goes p.tables e below (T0.setTop (mkF m 10 #[.val (.ref p0), .val (.ref p1), .val (.int (Int32.ofNat i9))] [(.int (Int32.ofNat i9))])) _
        refine g_aloadN X0 hx (hb hby d10_10) rfl rfl ?_
        show Goes p.tables e below (T0.setTop (mkF m 11 #[.val (.ref p0), .val (.ref p1), .val (.int (Int32.ofNat i9))] [(.ref p0), (.int (Int32.ofNat i9))])) _
        refine g_alen X0 hx hZ e0 A0 (Int32.ofNat xs.length) (by rw [List.length_map]; exact own_of lx) (hb hby d10_11) ?_
        refine g_icmp_ge X0 hx (hb hby d10_12) (by decide) (pc' := 32) (by decide) (fun c12 => ?_) (fun c12 => ?_)
        · skip
          show Goes p.tables e below (T0.setTop (mkF m 32 #[.val (.ref p0), .val (.ref p1), .val (.int (Int32.ofNat i9))] [])) _
          have en : i9 = xs.length := by have q : ¬ _ < _ := fun z => c12 (Int32.lt_iff_toInt_lt.mpr z); rw [own_of (by omega), own_of (by omega)] at q; omega
          have hE : xs = ys := by rw [en, List.take_length, hxy, List.take_length] at ht9; exact ht9
          refine g_iconst X0 hx (1 : Int32) (hb hby d10_32) rfl ?_
          show Goes p.tables e below (T0.setTop (mkF m 33 #[.val (.ref p0), .val (.ref p1), .val (.int (Int32.ofNat i9))] [(.int (1 : Int32))])) _
          exact g_retZ X0 hx (hz := (by decide)) hret hlk (hb hby d10_33) (by decide) (by decide) ⟨by rw [eqV, if_pos hE], e0, rfl⟩
        · skip
          show Goes p.tables e below (T0.setTop (mkF m 15 #[.val (.ref p0), .val (.ref p1), .val (.int (Int32.ofNat i9))] [])) _
          have hlt : i9 < xs.length := by have q := Int32.lt_iff_toInt_lt.mp c12; rw [own_of (by omega), own_of (by omega)] at q; omega
          obtain ⟨x, hxx⟩ : ∃ x, xs[i9]? = some x := ⟨_, List.getElem?_eq_getElem hlt⟩
          obtain ⟨y, hyy⟩ : ∃ y, ys[i9]? = some y := ⟨_, List.getElem?_eq_getElem (by rw [← hxy]; exact hlt)⟩
          refine g_aloadN X0 hx (hb hby d10_15) rfl rfl ?_
          show Goes p.tables e below (T0.setTop (mkF m 16 #[.val (.ref p0), .val (.ref p1), .val (.int (Int32.ofNat i9))] [(.ref p0)])) _
          refine g_iloadN X0 hx (hb hby d10_16) rfl ?_
          show Goes p.tables e below (T0.setTop (mkF m 17 #[.val (.ref p0), .val (.ref p1), .val (.int (Int32.ofNat i9))] [(.int (Int32.ofNat i9)), (.ref p0)])) _
          refine g_baload X0 hx hZ e0 A0 (i := i9) (v := (.int x)) (own_of (by omega)) (by rw [List.getElem?_map, hxx]; rfl) (hb hby d10_17) ?_
          show Goes p.tables e below (T0.setTop (mkF m 18 #[.val (.ref p0), .val (.ref p1), .val (.int (Int32.ofNat i9))] [(.int x)])) _
          refine g_aloadN X0 hx (hb hby d10_18) rfl rfl ?_
          show Goes p.tables e below (T0.setTop (mkF m 19 #[.val (.ref p0), .val (.ref p1), .val (.int (Int32.ofNat i9))] [(.ref p1), (.int x)])) _
          refine g_iloadN X0 hx (hb hby d10_19) rfl ?_
          show Goes p.tables e below (T0.setTop (mkF m 20 #[.val (.ref p0), .val (.ref p1), .val (.int (Int32.ofNat i9))] [(.int (Int32.ofNat i9)), (.ref p1), (.int x)])) _
          refine g_baload X0 hx hZ e0 B0 (i := i9) (v := (.int y)) (own_of (by omega)) (by rw [List.getElem?_map, hyy]; rfl) (hb hby d10_20) ?_
          refine g_icmp_eq X0 hx (hb hby d10_21) (by decide) (pc' := 26) (by decide) (fun c21 => ?_) (fun c21 => ?_)
          · skip
            show Goes p.tables e below (T0.setTop (mkF m 26 #[.val (.ref p0), .val (.ref p1), .val (.int (Int32.ofNat i9))] [])) _
            refine g_iinc X0 hx (1 : Int32) (hb hby d10_26) rfl rfl (l' := #[.val (.ref p0), .val (.ref p1), .val (.int ((Int32.ofNat i9) + (1 : Int32)))]) rfl ?_
            show Goes p.tables e below (T0.setTop (mkF m 29 #[.val (.ref p0), .val (.ref p1), .val (.int ((Int32.ofNat i9) + (1 : Int32)))] [])) _
            refine g_goto X0 hx (hb hby d10_29) (by decide) (pc' := 9) (by decide) ?_
            rw [own_succ]
            exact ih (xs.length - (i9 + 1)) (by omega) (i9 + 1) rfl (by omega) (take_succ_eq ht9 hxx (by rw [c21]; exact hyy))
          · skip
            show Goes p.tables e below (T0.setTop (mkF m 24 #[.val (.ref p0), .val (.ref p1), .val (.int (Int32.ofNat i9))] [])) _
            refine g_iconst X0 hx (0 : Int32) (hb hby d10_24) rfl ?_
            show Goes p.tables e below (T0.setTop (mkF m 25 #[.val (.ref p0), .val (.ref p1), .val (.int (Int32.ofNat i9))] [(.int (0 : Int32))])) _
            exact g_retZ X0 hx (hz := (by decide)) hret hlk (hb hby d10_25) (by decide) (by decide) ⟨by rw [eqV, if_neg (fun q => c21 (by rw [q, hyy] at hxx; exact (Option.some.inj hxx).symm))], e0, rfl⟩
    exact loop _ 0 rfl (Nat.zero_le _) (by rw [List.take_zero, List.take_zero])
theorem d9_0 : decode jdk_42_method_66_code 0 = .ok (.aload_n 0, 1) := by decide +kernel
theorem d9_1 : decode jdk_42_method_66_code 1 = .ok (.aload_n 1, 1) := by decide +kernel
theorem d9_2 : decode jdk_42_method_66_code 2 = .ok (.if_acmp .ne 5, 3) := by decide +kernel
theorem d9_5 : decode jdk_42_method_66_code 5 = .ok (.iconst 1, 1) := by decide +kernel
theorem d9_6 : decode jdk_42_method_66_code 6 = .ok (.ireturn, 1) := by decide +kernel
theorem d9_7 : decode jdk_42_method_66_code 7 = .ok (.aload_n 1, 1) := by decide +kernel
theorem d9_8 : decode jdk_42_method_66_code 8 = .ok (.instanceof 10, 3) := by decide +kernel
theorem d9_11 : decode jdk_42_method_66_code 11 = .ok (.ifCond .eq 43, 3) := by decide +kernel
theorem d9_14 : decode jdk_42_method_66_code 14 = .ok (.aload_n 1, 1) := by decide +kernel
theorem d9_15 : decode jdk_42_method_66_code 15 = .ok (.checkcast 10, 3) := by decide +kernel
theorem d9_18 : decode jdk_42_method_66_code 18 = .ok (.astore_n 2, 1) := by decide +kernel
theorem d9_19 : decode jdk_42_method_66_code 19 = .ok (.getstatic 38, 3) := by decide +kernel
theorem d9_22 : decode jdk_42_method_66_code 22 = .ok (.ifCond .eq 14, 3) := by decide +kernel
theorem d9_25 : decode jdk_42_method_66_code 25 = .ok (.aload_n 0, 1) := by decide +kernel
theorem d9_26 : decode jdk_42_method_66_code 26 = .ok (.getfield 15, 3) := by decide +kernel
theorem d9_29 : decode jdk_42_method_66_code 29 = .ok (.aload_n 2, 1) := by decide +kernel
theorem d9_30 : decode jdk_42_method_66_code 30 = .ok (.getfield 15, 3) := by decide +kernel
theorem d9_33 : decode jdk_42_method_66_code 33 = .ok (.if_icmp .ne 21, 3) := by decide +kernel
theorem d9_36 : decode jdk_42_method_66_code 36 = .ok (.aload_n 0, 1) := by decide +kernel
theorem d9_37 : decode jdk_42_method_66_code 37 = .ok (.getfield 9, 3) := by decide +kernel
theorem d9_40 : decode jdk_42_method_66_code 40 = .ok (.aload_n 2, 1) := by decide +kernel
theorem d9_41 : decode jdk_42_method_66_code 41 = .ok (.getfield 9, 3) := by decide +kernel
theorem d9_44 : decode jdk_42_method_66_code 44 = .ok (.invokestatic 541, 3) := by decide +kernel
theorem d9_47 : decode jdk_42_method_66_code 47 = .ok (.ifCond .eq 7, 3) := by decide +kernel
theorem d9_50 : decode jdk_42_method_66_code 50 = .ok (.iconst 1, 1) := by decide +kernel
theorem d9_51 : decode jdk_42_method_66_code 51 = .ok (.goto 4, 3) := by decide +kernel
theorem d9_54 : decode jdk_42_method_66_code 54 = .ok (.iconst 0, 1) := by decide +kernel
theorem d9_55 : decode jdk_42_method_66_code 55 = .ok (.ireturn, 1) := by decide +kernel
theorem pd_9 : parseMethodDescriptor "(Ljava/lang/Object;)Z" = some ⟨[(.object "java/lang/Object")], some .boolean⟩ := by decide +kernel
theorem ef_9 (m : MethodId) (p0 : Addr) (p1 : Addr) : entryFrame m #[(.ref p0), (.ref p1)] 3 = mkF m 0 #[.val (.ref p0), .val (.ref p1), .unset] [] := by first | (simp [entryFrame, mkF, argsToLocals, Value.category]; done) | rfl
set_option maxRecDepth 65536 in
set_option maxHeartbeats 40000000 in
theorem rmEq (l : Launch) (Z : State) (a0 : Array Value) (hw : ∀ d ∈ tables_1, d.before a0 Z = true) (p0 : Addr) (p1 : Addr) (h0 : Heap) (n0 : Nat) (Z0 : n0 ≤ h0.size) (b1 b2 : Addr) (xs ys : List Int32) (g1 : Fld Z h0 p0 "java/lang/String" "value" "[B" (.ref b1)) (c10 : Fld Z h0 p0 "java/lang/String" "coder" "B" (.int (0 : Int32))) (E1 : Exa Z h0 p0 "java/lang/String") (A1 : Ar Z h0 b1 .byte (xs.map Value.int)) (g2 : Fld Z h0 p1 "java/lang/String" "value" "[B" (.ref b2)) (c20 : Fld Z h0 p1 "java/lang/String" "coder" "B" (.int (0 : Int32))) (E2 : Exa Z h0 p1 "java/lang/String") (A2 : Ar Z h0 b2 .byte (ys.map Value.int)) (cs : Int32) (hcs : ¬ cs = 0) (SC : Sta Z h0 "java/lang/String" "COMPACT_STRINGS" "Z" (.int cs)) (hne : p0 ≠ p1) :
    Con l Z (⟨"java/lang/String", "equals", "(Ljava/lang/Object;)Z"⟩ : MethodName) jdk_42_method_66_code 3 (some .boolean) [] ({ frames := 1, cells := 0, slots := 0, locals := 14 } : Room) 0 0 #[(.ref p0), (.ref p1)] h0 (fun v h L => v = some (.int (eqV xs ys)) ∧ h = h0 ∧ L = []) := by
  refine Con.body (plainFor_of_name (by first | (simp [plainName, overriddenIn]; done) | decide +kernel)) ?_
  intro p e s m below meth c T0 hx hby hml hown hnm hZ hret hlk X0 e0
  refine Goes.cast (ef_9 m p0 p1) ?_
  have N0 := Fr.nil n0
  show Goes p.tables e below (T0.setTop (mkF m 0 #[.val (.ref p0), .val (.ref p1), .unset] [])) _
  refine g_aloadN X0 hx (hb hby d9_0) rfl rfl ?_
  show Goes p.tables e below (T0.setTop (mkF m 1 #[.val (.ref p0), .val (.ref p1), .unset] [(.ref p0)])) _
  refine g_aloadN X0 hx (hb hby d9_1) rfl rfl ?_
  show Goes p.tables e below (T0.setTop (mkF m 2 #[.val (.ref p0), .val (.ref p1), .unset] [(.ref p1), (.ref p0)])) _
  have c2 : ¬ (Value.ref p0) = (Value.ref p1) := (fun q => hne (Value.ref.inj q))
  refine g_acmp_ne X0 hx rfl rfl (hb hby d9_2) (by decide) (pc' := 7) (by decide) (fun _ => ?_) (fun q => absurd q c2)
  show Goes p.tables e below (T0.setTop (mkF m 7 #[.val (.ref p0), .val (.ref p1), .unset] [])) _
  refine g_aloadN X0 hx (hb hby d9_7) rfl rfl ?_
  show Goes p.tables e below (T0.setTop (mkF m 8 #[.val (.ref p0), .val (.ref p1), .unset] [(.ref p1)])) _
  refine g_instYes X0 hx hZ hown e0 (hw _ (List.mem_of_getElem? (i := 60) rfl)) (Ins.self E2) (hb hby d9_8) (fun T1 X1 e1 => ?_)
  show Goes p.tables e below (T1.setTop (mkF m 11 #[.val (.ref p0), .val (.ref p1), .unset] [(.int (1 : Int32))])) _
  refine g_if_eq X1 hx (hb hby d9_11) (by decide) (pc' := 54) (by decide) (fun q => absurd q (by decide)) (fun _ => ?_)
  show Goes p.tables e below (T1.setTop (mkF m 14 #[.val (.ref p0), .val (.ref p1), .unset] [])) _
  refine g_aloadN X1 hx (hb hby d9_14) rfl rfl ?_
  show Goes p.tables e below (T1.setTop (mkF m 15 #[.val (.ref p0), .val (.ref p1), .unset] [(.ref p1)])) _
  refine g_cast X1 hx hZ hown e1 (hw _ (List.mem_of_getElem? (i := 60) rfl)) (Ins.self E2) (hb hby d9_15) (fun T2 X2 e2 => ?_)
  show Goes p.tables e below (T2.setTop (mkF m 18 #[.val (.ref p0), .val (.ref p1), .unset] [(.ref p1)])) _
  refine g_astoreN X2 hx (hb hby d9_18) rfl (l' := #[.val (.ref p0), .val (.ref p1), .val (.ref p1)]) rfl ?_
  show Goes p.tables e below (T2.setTop (mkF m 19 #[.val (.ref p0), .val (.ref p1), .val (.ref p1)] [])) _
  refine g_getS X2 hx hZ hown e2 (host := "") (Or.inl (hw _ (List.mem_of_getElem? (i := 61) rfl))) SC (hb hby d9_19) (fun T3 X3 e3 => ?_)
  show Goes p.tables e below (T3.setTop (mkF m 22 #[.val (.ref p0), .val (.ref p1), .val (.ref p1)] [(.int cs)])) _
  have c22 : ¬ cs = 0 := hcs
  refine g_if_eq X3 hx (hb hby d9_22) (by decide) (pc' := 36) (by decide) (fun q => absurd q c22) (fun _ => ?_)
  show Goes p.tables e below (T3.setTop (mkF m 25 #[.val (.ref p0), .val (.ref p1), .val (.ref p1)] [])) _
  refine g_aloadN X3 hx (hb hby d9_25) rfl rfl ?_
  show Goes p.tables e below (T3.setTop (mkF m 26 #[.val (.ref p0), .val (.ref p1), .val (.ref p1)] [(.ref p0)])) _
  refine g_getF X3 hx hZ hown e3 (host := "") (Or.inl (hw _ (List.mem_of_getElem? (i := 25) rfl))) Via.refl c10 (hb hby d9_26) (fun T4 X4 e4 => ?_)
  show Goes p.tables e below (T4.setTop (mkF m 29 #[.val (.ref p0), .val (.ref p1), .val (.ref p1)] [(.int (0 : Int32))])) _
  refine g_aloadN X4 hx (hb hby d9_29) rfl rfl ?_
  show Goes p.tables e below (T4.setTop (mkF m 30 #[.val (.ref p0), .val (.ref p1), .val (.ref p1)] [(.ref p1), (.int (0 : Int32))])) _
  refine g_getF X4 hx hZ hown e4 (host := "") (Or.inl (hw _ (List.mem_of_getElem? (i := 25) rfl))) Via.refl c20 (hb hby d9_30) (fun T5 X5 e5 => ?_)
  show Goes p.tables e below (T5.setTop (mkF m 33 #[.val (.ref p0), .val (.ref p1), .val (.ref p1)] [(.int (0 : Int32)), (.int (0 : Int32))])) _
  refine g_icmp_ne X5 hx (hb hby d9_33) (by decide) (pc' := 54) (by decide) (fun q => absurd (by decide) q) (fun _ => ?_)
  show Goes p.tables e below (T5.setTop (mkF m 36 #[.val (.ref p0), .val (.ref p1), .val (.ref p1)] [])) _
  refine g_aloadN X5 hx (hb hby d9_36) rfl rfl ?_
  show Goes p.tables e below (T5.setTop (mkF m 37 #[.val (.ref p0), .val (.ref p1), .val (.ref p1)] [(.ref p0)])) _
  refine g_getF X5 hx hZ hown e5 (host := "") (Or.inl (hw _ (List.mem_of_getElem? (i := 24) rfl))) Via.refl g1 (hb hby d9_37) (fun T6 X6 e6 => ?_)
  show Goes p.tables e below (T6.setTop (mkF m 40 #[.val (.ref p0), .val (.ref p1), .val (.ref p1)] [(.ref b1)])) _
  refine g_aloadN X6 hx (hb hby d9_40) rfl rfl ?_
  show Goes p.tables e below (T6.setTop (mkF m 41 #[.val (.ref p0), .val (.ref p1), .val (.ref p1)] [(.ref p1), (.ref b1)])) _
  refine g_getF X6 hx hZ hown e6 (host := "") (Or.inl (hw _ (List.mem_of_getElem? (i := 24) rfl))) Via.refl g2 (hb hby d9_41) (fun T7 X7 e7 => ?_)
  show Goes p.tables e below (T7.setTop (mkF m 44 #[.val (.ref p0), .val (.ref p1), .val (.ref p1)] [(.ref b2), (.ref b1)])) _
  refine g_callS X7 hx hZ hown (by rw [hml]; rfl) e7 (hw _ (List.mem_of_getElem? (i := 62) rfl)) (hw _ (List.mem_of_getElem? (i := 63) rfl)) (hw _ (List.mem_of_getElem? (i := 64) rfl)) (hw _ (List.mem_of_getElem? (i := 65) rfl)) (rmEqL l Z a0 hw b1 b2 h0 n0 Z0 xs ys A1 A2) [(.ref b1), (.ref b2)] rfl [] rfl (lenOf pd_10 rfl) (hb hby d9_44) (by decide) 0 (by decide) (by decide) (by first | decide | exact Nat.le_refl _) (by decide) (by decide) (fun v T8 L8 X8 hQ8 => ?_)
  obtain ⟨rfl, e8, rfl⟩ := hQ8
  have N9 := Fr.app N0 (Fr.nil n0)
  show Goes p.tables e below (T8.setTop (mkF m 47 #[.val (.ref p0), .val (.ref p1), .val (.ref p1)] [(.int (eqV xs ys))])) _
  refine g_if_eq X8 hx (hb hby d9_47) (by decide) (pc' := 54) (by decide) (fun c47 => ?_) (fun c47 => ?_)
  · skip
    show Goes p.tables e below (T8.setTop (mkF m 54 #[.val (.ref p0), .val (.ref p1), .val (.ref p1)] [])) _
    refine g_iconst X8 hx (0 : Int32) (hb hby d9_54) rfl ?_
    show Goes p.tables e below (T8.setTop (mkF m 55 #[.val (.ref p0), .val (.ref p1), .val (.ref p1)] [(.int (0 : Int32))])) _
    exact g_retZ X8 hx (hz := (by decide)) hret hlk (hb hby d9_55) (by decide) (by decide) ⟨by rw [c47], e8, rfl⟩
  · skip
    show Goes p.tables e below (T8.setTop (mkF m 50 #[.val (.ref p0), .val (.ref p1), .val (.ref p1)] [])) _
    refine g_iconst X8 hx (1 : Int32) (hb hby d9_50) rfl ?_
    show Goes p.tables e below (T8.setTop (mkF m 51 #[.val (.ref p0), .val (.ref p1), .val (.ref p1)] [(.int (1 : Int32))])) _
    refine g_goto X8 hx (hb hby d9_51) (by decide) (pc' := 55) (by decide) ?_
    show Goes p.tables e below (T8.setTop (mkF m 55 #[.val (.ref p0), .val (.ref p1), .val (.ref p1)] [(.int (1 : Int32))])) _
    exact g_retZ X8 hx (hz := (by decide)) hret hlk (hb hby d9_55) (by decide) (by decide) ⟨by rw [eqV_ne c47], e8, rfl⟩
theorem d8_0 : decode prog_15_method_2_code 0 = .ok (.aload_n 0, 1) := by decide +kernel
theorem d8_1 : decode prog_15_method_2_code 1 = .ok (.getfield 7, 3) := by decide +kernel
theorem d8_4 : decode prog_15_method_2_code 4 = .ok (.aload_n 1, 1) := by decide +kernel
theorem d8_5 : decode prog_15_method_2_code 5 = .ok (.if_acmp .ne 18, 3) := by decide +kernel
theorem d8_8 : decode prog_15_method_2_code 8 = .ok (.aload_n 0, 1) := by decide +kernel
theorem d8_9 : decode prog_15_method_2_code 9 = .ok (.getfield 13, 3) := by decide +kernel
theorem d8_12 : decode prog_15_method_2_code 12 = .ok (.aload_n 2, 1) := by decide +kernel
theorem d8_13 : decode prog_15_method_2_code 13 = .ok (.invokevirtual 21, 3) := by decide +kernel
theorem d8_16 : decode prog_15_method_2_code 16 = .ok (.ifCond .eq 7, 3) := by decide +kernel
theorem d8_19 : decode prog_15_method_2_code 19 = .ok (.iconst 1, 1) := by decide +kernel
theorem d8_20 : decode prog_15_method_2_code 20 = .ok (.goto 4, 3) := by decide +kernel
theorem d8_23 : decode prog_15_method_2_code 23 = .ok (.iconst 0, 1) := by decide +kernel
theorem d8_24 : decode prog_15_method_2_code 24 = .ok (.ireturn, 1) := by decide +kernel
theorem pd_8 : parseMethodDescriptor "(Lcom/example/hold/hold/automaton/HoaLexer$Kind;Ljava/lang/String;)Z" = some ⟨[(.object "com/example/hold/hold/automaton/HoaLexer$Kind"), (.object "java/lang/String")], some .boolean⟩ := by decide +kernel
theorem ef_8 (m : MethodId) (p0 : Addr) (p1 : Addr) (p2 : Addr) : entryFrame m #[(.ref p0), (.ref p1), (.ref p2)] 3 = mkF m 0 #[.val (.ref p0), .val (.ref p1), .val (.ref p2)] [] := by first | (simp [entryFrame, mkF, argsToLocals, Value.category]; done) | rfl
set_option maxRecDepth 65536 in
set_option maxHeartbeats 40000000 in
theorem rmIs (l : Launch) (Z : State) (a0 : Array Value) (hw : ∀ d ∈ tables_1, d.before a0 Z = true) (p0 : Addr) (p1 : Addr) (p2 : Addr) (h0 : Heap) (n0 : Nat) (Z0 : n0 ≤ h0.size) (kd tx : Addr) (f1 : Fld Z h0 p0 "com/example/hold/hold/automaton/HoaLexer$Token" "kind" "Lcom/example/hold/hold/automaton/HoaLexer$Kind;" (.ref kd)) (f2 : Fld Z h0 p0 "com/example/hold/hold/automaton/HoaLexer$Token" "text" "Ljava/lang/String;" (.ref tx)) (E0 : Exa Z h0 p0 "com/example/hold/hold/automaton/HoaLexer$Token") (b1 b2 : Addr) (xs ys : List Int32) (g1 : Fld Z h0 tx "java/lang/String" "value" "[B" (.ref b1)) (c10 : Fld Z h0 tx "java/lang/String" "coder" "B" (.int (0 : Int32))) (E1 : Exa Z h0 tx "java/lang/String") (A1 : Ar Z h0 b1 .byte (xs.map Value.int)) (g2 : Fld Z h0 p2 "java/lang/String" "value" "[B" (.ref b2)) (c20 : Fld Z h0 p2 "java/lang/String" "coder" "B" (.int (0 : Int32))) (E2 : Exa Z h0 p2 "java/lang/String") (A2 : Ar Z h0 b2 .byte (ys.map Value.int)) (cs : Int32) (hcs : ¬ cs = 0) (SC : Sta Z h0 "java/lang/String" "COMPACT_STRINGS" "Z" (.int cs)) (hne : tx ≠ p2) :
    Con l Z (⟨"com/example/hold/hold/automaton/HoaLexer$Token", "is", "(Lcom/example/hold/hold/automaton/HoaLexer$Kind;Ljava/lang/String;)Z"⟩ : MethodName) prog_15_method_2_code 3 (some .boolean) [] ({ frames := 2, cells := 0, slots := 0, locals := 28 } : Room) 0 0 #[(.ref p0), (.ref p1), (.ref p2)] h0 (fun v h L => v = some (.int (isV kd p1 xs ys)) ∧ h = h0 ∧ L = []) := by
  refine Con.body (plainFor_of_name (by first | (simp [plainName, overriddenIn]; done) | decide +kernel)) ?_
  intro p e s m below meth c T0 hx hby hml hown hnm hZ hret hlk X0 e0
  refine Goes.cast (ef_8 m p0 p1 p2) ?_
  have N0 := Fr.nil n0
  show Goes p.tables e below (T0.setTop (mkF m 0 #[.val (.ref p0), .val (.ref p1), .val (.ref p2)] [])) _
  refine g_aloadN X0 hx (hb hby d8_0) rfl rfl ?_
  show Goes p.tables e below (T0.setTop (mkF m 1 #[.val (.ref p0), .val (.ref p1), .val (.ref p2)] [(.ref p0)])) _
  refine g_getF X0 hx hZ hown e0 (host := "") (Or.inl (hw _ (List.mem_of_getElem? (i := 44) rfl))) Via.refl f1 (hb hby d8_1) (fun T1 X1 e1 => ?_)
  show Goes p.tables e below (T1.setTop (mkF m 4 #[.val (.ref p0), .val (.ref p1), .val (.ref p2)] [(.ref kd)])) _
  refine g_aloadN X1 hx (hb hby d8_4) rfl rfl ?_
  show Goes p.tables e below (T1.setTop (mkF m 5 #[.val (.ref p0), .val (.ref p1), .val (.ref p2)] [(.ref p1), (.ref kd)])) _
  refine g_acmp_ne X1 hx rfl rfl (hb hby d8_5) (by decide) (pc' := 23) (by decide) (fun c5 => ?_) (fun c5 => ?_)
  · skip
    show Goes p.tables e below (T1.setTop (mkF m 23 #[.val (.ref p0), .val (.ref p1), .val (.ref p2)] [])) _
    refine g_iconst X1 hx (0 : Int32) (hb hby d8_23) rfl ?_
    show Goes p.tables e below (T1.setTop (mkF m 24 #[.val (.ref p0), .val (.ref p1), .val (.ref p2)] [(.int (0 : Int32))])) _
    exact g_retZ X1 hx (hz := (by decide)) hret hlk (hb hby d8_24) (by decide) (by decide) ⟨by rw [isV, if_neg (fun q => c5 (by rw [q]))], e1, rfl⟩
  · skip
    show Goes p.tables e below (T1.setTop (mkF m 8 #[.val (.ref p0), .val (.ref p1), .val (.ref p2)] [])) _
    show Goes p.tables e below (T1.setTop (mkF m 8 #[.val (.ref p0), .val (.ref p1), .val (.ref p2)] [])) _
    refine g_aloadN X1 hx (hb hby d8_8) rfl rfl ?_
    show Goes p.tables e below (T1.setTop (mkF m 9 #[.val (.ref p0), .val (.ref p1), .val (.ref p2)] [(.ref p0)])) _
    refine g_getF X1 hx hZ hown e1 (host := "") (Or.inl (hw _ (List.mem_of_getElem? (i := 46) rfl))) Via.refl f2 (hb hby d8_9) (fun T2 X2 e2 => ?_)
    show Goes p.tables e below (T2.setTop (mkF m 12 #[.val (.ref p0), .val (.ref p1), .val (.ref p2)] [(.ref tx)])) _
    refine g_aloadN X2 hx (hb hby d8_12) rfl rfl ?_
    show Goes p.tables e below (T2.setTop (mkF m 13 #[.val (.ref p0), .val (.ref p1), .val (.ref p2)] [(.ref p2), (.ref tx)])) _
    refine g_callV X2 hx hZ hown (by rw [hml]; rfl) e2 (K := "java/lang/String") (hw _ (List.mem_of_getElem? (i := 55) rfl)) (hw _ (List.mem_of_getElem? (i := 56) rfl)) (hw _ (List.mem_of_getElem? (i := 58) rfl)) (hw _ (List.mem_of_getElem? (i := 57) rfl)) (hw _ (List.mem_of_getElem? (i := 6) rfl)) (hw _ (List.mem_of_getElem? (i := 59) rfl)) E1 (rmEq l Z a0 hw tx p2 h0 n0 Z0 b1 b2 xs ys g1 c10 E1 A1 g2 c20 E2 A2 cs hcs SC hne) [(.ref p2)] rfl [] rfl (lenOf pd_9 rfl) (hb hby d8_13) (by decide) 0 (by decide) (by decide) (by first | decide | exact Nat.le_refl _) (by decide) (by decide) (fun v T3 L3 X3 hQ3 => ?_)
    obtain ⟨rfl, e3, rfl⟩ := hQ3
    have N4 := Fr.app N0 (Fr.nil n0)
    show Goes p.tables e below (T3.setTop (mkF m 16 #[.val (.ref p0), .val (.ref p1), .val (.ref p2)] [(.int (eqV xs ys))])) _
    refine g_if_eq X3 hx (hb hby d8_16) (by decide) (pc' := 23) (by decide) (fun c16 => ?_) (fun c16 => ?_)
    · skip
      show Goes p.tables e below (T3.setTop (mkF m 23 #[.val (.ref p0), .val (.ref p1), .val (.ref p2)] [])) _
      refine g_iconst X3 hx (0 : Int32) (hb hby d8_23) rfl ?_
      show Goes p.tables e below (T3.setTop (mkF m 24 #[.val (.ref p0), .val (.ref p1), .val (.ref p2)] [(.int (0 : Int32))])) _
      exact g_retZ X3 hx (hz := (by decide)) hret hlk (hb hby d8_24) (by decide) (by decide) ⟨by rw [isV, if_pos (Value.ref.inj c5), c16], e3, rfl⟩
    · skip
      show Goes p.tables e below (T3.setTop (mkF m 19 #[.val (.ref p0), .val (.ref p1), .val (.ref p2)] [])) _
      refine g_iconst X3 hx (1 : Int32) (hb hby d8_19) rfl ?_
      show Goes p.tables e below (T3.setTop (mkF m 20 #[.val (.ref p0), .val (.ref p1), .val (.ref p2)] [(.int (1 : Int32))])) _
      refine g_goto X3 hx (hb hby d8_20) (by decide) (pc' := 24) (by decide) ?_
      show Goes p.tables e below (T3.setTop (mkF m 24 #[.val (.ref p0), .val (.ref p1), .val (.ref p2)] [(.int (1 : Int32))])) _
      exact g_retZ X3 hx (hz := (by decide)) hret hlk (hb hby d8_24) (by decide) (by decide) ⟨by rw [isV, if_pos (Value.ref.inj c5), eqV_ne c16], e3, rfl⟩
theorem ef_0 (m : MethodId) (p0 : Int32) (p1 : Int32) (p2 : Int32) (p3 : Int32) : entryFrame m #[(.int p0), (.int p1), (.int p2), (.int p3)] maxLocals = mkF m 0 #[.val (.int p0), .val (.int p1), .val (.int p2), .val (.int p3), .unset, .unset, .unset, .unset, .unset, .unset, .unset, .unset, .unset, .unset, .unset, .unset, .unset, .unset] [] := by first | (simp [entryFrame, mkF, argsToLocals, Value.category, maxLocals]; done) | rfl
set_option maxRecDepth 65536 in
set_option maxHeartbeats 40000000 in
theorem law (l : Launch) (Z : State) (a0 : Array Value) (hw : ∀ d ∈ tables_1, d.before a0 Z = true) (ws : List Jvm.Cond) (p0 : Int32) (p1 : Int32) (p2 : Int32) (p3 : Int32) (h0 : Heap) (b0 : Addr) (Sb0 : Sta Z h0 "com/example/hold/hold/automaton/HoaLexer$Kind" "HEADER" "Lcom/example/hold/hold/automaton/HoaLexer$Kind;" (.ref b0)) (Eb0 : Exa Z h0 b0 "com/example/hold/hold/automaton/HoaLexer$Kind") (b1 : Addr) (Sb1 : Sta Z h0 "com/example/hold/hold/automaton/HoaLexer$Kind" "ALIAS" "Lcom/example/hold/hold/automaton/HoaLexer$Kind;" (.ref b1)) (Eb1 : Exa Z h0 b1 "com/example/hold/hold/automaton/HoaLexer$Kind") (F2 : Fld Z h0 b1 "java/lang/Enum" "ordinal" "I" (.int (4 : Int32))) (F3 : Fld Z h0 b0 "java/lang/Enum" "ordinal" "I" (.int (0 : Int32))) (b2 : Addr) (Sb2 : Sta Z h0 "com/example/hold/hold/automaton/HoaLexer$Kind" "END_OF_FILE" "Lcom/example/hold/hold/automaton/HoaLexer$Kind;" (.ref b2)) (Eb2 : Exa Z h0 b2 "com/example/hold/hold/automaton/HoaLexer$Kind") (F5 : Fld Z h0 b2 "java/lang/Enum" "ordinal" "I" (.int (7 : Int32))) (b3 : Addr) (Sb3 : Sta Z h0 "com/example/hold/hold/automaton/HoaLexer$Kind" "INTEGER" "Lcom/example/hold/hold/automaton/HoaLexer$Kind;" (.ref b3)) (Eb3 : Exa Z h0 b3 "com/example/hold/hold/automaton/HoaLexer$Kind") (b4 : Addr) (Sb4 : Sta Z h0 "com/example/hold/hold/automaton/HoaLexer$Kind" "STRING" "Lcom/example/hold/hold/automaton/HoaLexer$Kind;" (.ref b4)) (Eb4 : Exa Z h0 b4 "com/example/hold/hold/automaton/HoaLexer$Kind") (F8 : Fld Z h0 b3 "java/lang/Enum" "ordinal" "I" (.int (2 : Int32))) (F9 : Fld Z h0 b4 "java/lang/Enum" "ordinal" "I" (.int (3 : Int32))) (b5 : Addr) (Sb5 : Sta Z h0 "com/example/hold/hold/automaton/HoaLexer$Kind" "IDENTIFIER" "Lcom/example/hold/hold/automaton/HoaLexer$Kind;" (.ref b5)) (Eb5 : Exa Z h0 b5 "com/example/hold/hold/automaton/HoaLexer$Kind") (b6 : Addr) (Sb6 : Sta Z h0 "com/example/hold/hold/automaton/HoaLexer$Kind" "PUNCTUATION" "Lcom/example/hold/hold/automaton/HoaLexer$Kind;" (.ref b6)) (Eb6 : Exa Z h0 b6 "com/example/hold/hold/automaton/HoaLexer$Kind") (b7 : Addr) (Sb7 : Sta Z h0 "com/example/hold/hold/automaton/HoaLexer$Kind" "SEPARATOR" "Lcom/example/hold/hold/automaton/HoaLexer$Kind;" (.ref b7)) (Eb7 : Exa Z h0 b7 "com/example/hold/hold/automaton/HoaLexer$Kind") (F13 : Fld Z h0 b6 "java/lang/Enum" "ordinal" "I" (.int (5 : Int32))) (F14 : Fld Z h0 b7 "java/lang/Enum" "ordinal" "I" (.int (6 : Int32))) (F15 : Fld Z h0 b5 "java/lang/Enum" "ordinal" "I" (.int (1 : Int32))) (cs : Int32) (hcs : ¬ cs = 0) (SC : Sta Z h0 "java/lang/String" "COMPACT_STRINGS" "Z" (.int cs)) :
    ConH l Z EL1 x code maxLocals ret ws room_1 24 1152 #[(.int p0), (.int p1), (.int p2), (.int p3)] h0 (fun v h L => v = some (.int 1) ∧ Fr h0.size L) := by
  refine ConH.body (plainFor_of_name (by first | (simp [plainName, overriddenIn, x]; done) | decide +kernel)) ?_
  intro p e s m below meth c T0 hx hby hml hown hnm hZ hret hlk hS CH X0 e0
  have hk0 : 0 ≤ h0.size := Nat.zero_le _
  have hEL := el_1 hw
  have wS := ws_1 hw
  refine Goes.cast (ef_0 m p0 p1 p2 p3) ?_
  have N0 := Fr.nil h0.size
  have Z0 : h0.size ≤ h0.size := Nat.le_refl _
  show Goes p.tables e below (T0.setTop (mkF m 0 #[.val (.int p0), .val (.int p1), .val (.int p2), .val (.int p3), .unset, .unset, .unset, .unset, .unset, .unset, .unset, .unset, .unset, .unset, .unset, .unset, .unset, .unset] [])) _
  refine g_iloadN X0 hx (hb hby at_0) rfl ?_
  show Goes p.tables e below (T0.setTop (mkF m 1 #[.val (.int p0), .val (.int p1), .val (.int p2), .val (.int p3), .unset, .unset, .unset, .unset, .unset, .unset, .unset, .unset, .unset, .unset, .unset, .unset, .unset, .unset] [(.int p0)])) _
  refine g_bipush X0 hx (7 : Int32) (hb hby at_1) (by decide) ?_
  show Goes p.tables e below (T0.setTop (mkF m 3 #[.val (.int p0), .val (.int p1), .val (.int p2), .val (.int p3), .unset, .unset, .unset, .unset, .unset, .unset, .unset, .unset, .unset, .unset, .unset, .unset, .unset, .unset] [(.int (7 : Int32)), (.int p0)])) _
  refine g_iand X0 hx (hb hby at_3) ?_
  show Goes p.tables e below (T0.setTop (mkF m 4 #[.val (.int p0), .val (.int p1), .val (.int p2), .val (.int p3), .unset, .unset, .unset, .unset, .unset, .unset, .unset, .unset, .unset, .unset, .unset, .unset, .unset, .unset] [(.int (p0 &&& (7 : Int32)))])) _
  obtain ⟨k1, hk1⟩ : ∃ z : Int32, z = (p0 &&& (7 : Int32)) := ⟨_, rfl⟩
  refine g_nameI hk1 ?_
  show Goes p.tables e below (T0.setTop (mkF m 4 #[.val (.int p0), .val (.int p1), .val (.int p2), .val (.int p3), .unset, .unset, .unset, .unset, .unset, .unset, .unset, .unset, .unset, .unset, .unset, .unset, .unset, .unset] [(.int k1)])) _
  refine g_istore X0 hx (hb hby at_4) (l' := #[.val (.int p0), .val (.int p1), .val (.int p2), .val (.int p3), .val (.int k1), .unset, .unset, .unset, .unset, .unset, .unset, .unset, .unset, .unset, .unset, .unset, .unset, .unset]) rfl ?_
  show Goes p.tables e below (T0.setTop (mkF m 6 #[.val (.int p0), .val (.int p1), .val (.int p2), .val (.int p3), .val (.int k1), .unset, .unset, .unset, .unset, .unset, .unset, .unset, .unset, .unset, .unset, .unset, .unset, .unset] [])) _
  refine g_iloadN X0 hx (hb hby at_6) rfl ?_
  show Goes p.tables e below (T0.setTop (mkF m 7 #[.val (.int p0), .val (.int p1), .val (.int p2), .val (.int p3), .val (.int k1), .unset, .unset, .unset, .unset, .unset, .unset, .unset, .unset, .unset, .unset, .unset, .unset, .unset] [(.int p0)])) _
  refine g_iconst X0 hx (3 : Int32) (hb hby at_7) rfl ?_
  show Goes p.tables e below (T0.setTop (mkF m 8 #[.val (.int p0), .val (.int p1), .val (.int p2), .val (.int p3), .val (.int k1), .unset, .unset, .unset, .unset, .unset, .unset, .unset, .unset, .unset, .unset, .unset, .unset, .unset] [(.int (3 : Int32)), (.int p0)])) _
  refine g_iushr X0 hx (hb hby at_8) ?_
  show Goes p.tables e below (T0.setTop (mkF m 9 #[.val (.int p0), .val (.int p1), .val (.int p2), .val (.int p3), .val (.int k1), .unset, .unset, .unset, .unset, .unset, .unset, .unset, .unset, .unset, .unset, .unset, .unset, .unset] [(.int (XT.ushr p0 (3 : Int32)))])) _
  refine g_iconst X0 hx (1 : Int32) (hb hby at_9) rfl ?_
  show Goes p.tables e below (T0.setTop (mkF m 10 #[.val (.int p0), .val (.int p1), .val (.int p2), .val (.int p3), .val (.int k1), .unset, .unset, .unset, .unset, .unset, .unset, .unset, .unset, .unset, .unset, .unset, .unset, .unset] [(.int (1 : Int32)), (.int (XT.ushr p0 (3 : Int32)))])) _
  refine g_iand X0 hx (hb hby at_10) ?_
  show Goes p.tables e below (T0.setTop (mkF m 11 #[.val (.int p0), .val (.int p1), .val (.int p2), .val (.int p3), .val (.int k1), .unset, .unset, .unset, .unset, .unset, .unset, .unset, .unset, .unset, .unset, .unset, .unset, .unset] [(.int ((XT.ushr p0 (3 : Int32)) &&& (1 : Int32)))])) _
  obtain ⟨v1, hv1⟩ : ∃ z : Int32, z = (if ((XT.ushr p0 (3 : Int32)) &&& (1 : Int32)) = 0 then k1 else ((XT.ushr p0 (4 : Int32)) &&& (7 : Int32))) := ⟨_, rfl⟩
  refine Goes.join (S' := T0.setTop (mkF m 25 #[.val (.int p0), .val (.int p1), .val (.int p2), .val (.int p3), .val (.int k1), .unset, .unset, .unset, .unset, .unset, .unset, .unset, .unset, .unset, .unset, .unset, .unset, .unset] [(.int v1)])) (fun J => ?_) ?_
  · skip
    refine g_if_ne X0 hx (hb hby at_11) (by decide) (pc' := 19) (by decide) (fun c11 => ?_) (fun c11 => ?_)
    · skip
      show Goes p.tables e below (T0.setTop (mkF m 19 #[.val (.int p0), .val (.int p1), .val (.int p2), .val (.int p3), .val (.int k1), .unset, .unset, .unset, .unset, .unset, .unset, .unset, .unset, .unset, .unset, .unset, .unset, .unset] [])) _
      refine g_iloadN X0 hx (hb hby at_19) rfl ?_
      show Goes p.tables e below (T0.setTop (mkF m 20 #[.val (.int p0), .val (.int p1), .val (.int p2), .val (.int p3), .val (.int k1), .unset, .unset, .unset, .unset, .unset, .unset, .unset, .unset, .unset, .unset, .unset, .unset, .unset] [(.int p0)])) _
      refine g_iconst X0 hx (4 : Int32) (hb hby at_20) rfl ?_
      show Goes p.tables e below (T0.setTop (mkF m 21 #[.val (.int p0), .val (.int p1), .val (.int p2), .val (.int p3), .val (.int k1), .unset, .unset, .unset, .unset, .unset, .unset, .unset, .unset, .unset, .unset, .unset, .unset, .unset] [(.int (4 : Int32)), (.int p0)])) _
      refine g_iushr X0 hx (hb hby at_21) ?_
      show Goes p.tables e below (T0.setTop (mkF m 22 #[.val (.int p0), .val (.int p1), .val (.int p2), .val (.int p3), .val (.int k1), .unset, .unset, .unset, .unset, .unset, .unset, .unset, .unset, .unset, .unset, .unset, .unset, .unset] [(.int (XT.ushr p0 (4 : Int32)))])) _
      refine g_bipush X0 hx (7 : Int32) (hb hby at_22) (by decide) ?_
      show Goes p.tables e below (T0.setTop (mkF m 24 #[.val (.int p0), .val (.int p1), .val (.int p2), .val (.int p3), .val (.int k1), .unset, .unset, .unset, .unset, .unset, .unset, .unset, .unset, .unset, .unset, .unset, .unset, .unset] [(.int (7 : Int32)), (.int (XT.ushr p0 (4 : Int32)))])) _
      refine g_iand X0 hx (hb hby at_24) ?_
      rw [show v1 = (((XT.ushr p0 (4 : Int32)) &&& (7 : Int32))) from by rw [hv1, if_neg c11]] at J
      exact J
    · skip
      show Goes p.tables e below (T0.setTop (mkF m 14 #[.val (.int p0), .val (.int p1), .val (.int p2), .val (.int p3), .val (.int k1), .unset, .unset, .unset, .unset, .unset, .unset, .unset, .unset, .unset, .unset, .unset, .unset, .unset] [])) _
      refine g_iload X0 hx (hb hby at_14) rfl ?_
      show Goes p.tables e below (T0.setTop (mkF m 16 #[.val (.int p0), .val (.int p1), .val (.int p2), .val (.int p3), .val (.int k1), .unset, .unset, .unset, .unset, .unset, .unset, .unset, .unset, .unset, .unset, .unset, .unset, .unset] [(.int k1)])) _
      refine g_goto X0 hx (hb hby at_16) (by decide) (pc' := 25) (by decide) ?_
      rw [show v1 = (k1) from by rw [hv1, if_pos c11]] at J
      exact J
  show Goes p.tables e below (T0.setTop (mkF m 25 #[.val (.int p0), .val (.int p1), .val (.int p2), .val (.int p3), .val (.int k1), .unset, .unset, .unset, .unset, .unset, .unset, .unset, .unset, .unset, .unset, .unset, .unset, .unset] [(.int v1)])) _
  refine g_istore X0 hx (hb hby at_25) (l' := #[.val (.int p0), .val (.int p1), .val (.int p2), .val (.int p3), .val (.int k1), .val (.int v1), .unset, .unset, .unset, .unset, .unset, .unset, .unset, .unset, .unset, .unset, .unset, .unset]) rfl ?_
  show Goes p.tables e below (T0.setTop (mkF m 27 #[.val (.int p0), .val (.int p1), .val (.int p2), .val (.int p3), .val (.int k1), .val (.int v1), .unset, .unset, .unset, .unset, .unset, .unset, .unset, .unset, .unset, .unset, .unset, .unset] [])) _
  refine g_iloadN X0 hx (hb hby at_27) rfl ?_
  show Goes p.tables e below (T0.setTop (mkF m 28 #[.val (.int p0), .val (.int p1), .val (.int p2), .val (.int p3), .val (.int k1), .val (.int v1), .unset, .unset, .unset, .unset, .unset, .unset, .unset, .unset, .unset, .unset, .unset, .unset] [(.int p0)])) _
  refine g_bipush X0 hx (7 : Int32) (hb hby at_28) (by decide) ?_
  show Goes p.tables e below (T0.setTop (mkF m 30 #[.val (.int p0), .val (.int p1), .val (.int p2), .val (.int p3), .val (.int k1), .val (.int v1), .unset, .unset, .unset, .unset, .unset, .unset, .unset, .unset, .unset, .unset, .unset, .unset] [(.int (7 : Int32)), (.int p0)])) _
  refine g_iushr X0 hx (hb hby at_30) ?_
  show Goes p.tables e below (T0.setTop (mkF m 31 #[.val (.int p0), .val (.int p1), .val (.int p2), .val (.int p3), .val (.int k1), .val (.int v1), .unset, .unset, .unset, .unset, .unset, .unset, .unset, .unset, .unset, .unset, .unset, .unset] [(.int (XT.ushr p0 (7 : Int32)))])) _
  refine g_iconst X0 hx (3 : Int32) (hb hby at_31) rfl ?_
  show Goes p.tables e below (T0.setTop (mkF m 32 #[.val (.int p0), .val (.int p1), .val (.int p2), .val (.int p3), .val (.int k1), .val (.int v1), .unset, .unset, .unset, .unset, .unset, .unset, .unset, .unset, .unset, .unset, .unset, .unset] [(.int (3 : Int32)), (.int (XT.ushr p0 (7 : Int32)))])) _
  refine g_iand X0 hx (hb hby at_32) ?_
  show Goes p.tables e below (T0.setTop (mkF m 33 #[.val (.int p0), .val (.int p1), .val (.int p2), .val (.int p3), .val (.int k1), .val (.int v1), .unset, .unset, .unset, .unset, .unset, .unset, .unset, .unset, .unset, .unset, .unset, .unset] [(.int ((XT.ushr p0 (7 : Int32)) &&& (3 : Int32)))])) _
  refine g_iconst X0 hx (3 : Int32) (hb hby at_33) rfl ?_
  show Goes p.tables e below (T0.setTop (mkF m 34 #[.val (.int p0), .val (.int p1), .val (.int p2), .val (.int p3), .val (.int k1), .val (.int v1), .unset, .unset, .unset, .unset, .unset, .unset, .unset, .unset, .unset, .unset, .unset, .unset] [(.int (3 : Int32)), (.int ((XT.ushr p0 (7 : Int32)) &&& (3 : Int32)))])) _
  refine g_irem X0 hx (hb hby at_34) (by decide) ?_
  show Goes p.tables e below (T0.setTop (mkF m 35 #[.val (.int p0), .val (.int p1), .val (.int p2), .val (.int p3), .val (.int k1), .val (.int v1), .unset, .unset, .unset, .unset, .unset, .unset, .unset, .unset, .unset, .unset, .unset, .unset] [(.int (((XT.ushr p0 (7 : Int32)) &&& (3 : Int32)) % (3 : Int32)))])) _
  obtain ⟨n1, hn1⟩ : ∃ z : Int32, z = (((XT.ushr p0 (7 : Int32)) &&& (3 : Int32)) % (3 : Int32)) := ⟨_, rfl⟩
  refine g_nameI hn1 ?_
  show Goes p.tables e below (T0.setTop (mkF m 35 #[.val (.int p0), .val (.int p1), .val (.int p2), .val (.int p3), .val (.int k1), .val (.int v1), .unset, .unset, .unset, .unset, .unset, .unset, .unset, .unset, .unset, .unset, .unset, .unset] [(.int n1)])) _
  refine g_istore X0 hx (hb hby at_35) (l' := #[.val (.int p0), .val (.int p1), .val (.int p2), .val (.int p3), .val (.int k1), .val (.int v1), .val (.int n1), .unset, .unset, .unset, .unset, .unset, .unset, .unset, .unset, .unset, .unset, .unset]) rfl ?_
  show Goes p.tables e below (T0.setTop (mkF m 37 #[.val (.int p0), .val (.int p1), .val (.int p2), .val (.int p3), .val (.int k1), .val (.int v1), .val (.int n1), .unset, .unset, .unset, .unset, .unset, .unset, .unset, .unset, .unset, .unset, .unset] [])) _
  refine g_iloadN X0 hx (hb hby at_37) rfl ?_
  show Goes p.tables e below (T0.setTop (mkF m 38 #[.val (.int p0), .val (.int p1), .val (.int p2), .val (.int p3), .val (.int k1), .val (.int v1), .val (.int n1), .unset, .unset, .unset, .unset, .unset, .unset, .unset, .unset, .unset, .unset, .unset] [(.int p0)])) _
  refine g_bipush X0 hx (9 : Int32) (hb hby at_38) (by decide) ?_
  show Goes p.tables e below (T0.setTop (mkF m 40 #[.val (.int p0), .val (.int p1), .val (.int p2), .val (.int p3), .val (.int k1), .val (.int v1), .val (.int n1), .unset, .unset, .unset, .unset, .unset, .unset, .unset, .unset, .unset, .unset, .unset] [(.int (9 : Int32)), (.int p0)])) _
  refine g_iushr X0 hx (hb hby at_40) ?_
  show Goes p.tables e below (T0.setTop (mkF m 41 #[.val (.int p0), .val (.int p1), .val (.int p2), .val (.int p3), .val (.int k1), .val (.int v1), .val (.int n1), .unset, .unset, .unset, .unset, .unset, .unset, .unset, .unset, .unset, .unset, .unset] [(.int (XT.ushr p0 (9 : Int32)))])) _
  refine g_iconst X0 hx (1 : Int32) (hb hby at_41) rfl ?_
  show Goes p.tables e below (T0.setTop (mkF m 42 #[.val (.int p0), .val (.int p1), .val (.int p2), .val (.int p3), .val (.int k1), .val (.int v1), .val (.int n1), .unset, .unset, .unset, .unset, .unset, .unset, .unset, .unset, .unset, .unset, .unset] [(.int (1 : Int32)), (.int (XT.ushr p0 (9 : Int32)))])) _
  refine g_iand X0 hx (hb hby at_42) ?_
  show Goes p.tables e below (T0.setTop (mkF m 43 #[.val (.int p0), .val (.int p1), .val (.int p2), .val (.int p3), .val (.int k1), .val (.int v1), .val (.int n1), .unset, .unset, .unset, .unset, .unset, .unset, .unset, .unset, .unset, .unset, .unset] [(.int ((XT.ushr p0 (9 : Int32)) &&& (1 : Int32)))])) _
  obtain ⟨v2, hv2⟩ : ∃ z : Int32, z = (if ((XT.ushr p0 (9 : Int32)) &&& (1 : Int32)) = 0 then (1 : Int32) else (0 : Int32)) := ⟨_, rfl⟩
  refine Goes.join (S' := T0.setTop (mkF m 51 #[.val (.int p0), .val (.int p1), .val (.int p2), .val (.int p3), .val (.int k1), .val (.int v1), .val (.int n1), .unset, .unset, .unset, .unset, .unset, .unset, .unset, .unset, .unset, .unset, .unset] [(.int v2)])) (fun J => ?_) ?_
  · skip
    refine g_if_ne X0 hx (hb hby at_43) (by decide) (pc' := 50) (by decide) (fun c43 => ?_) (fun c43 => ?_)
    · skip
      show Goes p.tables e below (T0.setTop (mkF m 50 #[.val (.int p0), .val (.int p1), .val (.int p2), .val (.int p3), .val (.int k1), .val (.int v1), .val (.int n1), .unset, .unset, .unset, .unset, .unset, .unset, .unset, .unset, .unset, .unset, .unset] [])) _
      refine g_iconst X0 hx (0 : Int32) (hb hby at_50) rfl ?_
      rw [show v2 = ((0 : Int32)) from by rw [hv2, if_neg c43]] at J
      exact J
    · skip
      show Goes p.tables e below (T0.setTop (mkF m 46 #[.val (.int p0), .val (.int p1), .val (.int p2), .val (.int p3), .val (.int k1), .val (.int v1), .val (.int n1), .unset, .unset, .unset, .unset, .unset, .unset, .unset, .unset, .unset, .unset, .unset] [])) _
      refine g_iconst X0 hx (1 : Int32) (hb hby at_46) rfl ?_
      show Goes p.tables e below (T0.setTop (mkF m 47 #[.val (.int p0), .val (.int p1), .val (.int p2), .val (.int p3), .val (.int k1), .val (.int v1), .val (.int n1), .unset, .unset, .unset, .unset, .unset, .unset, .unset, .unset, .unset, .unset, .unset] [(.int (1 : Int32))])) _
      refine g_goto X0 hx (hb hby at_47) (by decide) (pc' := 51) (by decide) ?_
      rw [show v2 = ((1 : Int32)) from by rw [hv2, if_pos c43]] at J
      exact J
  show Goes p.tables e below (T0.setTop (mkF m 51 #[.val (.int p0), .val (.int p1), .val (.int p2), .val (.int p3), .val (.int k1), .val (.int v1), .val (.int n1), .unset, .unset, .unset, .unset, .unset, .unset, .unset, .unset, .unset, .unset, .unset] [(.int v2)])) _
  refine g_istore X0 hx (hb hby at_51) (l' := #[.val (.int p0), .val (.int p1), .val (.int p2), .val (.int p3), .val (.int k1), .val (.int v1), .val (.int n1), .val (.int v2), .unset, .unset, .unset, .unset, .unset, .unset, .unset, .unset, .unset, .unset]) rfl ?_
  show Goes p.tables e below (T0.setTop (mkF m 53 #[.val (.int p0), .val (.int p1), .val (.int p2), .val (.int p3), .val (.int k1), .val (.int v1), .val (.int n1), .val (.int v2), .unset, .unset, .unset, .unset, .unset, .unset, .unset, .unset, .unset, .unset] [])) _
  refine g_iload X0 hx (hb hby at_53) rfl ?_
  show Goes p.tables e below (T0.setTop (mkF m 55 #[.val (.int p0), .val (.int p1), .val (.int p2), .val (.int p3), .val (.int k1), .val (.int v1), .val (.int n1), .val (.int v2), .unset, .unset, .unset, .unset, .unset, .unset, .unset, .unset, .unset, .unset] [(.int v2)])) _
  obtain ⟨v3, hv3⟩ : ∃ z : Int32, z = (if v2 = 0 then (((XT.ushr p0 (10 : Int32)) &&& (3 : Int32)) % (3 : Int32)) else n1) := ⟨_, rfl⟩
  refine Goes.join (S' := T0.setTop (mkF m 71 #[.val (.int p0), .val (.int p1), .val (.int p2), .val (.int p3), .val (.int k1), .val (.int v1), .val (.int n1), .val (.int v2), .unset, .unset, .unset, .unset, .unset, .unset, .unset, .unset, .unset, .unset] [(.int v3)])) (fun J => ?_) ?_
  · skip
    refine g_if_eq X0 hx (hb hby at_55) (by decide) (pc' := 63) (by decide) (fun c55 => ?_) (fun c55 => ?_)
    · skip
      show Goes p.tables e below (T0.setTop (mkF m 63 #[.val (.int p0), .val (.int p1), .val (.int p2), .val (.int p3), .val (.int k1), .val (.int v1), .val (.int n1), .val (.int v2), .unset, .unset, .unset, .unset, .unset, .unset, .unset, .unset, .unset, .unset] [])) _
      refine g_iloadN X0 hx (hb hby at_63) rfl ?_
      show Goes p.tables e below (T0.setTop (mkF m 64 #[.val (.int p0), .val (.int p1), .val (.int p2), .val (.int p3), .val (.int k1), .val (.int v1), .val (.int n1), .val (.int v2), .unset, .unset, .unset, .unset, .unset, .unset, .unset, .unset, .unset, .unset] [(.int p0)])) _
      refine g_bipush X0 hx (10 : Int32) (hb hby at_64) (by decide) ?_
      show Goes p.tables e below (T0.setTop (mkF m 66 #[.val (.int p0), .val (.int p1), .val (.int p2), .val (.int p3), .val (.int k1), .val (.int v1), .val (.int n1), .val (.int v2), .unset, .unset, .unset, .unset, .unset, .unset, .unset, .unset, .unset, .unset] [(.int (10 : Int32)), (.int p0)])) _
      refine g_iushr X0 hx (hb hby at_66) ?_
      show Goes p.tables e below (T0.setTop (mkF m 67 #[.val (.int p0), .val (.int p1), .val (.int p2), .val (.int p3), .val (.int k1), .val (.int v1), .val (.int n1), .val (.int v2), .unset, .unset, .unset, .unset, .unset, .unset, .unset, .unset, .unset, .unset] [(.int (XT.ushr p0 (10 : Int32)))])) _
      refine g_iconst X0 hx (3 : Int32) (hb hby at_67) rfl ?_
      show Goes p.tables e below (T0.setTop (mkF m 68 #[.val (.int p0), .val (.int p1), .val (.int p2), .val (.int p3), .val (.int k1), .val (.int v1), .val (.int n1), .val (.int v2), .unset, .unset, .unset, .unset, .unset, .unset, .unset, .unset, .unset, .unset] [(.int (3 : Int32)), (.int (XT.ushr p0 (10 : Int32)))])) _
      refine g_iand X0 hx (hb hby at_68) ?_
      show Goes p.tables e below (T0.setTop (mkF m 69 #[.val (.int p0), .val (.int p1), .val (.int p2), .val (.int p3), .val (.int k1), .val (.int v1), .val (.int n1), .val (.int v2), .unset, .unset, .unset, .unset, .unset, .unset, .unset, .unset, .unset, .unset] [(.int ((XT.ushr p0 (10 : Int32)) &&& (3 : Int32)))])) _
      refine g_iconst X0 hx (3 : Int32) (hb hby at_69) rfl ?_
      show Goes p.tables e below (T0.setTop (mkF m 70 #[.val (.int p0), .val (.int p1), .val (.int p2), .val (.int p3), .val (.int k1), .val (.int v1), .val (.int n1), .val (.int v2), .unset, .unset, .unset, .unset, .unset, .unset, .unset, .unset, .unset, .unset] [(.int (3 : Int32)), (.int ((XT.ushr p0 (10 : Int32)) &&& (3 : Int32)))])) _
      refine g_irem X0 hx (hb hby at_70) (by decide) ?_
      rw [show v3 = ((((XT.ushr p0 (10 : Int32)) &&& (3 : Int32)) % (3 : Int32))) from by rw [hv3, if_pos c55]] at J
      exact J
    · skip
      show Goes p.tables e below (T0.setTop (mkF m 58 #[.val (.int p0), .val (.int p1), .val (.int p2), .val (.int p3), .val (.int k1), .val (.int v1), .val (.int n1), .val (.int v2), .unset, .unset, .unset, .unset, .unset, .unset, .unset, .unset, .unset, .unset] [])) _
      refine g_iload X0 hx (hb hby at_58) rfl ?_
      show Goes p.tables e below (T0.setTop (mkF m 60 #[.val (.int p0), .val (.int p1), .val (.int p2), .val (.int p3), .val (.int k1), .val (.int v1), .val (.int n1), .val (.int v2), .unset, .unset, .unset, .unset, .unset, .unset, .unset, .unset, .unset, .unset] [(.int n1)])) _
      refine g_goto X0 hx (hb hby at_60) (by decide) (pc' := 71) (by decide) ?_
      rw [show v3 = (n1) from by rw [hv3, if_neg c55]] at J
      exact J
  show Goes p.tables e below (T0.setTop (mkF m 71 #[.val (.int p0), .val (.int p1), .val (.int p2), .val (.int p3), .val (.int k1), .val (.int v1), .val (.int n1), .val (.int v2), .unset, .unset, .unset, .unset, .unset, .unset, .unset, .unset, .unset, .unset] [(.int v3)])) _
  refine g_istore X0 hx (hb hby at_71) (l' := #[.val (.int p0), .val (.int p1), .val (.int p2), .val (.int p3), .val (.int k1), .val (.int v1), .val (.int n1), .val (.int v2), .val (.int v3), .unset, .unset, .unset, .unset, .unset, .unset, .unset, .unset, .unset]) rfl ?_
  show Goes p.tables e below (T0.setTop (mkF m 73 #[.val (.int p0), .val (.int p1), .val (.int p2), .val (.int p3), .val (.int k1), .val (.int v1), .val (.int n1), .val (.int v2), .val (.int v3), .unset, .unset, .unset, .unset, .unset, .unset, .unset, .unset, .unset] [])) _
  refine g_iloadN X0 hx (hb hby at_73) rfl ?_
  show Goes p.tables e below (T0.setTop (mkF m 74 #[.val (.int p0), .val (.int p1), .val (.int p2), .val (.int p3), .val (.int k1), .val (.int v1), .val (.int n1), .val (.int v2), .val (.int v3), .unset, .unset, .unset, .unset, .unset, .unset, .unset, .unset, .unset] [(.int p1)])) _
  refine g_sipush X0 hx (255 : Int32) (hb hby at_74) (by decide) ?_
  show Goes p.tables e below (T0.setTop (mkF m 77 #[.val (.int p0), .val (.int p1), .val (.int p2), .val (.int p3), .val (.int k1), .val (.int v1), .val (.int n1), .val (.int v2), .val (.int v3), .unset, .unset, .unset, .unset, .unset, .unset, .unset, .unset, .unset] [(.int (255 : Int32)), (.int p1)])) _
  refine g_iand X0 hx (hb hby at_77) ?_
  show Goes p.tables e below (T0.setTop (mkF m 78 #[.val (.int p0), .val (.int p1), .val (.int p2), .val (.int p3), .val (.int k1), .val (.int v1), .val (.int n1), .val (.int v2), .val (.int v3), .unset, .unset, .unset, .unset, .unset, .unset, .unset, .unset, .unset] [(.int (p1 &&& (255 : Int32)))])) _
  refine g_i2c X0 hx (hb hby at_78) ?_
  show Goes p.tables e below (T0.setTop (mkF m 79 #[.val (.int p0), .val (.int p1), .val (.int p2), .val (.int p3), .val (.int k1), .val (.int v1), .val (.int n1), .val (.int v2), .val (.int v3), .unset, .unset, .unset, .unset, .unset, .unset, .unset, .unset, .unset] [(.int (UInt32.toInt32 (UInt16.toUInt32 (UInt32.toUInt16 (Int32.toUInt32 (p1 &&& (255 : Int32)))))))])) _
  obtain ⟨t0, ht0⟩ : ∃ z : Int32, z = (UInt32.toInt32 (UInt16.toUInt32 (UInt32.toUInt16 (Int32.toUInt32 (p1 &&& (255 : Int32)))))) := ⟨_, rfl⟩
  refine g_nameI ht0 ?_
  show Goes p.tables e below (T0.setTop (mkF m 79 #[.val (.int p0), .val (.int p1), .val (.int p2), .val (.int p3), .val (.int k1), .val (.int v1), .val (.int n1), .val (.int v2), .val (.int v3), .unset, .unset, .unset, .unset, .unset, .unset, .unset, .unset, .unset] [(.int t0)])) _
  refine g_istore X0 hx (hb hby at_79) (l' := #[.val (.int p0), .val (.int p1), .val (.int p2), .val (.int p3), .val (.int k1), .val (.int v1), .val (.int n1), .val (.int v2), .val (.int v3), .val (.int t0), .unset, .unset, .unset, .unset, .unset, .unset, .unset, .unset]) rfl ?_
  show Goes p.tables e below (T0.setTop (mkF m 81 #[.val (.int p0), .val (.int p1), .val (.int p2), .val (.int p3), .val (.int k1), .val (.int v1), .val (.int n1), .val (.int v2), .val (.int v3), .val (.int t0), .unset, .unset, .unset, .unset, .unset, .unset, .unset, .unset] [])) _
  refine g_iloadN X0 hx (hb hby at_81) rfl ?_
  show Goes p.tables e below (T0.setTop (mkF m 82 #[.val (.int p0), .val (.int p1), .val (.int p2), .val (.int p3), .val (.int k1), .val (.int v1), .val (.int n1), .val (.int v2), .val (.int v3), .val (.int t0), .unset, .unset, .unset, .unset, .unset, .unset, .unset, .unset] [(.int p1)])) _
  refine g_bipush X0 hx (8 : Int32) (hb hby at_82) (by decide) ?_
  show Goes p.tables e below (T0.setTop (mkF m 84 #[.val (.int p0), .val (.int p1), .val (.int p2), .val (.int p3), .val (.int k1), .val (.int v1), .val (.int n1), .val (.int v2), .val (.int v3), .val (.int t0), .unset, .unset, .unset, .unset, .unset, .unset, .unset, .unset] [(.int (8 : Int32)), (.int p1)])) _
  refine g_iushr X0 hx (hb hby at_84) ?_
  show Goes p.tables e below (T0.setTop (mkF m 85 #[.val (.int p0), .val (.int p1), .val (.int p2), .val (.int p3), .val (.int k1), .val (.int v1), .val (.int n1), .val (.int v2), .val (.int v3), .val (.int t0), .unset, .unset, .unset, .unset, .unset, .unset, .unset, .unset] [(.int (XT.ushr p1 (8 : Int32)))])) _
  refine g_sipush X0 hx (255 : Int32) (hb hby at_85) (by decide) ?_
  show Goes p.tables e below (T0.setTop (mkF m 88 #[.val (.int p0), .val (.int p1), .val (.int p2), .val (.int p3), .val (.int k1), .val (.int v1), .val (.int n1), .val (.int v2), .val (.int v3), .val (.int t0), .unset, .unset, .unset, .unset, .unset, .unset, .unset, .unset] [(.int (255 : Int32)), (.int (XT.ushr p1 (8 : Int32)))])) _
  refine g_iand X0 hx (hb hby at_88) ?_
  show Goes p.tables e below (T0.setTop (mkF m 89 #[.val (.int p0), .val (.int p1), .val (.int p2), .val (.int p3), .val (.int k1), .val (.int v1), .val (.int n1), .val (.int v2), .val (.int v3), .val (.int t0), .unset, .unset, .unset, .unset, .unset, .unset, .unset, .unset] [(.int ((XT.ushr p1 (8 : Int32)) &&& (255 : Int32)))])) _
  refine g_i2c X0 hx (hb hby at_89) ?_
  show Goes p.tables e below (T0.setTop (mkF m 90 #[.val (.int p0), .val (.int p1), .val (.int p2), .val (.int p3), .val (.int k1), .val (.int v1), .val (.int n1), .val (.int v2), .val (.int v3), .val (.int t0), .unset, .unset, .unset, .unset, .unset, .unset, .unset, .unset] [(.int (UInt32.toInt32 (UInt16.toUInt32 (UInt32.toUInt16 (Int32.toUInt32 ((XT.ushr p1 (8 : Int32)) &&& (255 : Int32)))))))])) _
  obtain ⟨t1, ht1⟩ : ∃ z : Int32, z = (UInt32.toInt32 (UInt16.toUInt32 (UInt32.toUInt16 (Int32.toUInt32 ((XT.ushr p1 (8 : Int32)) &&& (255 : Int32)))))) := ⟨_, rfl⟩
  refine g_nameI ht1 ?_
  show Goes p.tables e below (T0.setTop (mkF m 90 #[.val (.int p0), .val (.int p1), .val (.int p2), .val (.int p3), .val (.int k1), .val (.int v1), .val (.int n1), .val (.int v2), .val (.int v3), .val (.int t0), .unset, .unset, .unset, .unset, .unset, .unset, .unset, .unset] [(.int t1)])) _
  refine g_istore X0 hx (hb hby at_90) (l' := #[.val (.int p0), .val (.int p1), .val (.int p2), .val (.int p3), .val (.int k1), .val (.int v1), .val (.int n1), .val (.int v2), .val (.int v3), .val (.int t0), .val (.int t1), .unset, .unset, .unset, .unset, .unset, .unset, .unset]) rfl ?_
  show Goes p.tables e below (T0.setTop (mkF m 92 #[.val (.int p0), .val (.int p1), .val (.int p2), .val (.int p3), .val (.int k1), .val (.int v1), .val (.int n1), .val (.int v2), .val (.int v3), .val (.int t0), .val (.int t1), .unset, .unset, .unset, .unset, .unset, .unset, .unset] [])) _
  refine g_iload X0 hx (hb hby at_92) rfl ?_
  show Goes p.tables e below (T0.setTop (mkF m 94 #[.val (.int p0), .val (.int p1), .val (.int p2), .val (.int p3), .val (.int k1), .val (.int v1), .val (.int n1), .val (.int v2), .val (.int v3), .val (.int t0), .val (.int t1), .unset, .unset, .unset, .unset, .unset, .unset, .unset] [(.int v2)])) _
  obtain ⟨v4, hv4⟩ : ∃ z : Int32, z = (if v2 = 0 then (UInt32.toInt32 (UInt16.toUInt32 (UInt32.toUInt16 (Int32.toUInt32 (p2 &&& (255 : Int32)))))) else t0) := ⟨_, rfl⟩
  refine Goes.join (S' := T0.setTop (mkF m 108 #[.val (.int p0), .val (.int p1), .val (.int p2), .val (.int p3), .val (.int k1), .val (.int v1), .val (.int n1), .val (.int v2), .val (.int v3), .val (.int t0), .val (.int t1), .unset, .unset, .unset, .unset, .unset, .unset, .unset] [(.int v4)])) (fun J => ?_) ?_
  · skip
    refine g_if_eq X0 hx (hb hby at_94) (by decide) (pc' := 102) (by decide) (fun c94 => ?_) (fun c94 => ?_)
    · skip
      show Goes p.tables e below (T0.setTop (mkF m 102 #[.val (.int p0), .val (.int p1), .val (.int p2), .val (.int p3), .val (.int k1), .val (.int v1), .val (.int n1), .val (.int v2), .val (.int v3), .val (.int t0), .val (.int t1), .unset, .unset, .unset, .unset, .unset, .unset, .unset] [])) _
      refine g_iloadN X0 hx (hb hby at_102) rfl ?_
      show Goes p.tables e below (T0.setTop (mkF m 103 #[.val (.int p0), .val (.int p1), .val (.int p2), .val (.int p3), .val (.int k1), .val (.int v1), .val (.int n1), .val (.int v2), .val (.int v3), .val (.int t0), .val (.int t1), .unset, .unset, .unset, .unset, .unset, .unset, .unset] [(.int p2)])) _
      refine g_sipush X0 hx (255 : Int32) (hb hby at_103) (by decide) ?_
      show Goes p.tables e below (T0.setTop (mkF m 106 #[.val (.int p0), .val (.int p1), .val (.int p2), .val (.int p3), .val (.int k1), .val (.int v1), .val (.int n1), .val (.int v2), .val (.int v3), .val (.int t0), .val (.int t1), .unset, .unset, .unset, .unset, .unset, .unset, .unset] [(.int (255 : Int32)), (.int p2)])) _
      refine g_iand X0 hx (hb hby at_106) ?_
      show Goes p.tables e below (T0.setTop (mkF m 107 #[.val (.int p0), .val (.int p1), .val (.int p2), .val (.int p3), .val (.int k1), .val (.int v1), .val (.int n1), .val (.int v2), .val (.int v3), .val (.int t0), .val (.int t1), .unset, .unset, .unset, .unset, .unset, .unset, .unset] [(.int (p2 &&& (255 : Int32)))])) _
      refine g_i2c X0 hx (hb hby at_107) ?_
      rw [show v4 = ((UInt32.toInt32 (UInt16.toUInt32 (UInt32.toUInt16 (Int32.toUInt32 (p2 &&& (255 : Int32))))))) from by rw [hv4, if_pos c94]] at J
      exact J
    · skip
      show Goes p.tables e below (T0.setTop (mkF m 97 #[.val (.int p0), .val (.int p1), .val (.int p2), .val (.int p3), .val (.int k1), .val (.int v1), .val (.int n1), .val (.int v2), .val (.int v3), .val (.int t0), .val (.int t1), .unset, .unset, .unset, .unset, .unset, .unset, .unset] [])) _
      refine g_iload X0 hx (hb hby at_97) rfl ?_
      show Goes p.tables e below (T0.setTop (mkF m 99 #[.val (.int p0), .val (.int p1), .val (.int p2), .val (.int p3), .val (.int k1), .val (.int v1), .val (.int n1), .val (.int v2), .val (.int v3), .val (.int t0), .val (.int t1), .unset, .unset, .unset, .unset, .unset, .unset, .unset] [(.int t0)])) _
      refine g_goto X0 hx (hb hby at_99) (by decide) (pc' := 108) (by decide) ?_
      rw [show v4 = (t0) from by rw [hv4, if_neg c94]] at J
      exact J
  show Goes p.tables e below (T0.setTop (mkF m 108 #[.val (.int p0), .val (.int p1), .val (.int p2), .val (.int p3), .val (.int k1), .val (.int v1), .val (.int n1), .val (.int v2), .val (.int v3), .val (.int t0), .val (.int t1), .unset, .unset, .unset, .unset, .unset, .unset, .unset] [(.int v4)])) _
  refine g_istore X0 hx (hb hby at_108) (l' := #[.val (.int p0), .val (.int p1), .val (.int p2), .val (.int p3), .val (.int k1), .val (.int v1), .val (.int n1), .val (.int v2), .val (.int v3), .val (.int t0), .val (.int t1), .val (.int v4), .unset, .unset, .unset, .unset, .unset, .unset]) rfl ?_
  show Goes p.tables e below (T0.setTop (mkF m 110 #[.val (.int p0), .val (.int p1), .val (.int p2), .val (.int p3), .val (.int k1), .val (.int v1), .val (.int n1), .val (.int v2), .val (.int v3), .val (.int t0), .val (.int t1), .val (.int v4), .unset, .unset, .unset, .unset, .unset, .unset] [])) _
  refine g_iload X0 hx (hb hby at_110) rfl ?_
  show Goes p.tables e below (T0.setTop (mkF m 112 #[.val (.int p0), .val (.int p1), .val (.int p2), .val (.int p3), .val (.int k1), .val (.int v1), .val (.int n1), .val (.int v2), .val (.int v3), .val (.int t0), .val (.int t1), .val (.int v4), .unset, .unset, .unset, .unset, .unset, .unset] [(.int v2)])) _
  obtain ⟨v5, hv5⟩ : ∃ z : Int32, z = (if v2 = 0 then (UInt32.toInt32 (UInt16.toUInt32 (UInt32.toUInt16 (Int32.toUInt32 ((XT.ushr p2 (8 : Int32)) &&& (255 : Int32)))))) else t1) := ⟨_, rfl⟩
  refine Goes.join (S' := T0.setTop (mkF m 129 #[.val (.int p0), .val (.int p1), .val (.int p2), .val (.int p3), .val (.int k1), .val (.int v1), .val (.int n1), .val (.int v2), .val (.int v3), .val (.int t0), .val (.int t1), .val (.int v4), .unset, .unset, .unset, .unset, .unset, .unset] [(.int v5)])) (fun J => ?_) ?_
  · skip
    refine g_if_eq X0 hx (hb hby at_112) (by decide) (pc' := 120) (by decide) (fun c112 => ?_) (fun c112 => ?_)
    · skip
      show Goes p.tables e below (T0.setTop (mkF m 120 #[.val (.int p0), .val (.int p1), .val (.int p2), .val (.int p3), .val (.int k1), .val (.int v1), .val (.int n1), .val (.int v2), .val (.int v3), .val (.int t0), .val (.int t1), .val (.int v4), .unset, .unset, .unset, .unset, .unset, .unset] [])) _
      refine g_iloadN X0 hx (hb hby at_120) rfl ?_
      show Goes p.tables e below (T0.setTop (mkF m 121 #[.val (.int p0), .val (.int p1), .val (.int p2), .val (.int p3), .val (.int k1), .val (.int v1), .val (.int n1), .val (.int v2), .val (.int v3), .val (.int t0), .val (.int t1), .val (.int v4), .unset, .unset, .unset, .unset, .unset, .unset] [(.int p2)])) _
      refine g_bipush X0 hx (8 : Int32) (hb hby at_121) (by decide) ?_
      show Goes p.tables e below (T0.setTop (mkF m 123 #[.val (.int p0), .val (.int p1), .val (.int p2), .val (.int p3), .val (.int k1), .val (.int v1), .val (.int n1), .val (.int v2), .val (.int v3), .val (.int t0), .val (.int t1), .val (.int v4), .unset, .unset, .unset, .unset, .unset, .unset] [(.int (8 : Int32)), (.int p2)])) _
      refine g_iushr X0 hx (hb hby at_123) ?_
      show Goes p.tables e below (T0.setTop (mkF m 124 #[.val (.int p0), .val (.int p1), .val (.int p2), .val (.int p3), .val (.int k1), .val (.int v1), .val (.int n1), .val (.int v2), .val (.int v3), .val (.int t0), .val (.int t1), .val (.int v4), .unset, .unset, .unset, .unset, .unset, .unset] [(.int (XT.ushr p2 (8 : Int32)))])) _
      refine g_sipush X0 hx (255 : Int32) (hb hby at_124) (by decide) ?_
      show Goes p.tables e below (T0.setTop (mkF m 127 #[.val (.int p0), .val (.int p1), .val (.int p2), .val (.int p3), .val (.int k1), .val (.int v1), .val (.int n1), .val (.int v2), .val (.int v3), .val (.int t0), .val (.int t1), .val (.int v4), .unset, .unset, .unset, .unset, .unset, .unset] [(.int (255 : Int32)), (.int (XT.ushr p2 (8 : Int32)))])) _
      refine g_iand X0 hx (hb hby at_127) ?_
      show Goes p.tables e below (T0.setTop (mkF m 128 #[.val (.int p0), .val (.int p1), .val (.int p2), .val (.int p3), .val (.int k1), .val (.int v1), .val (.int n1), .val (.int v2), .val (.int v3), .val (.int t0), .val (.int t1), .val (.int v4), .unset, .unset, .unset, .unset, .unset, .unset] [(.int ((XT.ushr p2 (8 : Int32)) &&& (255 : Int32)))])) _
      refine g_i2c X0 hx (hb hby at_128) ?_
      rw [show v5 = ((UInt32.toInt32 (UInt16.toUInt32 (UInt32.toUInt16 (Int32.toUInt32 ((XT.ushr p2 (8 : Int32)) &&& (255 : Int32))))))) from by rw [hv5, if_pos c112]] at J
      exact J
    · skip
      show Goes p.tables e below (T0.setTop (mkF m 115 #[.val (.int p0), .val (.int p1), .val (.int p2), .val (.int p3), .val (.int k1), .val (.int v1), .val (.int n1), .val (.int v2), .val (.int v3), .val (.int t0), .val (.int t1), .val (.int v4), .unset, .unset, .unset, .unset, .unset, .unset] [])) _
      refine g_iload X0 hx (hb hby at_115) rfl ?_
      show Goes p.tables e below (T0.setTop (mkF m 117 #[.val (.int p0), .val (.int p1), .val (.int p2), .val (.int p3), .val (.int k1), .val (.int v1), .val (.int n1), .val (.int v2), .val (.int v3), .val (.int t0), .val (.int t1), .val (.int v4), .unset, .unset, .unset, .unset, .unset, .unset] [(.int t1)])) _
      refine g_goto X0 hx (hb hby at_117) (by decide) (pc' := 129) (by decide) ?_
      rw [show v5 = (t1) from by rw [hv5, if_neg c112]] at J
      exact J
  show Goes p.tables e below (T0.setTop (mkF m 129 #[.val (.int p0), .val (.int p1), .val (.int p2), .val (.int p3), .val (.int k1), .val (.int v1), .val (.int n1), .val (.int v2), .val (.int v3), .val (.int t0), .val (.int t1), .val (.int v4), .unset, .unset, .unset, .unset, .unset, .unset] [(.int v5)])) _
  refine g_istore X0 hx (hb hby at_129) (l' := #[.val (.int p0), .val (.int p1), .val (.int p2), .val (.int p3), .val (.int k1), .val (.int v1), .val (.int n1), .val (.int v2), .val (.int v3), .val (.int t0), .val (.int t1), .val (.int v4), .val (.int v5), .unset, .unset, .unset, .unset, .unset]) rfl ?_
  have hk1' : ∃ j : Fin 8, k1 = Int32.ofNat j.val := by rw [hk1]; exact k8_of _
  have hk2' : ∃ j : Fin 8, v1 = Int32.ofNat j.val := by rw [hv1]; first | exact own_ite (P := fun z => ∃ j : Fin 8, z = Int32.ofNat j.val) hk1' (k8_of _) | exact own_ite (P := fun z => ∃ j : Fin 8, z = Int32.ofNat j.val) (k8_of _) hk1' | (split <;> first | exact hk1' | exact (k8_of _))
  have hn1' : n1 = 0 ∨ n1 = 1 ∨ n1 = 2 := by rw [hn1]; exact n3_of _
  have hn2' : v3 = 0 ∨ v3 = 1 ∨ v3 = 2 := by rw [hv3]; first | exact own_ite (P := fun z => z = 0 ∨ z = 1 ∨ z = 2) hn1' (n3_of _) | exact own_ite (P := fun z => z = 0 ∨ z = 1 ∨ z = 2) (n3_of _) hn1' | (split <;> first | exact hn1' | exact (n3_of _))
  have lt0 : Lat t0 := by rw [ht0]; exact lat_of _
  have lt1 : Lat t1 := by rw [ht1]; exact lat_of _
  have lv4 : Lat v4 := by rw [hv4]; first | exact own_ite (P := Lat) lt0 (lat_of _) | exact own_ite (P := Lat) (lat_of _) lt0 | (split <;> first | exact lt0 | exact (lat_of _))
  have lv5 : Lat v5 := by rw [hv5]; first | exact own_ite (P := Lat) lt1 (lat_of _) | exact own_ite (P := Lat) (lat_of _) lt1 | (split <;> first | exact lt1 | exact (lat_of _))
  show Goes p.tables e below (T0.setTop (mkF m 131 #[.val (.int p0), .val (.int p1), .val (.int p2), .val (.int p3), .val (.int k1), .val (.int v1), .val (.int n1), .val (.int v2), .val (.int v3), .val (.int t0), .val (.int t1), .val (.int v4), .val (.int v5), .unset, .unset, .unset, .unset, .unset] [])) _
  refine g_iload X0 hx (hb hby at_131) rfl ?_
  show Goes p.tables e below (T0.setTop (mkF m 133 #[.val (.int p0), .val (.int p1), .val (.int p2), .val (.int p3), .val (.int k1), .val (.int v1), .val (.int n1), .val (.int v2), .val (.int v3), .val (.int t0), .val (.int t1), .val (.int v4), .val (.int v5), .unset, .unset, .unset, .unset, .unset] [(.int n1)])) _
  refine g_iload X0 hx (hb hby at_133) rfl ?_
  show Goes p.tables e below (T0.setTop (mkF m 135 #[.val (.int p0), .val (.int p1), .val (.int p2), .val (.int p3), .val (.int k1), .val (.int v1), .val (.int n1), .val (.int v2), .val (.int v3), .val (.int t0), .val (.int t1), .val (.int v4), .val (.int v5), .unset, .unset, .unset, .unset, .unset] [(.int t0), (.int n1)])) _
  refine g_iload X0 hx (hb hby at_135) rfl ?_
  show Goes p.tables e below (T0.setTop (mkF m 137 #[.val (.int p0), .val (.int p1), .val (.int p2), .val (.int p3), .val (.int k1), .val (.int v1), .val (.int n1), .val (.int v2), .val (.int v3), .val (.int t0), .val (.int t1), .val (.int v4), .val (.int v5), .unset, .unset, .unset, .unset, .unset] [(.int t1), (.int t0), (.int n1)])) _
  refine g_callSH X0 hx hZ hown (by rw [hml]; rfl) e0 hS hk0 hEL CH (hw _ (List.mem_of_getElem? (i := 0) rfl)) (hw _ (List.mem_of_getElem? (i := 1) rfl)) (hw _ (List.mem_of_getElem? (i := 2) rfl)) (hw _ (List.mem_of_getElem? (i := 3) rfl)) (rmMake l Z a0 hw n1 t0 t1 h0 h0.size Z0 lt0 lt1 cs hcs SC) [(.int n1), (.int t0), (.int t1)] rfl [] rfl (lenOf pd_1 rfl) (hb hby at_137) (by decide) 0 (by decide) (by decide) (by first | decide | exact Nat.le_refl _) (by decide) (by decide) (fun v T6 L6 X6 hS hZ hown C9 hQ6 => ?_)
  obtain ⟨r0, bb0, rfl, gr0, hr0, Nr0, Kr0, Er0, fv0, fc0, Ab0⟩ := hQ6
  have hk0 : T6.heap.size ≤ T6.heap.size := Nat.le_refl _
  have CH := CH.trans C9
  have fx7 : Sta Z T6.heap "com/example/hold/hold/automaton/HoaLexer$Kind" "HEADER" "Lcom/example/hold/hold/automaton/HoaLexer$Kind;" (.ref b0) := own_stakeep Sb0 Kr0 all0
  have fx8 : Exa Z T6.heap b0 "com/example/hold/hold/automaton/HoaLexer$Kind" := Exa.keep Eb0 Kr0
  have fx9 : Sta Z T6.heap "com/example/hold/hold/automaton/HoaLexer$Kind" "ALIAS" "Lcom/example/hold/hold/automaton/HoaLexer$Kind;" (.ref b1) := own_stakeep Sb1 Kr0 all0
  have fx10 : Exa Z T6.heap b1 "com/example/hold/hold/automaton/HoaLexer$Kind" := Exa.keep Eb1 Kr0
  have fx11 : Fld Z T6.heap b1 "java/lang/Enum" "ordinal" "I" (.int (4 : Int32)) := Fld.keep F2 Kr0 nin0
  have fx12 : Fld Z T6.heap b0 "java/lang/Enum" "ordinal" "I" (.int (0 : Int32)) := Fld.keep F3 Kr0 nin0
  have fx13 : Sta Z T6.heap "com/example/hold/hold/automaton/HoaLexer$Kind" "END_OF_FILE" "Lcom/example/hold/hold/automaton/HoaLexer$Kind;" (.ref b2) := own_stakeep Sb2 Kr0 all0
  have fx14 : Exa Z T6.heap b2 "com/example/hold/hold/automaton/HoaLexer$Kind" := Exa.keep Eb2 Kr0
  have fx15 : Fld Z T6.heap b2 "java/lang/Enum" "ordinal" "I" (.int (7 : Int32)) := Fld.keep F5 Kr0 nin0
  have fx16 : Sta Z T6.heap "com/example/hold/hold/automaton/HoaLexer$Kind" "INTEGER" "Lcom/example/hold/hold/automaton/HoaLexer$Kind;" (.ref b3) := own_stakeep Sb3 Kr0 all0
  have fx17 : Exa Z T6.heap b3 "com/example/hold/hold/automaton/HoaLexer$Kind" := Exa.keep Eb3 Kr0
  have fx18 : Sta Z T6.heap "com/example/hold/hold/automaton/HoaLexer$Kind" "STRING" "Lcom/example/hold/hold/automaton/HoaLexer$Kind;" (.ref b4) := own_stakeep Sb4 Kr0 all0
  have fx19 : Exa Z T6.heap b4 "com/example/hold/hold/automaton/HoaLexer$Kind" := Exa.keep Eb4 Kr0
  have fx20 : Fld Z T6.heap b3 "java/lang/Enum" "ordinal" "I" (.int (2 : Int32)) := Fld.keep F8 Kr0 nin0
  have fx21 : Fld Z T6.heap b4 "java/lang/Enum" "ordinal" "I" (.int (3 : Int32)) := Fld.keep F9 Kr0 nin0
  have fx22 : Sta Z T6.heap "com/example/hold/hold/automaton/HoaLexer$Kind" "IDENTIFIER" "Lcom/example/hold/hold/automaton/HoaLexer$Kind;" (.ref b5) := own_stakeep Sb5 Kr0 all0
  have fx23 : Exa Z T6.heap b5 "com/example/hold/hold/automaton/HoaLexer$Kind" := Exa.keep Eb5 Kr0
  have fx24 : Sta Z T6.heap "com/example/hold/hold/automaton/HoaLexer$Kind" "PUNCTUATION" "Lcom/example/hold/hold/automaton/HoaLexer$Kind;" (.ref b6) := own_stakeep Sb6 Kr0 all0
  have fx25 : Exa Z T6.heap b6 "com/example/hold/hold/automaton/HoaLexer$Kind" := Exa.keep Eb6 Kr0
  have fx26 : Sta Z T6.heap "com/example/hold/hold/automaton/HoaLexer$Kind" "SEPARATOR" "Lcom/example/hold/hold/automaton/HoaLexer$Kind;" (.ref b7) := own_stakeep Sb7 Kr0 all0
  have fx27 : Exa Z T6.heap b7 "com/example/hold/hold/automaton/HoaLexer$Kind" := Exa.keep Eb7 Kr0
  have fx28 : Fld Z T6.heap b6 "java/lang/Enum" "ordinal" "I" (.int (5 : Int32)) := Fld.keep F13 Kr0 nin0
  have fx29 : Fld Z T6.heap b7 "java/lang/Enum" "ordinal" "I" (.int (6 : Int32)) := Fld.keep F14 Kr0 nin0
  have fx30 : Fld Z T6.heap b5 "java/lang/Enum" "ordinal" "I" (.int (1 : Int32)) := Fld.keep F15 Kr0 nin0
  have fx31 : Sta Z T6.heap "java/lang/String" "COMPACT_STRINGS" "Z" (.int cs) := own_stakeep SC Kr0 all0
  have N32 := Fr.app N0 Nr0
  have Z33 : h0.size ≤ T6.heap.size := Nat.le_trans Z0 Kr0.1
  show Goes p.tables e below (T6.setTop (mkF m 140 #[.val (.int p0), .val (.int p1), .val (.int p2), .val (.int p3), .val (.int k1), .val (.int v1), .val (.int n1), .val (.int v2), .val (.int v3), .val (.int t0), .val (.int t1), .val (.int v4), .val (.int v5), .unset, .unset, .unset, .unset, .unset] [(.ref r0)])) _
  refine g_astore X6 hx (hb hby at_140) rfl (l' := #[.val (.int p0), .val (.int p1), .val (.int p2), .val (.int p3), .val (.int k1), .val (.int v1), .val (.int n1), .val (.int v2), .val (.int v3), .val (.int t0), .val (.int t1), .val (.int v4), .val (.int v5), .val (.ref r0), .unset, .unset, .unset, .unset]) rfl ?_
  show Goes p.tables e below (T6.setTop (mkF m 142 #[.val (.int p0), .val (.int p1), .val (.int p2), .val (.int p3), .val (.int k1), .val (.int v1), .val (.int n1), .val (.int v2), .val (.int v3), .val (.int t0), .val (.int t1), .val (.int v4), .val (.int v5), .val (.ref r0), .unset, .unset, .unset, .unset] [])) _
  refine g_iload X6 hx (hb hby at_142) rfl ?_
  show Goes p.tables e below (T6.setTop (mkF m 144 #[.val (.int p0), .val (.int p1), .val (.int p2), .val (.int p3), .val (.int k1), .val (.int v1), .val (.int n1), .val (.int v2), .val (.int v3), .val (.int t0), .val (.int t1), .val (.int v4), .val (.int v5), .val (.ref r0), .unset, .unset, .unset, .unset] [(.int v3)])) _
  refine g_iload X6 hx (hb hby at_144) rfl ?_
  show Goes p.tables e below (T6.setTop (mkF m 146 #[.val (.int p0), .val (.int p1), .val (.int p2), .val (.int p3), .val (.int k1), .val (.int v1), .val (.int n1), .val (.int v2), .val (.int v3), .val (.int t0), .val (.int t1), .val (.int v4), .val (.int v5), .val (.ref r0), .unset, .unset, .unset, .unset] [(.int v4), (.int v3)])) _
  refine g_iload X6 hx (hb hby at_146) rfl ?_
  show Goes p.tables e below (T6.setTop (mkF m 148 #[.val (.int p0), .val (.int p1), .val (.int p2), .val (.int p3), .val (.int k1), .val (.int v1), .val (.int n1), .val (.int v2), .val (.int v3), .val (.int t0), .val (.int t1), .val (.int v4), .val (.int v5), .val (.ref r0), .unset, .unset, .unset, .unset] [(.int v5), (.int v4), (.int v3)])) _
  refine g_callSH X6 hx hZ hown (by rw [hml]; rfl) rfl hS hk0 hEL CH (hw _ (List.mem_of_getElem? (i := 0) rfl)) (hw _ (List.mem_of_getElem? (i := 1) rfl)) (hw _ (List.mem_of_getElem? (i := 2) rfl)) (hw _ (List.mem_of_getElem? (i := 3) rfl)) (rmMake l Z a0 hw v3 v4 v5 T6.heap h0.size Z33 lv4 lv5 cs hcs fx31) [(.int v3), (.int v4), (.int v5)] rfl [] rfl (lenOf pd_1 rfl) (hb hby at_148) (by decide) 0 (by decide) (by decide) (by first | decide | exact Nat.le_refl _) (by decide) (by decide) (fun v T34 L34 X34 hS hZ hown C9 hQ34 => ?_)
  obtain ⟨r1, bb1, rfl, gr1, hr1, Nr1, Kr1, Er1, fv1, fc1, Ab1⟩ := hQ34
  have hk0 : T34.heap.size ≤ T34.heap.size := Nat.le_refl _
  have CH := CH.trans C9
  have ne35 : r0 ≠ r1 := Nat.ne_of_lt (Nat.lt_of_lt_of_le Er0.lt hr1)
  have fx36 : Sta Z T34.heap "com/example/hold/hold/automaton/HoaLexer$Kind" "HEADER" "Lcom/example/hold/hold/automaton/HoaLexer$Kind;" (.ref b0) := own_stakeep fx7 Kr1 all0
  have fx37 : Exa Z T34.heap b0 "com/example/hold/hold/automaton/HoaLexer$Kind" := Exa.keep fx8 Kr1
  have fx38 : Sta Z T34.heap "com/example/hold/hold/automaton/HoaLexer$Kind" "ALIAS" "Lcom/example/hold/hold/automaton/HoaLexer$Kind;" (.ref b1) := own_stakeep fx9 Kr1 all0
  have fx39 : Exa Z T34.heap b1 "com/example/hold/hold/automaton/HoaLexer$Kind" := Exa.keep fx10 Kr1
  have fx40 : Fld Z T34.heap b1 "java/lang/Enum" "ordinal" "I" (.int (4 : Int32)) := Fld.keep fx11 Kr1 nin0
  have fx41 : Fld Z T34.heap b0 "java/lang/Enum" "ordinal" "I" (.int (0 : Int32)) := Fld.keep fx12 Kr1 nin0
  have fx42 : Sta Z T34.heap "com/example/hold/hold/automaton/HoaLexer$Kind" "END_OF_FILE" "Lcom/example/hold/hold/automaton/HoaLexer$Kind;" (.ref b2) := own_stakeep fx13 Kr1 all0
  have fx43 : Exa Z T34.heap b2 "com/example/hold/hold/automaton/HoaLexer$Kind" := Exa.keep fx14 Kr1
  have fx44 : Fld Z T34.heap b2 "java/lang/Enum" "ordinal" "I" (.int (7 : Int32)) := Fld.keep fx15 Kr1 nin0
  have fx45 : Sta Z T34.heap "com/example/hold/hold/automaton/HoaLexer$Kind" "INTEGER" "Lcom/example/hold/hold/automaton/HoaLexer$Kind;" (.ref b3) := own_stakeep fx16 Kr1 all0
  have fx46 : Exa Z T34.heap b3 "com/example/hold/hold/automaton/HoaLexer$Kind" := Exa.keep fx17 Kr1
  have fx47 : Sta Z T34.heap "com/example/hold/hold/automaton/HoaLexer$Kind" "STRING" "Lcom/example/hold/hold/automaton/HoaLexer$Kind;" (.ref b4) := own_stakeep fx18 Kr1 all0
  have fx48 : Exa Z T34.heap b4 "com/example/hold/hold/automaton/HoaLexer$Kind" := Exa.keep fx19 Kr1
  have fx49 : Fld Z T34.heap b3 "java/lang/Enum" "ordinal" "I" (.int (2 : Int32)) := Fld.keep fx20 Kr1 nin0
  have fx50 : Fld Z T34.heap b4 "java/lang/Enum" "ordinal" "I" (.int (3 : Int32)) := Fld.keep fx21 Kr1 nin0
  have fx51 : Sta Z T34.heap "com/example/hold/hold/automaton/HoaLexer$Kind" "IDENTIFIER" "Lcom/example/hold/hold/automaton/HoaLexer$Kind;" (.ref b5) := own_stakeep fx22 Kr1 all0
  have fx52 : Exa Z T34.heap b5 "com/example/hold/hold/automaton/HoaLexer$Kind" := Exa.keep fx23 Kr1
  have fx53 : Sta Z T34.heap "com/example/hold/hold/automaton/HoaLexer$Kind" "PUNCTUATION" "Lcom/example/hold/hold/automaton/HoaLexer$Kind;" (.ref b6) := own_stakeep fx24 Kr1 all0
  have fx54 : Exa Z T34.heap b6 "com/example/hold/hold/automaton/HoaLexer$Kind" := Exa.keep fx25 Kr1
  have fx55 : Sta Z T34.heap "com/example/hold/hold/automaton/HoaLexer$Kind" "SEPARATOR" "Lcom/example/hold/hold/automaton/HoaLexer$Kind;" (.ref b7) := own_stakeep fx26 Kr1 all0
  have fx56 : Exa Z T34.heap b7 "com/example/hold/hold/automaton/HoaLexer$Kind" := Exa.keep fx27 Kr1
  have fx57 : Fld Z T34.heap b6 "java/lang/Enum" "ordinal" "I" (.int (5 : Int32)) := Fld.keep fx28 Kr1 nin0
  have fx58 : Fld Z T34.heap b7 "java/lang/Enum" "ordinal" "I" (.int (6 : Int32)) := Fld.keep fx29 Kr1 nin0
  have fx59 : Fld Z T34.heap b5 "java/lang/Enum" "ordinal" "I" (.int (1 : Int32)) := Fld.keep fx30 Kr1 nin0
  have fx60 : Sta Z T34.heap "java/lang/String" "COMPACT_STRINGS" "Z" (.int cs) := own_stakeep fx31 Kr1 all0
  have fx61 : Exa Z T34.heap r0 "java/lang/String" := Exa.keep Er0 Kr1
  have fx62 : Fld Z T34.heap r0 "java/lang/String" "value" "[B" (.ref bb0) := Fld.keep fv0 Kr1 nin0
  have fx63 : Fld Z T34.heap r0 "java/lang/String" "coder" "B" (.int (0 : Int32)) := Fld.keep fc0 Kr1 nin0
  have fx64 : Ar Z T34.heap bb0 .byte ((bts n1 t0 t1).map Value.int) := Ar.keep Ab0 Kr1 nin0
  have N65 := Fr.app N32 Nr1
  have Z66 : h0.size ≤ T34.heap.size := Nat.le_trans Z33 Kr1.1
  show Goes p.tables e below (T34.setTop (mkF m 151 #[.val (.int p0), .val (.int p1), .val (.int p2), .val (.int p3), .val (.int k1), .val (.int v1), .val (.int n1), .val (.int v2), .val (.int v3), .val (.int t0), .val (.int t1), .val (.int v4), .val (.int v5), .val (.ref r0), .unset, .unset, .unset, .unset] [(.ref r1)])) _
  refine g_astore X34 hx (hb hby at_151) rfl (l' := #[.val (.int p0), .val (.int p1), .val (.int p2), .val (.int p3), .val (.int k1), .val (.int v1), .val (.int n1), .val (.int v2), .val (.int v3), .val (.int t0), .val (.int t1), .val (.int v4), .val (.int v5), .val (.ref r0), .val (.ref r1), .unset, .unset, .unset]) rfl ?_
  show Goes p.tables e below (T34.setTop (mkF m 153 #[.val (.int p0), .val (.int p1), .val (.int p2), .val (.int p3), .val (.int k1), .val (.int v1), .val (.int n1), .val (.int v2), .val (.int v3), .val (.int t0), .val (.int t1), .val (.int v4), .val (.int v5), .val (.ref r0), .val (.ref r1), .unset, .unset, .unset] [])) _
  refine g_new X34 hx hZ hown rfl (hw _ (List.mem_of_getElem? (i := 26) rfl)) (hw _ (List.mem_of_getElem? (i := 27) rfl)) (hw _ (List.mem_of_getElem? (i := 28) rfl)) (hb hby at_153) (by decide) (by decide) (fun T67 h67 a67 ga67 X67 e67 Ex67 Ea67 Df67 => ?_)
  have ne68 : b0 ≠ a67 := Nat.ne_of_lt (by rw [ga67]; exact fx37.lt)
  have ne69 : b1 ≠ a67 := Nat.ne_of_lt (by rw [ga67]; exact fx39.lt)
  have ne70 : b2 ≠ a67 := Nat.ne_of_lt (by rw [ga67]; exact fx43.lt)
  have ne71 : b3 ≠ a67 := Nat.ne_of_lt (by rw [ga67]; exact fx46.lt)
  have ne72 : b4 ≠ a67 := Nat.ne_of_lt (by rw [ga67]; exact fx48.lt)
  have ne73 : b5 ≠ a67 := Nat.ne_of_lt (by rw [ga67]; exact fx52.lt)
  have ne74 : b6 ≠ a67 := Nat.ne_of_lt (by rw [ga67]; exact fx54.lt)
  have ne75 : b7 ≠ a67 := Nat.ne_of_lt (by rw [ga67]; exact fx56.lt)
  have ne76 : r0 ≠ a67 := Nat.ne_of_lt (by rw [ga67]; exact fx61.lt)
  have ne77 : bb0 ≠ a67 := Nat.ne_of_lt (by rw [ga67]; exact fx64.lt)
  have ne78 : r1 ≠ a67 := Nat.ne_of_lt (by rw [ga67]; exact Er1.lt)
  have ne79 : bb1 ≠ a67 := Nat.ne_of_lt (by rw [ga67]; exact Ab1.lt)
  have ge80 : h0.size ≤ a67 := by rw [ga67]; exact Z66
  have fx81 : Sta Z h67 "com/example/hold/hold/automaton/HoaLexer$Kind" "HEADER" "Lcom/example/hold/hold/automaton/HoaLexer$Kind;" (.ref b0) := Sta.ext Ex67 fx36
  have fx82 : Exa Z h67 b0 "com/example/hold/hold/automaton/HoaLexer$Kind" := Exa.ext Ex67 fx37
  have fx83 : Sta Z h67 "com/example/hold/hold/automaton/HoaLexer$Kind" "ALIAS" "Lcom/example/hold/hold/automaton/HoaLexer$Kind;" (.ref b1) := Sta.ext Ex67 fx38
  have fx84 : Exa Z h67 b1 "com/example/hold/hold/automaton/HoaLexer$Kind" := Exa.ext Ex67 fx39
  have fx85 : Fld Z h67 b1 "java/lang/Enum" "ordinal" "I" (.int (4 : Int32)) := Fld.ext Ex67 fx40
  have fx86 : Fld Z h67 b0 "java/lang/Enum" "ordinal" "I" (.int (0 : Int32)) := Fld.ext Ex67 fx41
  have fx87 : Sta Z h67 "com/example/hold/hold/automaton/HoaLexer$Kind" "END_OF_FILE" "Lcom/example/hold/hold/automaton/HoaLexer$Kind;" (.ref b2) := Sta.ext Ex67 fx42
  have fx88 : Exa Z h67 b2 "com/example/hold/hold/automaton/HoaLexer$Kind" := Exa.ext Ex67 fx43
  have fx89 : Fld Z h67 b2 "java/lang/Enum" "ordinal" "I" (.int (7 : Int32)) := Fld.ext Ex67 fx44
  have fx90 : Sta Z h67 "com/example/hold/hold/automaton/HoaLexer$Kind" "INTEGER" "Lcom/example/hold/hold/automaton/HoaLexer$Kind;" (.ref b3) := Sta.ext Ex67 fx45
  have fx91 : Exa Z h67 b3 "com/example/hold/hold/automaton/HoaLexer$Kind" := Exa.ext Ex67 fx46
  have fx92 : Sta Z h67 "com/example/hold/hold/automaton/HoaLexer$Kind" "STRING" "Lcom/example/hold/hold/automaton/HoaLexer$Kind;" (.ref b4) := Sta.ext Ex67 fx47
  have fx93 : Exa Z h67 b4 "com/example/hold/hold/automaton/HoaLexer$Kind" := Exa.ext Ex67 fx48
  have fx94 : Fld Z h67 b3 "java/lang/Enum" "ordinal" "I" (.int (2 : Int32)) := Fld.ext Ex67 fx49
  have fx95 : Fld Z h67 b4 "java/lang/Enum" "ordinal" "I" (.int (3 : Int32)) := Fld.ext Ex67 fx50
  have fx96 : Sta Z h67 "com/example/hold/hold/automaton/HoaLexer$Kind" "IDENTIFIER" "Lcom/example/hold/hold/automaton/HoaLexer$Kind;" (.ref b5) := Sta.ext Ex67 fx51
  have fx97 : Exa Z h67 b5 "com/example/hold/hold/automaton/HoaLexer$Kind" := Exa.ext Ex67 fx52
  have fx98 : Sta Z h67 "com/example/hold/hold/automaton/HoaLexer$Kind" "PUNCTUATION" "Lcom/example/hold/hold/automaton/HoaLexer$Kind;" (.ref b6) := Sta.ext Ex67 fx53
  have fx99 : Exa Z h67 b6 "com/example/hold/hold/automaton/HoaLexer$Kind" := Exa.ext Ex67 fx54
  have fx100 : Sta Z h67 "com/example/hold/hold/automaton/HoaLexer$Kind" "SEPARATOR" "Lcom/example/hold/hold/automaton/HoaLexer$Kind;" (.ref b7) := Sta.ext Ex67 fx55
  have fx101 : Exa Z h67 b7 "com/example/hold/hold/automaton/HoaLexer$Kind" := Exa.ext Ex67 fx56
  have fx102 : Fld Z h67 b6 "java/lang/Enum" "ordinal" "I" (.int (5 : Int32)) := Fld.ext Ex67 fx57
  have fx103 : Fld Z h67 b7 "java/lang/Enum" "ordinal" "I" (.int (6 : Int32)) := Fld.ext Ex67 fx58
  have fx104 : Fld Z h67 b5 "java/lang/Enum" "ordinal" "I" (.int (1 : Int32)) := Fld.ext Ex67 fx59
  have fx105 : Sta Z h67 "java/lang/String" "COMPACT_STRINGS" "Z" (.int cs) := Sta.ext Ex67 fx60
  have fx106 : Exa Z h67 r0 "java/lang/String" := Exa.ext Ex67 fx61
  have fx107 : Fld Z h67 r0 "java/lang/String" "value" "[B" (.ref bb0) := Fld.ext Ex67 fx62
  have fx108 : Fld Z h67 r0 "java/lang/String" "coder" "B" (.int (0 : Int32)) := Fld.ext Ex67 fx63
  have fx109 : Ar Z h67 bb0 .byte ((bts n1 t0 t1).map Value.int) := Ar.ext fx64 Ex67
  have fx110 : Exa Z h67 r1 "java/lang/String" := Exa.ext Ex67 Er1
  have fx111 : Fld Z h67 r1 "java/lang/String" "value" "[B" (.ref bb1) := Fld.ext Ex67 fv1
  have fx112 : Fld Z h67 r1 "java/lang/String" "coder" "B" (.int (0 : Int32)) := Fld.ext Ex67 fc1
  have fx113 : Ar Z h67 bb1 .byte ((bts v3 v4 v5).map Value.int) := Ar.ext Ab1 Ex67
  have Z114 : h0.size ≤ h67.size := Nat.le_trans Z66 Ex67.1
  have C9 := CHr.ext Ex67 CH.1
  have hk0 := Nat.le_trans hk0 C9.2.1
  have CH := CH.trans C9
  have fx115 : Fld Z h67 a67 "com/example/hold/hold/automaton/HoaLexer$Token" "kind" "Lcom/example/hold/hold/automaton/HoaLexer$Kind;" .null := Df67 (Or.inr (hw _ (List.mem_of_getElem? (i := 45) rfl))) (ty := (.object "com/example/hold/hold/automaton/HoaLexer$Kind")) (by decide)
  have fx116 : Fld Z h67 a67 "com/example/hold/hold/automaton/HoaLexer$Token" "text" "Ljava/lang/String;" .null := Df67 (Or.inr (hw _ (List.mem_of_getElem? (i := 47) rfl))) (ty := (.object "java/lang/String")) (by decide)
  have fx117 : Fld Z h67 a67 "com/example/hold/hold/automaton/HoaLexer$Token" "line" "I" (.int (0 : Int32)) := Df67 (Or.inr (hw _ (List.mem_of_getElem? (i := 49) rfl))) (ty := .int) (by decide)
  show Goes p.tables e below (T67.setTop (mkF m 156 #[.val (.int p0), .val (.int p1), .val (.int p2), .val (.int p3), .val (.int k1), .val (.int v1), .val (.int n1), .val (.int v2), .val (.int v3), .val (.int t0), .val (.int t1), .val (.int v4), .val (.int v5), .val (.ref r0), .val (.ref r1), .unset, .unset, .unset] [(.ref a67)])) _
  refine g_dup X67 hx (hb hby at_156) rfl ?_
  show Goes p.tables e below (T67.setTop (mkF m 157 #[.val (.int p0), .val (.int p1), .val (.int p2), .val (.int p3), .val (.int k1), .val (.int v1), .val (.int n1), .val (.int v2), .val (.int v3), .val (.int t0), .val (.int t1), .val (.int v4), .val (.int v5), .val (.ref r0), .val (.ref r1), .unset, .unset, .unset] [(.ref a67), (.ref a67)])) _
  refine g_iload X67 hx (hb hby at_157) rfl ?_
  show Goes p.tables e below (T67.setTop (mkF m 159 #[.val (.int p0), .val (.int p1), .val (.int p2), .val (.int p3), .val (.int k1), .val (.int v1), .val (.int n1), .val (.int v2), .val (.int v3), .val (.int t0), .val (.int t1), .val (.int v4), .val (.int v5), .val (.ref r0), .val (.ref r1), .unset, .unset, .unset] [(.int k1), (.ref a67), (.ref a67)])) _
  refine g_callS X67 hx hZ hown (by rw [hml]; rfl) e67 (hw _ (List.mem_of_getElem? (i := 29) rfl)) (hw _ (List.mem_of_getElem? (i := 30) rfl)) (hw _ (List.mem_of_getElem? (i := 2) rfl)) (hw _ (List.mem_of_getElem? (i := 31) rfl)) (rmKind l Z a0 hw k1 h67 h0.size Z114 b0 fx81 b5 fx96 b3 fx90 b4 fx92 b1 fx83 b6 fx98 b7 fx100 b2 fx87) [(.int k1)] rfl [(.ref a67), (.ref a67)] rfl (lenOf pd_5 rfl) (hb hby at_159) (by decide) 2 (by decide) (by decide) (by first | decide | exact Nat.le_refl _) (by decide) (by decide) (fun v T118 L118 X118 hQ118 => ?_)
  obtain ⟨rfl, e118, rfl⟩ := hQ118
  have N119 := Fr.app N65 (Fr.nil h0.size)
  show Goes p.tables e below (T118.setTop (mkF m 162 #[.val (.int p0), .val (.int p1), .val (.int p2), .val (.int p3), .val (.int k1), .val (.int v1), .val (.int n1), .val (.int v2), .val (.int v3), .val (.int t0), .val (.int t1), .val (.int v4), .val (.int v5), .val (.ref r0), .val (.ref r1), .unset, .unset, .unset] [(.ref (kindA b0 b5 b3 b4 b1 b6 b7 b2 k1)), (.ref a67), (.ref a67)])) _
  refine g_aload X118 hx (hb hby at_162) rfl rfl ?_
  show Goes p.tables e below (T118.setTop (mkF m 164 #[.val (.int p0), .val (.int p1), .val (.int p2), .val (.int p3), .val (.int k1), .val (.int v1), .val (.int n1), .val (.int v2), .val (.int v3), .val (.int t0), .val (.int t1), .val (.int v4), .val (.int v5), .val (.ref r0), .val (.ref r1), .unset, .unset, .unset] [(.ref r0), (.ref (kindA b0 b5 b3 b4 b1 b6 b7 b2 k1)), (.ref a67), (.ref a67)])) _
  refine g_iloadN X118 hx (hb hby at_164) rfl ?_
  show Goes p.tables e below (T118.setTop (mkF m 165 #[.val (.int p0), .val (.int p1), .val (.int p2), .val (.int p3), .val (.int k1), .val (.int v1), .val (.int n1), .val (.int v2), .val (.int v3), .val (.int t0), .val (.int t1), .val (.int v4), .val (.int v5), .val (.ref r0), .val (.ref r1), .unset, .unset, .unset] [(.int p3), (.ref r0), (.ref (kindA b0 b5 b3 b4 b1 b6 b7 b2 k1)), (.ref a67), (.ref a67)])) _
  refine g_callI X118 hx hZ hown (by rw [hml]; rfl) e118 rfl (hw _ (List.mem_of_getElem? (i := 35) rfl)) (hw _ (List.mem_of_getElem? (i := 36) rfl)) (hw _ (List.mem_of_getElem? (i := 28) rfl)) (hw _ (List.mem_of_getElem? (i := 37) rfl)) (rmTok l Z a0 hw a67 (kindA b0 b5 b3 b4 b1 b6 b7 b2 k1) r0 p3 h67 h0.size Z114 fx115 fx116 fx117 Ea67 ge80) a67 [(.ref (kindA b0 b5 b3 b4 b1 b6 b7 b2 k1)), (.ref r0), (.int p3)] rfl [(.ref a67)] rfl (lenOf pd_6 rfl) (hb hby at_165) (by decide) 1 (by decide) (by decide) (by first | decide | exact Nat.le_refl _) (by decide) (by decide) (fun v T120 L120 X120 hQ120 => ?_)
  obtain ⟨rfl, Nt, Kt, ft, fu⟩ := hQ120
  have fx121 : Sta Z T120.heap "com/example/hold/hold/automaton/HoaLexer$Kind" "HEADER" "Lcom/example/hold/hold/automaton/HoaLexer$Kind;" (.ref b0) := own_stakeep fx81 Kt (allS (own_nst Ea67) all0)
  have fx122 : Exa Z T120.heap b0 "com/example/hold/hold/automaton/HoaLexer$Kind" := Exa.keep fx82 Kt
  have fx123 : Sta Z T120.heap "com/example/hold/hold/automaton/HoaLexer$Kind" "ALIAS" "Lcom/example/hold/hold/automaton/HoaLexer$Kind;" (.ref b1) := own_stakeep fx83 Kt (allS (own_nst Ea67) all0)
  have fx124 : Exa Z T120.heap b1 "com/example/hold/hold/automaton/HoaLexer$Kind" := Exa.keep fx84 Kt
  have fx125 : Fld Z T120.heap b1 "java/lang/Enum" "ordinal" "I" (.int (4 : Int32)) := Fld.keep fx85 Kt (ninS ne69 nin0)
  have fx126 : Fld Z T120.heap b0 "java/lang/Enum" "ordinal" "I" (.int (0 : Int32)) := Fld.keep fx86 Kt (ninS ne68 nin0)
  have fx127 : Sta Z T120.heap "com/example/hold/hold/automaton/HoaLexer$Kind" "END_OF_FILE" "Lcom/example/hold/hold/automaton/HoaLexer$Kind;" (.ref b2) := own_stakeep fx87 Kt (allS (own_nst Ea67) all0)
  have fx128 : Exa Z T120.heap b2 "com/example/hold/hold/automaton/HoaLexer$Kind" := Exa.keep fx88 Kt
  have fx129 : Fld Z T120.heap b2 "java/lang/Enum" "ordinal" "I" (.int (7 : Int32)) := Fld.keep fx89 Kt (ninS ne70 nin0)
  have fx130 : Sta Z T120.heap "com/example/hold/hold/automaton/HoaLexer$Kind" "INTEGER" "Lcom/example/hold/hold/automaton/HoaLexer$Kind;" (.ref b3) := own_stakeep fx90 Kt (allS (own_nst Ea67) all0)
  have fx131 : Exa Z T120.heap b3 "com/example/hold/hold/automaton/HoaLexer$Kind" := Exa.keep fx91 Kt
  have fx132 : Sta Z T120.heap "com/example/hold/hold/automaton/HoaLexer$Kind" "STRING" "Lcom/example/hold/hold/automaton/HoaLexer$Kind;" (.ref b4) := own_stakeep fx92 Kt (allS (own_nst Ea67) all0)
  have fx133 : Exa Z T120.heap b4 "com/example/hold/hold/automaton/HoaLexer$Kind" := Exa.keep fx93 Kt
  have fx134 : Fld Z T120.heap b3 "java/lang/Enum" "ordinal" "I" (.int (2 : Int32)) := Fld.keep fx94 Kt (ninS ne71 nin0)
  have fx135 : Fld Z T120.heap b4 "java/lang/Enum" "ordinal" "I" (.int (3 : Int32)) := Fld.keep fx95 Kt (ninS ne72 nin0)
  have fx136 : Sta Z T120.heap "com/example/hold/hold/automaton/HoaLexer$Kind" "IDENTIFIER" "Lcom/example/hold/hold/automaton/HoaLexer$Kind;" (.ref b5) := own_stakeep fx96 Kt (allS (own_nst Ea67) all0)
  have fx137 : Exa Z T120.heap b5 "com/example/hold/hold/automaton/HoaLexer$Kind" := Exa.keep fx97 Kt
  have fx138 : Sta Z T120.heap "com/example/hold/hold/automaton/HoaLexer$Kind" "PUNCTUATION" "Lcom/example/hold/hold/automaton/HoaLexer$Kind;" (.ref b6) := own_stakeep fx98 Kt (allS (own_nst Ea67) all0)
  have fx139 : Exa Z T120.heap b6 "com/example/hold/hold/automaton/HoaLexer$Kind" := Exa.keep fx99 Kt
  have fx140 : Sta Z T120.heap "com/example/hold/hold/automaton/HoaLexer$Kind" "SEPARATOR" "Lcom/example/hold/hold/automaton/HoaLexer$Kind;" (.ref b7) := own_stakeep fx100 Kt (allS (own_nst Ea67) all0)
  have fx141 : Exa Z T120.heap b7 "com/example/hold/hold/automaton/HoaLexer$Kind" := Exa.keep fx101 Kt
  have fx142 : Fld Z T120.heap b6 "java/lang/Enum" "ordinal" "I" (.int (5 : Int32)) := Fld.keep fx102 Kt (ninS ne74 nin0)
  have fx143 : Fld Z T120.heap b7 "java/lang/Enum" "ordinal" "I" (.int (6 : Int32)) := Fld.keep fx103 Kt (ninS ne75 nin0)
  have fx144 : Fld Z T120.heap b5 "java/lang/Enum" "ordinal" "I" (.int (1 : Int32)) := Fld.keep fx104 Kt (ninS ne73 nin0)
  have fx145 : Sta Z T120.heap "java/lang/String" "COMPACT_STRINGS" "Z" (.int cs) := own_stakeep fx105 Kt (allS (own_nst Ea67) all0)
  have fx146 : Exa Z T120.heap r0 "java/lang/String" := Exa.keep fx106 Kt
  have fx147 : Fld Z T120.heap r0 "java/lang/String" "value" "[B" (.ref bb0) := Fld.keep fx107 Kt (ninS ne76 nin0)
  have fx148 : Fld Z T120.heap r0 "java/lang/String" "coder" "B" (.int (0 : Int32)) := Fld.keep fx108 Kt (ninS ne76 nin0)
  have fx149 : Ar Z T120.heap bb0 .byte ((bts n1 t0 t1).map Value.int) := Ar.keep fx109 Kt (ninS ne77 nin0)
  have fx150 : Exa Z T120.heap r1 "java/lang/String" := Exa.keep fx110 Kt
  have fx151 : Fld Z T120.heap r1 "java/lang/String" "value" "[B" (.ref bb1) := Fld.keep fx111 Kt (ninS ne78 nin0)
  have fx152 : Fld Z T120.heap r1 "java/lang/String" "coder" "B" (.int (0 : Int32)) := Fld.keep fx112 Kt (ninS ne78 nin0)
  have fx153 : Ar Z T120.heap bb1 .byte ((bts v3 v4 v5).map Value.int) := Ar.keep fx113 Kt (ninS ne79 nin0)
  have fx154 : Exa Z T120.heap a67 "com/example/hold/hold/automaton/HoaLexer$Token" := Exa.keep Ea67 Kt
  have N155 := Fr.app N119 Nt
  have Z156 : h0.size ≤ T120.heap.size := Nat.le_trans Z114 Kt.1
  have C9 := CHr.keep Kt (allS (Safe.exa hZ.alike Ea67 (by decide) (by decide)) all0) CH.1
  have hk0 := Nat.le_trans hk0 C9.2.1
  have CH := CH.trans C9
  show Goes p.tables e below (T120.setTop (mkF m 168 #[.val (.int p0), .val (.int p1), .val (.int p2), .val (.int p3), .val (.int k1), .val (.int v1), .val (.int n1), .val (.int v2), .val (.int v3), .val (.int t0), .val (.int t1), .val (.int v4), .val (.int v5), .val (.ref r0), .val (.ref r1), .unset, .unset, .unset] [(.ref a67)])) _
  refine g_astore X120 hx (hb hby at_168) rfl (l' := #[.val (.int p0), .val (.int p1), .val (.int p2), .val (.int p3), .val (.int k1), .val (.int v1), .val (.int n1), .val (.int v2), .val (.int v3), .val (.int t0), .val (.int t1), .val (.int v4), .val (.int v5), .val (.ref r0), .val (.ref r1), .val (.ref a67), .unset, .unset]) rfl ?_
  show Goes p.tables e below (T120.setTop (mkF m 170 #[.val (.int p0), .val (.int p1), .val (.int p2), .val (.int p3), .val (.int k1), .val (.int v1), .val (.int n1), .val (.int v2), .val (.int v3), .val (.int t0), .val (.int t1), .val (.int v4), .val (.int v5), .val (.ref r0), .val (.ref r1), .val (.ref a67), .unset, .unset] [])) _
  refine g_aload X120 hx (hb hby at_170) rfl rfl ?_
  show Goes p.tables e below (T120.setTop (mkF m 172 #[.val (.int p0), .val (.int p1), .val (.int p2), .val (.int p3), .val (.int k1), .val (.int v1), .val (.int n1), .val (.int v2), .val (.int v3), .val (.int t0), .val (.int t1), .val (.int v4), .val (.int v5), .val (.ref r0), .val (.ref r1), .val (.ref a67), .unset, .unset] [(.ref a67)])) _
  refine g_iload X120 hx (hb hby at_172) rfl ?_
  show Goes p.tables e below (T120.setTop (mkF m 174 #[.val (.int p0), .val (.int p1), .val (.int p2), .val (.int p3), .val (.int k1), .val (.int v1), .val (.int n1), .val (.int v2), .val (.int v3), .val (.int t0), .val (.int t1), .val (.int v4), .val (.int v5), .val (.ref r0), .val (.ref r1), .val (.ref a67), .unset, .unset] [(.int v1), (.ref a67)])) _
  refine g_callS X120 hx hZ hown (by rw [hml]; rfl) rfl (hw _ (List.mem_of_getElem? (i := 29) rfl)) (hw _ (List.mem_of_getElem? (i := 30) rfl)) (hw _ (List.mem_of_getElem? (i := 2) rfl)) (hw _ (List.mem_of_getElem? (i := 31) rfl)) (rmKind l Z a0 hw v1 T120.heap h0.size Z156 b0 fx121 b5 fx136 b3 fx130 b4 fx132 b1 fx123 b6 fx138 b7 fx140 b2 fx127) [(.int v1)] rfl [(.ref a67)] rfl (lenOf pd_5 rfl) (hb hby at_174) (by decide) 1 (by decide) (by decide) (by first | decide | exact Nat.le_refl _) (by decide) (by decide) (fun v T157 L157 X157 hQ157 => ?_)
  obtain ⟨rfl, e157, rfl⟩ := hQ157
  have N158 := Fr.app N155 (Fr.nil h0.size)
  show Goes p.tables e below (T157.setTop (mkF m 177 #[.val (.int p0), .val (.int p1), .val (.int p2), .val (.int p3), .val (.int k1), .val (.int v1), .val (.int n1), .val (.int v2), .val (.int v3), .val (.int t0), .val (.int t1), .val (.int v4), .val (.int v5), .val (.ref r0), .val (.ref r1), .val (.ref a67), .unset, .unset] [(.ref (kindA b0 b5 b3 b4 b1 b6 b7 b2 v1)), (.ref a67)])) _
  refine g_aload X157 hx (hb hby at_177) rfl rfl ?_
  show Goes p.tables e below (T157.setTop (mkF m 179 #[.val (.int p0), .val (.int p1), .val (.int p2), .val (.int p3), .val (.int k1), .val (.int v1), .val (.int n1), .val (.int v2), .val (.int v3), .val (.int t0), .val (.int t1), .val (.int v4), .val (.int v5), .val (.ref r0), .val (.ref r1), .val (.ref a67), .unset, .unset] [(.ref r1), (.ref (kindA b0 b5 b3 b4 b1 b6 b7 b2 v1)), (.ref a67)])) _
  refine g_callV X157 hx hZ hown (by rw [hml]; rfl) e157 (K := "com/example/hold/hold/automaton/HoaLexer$Token") (hw _ (List.mem_of_getElem? (i := 50) rfl)) (hw _ (List.mem_of_getElem? (i := 51) rfl)) (hw _ (List.mem_of_getElem? (i := 53) rfl)) (hw _ (List.mem_of_getElem? (i := 52) rfl)) (hw _ (List.mem_of_getElem? (i := 28) rfl)) (hw _ (List.mem_of_getElem? (i := 54) rfl)) fx154 (rmIs l Z a0 hw a67 (kindA b0 b5 b3 b4 b1 b6 b7 b2 v1) r1 T120.heap h0.size Z156 (kindA b0 b5 b3 b4 b1 b6 b7 b2 k1) r0 ft fu fx154 bb0 bb1 (bts n1 t0 t1) (bts v3 v4 v5) fx147 fx148 fx146 fx149 fx151 fx152 fx150 fx153 cs hcs fx145 ne35) [(.ref (kindA b0 b5 b3 b4 b1 b6 b7 b2 v1)), (.ref r1)] rfl [] rfl (lenOf pd_8 rfl) (hb hby at_179) (by decide) 0 (by decide) (by decide) (by first | decide | exact Nat.le_refl _) (by decide) (by decide) (fun v T159 L159 X159 hQ159 => ?_)
  obtain ⟨rfl, e159, rfl⟩ := hQ159
  have N160 := Fr.app N158 (Fr.nil h0.size)
  show Goes p.tables e below (T159.setTop (mkF m 182 #[.val (.int p0), .val (.int p1), .val (.int p2), .val (.int p3), .val (.int k1), .val (.int v1), .val (.int n1), .val (.int v2), .val (.int v3), .val (.int t0), .val (.int t1), .val (.int v4), .val (.int v5), .val (.ref r0), .val (.ref r1), .val (.ref a67), .unset, .unset] [(.int (isV (kindA b0 b5 b3 b4 b1 b6 b7 b2 k1) (kindA b0 b5 b3 b4 b1 b6 b7 b2 v1) (bts n1 t0 t1) (bts v3 v4 v5)))])) _
  obtain ⟨got, hgot⟩ : ∃ z : Int32, z = (isV (kindA b0 b5 b3 b4 b1 b6 b7 b2 k1) (kindA b0 b5 b3 b4 b1 b6 b7 b2 v1) (bts n1 t0 t1) (bts v3 v4 v5)) := ⟨_, rfl⟩
  refine g_nameI hgot ?_
  show Goes p.tables e below (T159.setTop (mkF m 182 #[.val (.int p0), .val (.int p1), .val (.int p2), .val (.int p3), .val (.int k1), .val (.int v1), .val (.int n1), .val (.int v2), .val (.int v3), .val (.int t0), .val (.int t1), .val (.int v4), .val (.int v5), .val (.ref r0), .val (.ref r1), .val (.ref a67), .unset, .unset] [(.int got)])) _
  refine g_istore X159 hx (hb hby at_182) (l' := #[.val (.int p0), .val (.int p1), .val (.int p2), .val (.int p3), .val (.int k1), .val (.int v1), .val (.int n1), .val (.int v2), .val (.int v3), .val (.int t0), .val (.int t1), .val (.int v4), .val (.int v5), .val (.ref r0), .val (.ref r1), .val (.ref a67), .val (.int got), .unset]) rfl ?_
  show Goes p.tables e below (T159.setTop (mkF m 184 #[.val (.int p0), .val (.int p1), .val (.int p2), .val (.int p3), .val (.int k1), .val (.int v1), .val (.int n1), .val (.int v2), .val (.int v3), .val (.int t0), .val (.int t1), .val (.int v4), .val (.int v5), .val (.ref r0), .val (.ref r1), .val (.ref a67), .val (.int got), .unset] [])) _
  refine g_iload X159 hx (hb hby at_184) rfl ?_
  show Goes p.tables e below (T159.setTop (mkF m 186 #[.val (.int p0), .val (.int p1), .val (.int p2), .val (.int p3), .val (.int k1), .val (.int v1), .val (.int n1), .val (.int v2), .val (.int v3), .val (.int t0), .val (.int t1), .val (.int v4), .val (.int v5), .val (.ref r0), .val (.ref r1), .val (.ref a67), .val (.int got), .unset] [(.int k1)])) _
  refine g_iload X159 hx (hb hby at_186) rfl ?_
  show Goes p.tables e below (T159.setTop (mkF m 188 #[.val (.int p0), .val (.int p1), .val (.int p2), .val (.int p3), .val (.int k1), .val (.int v1), .val (.int n1), .val (.int v2), .val (.int v3), .val (.int t0), .val (.int t1), .val (.int v4), .val (.int v5), .val (.ref r0), .val (.ref r1), .val (.ref a67), .val (.int got), .unset] [(.int v1), (.int k1)])) _
  obtain ⟨v161, hv161⟩ : ∃ z : Int32, z = (if k1 = v1 then (if n1 = v3 then (if n1 < (1 : Int32) then (if n1 < (2 : Int32) then (1 : Int32) else (if t1 = v5 then (1 : Int32) else (0 : Int32))) else (if t0 = v4 then (if n1 < (2 : Int32) then (1 : Int32) else (if t1 = v5 then (1 : Int32) else (0 : Int32))) else (0 : Int32))) else (0 : Int32)) else (0 : Int32)) := ⟨_, rfl⟩
  refine Goes.join (S' := T159.setTop (mkF m 229 #[.val (.int p0), .val (.int p1), .val (.int p2), .val (.int p3), .val (.int k1), .val (.int v1), .val (.int n1), .val (.int v2), .val (.int v3), .val (.int t0), .val (.int t1), .val (.int v4), .val (.int v5), .val (.ref r0), .val (.ref r1), .val (.ref a67), .val (.int got), .unset] [(.int v161)])) (fun J => ?_) ?_
  · skip
    refine g_icmp_ne X159 hx (hb hby at_188) (by decide) (pc' := 228) (by decide) (fun c188 => ?_) (fun c188 => ?_)
    · skip
      show Goes p.tables e below (T159.setTop (mkF m 228 #[.val (.int p0), .val (.int p1), .val (.int p2), .val (.int p3), .val (.int k1), .val (.int v1), .val (.int n1), .val (.int v2), .val (.int v3), .val (.int t0), .val (.int t1), .val (.int v4), .val (.int v5), .val (.ref r0), .val (.ref r1), .val (.ref a67), .val (.int got), .unset] [])) _
      refine g_iconst X159 hx (0 : Int32) (hb hby at_228) rfl ?_
      rw [show v161 = ((0 : Int32)) from by rw [hv161, if_neg c188]] at J
      exact J
    · skip
      show Goes p.tables e below (T159.setTop (mkF m 191 #[.val (.int p0), .val (.int p1), .val (.int p2), .val (.int p3), .val (.int k1), .val (.int v1), .val (.int n1), .val (.int v2), .val (.int v3), .val (.int t0), .val (.int t1), .val (.int v4), .val (.int v5), .val (.ref r0), .val (.ref r1), .val (.ref a67), .val (.int got), .unset] [])) _
      refine g_iload X159 hx (hb hby at_191) rfl ?_
      show Goes p.tables e below (T159.setTop (mkF m 193 #[.val (.int p0), .val (.int p1), .val (.int p2), .val (.int p3), .val (.int k1), .val (.int v1), .val (.int n1), .val (.int v2), .val (.int v3), .val (.int t0), .val (.int t1), .val (.int v4), .val (.int v5), .val (.ref r0), .val (.ref r1), .val (.ref a67), .val (.int got), .unset] [(.int n1)])) _
      refine g_iload X159 hx (hb hby at_193) rfl ?_
      show Goes p.tables e below (T159.setTop (mkF m 195 #[.val (.int p0), .val (.int p1), .val (.int p2), .val (.int p3), .val (.int k1), .val (.int v1), .val (.int n1), .val (.int v2), .val (.int v3), .val (.int t0), .val (.int t1), .val (.int v4), .val (.int v5), .val (.ref r0), .val (.ref r1), .val (.ref a67), .val (.int got), .unset] [(.int v3), (.int n1)])) _
      refine g_icmp_ne X159 hx (hb hby at_195) (by decide) (pc' := 228) (by decide) (fun c195 => ?_) (fun c195 => ?_)
      · skip
        show Goes p.tables e below (T159.setTop (mkF m 228 #[.val (.int p0), .val (.int p1), .val (.int p2), .val (.int p3), .val (.int k1), .val (.int v1), .val (.int n1), .val (.int v2), .val (.int v3), .val (.int t0), .val (.int t1), .val (.int v4), .val (.int v5), .val (.ref r0), .val (.ref r1), .val (.ref a67), .val (.int got), .unset] [])) _
        refine g_iconst X159 hx (0 : Int32) (hb hby at_228) rfl ?_
        rw [show v161 = ((0 : Int32)) from by rw [hv161, if_pos c188, if_neg c195]] at J
        exact J
      · skip
        show Goes p.tables e below (T159.setTop (mkF m 198 #[.val (.int p0), .val (.int p1), .val (.int p2), .val (.int p3), .val (.int k1), .val (.int v1), .val (.int n1), .val (.int v2), .val (.int v3), .val (.int t0), .val (.int t1), .val (.int v4), .val (.int v5), .val (.ref r0), .val (.ref r1), .val (.ref a67), .val (.int got), .unset] [])) _
        refine g_iload X159 hx (hb hby at_198) rfl ?_
        show Goes p.tables e below (T159.setTop (mkF m 200 #[.val (.int p0), .val (.int p1), .val (.int p2), .val (.int p3), .val (.int k1), .val (.int v1), .val (.int n1), .val (.int v2), .val (.int v3), .val (.int t0), .val (.int t1), .val (.int v4), .val (.int v5), .val (.ref r0), .val (.ref r1), .val (.ref a67), .val (.int got), .unset] [(.int n1)])) _
        refine g_iconst X159 hx (1 : Int32) (hb hby at_200) rfl ?_
        show Goes p.tables e below (T159.setTop (mkF m 201 #[.val (.int p0), .val (.int p1), .val (.int p2), .val (.int p3), .val (.int k1), .val (.int v1), .val (.int n1), .val (.int v2), .val (.int v3), .val (.int t0), .val (.int t1), .val (.int v4), .val (.int v5), .val (.ref r0), .val (.ref r1), .val (.ref a67), .val (.int got), .unset] [(.int (1 : Int32)), (.int n1)])) _
        refine g_icmp_lt X159 hx (hb hby at_201) (by decide) (pc' := 211) (by decide) (fun c201 => ?_) (fun c201 => ?_)
        · skip
          show Goes p.tables e below (T159.setTop (mkF m 211 #[.val (.int p0), .val (.int p1), .val (.int p2), .val (.int p3), .val (.int k1), .val (.int v1), .val (.int n1), .val (.int v2), .val (.int v3), .val (.int t0), .val (.int t1), .val (.int v4), .val (.int v5), .val (.ref r0), .val (.ref r1), .val (.ref a67), .val (.int got), .unset] [])) _
          refine g_iload X159 hx (hb hby at_211) rfl ?_
          show Goes p.tables e below (T159.setTop (mkF m 213 #[.val (.int p0), .val (.int p1), .val (.int p2), .val (.int p3), .val (.int k1), .val (.int v1), .val (.int n1), .val (.int v2), .val (.int v3), .val (.int t0), .val (.int t1), .val (.int v4), .val (.int v5), .val (.ref r0), .val (.ref r1), .val (.ref a67), .val (.int got), .unset] [(.int n1)])) _
          refine g_iconst X159 hx (2 : Int32) (hb hby at_213) rfl ?_
          show Goes p.tables e below (T159.setTop (mkF m 214 #[.val (.int p0), .val (.int p1), .val (.int p2), .val (.int p3), .val (.int k1), .val (.int v1), .val (.int n1), .val (.int v2), .val (.int v3), .val (.int t0), .val (.int t1), .val (.int v4), .val (.int v5), .val (.ref r0), .val (.ref r1), .val (.ref a67), .val (.int got), .unset] [(.int (2 : Int32)), (.int n1)])) _
          refine g_icmp_lt X159 hx (hb hby at_214) (by decide) (pc' := 224) (by decide) (fun c214 => ?_) (fun c214 => ?_)
          · skip
            show Goes p.tables e below (T159.setTop (mkF m 224 #[.val (.int p0), .val (.int p1), .val (.int p2), .val (.int p3), .val (.int k1), .val (.int v1), .val (.int n1), .val (.int v2), .val (.int v3), .val (.int t0), .val (.int t1), .val (.int v4), .val (.int v5), .val (.ref r0), .val (.ref r1), .val (.ref a67), .val (.int got), .unset] [])) _
            refine g_iconst X159 hx (1 : Int32) (hb hby at_224) rfl ?_
            show Goes p.tables e below (T159.setTop (mkF m 225 #[.val (.int p0), .val (.int p1), .val (.int p2), .val (.int p3), .val (.int k1), .val (.int v1), .val (.int n1), .val (.int v2), .val (.int v3), .val (.int t0), .val (.int t1), .val (.int v4), .val (.int v5), .val (.ref r0), .val (.ref r1), .val (.ref a67), .val (.int got), .unset] [(.int (1 : Int32))])) _
            refine g_goto X159 hx (hb hby at_225) (by decide) (pc' := 229) (by decide) ?_
            rw [show v161 = ((1 : Int32)) from by rw [hv161, if_pos c188, if_pos c195, if_pos c201, if_pos c214]] at J
            exact J
          · skip
            show Goes p.tables e below (T159.setTop (mkF m 217 #[.val (.int p0), .val (.int p1), .val (.int p2), .val (.int p3), .val (.int k1), .val (.int v1), .val (.int n1), .val (.int v2), .val (.int v3), .val (.int t0), .val (.int t1), .val (.int v4), .val (.int v5), .val (.ref r0), .val (.ref r1), .val (.ref a67), .val (.int got), .unset] [])) _
            refine g_iload X159 hx (hb hby at_217) rfl ?_
            show Goes p.tables e below (T159.setTop (mkF m 219 #[.val (.int p0), .val (.int p1), .val (.int p2), .val (.int p3), .val (.int k1), .val (.int v1), .val (.int n1), .val (.int v2), .val (.int v3), .val (.int t0), .val (.int t1), .val (.int v4), .val (.int v5), .val (.ref r0), .val (.ref r1), .val (.ref a67), .val (.int got), .unset] [(.int t1)])) _
            refine g_iload X159 hx (hb hby at_219) rfl ?_
            show Goes p.tables e below (T159.setTop (mkF m 221 #[.val (.int p0), .val (.int p1), .val (.int p2), .val (.int p3), .val (.int k1), .val (.int v1), .val (.int n1), .val (.int v2), .val (.int v3), .val (.int t0), .val (.int t1), .val (.int v4), .val (.int v5), .val (.ref r0), .val (.ref r1), .val (.ref a67), .val (.int got), .unset] [(.int v5), (.int t1)])) _
            refine g_icmp_ne X159 hx (hb hby at_221) (by decide) (pc' := 228) (by decide) (fun c221 => ?_) (fun c221 => ?_)
            · skip
              show Goes p.tables e below (T159.setTop (mkF m 228 #[.val (.int p0), .val (.int p1), .val (.int p2), .val (.int p3), .val (.int k1), .val (.int v1), .val (.int n1), .val (.int v2), .val (.int v3), .val (.int t0), .val (.int t1), .val (.int v4), .val (.int v5), .val (.ref r0), .val (.ref r1), .val (.ref a67), .val (.int got), .unset] [])) _
              refine g_iconst X159 hx (0 : Int32) (hb hby at_228) rfl ?_
              rw [show v161 = ((0 : Int32)) from by rw [hv161, if_pos c188, if_pos c195, if_pos c201, if_neg c214, if_neg c221]] at J
              exact J
            · skip
              show Goes p.tables e below (T159.setTop (mkF m 224 #[.val (.int p0), .val (.int p1), .val (.int p2), .val (.int p3), .val (.int k1), .val (.int v1), .val (.int n1), .val (.int v2), .val (.int v3), .val (.int t0), .val (.int t1), .val (.int v4), .val (.int v5), .val (.ref r0), .val (.ref r1), .val (.ref a67), .val (.int got), .unset] [])) _
              refine g_iconst X159 hx (1 : Int32) (hb hby at_224) rfl ?_
              show Goes p.tables e below (T159.setTop (mkF m 225 #[.val (.int p0), .val (.int p1), .val (.int p2), .val (.int p3), .val (.int k1), .val (.int v1), .val (.int n1), .val (.int v2), .val (.int v3), .val (.int t0), .val (.int t1), .val (.int v4), .val (.int v5), .val (.ref r0), .val (.ref r1), .val (.ref a67), .val (.int got), .unset] [(.int (1 : Int32))])) _
              refine g_goto X159 hx (hb hby at_225) (by decide) (pc' := 229) (by decide) ?_
              rw [show v161 = ((1 : Int32)) from by rw [hv161, if_pos c188, if_pos c195, if_pos c201, if_neg c214, if_pos c221]] at J
              exact J
        · skip
          show Goes p.tables e below (T159.setTop (mkF m 204 #[.val (.int p0), .val (.int p1), .val (.int p2), .val (.int p3), .val (.int k1), .val (.int v1), .val (.int n1), .val (.int v2), .val (.int v3), .val (.int t0), .val (.int t1), .val (.int v4), .val (.int v5), .val (.ref r0), .val (.ref r1), .val (.ref a67), .val (.int got), .unset] [])) _
          refine g_iload X159 hx (hb hby at_204) rfl ?_
          show Goes p.tables e below (T159.setTop (mkF m 206 #[.val (.int p0), .val (.int p1), .val (.int p2), .val (.int p3), .val (.int k1), .val (.int v1), .val (.int n1), .val (.int v2), .val (.int v3), .val (.int t0), .val (.int t1), .val (.int v4), .val (.int v5), .val (.ref r0), .val (.ref r1), .val (.ref a67), .val (.int got), .unset] [(.int t0)])) _
          refine g_iload X159 hx (hb hby at_206) rfl ?_
          show Goes p.tables e below (T159.setTop (mkF m 208 #[.val (.int p0), .val (.int p1), .val (.int p2), .val (.int p3), .val (.int k1), .val (.int v1), .val (.int n1), .val (.int v2), .val (.int v3), .val (.int t0), .val (.int t1), .val (.int v4), .val (.int v5), .val (.ref r0), .val (.ref r1), .val (.ref a67), .val (.int got), .unset] [(.int v4), (.int t0)])) _
          refine g_icmp_ne X159 hx (hb hby at_208) (by decide) (pc' := 228) (by decide) (fun c208 => ?_) (fun c208 => ?_)
          · skip
            show Goes p.tables e below (T159.setTop (mkF m 228 #[.val (.int p0), .val (.int p1), .val (.int p2), .val (.int p3), .val (.int k1), .val (.int v1), .val (.int n1), .val (.int v2), .val (.int v3), .val (.int t0), .val (.int t1), .val (.int v4), .val (.int v5), .val (.ref r0), .val (.ref r1), .val (.ref a67), .val (.int got), .unset] [])) _
            refine g_iconst X159 hx (0 : Int32) (hb hby at_228) rfl ?_
            rw [show v161 = ((0 : Int32)) from by rw [hv161, if_pos c188, if_pos c195, if_neg c201, if_neg c208]] at J
            exact J
          · skip
            show Goes p.tables e below (T159.setTop (mkF m 211 #[.val (.int p0), .val (.int p1), .val (.int p2), .val (.int p3), .val (.int k1), .val (.int v1), .val (.int n1), .val (.int v2), .val (.int v3), .val (.int t0), .val (.int t1), .val (.int v4), .val (.int v5), .val (.ref r0), .val (.ref r1), .val (.ref a67), .val (.int got), .unset] [])) _
            refine g_iload X159 hx (hb hby at_211) rfl ?_
            show Goes p.tables e below (T159.setTop (mkF m 213 #[.val (.int p0), .val (.int p1), .val (.int p2), .val (.int p3), .val (.int k1), .val (.int v1), .val (.int n1), .val (.int v2), .val (.int v3), .val (.int t0), .val (.int t1), .val (.int v4), .val (.int v5), .val (.ref r0), .val (.ref r1), .val (.ref a67), .val (.int got), .unset] [(.int n1)])) _
            refine g_iconst X159 hx (2 : Int32) (hb hby at_213) rfl ?_
            show Goes p.tables e below (T159.setTop (mkF m 214 #[.val (.int p0), .val (.int p1), .val (.int p2), .val (.int p3), .val (.int k1), .val (.int v1), .val (.int n1), .val (.int v2), .val (.int v3), .val (.int t0), .val (.int t1), .val (.int v4), .val (.int v5), .val (.ref r0), .val (.ref r1), .val (.ref a67), .val (.int got), .unset] [(.int (2 : Int32)), (.int n1)])) _
            refine g_icmp_lt X159 hx (hb hby at_214) (by decide) (pc' := 224) (by decide) (fun c214 => ?_) (fun c214 => ?_)
            · skip
              show Goes p.tables e below (T159.setTop (mkF m 224 #[.val (.int p0), .val (.int p1), .val (.int p2), .val (.int p3), .val (.int k1), .val (.int v1), .val (.int n1), .val (.int v2), .val (.int v3), .val (.int t0), .val (.int t1), .val (.int v4), .val (.int v5), .val (.ref r0), .val (.ref r1), .val (.ref a67), .val (.int got), .unset] [])) _
              refine g_iconst X159 hx (1 : Int32) (hb hby at_224) rfl ?_
              show Goes p.tables e below (T159.setTop (mkF m 225 #[.val (.int p0), .val (.int p1), .val (.int p2), .val (.int p3), .val (.int k1), .val (.int v1), .val (.int n1), .val (.int v2), .val (.int v3), .val (.int t0), .val (.int t1), .val (.int v4), .val (.int v5), .val (.ref r0), .val (.ref r1), .val (.ref a67), .val (.int got), .unset] [(.int (1 : Int32))])) _
              refine g_goto X159 hx (hb hby at_225) (by decide) (pc' := 229) (by decide) ?_
              rw [show v161 = ((1 : Int32)) from by rw [hv161, if_pos c188, if_pos c195, if_neg c201, if_pos c208, if_pos c214]] at J
              exact J
            · skip
              show Goes p.tables e below (T159.setTop (mkF m 217 #[.val (.int p0), .val (.int p1), .val (.int p2), .val (.int p3), .val (.int k1), .val (.int v1), .val (.int n1), .val (.int v2), .val (.int v3), .val (.int t0), .val (.int t1), .val (.int v4), .val (.int v5), .val (.ref r0), .val (.ref r1), .val (.ref a67), .val (.int got), .unset] [])) _
              refine g_iload X159 hx (hb hby at_217) rfl ?_
              show Goes p.tables e below (T159.setTop (mkF m 219 #[.val (.int p0), .val (.int p1), .val (.int p2), .val (.int p3), .val (.int k1), .val (.int v1), .val (.int n1), .val (.int v2), .val (.int v3), .val (.int t0), .val (.int t1), .val (.int v4), .val (.int v5), .val (.ref r0), .val (.ref r1), .val (.ref a67), .val (.int got), .unset] [(.int t1)])) _
              refine g_iload X159 hx (hb hby at_219) rfl ?_
              show Goes p.tables e below (T159.setTop (mkF m 221 #[.val (.int p0), .val (.int p1), .val (.int p2), .val (.int p3), .val (.int k1), .val (.int v1), .val (.int n1), .val (.int v2), .val (.int v3), .val (.int t0), .val (.int t1), .val (.int v4), .val (.int v5), .val (.ref r0), .val (.ref r1), .val (.ref a67), .val (.int got), .unset] [(.int v5), (.int t1)])) _
              refine g_icmp_ne X159 hx (hb hby at_221) (by decide) (pc' := 228) (by decide) (fun c221 => ?_) (fun c221 => ?_)
              · skip
                show Goes p.tables e below (T159.setTop (mkF m 228 #[.val (.int p0), .val (.int p1), .val (.int p2), .val (.int p3), .val (.int k1), .val (.int v1), .val (.int n1), .val (.int v2), .val (.int v3), .val (.int t0), .val (.int t1), .val (.int v4), .val (.int v5), .val (.ref r0), .val (.ref r1), .val (.ref a67), .val (.int got), .unset] [])) _
                refine g_iconst X159 hx (0 : Int32) (hb hby at_228) rfl ?_
                rw [show v161 = ((0 : Int32)) from by rw [hv161, if_pos c188, if_pos c195, if_neg c201, if_pos c208, if_neg c214, if_neg c221]] at J
                exact J
              · skip
                show Goes p.tables e below (T159.setTop (mkF m 224 #[.val (.int p0), .val (.int p1), .val (.int p2), .val (.int p3), .val (.int k1), .val (.int v1), .val (.int n1), .val (.int v2), .val (.int v3), .val (.int t0), .val (.int t1), .val (.int v4), .val (.int v5), .val (.ref r0), .val (.ref r1), .val (.ref a67), .val (.int got), .unset] [])) _
                refine g_iconst X159 hx (1 : Int32) (hb hby at_224) rfl ?_
                show Goes p.tables e below (T159.setTop (mkF m 225 #[.val (.int p0), .val (.int p1), .val (.int p2), .val (.int p3), .val (.int k1), .val (.int v1), .val (.int n1), .val (.int v2), .val (.int v3), .val (.int t0), .val (.int t1), .val (.int v4), .val (.int v5), .val (.ref r0), .val (.ref r1), .val (.ref a67), .val (.int got), .unset] [(.int (1 : Int32))])) _
                refine g_goto X159 hx (hb hby at_225) (by decide) (pc' := 229) (by decide) ?_
                rw [show v161 = ((1 : Int32)) from by rw [hv161, if_pos c188, if_pos c195, if_neg c201, if_pos c208, if_neg c214, if_pos c221]] at J
                exact J
  refine g_istore X159 hx (hb hby at_229) (l' := #[.val (.int p0), .val (.int p1), .val (.int p2), .val (.int p3), .val (.int k1), .val (.int v1), .val (.int n1), .val (.int v2), .val (.int v3), .val (.int t0), .val (.int t1), .val (.int v4), .val (.int v5), .val (.ref r0), .val (.ref r1), .val (.ref a67), .val (.int got), .val (.int v161)]) rfl ?_
  show Goes p.tables e below (T159.setTop (mkF m 231 #[.val (.int p0), .val (.int p1), .val (.int p2), .val (.int p3), .val (.int k1), .val (.int v1), .val (.int n1), .val (.int v2), .val (.int v3), .val (.int t0), .val (.int t1), .val (.int v4), .val (.int v5), .val (.ref r0), .val (.ref r1), .val (.ref a67), .val (.int got), .val (.int v161)] [])) _
  refine g_iload X159 hx (hb hby at_231) rfl ?_
  show Goes p.tables e below (T159.setTop (mkF m 233 #[.val (.int p0), .val (.int p1), .val (.int p2), .val (.int p3), .val (.int k1), .val (.int v1), .val (.int n1), .val (.int v2), .val (.int v3), .val (.int t0), .val (.int t1), .val (.int v4), .val (.int v5), .val (.ref r0), .val (.ref r1), .val (.ref a67), .val (.int got), .val (.int v161)] [(.int got)])) _
  refine g_iload X159 hx (hb hby at_233) rfl ?_
  show Goes p.tables e below (T159.setTop (mkF m 235 #[.val (.int p0), .val (.int p1), .val (.int p2), .val (.int p3), .val (.int k1), .val (.int v1), .val (.int n1), .val (.int v2), .val (.int v3), .val (.int t0), .val (.int t1), .val (.int v4), .val (.int v5), .val (.ref r0), .val (.ref r1), .val (.ref a67), .val (.int got), .val (.int v161)] [(.int v161), (.int got)])) _
  have c235 : got = v161 := (by rw [hgot, hv161]; exact fin_law (kindA_inj fx126 fx144 fx134 fx135 fx125 fx142 fx143 fx129 hk1' hk2') hn1' hn2' lt0 lt1 lv4 lv5)
  refine g_icmp_ne X159 hx (hb hby at_235) (by decide) (pc' := 242) (by decide) (fun q => absurd c235 q) (fun _ => ?_)
  show Goes p.tables e below (T159.setTop (mkF m 238 #[.val (.int p0), .val (.int p1), .val (.int p2), .val (.int p3), .val (.int k1), .val (.int v1), .val (.int n1), .val (.int v2), .val (.int v3), .val (.int t0), .val (.int t1), .val (.int v4), .val (.int v5), .val (.ref r0), .val (.ref r1), .val (.ref a67), .val (.int got), .val (.int v161)] [])) _
  refine g_iconst X159 hx (1 : Int32) (hb hby at_238) rfl ?_
  show Goes p.tables e below (T159.setTop (mkF m 239 #[.val (.int p0), .val (.int p1), .val (.int p2), .val (.int p3), .val (.int k1), .val (.int v1), .val (.int n1), .val (.int v2), .val (.int v3), .val (.int t0), .val (.int t1), .val (.int v4), .val (.int v5), .val (.ref r0), .val (.ref r1), .val (.ref a67), .val (.int got), .val (.int v161)] [(.int (1 : Int32))])) _
  refine g_goto X159 hx (hb hby at_239) (by decide) (pc' := 243) (by decide) ?_
  show Goes p.tables e below (T159.setTop (mkF m 243 #[.val (.int p0), .val (.int p1), .val (.int p2), .val (.int p3), .val (.int k1), .val (.int v1), .val (.int n1), .val (.int v2), .val (.int v3), .val (.int t0), .val (.int t1), .val (.int v4), .val (.int v5), .val (.ref r0), .val (.ref r1), .val (.ref a67), .val (.int got), .val (.int v161)] [(.int (1 : Int32))])) _
  exact g_retHZ X159 hx hZ hEL hS (by rw [e159]; exact hk0) (by rw [e159]; exact CH) (hz := (by decide)) hret hlk (hb hby at_243) (by decide) (by decide) ⟨rfl, N160⟩
set_option maxRecDepth 65536 in
set_option maxHeartbeats 40000000 in
theorem comes_1 {Post : Tables → Env → Array Value → State → Outcome → State → Prop} (hpost : ∀ tb e args s v u, (limb_1_1.after args s (.returned v) u = true ∧ limb_1_2.after args s (.returned v) u = true ∧ True) → ReturnedEndW s (.returned v) u (Jvm.fieldLocs frame_1_writes args s ++ Jvm.arrayLocs frame_1_arrays args s ++ Jvm.staticLocs frame_1_statics s) 24 1152 → Post tb e args s (.returned v) u) :
    ArmFor flags0 classFile x code maxLocals ret World_1 tables_1 room_1 Calls_1 rest_1 Pre_1 Post := by
  intro l hfl _ _ p e ha hc hk s m args below hf hA hF happ hP
  obtain ⟨hcalls, hrest, hpre⟩ := hP
  obtain ⟨-, -, -, hnamed, -, -, -, hat⟩ := (Spec.applies_iff hf).mp happ
  obtain ⟨hg, hn⟩ := and_e (Cond.before_iff.mp (show (Jvm.Cond.and given_1 narrow_1).before args s = true from hpre))
  obtain ⟨h1, hg1⟩ := and_e hg
  obtain ⟨w0, w1, w2, w3, rfl⟩ : ∃ w0 w1 w2 w3 : Value, args = #[w0, w1, w2, w3] := by
    have hs : args.size = 4 := by simpa [Cond.value, given_1] using h1
    obtain ⟨L⟩ := args
    match L, hs with
    | [w0, w1, w2, w3], _ => exact ⟨w0, w1, w2, w3, rfl⟩
  have hw := fun d (hd : d ∈ tables_1) => atoms_spec (ws := Jvm.Cond.code x code maxLocals ret :: tables_1) hat d (List.mem_cons_of_mem _ hd)
  obtain ⟨ha0, hg2⟩ := and_e hg1
  obtain ⟨i0, ei0⟩ := is_v ha0
  obtain rfl : w0 = (.int i0) := Option.some.inj ei0
  obtain ⟨ha1, hg3⟩ := and_e hg2
  obtain ⟨i1, ei1⟩ := is_v ha1
  obtain rfl : w1 = (.int i1) := Option.some.inj ei1
  obtain ⟨ha2, hg4⟩ := and_e hg3
  obtain ⟨i2, ei2⟩ := is_v ha2
  obtain rfl : w2 = (.int i2) := Option.some.inj ei2
  obtain ⟨i3, ei3⟩ := is_v hg4
  obtain rfl : w3 = (.int i3) := Option.some.inj ei3
  obtain ⟨n0, hn0⟩ := and_e hn
  obtain ⟨b0, eb0⟩ := exa_v n0
  have Sb0 := Sta.start eb0 (Or.inr ⟨(hw _ (List.mem_of_getElem? (i := 33) rfl)), (hw _ (List.mem_of_getElem? (i := 34) rfl))⟩)
  have Eb0 := Exa.start eb0 n0
  obtain ⟨n1, hn1⟩ := and_e hn0
  obtain ⟨b1, eb1⟩ := exa_v n1
  have Sb1 := Sta.start eb1 (Or.inr ⟨(hw _ (List.mem_of_getElem? (i := 33) rfl)), (hw _ (List.mem_of_getElem? (i := 67) rfl))⟩)
  have Eb1 := Exa.start eb1 n1
  obtain ⟨n2, hn2⟩ := and_e hn1
  have F2 := Fld.start ((fld_at eb1).symm.trans (own_eqI n2 (Term.int_eval (4 : Int32))))
  obtain ⟨n3, hn3⟩ := and_e hn2
  have F3 := Fld.start ((fld_at eb0).symm.trans (own_eqI n3 (Term.int_eval (0 : Int32))))
  obtain ⟨n4, hn4⟩ := and_e hn3
  obtain ⟨b2, eb2⟩ := exa_v n4
  have Sb2 := Sta.start eb2 (Or.inr ⟨(hw _ (List.mem_of_getElem? (i := 33) rfl)), (hw _ (List.mem_of_getElem? (i := 69) rfl))⟩)
  have Eb2 := Exa.start eb2 n4
  obtain ⟨n5, hn5⟩ := and_e hn4
  have F5 := Fld.start ((fld_at eb2).symm.trans (own_eqI n5 (Term.int_eval (7 : Int32))))
  obtain ⟨n6, hn6⟩ := and_e hn5
  obtain ⟨b3, eb3⟩ := exa_v n6
  have Sb3 := Sta.start eb3 (Or.inr ⟨(hw _ (List.mem_of_getElem? (i := 33) rfl)), (hw _ (List.mem_of_getElem? (i := 81) rfl))⟩)
  have Eb3 := Exa.start eb3 n6
  obtain ⟨n7, hn7⟩ := and_e hn6
  obtain ⟨b4, eb4⟩ := exa_v n7
  have Sb4 := Sta.start eb4 (Or.inr ⟨(hw _ (List.mem_of_getElem? (i := 33) rfl)), (hw _ (List.mem_of_getElem? (i := 83) rfl))⟩)
  have Eb4 := Exa.start eb4 n7
  obtain ⟨n8, hn8⟩ := and_e hn7
  have F8 := Fld.start ((fld_at eb3).symm.trans (own_eqI n8 (Term.int_eval (2 : Int32))))
  obtain ⟨n9, hn9⟩ := and_e hn8
  have F9 := Fld.start ((fld_at eb4).symm.trans (own_eqI n9 (Term.int_eval (3 : Int32))))
  obtain ⟨n10, hn10⟩ := and_e hn9
  obtain ⟨b5, eb5⟩ := exa_v n10
  have Sb5 := Sta.start eb5 (Or.inr ⟨(hw _ (List.mem_of_getElem? (i := 33) rfl)), (hw _ (List.mem_of_getElem? (i := 85) rfl))⟩)
  have Eb5 := Exa.start eb5 n10
  obtain ⟨n11, hn11⟩ := and_e hn10
  obtain ⟨b6, eb6⟩ := exa_v n11
  have Sb6 := Sta.start eb6 (Or.inr ⟨(hw _ (List.mem_of_getElem? (i := 33) rfl)), (hw _ (List.mem_of_getElem? (i := 87) rfl))⟩)
  have Eb6 := Exa.start eb6 n11
  obtain ⟨n12, hn12⟩ := and_e hn11
  obtain ⟨b7, eb7⟩ := exa_v n12
  have Sb7 := Sta.start eb7 (Or.inr ⟨(hw _ (List.mem_of_getElem? (i := 33) rfl)), (hw _ (List.mem_of_getElem? (i := 89) rfl))⟩)
  have Eb7 := Exa.start eb7 n12
  obtain ⟨n13, hn13⟩ := and_e hn12
  have F13 := Fld.start ((fld_at eb6).symm.trans (own_eqI n13 (Term.int_eval (5 : Int32))))
  obtain ⟨n14, hn14⟩ := and_e hn13
  have F14 := Fld.start ((fld_at eb7).symm.trans (own_eqI n14 (Term.int_eval (6 : Int32))))
  have F15 := Fld.start ((fld_at eb5).symm.trans (own_eqI hn14 (Term.int_eval (1 : Int32))))
  obtain ⟨r0, hr0⟩ := and_e (Cond.before_iff.mp (show rest_1_c.before _ s = true from hrest))
  obtain ⟨r1, hr1⟩ := and_e hr0
  obtain ⟨r2, hr2⟩ := and_e hr1
  obtain ⟨cs, ecs⟩ := is_v r1
  have hcs : ¬ cs = 0 := fun q => by
    have z := not_v r2
    rw [eq_i ecs (Term.int_eval 0) (by rw [q])] at z
    simp at z
  have SC := Sta.start ecs (Or.inl (Cond.before_iff.mpr r0))
  have CH0 : CHv s EL1 s.vm s.heap := CHv.start (el_1 hw) (fun p hp => hcalls.1 p hp) (Cond.before_iff.mpr r2) (hw _ (List.mem_of_getElem? (i := 19) rfl)) (hw _ (List.mem_of_getElem? (i := 5) rfl))
  obtain ⟨n, o, h1, h2, h3, _, L, rfl, ⟨rfl, N⟩, -, hq⟩ := law l s _ hw tables_1 i0 i1 i2 i3 s.heap b0 Sb0 Eb0 b1 Sb1 Eb1 F2 F3 b2 Sb2 Eb2 F5 b3 Sb3 Eb3 b4 Sb4 Eb4 F8 F9 b5 Sb5 Eb5 b6 Sb6 Eb6 b7 Sb7 Eb7 F13 F14 F15 cs hcs SC p e ha hc hk s m _ below hf ((Spec.applies_iff_loose hf).mp happ).1 ⟨rfl, State.Warmed39.refl s, rfl, CH0⟩ trivial
  refine ⟨n, _, h1, h2, h3, hpost _ _ _ _ _ _ ⟨Cond.after_iff.mpr rfl, Cond.after_iff.mpr (eq_i res_at (Term.int_eval (1)) rfl), trivial⟩ ⟨hq.1, hq.2.1, hq.2.2.1, (hq.2.2.2.sift fun y hy => Or.inr (N y hy)).mono (by decide) (by decide)⟩⟩
theorem main_1_1 : Claimed_1_1 := comes_1 fun _ _ _ _ _ _ h hF => ⟨h.1, hF⟩
theorem main_1_2 : Claimed_1_2 := comes_1 fun _ _ _ _ _ _ h hF => ⟨h.2.1, hF⟩
end Jvm.Pilot.@@N@@
namespace Jvm.Pilot.@@N@@
open Jvm Jvm.ClassFile Sem Op Lib Jvm.Free Jvm.Stand Jvm.Pilot.@@N@@.Jvm.D
/-! MADE BY PROGRAM (witnessworld.py) out of the Statement's table words and the real class files: 23 classes; the members and pool entries that the words name. The judged class is class 1, her method 3. -/
namespace start1
open Jvm.ClassFile
def u (s : String) : CpInfo := .utf8 (stringToUtf16 s)
/-- a pool by its gaps: so many unusable entries, then the entry; so many at the end -/
def gap : Nat → List CpInfo → List CpInfo
  | 0, r => r
  | n + 1, r => .unusable :: gap n r
def poolList (es : List (Nat × CpInfo)) (last : Nat) : List CpInfo := es.foldr (fun e r => gap e.1 (e.2 :: r)) (gap last [])
def pool (es : List (Nat × CpInfo)) (last : Nat) : Array CpInfo := ⟨poolList es last⟩
def fileOf (pool : Array CpInfo) (this : Nat) (attrs : Array Attribute := #[]) (ms : Array MethodInfo := #[]) (fl : Nat := 33) (sup : Nat := 0) (ifs : Array Nat := #[]) (fds : Array FieldInfo := #[]) : ClassFile where
  minorVersion := 0
  majorVersion := 65
  constantPool := pool
  accessFlags := fl
  thisClass := this
  superClass := sup
  interfaces := ifs
  fields := fds
  methods := ms
  attributes := attrs
def plain (name : String) (sup : Option ClassId) : Class where
  name := name
  kind := .ordinary
  loader := none
  accessFlags := 33
  super := sup
  interfaces := #[]
  cf := none
  fields := #[]
  methods := #[]
  instanceTypes := #[]
  staticTypes := #[]
  resolved := #[]
  callSites := []
  init := .initialized
  statics := none
  mirror := none

def pool0 : Array CpInfo := pool [(5, u "<init>"), (0, u "()V"), (1, .class_ 10), (1, u "java/lang/Object")] 113

def k0c0 : Code := { maxStack := 0, maxLocals := 1, code := object_method_1_code, exceptionTable := #[], attributes := #[] }
def k0m0 : Method := { name := "<init>", desc := "()V", sig := { parameters := [], returnType := none }, accessFlags := 1, code := some k0c0 }
/-- java/lang/Object -/
def k0 : Class := { plain "java/lang/Object" none with
  accessFlags := 33
  interfaces := #[]
  cf := some (fileOf pool0 8 #[] #[{ accessFlags := 1, nameIndex := 5, descriptorIndex := 6, attributes := #[] }] 33 0 #[] #[])
  fields := #[]
  methods := #[k0m0]
  instanceTypes := #[]
  staticTypes := #[]
  resolved := Array.replicate 124 none
  statics := none }

def pool1 : Array CpInfo := pool [(2, .class_ 4), (1, u "java/lang/Object"), (0, u "<init>"), (0, u "()V"), (0, .fieldref 8 9), (0, .class_ 10), (0, .nameAndType 11 12), (0, u "com/example/hold/hold/automaton/HoaLexer$Kind"), (0, u "HEADER"), (0, u "Lcom/example/hold/hold/automaton/HoaLexer$Kind;"), (0, .fieldref 8 14), (0, .nameAndType 15 12), (0, u "IDENTIFIER"), (0, .fieldref 8 17), (0, .nameAndType 18 12), (0, u "INTEGER"), (0, .fieldref 8 20), (0, .nameAndType 21 12), (0, u "STRING"), (0, .fieldref 8 23), (0, .nameAndType 24 12), (0, u "ALIAS"), (0, .fieldref 8 26), (0, .nameAndType 27 12), (0, u "PUNCTUATION"), (0, .fieldref 8 29), (0, .nameAndType 30 12), (0, u "SEPARATOR"), (0, .fieldref 8 32), (0, .nameAndType 33 12), (0, u "END_OF_FILE"), (0, .class_ 35), (0, u "java/lang/String"), (0, .methodref 34 37), (0, .nameAndType 5 38), (0, u "([C)V"), (0, .methodref 40 41), (0, .class_ 42), (0, .nameAndType 43 44), (0, u "com/example/hold/hold/automaton/TokenIsPinLaw"), (0, u "make"), (0, u "(ICC)Ljava/lang/String;"), (0, .class_ 46), (0, u "com/example/hold/hold/automaton/HoaLexer$Token"), (0, .methodref 40 48), (0, .nameAndType 49 50), (0, u "kind"), (0, u "(I)Lcom/example/hold/hold/automaton/HoaLexer$Kind;"), (0, .methodref 45 52), (0, .nameAndType 5 53), (0, u "(Lcom/example/hold/hold/automaton/HoaLexer$Kind;Ljava/lang/String;I)V"), (0, .methodref 45 55), (0, .nameAndType 56 57), (0, u "is"), (0, u "(Lcom/example/hold/hold/automaton/HoaLexer$Kind;Ljava/lang/String;)Z"), (3, u "law"), (0, u "(IIII)Z")] 7

def k1m0 : Method := { name := "<init>", desc := "()V", sig := { parameters := [], returnType := none }, accessFlags := 2, code := none }
def k1c1 : Code := { maxStack := 2, maxLocals := 1, code := method_2_code, exceptionTable := #[], attributes := #[] }
def k1m1 : Method := { name := "kind", desc := "(I)Lcom/example/hold/hold/automaton/HoaLexer$Kind;", sig := { parameters := [.int], returnType := some (.object "com/example/hold/hold/automaton/HoaLexer$Kind") }, accessFlags := 10, code := some k1c1 }
def k1c2 : Code := { maxStack := 3, maxLocals := 4, code := method_3_code, exceptionTable := #[], attributes := #[] }
def k1m2 : Method := { name := "make", desc := "(ICC)Ljava/lang/String;", sig := { parameters := [.int, .char, .char], returnType := some (.object "java/lang/String") }, accessFlags := 10, code := some k1c2 }
def k1c3 : Code := { maxStack := 5, maxLocals := 18, code := code, exceptionTable := #[], attributes := #[] }
def k1m3 : Method := { name := "law", desc := "(IIII)Z", sig := { parameters := [.int, .int, .int, .int], returnType := some .boolean }, accessFlags := 9, code := some k1c3 }
/-- com/example/hold/hold/automaton/TokenIsPinLaw -/
def k1 : Class := { plain "com/example/hold/hold/automaton/TokenIsPinLaw" (some 0) with
  accessFlags := 49
  interfaces := #[]
  cf := some (fileOf pool1 40 #[] #[{ accessFlags := 2, nameIndex := 5, descriptorIndex := 6, attributes := #[] }, { accessFlags := 10, nameIndex := 49, descriptorIndex := 50, attributes := #[] }, { accessFlags := 10, nameIndex := 43, descriptorIndex := 44, attributes := #[] }, { accessFlags := 9, nameIndex := 61, descriptorIndex := 62, attributes := #[] }] 49 2 #[] #[])
  fields := #[]
  methods := #[k1m0, k1m1, k1m2, k1m3]
  instanceTypes := #[]
  staticTypes := #[]
  resolved := Array.replicate 70 none
  statics := none }

def pool2 : Array CpInfo := pool [(1, .class_ 2), (0, u "java/io/Serializable"), (0, .class_ 4), (0, u "java/lang/Object")] 2

/-- java/io/Serializable -/
def k2 : Class := { plain "java/io/Serializable" (some 0) with
  accessFlags := 1537
  interfaces := #[]
  cf := some (fileOf pool2 1 #[] #[] 1537 3 #[] #[])
  fields := #[]
  methods := #[]
  instanceTypes := #[]
  staticTypes := #[]
  resolved := Array.replicate 7 none
  statics := none }

def pool3 : Array CpInfo := pool [(1, .class_ 2), (0, u "java/lang/Comparable"), (0, .class_ 4), (0, u "java/lang/Object")] 7

/-- java/lang/Comparable -/
def k3 : Class := { plain "java/lang/Comparable" (some 0) with
  accessFlags := 1537
  interfaces := #[]
  cf := some (fileOf pool3 1 #[] #[] 1537 3 #[] #[])
  fields := #[]
  methods := #[]
  instanceTypes := #[]
  staticTypes := #[]
  resolved := Array.replicate 12 none
  statics := none }

def pool4 : Array CpInfo := pool [(2, .class_ 4), (1, u "java/lang/CharSequence"), (42, .class_ 48), (0, u "java/lang/CharSequence$1CodePointIterator"), (10, .class_ 60), (0, u "java/lang/CharSequence$1CharIterator"), (5, .class_ 67), (0, u "java/lang/Object")] 63

/-- java/lang/CharSequence -/
def k4 : Class := { plain "java/lang/CharSequence" (some 0) with
  accessFlags := 1537
  interfaces := #[]
  cf := some (fileOf pool4 2 #[.nestMembers #[47, 59]] #[] 1537 66 #[] #[])
  fields := #[]
  methods := #[]
  instanceTypes := #[]
  staticTypes := #[]
  resolved := Array.replicate 131 none
  statics := none }

def pool5 : Array CpInfo := pool [(1, .class_ 2), (0, u "java/lang/constant/Constable"), (0, .class_ 4), (0, u "java/lang/Object")] 6

/-- java/lang/constant/Constable -/
def k5 : Class := { plain "java/lang/constant/Constable" (some 0) with
  accessFlags := 1537
  interfaces := #[]
  cf := some (fileOf pool5 1 #[] #[] 1537 3 #[] #[])
  fields := #[]
  methods := #[]
  instanceTypes := #[]
  staticTypes := #[]
  resolved := Array.replicate 11 none
  statics := none }

def pool6 : Array CpInfo := pool [(1, .class_ 2), (0, u "java/lang/constant/ConstantDesc"), (0, .class_ 4), (0, u "java/lang/Object")] 32

/-- java/lang/constant/ConstantDesc -/
def k6 : Class := { plain "java/lang/constant/ConstantDesc" (some 0) with
  accessFlags := 1537
  interfaces := #[]
  cf := some (fileOf pool6 1 #[] #[] 1537 3 #[] #[])
  fields := #[]
  methods := #[]
  instanceTypes := #[]
  staticTypes := #[]
  resolved := Array.replicate 37 none
  statics := none }

def pool7 : Array CpInfo := pool [(1, .methodref 2 3), (0, .class_ 4), (0, .nameAndType 5 6), (0, u "java/lang/Object"), (0, u "<init>"), (0, u "()V"), (0, .string 8), (0, u ""), (0, .fieldref 10 11), (0, .class_ 12), (0, .nameAndType 13 14), (0, u "java/lang/String"), (0, u "value"), (0, u "[B"), (0, .fieldref 10 16), (0, .nameAndType 17 18), (0, u "coder"), (0, u "B"), (2, u "hash"), (0, u "I"), (2, u "hashIsZero"), (0, u "Z"), (0, .methodref 10 28), (0, .nameAndType 5 29), (0, u "([CIILjava/lang/Void;)V"), (8, .fieldref 10 39), (0, .nameAndType 40 26), (0, u "COMPACT_STRINGS"), (1, .class_ 44), (1, u "java/lang/StringUTF16"), (0, u "compress"), (1, .methodref 42 48), (0, .nameAndType 49 50), (0, u "coderFromArrayLen"), (0, u "([BI)B"), (56, .class_ 109), (1, u "java/lang/StringLatin1"), (67, .methodref 42 178), (0, .nameAndType 45 179), (0, u "([CII)[B"), (361, .methodref 107 542), (0, .nameAndType 543 544), (0, u "equals"), (0, u "([B[B)Z"), (28, u "(Ljava/lang/Object;)Z"), (1, .class_ 576), (0, u "java/lang/CharSequence"), (22, u "CASE_INSENSITIVE_ORDER"), (0, u "Ljava/util/Comparator;"), (409, u "([C)V"), (90, u "serialPersistentFields"), (0, u "[Ljava/io/ObjectStreamField;"), (0, .class_ 1104), (0, u "java/lang/String$CaseInsensitiveComparator"), (1, .class_ 1107), (0, u "java/io/Serializable"), (0, .class_ 1109), (0, u "java/lang/Comparable"), (0, .class_ 1111), (0, u "java/lang/constant/Constable"), (0, .class_ 1113), (0, u "java/lang/constant/ConstantDesc"), (2, u "serialVersionUID"), (0, u "J"), (3, u "REPL"), (0, u "C"), (2, u "LATIN1"), (1, u "UTF16")] 323

def k7m0 : Method := { name := "<init>", desc := "()V", sig := { parameters := [], returnType := none }, accessFlags := 1, code := none }
def k7c1 : Code := { maxStack := 5, maxLocals := 2, code := jdk_42_method_3_code, exceptionTable := #[], attributes := #[] }
def k7m1 : Method := { name := "<init>", desc := "([C)V", sig := { parameters := [(.array .char)], returnType := none }, accessFlags := 1, code := some k7c1 }
def k7c2 : Code := { maxStack := 2, maxLocals := 3, code := jdk_42_method_66_code, exceptionTable := #[], attributes := #[] }
def k7m2 : Method := { name := "equals", desc := "(Ljava/lang/Object;)Z", sig := { parameters := [(.object "java/lang/Object")], returnType := some .boolean }, accessFlags := 1, code := some k7c2 }
def k7c3 : Code := { maxStack := 4, maxLocals := 6, code := jdk_42_method_149_code, exceptionTable := #[], attributes := #[] }
def k7m3 : Method := { name := "<init>", desc := "([CIILjava/lang/Void;)V", sig := { parameters := [(.array .char), .int, .int, (.object "java/lang/Void")], returnType := none }, accessFlags := 2, code := some k7c3 }
/-- java/lang/String -/
def k7 : Class := { plain "java/lang/String" (some 0) with
  accessFlags := 49
  interfaces := #[2, 3, 4, 5, 6]
  cf := some (fileOf pool7 10 #[.nestMembers #[1103]] #[{ accessFlags := 1, nameIndex := 5, descriptorIndex := 6, attributes := #[] }, { accessFlags := 1, nameIndex := 5, descriptorIndex := 1010, attributes := #[] }, { accessFlags := 1, nameIndex := 543, descriptorIndex := 573, attributes := #[] }, { accessFlags := 2, nameIndex := 5, descriptorIndex := 29, attributes := #[] }] 49 2 #[1106, 1108, 575, 1110, 1112] #[{ accessFlags := 18, nameIndex := 13, descriptorIndex := 14, attributes := #[] }, { accessFlags := 18, nameIndex := 17, descriptorIndex := 18, attributes := #[] }, { accessFlags := 2, nameIndex := 21, descriptorIndex := 22, attributes := #[] }, { accessFlags := 2, nameIndex := 25, descriptorIndex := 26, attributes := #[] }, { accessFlags := 26, nameIndex := 1116, descriptorIndex := 1117, attributes := #[] }, { accessFlags := 24, nameIndex := 40, descriptorIndex := 26, attributes := #[] }, { accessFlags := 26, nameIndex := 1101, descriptorIndex := 1102, attributes := #[] }, { accessFlags := 26, nameIndex := 1121, descriptorIndex := 1122, attributes := #[] }, { accessFlags := 25, nameIndex := 599, descriptorIndex := 600, attributes := #[] }, { accessFlags := 24, nameIndex := 1125, descriptorIndex := 18, attributes := #[] }, { accessFlags := 24, nameIndex := 1127, descriptorIndex := 18, attributes := #[] }])
  fields := #[{ name := "value", type := (.array .byte), accessFlags := 18, slot := 0, constantValue := 0 }, { name := "coder", type := .byte, accessFlags := 18, slot := 1, constantValue := 0 }, { name := "hash", type := .int, accessFlags := 2, slot := 2, constantValue := 0 }, { name := "hashIsZero", type := .boolean, accessFlags := 2, slot := 3, constantValue := 0 }, { name := "serialVersionUID", type := .long, accessFlags := 26, slot := 0, constantValue := 0 }, { name := "COMPACT_STRINGS", type := .boolean, accessFlags := 24, slot := 1, constantValue := 0 }, { name := "serialPersistentFields", type := (.array (.object "java/io/ObjectStreamField")), accessFlags := 26, slot := 2, constantValue := 0 }, { name := "REPL", type := .char, accessFlags := 26, slot := 3, constantValue := 0 }, { name := "CASE_INSENSITIVE_ORDER", type := (.object "java/util/Comparator"), accessFlags := 25, slot := 4, constantValue := 0 }, { name := "LATIN1", type := .byte, accessFlags := 24, slot := 5, constantValue := 0 }, { name := "UTF16", type := .byte, accessFlags := 24, slot := 6, constantValue := 0 }]
  methods := #[k7m0, k7m1, k7m2, k7m3]
  instanceTypes := #[(.array .byte), .byte, .int, .boolean]
  staticTypes := #[.long, .boolean, (.array (.object "java/io/ObjectStreamField")), .char, (.object "java/util/Comparator"), .byte, .byte]
  resolved := Array.replicate 1451 none
  statics := some 0 }

def pool8 : Array CpInfo := pool [(1, .methodref 2 3), (0, .class_ 4), (0, .nameAndType 5 6), (0, u "java/lang/Object"), (0, u "<init>"), (0, u "()V"), (0, .class_ 8), (0, u "java/lang/Record")] 13

def k8c0 : Code := { maxStack := 1, maxLocals := 1, code := jdk_30_method_1_code, exceptionTable := #[], attributes := #[] }
def k8m0 : Method := { name := "<init>", desc := "()V", sig := { parameters := [], returnType := none }, accessFlags := 4, code := some k8c0 }
/-- java/lang/Record -/
def k8 : Class := { plain "java/lang/Record" (some 0) with
  accessFlags := 1057
  interfaces := #[]
  cf := some (fileOf pool8 7 #[] #[{ accessFlags := 4, nameIndex := 5, descriptorIndex := 6, attributes := #[] }] 1057 2 #[] #[])
  fields := #[]
  methods := #[k8m0]
  instanceTypes := #[]
  staticTypes := #[]
  resolved := Array.replicate 22 none
  statics := none }

def pool9 : Array CpInfo := pool [(1, .methodref 2 3), (0, .class_ 4), (0, .nameAndType 5 6), (0, u "java/lang/Record"), (0, u "<init>"), (0, u "()V"), (0, .fieldref 8 9), (0, .class_ 10), (0, .nameAndType 11 12), (0, u "com/example/hold/hold/automaton/HoaLexer$Token"), (0, u "kind"), (0, u "Lcom/example/hold/hold/automaton/HoaLexer$Kind;"), (0, .fieldref 8 14), (0, .nameAndType 15 16), (0, u "text"), (0, u "Ljava/lang/String;"), (0, .fieldref 8 18), (0, .nameAndType 19 20), (0, u "line"), (0, u "I"), (0, .methodref 22 23), (0, .class_ 24), (0, .nameAndType 25 26), (0, u "java/lang/String"), (0, u "equals"), (0, u "(Ljava/lang/Object;)Z"), (26, u "(Lcom/example/hold/hold/automaton/HoaLexer$Kind;Ljava/lang/String;I)V"), (3, u "is"), (0, u "(Lcom/example/hold/hold/automaton/HoaLexer$Kind;Ljava/lang/String;)Z"), (8, .class_ 68), (0, u "com/example/hold/hold/automaton/HoaLexer")] 32

def k9c0 : Code := { maxStack := 2, maxLocals := 4, code := prog_15_method_1_code, exceptionTable := #[], attributes := #[] }
def k9m0 : Method := { name := "<init>", desc := "(Lcom/example/hold/hold/automaton/HoaLexer$Kind;Ljava/lang/String;I)V", sig := { parameters := [(.object "com/example/hold/hold/automaton/HoaLexer$Kind"), (.object "java/lang/String"), .int], returnType := none }, accessFlags := 0, code := some k9c0 }
def k9c1 : Code := { maxStack := 2, maxLocals := 3, code := prog_15_method_2_code, exceptionTable := #[], attributes := #[] }
def k9m1 : Method := { name := "is", desc := "(Lcom/example/hold/hold/automaton/HoaLexer$Kind;Ljava/lang/String;)Z", sig := { parameters := [(.object "com/example/hold/hold/automaton/HoaLexer$Kind"), (.object "java/lang/String")], returnType := some .boolean }, accessFlags := 0, code := some k9c1 }
/-- com/example/hold/hold/automaton/HoaLexer$Token -/
def k9 : Class := { plain "com/example/hold/hold/automaton/HoaLexer$Token" (some 8) with
  accessFlags := 48
  interfaces := #[]
  cf := some (fileOf pool9 8 #[.nestHost 67] #[{ accessFlags := 0, nameIndex := 5, descriptorIndex := 53, attributes := #[] }, { accessFlags := 0, nameIndex := 57, descriptorIndex := 58, attributes := #[] }] 48 2 #[] #[{ accessFlags := 18, nameIndex := 11, descriptorIndex := 12, attributes := #[] }, { accessFlags := 18, nameIndex := 15, descriptorIndex := 16, attributes := #[] }, { accessFlags := 18, nameIndex := 19, descriptorIndex := 20, attributes := #[] }])
  fields := #[{ name := "kind", type := (.object "com/example/hold/hold/automaton/HoaLexer$Kind"), accessFlags := 18, slot := 0, constantValue := 0 }, { name := "text", type := (.object "java/lang/String"), accessFlags := 18, slot := 1, constantValue := 0 }, { name := "line", type := .int, accessFlags := 18, slot := 2, constantValue := 0 }]
  methods := #[k9m0, k9m1]
  instanceTypes := #[(.object "com/example/hold/hold/automaton/HoaLexer$Kind"), (.object "java/lang/String"), .int]
  staticTypes := #[]
  resolved := Array.replicate 101 none
  statics := none }

def pool10 : Array CpInfo := pool [(2, .class_ 4), (1, u "java/lang/Enum"), (0, u "name"), (0, u "Ljava/lang/String;"), (2, u "ordinal"), (0, u "I"), (1, .class_ 14), (1, u "java/lang/Object"), (4, u "hash"), (86, .class_ 108), (1, u "java/lang/Enum$EnumDesc"), (2, .class_ 112), (0, u "java/lang/constant/Constable"), (0, .class_ 114), (0, u "java/lang/Comparable"), (0, .class_ 116), (0, u "java/io/Serializable")] 87

/-- java/lang/Enum -/
def k10 : Class := { plain "java/lang/Enum" (some 0) with
  accessFlags := 1057
  interfaces := #[5, 3, 2]
  cf := some (fileOf pool10 2 #[.nestMembers #[106]] #[] 1057 12 #[111, 113, 115] #[{ accessFlags := 18, nameIndex := 5, descriptorIndex := 6, attributes := #[] }, { accessFlags := 18, nameIndex := 9, descriptorIndex := 10, attributes := #[] }, { accessFlags := 2, nameIndex := 19, descriptorIndex := 10, attributes := #[] }])
  fields := #[{ name := "name", type := (.object "java/lang/String"), accessFlags := 18, slot := 0, constantValue := 0 }, { name := "ordinal", type := .int, accessFlags := 18, slot := 1, constantValue := 0 }, { name := "hash", type := .int, accessFlags := 2, slot := 2, constantValue := 0 }]
  methods := #[]
  instanceTypes := #[(.object "java/lang/String"), .int, .int]
  staticTypes := #[]
  resolved := Array.replicate 204 none
  statics := none }

def pool11 : Array CpInfo := pool [(1, .class_ 2), (0, u "com/example/hold/hold/automaton/HoaLexer$Kind"), (2, u "HEADER"), (0, u "Lcom/example/hold/hold/automaton/HoaLexer$Kind;"), (2, u "IDENTIFIER"), (2, u "INTEGER"), (2, u "STRING"), (2, u "ALIAS"), (2, u "PUNCTUATION"), (2, u "SEPARATOR"), (2, u "END_OF_FILE"), (2, u "$VALUES"), (0, u "[Lcom/example/hold/hold/automaton/HoaLexer$Kind;"), (6, .class_ 40), (1, u "java/lang/Enum"), (31, .class_ 73), (0, u "com/example/hold/hold/automaton/HoaLexer")] 2

/-- com/example/hold/hold/automaton/HoaLexer$Kind -/
def k11 : Class := { plain "com/example/hold/hold/automaton/HoaLexer$Kind" (some 10) with
  accessFlags := 16432
  interfaces := #[]
  cf := some (fileOf pool11 1 #[.nestHost 72] #[] 16432 38 #[] #[{ accessFlags := 16409, nameIndex := 5, descriptorIndex := 6, attributes := #[] }, { accessFlags := 16409, nameIndex := 9, descriptorIndex := 6, attributes := #[] }, { accessFlags := 16409, nameIndex := 12, descriptorIndex := 6, attributes := #[] }, { accessFlags := 16409, nameIndex := 15, descriptorIndex := 6, attributes := #[] }, { accessFlags := 16409, nameIndex := 18, descriptorIndex := 6, attributes := #[] }, { accessFlags := 16409, nameIndex := 21, descriptorIndex := 6, attributes := #[] }, { accessFlags := 16409, nameIndex := 24, descriptorIndex := 6, attributes := #[] }, { accessFlags := 16409, nameIndex := 27, descriptorIndex := 6, attributes := #[] }, { accessFlags := 4122, nameIndex := 30, descriptorIndex := 31, attributes := #[] }])
  fields := #[{ name := "HEADER", type := (.object "com/example/hold/hold/automaton/HoaLexer$Kind"), accessFlags := 16409, slot := 0, constantValue := 0 }, { name := "IDENTIFIER", type := (.object "com/example/hold/hold/automaton/HoaLexer$Kind"), accessFlags := 16409, slot := 1, constantValue := 0 }, { name := "INTEGER", type := (.object "com/example/hold/hold/automaton/HoaLexer$Kind"), accessFlags := 16409, slot := 2, constantValue := 0 }, { name := "STRING", type := (.object "com/example/hold/hold/automaton/HoaLexer$Kind"), accessFlags := 16409, slot := 3, constantValue := 0 }, { name := "ALIAS", type := (.object "com/example/hold/hold/automaton/HoaLexer$Kind"), accessFlags := 16409, slot := 4, constantValue := 0 }, { name := "PUNCTUATION", type := (.object "com/example/hold/hold/automaton/HoaLexer$Kind"), accessFlags := 16409, slot := 5, constantValue := 0 }, { name := "SEPARATOR", type := (.object "com/example/hold/hold/automaton/HoaLexer$Kind"), accessFlags := 16409, slot := 6, constantValue := 0 }, { name := "END_OF_FILE", type := (.object "com/example/hold/hold/automaton/HoaLexer$Kind"), accessFlags := 16409, slot := 7, constantValue := 0 }, { name := "$VALUES", type := (.array (.object "com/example/hold/hold/automaton/HoaLexer$Kind")), accessFlags := 4122, slot := 8, constantValue := 0 }]
  methods := #[]
  instanceTypes := #[(.object "java/lang/String"), .int, .int]
  staticTypes := #[(.object "com/example/hold/hold/automaton/HoaLexer$Kind"), (.object "com/example/hold/hold/automaton/HoaLexer$Kind"), (.object "com/example/hold/hold/automaton/HoaLexer$Kind"), (.object "com/example/hold/hold/automaton/HoaLexer$Kind"), (.object "com/example/hold/hold/automaton/HoaLexer$Kind"), (.object "com/example/hold/hold/automaton/HoaLexer$Kind"), (.object "com/example/hold/hold/automaton/HoaLexer$Kind"), (.object "com/example/hold/hold/automaton/HoaLexer$Kind"), (.array (.object "com/example/hold/hold/automaton/HoaLexer$Kind"))]
  resolved := Array.replicate 76 none
  statics := some 1 }

def pool12 : Array CpInfo := pool [(4, .class_ 6), (1, u "java/lang/Object"), (0, u "<init>"), (0, u "()V"), (5, .class_ 16), (1, u "java/lang/StringLatin1"), (104, u "$assertionsDisabled"), (0, u "Z"), (98, .class_ 223), (1, u "java/lang/StringLatin1$LinesSpliterator"), (57, u "equals"), (0, u "([B[B)Z"), (107, .class_ 391), (0, u "java/lang/StringLatin1$CharsSpliterator")] 3

def k12m0 : Method := { name := "<init>", desc := "()V", sig := { parameters := [], returnType := none }, accessFlags := 0, code := none }
def k12c1 : Code := { maxStack := 3, maxLocals := 3, code := jdk_43_method_13_code, exceptionTable := #[], attributes := #[] }
def k12m1 : Method := { name := "equals", desc := "([B[B)Z", sig := { parameters := [(.array .byte), (.array .byte)], returnType := some .boolean }, accessFlags := 9, code := some k12c1 }
/-- java/lang/StringLatin1 -/
def k12 : Class := { plain "java/lang/StringLatin1" (some 0) with
  accessFlags := 48
  interfaces := #[]
  cf := some (fileOf pool12 14 #[.nestMembers #[390, 221]] #[{ accessFlags := 0, nameIndex := 7, descriptorIndex := 8, attributes := #[] }, { accessFlags := 9, nameIndex := 281, descriptorIndex := 282, attributes := #[] }] 48 4 #[] #[{ accessFlags := 4120, nameIndex := 121, descriptorIndex := 122, attributes := #[] }])
  fields := #[{ name := "$assertionsDisabled", type := .boolean, accessFlags := 4120, slot := 0, constantValue := 0 }]
  methods := #[k12m0, k12m1]
  instanceTypes := #[]
  staticTypes := #[.boolean]
  resolved := Array.replicate 395 none
  statics := none }

def pool13 : Array CpInfo := pool [(6, .class_ 8), (1, u "java/lang/Object"), (0, u "<init>"), (0, u "()V"), (1, .class_ 14), (1, u "java/lang/StringUTF16"), (31, u "$assertionsDisabled"), (0, u "Z"), (13, u "HI_BYTE_SHIFT"), (0, u "I"), (2, u "LO_BYTE_SHIFT"), (49, .methodref 12 116), (0, .nameAndType 117 118), (0, u "compress"), (0, u "([CI[BII)I"), (3, u "([CII)[B"), (138, u "coderFromArrayLen"), (0, u "([BI)B"), (106, .class_ 371), (1, u "java/lang/StringUTF16$LinesSpliterator"), (58, u "MAX_LENGTH"), (196, .class_ 628), (0, u "java/lang/StringUTF16$CodePointsSpliterator"), (0, .class_ 630), (0, u "java/lang/StringUTF16$CharsSpliterator")] 4

def k13m0 : Method := { name := "<init>", desc := "()V", sig := { parameters := [], returnType := none }, accessFlags := 0, code := none }
def k13c1 : Code := { maxStack := 2, maxLocals := 2, code := jdk_52_method_15_code, exceptionTable := #[], attributes := #[] }
def k13m1 : Method := { name := "coderFromArrayLen", desc := "([BI)B", sig := { parameters := [(.array .byte), .int], returnType := some .byte }, accessFlags := 8, code := some k13c1 }
def k13c2 : Code := { maxStack := 5, maxLocals := 6, code := jdk_52_method_16_code, exceptionTable := #[], attributes := #[] }
def k13m2 : Method := { name := "compress", desc := "([CII)[B", sig := { parameters := [(.array .char), .int, .int], returnType := some (.array .byte) }, accessFlags := 9, code := some k13c2 }
def k13c3 : Code := { maxStack := 3, maxLocals := 7, code := jdk_52_method_21_code, exceptionTable := #[], attributes := #[] }
def k13m3 : Method := { name := "compress", desc := "([CI[BII)I", sig := { parameters := [(.array .char), .int, (.array .byte), .int, .int], returnType := some .int }, accessFlags := 9, code := some k13c3 }
/-- java/lang/StringUTF16 -/
def k13 : Class := { plain "java/lang/StringUTF16" (some 0) with
  accessFlags := 48
  interfaces := #[]
  cf := some (fileOf pool13 12 #[.nestMembers #[627, 629, 369]] #[{ accessFlags := 0, nameIndex := 9, descriptorIndex := 10, attributes := #[] }, { accessFlags := 8, nameIndex := 261, descriptorIndex := 262, attributes := #[] }, { accessFlags := 9, nameIndex := 117, descriptorIndex := 122, attributes := #[] }, { accessFlags := 9, nameIndex := 117, descriptorIndex := 118, attributes := #[] }] 48 6 #[] #[{ accessFlags := 26, nameIndex := 61, descriptorIndex := 62, attributes := #[] }, { accessFlags := 26, nameIndex := 65, descriptorIndex := 62, attributes := #[] }, { accessFlags := 24, nameIndex := 430, descriptorIndex := 62, attributes := #[] }, { accessFlags := 4120, nameIndex := 46, descriptorIndex := 47, attributes := #[] }])
  fields := #[{ name := "HI_BYTE_SHIFT", type := .int, accessFlags := 26, slot := 0, constantValue := 0 }, { name := "LO_BYTE_SHIFT", type := .int, accessFlags := 26, slot := 1, constantValue := 0 }, { name := "MAX_LENGTH", type := .int, accessFlags := 24, slot := 2, constantValue := 0 }, { name := "$assertionsDisabled", type := .boolean, accessFlags := 4120, slot := 3, constantValue := 0 }]
  methods := #[k13m0, k13m1, k13m2, k13m3]
  instanceTypes := #[]
  staticTypes := #[.int, .int, .int, .boolean]
  resolved := Array.replicate 635 none
  statics := none }

def pool14 : Array CpInfo := pool [(2, .class_ 4), (1, u "java/lang/Object"), (0, u "<init>"), (0, u "()V"), (17, .class_ 26), (1, u "jdk/internal/util/Preconditions"), (28, .class_ 56), (0, u "jdk/internal/util/Preconditions$4"), (57, .class_ 115), (0, u "jdk/internal/util/Preconditions$1"), (7, u "SIOOBE_FORMATTER"), (0, u "Ljava/util/function/BiFunction;"), (0, .class_ 126), (0, u "jdk/internal/util/Preconditions$2"), (3, u "AIOOBE_FORMATTER"), (0, .class_ 132), (0, u "jdk/internal/util/Preconditions$3"), (3, u "IOOBE_FORMATTER")] 57

def k14m0 : Method := { name := "<init>", desc := "()V", sig := { parameters := [], returnType := none }, accessFlags := 1, code := none }
/-- jdk/internal/util/Preconditions -/
def k14 : Class := { plain "jdk/internal/util/Preconditions" (some 0) with
  accessFlags := 33
  interfaces := #[]
  cf := some (fileOf pool14 24 #[.nestMembers #[55, 131, 125, 114]] #[{ accessFlags := 1, nameIndex := 5, descriptorIndex := 6, attributes := #[] }] 33 2 #[] #[{ accessFlags := 25, nameIndex := 123, descriptorIndex := 124, attributes := #[] }, { accessFlags := 25, nameIndex := 130, descriptorIndex := 124, attributes := #[] }, { accessFlags := 25, nameIndex := 136, descriptorIndex := 124, attributes := #[] }])
  fields := #[{ name := "SIOOBE_FORMATTER", type := (.object "java/util/function/BiFunction"), accessFlags := 25, slot := 0, constantValue := 0 }, { name := "AIOOBE_FORMATTER", type := (.object "java/util/function/BiFunction"), accessFlags := 25, slot := 1, constantValue := 0 }, { name := "IOOBE_FORMATTER", type := (.object "java/util/function/BiFunction"), accessFlags := 25, slot := 2, constantValue := 0 }]
  methods := #[k14m0]
  instanceTypes := #[]
  staticTypes := #[(.object "java/util/function/BiFunction"), (.object "java/util/function/BiFunction"), (.object "java/util/function/BiFunction")]
  resolved := Array.replicate 194 none
  statics := some 2 }

def pool15 : Array CpInfo := pool [(9, u "<init>"), (6, .class_ 18), (1, u "java/lang/Object"), (0, u "()V"), (1, .class_ 23), (1, u "jdk/internal/util/ArraysSupport"), (0, u "LOG2_ARRAY_LONG_INDEX_SCALE"), (0, u "I"), (2, u "U"), (0, u "Ljdk/internal/misc/Unsafe;"), (8, u "BIG_ENDIAN"), (0, u "Z"), (8, u "LOG2_BYTE_BIT_SIZE"), (4, u "LOG2_ARRAY_INT_INDEX_SCALE"), (54, u "JLA"), (0, u "Ljdk/internal/access/JavaLangAccess;"), (11, u "LOG2_ARRAY_BOOLEAN_INDEX_SCALE"), (9, u "LOG2_ARRAY_BYTE_INDEX_SCALE"), (5, u "LOG2_ARRAY_CHAR_INDEX_SCALE"), (5, u "LOG2_ARRAY_SHORT_INDEX_SCALE"), (18, u "LOG2_ARRAY_FLOAT_INDEX_SCALE"), (24, u "LOG2_ARRAY_DOUBLE_INDEX_SCALE"), (89, u "T_BOOLEAN"), (2, u "T_CHAR"), (1, u "T_FLOAT"), (1, u "T_DOUBLE"), (1, u "T_BYTE"), (1, u "T_SHORT"), (1, u "T_INT"), (1, u "T_LONG"), (1, u "SOFT_MAX_ARRAY_LENGTH")] 83

def k15m0 : Method := { name := "<init>", desc := "()V", sig := { parameters := [], returnType := none }, accessFlags := 2, code := none }
/-- jdk/internal/util/ArraysSupport -/
def k15 : Class := { plain "jdk/internal/util/ArraysSupport" (some 0) with
  accessFlags := 33
  interfaces := #[]
  cf := some (fileOf pool15 21 #[] #[{ accessFlags := 2, nameIndex := 9, descriptorIndex := 19, attributes := #[] }] 33 16 #[] #[{ accessFlags := 24, nameIndex := 28, descriptorIndex := 29, attributes := #[] }, { accessFlags := 26, nameIndex := 38, descriptorIndex := 39, attributes := #[] }, { accessFlags := 25, nameIndex := 121, descriptorIndex := 25, attributes := #[] }, { accessFlags := 25, nameIndex := 131, descriptorIndex := 25, attributes := #[] }, { accessFlags := 25, nameIndex := 137, descriptorIndex := 25, attributes := #[] }, { accessFlags := 25, nameIndex := 143, descriptorIndex := 25, attributes := #[] }, { accessFlags := 25, nameIndex := 53, descriptorIndex := 25, attributes := #[] }, { accessFlags := 25, nameIndex := 24, descriptorIndex := 25, attributes := #[] }, { accessFlags := 25, nameIndex := 162, descriptorIndex := 25, attributes := #[] }, { accessFlags := 25, nameIndex := 187, descriptorIndex := 25, attributes := #[] }, { accessFlags := 26, nameIndex := 48, descriptorIndex := 25, attributes := #[] }, { accessFlags := 25, nameIndex := 277, descriptorIndex := 25, attributes := #[] }, { accessFlags := 25, nameIndex := 280, descriptorIndex := 25, attributes := #[] }, { accessFlags := 25, nameIndex := 282, descriptorIndex := 25, attributes := #[] }, { accessFlags := 25, nameIndex := 284, descriptorIndex := 25, attributes := #[] }, { accessFlags := 25, nameIndex := 286, descriptorIndex := 25, attributes := #[] }, { accessFlags := 25, nameIndex := 288, descriptorIndex := 25, attributes := #[] }, { accessFlags := 25, nameIndex := 290, descriptorIndex := 25, attributes := #[] }, { accessFlags := 25, nameIndex := 292, descriptorIndex := 25, attributes := #[] }, { accessFlags := 26, nameIndex := 108, descriptorIndex := 109, attributes := #[] }, { accessFlags := 25, nameIndex := 294, descriptorIndex := 25, attributes := #[] }])
  fields := #[{ name := "U", type := (.object "jdk/internal/misc/Unsafe"), accessFlags := 24, slot := 0, constantValue := 0 }, { name := "BIG_ENDIAN", type := .boolean, accessFlags := 26, slot := 1, constantValue := 0 }, { name := "LOG2_ARRAY_BOOLEAN_INDEX_SCALE", type := .int, accessFlags := 25, slot := 2, constantValue := 0 }, { name := "LOG2_ARRAY_BYTE_INDEX_SCALE", type := .int, accessFlags := 25, slot := 3, constantValue := 0 }, { name := "LOG2_ARRAY_CHAR_INDEX_SCALE", type := .int, accessFlags := 25, slot := 4, constantValue := 0 }, { name := "LOG2_ARRAY_SHORT_INDEX_SCALE", type := .int, accessFlags := 25, slot := 5, constantValue := 0 }, { name := "LOG2_ARRAY_INT_INDEX_SCALE", type := .int, accessFlags := 25, slot := 6, constantValue := 0 }, { name := "LOG2_ARRAY_LONG_INDEX_SCALE", type := .int, accessFlags := 25, slot := 7, constantValue := 0 }, { name := "LOG2_ARRAY_FLOAT_INDEX_SCALE", type := .int, accessFlags := 25, slot := 8, constantValue := 0 }, { name := "LOG2_ARRAY_DOUBLE_INDEX_SCALE", type := .int, accessFlags := 25, slot := 9, constantValue := 0 }, { name := "LOG2_BYTE_BIT_SIZE", type := .int, accessFlags := 26, slot := 10, constantValue := 0 }, { name := "T_BOOLEAN", type := .int, accessFlags := 25, slot := 11, constantValue := 0 }, { name := "T_CHAR", type := .int, accessFlags := 25, slot := 12, constantValue := 0 }, { name := "T_FLOAT", type := .int, accessFlags := 25, slot := 13, constantValue := 0 }, { name := "T_DOUBLE", type := .int, accessFlags := 25, slot := 14, constantValue := 0 }, { name := "T_BYTE", type := .int, accessFlags := 25, slot := 15, constantValue := 0 }, { name := "T_SHORT", type := .int, accessFlags := 25, slot := 16, constantValue := 0 }, { name := "T_INT", type := .int, accessFlags := 25, slot := 17, constantValue := 0 }, { name := "T_LONG", type := .int, accessFlags := 25, slot := 18, constantValue := 0 }, { name := "JLA", type := (.object "jdk/internal/access/JavaLangAccess"), accessFlags := 26, slot := 19, constantValue := 0 }, { name := "SOFT_MAX_ARRAY_LENGTH", type := .int, accessFlags := 25, slot := 20, constantValue := 0 }]
  methods := #[k15m0]
  instanceTypes := #[]
  staticTypes := #[(.object "jdk/internal/misc/Unsafe"), .boolean, .int, .int, .int, .int, .int, .int, .int, .int, .int, .int, .int, .int, .int, .int, .int, .int, .int, (.object "jdk/internal/access/JavaLangAccess"), .int]
  resolved := Array.replicate 378 none
  statics := none }

def pool16 : Array CpInfo := pool [(1, u "java/lang/Cloneable"), (0, .class_ 1), (0, u "java/lang/Object"), (0, .class_ 3)] 3

/-- java/lang/Cloneable -/
def k16 : Class := { plain "java/lang/Cloneable" (some 0) with
  accessFlags := 1537
  interfaces := #[]
  cf := some (fileOf pool16 2 #[] #[] 1537 4 #[] #[])
  fields := #[]
  methods := #[]
  instanceTypes := #[]
  staticTypes := #[]
  resolved := Array.replicate 8 none
  statics := none }

/-- the primitive byte -/
def k17 : Class := { plain "byte" none with kind := .primitive 'B', accessFlags := 0x411 }
/-- [B -/
def k18 : Class := { plain "[B" (some 0) with kind := .array 17 .byte, interfaces := #[16, 2], accessFlags := 1041 }

/-- the primitive char -/
def k19 : Class := { plain "char" none with kind := .primitive 'C', accessFlags := 0x411 }
/-- [C -/
def k20 : Class := { plain "[C" (some 0) with kind := .array 19 .char, interfaces := #[16, 2], accessFlags := 1041 }

/-- the primitive int -/
def k21 : Class := { plain "int" none with kind := .primitive 'I', accessFlags := 0x411 }
/-- [I -/
def k22 : Class := { plain "[I" (some 0) with kind := .array 21 .int, interfaces := #[16, 2], accessFlags := 1041 }

def heap : Heap := #[{ cls := 7, slots := #[.long 0, .int 1, .null, .int 0, .null, .int 0, .int 0], vm := .statics 7 },
  { cls := 11, slots := #[.ref 3, .ref 8, .ref 6, .ref 7, .ref 4, .ref 9, .ref 10, .ref 5, .null], vm := .statics 11 },
  { cls := 14, slots := #[.null, .null, .null], vm := .statics 14 },
  { cls := 11, slots := #[.null, .int 0, .int 0], vm := .none },
  { cls := 11, slots := #[.null, .int 4, .int 0], vm := .none },
  { cls := 11, slots := #[.null, .int 7, .int 0], vm := .none },
  { cls := 11, slots := #[.null, .int 2, .int 0], vm := .none },
  { cls := 11, slots := #[.null, .int 3, .int 0], vm := .none },
  { cls := 11, slots := #[.null, .int 1, .int 0], vm := .none },
  { cls := 11, slots := #[.null, .int 5, .int 0], vm := .none },
  { cls := 11, slots := #[.null, .int 6, .int 0], vm := .none }]
def classes : Array Class := #[k0, k1, k2, k3, k4, k5, k6, k7, k8, k9, k10, k11, k12, k13, k14, k15, k16, k17, k18, k19, k20, k21, k22]
def interned : List (Array UInt16 × Addr) := []
def slotsUsed : Nat := 43
def theMethod : MethodId := ⟨1, 3⟩
def args0 : Array Value := #[.int 1, .int 2, .int 3, .int 4]
def aboutOver (below : List Frame) : State where
  vm := { classes := classes, interned := interned.toArray }
  heap := heap
  slotsUsed := slotsUsed
  threads := #[{ frames := .invoking theMethod args0 :: below }]
def below0 : List Frame := [.native { method := ⟨0, 0⟩, args := #[] }]
def about1 : State := aboutOver below0
def p0 : Program := .bare "" "" ""
def e0 : Env := launch0.env 0 0 0
theorem w_frames : about1.frames = Frame.invoking theMethod args0 :: below0 := rfl
set_option maxRecDepth 65536 in
theorem w_args : argsFit about1.vm theMethod args0 = true := by decide +kernel
set_option maxRecDepth 65536 in
theorem w_heap : heapFits about1 = true := by decide +kernel
set_option maxRecDepth 65536 in
theorem w_runnable : about1.curStatus? = some .runnable := by decide +kernel
set_option maxRecDepth 65536 in
theorem w_alone : about1.alone = true := by decide +kernel
set_option maxRecDepth 65536 in
theorem w_named : about1.methodNamed? x = some theMethod := by decide +kernel
set_option maxRecDepth 65536 in
theorem w_hears : about1.hears theMethod below0 = true := by decide +kernel
set_option maxRecDepth 65536 in
theorem w_ripe : about1.ripe theMethod args0 below0 = true := by decide +kernel
theorem w_running : about1.status = .running := rfl
set_option maxRecDepth 65536 in
theorem w_room : about1.hasRoom e0.platform room_1 = true :=
  launch0.hasRoom_least _ room_1 (by decide +kernel) (by decide +kernel) (by decide +kernel) (by decide +kernel) (by decide +kernel) (by decide +kernel)
theorem allAtoms_all (ts : List Jvm.Cond) (a : Array Jvm.Value) (st : Jvm.State) : (allAtoms ts).before a st = ts.all (fun c => c.before a st) := by
  induction ts with
  | nil => rfl
  | cons c t ih =>
    show (Jvm.Cond.and c (allAtoms t)).before a st = _
    rw [Jvm.Cond.before_and, ih, List.all_cons]
def words1 : List Jvm.Cond := Jvm.Cond.code x code maxLocals ret :: tables_1
/-- a 'code' word, met by the world's own term for the bytes: nothing is compared byte by byte -/
theorem code_word {y : MethodName} {bytes : ByteArray} {mx : Nat} {rt : Option FieldType} {a : Array Value} {s : State} {m : MethodId} {meth : Method} {c : Code} (h1 : s.methodNamed? y = some m) (h2 : s.vm.method? m = some meth) (h3 : meth.code = some c) (h4 : c.code = bytes)
    (h5 : (c.maxLocals == mx && c.exceptionTable.isEmpty && decide (c.maxStack ≤ mostOperands) && decide (meth.sig.returnType = rt) && !meth.locks && decide (parseMethodDescriptor y.desc = some meth.sig)) = true) : (Jvm.Cond.code y bytes mx rt).before a s = true := by
  simp only [Bool.and_eq_true, beq_iff_eq, Bool.not_eq_true', decide_eq_true_eq] at h5
  obtain ⟨⟨⟨⟨⟨g1, g2⟩, g3⟩, g4⟩, g5⟩, g6⟩ := h5
  simp [Cond.before, Cond.holds, Cond.value, h1, h2, h3, h4, g1, g2, g3, g4, g5, g6]
def isCode : Jvm.Cond → Bool
  | .code _ _ _ _ => true
  | _ => false
theorem all_split {L : List Jvm.Cond} {P : Jvm.Cond → Bool} (h1 : L.all (fun c => isCode c || P c) = true) (h2 : ∀ c ∈ L.filter isCode, P c = true) : L.all P = true := by
  refine List.all_eq_true.mpr fun c hc => ?_
  have h := List.all_eq_true.mp h1 c hc
  rcases Bool.eq_false_or_eq_true (isCode c) with hi | hi
  · exact h2 c (List.mem_filter.mpr ⟨hc, hi⟩)
  · simpa [hi] using h
set_option maxRecDepth 65536 in
theorem w_c0 : (Jvm.Cond.code x code maxLocals ret).before args0 about1 = true := code_word (m := ⟨1, 3⟩) (meth := k1m3) (c := k1c3) (by decide +kernel) rfl rfl rfl (by decide +kernel)
set_option maxRecDepth 65536 in
theorem w_c1 : (Jvm.Cond.code ({ cls := "com/example/hold/hold/automaton/TokenIsPinLaw", name := "make", desc := "(ICC)Ljava/lang/String;" } : Jvm.MethodName) method_3_code (4 : Nat) (Option.some (Jvm.ClassFile.FieldType.object "java/lang/String"))).before args0 about1 = true := code_word (m := ⟨1, 2⟩) (meth := k1m2) (c := k1c2) (by decide +kernel) rfl rfl rfl (by decide +kernel)
set_option maxRecDepth 65536 in
theorem w_c2 : (Jvm.Cond.code ({ cls := "java/lang/String", name := "<init>", desc := "([C)V" } : Jvm.MethodName) jdk_42_method_3_code (2 : Nat) (Option.none : Option Jvm.ClassFile.FieldType)).before args0 about1 = true := code_word (m := ⟨7, 1⟩) (meth := k7m1) (c := k7c1) (by decide +kernel) rfl rfl rfl (by decide +kernel)
set_option maxRecDepth 65536 in
theorem w_c3 : (Jvm.Cond.code ({ cls := "java/lang/String", name := "<init>", desc := "([CIILjava/lang/Void;)V" } : Jvm.MethodName) jdk_42_method_149_code (6 : Nat) (Option.none : Option Jvm.ClassFile.FieldType)).before args0 about1 = true := code_word (m := ⟨7, 3⟩) (meth := k7m3) (c := k7c3) (by decide +kernel) rfl rfl rfl (by decide +kernel)
set_option maxRecDepth 65536 in
theorem w_c4 : (Jvm.Cond.code ({ cls := "java/lang/Object", name := "<init>", desc := "()V" } : Jvm.MethodName) object_method_1_code (1 : Nat) (Option.none : Option Jvm.ClassFile.FieldType)).before args0 about1 = true := code_word (m := ⟨0, 0⟩) (meth := k0m0) (c := k0c0) (by decide +kernel) rfl rfl rfl (by decide +kernel)
set_option maxRecDepth 65536 in
theorem w_c5 : (Jvm.Cond.code ({ cls := "com/example/hold/hold/automaton/TokenIsPinLaw", name := "kind", desc := "(I)Lcom/example/hold/hold/automaton/HoaLexer$Kind;" } : Jvm.MethodName) method_2_code (1 : Nat) (Option.some (Jvm.ClassFile.FieldType.object "com/example/hold/hold/automaton/HoaLexer$Kind"))).before args0 about1 = true := code_word (m := ⟨1, 1⟩) (meth := k1m1) (c := k1c1) (by decide +kernel) rfl rfl rfl (by decide +kernel)
set_option maxRecDepth 65536 in
theorem w_c6 : (Jvm.Cond.code ({ cls := "com/example/hold/hold/automaton/HoaLexer$Token", name := "<init>", desc := "(Lcom/example/hold/hold/automaton/HoaLexer$Kind;Ljava/lang/String;I)V" } : Jvm.MethodName) prog_15_method_1_code (4 : Nat) (Option.none : Option Jvm.ClassFile.FieldType)).before args0 about1 = true := code_word (m := ⟨9, 0⟩) (meth := k9m0) (c := k9c0) (by decide +kernel) rfl rfl rfl (by decide +kernel)
set_option maxRecDepth 65536 in
theorem w_c7 : (Jvm.Cond.code ({ cls := "java/lang/Record", name := "<init>", desc := "()V" } : Jvm.MethodName) jdk_30_method_1_code (1 : Nat) (Option.none : Option Jvm.ClassFile.FieldType)).before args0 about1 = true := code_word (m := ⟨8, 0⟩) (meth := k8m0) (c := k8c0) (by decide +kernel) rfl rfl rfl (by decide +kernel)
set_option maxRecDepth 65536 in
theorem w_c8 : (Jvm.Cond.code ({ cls := "com/example/hold/hold/automaton/HoaLexer$Token", name := "is", desc := "(Lcom/example/hold/hold/automaton/HoaLexer$Kind;Ljava/lang/String;)Z" } : Jvm.MethodName) prog_15_method_2_code (3 : Nat) (Option.some Jvm.ClassFile.FieldType.boolean)).before args0 about1 = true := code_word (m := ⟨9, 1⟩) (meth := k9m1) (c := k9c1) (by decide +kernel) rfl rfl rfl (by decide +kernel)
set_option maxRecDepth 65536 in
theorem w_c9 : (Jvm.Cond.code ({ cls := "java/lang/String", name := "equals", desc := "(Ljava/lang/Object;)Z" } : Jvm.MethodName) jdk_42_method_66_code (3 : Nat) (Option.some Jvm.ClassFile.FieldType.boolean)).before args0 about1 = true := code_word (m := ⟨7, 2⟩) (meth := k7m2) (c := k7c2) (by decide +kernel) rfl rfl rfl (by decide +kernel)
set_option maxRecDepth 65536 in
theorem w_c10 : (Jvm.Cond.code ({ cls := "java/lang/StringLatin1", name := "equals", desc := "([B[B)Z" } : Jvm.MethodName) jdk_43_method_13_code (3 : Nat) (Option.some Jvm.ClassFile.FieldType.boolean)).before args0 about1 = true := code_word (m := ⟨12, 1⟩) (meth := k12m1) (c := k12c1) (by decide +kernel) rfl rfl rfl (by decide +kernel)
set_option maxRecDepth 65536 in
theorem w_c11 : (Jvm.Cond.code ({ cls := "java/lang/StringUTF16", name := "compress", desc := "([CII)[B" } : Jvm.MethodName) jdk_52_method_16_code (6 : Nat) (Option.some (Jvm.ClassFile.FieldType.array Jvm.ClassFile.FieldType.byte))).before args0 about1 = true := code_word (m := ⟨13, 2⟩) (meth := k13m2) (c := k13c2) (by decide +kernel) rfl rfl rfl (by decide +kernel)
set_option maxRecDepth 65536 in
theorem w_c12 : (Jvm.Cond.code ({ cls := "java/lang/StringUTF16", name := "compress", desc := "([CI[BII)I" } : Jvm.MethodName) jdk_52_method_21_code (7 : Nat) (Option.some Jvm.ClassFile.FieldType.int)).before args0 about1 = true := code_word (m := ⟨13, 3⟩) (meth := k13m3) (c := k13c3) (by decide +kernel) rfl rfl rfl (by decide +kernel)
set_option maxRecDepth 65536 in
theorem w_c13 : (Jvm.Cond.code ({ cls := "java/lang/StringUTF16", name := "coderFromArrayLen", desc := "([BI)B" } : Jvm.MethodName) jdk_52_method_15_code (2 : Nat) (Option.some Jvm.ClassFile.FieldType.byte)).before args0 about1 = true := code_word (m := ⟨13, 1⟩) (meth := k13m1) (c := k13c1) (by decide +kernel) rfl rfl rfl (by decide +kernel)
def codes1 : List Jvm.Cond := [Jvm.Cond.code x code maxLocals ret, Jvm.Cond.code ({ cls := "com/example/hold/hold/automaton/TokenIsPinLaw", name := "make", desc := "(ICC)Ljava/lang/String;" } : Jvm.MethodName) method_3_code (4 : Nat) (Option.some (Jvm.ClassFile.FieldType.object "java/lang/String")), Jvm.Cond.code ({ cls := "java/lang/String", name := "<init>", desc := "([C)V" } : Jvm.MethodName) jdk_42_method_3_code (2 : Nat) (Option.none : Option Jvm.ClassFile.FieldType), Jvm.Cond.code ({ cls := "java/lang/String", name := "<init>", desc := "([CIILjava/lang/Void;)V" } : Jvm.MethodName) jdk_42_method_149_code (6 : Nat) (Option.none : Option Jvm.ClassFile.FieldType), Jvm.Cond.code ({ cls := "java/lang/Object", name := "<init>", desc := "()V" } : Jvm.MethodName) object_method_1_code (1 : Nat) (Option.none : Option Jvm.ClassFile.FieldType), Jvm.Cond.code ({ cls := "com/example/hold/hold/automaton/TokenIsPinLaw", name := "kind", desc := "(I)Lcom/example/hold/hold/automaton/HoaLexer$Kind;" } : Jvm.MethodName) method_2_code (1 : Nat) (Option.some (Jvm.ClassFile.FieldType.object "com/example/hold/hold/automaton/HoaLexer$Kind")), Jvm.Cond.code ({ cls := "com/example/hold/hold/automaton/HoaLexer$Token", name := "<init>", desc := "(Lcom/example/hold/hold/automaton/HoaLexer$Kind;Ljava/lang/String;I)V" } : Jvm.MethodName) prog_15_method_1_code (4 : Nat) (Option.none : Option Jvm.ClassFile.FieldType), Jvm.Cond.code ({ cls := "java/lang/Record", name := "<init>", desc := "()V" } : Jvm.MethodName) jdk_30_method_1_code (1 : Nat) (Option.none : Option Jvm.ClassFile.FieldType), Jvm.Cond.code ({ cls := "com/example/hold/hold/automaton/HoaLexer$Token", name := "is", desc := "(Lcom/example/hold/hold/automaton/HoaLexer$Kind;Ljava/lang/String;)Z" } : Jvm.MethodName) prog_15_method_2_code (3 : Nat) (Option.some Jvm.ClassFile.FieldType.boolean), Jvm.Cond.code ({ cls := "java/lang/String", name := "equals", desc := "(Ljava/lang/Object;)Z" } : Jvm.MethodName) jdk_42_method_66_code (3 : Nat) (Option.some Jvm.ClassFile.FieldType.boolean), Jvm.Cond.code ({ cls := "java/lang/StringLatin1", name := "equals", desc := "([B[B)Z" } : Jvm.MethodName) jdk_43_method_13_code (3 : Nat) (Option.some Jvm.ClassFile.FieldType.boolean), Jvm.Cond.code ({ cls := "java/lang/StringUTF16", name := "compress", desc := "([CII)[B" } : Jvm.MethodName) jdk_52_method_16_code (6 : Nat) (Option.some (Jvm.ClassFile.FieldType.array Jvm.ClassFile.FieldType.byte)), Jvm.Cond.code ({ cls := "java/lang/StringUTF16", name := "compress", desc := "([CI[BII)I" } : Jvm.MethodName) jdk_52_method_21_code (7 : Nat) (Option.some Jvm.ClassFile.FieldType.int), Jvm.Cond.code ({ cls := "java/lang/StringUTF16", name := "coderFromArrayLen", desc := "([BI)B" } : Jvm.MethodName) jdk_52_method_15_code (2 : Nat) (Option.some Jvm.ClassFile.FieldType.byte)]
set_option maxRecDepth 65536 in
theorem codes_eq : words1.filter isCode = codes1 := rfl
theorem w_codes : ∀ c ∈ words1.filter isCode, c.before args0 about1 = true := by
  rw [codes_eq]
  intro c hc
  simp only [codes1, List.mem_cons, List.not_mem_nil, or_false] at hc
  rcases hc with rfl | rfl | rfl | rfl | rfl | rfl | rfl | rfl | rfl | rfl | rfl | rfl | rfl | rfl
  · exact w_c0
  · exact w_c1
  · exact w_c2
  · exact w_c3
  · exact w_c4
  · exact w_c5
  · exact w_c6
  · exact w_c7
  · exact w_c8
  · exact w_c9
  · exact w_c10
  · exact w_c11
  · exact w_c12
  · exact w_c13
set_option maxRecDepth 65536 in
theorem w_t1 : (words1.take 24).all (fun c => isCode c || c.before args0 about1) = true := by decide +kernel
set_option maxRecDepth 65536 in
theorem w_t2 : ((words1.drop 24).take 24).all (fun c => isCode c || c.before args0 about1) = true := by decide +kernel
set_option maxRecDepth 65536 in
theorem w_t3 : (((words1.drop 24).drop 24).take 24).all (fun c => isCode c || c.before args0 about1) = true := by decide +kernel
set_option maxRecDepth 65536 in
theorem w_t4 : (((words1.drop 24).drop 24).drop 24).all (fun c => isCode c || c.before args0 about1) = true := by decide +kernel
theorem w_tables : (allAtoms (Jvm.Cond.code x code maxLocals ret :: tables_1)).before args0 about1 = true := by
  rw [allAtoms_all]
  show words1.all (fun c => c.before args0 about1) = true
  refine all_split ?_ w_codes
  rw [← List.take_append_drop 24 words1, List.all_append, w_t1, ← List.take_append_drop 24 (words1.drop 24), List.all_append, w_t2, ← List.take_append_drop 24 ((words1.drop 24).drop 24), List.all_append, w_t3, w_t4]
  rfl
set_option maxRecDepth 65536 in
theorem w_rest : rest_1_c.before args0 about1 = true := by decide +kernel
set_option maxRecDepth 65536 in
theorem w_case : (Jvm.Cond.and given_1 narrow_1).before args0 about1 = true := by decide +kernel
set_option maxRecDepth 65536 in
theorem w_consts : constsHeld consts_1 about1 := Jvm.Lit.constsHeldB_iff.mp (by decide +kernel)
theorem w_applies : (headSpec (Jvm.Cond.code x code maxLocals ret :: tables_1) room_1).applies x e0.platform about1 = true :=
  (Spec.applies_iff w_frames).mpr ⟨w_running, w_runnable, w_alone, w_named, w_hears, w_ripe, w_room, w_tables⟩
theorem atStart : AtStart classFile x code maxLocals ret World_1 tables_1 room_1 Calls_1 rest_1 Pre_1 launch0 p0 e0 about1 theMethod args0 below0 :=
  ⟨lists_1, trivial, launch0.admits_env _ _ _, launch0.least_env, fairChoices_fair.cas, fairChoices_fair.clock, w_frames, w_args, w_heap, w_applies, ⟨w_consts, trivial⟩, w_rest, w_case⟩
end start1
theorem witness_1 : WitnessClaimed_1 := ⟨start1.p0, start1.e0, start1.about1, start1.theMethod, start1.args0, start1.below0, start1.atStart⟩
end Jvm.Pilot.@@N@@
