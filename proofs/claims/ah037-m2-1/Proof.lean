import JvmDerived
import JvmDerived.Pilot.@@N@@Statement
import JvmDerived.Pilot.@@N@@Code
set_option linter.unusedVariables false
set_option linter.unusedSimpArgs false
namespace Jvm.OwnW
open Sem ClassFile Op Lib Jvm.Stand Jvm.Free Jvm.LawKit Jvm.RoadKit
/-- from the state S the walk over 'below' comes to an end of which P holds -/
def Goes (tb : Tables) (e : Env) (below : List Frame) (S : State) (P : State → Outcome → Prop) : Prop :=
  ∃ s₂ o, Steps tb e below S s₂ ∧ s₂.status = .running ∧ Ended s₂ below o ∧ P s₂ o
section Walk
variable {p : Program} {l : Launch} {e : Env} {R : Room} {s : State} {m : MethodId} {args : Array Value} {below : List Frame} {meth : Method} {c : Code} {T : State} {locs : List Loc} {cells slots : Nat} {P : State → Outcome → Prop} {pc : Nat} {Ls : Array Slot} {st : List Value} {Z : State} {a0 : Array Value} {h : Heap}
theorem Goes.of {tb : Tables} {S S' : State} (k : Goes tb e below S' P) (h : ∀ t, Steps tb e below S' t → Steps tb e below S t) : Goes tb e below S P := by
  obtain ⟨s₂, o, h1, h2⟩ := k
  exact ⟨s₂, o, h _ h1, h2⟩
theorem Goes.tr {tb : Tables} {S S' : State} (k : Goes tb e below S' P) (h : Steps tb e below S S') : Goes tb e below S P := by
  obtain ⟨s₂, o, h1, h2⟩ := k
  exact ⟨s₂, o, h.trans h1, h2⟩
theorem Goes.join {tb : Tables} {S S' : State} (h1 : Goes tb e below S' P → Goes tb e below S P) (h2 : Goes tb e below S' P) : Goes tb e below S P := h1 h2
theorem Goes.cast {tb : Tables} {g g' : JFrame} (q : g = g') (k : Goes tb e below (T.setTop g') P) : Goes tb e below (T.setTop g) P := q ▸ k
theorem g_nameI {x v : Int32} (q : v = x) (k : Goes p.tables e below (T.setTop (mkF m pc Ls (.int v :: st))) P) : Goes p.tables e below (T.setTop (mkF m pc Ls (.int x :: st))) P := q ▸ k
theorem g_nameL {x v : Int64} (q : v = x) (k : Goes p.tables e below (T.setTop (mkF m pc Ls (.long v :: st))) P) : Goes p.tables e below (T.setTop (mkF m pc Ls (.long x :: st))) P := q ▸ k
theorem g_iloadN (X : Stand p l e R s m args below meth c T locs cells slots) (hx : p.tables.exec = Jvm.exec) {k : Fin 4} {v : Int32} (hd : decode c.code pc = .ok (.iload_n k, 1)) (hl : Ls[k.val]? = some (.val (.int v))) (hr : Goes p.tables e below (T.setTop (mkF m (pc + 1) Ls (.int v :: st))) P) : Goes p.tables e below (T.setTop (mkF m pc Ls st)) P := hr.of fun _ k => XS.iloadN X.here hx rfl hd hl k
theorem g_iload (X : Stand p l e R s m args below meth c T locs cells slots) (hx : p.tables.exec = Jvm.exec) {k : Nat} {v : Int32} (hd : decode c.code pc = .ok (.iload k, 2)) (hl : Ls[k]? = some (.val (.int v))) (hr : Goes p.tables e below (T.setTop (mkF m (pc + 2) Ls (.int v :: st))) P) : Goes p.tables e below (T.setTop (mkF m pc Ls st)) P := hr.of fun _ k => XS.iload X.here hx rfl hd hl k
theorem g_lloadN (X : Stand p l e R s m args below meth c T locs cells slots) (hx : p.tables.exec = Jvm.exec) {k : Fin 4} {v : Int64} (hd : decode c.code pc = .ok (.lload_n k, 1)) (hl : Ls[k.val]? = some (.val (.long v))) (hr : Goes p.tables e below (T.setTop (mkF m (pc + 1) Ls (.long v :: st))) P) : Goes p.tables e below (T.setTop (mkF m pc Ls st)) P := hr.of fun _ k => XT.lloadN X.here hx rfl hd hl k
theorem g_lload (X : Stand p l e R s m args below meth c T locs cells slots) (hx : p.tables.exec = Jvm.exec) {k : Nat} {v : Int64} (hd : decode c.code pc = .ok (.lload k, 2)) (hl : Ls[k]? = some (.val (.long v))) (hr : Goes p.tables e below (T.setTop (mkF m (pc + 2) Ls (.long v :: st))) P) : Goes p.tables e below (T.setTop (mkF m pc Ls st)) P := hr.of fun _ k => XT.lload X.here hx rfl hd hl k
theorem g_aloadN (X : Stand p l e R s m args below meth c T locs cells slots) (hx : p.tables.exec = Jvm.exec) {k : Fin 4} {v : Value} (hd : decode c.code pc = .ok (.aload_n k, 1)) (hl : Ls[k.val]? = some (.val v)) (hv : v.isRef = true) (hr : Goes p.tables e below (T.setTop (mkF m (pc + 1) Ls (v :: st))) P) : Goes p.tables e below (T.setTop (mkF m pc Ls st)) P := hr.of fun _ k => XS.aloadN X.here hx rfl hd hl hv k
theorem g_aload (X : Stand p l e R s m args below meth c T locs cells slots) (hx : p.tables.exec = Jvm.exec) {k : Nat} {v : Value} (hd : decode c.code pc = .ok (.aload k, 2)) (hl : Ls[k]? = some (.val v)) (hv : v.isRef = true) (hr : Goes p.tables e below (T.setTop (mkF m (pc + 2) Ls (v :: st))) P) : Goes p.tables e below (T.setTop (mkF m pc Ls st)) P := hr.of fun _ k => XS.aload X.here hx rfl hd hl hv k
theorem g_istoreN (X : Stand p l e R s m args below meth c T locs cells slots) (hx : p.tables.exec = Jvm.exec) {k : Fin 4} {x : Int32} {l' : Array Slot} (hd : decode c.code pc = .ok (.istore_n k, 1)) (hl : storeLocals Ls k.val (.int x) = some l') (hr : Goes p.tables e below (T.setTop (mkF m (pc + 1) l' st)) P) : Goes p.tables e below (T.setTop (mkF m pc Ls (.int x :: st))) P := hr.of fun _ k => XS.istoreN X.here hx rfl hd rfl hl k
theorem g_istore (X : Stand p l e R s m args below meth c T locs cells slots) (hx : p.tables.exec = Jvm.exec) {k : Nat} {x : Int32} {l' : Array Slot} (hd : decode c.code pc = .ok (.istore k, 2)) (hl : storeLocals Ls k (.int x) = some l') (hr : Goes p.tables e below (T.setTop (mkF m (pc + 2) l' st)) P) : Goes p.tables e below (T.setTop (mkF m pc Ls (.int x :: st))) P := hr.of fun _ k => XS.istore X.here hx rfl hd rfl hl k
theorem g_lstoreN (X : Stand p l e R s m args below meth c T locs cells slots) (hx : p.tables.exec = Jvm.exec) {k : Fin 4} {x : Int64} {l' : Array Slot} (hd : decode c.code pc = .ok (.lstore_n k, 1)) (hl : storeLocals Ls k.val (.long x) = some l') (hr : Goes p.tables e below (T.setTop (mkF m (pc + 1) l' st)) P) : Goes p.tables e below (T.setTop (mkF m pc Ls (.long x :: st))) P := hr.of fun _ k => XT.lstoreN X.here hx rfl hd rfl hl k
theorem g_lstore (X : Stand p l e R s m args below meth c T locs cells slots) (hx : p.tables.exec = Jvm.exec) {k : Nat} {x : Int64} {l' : Array Slot} (hd : decode c.code pc = .ok (.lstore k, 2)) (hl : storeLocals Ls k (.long x) = some l') (hr : Goes p.tables e below (T.setTop (mkF m (pc + 2) l' st)) P) : Goes p.tables e below (T.setTop (mkF m pc Ls (.long x :: st))) P := hr.of fun _ k => XT.lstore X.here hx rfl hd rfl hl k
theorem g_astoreN (X : Stand p l e R s m args below meth c T locs cells slots) (hx : p.tables.exec = Jvm.exec) {k : Fin 4} {x : Value} {l' : Array Slot} (hd : decode c.code pc = .ok (.astore_n k, 1)) (hv : x.isRef = true) (hl : storeLocals Ls k.val x = some l') (hr : Goes p.tables e below (T.setTop (mkF m (pc + 1) l' st)) P) : Goes p.tables e below (T.setTop (mkF m pc Ls (x :: st))) P := hr.of fun _ k => XS.astoreN X.here hx rfl hd rfl hv hl k
theorem g_astore (X : Stand p l e R s m args below meth c T locs cells slots) (hx : p.tables.exec = Jvm.exec) {k : Nat} {x : Value} {l' : Array Slot} (hd : decode c.code pc = .ok (.astore k, 2)) (hv : x.isRef = true) (hl : storeLocals Ls k x = some l') (hr : Goes p.tables e below (T.setTop (mkF m (pc + 2) l' st)) P) : Goes p.tables e below (T.setTop (mkF m pc Ls (x :: st))) P := hr.of fun _ k => XS.astore X.here hx rfl hd rfl hv hl k
theorem g_istoreS (X : Stand p l e R s m args below meth c T locs cells slots) (hx : p.tables.exec = Jvm.exec) {k : Nat} {x : Int32} {o : Slot} (hd : decode c.code pc = .ok (.istore k, 2)) (hold : Ls[k]? = some o) (ho : One o) (hr : Goes p.tables e below (T.setTop (mkF m (pc + 2) (Ls.setIfInBounds k (.val (.int x))) st)) P) : Goes p.tables e below (T.setTop (mkF m pc Ls (.int x :: st))) P := hr.of fun _ k => XS.istoreS X.here hx rfl hd rfl hold ho k
theorem g_istoreNS (X : Stand p l e R s m args below meth c T locs cells slots) (hx : p.tables.exec = Jvm.exec) {k : Fin 4} {x : Int32} {o : Slot} (hd : decode c.code pc = .ok (.istore_n k, 1)) (hold : Ls[k.val]? = some o) (ho : One o) (hr : Goes p.tables e below (T.setTop (mkF m (pc + 1) (Ls.setIfInBounds k.val (.val (.int x))) st)) P) : Goes p.tables e below (T.setTop (mkF m pc Ls (.int x :: st))) P := hr.of fun _ k => XS.istoreNS X.here hx rfl hd rfl hold ho k
theorem g_iconst (X : Stand p l e R s m args below meth c T locs cells slots) (hx : p.tables.exec = Jvm.exec) {i : Int} (v : Int32) (hd : decode c.code pc = .ok (.iconst i, 1)) (hv : Int32.ofInt i = v) (hr : Goes p.tables e below (T.setTop (mkF m (pc + 1) Ls (.int v :: st))) P) : Goes p.tables e below (T.setTop (mkF m pc Ls st)) P := hr.of fun _ k => XT.iconstV X.here hx rfl v hd hv k
theorem g_bipush (X : Stand p l e R s m args below meth c T locs cells slots) (hx : p.tables.exec = Jvm.exec) {i : Int} (v : Int32) (hd : decode c.code pc = .ok (.bipush i, 2)) (hv : (Int8.ofInt i).toInt32 = v) (hr : Goes p.tables e below (T.setTop (mkF m (pc + 2) Ls (.int v :: st))) P) : Goes p.tables e below (T.setTop (mkF m pc Ls st)) P := hr.of fun _ k => XT.bipushV X.here hx rfl v hd hv k
theorem g_sipush (X : Stand p l e R s m args below meth c T locs cells slots) (hx : p.tables.exec = Jvm.exec) {i : Int} (v : Int32) (hd : decode c.code pc = .ok (.sipush i, 3)) (hv : (Int16.ofInt i).toInt32 = v) (hr : Goes p.tables e below (T.setTop (mkF m (pc + 3) Ls (.int v :: st))) P) : Goes p.tables e below (T.setTop (mkF m pc Ls st)) P := hr.of fun _ k => XT.sipushV X.here hx rfl v hd hv k
theorem g_lconst (X : Stand p l e R s m args below meth c T locs cells slots) (hx : p.tables.exec = Jvm.exec) {i : Fin 2} (v : Int64) (hd : decode c.code pc = .ok (.lconst i, 1)) (hv : Int64.ofNat i = v) (hr : Goes p.tables e below (T.setTop (mkF m (pc + 1) Ls (.long v :: st))) P) : Goes p.tables e below (T.setTop (mkF m pc Ls st)) P := hr.of fun _ k => XT.lconstV X.here hx rfl v hd hv k
theorem g_null (X : Stand p l e R s m args below meth c T locs cells slots) (hx : p.tables.exec = Jvm.exec)  (hd : decode c.code pc = .ok (.aconst_null, 1)) (hr : Goes p.tables e below (T.setTop (mkF m (pc + 1) Ls (.null :: st))) P) : Goes p.tables e below (T.setTop (mkF m pc Ls st)) P := hr.of fun _ k => XS.aconstNull X.here hx rfl hd k
theorem g_ldc (X : Stand p l e R s m args below meth c T locs cells slots) (hx : p.tables.exec = Jvm.exec) {own : String} {index : Nat} {v : Int32} (hZ : Z.Warmed39 s.vm) (hown : s.vm.findClass own = some m.cls) (wk : (Jvm.Cond.constant own index v).before a0 Z = true) (hd : decode c.code pc = .ok (.ldc index, 2)) (hr : Goes p.tables e below (T.setTop (mkF m (pc + 2) Ls (.int v :: st))) P) : Goes p.tables e below (T.setTop (mkF m pc Ls st)) P := hr.of fun _ k => X.ldcI hx hown (mvT hZ wk) rfl hd k
theorem g_ldcw (X : Stand p l e R s m args below meth c T locs cells slots) (hx : p.tables.exec = Jvm.exec) {own : String} {index : Nat} {v : Int32} (hZ : Z.Warmed39 s.vm) (hown : s.vm.findClass own = some m.cls) (wk : (Jvm.Cond.constant own index v).before a0 Z = true) (hd : decode c.code pc = .ok (.ldc_w index, 3)) (hr : Goes p.tables e below (T.setTop (mkF m (pc + 3) Ls (.int v :: st))) P) : Goes p.tables e below (T.setTop (mkF m pc Ls st)) P := hr.of fun _ k => X.ldcWI hx hown (mvT hZ wk) rfl hd k
theorem g_ldc2 (X : Stand p l e R s m args below meth c T locs cells slots) (hx : p.tables.exec = Jvm.exec) {own : String} {index : Nat} {v : Int64} (hZ : Z.Warmed39 s.vm) (hown : s.vm.findClass own = some m.cls) (wk : (Jvm.Cond.constantLong own index v).before a0 Z = true) (hd : decode c.code pc = .ok (.ldc2_w index, 3)) (hr : Goes p.tables e below (T.setTop (mkF m (pc + 3) Ls (.long v :: st))) P) : Goes p.tables e below (T.setTop (mkF m pc Ls st)) P := hr.of fun _ k => X.ldc2J hx hown (mvT hZ wk) rfl hd k
theorem g_iadd (X : Stand p l e R s m args below meth c T locs cells slots) (hx : p.tables.exec = Jvm.exec) {x y : Int32} (hd : decode c.code pc = .ok (.iadd, 1)) (hr : Goes p.tables e below (T.setTop (mkF m (pc + 1) Ls (.int (x + y) :: st))) P) : Goes p.tables e below (T.setTop (mkF m pc Ls (.int y :: .int x :: st))) P := hr.of fun _ k => XS.iadd X.here hx rfl hd rfl k
theorem g_isub (X : Stand p l e R s m args below meth c T locs cells slots) (hx : p.tables.exec = Jvm.exec) {x y : Int32} (hd : decode c.code pc = .ok (.isub, 1)) (hr : Goes p.tables e below (T.setTop (mkF m (pc + 1) Ls (.int (x - y) :: st))) P) : Goes p.tables e below (T.setTop (mkF m pc Ls (.int y :: .int x :: st))) P := hr.of fun _ k => XS.isub X.here hx rfl hd rfl k
theorem g_imul (X : Stand p l e R s m args below meth c T locs cells slots) (hx : p.tables.exec = Jvm.exec) {x y : Int32} (hd : decode c.code pc = .ok (.imul, 1)) (hr : Goes p.tables e below (T.setTop (mkF m (pc + 1) Ls (.int (x * y) :: st))) P) : Goes p.tables e below (T.setTop (mkF m pc Ls (.int y :: .int x :: st))) P := hr.of fun _ k => XS.imul X.here hx rfl hd rfl k
theorem g_iand (X : Stand p l e R s m args below meth c T locs cells slots) (hx : p.tables.exec = Jvm.exec) {x y : Int32} (hd : decode c.code pc = .ok (.iand, 1)) (hr : Goes p.tables e below (T.setTop (mkF m (pc + 1) Ls (.int (x &&& y) :: st))) P) : Goes p.tables e below (T.setTop (mkF m pc Ls (.int y :: .int x :: st))) P := hr.of fun _ k => XS.iand X.here hx rfl hd rfl k
theorem g_ior (X : Stand p l e R s m args below meth c T locs cells slots) (hx : p.tables.exec = Jvm.exec) {x y : Int32} (hd : decode c.code pc = .ok (.ior, 1)) (hr : Goes p.tables e below (T.setTop (mkF m (pc + 1) Ls (.int (x ||| y) :: st))) P) : Goes p.tables e below (T.setTop (mkF m pc Ls (.int y :: .int x :: st))) P := hr.of fun _ k => XT.ior X.here hx rfl hd rfl k
theorem g_ixor (X : Stand p l e R s m args below meth c T locs cells slots) (hx : p.tables.exec = Jvm.exec) {x y : Int32} (hd : decode c.code pc = .ok (.ixor, 1)) (hr : Goes p.tables e below (T.setTop (mkF m (pc + 1) Ls (.int (x ^^^ y) :: st))) P) : Goes p.tables e below (T.setTop (mkF m pc Ls (.int y :: .int x :: st))) P := hr.of fun _ k => XT.ixor X.here hx rfl hd rfl k
theorem g_ishl (X : Stand p l e R s m args below meth c T locs cells slots) (hx : p.tables.exec = Jvm.exec) {x y : Int32} (hd : decode c.code pc = .ok (.ishl, 1)) (hr : Goes p.tables e below (T.setTop (mkF m (pc + 1) Ls (.int (x <<< (y &&& 31)) :: st))) P) : Goes p.tables e below (T.setTop (mkF m pc Ls (.int y :: .int x :: st))) P := hr.of fun _ k => XT.ishl X.here hx rfl hd rfl k
theorem g_ishr (X : Stand p l e R s m args below meth c T locs cells slots) (hx : p.tables.exec = Jvm.exec) {x y : Int32} (hd : decode c.code pc = .ok (.ishr, 1)) (hr : Goes p.tables e below (T.setTop (mkF m (pc + 1) Ls (.int (x >>> (y &&& 31)) :: st))) P) : Goes p.tables e below (T.setTop (mkF m pc Ls (.int y :: .int x :: st))) P := hr.of fun _ k => XT.ishr X.here hx rfl hd rfl k
theorem g_iushr (X : Stand p l e R s m args below meth c T locs cells slots) (hx : p.tables.exec = Jvm.exec) {x y : Int32} (hd : decode c.code pc = .ok (.iushr, 1)) (hr : Goes p.tables e below (T.setTop (mkF m (pc + 1) Ls (.int (XT.ushr x y) :: st))) P) : Goes p.tables e below (T.setTop (mkF m pc Ls (.int y :: .int x :: st))) P := hr.of fun _ k => XT.iushr X.here hx rfl hd rfl k
theorem g_ladd (X : Stand p l e R s m args below meth c T locs cells slots) (hx : p.tables.exec = Jvm.exec) {x y : Int64} (hd : decode c.code pc = .ok (.ladd, 1)) (hr : Goes p.tables e below (T.setTop (mkF m (pc + 1) Ls (.long (x + y) :: st))) P) : Goes p.tables e below (T.setTop (mkF m pc Ls (.long y :: .long x :: st))) P := hr.of fun _ k => XT.ladd X.here hx rfl hd rfl k
theorem g_lsub (X : Stand p l e R s m args below meth c T locs cells slots) (hx : p.tables.exec = Jvm.exec) {x y : Int64} (hd : decode c.code pc = .ok (.lsub, 1)) (hr : Goes p.tables e below (T.setTop (mkF m (pc + 1) Ls (.long (x - y) :: st))) P) : Goes p.tables e below (T.setTop (mkF m pc Ls (.long y :: .long x :: st))) P := hr.of fun _ k => XT.lsub X.here hx rfl hd rfl k
theorem g_lmul (X : Stand p l e R s m args below meth c T locs cells slots) (hx : p.tables.exec = Jvm.exec) {x y : Int64} (hd : decode c.code pc = .ok (.lmul, 1)) (hr : Goes p.tables e below (T.setTop (mkF m (pc + 1) Ls (.long (x * y) :: st))) P) : Goes p.tables e below (T.setTop (mkF m pc Ls (.long y :: .long x :: st))) P := hr.of fun _ k => XT.lmul X.here hx rfl hd rfl k
theorem g_land (X : Stand p l e R s m args below meth c T locs cells slots) (hx : p.tables.exec = Jvm.exec) {x y : Int64} (hd : decode c.code pc = .ok (.land, 1)) (hr : Goes p.tables e below (T.setTop (mkF m (pc + 1) Ls (.long (x &&& y) :: st))) P) : Goes p.tables e below (T.setTop (mkF m pc Ls (.long y :: .long x :: st))) P := hr.of fun _ k => XT.land X.here hx rfl hd rfl k
theorem g_lor (X : Stand p l e R s m args below meth c T locs cells slots) (hx : p.tables.exec = Jvm.exec) {x y : Int64} (hd : decode c.code pc = .ok (.lor, 1)) (hr : Goes p.tables e below (T.setTop (mkF m (pc + 1) Ls (.long (x ||| y) :: st))) P) : Goes p.tables e below (T.setTop (mkF m pc Ls (.long y :: .long x :: st))) P := hr.of fun _ k => XT.lor X.here hx rfl hd rfl k
theorem g_lxor (X : Stand p l e R s m args below meth c T locs cells slots) (hx : p.tables.exec = Jvm.exec) {x y : Int64} (hd : decode c.code pc = .ok (.lxor, 1)) (hr : Goes p.tables e below (T.setTop (mkF m (pc + 1) Ls (.long (x ^^^ y) :: st))) P) : Goes p.tables e below (T.setTop (mkF m pc Ls (.long y :: .long x :: st))) P := hr.of fun _ k => XT.lxor X.here hx rfl hd rfl k
theorem g_lshl (X : Stand p l e R s m args below meth c T locs cells slots) (hx : p.tables.exec = Jvm.exec) {x : Int64} {y : Int32} (hd : decode c.code pc = .ok (.lshl, 1)) (hr : Goes p.tables e below (T.setTop (mkF m (pc + 1) Ls (.long (x <<< (y.toInt64 &&& 63)) :: st))) P) : Goes p.tables e below (T.setTop (mkF m pc Ls (.int y :: .long x :: st))) P := hr.of fun _ k => XT.lshl X.here hx rfl hd rfl k
theorem g_lshr (X : Stand p l e R s m args below meth c T locs cells slots) (hx : p.tables.exec = Jvm.exec) {x : Int64} {y : Int32} (hd : decode c.code pc = .ok (.lshr, 1)) (hr : Goes p.tables e below (T.setTop (mkF m (pc + 1) Ls (.long (x >>> (y.toInt64 &&& 63)) :: st))) P) : Goes p.tables e below (T.setTop (mkF m pc Ls (.int y :: .long x :: st))) P := hr.of fun _ k => XT.lshr X.here hx rfl hd rfl k
theorem g_lushr (X : Stand p l e R s m args below meth c T locs cells slots) (hx : p.tables.exec = Jvm.exec) {x : Int64} {y : Int32} (hd : decode c.code pc = .ok (.lushr, 1)) (hr : Goes p.tables e below (T.setTop (mkF m (pc + 1) Ls (.long (XT.ushrL x y) :: st))) P) : Goes p.tables e below (T.setTop (mkF m pc Ls (.int y :: .long x :: st))) P := hr.of fun _ k => XT.lushr X.here hx rfl hd rfl k
theorem g_idiv (X : Stand p l e R s m args below meth c T locs cells slots) (hx : p.tables.exec = Jvm.exec) {x y : Int32} (hd : decode c.code pc = .ok (.idiv, 1)) (hy : y ≠ 0) (hr : Goes p.tables e below (T.setTop (mkF m (pc + 1) Ls (.int (x / y) :: st))) P) : Goes p.tables e below (T.setTop (mkF m pc Ls (.int y :: .int x :: st))) P := hr.of fun _ k => XS.idiv X.here hx rfl hd rfl hy k
theorem g_irem (X : Stand p l e R s m args below meth c T locs cells slots) (hx : p.tables.exec = Jvm.exec) {x y : Int32} (hd : decode c.code pc = .ok (.irem, 1)) (hy : y ≠ 0) (hr : Goes p.tables e below (T.setTop (mkF m (pc + 1) Ls (.int (x % y) :: st))) P) : Goes p.tables e below (T.setTop (mkF m pc Ls (.int y :: .int x :: st))) P := hr.of fun _ k => iremM X hx rfl hd rfl hy k
theorem g_ldiv (X : Stand p l e R s m args below meth c T locs cells slots) (hx : p.tables.exec = Jvm.exec) {x y : Int64} (hd : decode c.code pc = .ok (.ldiv, 1)) (hy : y ≠ 0) (hr : Goes p.tables e below (T.setTop (mkF m (pc + 1) Ls (.long (x / y) :: st))) P) : Goes p.tables e below (T.setTop (mkF m pc Ls (.long y :: .long x :: st))) P := hr.of fun _ k => XT.ldiv X.here hx rfl hd rfl hy k
theorem g_lrem (X : Stand p l e R s m args below meth c T locs cells slots) (hx : p.tables.exec = Jvm.exec) {x y : Int64} (hd : decode c.code pc = .ok (.lrem, 1)) (hy : y ≠ 0) (hr : Goes p.tables e below (T.setTop (mkF m (pc + 1) Ls (.long (x % y) :: st))) P) : Goes p.tables e below (T.setTop (mkF m pc Ls (.long y :: .long x :: st))) P := hr.of fun _ k => XT.lrem X.here hx rfl hd rfl hy (by rw [lrem_mod]; exact k)
theorem g_ineg (X : Stand p l e R s m args below meth c T locs cells slots) (hx : p.tables.exec = Jvm.exec) {x : Int32} (hd : decode c.code pc = .ok (.ineg, 1)) (hr : Goes p.tables e below (T.setTop (mkF m (pc + 1) Ls (.int (-x) :: st))) P) : Goes p.tables e below (T.setTop (mkF m pc Ls (.int x :: st))) P := hr.of fun _ k => XS.ineg X.here hx rfl hd rfl k
theorem g_lneg (X : Stand p l e R s m args below meth c T locs cells slots) (hx : p.tables.exec = Jvm.exec) {x : Int64} (hd : decode c.code pc = .ok (.lneg, 1)) (hr : Goes p.tables e below (T.setTop (mkF m (pc + 1) Ls (.long (-x) :: st))) P) : Goes p.tables e below (T.setTop (mkF m pc Ls (.long x :: st))) P := hr.of fun _ k => XT.lneg X.here hx rfl hd rfl k
theorem g_i2l (X : Stand p l e R s m args below meth c T locs cells slots) (hx : p.tables.exec = Jvm.exec) {x : Int32} (hd : decode c.code pc = .ok (.i2l, 1)) (hr : Goes p.tables e below (T.setTop (mkF m (pc + 1) Ls (.long (x.toInt64) :: st))) P) : Goes p.tables e below (T.setTop (mkF m pc Ls (.int x :: st))) P := hr.of fun _ k => XT.i2l X.here hx rfl hd rfl k
theorem g_l2i (X : Stand p l e R s m args below meth c T locs cells slots) (hx : p.tables.exec = Jvm.exec) {x : Int64} (hd : decode c.code pc = .ok (.l2i, 1)) (hr : Goes p.tables e below (T.setTop (mkF m (pc + 1) Ls (.int (x.toInt32) :: st))) P) : Goes p.tables e below (T.setTop (mkF m pc Ls (.long x :: st))) P := hr.of fun _ k => XT.l2i X.here hx rfl hd rfl k
theorem g_i2b (X : Stand p l e R s m args below meth c T locs cells slots) (hx : p.tables.exec = Jvm.exec) {x : Int32} (hd : decode c.code pc = .ok (.i2b, 1)) (hr : Goes p.tables e below (T.setTop (mkF m (pc + 1) Ls (.int (x.toInt8.toInt32) :: st))) P) : Goes p.tables e below (T.setTop (mkF m pc Ls (.int x :: st))) P := hr.of fun _ k => XT.i2b X.here hx rfl hd rfl k
theorem g_i2c (X : Stand p l e R s m args below meth c T locs cells slots) (hx : p.tables.exec = Jvm.exec) {x : Int32} (hd : decode c.code pc = .ok (.i2c, 1)) (hr : Goes p.tables e below (T.setTop (mkF m (pc + 1) Ls (.int (x.toUInt32.toUInt16.toUInt32.toInt32) :: st))) P) : Goes p.tables e below (T.setTop (mkF m pc Ls (.int x :: st))) P := hr.of fun _ k => XT.i2c X.here hx rfl hd rfl k
theorem g_i2s (X : Stand p l e R s m args below meth c T locs cells slots) (hx : p.tables.exec = Jvm.exec) {x : Int32} (hd : decode c.code pc = .ok (.i2s, 1)) (hr : Goes p.tables e below (T.setTop (mkF m (pc + 1) Ls (.int (x.toInt16.toInt32) :: st))) P) : Goes p.tables e below (T.setTop (mkF m pc Ls (.int x :: st))) P := hr.of fun _ k => XT.i2s X.here hx rfl hd rfl k
theorem g_lcmp (X : Stand p l e R s m args below meth c T locs cells slots) (hx : p.tables.exec = Jvm.exec) {x y : Int64} (hd : decode c.code pc = .ok (.lcmp, 1)) (hr : Goes p.tables e below (T.setTop (mkF m (pc + 1) Ls (.int (XT.cmpL x y) :: st))) P) : Goes p.tables e below (T.setTop (mkF m pc Ls (.long y :: .long x :: st))) P := hr.of fun _ k => XT.lcmp X.here hx rfl hd rfl k
theorem g_dup (X : Stand p l e R s m args below meth c T locs cells slots) (hx : p.tables.exec = Jvm.exec) {x : Value} (hd : decode c.code pc = .ok (.dup, 1)) (hc : x.category = 1) (hr : Goes p.tables e below (T.setTop (mkF m (pc + 1) Ls (x :: x :: st))) P) : Goes p.tables e below (T.setTop (mkF m pc Ls (x :: st))) P := hr.of fun _ k => XS.dup X.here hx rfl hd rfl hc k
theorem g_pop (X : Stand p l e R s m args below meth c T locs cells slots) (hx : p.tables.exec = Jvm.exec) {x : Value} (hd : decode c.code pc = .ok (.pop, 1)) (hc : x.category = 1) (hr : Goes p.tables e below (T.setTop (mkF m (pc + 1) Ls st)) P) : Goes p.tables e below (T.setTop (mkF m pc Ls (x :: st))) P := hr.of fun _ k => XT.pop X.here hx rfl hd rfl hc k
theorem g_dupX1 (X : Stand p l e R s m args below meth c T locs cells slots) (hx : p.tables.exec = Jvm.exec) {x y : Value} (hd : decode c.code pc = .ok (.dup_x1, 1)) (hc : x.category = 1) (hc' : y.category = 1) (hr : Goes p.tables e below (T.setTop (mkF m (pc + 1) Ls (x :: y :: x :: st))) P) : Goes p.tables e below (T.setTop (mkF m pc Ls (x :: y :: st))) P := hr.of fun _ k => XT.dupX1 X.here hx rfl hd rfl hc hc' k
theorem g_dup2 (X : Stand p l e R s m args below meth c T locs cells slots) (hx : p.tables.exec = Jvm.exec) {x y : Value} (hd : decode c.code pc = .ok (.dup2, 1)) (hc : x.category = 1) (hc' : y.category = 1) (hr : Goes p.tables e below (T.setTop (mkF m (pc + 1) Ls (x :: y :: x :: y :: st))) P) : Goes p.tables e below (T.setTop (mkF m pc Ls (x :: y :: st))) P := hr.of fun _ k => XT.dup2 X.here hx rfl hd rfl hc hc' k
theorem g_dup2L (X : Stand p l e R s m args below meth c T locs cells slots) (hx : p.tables.exec = Jvm.exec) {x : Int64} (hd : decode c.code pc = .ok (.dup2, 1)) (hr : Goes p.tables e below (T.setTop (mkF m (pc + 1) Ls (.long x :: .long x :: st))) P) : Goes p.tables e below (T.setTop (mkF m pc Ls (.long x :: st))) P := hr.of fun _ k => XT.dup2L X.here hx rfl hd rfl k
theorem g_iinc (X : Stand p l e R s m args below meth c T locs cells slots) (hx : p.tables.exec = Jvm.exec) {k : Nat} {cst : Int} {x : Int32} {l' : Array Slot} (v : Int32) (hd : decode c.code pc = .ok (.iinc k cst, 3)) (hv : Int32.ofInt cst = v) (hl : Ls[k]? = some (.val (.int x))) (hl' : storeLocals Ls k (.int (x + v)) = some l') (hr : Goes p.tables e below (T.setTop (mkF m (pc + 3) l' st)) P) : Goes p.tables e below (T.setTop (mkF m pc Ls st)) P := hr.of fun _ k => XT.iincV X.here hx rfl v hd hv hl hl' k
theorem g_goto (X : Stand p l e R s m args below meth c T locs cells slots) (hx : p.tables.exec = Jvm.exec) {o : Int} {pc' : Nat} (hd : decode c.code pc = .ok (.goto o, 3)) (ho : 0 ≤ (pc : Int) + o) (hp : ((pc : Int) + o).toNat = pc') (hr : Goes p.tables e below (T.setTop (mkF m pc' Ls st)) P) : Goes p.tables e below (T.setTop (mkF m pc Ls st)) P := hr.of fun _ k => XS.goto X.here hx rfl rfl hd ho hp k
theorem g_icmp_eq (X : Stand p l e R s m args below meth c T locs cells slots) (hx : p.tables.exec = Jvm.exec) {x y : Int32} {o : Int} {pc' : Nat} (hd : decode c.code pc = .ok (.if_icmp .eq o, 3)) (ho : 0 ≤ (pc : Int) + o) (hp : ((pc : Int) + o).toNat = pc') (hT : (x = y) → Goes p.tables e below (T.setTop (mkF m pc' Ls st)) P) (hF : (¬ x = y) → Goes p.tables e below (T.setTop (mkF m (pc + 3) Ls st)) P) : Goes p.tables e below (T.setTop (mkF m pc Ls (.int y :: .int x :: st))) P := by
  by_cases q : x = y
  · exact (hT q).of fun _ k => XS.icmpYes X.here hx rfl rfl hd rfl (XT.ii_eq_t q) ho hp k
  · exact (hF q).of fun _ k => XS.icmpNo X.here hx rfl hd rfl (XT.ii_eq_f q) k
theorem g_if_eq (X : Stand p l e R s m args below meth c T locs cells slots) (hx : p.tables.exec = Jvm.exec) {x : Int32} {o : Int} {pc' : Nat} (hd : decode c.code pc = .ok (.ifCond .eq o, 3)) (ho : 0 ≤ (pc : Int) + o) (hp : ((pc : Int) + o).toNat = pc') (hT : (x = 0) → Goes p.tables e below (T.setTop (mkF m pc' Ls st)) P) (hF : (¬ x = 0) → Goes p.tables e below (T.setTop (mkF m (pc + 3) Ls st)) P) : Goes p.tables e below (T.setTop (mkF m pc Ls (.int x :: st))) P := by
  by_cases q : x = 0
  · exact (hT q).of fun _ k => XS.ifYes X.here hx rfl rfl hd rfl (XT.i0_eq_t q) ho hp k
  · exact (hF q).of fun _ k => XS.ifNo X.here hx rfl hd rfl (XT.i0_eq_f q) k
theorem g_lif_eq (X : Stand p l e R s m args below meth c T locs cells slots) (hx : p.tables.exec = Jvm.exec) {x y : Int64} {o : Int} {pc' : Nat} (hd : decode c.code pc = .ok (.ifCond .eq o, 3)) (ho : 0 ≤ (pc : Int) + o) (hp : ((pc : Int) + o).toNat = pc') (hT : (x = y) → Goes p.tables e below (T.setTop (mkF m pc' Ls st)) P) (hF : (¬ x = y) → Goes p.tables e below (T.setTop (mkF m (pc + 3) Ls st)) P) : Goes p.tables e below (T.setTop (mkF m pc Ls (.int (XT.cmpL x y) :: st))) P := by
  by_cases q : x = y
  · exact (hT q).of fun _ k => XS.ifYes X.here hx rfl rfl hd rfl (XT.ll_eq_t q) ho hp k
  · exact (hF q).of fun _ k => XS.ifNo X.here hx rfl hd rfl (XT.ll_eq_f q) k
theorem g_icmp_ne (X : Stand p l e R s m args below meth c T locs cells slots) (hx : p.tables.exec = Jvm.exec) {x y : Int32} {o : Int} {pc' : Nat} (hd : decode c.code pc = .ok (.if_icmp .ne o, 3)) (ho : 0 ≤ (pc : Int) + o) (hp : ((pc : Int) + o).toNat = pc') (hT : (¬ x = y) → Goes p.tables e below (T.setTop (mkF m pc' Ls st)) P) (hF : (x = y) → Goes p.tables e below (T.setTop (mkF m (pc + 3) Ls st)) P) : Goes p.tables e below (T.setTop (mkF m pc Ls (.int y :: .int x :: st))) P := by
  by_cases q : x = y
  · exact (hF q).of fun _ k => XS.icmpNo X.here hx rfl hd rfl (XT.ii_ne_f q) k
  · exact (hT q).of fun _ k => XS.icmpYes X.here hx rfl rfl hd rfl (XT.ii_ne_t q) ho hp k
theorem g_if_ne (X : Stand p l e R s m args below meth c T locs cells slots) (hx : p.tables.exec = Jvm.exec) {x : Int32} {o : Int} {pc' : Nat} (hd : decode c.code pc = .ok (.ifCond .ne o, 3)) (ho : 0 ≤ (pc : Int) + o) (hp : ((pc : Int) + o).toNat = pc') (hT : (¬ x = 0) → Goes p.tables e below (T.setTop (mkF m pc' Ls st)) P) (hF : (x = 0) → Goes p.tables e below (T.setTop (mkF m (pc + 3) Ls st)) P) : Goes p.tables e below (T.setTop (mkF m pc Ls (.int x :: st))) P := by
  by_cases q : x = 0
  · exact (hF q).of fun _ k => XS.ifNo X.here hx rfl hd rfl (XT.i0_ne_f q) k
  · exact (hT q).of fun _ k => XS.ifYes X.here hx rfl rfl hd rfl (XT.i0_ne_t q) ho hp k
theorem g_lif_ne (X : Stand p l e R s m args below meth c T locs cells slots) (hx : p.tables.exec = Jvm.exec) {x y : Int64} {o : Int} {pc' : Nat} (hd : decode c.code pc = .ok (.ifCond .ne o, 3)) (ho : 0 ≤ (pc : Int) + o) (hp : ((pc : Int) + o).toNat = pc') (hT : (¬ x = y) → Goes p.tables e below (T.setTop (mkF m pc' Ls st)) P) (hF : (x = y) → Goes p.tables e below (T.setTop (mkF m (pc + 3) Ls st)) P) : Goes p.tables e below (T.setTop (mkF m pc Ls (.int (XT.cmpL x y) :: st))) P := by
  by_cases q : x = y
  · exact (hF q).of fun _ k => XS.ifNo X.here hx rfl hd rfl (XT.ll_ne_f q) k
  · exact (hT q).of fun _ k => XS.ifYes X.here hx rfl rfl hd rfl (XT.ll_ne_t q) ho hp k
theorem g_icmp_lt (X : Stand p l e R s m args below meth c T locs cells slots) (hx : p.tables.exec = Jvm.exec) {x y : Int32} {o : Int} {pc' : Nat} (hd : decode c.code pc = .ok (.if_icmp .lt o, 3)) (ho : 0 ≤ (pc : Int) + o) (hp : ((pc : Int) + o).toNat = pc') (hT : (x < y) → Goes p.tables e below (T.setTop (mkF m pc' Ls st)) P) (hF : (¬ x < y) → Goes p.tables e below (T.setTop (mkF m (pc + 3) Ls st)) P) : Goes p.tables e below (T.setTop (mkF m pc Ls (.int y :: .int x :: st))) P := by
  by_cases q : x < y
  · exact (hT q).of fun _ k => XS.icmpYes X.here hx rfl rfl hd rfl (XT.ii_lt_t q) ho hp k
  · exact (hF q).of fun _ k => XS.icmpNo X.here hx rfl hd rfl (XT.ii_lt_f q) k
theorem g_if_lt (X : Stand p l e R s m args below meth c T locs cells slots) (hx : p.tables.exec = Jvm.exec) {x : Int32} {o : Int} {pc' : Nat} (hd : decode c.code pc = .ok (.ifCond .lt o, 3)) (ho : 0 ≤ (pc : Int) + o) (hp : ((pc : Int) + o).toNat = pc') (hT : (x < 0) → Goes p.tables e below (T.setTop (mkF m pc' Ls st)) P) (hF : (¬ x < 0) → Goes p.tables e below (T.setTop (mkF m (pc + 3) Ls st)) P) : Goes p.tables e below (T.setTop (mkF m pc Ls (.int x :: st))) P := by
  by_cases q : x < 0
  · exact (hT q).of fun _ k => XS.ifYes X.here hx rfl rfl hd rfl (XT.i0_lt_t q) ho hp k
  · exact (hF q).of fun _ k => XS.ifNo X.here hx rfl hd rfl (XT.i0_lt_f q) k
theorem g_lif_lt (X : Stand p l e R s m args below meth c T locs cells slots) (hx : p.tables.exec = Jvm.exec) {x y : Int64} {o : Int} {pc' : Nat} (hd : decode c.code pc = .ok (.ifCond .lt o, 3)) (ho : 0 ≤ (pc : Int) + o) (hp : ((pc : Int) + o).toNat = pc') (hT : (x < y) → Goes p.tables e below (T.setTop (mkF m pc' Ls st)) P) (hF : (¬ x < y) → Goes p.tables e below (T.setTop (mkF m (pc + 3) Ls st)) P) : Goes p.tables e below (T.setTop (mkF m pc Ls (.int (XT.cmpL x y) :: st))) P := by
  by_cases q : x < y
  · exact (hT q).of fun _ k => XS.ifYes X.here hx rfl rfl hd rfl (XT.ll_lt_t q) ho hp k
  · exact (hF q).of fun _ k => XS.ifNo X.here hx rfl hd rfl (XT.ll_lt_f q) k
theorem g_icmp_ge (X : Stand p l e R s m args below meth c T locs cells slots) (hx : p.tables.exec = Jvm.exec) {x y : Int32} {o : Int} {pc' : Nat} (hd : decode c.code pc = .ok (.if_icmp .ge o, 3)) (ho : 0 ≤ (pc : Int) + o) (hp : ((pc : Int) + o).toNat = pc') (hT : (¬ x < y) → Goes p.tables e below (T.setTop (mkF m pc' Ls st)) P) (hF : (x < y) → Goes p.tables e below (T.setTop (mkF m (pc + 3) Ls st)) P) : Goes p.tables e below (T.setTop (mkF m pc Ls (.int y :: .int x :: st))) P := by
  by_cases q : x < y
  · exact (hF q).of fun _ k => XS.icmpNo X.here hx rfl hd rfl (XT.ii_ge_f q) k
  · exact (hT q).of fun _ k => XS.icmpYes X.here hx rfl rfl hd rfl (XT.ii_ge_t q) ho hp k
theorem g_if_ge (X : Stand p l e R s m args below meth c T locs cells slots) (hx : p.tables.exec = Jvm.exec) {x : Int32} {o : Int} {pc' : Nat} (hd : decode c.code pc = .ok (.ifCond .ge o, 3)) (ho : 0 ≤ (pc : Int) + o) (hp : ((pc : Int) + o).toNat = pc') (hT : (¬ x < 0) → Goes p.tables e below (T.setTop (mkF m pc' Ls st)) P) (hF : (x < 0) → Goes p.tables e below (T.setTop (mkF m (pc + 3) Ls st)) P) : Goes p.tables e below (T.setTop (mkF m pc Ls (.int x :: st))) P := by
  by_cases q : x < 0
  · exact (hF q).of fun _ k => XS.ifNo X.here hx rfl hd rfl (XT.i0_ge_f q) k
  · exact (hT q).of fun _ k => XS.ifYes X.here hx rfl rfl hd rfl (XT.i0_ge_t q) ho hp k
theorem g_lif_ge (X : Stand p l e R s m args below meth c T locs cells slots) (hx : p.tables.exec = Jvm.exec) {x y : Int64} {o : Int} {pc' : Nat} (hd : decode c.code pc = .ok (.ifCond .ge o, 3)) (ho : 0 ≤ (pc : Int) + o) (hp : ((pc : Int) + o).toNat = pc') (hT : (¬ x < y) → Goes p.tables e below (T.setTop (mkF m pc' Ls st)) P) (hF : (x < y) → Goes p.tables e below (T.setTop (mkF m (pc + 3) Ls st)) P) : Goes p.tables e below (T.setTop (mkF m pc Ls (.int (XT.cmpL x y) :: st))) P := by
  by_cases q : x < y
  · exact (hF q).of fun _ k => XS.ifNo X.here hx rfl hd rfl (XT.ll_ge_f q) k
  · exact (hT q).of fun _ k => XS.ifYes X.here hx rfl rfl hd rfl (XT.ll_ge_t q) ho hp k
theorem g_icmp_gt (X : Stand p l e R s m args below meth c T locs cells slots) (hx : p.tables.exec = Jvm.exec) {x y : Int32} {o : Int} {pc' : Nat} (hd : decode c.code pc = .ok (.if_icmp .gt o, 3)) (ho : 0 ≤ (pc : Int) + o) (hp : ((pc : Int) + o).toNat = pc') (hT : (y < x) → Goes p.tables e below (T.setTop (mkF m pc' Ls st)) P) (hF : (¬ y < x) → Goes p.tables e below (T.setTop (mkF m (pc + 3) Ls st)) P) : Goes p.tables e below (T.setTop (mkF m pc Ls (.int y :: .int x :: st))) P := by
  by_cases q : y < x
  · exact (hT q).of fun _ k => XS.icmpYes X.here hx rfl rfl hd rfl (XT.ii_gt_t q) ho hp k
  · exact (hF q).of fun _ k => XS.icmpNo X.here hx rfl hd rfl (XT.ii_gt_f q) k
theorem g_if_gt (X : Stand p l e R s m args below meth c T locs cells slots) (hx : p.tables.exec = Jvm.exec) {x : Int32} {o : Int} {pc' : Nat} (hd : decode c.code pc = .ok (.ifCond .gt o, 3)) (ho : 0 ≤ (pc : Int) + o) (hp : ((pc : Int) + o).toNat = pc') (hT : (0 < x) → Goes p.tables e below (T.setTop (mkF m pc' Ls st)) P) (hF : (¬ 0 < x) → Goes p.tables e below (T.setTop (mkF m (pc + 3) Ls st)) P) : Goes p.tables e below (T.setTop (mkF m pc Ls (.int x :: st))) P := by
  by_cases q : 0 < x
  · exact (hT q).of fun _ k => XS.ifYes X.here hx rfl rfl hd rfl (XT.i0_gt_t q) ho hp k
  · exact (hF q).of fun _ k => XS.ifNo X.here hx rfl hd rfl (XT.i0_gt_f q) k
theorem g_lif_gt (X : Stand p l e R s m args below meth c T locs cells slots) (hx : p.tables.exec = Jvm.exec) {x y : Int64} {o : Int} {pc' : Nat} (hd : decode c.code pc = .ok (.ifCond .gt o, 3)) (ho : 0 ≤ (pc : Int) + o) (hp : ((pc : Int) + o).toNat = pc') (hT : (y < x) → Goes p.tables e below (T.setTop (mkF m pc' Ls st)) P) (hF : (¬ y < x) → Goes p.tables e below (T.setTop (mkF m (pc + 3) Ls st)) P) : Goes p.tables e below (T.setTop (mkF m pc Ls (.int (XT.cmpL x y) :: st))) P := by
  by_cases q : y < x
  · exact (hT q).of fun _ k => XS.ifYes X.here hx rfl rfl hd rfl (XT.ll_gt_t q) ho hp k
  · exact (hF q).of fun _ k => XS.ifNo X.here hx rfl hd rfl (XT.ll_gt_f q) k
theorem g_icmp_le (X : Stand p l e R s m args below meth c T locs cells slots) (hx : p.tables.exec = Jvm.exec) {x y : Int32} {o : Int} {pc' : Nat} (hd : decode c.code pc = .ok (.if_icmp .le o, 3)) (ho : 0 ≤ (pc : Int) + o) (hp : ((pc : Int) + o).toNat = pc') (hT : (¬ y < x) → Goes p.tables e below (T.setTop (mkF m pc' Ls st)) P) (hF : (y < x) → Goes p.tables e below (T.setTop (mkF m (pc + 3) Ls st)) P) : Goes p.tables e below (T.setTop (mkF m pc Ls (.int y :: .int x :: st))) P := by
  by_cases q : y < x
  · exact (hF q).of fun _ k => XS.icmpNo X.here hx rfl hd rfl (XT.ii_le_f q) k
  · exact (hT q).of fun _ k => XS.icmpYes X.here hx rfl rfl hd rfl (XT.ii_le_t q) ho hp k
theorem g_if_le (X : Stand p l e R s m args below meth c T locs cells slots) (hx : p.tables.exec = Jvm.exec) {x : Int32} {o : Int} {pc' : Nat} (hd : decode c.code pc = .ok (.ifCond .le o, 3)) (ho : 0 ≤ (pc : Int) + o) (hp : ((pc : Int) + o).toNat = pc') (hT : (¬ 0 < x) → Goes p.tables e below (T.setTop (mkF m pc' Ls st)) P) (hF : (0 < x) → Goes p.tables e below (T.setTop (mkF m (pc + 3) Ls st)) P) : Goes p.tables e below (T.setTop (mkF m pc Ls (.int x :: st))) P := by
  by_cases q : 0 < x
  · exact (hF q).of fun _ k => XS.ifNo X.here hx rfl hd rfl (XT.i0_le_f q) k
  · exact (hT q).of fun _ k => XS.ifYes X.here hx rfl rfl hd rfl (XT.i0_le_t q) ho hp k
theorem g_lif_le (X : Stand p l e R s m args below meth c T locs cells slots) (hx : p.tables.exec = Jvm.exec) {x y : Int64} {o : Int} {pc' : Nat} (hd : decode c.code pc = .ok (.ifCond .le o, 3)) (ho : 0 ≤ (pc : Int) + o) (hp : ((pc : Int) + o).toNat = pc') (hT : (¬ y < x) → Goes p.tables e below (T.setTop (mkF m pc' Ls st)) P) (hF : (y < x) → Goes p.tables e below (T.setTop (mkF m (pc + 3) Ls st)) P) : Goes p.tables e below (T.setTop (mkF m pc Ls (.int (XT.cmpL x y) :: st))) P := by
  by_cases q : y < x
  · exact (hF q).of fun _ k => XS.ifNo X.here hx rfl hd rfl (XT.ll_le_f q) k
  · exact (hT q).of fun _ k => XS.ifYes X.here hx rfl rfl hd rfl (XT.ll_le_t q) ho hp k
theorem g_ifnull_ref (X : Stand p l e R s m args below meth c T locs cells slots) (hx : p.tables.exec = Jvm.exec) {b : Addr} {o : Int} (hd : decode c.code pc = .ok (.ifnull o, 3)) (hr : Goes p.tables e below (T.setTop (mkF m (pc + 3) Ls st)) P) : Goes p.tables e below (T.setTop (mkF m pc Ls (.ref b :: st))) P := hr.of fun _ k => XS.ifnullNo X.here hx rfl hd rfl k
theorem g_ifnull_null (X : Stand p l e R s m args below meth c T locs cells slots) (hx : p.tables.exec = Jvm.exec)  {o : Int} {pc' : Nat} (hd : decode c.code pc = .ok (.ifnull o, 3)) (ho : 0 ≤ (pc : Int) + o) (hp : ((pc : Int) + o).toNat = pc') (hr : Goes p.tables e below (T.setTop (mkF m pc' Ls st)) P) : Goes p.tables e below (T.setTop (mkF m pc Ls (.null :: st))) P := hr.of fun _ k => XS.ifnullYes X.here hx rfl rfl hd rfl ho hp k
theorem g_ifnonnull_ref (X : Stand p l e R s m args below meth c T locs cells slots) (hx : p.tables.exec = Jvm.exec) {b : Addr} {o : Int} {pc' : Nat} (hd : decode c.code pc = .ok (.ifnonnull o, 3)) (ho : 0 ≤ (pc : Int) + o) (hp : ((pc : Int) + o).toNat = pc') (hr : Goes p.tables e below (T.setTop (mkF m pc' Ls st)) P) : Goes p.tables e below (T.setTop (mkF m pc Ls (.ref b :: st))) P := hr.of fun _ k => XT.ifnonnullYes X.here hx rfl rfl hd rfl ho hp k
theorem g_ifnonnull_null (X : Stand p l e R s m args below meth c T locs cells slots) (hx : p.tables.exec = Jvm.exec)  {o : Int} (hd : decode c.code pc = .ok (.ifnonnull o, 3)) (hr : Goes p.tables e below (T.setTop (mkF m (pc + 3) Ls st)) P) : Goes p.tables e below (T.setTop (mkF m pc Ls (.null :: st))) P := hr.of fun _ k => XT.ifnonnullNo X.here hx rfl hd rfl k
theorem g_acmp_eq (X : Stand p l e R s m args below meth c T locs cells slots) (hx : p.tables.exec = Jvm.exec) {x y : Value} (hx' : x.isRef = true) (hy' : y.isRef = true) {o : Int} {pc' : Nat} (hd : decode c.code pc = .ok (.if_acmp .eq o, 3)) (ho : 0 ≤ (pc : Int) + o) (hp : ((pc : Int) + o).toNat = pc') (hT : (x = y) → Goes p.tables e below (T.setTop (mkF m pc' Ls st)) P) (hF : (¬ x = y) → Goes p.tables e below (T.setTop (mkF m (pc + 3) Ls st)) P) : Goes p.tables e below (T.setTop (mkF m pc Ls (y :: x :: st))) P := by
  by_cases q : x = y
  · exact (hT q).of fun _ k => XT.acmpYes X.here hx rfl rfl hd rfl hx' hy' (by simp [XT.acmp, q]) ho hp k
  · exact (hF q).of fun _ k => XT.acmpNo X.here hx rfl hd rfl hx' hy' (by simp [XT.acmp, q]) k
theorem g_acmp_ne (X : Stand p l e R s m args below meth c T locs cells slots) (hx : p.tables.exec = Jvm.exec) {x y : Value} (hx' : x.isRef = true) (hy' : y.isRef = true) {o : Int} {pc' : Nat} (hd : decode c.code pc = .ok (.if_acmp .ne o, 3)) (ho : 0 ≤ (pc : Int) + o) (hp : ((pc : Int) + o).toNat = pc') (hT : (¬ x = y) → Goes p.tables e below (T.setTop (mkF m pc' Ls st)) P) (hF : (x = y) → Goes p.tables e below (T.setTop (mkF m (pc + 3) Ls st)) P) : Goes p.tables e below (T.setTop (mkF m pc Ls (y :: x :: st))) P := by
  by_cases q : x = y
  · exact (hF q).of fun _ k => XT.acmpNo X.here hx rfl hd rfl hx' hy' (by simp [XT.acmp, q]) k
  · exact (hT q).of fun _ k => XT.acmpYes X.here hx rfl rfl hd rfl hx' hy' (by simp [XT.acmp, q]) ho hp k
/-- what a body owes at its end: it returned v, Q holds of it, the heap and the places written, within C cells and N slots -/
abbrev Fin (s : State) (C N : Nat) (Q : Option Value → Heap → List Loc → Prop) : State → Outcome → Prop := fun s₂ o => ∃ v L, o = .returned v ∧ Q v s₂.heap L ∧ FrameEnd s o s₂ L C N
variable {C N : Nat} {Q : Option Value → Heap → List Loc → Prop}
theorem g_ret (X : Stand p l e R s m args below meth c T locs cells slots) (hx : p.tables.exec = Jvm.exec) {w : Value} {t : FieldType} {i : Instr} (hret : meth.sig.returnType = some t) (hk : meth.locks = false) (hn : narrow t w = w)
    (hi : (i = .ireturn ∧ (t = .int ∨ t = .boolean ∨ t = .byte ∨ t = .char ∨ t = .short) ∧ ∃ z, w = .int z) ∨ (i = .lreturn ∧ t = .long ∧ ∃ z, w = .long z) ∨ (i = .dreturn ∧ t = .double ∧ ∃ z, w = .double z) ∨ (i = .freturn ∧ t = .float ∧ ∃ z, w = .float z) ∨ (i = .areturn ∧ t.isReference = true ∧ w.isRef = true))
    (hd : decode c.code pc = .ok (i, 1)) (hc : cells ≤ C) (hs : slots ≤ N) (hQ : Q (some w) T.heap locs) : Goes p.tables e below (T.setTop (mkF m pc Ls (w :: st))) (Fin s C N Q) := by
  obtain ⟨fs, hr, hrun, hended, hW, hsame⟩ := X.leave (v := some w) (fun h => by rw [hret] at h; cases h) hk
  exact ⟨_, _, retOut X hx hret hn hi hd hr, hrun, hended, _, _, rfl, hQ, ⟨_, rfl⟩, hW, hsame.mono hc hs⟩
theorem g_retI (X : Stand p l e R s m args below meth c T locs cells slots) (hx : p.tables.exec = Jvm.exec) {z : Int32} (hret : meth.sig.returnType = some .int) (hk : meth.locks = false) (hd : decode c.code pc = .ok (.ireturn, 1)) (hc : cells ≤ C) (hs : slots ≤ N) (hQ : Q (some (.int z)) T.heap locs) :
    Goes p.tables e below (T.setTop (mkF m pc Ls (.int z :: st))) (Fin s C N Q) := g_ret X hx hret hk rfl (Or.inl ⟨rfl, Or.inl rfl, _, rfl⟩) hd hc hs hQ
theorem g_retL (X : Stand p l e R s m args below meth c T locs cells slots) (hx : p.tables.exec = Jvm.exec) {z : Int64} (hret : meth.sig.returnType = some .long) (hk : meth.locks = false) (hd : decode c.code pc = .ok (.lreturn, 1)) (hc : cells ≤ C) (hs : slots ≤ N) (hQ : Q (some (.long z)) T.heap locs) :
    Goes p.tables e below (T.setTop (mkF m pc Ls (.long z :: st))) (Fin s C N Q) := g_ret X hx hret hk rfl (Or.inr (Or.inl ⟨rfl, rfl, _, rfl⟩)) hd hc hs hQ
theorem g_retA (X : Stand p l e R s m args below meth c T locs cells slots) (hx : p.tables.exec = Jvm.exec) {w : Value} {t : FieldType} (hret : meth.sig.returnType = some t) (hk : meth.locks = false) (ht : t.isReference = true) (hw : w.isRef = true) (hd : decode c.code pc = .ok (.areturn, 1)) (hc : cells ≤ C) (hs : slots ≤ N) (hQ : Q (some w) T.heap locs) :
    Goes p.tables e below (T.setTop (mkF m pc Ls (w :: st))) (Fin s C N Q) := g_ret X hx hret hk (by cases t <;> simp [FieldType.isReference] at ht <;> cases w <;> simp [Value.isRef] at hw <;> rfl) (Or.inr (Or.inr (Or.inr (Or.inr ⟨rfl, ht, hw⟩)))) hd hc hs hQ
theorem g_retZ (X : Stand p l e R s m args below meth c T locs cells slots) (hx : p.tables.exec = Jvm.exec) {z : Int32} (hz : z = 0 ∨ z = 1) (hret : meth.sig.returnType = some .boolean) (hk : meth.locks = false) (hd : decode c.code pc = .ok (.ireturn, 1)) (hc : cells ≤ C) (hs : slots ≤ N) (hQ : Q (some (.int z)) T.heap locs) :
    Goes p.tables e below (T.setTop (mkF m pc Ls (.int z :: st))) (Fin s C N Q) := g_ret X hx hret hk (by rcases hz with rfl | rfl <;> rfl) (Or.inl ⟨rfl, Or.inr (Or.inl rfl), _, rfl⟩) hd hc hs hQ
theorem g_retB (X : Stand p l e R s m args below meth c T locs cells slots) (hx : p.tables.exec = Jvm.exec) {z : Int32} (hz : z.toInt8.toInt32 = z) (hret : meth.sig.returnType = some .byte) (hk : meth.locks = false) (hd : decode c.code pc = .ok (.ireturn, 1)) (hc : cells ≤ C) (hs : slots ≤ N) (hQ : Q (some (.int z)) T.heap locs) :
    Goes p.tables e below (T.setTop (mkF m pc Ls (.int z :: st))) (Fin s C N Q) := g_ret X hx hret hk (by show Value.int z.toInt8.toInt32 = _; rw [hz]) (Or.inl ⟨rfl, Or.inr (Or.inr (Or.inl rfl)), _, rfl⟩) hd hc hs hQ
theorem g_ret0 (X : Stand p l e R s m args below meth c T locs cells slots) (hx : p.tables.exec = Jvm.exec) (hret : meth.sig.returnType = none) (hk : meth.locks = false) (hd : decode c.code pc = .ok (.return_, 1)) (hc : cells ≤ C) (hs : slots ≤ N) (hQ : Q none T.heap locs) :
    Goes p.tables e below (T.setTop (mkF m pc Ls [])) (Fin s C N Q) := by
  obtain ⟨fs, hr, hrun, hended, hW, hsame⟩ := X.leave (v := none) (fun _ => rfl) hk
  exact ⟨_, _, X.returnOut hx hret hd hr, hrun, hended, _, _, rfl, hQ, ⟨_, rfl⟩, hW, hsame.mono hc hs⟩
/-- the contract of a body, at these arguments and this heap -/
def Con (l : Launch) (Z : State) (y : MethodName) (bytes : ByteArray) (maxL : Nat) (ret : Option FieldType) (ws : List Jvm.Cond) (rm : Room) (C N : Nat) (as' : Array Value) (h : Heap) (Q : Option Value → Heap → List Loc → Prop) : Prop :=
  MetFree l y (head1 (Jvm.Cond.code y bytes maxL ret :: ws) rm) (fun a U => a = as' ∧ Z.Warmed39 U.vm ∧ U.heap = h) (fun _ _ _ _ _ => True) (fun _ U o U' => ∃ v L, o = .returned v ∧ Q v U'.heap L ∧ FrameEnd U o U' L C N)
theorem Con.body {y : MethodName} {bytes : ByteArray} {maxL : Nat} {ret : Option FieldType} {ws : List Jvm.Cond} {rm : Room} {as' : Array Value} (hp : plainFor y = true)
    (body : ∀ (p : Program) (e : Env) (s : State) (m : MethodId) (below : List Frame) (meth : Method) (c : Code) (T : State), p.tables.exec = Jvm.exec → c.code = bytes → c.maxLocals = maxL → s.vm.findClass y.cls = some m.cls → meth.name = y.name → Z.Warmed39 s.vm → meth.sig.returnType = ret → meth.locks = false →
      Stand p l e rm s m as' below meth c T [] 0 0 → T.heap = h → Goes p.tables e below (T.setTop (entryFrame m as' maxL)) (Fin s C N Q)) : Con l Z y bytes maxL ret ws rm C N as' h Q := by
  refine MetFree.of_bodySF hp hisR ?_
  intro p e s m args below meth c s₁ Bd hml hP hK
  obtain ⟨rfl, hZ, hh⟩ := hP
  exact body p e s m below meth c s₁ Bd.exec Bd.bytes hml (findClass_of_methodNamed Bd.named) (name_of_methodNamed Bd.named Bd.method).1 hZ Bd.returns (BodyLoose.notSynchronized Bd) (Stand.of_body Bd) (by rw [← hh, Bd.state]; rfl)
variable {y : MethodName} {bytes : ByteArray} {maxL : Nat} {ret : Option FieldType} {rm : Room} {as' : Array Value} {own : String} {index W : Nat} {argsL : List Value}
/-- a static call by the callee's contract -/
theorem g_callS (X : Stand p l e R s m args below meth c T locs cells slots) (hx : p.tables.exec = Jvm.exec) (hZ : Z.Warmed39 s.vm) (hown : s.vm.findClass own = some m.cls) (hml : Ls.size = c.maxLocals) (eT : T.heap = h)
    (wl : (Jvm.Cond.methodLink own index y).before a0 Z = true) (wt : (Jvm.Cond.static y).before a0 Z = true) (wz : (Jvm.Cond.initialized y.cls).before a0 Z = true) (wc : (Jvm.Cond.code y bytes maxL ret).before a0 Z = true)
    (hM : Con l Z y bytes maxL ret [] rm rm.cells rm.slots as' h Q) (argsL : List Value) (has : argsL.toArray = as') {S : List Value} (st : List Value) (hS : S = argsL.reverse ++ st) (hlen : ∀ sig, parseMethodDescriptor y.desc = some sig → argsL.length = sig.parameters.length)
    (hd : decode c.code pc = .ok (.invokestatic index, 3)) (hy : y.cls ≠ "java/lang/invoke/MethodHandle" ∧ y.cls ≠ "java/lang/invoke/VarHandle") (W : Nat) (hf : rm.frames + 1 ≤ R.frames) (hl : W + (maxL + 11) + rm.locals ≤ R.locals) (hW : (st.map fun v => v.category).sum ≤ W) (hc : cells + rm.cells ≤ R.cells) (hs : slots + rm.slots ≤ R.slots)
    (k : ∀ v T' L, Stand p l e R s m args below meth c T' (locs ++ L) (cells + rm.cells) (slots + rm.slots) → Q v T'.heap L → Goes p.tables e below (T'.setTop (mkF m (pc + 3) Ls (v.toList ++ st))) P) :
    Goes p.tables e below (T.setTop (mkF m pc Ls S)) P := by
  subst hS
  obtain ⟨v, vm₁, ⟨T', L', k', n'⟩, -, X', ⟨L, hQ, e1, e2, e3⟩, st'⟩ := Jvm.LawKit.callS X hx (y := y) hown (mvT hZ wl) (mvT hZ wt) (mvT hZ wz) (mvT hZ wc) hy (backOf (W := W) hM hZ wc wz hf hl) (g := mkF m pc Ls (argsL.reverse ++ st)) rfl hml (argsL := argsL) (rest := st) hlen rfl (by show 2 * 0 + _ ≤ _; omega) hd (fun _ _ => ⟨has, eT, hc, hs⟩)
  dsimp only [Pt.U, Pt.locs, Pt.cells, Pt.slots] at X' e1 e2 e3 st' hQ
  subst e1 e2 e3
  exact (k v T' L X' hQ).of st'
/-- a constructor by its contract -/
theorem g_callI (X : Stand p l e R s m args below meth c T locs cells slots) (hx : p.tables.exec = Jvm.exec) (hZ : Z.Warmed39 s.vm) (hown : s.vm.findClass own = some m.cls) (hml : Ls.size = c.maxLocals) (eT : T.heap = h) (hn : y.name = "<init>")
    (wl : (Jvm.Cond.methodLink own index y).before a0 Z = true) (wt : (Jvm.Cond.instanceMethod y).before a0 Z = true) (wz : (Jvm.Cond.initialized y.cls).before a0 Z = true) (wc : (Jvm.Cond.code y bytes maxL none).before a0 Z = true)
    (hM : Con l Z y bytes maxL none [] rm rm.cells rm.slots as' h Q) (a : Addr) (argsL : List Value) (has : (.ref a :: argsL).toArray = as') {S : List Value} (st : List Value) (hS : S = argsL.reverse ++ .ref a :: st) (hlen : ∀ sig, parseMethodDescriptor y.desc = some sig → argsL.length = sig.parameters.length)
    (hd : decode c.code pc = .ok (.invokespecial index, 3)) (hy : y.cls ≠ "java/lang/invoke/MethodHandle" ∧ y.cls ≠ "java/lang/invoke/VarHandle") (W : Nat) (hf : rm.frames + 1 ≤ R.frames) (hl : W + (maxL + 11) + rm.locals ≤ R.locals) (hW : (st.map fun v => v.category).sum ≤ W) (hc : cells + rm.cells ≤ R.cells) (hs : slots + rm.slots ≤ R.slots)
    (k : ∀ v T' L, Stand p l e R s m args below meth c T' (locs ++ L) (cells + rm.cells) (slots + rm.slots) → Q v T'.heap L → Goes p.tables e below (T'.setTop (mkF m (pc + 3) Ls (v.toList ++ st))) P) :
    Goes p.tables e below (T.setTop (mkF m pc Ls S)) P := by
  subst hS
  obtain ⟨v, vm₁, ⟨T', L', k', n'⟩, -, X', ⟨L, hQ, e1, e2, e3⟩, st'⟩ := X.specialBack hx (y := y) hn hown (mvT hZ wl) (mvT hZ wt) (mvT hZ wc) hy (backOf (W := W) hM hZ wc wz hf hl) (g := mkF m pc Ls (argsL.reverse ++ .ref a :: st)) rfl hml (Steps.refl _) (a := a) (argsL := argsL) (rest := st) hlen rfl (by show 2 * 0 + _ ≤ _; omega) hd (fun _ _ => ⟨has, eT, hc, hs⟩)
  dsimp only [Pt.U, Pt.locs, Pt.cells, Pt.slots] at X' e1 e2 e3 st' hQ
  subst e1 e2 e3
  exact (k v T' L X' hQ).tr st'
/-- an instance method by its contract -/
theorem g_callV (X : Stand p l e R s m args below meth c T locs cells slots) (hx : p.tables.exec = Jvm.exec) (hZ : Z.Warmed39 s.vm) (hown : s.vm.findClass own = some m.cls) (hml : Ls.size = c.maxLocals) (eT : T.heap = h) {K : String}
    (wl : (Jvm.Cond.methodLink own index y).before a0 Z = true) (wd : (Jvm.Cond.declares y).before a0 Z = true) (wv : (Jvm.Cond.selects K y y).before a0 Z = true) (wt : (Jvm.Cond.instanceMethod y).before a0 Z = true) (wz : (Jvm.Cond.initialized y.cls).before a0 Z = true) (wc : (Jvm.Cond.code y bytes maxL ret).before a0 Z = true)
    {a : Addr} (E : Exa Z h a K) (hM : Con l Z y bytes maxL ret [] rm rm.cells rm.slots as' h Q) (argsL : List Value) (has : (.ref a :: argsL).toArray = as') {S : List Value} (st : List Value) (hS : S = argsL.reverse ++ .ref a :: st) (hlen : ∀ sig, parseMethodDescriptor y.desc = some sig → argsL.length = sig.parameters.length)
    (hd : decode c.code pc = .ok (.invokevirtual index, 3)) (hy : y.cls ≠ "java/lang/invoke/MethodHandle" ∧ y.cls ≠ "java/lang/invoke/VarHandle") (W : Nat) (hf : rm.frames + 1 ≤ R.frames) (hl : W + (maxL + 11) + rm.locals ≤ R.locals) (hW : (st.map fun v => v.category).sum ≤ W) (hc : cells + rm.cells ≤ R.cells) (hs : slots + rm.slots ≤ R.slots)
    (k : ∀ v T' L, Stand p l e R s m args below meth c T' (locs ++ L) (cells + rm.cells) (slots + rm.slots) → Q v T'.heap L → Goes p.tables e below (T'.setTop (mkF m (pc + 3) Ls (v.toList ++ st))) P) :
    Goes p.tables e below (T.setTop (mkF m pc Ls S)) P := by
  subst hS
  obtain ⟨cq, kq, qa, qb, qc⟩ := isOf hZ eT E
  obtain ⟨v, vm₁, ⟨T', L', k', n'⟩, -, X', ⟨L, hQ, e1, e2, e3⟩, st'⟩ := X.virtualBack hx (y := y) (z := y) hown (mvT hZ wl) (mvT hZ wd) (notFace_of_selects (args := #[]) (mvT hZ wv)) (mvT hZ wv) (mvT hZ wt) hy (backOf (W := W) hM hZ wc wz hf hl) qa qc (g := mkF m pc Ls (argsL.reverse ++ .ref a :: st)) rfl hml (Steps.refl _) (argsL := argsL) (rest := st) hlen rfl (by show 2 * 0 + _ ≤ _; omega) hd (fun _ _ => ⟨has, eT, hc, hs⟩)
  dsimp only [Pt.U, Pt.locs, Pt.cells, Pt.slots] at X' e1 e2 e3 st' hQ
  subst e1 e2 e3
  exact (k v T' L X' hQ).tr st'
/-! objects -/
section Objects
variable {own K O R0 nm d host : String} {index kk : Nat} {a : Addr}
theorem g_new (X : Stand p l e R s m args below meth c T locs cells slots) (hx : p.tables.exec = Jvm.exec) (hZ : Z.Warmed39 s.vm) (hown : s.vm.findClass own = some m.cls) (eT : T.heap = h) (w : (Jvm.Cond.classLink own index K).before a0 Z = true) (wi : (Jvm.Cond.instantiable K kk).before a0 Z = true) (wz : (Jvm.Cond.initialized K).before a0 Z = true)
    (hd : decode c.code pc = .ok (.new index, 3)) (hc : cells + 1 ≤ R.cells) (hl : slots + kk ≤ R.slots)
    (k : ∀ T' h' a, a = h.size → Stand p l e R s m args below meth c T' locs (cells + 1) (slots + kk) → T'.heap = h' → Ext h h' → Exa Z h' a K → (∀ {O nm d : String} {ty : FieldType}, Laid Z a0 K O nm d → parseFieldDescriptor d = some ty → Fld Z h' a O nm d (defaultValue ty)) → Goes p.tables e below (T'.setTop (mkF m (pc + 3) Ls (.ref a :: st))) P) :
    Goes p.tables e below (T.setTop (mkF m pc Ls st)) P := by
  obtain ⟨T', h', X', e', E, A, D, -, st'⟩ := newO X hx hZ hown w wi wz eT (g := mkF m pc Ls st) rfl hd hc hl
  exact (k T' h' _ rfl X' e' E A D).of st'
theorem g_init0 (X : Stand p l e R s m args below meth c T locs cells slots) (hx : p.tables.exec = Jvm.exec) (hZ : Z.Warmed39 s.vm) (hown : s.vm.findClass own = some m.cls) (hml : Ls.size = c.maxLocals) (eT : T.heap = h) (w1 : (Jvm.Cond.methodLink own index Lib.objectInit).before a0 Z = true) (w2 : (Jvm.Cond.instanceMethod Lib.objectInit).before a0 Z = true)
    (w3 : (Jvm.Cond.code Lib.objectInit ⟨#[0xb1]⟩ 1 none).before a0 Z = true) (hd : decode c.code pc = .ok (.invokespecial index, 3)) (W : Nat) (hf : 1 ≤ R.frames) (hW : (st.map fun v => v.category).sum ≤ W) (hl : W + 12 ≤ R.locals)
    (k : ∀ T', Stand p l e R s m args below meth c T' locs cells slots → T'.heap = h → Goes p.tables e below (T'.setTop (mkF m (pc + 3) Ls st)) P) : Goes p.tables e below (T.setTop (mkF m pc Ls (.ref a :: st))) P := by
  obtain ⟨T', X', e', st'⟩ := initO X hx hZ hown w1 w2 w3 eT (g := mkF m pc Ls (.ref a :: st)) rfl hml rfl hd hf (W := W) (by show 2 * 0 + _ ≤ _; omega) hl
  exact (k T' X' e').of st'
theorem g_getF (X : Stand p l e R s m args below meth c T locs cells slots) (hx : p.tables.exec = Jvm.exec) (hZ : Z.Warmed39 s.vm) (hown : s.vm.findClass own = some m.cls) (eT : T.heap = h) (w : (Jvm.Cond.fieldLink own index R0 nm d).before a0 Z = true ∨ (Jvm.Cond.fieldLinkNest own index R0 nm d host).before a0 Z = true) (via : Via Z R0 O nm d)
    {v : Value} (F : Fld Z h a O nm d v) (hd : decode c.code pc = .ok (.getfield index, 3))
    (k : ∀ T', Stand p l e R s m args below meth c T' locs cells slots → T'.heap = h → Goes p.tables e below (T'.setTop (mkF m (pc + 3) Ls (v :: st))) P) : Goes p.tables e below (T.setTop (mkF m pc Ls (.ref a :: st))) P := by
  obtain ⟨T', X', e', st'⟩ := getF X hx hZ hown w via eT F (g := mkF m pc Ls (.ref a :: st)) rfl rfl hd
  exact (k T' X' e').of st'
theorem g_getS (X : Stand p l e R s m args below meth c T locs cells slots) (hx : p.tables.exec = Jvm.exec) (hZ : Z.Warmed39 s.vm) (hown : s.vm.findClass own = some m.cls) (eT : T.heap = h) (w : (Jvm.Cond.fieldLink own index O nm d).before a0 Z = true ∨ (Jvm.Cond.fieldLinkNest own index O nm d host).before a0 Z = true)
    {v : Value} (F : Sta Z h O nm d v) (hd : decode c.code pc = .ok (.getstatic index, 3))
    (k : ∀ T', Stand p l e R s m args below meth c T' locs cells slots → T'.heap = h → Goes p.tables e below (T'.setTop (mkF m (pc + 3) Ls (v :: st))) P) : Goes p.tables e below (T.setTop (mkF m pc Ls st)) P := by
  obtain ⟨T', X', e', st'⟩ := getS2 X hx hZ hown w Via.refl eT F (g := mkF m pc Ls st) rfl hd
  exact (k T' X' e').of st'
/-- a field's store; v': what the field then holds -/
theorem g_putF (X : Stand p l e R s m args below meth c T locs cells slots) (hx : p.tables.exec = Jvm.exec) (hZ : Z.Warmed39 s.vm) (hown : s.vm.findClass own = some m.cls) (eT : T.heap = h) (w : (Jvm.Cond.fieldLink own index R0 nm d).before a0 Z = true) (via : Via Z R0 O nm d)
    {v v' old : Value} (F : Fld Z h a O nm d old) (E : Exa Z h a K) (L : (Jvm.Cond.lays K O nm d).before a0 Z = true ∨ ((Jvm.Cond.laysFinal K O nm d).before a0 Z = true ∧ own = O ∧ meth.name = "<init>")) (wi : (Jvm.Cond.instantiable K kk).before a0 Z = true) {ty : FieldType} (hty : parseFieldDescriptor d = some ty) (hn : narrow ty v = v') (hf : fits ty v' = true)
    (hd : decode c.code pc = .ok (.putfield index, 3))
    (k : ∀ T' h', Stand p l e R s m args below meth c T' (locs ++ [⟨a, Jvm.RoadKit.slotOf Z O nm d⟩]) cells slots → T'.heap = h' → Wr h h' a (Jvm.RoadKit.slotOf Z O nm d) v' → Goes p.tables e below (T'.setTop (mkF m (pc + 3) Ls st)) P) : Goes p.tables e below (T.setTop (mkF m pc Ls (v :: .ref a :: st))) P := by
  obtain ⟨T', h', X', e', W', st'⟩ := putFN X hx hZ hown w via eT F E L wi hty hn hf (g := mkF m pc Ls (v :: .ref a :: st)) rfl rfl hd
  exact (k T' h' X' e' W').of st'
end Objects
/-! arrays: the components as a list -/
def Ar (Z : State) (h : Heap) (a : Addr) (ty : FieldType) (vs : List Value) : Prop := ∃ c : Cell, Arr Z h a c ty ∧ c.slots.toList = vs ∧ vs.length < 2 ^ 31 ∧ ∀ v ∈ vs, fits ty v = true
section Arrays
variable {a b : Addr} {ty : FieldType} {vs : List Value} {h' : Heap} {ws : List Addr}
theorem Ar.lt (F : Ar Z h a ty vs) : a < h.size := by obtain ⟨c, A, -⟩ := F; exact A.lt
theorem Ar.ext (F : Ar Z h a ty vs) (E : Ext h h') : Ar Z h' a ty vs := by obtain ⟨c, A, r⟩ := F; exact ⟨c, A.ext E, r⟩
theorem Ar.other (F : Ar Z h b ty vs) {sl : Nat} {v : Value} (W : Wr h h' a sl v) (q : b ≠ a) : Ar Z h' b ty vs := by obtain ⟨c, A, r⟩ := F; exact ⟨c, A.other W q, r⟩
theorem Ar.keep (F : Ar Z h a ty vs) (K : Keep h h' ws) (q : a ∉ ws) : Ar Z h' a ty vs := by obtain ⟨c, A, r⟩ := F; exact ⟨c, ⟨K.2.1 a c A.1 q, A.2⟩, r⟩
theorem own_nat {j : Int32} {i : Nat} (hj : j.toInt = i) : j.toNatClampNeg = i ∧ ¬ j < 0 := by
  have q : ¬ j < 0 := fun q => by have := Int32.lt_iff_toInt_lt.mp q; rw [show (0 : Int32).toInt = 0 from rfl] at this; omega
  have e := nat_of q
  exact ⟨by omega, q⟩
theorem own_in {j : Int32} {i : Nat} (hj : j.toInt = i) {c : Cell} (hs : c.slots.toList = vs) (hi : i < vs.length) : ¬ (j < 0 ∨ c.slots.size ≤ j.toNatClampNeg) := by
  obtain ⟨e, q⟩ := own_nat hj
  rintro (r | r)
  · exact q r
  · rw [← Array.length_toList, hs] at r; omega
theorem own_at {j : Int32} {i : Nat} (hj : j.toInt = i) {c : Cell} (hs : c.slots.toList = vs) {v : Value} (hv : vs[i]? = some v) : c.slots[j.toNatClampNeg]? = some v := by
  rw [(own_nat hj).1, ← Array.getElem?_toList, hs]; exact hv
theorem own_lt {i : Nat} {v : Value} (hv : vs[i]? = some v) : i < vs.length := (List.getElem?_eq_some_iff.mp hv).1
theorem Ar.set {j : Nat} {v : Value} (F : Ar Z h a ty vs) (W : Wr h h' a j v) (hf : fits ty v = true) : Ar Z h' a ty (vs.set j v) := by
  obtain ⟨c, A, hs, hl, hv⟩ := F
  refine ⟨c.setSlot j v, A.same W, by rw [← hs]; simp [Cell.setSlot], by rw [List.length_set]; exact hl, fun w hw => ?_⟩
  rcases List.mem_or_eq_of_mem_set hw with q | q
  · exact hv w q
  · rw [q]; exact hf
theorem g_iaload (X : Stand p l e R s m args below meth c T locs cells slots) (hx : p.tables.exec = Jvm.exec) (hZ : Z.Warmed39 s.vm) (eT : T.heap = h) (A : Ar Z h a .int vs) {j : Int32} {i : Nat} {v : Value} (hj : j.toInt = i) (hv : vs[i]? = some v) (hd : decode c.code pc = .ok (.iaload, 1))
    (hr : Goes p.tables e below (T.setTop (mkF m (pc + 1) Ls (v :: st))) P) : Goes p.tables e below (T.setTop (mkF m pc Ls (.int j :: .ref a :: st))) P := by
  obtain ⟨cl, A, hs, hl, -⟩ := A
  exact hr.of fun _ k => X.iaload hx (by rw [eT]; exact A.1) (State.isArrayOf_alike hZ.alike A.2.1) A.2.2 (own_in hj hs (own_lt hv)) (own_at hj hs hv) (g := mkF m pc Ls (.int j :: .ref a :: st)) rfl rfl hd _ k
theorem g_laload (X : Stand p l e R s m args below meth c T locs cells slots) (hx : p.tables.exec = Jvm.exec) (hZ : Z.Warmed39 s.vm) (eT : T.heap = h) (A : Ar Z h a .long vs) {j : Int32} {i : Nat} {v : Value} (hj : j.toInt = i) (hv : vs[i]? = some v) (hd : decode c.code pc = .ok (.laload, 1))
    (hr : Goes p.tables e below (T.setTop (mkF m (pc + 1) Ls (v :: st))) P) : Goes p.tables e below (T.setTop (mkF m pc Ls (.int j :: .ref a :: st))) P := by
  obtain ⟨cl, A, hs, hl, -⟩ := A
  exact hr.of fun _ k => X.laload hx (by rw [eT]; exact A.1) (State.isArrayOf_alike hZ.alike A.2.1) A.2.2 (own_in hj hs (own_lt hv)) (own_at hj hs hv) (g := mkF m pc Ls (.int j :: .ref a :: st)) rfl rfl hd _ k
theorem g_caload (X : Stand p l e R s m args below meth c T locs cells slots) (hx : p.tables.exec = Jvm.exec) (hZ : Z.Warmed39 s.vm) (eT : T.heap = h) (A : Ar Z h a .char vs) {j : Int32} {i : Nat} {v : Value} (hj : j.toInt = i) (hv : vs[i]? = some v) (hd : decode c.code pc = .ok (.caload, 1))
    (hr : Goes p.tables e below (T.setTop (mkF m (pc + 1) Ls (v :: st))) P) : Goes p.tables e below (T.setTop (mkF m pc Ls (.int j :: .ref a :: st))) P := by
  obtain ⟨cl, A, hs, hl, -⟩ := A
  exact hr.of fun _ k => X.caload hx (by rw [eT]; exact A.1) (State.isArrayOf_alike hZ.alike A.2.1) A.2.2 (own_in hj hs (own_lt hv)) (own_at hj hs hv) (g := mkF m pc Ls (.int j :: .ref a :: st)) rfl rfl hd _ k
theorem g_saload (X : Stand p l e R s m args below meth c T locs cells slots) (hx : p.tables.exec = Jvm.exec) (hZ : Z.Warmed39 s.vm) (eT : T.heap = h) (A : Ar Z h a .short vs) {j : Int32} {i : Nat} {v : Value} (hj : j.toInt = i) (hv : vs[i]? = some v) (hd : decode c.code pc = .ok (.saload, 1))
    (hr : Goes p.tables e below (T.setTop (mkF m (pc + 1) Ls (v :: st))) P) : Goes p.tables e below (T.setTop (mkF m pc Ls (.int j :: .ref a :: st))) P := by
  obtain ⟨cl, A, hs, hl, -⟩ := A
  exact hr.of fun _ k => X.saload hx (by rw [eT]; exact A.1) (State.isArrayOf_alike hZ.alike A.2.1) A.2.2 (own_in hj hs (own_lt hv)) (own_at hj hs hv) (g := mkF m pc Ls (.int j :: .ref a :: st)) rfl rfl hd _ k
theorem g_baload (X : Stand p l e R s m args below meth c T locs cells slots) (hx : p.tables.exec = Jvm.exec) (hZ : Z.Warmed39 s.vm) (eT : T.heap = h) (A : Ar Z h a .byte vs) {j : Int32} {i : Nat} {v : Value} (hj : j.toInt = i) (hv : vs[i]? = some v) (hd : decode c.code pc = .ok (.baload, 1))
    (hr : Goes p.tables e below (T.setTop (mkF m (pc + 1) Ls (v :: st))) P) : Goes p.tables e below (T.setTop (mkF m pc Ls (.int j :: .ref a :: st))) P := by
  obtain ⟨cl, A, hs, hl, -⟩ := A
  exact hr.of fun _ k => X.baloadBytes hx (by rw [eT]; exact A.1) (State.isArrayOf_alike hZ.alike A.2.1) A.2.2 (own_in hj hs (own_lt hv)) (own_at hj hs hv) (g := mkF m pc Ls (.int j :: .ref a :: st)) rfl rfl hd _ k
theorem g_zaload (X : Stand p l e R s m args below meth c T locs cells slots) (hx : p.tables.exec = Jvm.exec) (hZ : Z.Warmed39 s.vm) (eT : T.heap = h) (A : Ar Z h a .boolean vs) {j : Int32} {i : Nat} {v : Value} (hj : j.toInt = i) (hv : vs[i]? = some v) (hd : decode c.code pc = .ok (.baload, 1))
    (hr : Goes p.tables e below (T.setTop (mkF m (pc + 1) Ls (v :: st))) P) : Goes p.tables e below (T.setTop (mkF m pc Ls (.int j :: .ref a :: st))) P := by
  obtain ⟨cl, A, hs, hl, -⟩ := A
  exact hr.of fun _ k => X.baloadBooleans hx (by rw [eT]; exact A.1) (State.isArrayOf_alike hZ.alike A.2.1) A.2.2 (own_in hj hs (own_lt hv)) (own_at hj hs hv) (g := mkF m pc Ls (.int j :: .ref a :: st)) rfl rfl hd _ k
theorem g_aaload (X : Stand p l e R s m args below meth c T locs cells slots) (hx : p.tables.exec = Jvm.exec) (hZ : Z.Warmed39 s.vm) (eT : T.heap = h) (A : Ar Z h a ty vs) (hty : ty.isReference = true) {j : Int32} {i : Nat} {v : Value} (hj : j.toInt = i) (hv : vs[i]? = some v) (hd : decode c.code pc = .ok (.aaload, 1))
    (hr : Goes p.tables e below (T.setTop (mkF m (pc + 1) Ls (v :: st))) P) : Goes p.tables e below (T.setTop (mkF m pc Ls (.int j :: .ref a :: st))) P := by
  obtain ⟨cl, A, hs, hl, -⟩ := A
  exact hr.of fun _ k => X.aaload hx (by rw [eT]; exact A.1) (State.isArrayOf_alike hZ.alike A.2.1) hty A.2.2 (own_in hj hs (own_lt hv)) (own_at hj hs hv) (g := mkF m pc Ls (.int j :: .ref a :: st)) rfl rfl hd _ k
theorem g_alen (X : Stand p l e R s m args below meth c T locs cells slots) (hx : p.tables.exec = Jvm.exec) (hZ : Z.Warmed39 s.vm) (eT : T.heap = h) (A : Ar Z h a ty vs) (z : Int32) (hz : z.toInt = vs.length) (hd : decode c.code pc = .ok (.arraylength, 1))
    (hr : Goes p.tables e below (T.setTop (mkF m (pc + 1) Ls (.int z :: st))) P) : Goes p.tables e below (T.setTop (mkF m pc Ls (.ref a :: st))) P := by
  obtain ⟨cl, A, hs, hl, -⟩ := A
  have q : cl.slots.size.toInt32 = z := by
    have e1 : cl.slots.size = vs.length := by rw [← hs, Array.length_toList]
    exact Int32.toInt_inj.mp (by rw [len_toInt (by rw [e1]; exact hl), hz, e1])
  subst q
  exact hr.of fun _ k => X.arraylength hx (cell := cl) (by rw [eT]; exact A.1) (State.isArrayOf_alike hZ.alike A.2.1) (g := mkF m pc Ls (.ref a :: st)) rfl (rest := st) rfl hd _ k
theorem g_newarr (X : Stand p l e R s m args below meth c T locs cells slots) (hx : p.tables.exec = Jvm.exec) (hZ : Z.Warmed39 s.vm) (eT : T.heap = h) {aty : ArrayType} (w : (Jvm.Cond.arrayClass (newarray.typeOf aty)).before a0 Z = true) (hd : decode c.code pc = .ok (.newarray aty, 2)) {z : Int32} {n : Nat} (hz : z.toInt = n) (cap : Nat) (hcap : n ≤ cap) (hb : cap * 8 ≤ 536870912) (hc : cells + 1 ≤ R.cells) (hl : slots + cap ≤ R.slots) {ad : String} (had : "[" ++ (newarray.typeOf aty).toString = ad) (hfit : fits (newarray.typeOf aty) (defaultValue (newarray.typeOf aty)) = true)
    (k : ∀ T' h' a, a = h.size → Stand p l e R s m args below meth c T' locs (cells + 1) (slots + cap) → T'.heap = h' → Ext h h' → Ar Z h' a (newarray.typeOf aty) (List.replicate n (defaultValue (newarray.typeOf aty))) → Exa Z h' a ad → Goes p.tables e below (T'.setTop (mkF m (pc + 2) Ls (.ref a :: st))) P) :
    Goes p.tables e below (T.setTop (mkF m pc Ls (.int z :: st))) P := by
  obtain ⟨e1, q⟩ := own_nat hz
  obtain ⟨T', h', cA, X', e', E, A, F, st'⟩ := newPE X hx hZ w eT (g := mkF m pc Ls (.int z :: st)) rfl hd rfl q (cap := cap) (by rw [e1]; exact hcap) hb hc hl had
  refine (k T' h' _ rfl X' e' E ⟨_, A, ?_, ?_, ?_⟩ F).of st'
  · simp [newA, e1]
  · rw [List.length_replicate]; have := rng32 z; omega
  · intro v hv; rw [(List.mem_replicate.mp hv).2]; exact hfit
theorem g_iastore (X : Stand p l e R s m args below meth c T locs cells slots) (hx : p.tables.exec = Jvm.exec) (hZ : Z.Warmed39 s.vm) (eT : T.heap = h) (A : Ar Z h a .int vs) {j : Int32} {x : Int32} (i : Nat) (hj : j.toInt = i) (hi : i < vs.length) (hd : decode c.code pc = .ok (.iastore, 1))
    (k : ∀ T' h', Stand p l e R s m args below meth c T' (locs ++ [⟨a, i⟩]) cells slots → T'.heap = h' → Wr h h' a i (.int x) → Ar Z h' a .int (vs.set i (.int x)) → Goes p.tables e below (T'.setTop (mkF m (pc + 1) Ls st)) P) : Goes p.tables e below (T.setTop (mkF m pc Ls (.int x :: .int j :: .ref a :: st))) P := by
  have A' := A
  obtain ⟨cl, A, hs, hl, -⟩ := A
  obtain ⟨T', h', X', e', W', st'⟩ := stI X hx hZ eT A (own_in hj hs hi) (g := mkF m pc Ls (.int x :: .int j :: .ref a :: st)) rfl rfl hd
  rw [(own_nat hj).1] at X' W'
  exact (k T' h' X' e' W' (A'.set W' rfl)).of st'
theorem g_lastore (X : Stand p l e R s m args below meth c T locs cells slots) (hx : p.tables.exec = Jvm.exec) (hZ : Z.Warmed39 s.vm) (eT : T.heap = h) (A : Ar Z h a .long vs) {j : Int32} {x : Int64} (i : Nat) (hj : j.toInt = i) (hi : i < vs.length) (hd : decode c.code pc = .ok (.lastore, 1))
    (k : ∀ T' h', Stand p l e R s m args below meth c T' (locs ++ [⟨a, i⟩]) cells slots → T'.heap = h' → Wr h h' a i (.long x) → Ar Z h' a .long (vs.set i (.long x)) → Goes p.tables e below (T'.setTop (mkF m (pc + 1) Ls st)) P) : Goes p.tables e below (T.setTop (mkF m pc Ls (.long x :: .int j :: .ref a :: st))) P := by
  have A' := A
  obtain ⟨cl, A, hs, hl, -⟩ := A
  obtain ⟨T', h', X', e', W', st'⟩ := stJ X hx hZ eT A (own_in hj hs hi) (g := mkF m pc Ls (.long x :: .int j :: .ref a :: st)) rfl rfl hd
  rw [(own_nat hj).1] at X' W'
  exact (k T' h' X' e' W' (A'.set W' rfl)).of st'
theorem g_castore (X : Stand p l e R s m args below meth c T locs cells slots) (hx : p.tables.exec = Jvm.exec) (hZ : Z.Warmed39 s.vm) (eT : T.heap = h) (A : Ar Z h a .char vs) {j x : Int32} (i : Nat) (hj : j.toInt = i) (hi : i < vs.length) (x' : Int32) (hn : nar .char x = x') (hd : decode c.code pc = .ok (.castore, 1))
    (k : ∀ T' h', Stand p l e R s m args below meth c T' (locs ++ [⟨a, i⟩]) cells slots → T'.heap = h' → Wr h h' a i (.int x') → Ar Z h' a .char (vs.set i (.int x')) → Goes p.tables e below (T'.setTop (mkF m (pc + 1) Ls st)) P) : Goes p.tables e below (T.setTop (mkF m pc Ls (.int x :: .int j :: .ref a :: st))) P := by
  have A' := A
  obtain ⟨cl, A, hs, hl, -⟩ := A
  obtain ⟨T', h', X', e', W', st'⟩ := stC X hx hZ eT A (own_in hj hs hi) (g := mkF m pc Ls (.int x :: .int j :: .ref a :: st)) rfl rfl hd
  rw [(own_nat hj).1, hn] at W'
  rw [(own_nat hj).1] at X'
  exact (k T' h' X' e' W' (A'.set W' (by rw [← hn]; exact fits_nar_char x))).of st'
theorem g_bastore (X : Stand p l e R s m args below meth c T locs cells slots) (hx : p.tables.exec = Jvm.exec) (hZ : Z.Warmed39 s.vm) (eT : T.heap = h) (A : Ar Z h a .byte vs) {j x : Int32} (i : Nat) (hj : j.toInt = i) (hi : i < vs.length) (x' : Int32) (hn : nar .byte x = x') (hd : decode c.code pc = .ok (.bastore, 1))
    (k : ∀ T' h', Stand p l e R s m args below meth c T' (locs ++ [⟨a, i⟩]) cells slots → T'.heap = h' → Wr h h' a i (.int x') → Ar Z h' a .byte (vs.set i (.int x')) → Goes p.tables e below (T'.setTop (mkF m (pc + 1) Ls st)) P) : Goes p.tables e below (T.setTop (mkF m pc Ls (.int x :: .int j :: .ref a :: st))) P := by
  have A' := A
  obtain ⟨cl, A, hs, hl, -⟩ := A
  obtain ⟨T', h', X', e', W', st'⟩ := stB X hx hZ eT A (own_in hj hs hi) (g := mkF m pc Ls (.int x :: .int j :: .ref a :: st)) rfl rfl hd
  rw [(own_nat hj).1, hn] at W'
  rw [(own_nat hj).1] at X'
  exact (k T' h' X' e' W' (A'.set W' (by rw [← hn]; exact fits_nar_byte x))).of st'
theorem g_zastore (X : Stand p l e R s m args below meth c T locs cells slots) (hx : p.tables.exec = Jvm.exec) (hZ : Z.Warmed39 s.vm) (eT : T.heap = h) (A : Ar Z h a .boolean vs) {j x : Int32} (i : Nat) (hj : j.toInt = i) (hi : i < vs.length) (x' : Int32) (hn : nar .boolean x = x') (hd : decode c.code pc = .ok (.bastore, 1))
    (k : ∀ T' h', Stand p l e R s m args below meth c T' (locs ++ [⟨a, i⟩]) cells slots → T'.heap = h' → Wr h h' a i (.int x') → Ar Z h' a .boolean (vs.set i (.int x')) → Goes p.tables e below (T'.setTop (mkF m (pc + 1) Ls st)) P) : Goes p.tables e below (T.setTop (mkF m pc Ls (.int x :: .int j :: .ref a :: st))) P := by
  have A' := A
  obtain ⟨cl, A, hs, hl, -⟩ := A
  obtain ⟨T', h', X', e', W', st'⟩ := stZ X hx hZ eT A (own_in hj hs hi) (g := mkF m pc Ls (.int x :: .int j :: .ref a :: st)) rfl rfl hd
  rw [(own_nat hj).1, hn] at W'
  rw [(own_nat hj).1] at X'
  exact (k T' h' X' e' W' (A'.set W' (by rw [← hn]; exact fits_nar_bool x))).of st'
theorem g_clone (X : Stand p l e R s m args below meth c T locs cells slots) (hx : p.tables.exec = Jvm.exec) (hZ : Z.Warmed39 s.vm) {own ad : String} {index : Nat} (hown : s.vm.findClass own = some m.cls) (hml : Ls.size = c.maxLocals) (eT : T.heap = h)
    (w1 : (Jvm.Cond.methodLink own index ⟨ad, "clone", "()Ljava/lang/Object;"⟩).before a0 Z = true) (w2 : (Jvm.Cond.sameMethod ad "java/lang/Object" "clone" "()Ljava/lang/Object;").before a0 Z = true) (w3 : (Jvm.Cond.native ⟨"java/lang/Object", "clone", "()Ljava/lang/Object;"⟩).before a0 Z = true)
    (w4 : (Jvm.Cond.instanceMethod ⟨"java/lang/Object", "clone", "()Ljava/lang/Object;"⟩).before a0 Z = true) (w5 : (Jvm.Cond.selects ad ⟨ad, "clone", "()Ljava/lang/Object;"⟩ ⟨"java/lang/Object", "clone", "()Ljava/lang/Object;"⟩).before a0 Z = true) (w6 : (Jvm.Cond.castable ad "java/lang/Cloneable").before a0 Z = true)
    (A : Ar Z h a ty vs) (E : Exa Z h a ad) (hd : decode c.code pc = .ok (.invokevirtual index, 3)) (W cap : Nat) (hf : 1 ≤ R.frames) (hW : (st.map fun v => v.category).sum ≤ W) (hl : W + 14 ≤ R.locals) (hcap : vs.length ≤ cap) (hc : cells + 1 ≤ R.cells) (hsl : slots + cap ≤ R.slots)
    (k : ∀ T' h' b, b = h.size → Stand p l e R s m args below meth c T' locs (cells + 1) (slots + cap) → T'.heap = h' → Ext h h' → Ar Z h' b ty vs → Exa Z h' b ad → Goes p.tables e below (T'.setTop (mkF m (pc + 3) Ls (.ref b :: st))) P) :
    Goes p.tables e below (T.setTop (mkF m pc Ls (.ref a :: st))) P := by
  obtain ⟨cl, A, hs, hln, hft⟩ := A
  have hsz : cl.slots.size = vs.length := by rw [← hs, Array.length_toList]
  obtain ⟨T', h', X', e', Ex, A', E', st'⟩ := cloneA X hx hZ hown w1 w2 w3 w4 w5 w6 eT A E (fitC_of A (fun i hi v hv => hft v (by rw [← hs]; exact Array.mem_toList_iff.mpr (Array.mem_of_getElem? hv)))) (g := mkF m pc Ls (.ref a :: st)) rfl hml rfl hd hf (W := W) (cap := cap) (by show 2 * 0 + _ ≤ _; omega) hl (by rw [hsz]; exact hcap) hc hsl
  exact (k T' h' _ rfl X' e' Ex ⟨_, A', hs, hln, hft⟩ E').of st'
theorem g_cast (X : Stand p l e R s m args below meth c T locs cells slots) (hx : p.tables.exec = Jvm.exec) (hZ : Z.Warmed39 s.vm) {own K : String} {index : Nat} (hown : s.vm.findClass own = some m.cls) (eT : T.heap = h) (w : (Jvm.Cond.classLink own index K).before a0 Z = true) (F : Ins Z h a K true) (hd : decode c.code pc = .ok (.checkcast index, 3))
    (k : ∀ T', Stand p l e R s m args below meth c T' locs cells slots → T'.heap = h → Goes p.tables e below (T'.setTop (mkF m (pc + 3) Ls (.ref a :: st))) P) : Goes p.tables e below (T.setTop (mkF m pc Ls (.ref a :: st))) P := by
  obtain ⟨T', X', e', st'⟩ := castY X hx hZ hown w eT F (g := mkF m pc Ls (.ref a :: st)) rfl rfl hd
  exact (k T' X' e').of st'
theorem Ar.toV (F : Ar Z h a ty vs) (d : Value) : ∃ k, Arv Z h a k ty (Int32.ofNat vs.length) vs d := by
  obtain ⟨cl, A, hs, hl, hf⟩ := F
  have e1 : cl.slots.size = vs.length := by rw [← hs, Array.length_toList]
  obtain ⟨e2, q⟩ := own_nat (j := Int32.ofNat vs.length) (i := vs.length) (Int32.toInt_ofNat_of_lt (by omega))
  refine ⟨cl.cls, cl, A, rfl, by rw [e2, e1], q, fun i hi => ?_, fun i hi => ?_⟩
  · rw [← Array.getElem?_toList, hs, List.getD_eq_getElem?_getD, List.getElem?_eq_getElem (by omega)]; rfl
  · rw [List.getD_eq_getElem?_getD, List.getElem?_eq_getElem (by omega)]; exact hf _ (List.getElem_mem _)
theorem Ar.ofV {k : ClassId} {z : Int32} {d : Value} (F : Arv Z h a k ty z vs d) (hl : vs.length = z.toNatClampNeg) (hb : vs.length < 2 ^ 31) : Ar Z h a ty vs := by
  obtain ⟨cl, A, -, hs, -, H, G⟩ := F
  have e : cl.slots.toList = vs := by
    apply List.ext_getElem?
    intro i
    by_cases hi : i < cl.slots.size
    · rw [Array.getElem?_toList, H i hi, List.getD_eq_getElem?_getD, List.getElem?_eq_getElem (by omega)]; rfl
    · rw [List.getElem?_eq_none (by rw [Array.length_toList]; omega), List.getElem?_eq_none (by omega)]
  refine ⟨cl, A, e, hb, fun v hv => ?_⟩
  obtain ⟨i, hi, rfl⟩ := List.getElem_of_mem hv
  have q := G i (by omega)
  rwa [List.getD_eq_getElem?_getD, List.getElem?_eq_getElem hi] at q
theorem own_rangeTake (vs : List Value) (d : Value) (n : Nat) (hn : n ≤ vs.length) : (List.range n).map (fun i => vs.getD (0 + i) d) = vs.take n := by
  apply List.ext_getElem
  · simp; omega
  · intro i h1 h2
    simp at h1 h2
    simp [List.getElem?_eq_getElem (show i < vs.length by omega)]
theorem g_acopy (X : Stand p l e R s m args below meth c T locs cells slots) (hx : p.tables.exec = Jvm.exec) (hZ : Z.Warmed39 s.vm) {own : String} {index : Nat} (hown : s.vm.findClass own = some m.cls) (hml : Ls.size = c.maxLocals) (eT : T.heap = h)
    (w1 : (Jvm.Cond.methodLink own index Jvm.Stand.acN).before a0 Z = true) (w2 : (Jvm.Cond.native Jvm.Stand.acN).before a0 Z = true) (w3 : (Jvm.Cond.static Jvm.Stand.acN).before a0 Z = true) (w4 : (Jvm.Cond.initialized "java/lang/System").before a0 Z = true)
    {vd : List Value} (A : Ar Z h a ty vs) (B : Ar Z h b ty vd) (hp : refKind ty = false) {nn : Int32} {n : Nat} (hn : nn.toInt = n) (h1 : n ≤ vs.length) (h2 : n ≤ vd.length) {n0 : Nat} (N : Fr n0 locs) (ge : n0 ≤ b) (hd : decode c.code pc = .ok (.invokestatic index, 3))
    (W : Nat) (hf : 1 ≤ R.frames) (hW : (st.map fun v => v.category).sum ≤ W) (hlo : W + (nativeFrameWords "java/lang/System" "arraycopy" 5 + 11) ≤ R.locals)
    (k : ∀ T' h' L, Stand p l e R s m args below meth c T' L cells slots → T'.heap = h' → Fr n0 L → Keep h h' [b] → Ar Z h' b ty (vs.take n ++ vd.drop n) → Goes p.tables e below (T'.setTop (mkF m (pc + 3) Ls st)) P) :
    Goes p.tables e below (T.setTop (mkF m pc Ls (.int nn :: .int 0 :: .ref b :: .int 0 :: .ref a :: st))) P := by
  obtain ⟨k1, A1⟩ := A.toV .null
  obtain ⟨k2, B1⟩ := B.toV .null
  obtain ⟨en, qn⟩ := own_nat hn
  have lv : vs.length < 2 ^ 31 := by obtain ⟨_, _, _, q, _⟩ := A; exact q
  have ld : vd.length < 2 ^ 31 := by obtain ⟨_, _, _, q, _⟩ := B; exact q
  have ev : (Int32.ofNat vs.length).toNatClampNeg = vs.length := (own_nat (Int32.toInt_ofNat_of_lt (by omega))).1
  have ed : (Int32.ofNat vd.length).toNatClampNeg = vd.length := (own_nat (Int32.toInt_ofNat_of_lt (by omega))).1
  have e0 : (0 : Int32).toNatClampNeg = 0 := rfl
  obtain ⟨T', h', L, X', e', N', K', B', st'⟩ := cpA X hx hZ hown w1 w2 w3 w4 eT A1 B1 (sp := 0) (dp := 0) (nn := nn) (Or.inl ⟨rfl, hp⟩) (by decide) (by decide) qn (by rw [e0, en, ev]; omega) (by rw [e0, en, ed]; omega) rfl (by rw [e0, en]; omega) N ge (g := mkF m pc Ls (.int nn :: .int 0 :: .ref b :: .int 0 :: .ref a :: st)) rfl hml rfl hd hf (W := W) (by show 2 * 0 + _ ≤ _; omega) hlo
  rw [e0, en, own_rangeTake vs _ n h1, List.take_zero, List.nil_append, Nat.zero_add] at B'
  have hlen : (vs.take n ++ vd.drop n).length = vd.length := by rw [List.length_append, List.length_take, List.length_drop]; omega
  exact (k T' h' L X' e' N' K' (Ar.ofV B' (by rw [hlen, ed]) (by rw [hlen]; exact ld))).of st'
end Arrays
theorem own_nst {a : Addr} {K : String} (E : Exa Z h a K) : ∀ c : Cell, h[a]? = some c → c.vm.isStatics = false := fun c hc => by
  obtain ⟨cell, k, h1, -, -, h4, -⟩ := E
  cases h1.symm.trans hc
  exact h4
theorem own_stakeep {h' : Heap} {K n d : String} {v : Value} {ws : List Addr} (F : Sta Z h K n d v) (hK : Keep h h' ws) (q : ∀ x ∈ ws, ∀ c : Cell, h[x]? = some c → c.vm.isStatics = false) : Sta Z h' K n d v := by
  obtain ⟨cf, i, k, f, sa, cell, h1, h2, h3, h4, h5, h6, h7⟩ := F
  exact ⟨cf, i, k, f, sa, cell, h1, h2, h3, h4, hK.2.1 sa cell h5 (fun hm => by rw [q sa hm cell h5] at h6; cases h6), h6, h7⟩
/-! words on statics -/
section Words
variable {first : State} {o : Option Outcome} {idx : List Nat} {ta tb : Term}
theorem own_eqR {y : Addr} (h : (Jvm.Cond.eq ta tb).value args first o s idx = some true) (hb : tb.eval args first o idx s = some (.ref y)) : ta.eval args first o idx s = some (.ref y) := by
  obtain ⟨x, z, ha, hb', k1, k2⟩ := cmp_v (Or.inl h)
  cases hb.symm.trans hb'
  have e := gotT (eq_R ha hb k2.2 rfl) h
  rw [ha, e]
theorem own_eqI {y : Int32} (h : (Jvm.Cond.eq ta tb).value args first o s idx = some true) (hb : tb.eval args first o idx s = some (.int y)) : ta.eval args first o idx s = some (.int y) := by
  obtain ⟨x, z, ha, hb', k1, k2⟩ := cmp_v (Or.inl h)
  cases hb.symm.trans hb'
  obtain ⟨w, rfl⟩ := k2
  simp [Jvm.Cond.value, ha, hb] at h
  rw [ha, h]
end Words
end Walk
end Jvm.OwnW
namespace Jvm.OwnW
open Sem ClassFile Op Lib Jvm.Stand Jvm.Free Jvm.LawKit Jvm.RoadKit
section Refs
variable {p : Program} {l : Launch} {e : Env} {R : Room} {s : State} {m : MethodId} {args : Array Value} {below : List Frame} {meth : Method} {c : Code} {T : State} {locs : List Loc} {cells slots : Nat} {P : State → Outcome → Prop} {pc : Nat} {Ls : Array Slot} {st : List Value} {Z : State} {a0 : Array Value} {h h' : Heap}
variable {Q : Option Value → Heap → List Loc → Prop} {y : MethodName} {bytes : ByteArray} {maxL : Nat} {ret : Option FieldType} {rm : Room} {as' : Array Value} {own K : String} {index W : Nat} {a b : Addr} {ty : FieldType} {vs : List Value} {ws : List Addr}
/-- the array's class is that of arrays over C -/
def Ovc (Z : State) (h : Heap) (a : Addr) (C : String) : Prop := ∃ c : Cell, h[a]? = some c ∧ Ovr Z c.cls C
theorem Ovc.ext {C : String} (F : Ovc Z h a C) (E : Ext h h') : Ovc Z h' a C := by obtain ⟨c, h1, h2⟩ := F; exact ⟨c, E.2 _ _ h1, h2⟩
theorem Ovc.wr {C : String} {sl : Nat} {v : Value} (F : Ovc Z h a C) (W : Wr h h' b sl v) : Ovc Z h' a C := by
  obtain ⟨c, h1, h2⟩ := F
  obtain ⟨c', e1, e2, -⟩ := wr_at W h1
  exact ⟨c', e1, by rw [e2]; exact h2⟩
theorem Ovc.keep {C : String} (F : Ovc Z h a C) (K : Keep h h' ws) : Ovc Z h' a C := by
  obtain ⟨c, h1, h2⟩ := F
  obtain ⟨c', e1, e2, -⟩ := K.2.2 _ _ h1
  exact ⟨c', e1, by rw [e2]; exact h2⟩
theorem Ovc.sto {C : String} {x : Addr} (F : Ovc Z h a C) (A : Ar Z h a ty vs) (I : Ins Z h x C true) : Sto Z h a (.ref x) := by
  obtain ⟨c, h1, h2⟩ := F
  obtain ⟨c', A, -⟩ := A
  cases h1.symm.trans A.1
  exact Sto.of A h2 I
theorem own_stoL {us : List Value} (H : ∀ v ∈ us, Sto Z h a v) : StoL Z h a us := by
  induction us with
  | nil => trivial
  | cons v r ih => exact ⟨H v (List.mem_cons_self ..), ih fun w hw => H w (List.mem_cons_of_mem _ hw)⟩
theorem Ins.keep' {x : Addr} {C : String} {bo : Bool} (F : Ins Z h x C bo) (K : Keep h h' ws) : Ins Z h' x C bo := by
  obtain ⟨cell, cT, h1, h2, h3⟩ := F
  obtain ⟨c', e1, e2, e3, -⟩ := K.2.2 _ _ h1
  exact ⟨c', cT, e1, h2, by rw [e2, e3]; exact h3⟩
theorem g_newref (X : Stand p l e R s m args below meth c T locs cells slots) (hx : p.tables.exec = Jvm.exec) (hZ : Z.Warmed39 s.vm) (hown : s.vm.findClass own = some m.cls) (eT : T.heap = h) {C : String} (w1 : (Jvm.Cond.classLink own index C).before a0 Z = true) (w2 : (Jvm.Cond.arrayOver (.object C)).before a0 Z = true) (hd : decode c.code pc = .ok (.anewarray index, 3)) {z : Int32} {n : Nat} (hz : z.toInt = n) (cap : Nat) (hcap : n ≤ cap) (hb : cap * 8 ≤ 536870912) (hc : cells + 1 ≤ R.cells) (hl : slots + cap ≤ R.slots) {ad : String} (had : "[" ++ (FieldType.object C).toString = ad)
    (k : ∀ T' h' a, a = h.size → Stand p l e R s m args below meth c T' locs (cells + 1) (slots + cap) → T'.heap = h' → Ext h h' → Ar Z h' a (.object C) (List.replicate n .null) → Exa Z h' a ad → Ovc Z h' a C → Goes p.tables e below (T'.setTop (mkF m (pc + 3) Ls (.ref a :: st))) P) :
    Goes p.tables e below (T.setTop (mkF m pc Ls (.int z :: st))) P := by
  obtain ⟨e1, q⟩ := own_nat hz
  obtain ⟨T', h', cA, X', e', E, A, F, O, st'⟩ := newRE X hx hZ hown w1 w2 eT (g := mkF m pc Ls (.int z :: st)) rfl hd rfl q (cap := cap) (by rw [e1]; exact hcap) hb hc hl had
  refine (k T' h' _ rfl X' e' E ⟨_, A, ?_, ?_, ?_⟩ F ⟨_, A.1, O⟩).of st'
  · simp [newA, e1, defaultValue]
  · rw [List.length_replicate]; have := rng32 z; omega
  · intro v hv; rw [(List.mem_replicate.mp hv).2]; rfl
theorem g_aastore (X : Stand p l e R s m args below meth c T locs cells slots) (hx : p.tables.exec = Jvm.exec) (hZ : Z.Warmed39 s.vm) (eT : T.heap = h) (A : Ar Z h a ty vs) (hty : ty.isReference = true) {j : Int32} {v : Value} (hf : fits ty v = true) (S : Sto Z h a v) (i : Nat) (hj : j.toInt = i) (hi : i < vs.length) (hd : decode c.code pc = .ok (.aastore, 1))
    (k : ∀ T' h', Stand p l e R s m args below meth c T' (locs ++ [⟨a, i⟩]) cells slots → T'.heap = h' → Wr h h' a i v → Ar Z h' a ty (vs.set i v) → Goes p.tables e below (T'.setTop (mkF m (pc + 1) Ls st)) P) : Goes p.tables e below (T.setTop (mkF m pc Ls (v :: .int j :: .ref a :: st))) P := by
  have A' := A
  obtain ⟨cl, A, hs, hl, -⟩ := A
  obtain ⟨T', h', X', e', W', st'⟩ := stR X hx hZ eT A (own_in hj hs hi) hty S (g := mkF m pc Ls (v :: .int j :: .ref a :: st)) rfl rfl hd
  rw [(own_nat hj).1] at X' W'
  exact (k T' h' X' e' W' (A'.set W' hf)).of st'
theorem g_acopyR (X : Stand p l e R s m args below meth c T locs cells slots) (hx : p.tables.exec = Jvm.exec) (hZ : Z.Warmed39 s.vm) (hown : s.vm.findClass own = some m.cls) (hml : Ls.size = c.maxLocals) (eT : T.heap = h)
    (w1 : (Jvm.Cond.methodLink own index Jvm.Stand.acN).before a0 Z = true) (w2 : (Jvm.Cond.native Jvm.Stand.acN).before a0 Z = true) (w3 : (Jvm.Cond.static Jvm.Stand.acN).before a0 Z = true) (w4 : (Jvm.Cond.initialized "java/lang/System").before a0 Z = true)
    {vd : List Value} (A : Ar Z h a ty vs) (B : Ar Z h b ty vd) (hp : refKind ty = true) {nn : Int32} {n : Nat} (hn : nn.toInt = n) (h1 : n ≤ vs.length) (h2 : n ≤ vd.length) (hS : ∀ v ∈ vs.take n, Sto Z h b v) {n0 : Nat} (N : Fr n0 locs) (ge : n0 ≤ b) (hd : decode c.code pc = .ok (.invokestatic index, 3))
    (W : Nat) (hf : 1 ≤ R.frames) (hW : (st.map fun v => v.category).sum ≤ W) (hlo : W + (nativeFrameWords "java/lang/System" "arraycopy" 5 + 11) ≤ R.locals)
    (k : ∀ T' h' L, Stand p l e R s m args below meth c T' L cells slots → T'.heap = h' → Fr n0 L → Keep h h' [b] → Ar Z h' b ty (vs.take n ++ vd.drop n) → Goes p.tables e below (T'.setTop (mkF m (pc + 3) Ls st)) P) :
    Goes p.tables e below (T.setTop (mkF m pc Ls (.int nn :: .int 0 :: .ref b :: .int 0 :: .ref a :: st))) P := by
  obtain ⟨k1, A1⟩ := A.toV .null
  obtain ⟨k2, B1⟩ := B.toV .null
  obtain ⟨en, qn⟩ := own_nat hn
  have lv : vs.length < 2 ^ 31 := by obtain ⟨_, _, _, q, _⟩ := A; exact q
  have ld : vd.length < 2 ^ 31 := by obtain ⟨_, _, _, q, _⟩ := B; exact q
  have ev : (Int32.ofNat vs.length).toNatClampNeg = vs.length := (own_nat (Int32.toInt_ofNat_of_lt (by omega))).1
  have ed : (Int32.ofNat vd.length).toNatClampNeg = vd.length := (own_nat (Int32.toInt_ofNat_of_lt (by omega))).1
  have e0 : (0 : Int32).toNatClampNeg = 0 := rfl
  have us : (List.range nn.toNatClampNeg).map (fun i => vs.getD ((0 : Int32).toNatClampNeg + i) .null) = vs.take n := by rw [e0, en]; exact own_rangeTake vs _ n h1
  obtain ⟨T', h', L, X', e', N', K', B', st'⟩ := cpA X hx hZ hown w1 w2 w3 w4 eT A1 B1 (sp := 0) (dp := 0) (nn := nn) (us := vs.take n) (Or.inr ⟨hp, hp, own_stoL hS⟩) (by decide) (by decide) qn (by rw [e0, en, ev]; omega) (by rw [e0, en, ed]; omega) us.symm (by rw [e0, en]; omega) N ge (g := mkF m pc Ls (.int nn :: .int 0 :: .ref b :: .int 0 :: .ref a :: st)) rfl hml rfl hd hf (W := W) (by show 2 * 0 + _ ≤ _; omega) hlo
  rw [e0, en, List.take_zero, List.nil_append, Nat.zero_add] at B'
  have hlen : (vs.take n ++ vd.drop n).length = vd.length := by rw [List.length_append, List.length_take, List.length_drop]; omega
  exact (k T' h' L X' e' N' K' (Ar.ofV B' (by rw [hlen, ed]) (by rw [hlen]; exact ld))).of st'
/-- a private instance method by its contract (invokevirtual) -/
theorem g_callP (X : Stand p l e R s m args below meth c T locs cells slots) (hx : p.tables.exec = Jvm.exec) (hZ : Z.Warmed39 s.vm) (hown : s.vm.findClass own = some m.cls) (hml : Ls.size = c.maxLocals) (eT : T.heap = h)
    (wl : (Jvm.Cond.methodLink own index y).before a0 Z = true) (wt : (Jvm.Cond.instanceMethod y).before a0 Z = true) (wv : (Jvm.Cond.selects y.cls y y).before a0 Z = true) (wp : (Jvm.Cond.privateMethod y).before a0 Z = true) (wz : (Jvm.Cond.initialized y.cls).before a0 Z = true) (wc : (Jvm.Cond.code y bytes maxL ret).before a0 Z = true)
    (E : Exa Z h a K) (hM : Con l Z y bytes maxL ret [] rm rm.cells rm.slots as' h Q) (argsL : List Value) (has : (.ref a :: argsL).toArray = as') {S : List Value} (st : List Value) (hS : S = argsL.reverse ++ .ref a :: st) (hlen : ∀ sig, parseMethodDescriptor y.desc = some sig → argsL.length = sig.parameters.length)
    (hd : decode c.code pc = .ok (.invokevirtual index, 3)) (hy : y.cls ≠ "java/lang/invoke/MethodHandle" ∧ y.cls ≠ "java/lang/invoke/VarHandle") (W : Nat) (hf : rm.frames + 1 ≤ R.frames) (hl : W + (maxL + 11) + rm.locals ≤ R.locals) (hW : (st.map fun v => v.category).sum ≤ W) (hc : cells + rm.cells ≤ R.cells) (hs : slots + rm.slots ≤ R.slots)
    (k : ∀ v T' L, Stand p l e R s m args below meth c T' (locs ++ L) (cells + rm.cells) (slots + rm.slots) → Q v T'.heap L → Goes p.tables e below (T'.setTop (mkF m (pc + 3) Ls (v.toList ++ st))) P) :
    Goes p.tables e below (T.setTop (mkF m pc Ls S)) P := by
  subst hS
  obtain ⟨cell, hc1, hc2⟩ := Exa.cell E
  obtain ⟨v, vm₁, ⟨T', L', k', n'⟩, -, X', ⟨L, hQ, e1, e2, e3⟩, st'⟩ := X.privateBack hx (y := y) hown (mvT hZ wl) (mvT hZ wt) (mvT hZ wv) (Cond.privateMethod_at (args := #[]) (mvP hZ wp)) (mvT hZ wc) hy (backOf (W := W) hM hZ wc wz hf hl) (g := mkF m pc Ls (argsL.reverse ++ .ref a :: st)) rfl hml (Steps.refl _) (a := a) (cell := cell) (by rw [eT]; exact hc1) hc2 (argsL := argsL) (rest := st) hlen rfl (by show 2 * 0 + _ ≤ _; omega) hd (fun _ _ => ⟨has, eT, hc, hs⟩)
  dsimp only [Pt.U, Pt.locs, Pt.cells, Pt.slots] at X' e1 e2 e3 st' hQ
  subst e1 e2 e3
  exact (k v T' L X' hQ).tr st'
/-- an interface's method by the contract of what it selects -/
theorem g_callF (X : Stand p l e R s m args below meth c T locs cells slots) (hx : p.tables.exec = Jvm.exec) (hZ : Z.Warmed39 s.vm) (hown : s.vm.findClass own = some m.cls) (hml : Ls.size = c.maxLocals) (eT : T.heap = h) {x : MethodName} {count : Nat}
    (wl : (Jvm.Cond.methodLink own index x).before a0 Z = true) (wd : (Jvm.Cond.declares x).before a0 Z = true) (wi : (Jvm.Cond.interfaceMethod x.cls x.cls x.name x.desc).before a0 Z = true) (wv : (Jvm.Cond.selects K x y).before a0 Z = true) (wt : (Jvm.Cond.instanceMethod y).before a0 Z = true) (wu : (Jvm.Cond.publicMethod y).before a0 Z = true) (wh : (Jvm.Cond.unhidden K x.name x.desc).before a0 Z = true) (wk : (Jvm.Cond.castable K x.cls).before a0 Z = true) (wz : (Jvm.Cond.initialized y.cls).before a0 Z = true) (wc : (Jvm.Cond.code y bytes maxL ret).before a0 Z = true)
    (E : Exa Z h a K) (hM : Con l Z y bytes maxL ret [] rm rm.cells rm.slots as' h Q) (argsL : List Value) (has : (.ref a :: argsL).toArray = as') {S : List Value} (st : List Value) (hS : S = argsL.reverse ++ .ref a :: st) (hlen : ∀ sig, parseMethodDescriptor x.desc = some sig → argsL.length = sig.parameters.length)
    (hd : decode c.code pc = .ok (.invokeinterface index count, 5)) (hy : x.cls ≠ "java/lang/invoke/MethodHandle" ∧ x.cls ≠ "java/lang/invoke/VarHandle") (W : Nat) (hf : rm.frames + 1 ≤ R.frames) (hl : W + (maxL + 11) + rm.locals ≤ R.locals) (hW : (st.map fun v => v.category).sum ≤ W) (hc : cells + rm.cells ≤ R.cells) (hs : slots + rm.slots ≤ R.slots)
    (k : ∀ v T' L, Stand p l e R s m args below meth c T' (locs ++ L) (cells + rm.cells) (slots + rm.slots) → Q v T'.heap L → Goes p.tables e below (T'.setTop (mkF m (pc + 5) Ls (v.toList ++ st))) P) :
    Goes p.tables e below (T.setTop (mkF m pc Ls S)) P := by
  subst hS
  obtain ⟨cq, kq, qa, qb, qc⟩ := isOf hZ eT E
  obtain ⟨v, vm₁, ⟨T', L', k', n'⟩, -, X', ⟨L, hQ, e1, e2, e3⟩, st'⟩ := X.interfaceBack hx (xi := x) (y := y) hown (mvT hZ wl) (mvT hZ wd) (mvT hZ wi (by simp [Cond.onTables, Cond.keepsFace, Cond.keeps, Cond.steady, Cond.faceAtom, hy.1, hy.2])) (mvT hZ wv) (mvT hZ wt) (mvT hZ wu) (mvT hZ wh) (mvT hZ wk) hy (backOf (W := W) hM hZ wc wz hf hl) qa qb qc (g := mkF m pc Ls (argsL.reverse ++ .ref a :: st)) rfl hml (Steps.refl _) (argsL := argsL) (rest := st) hlen rfl (by show 2 * 0 + _ ≤ _; omega) hd (fun _ _ => ⟨has, eT, hc, hs⟩)
  dsimp only [Pt.U, Pt.locs, Pt.cells, Pt.slots] at X' e1 e2 e3 st' hQ
  subst e1 e2 e3
  exact (k v T' L X' hQ).tr st'
theorem own_mvM {Z s : State} {a0 args : Array Value} {own host : String} {index : Nat} {y : MethodName} (hZ : Z.Warmed39 s.vm) (w : (Jvm.Cond.methodLinkNest own index y host).before a0 Z = true) : (Jvm.Cond.methodLinkNest own index y host).before args s = true := (Cond.methodLinkNest_wide hZ w :)
/-- a constructor by its contract, linked through the nest -/
theorem g_callIN (X : Stand p l e R s m args below meth c T locs cells slots) (hx : p.tables.exec = Jvm.exec) (hZ : Z.Warmed39 s.vm) (hown : s.vm.findClass own = some m.cls) (hml : Ls.size = c.maxLocals) (eT : T.heap = h) {host : String} (hn : y.name = "<init>")
    (wl : (Jvm.Cond.methodLinkNest own index y host).before a0 Z = true) (wt : (Jvm.Cond.instanceMethod y).before a0 Z = true) (wz : (Jvm.Cond.initialized y.cls).before a0 Z = true) (wc : (Jvm.Cond.code y bytes maxL none).before a0 Z = true)
    (hM : Con l Z y bytes maxL none [] rm rm.cells rm.slots as' h Q) (a : Addr) (argsL : List Value) (has : (.ref a :: argsL).toArray = as') {S : List Value} (st : List Value) (hS : S = argsL.reverse ++ .ref a :: st) (hlen : ∀ sig, parseMethodDescriptor y.desc = some sig → argsL.length = sig.parameters.length)
    (hd : decode c.code pc = .ok (.invokespecial index, 3)) (hy : y.cls ≠ "java/lang/invoke/MethodHandle" ∧ y.cls ≠ "java/lang/invoke/VarHandle") (W : Nat) (hf : rm.frames + 1 ≤ R.frames) (hl : W + (maxL + 11) + rm.locals ≤ R.locals) (hW : (st.map fun v => v.category).sum ≤ W) (hc : cells + rm.cells ≤ R.cells) (hs : slots + rm.slots ≤ R.slots)
    (k : ∀ v T' L, Stand p l e R s m args below meth c T' (locs ++ L) (cells + rm.cells) (slots + rm.slots) → Q v T'.heap L → Goes p.tables e below (T'.setTop (mkF m (pc + 3) Ls (v.toList ++ st))) P) :
    Goes p.tables e below (T.setTop (mkF m pc Ls S)) P := by
  subst hS
  obtain ⟨v, vm₁, ⟨T', L', k', n'⟩, -, X', ⟨L, hQ, e1, e2, e3⟩, st'⟩ := X.specialBackNest hx (y := y) hn hown (own_mvM hZ wl) (mvT hZ wt) (mvT hZ wc) hy (backOf (W := W) hM hZ wc wz hf hl) (g := mkF m pc Ls (argsL.reverse ++ .ref a :: st)) rfl hml (Steps.refl _) (a := a) (argsL := argsL) (rest := st) hlen rfl (by show 2 * 0 + _ ≤ _; omega) hd (fun _ _ => ⟨has, eT, hc, hs⟩)
  dsimp only [Pt.U, Pt.locs, Pt.cells, Pt.slots] at X' e1 e2 e3 st' hQ
  subst e1 e2 e3
  exact (k v T' L X' hQ).tr st'
/-- the class object of the class C is mr -/
def Mirr (Z : State) (C : String) (mr : Addr) : Prop := ∃ (c : ClassId) (k : Class), Z.vm.findClass C = some c ∧ Z.vm.classes[c]? = some k ∧ k.mirror = some mr
theorem g_ldcM (X : Stand p l e R s m args below meth c T locs cells slots) (hx : p.tables.exec = Jvm.exec) (hZ : Z.Warmed39 s.vm) (hown : s.vm.findClass own = some m.cls) (eT : T.heap = h) {C : String} (w : (Jvm.Cond.classLink own index C).before a0 Z = true) {mr : Addr} (M : Mirr Z C mr) (hd : decode c.code pc = .ok (.ldc index, 2))
    (k : ∀ T', Stand p l e R s m args below meth c T' locs cells slots → T'.heap = h → Goes p.tables e below (T'.setTop (mkF m (pc + 2) Ls (.ref mr :: st))) P) : Goes p.tables e below (T.setTop (mkF m pc Ls st)) P := by
  obtain ⟨cc, kc, m1, m2, m3⟩ := M
  obtain ⟨k', q, ek⟩ := hZ.alike.2.2 _ _ m2
  have hev : (Term.mirror C).eval args s none [] s = some (.ref mr) := by
    have f1 : s.vm.findClass C = some cc := by rw [hZ.alike.findClass]; exact m1
    have f3 : k'.mirror = some mr := by rw [ek]; exact m3
    simp [Term.eval, f1, q, f3]
  obtain ⟨vm', X', st'⟩ := X.ldcMirror hx hown (mvT hZ w) hev (g := mkF m pc Ls st) rfl hd
  exact (k _ X' eT).of st'
theorem g_gcls (X : Stand p l e R s m args below meth c T locs cells slots) (hx : p.tables.exec = Jvm.exec) (hZ : Z.Warmed39 s.vm) (hown : s.vm.findClass own = some m.cls) (hml : Ls.size = c.maxLocals) (eT : T.heap = h) {C : String}
    (w1 : (Jvm.Cond.methodLink own index ⟨"java/lang/Object", "getClass", "()Ljava/lang/Class;"⟩).before a0 Z = true) (w2 : (Jvm.Cond.declares ⟨"java/lang/Object", "getClass", "()Ljava/lang/Class;"⟩).before a0 Z = true) (w3 : (Jvm.Cond.noSuperclass "java/lang/Object").before a0 Z = true) (w4 : (Jvm.Cond.selects C ⟨"java/lang/Object", "getClass", "()Ljava/lang/Class;"⟩ ⟨"java/lang/Object", "getClass", "()Ljava/lang/Class;"⟩).before a0 Z = true)
    (w5 : (Jvm.Cond.instanceMethod ⟨"java/lang/Object", "getClass", "()Ljava/lang/Class;"⟩).before a0 Z = true) (w6 : (Jvm.Cond.native ⟨"java/lang/Object", "getClass", "()Ljava/lang/Class;"⟩).before a0 Z = true) (E : Exa Z h a C) {mr : Addr} (M : Mirr Z C mr)
    (hd : decode c.code pc = .ok (.invokevirtual index, 3)) (W : Nat) (hf : 1 ≤ R.frames) (hW : (st.map fun v => v.category).sum ≤ W) (hl : W + (nativeFrameWords "java/lang/Object" "getClass" 1 + 11) ≤ R.locals)
    (k : ∀ T', Stand p l e R s m args below meth c T' locs cells slots → T'.heap = h → Goes p.tables e below (T'.setTop (mkF m (pc + 3) Ls (.ref mr :: st))) P) : Goes p.tables e below (T.setTop (mkF m pc Ls (.ref a :: st))) P := by
  obtain ⟨cB, kB, i1, i2, i3⟩ := isOf hZ eT E
  obtain ⟨cc, kc, m1, m2, m3⟩ := M
  rw [hZ.alike.findClass] at i1
  cases i1.symm.trans m1
  obtain ⟨k', q, ek⟩ := hZ.alike.2.2 _ _ m2
  obtain ⟨vm', X', st'⟩ := X.getClassOf hx hown (mvT hZ w1) (mvT hZ w2) (nf_top (args := #[]) (mvT hZ w3)) (mvT hZ w4) (mvT hZ w5) (mvT hZ w6) (by rw [hZ.alike.findClass]; exact m1) i3 q (by rw [ek]; exact m3) (g := mkF m pc Ls (.ref a :: st)) rfl hml rfl hd hf (by show 2 * 0 + _ + _ ≤ _; omega)
  exact (k _ X' eT).of st'
theorem g_instNo (X : Stand p l e R s m args below meth c T locs cells slots) (hx : p.tables.exec = Jvm.exec) (hZ : Z.Warmed39 s.vm) (hown : s.vm.findClass own = some m.cls) (eT : T.heap = h) {C : String} (w : (Jvm.Cond.classLink own index K).before a0 Z = true) (E : Exa Z h a C) (F : ∃ c t, Z.vm.findClass C = some c ∧ Z.vm.findClass K = some t ∧ Z.vm.assignable c t = false) (hd : decode c.code pc = .ok (.instanceof index, 3))
    (k : ∀ T', Stand p l e R s m args below meth c T' locs cells slots → T'.heap = h → Goes p.tables e below (T'.setTop (mkF m (pc + 3) Ls (.int 0 :: st))) P) : Goes p.tables e below (T.setTop (mkF m pc Ls (.ref a :: st))) P := by
  obtain ⟨T', X', e', st'⟩ := instNo X hx hZ hown w eT E F (g := mkF m pc Ls (.ref a :: st)) rfl rfl hd
  exact (k T' X' e').of st'
theorem g_tswIn (X : Stand p l e R s m args below meth c T locs cells slots) (hx : p.tables.exec = Jvm.exec) {dflt low high o : Int} {offs : Array Int} {len pc' : Nat} {i : Int32} (hd : decode c.code pc = .ok (.tableswitch dflt low high offs, len)) (hin : ¬ (i.toInt < low ∨ i.toInt > high)) (hoff : offs[(i.toInt - low).toNat]? = some o) (ho : 0 ≤ (pc : Int) + o) (hp : ((pc : Int) + o).toNat = pc')
    (hr : Goes p.tables e below (T.setTop (mkF m pc' Ls st)) P) : Goes p.tables e below (T.setTop (mkF m pc Ls (.int i :: st))) P := hr.of fun _ k => XS.tswIn X.here hx rfl rfl hd rfl hin hoff ho hp k
theorem g_tswOut (X : Stand p l e R s m args below meth c T locs cells slots) (hx : p.tables.exec = Jvm.exec) {dflt low high : Int} {offs : Array Int} {len pc' : Nat} {i : Int32} (hd : decode c.code pc = .ok (.tableswitch dflt low high offs, len)) (hout : i.toInt < low ∨ i.toInt > high) (ho : 0 ≤ (pc : Int) + dflt) (hp : ((pc : Int) + dflt).toNat = pc')
    (hr : Goes p.tables e below (T.setTop (mkF m pc' Ls st)) P) : Goes p.tables e below (T.setTop (mkF m pc Ls (.int i :: st))) P := hr.of fun _ k => XS.tswOut X.here hx rfl rfl hd rfl hout ho hp k
end Refs
end Jvm.OwnW
namespace Jvm.Pilot.@@N@@
open Jvm Jvm.ClassFile Sem Op Lib Jvm.Free Jvm.Stand Jvm.LawKit Jvm.RoadKit Bundle Jvm.OwnW Jvm.Pilot.@@N@@.Jvm.D
theorem d3_0 : decode jdk_22_method_1_code 0 = .ok (.aload_n 0, 1) := by decide +kernel
theorem d3_1 : decode jdk_22_method_1_code 1 = .ok (.invokespecial 1, 3) := by decide +kernel
theorem d3_4 : decode jdk_22_method_1_code 4 = .ok (.return_, 1) := by decide +kernel
theorem pd_3 : parseMethodDescriptor "()V" = some ⟨[], none⟩ := by decide +kernel
theorem ef_3 (m : MethodId) (p0 : Addr) : entryFrame m #[(.ref p0)] 1 = mkF m 0 #[.val (.ref p0)] [] := by first | (simp [entryFrame, mkF, argsToLocals, Value.category]; done) | rfl
set_option maxRecDepth 65536 in
set_option maxHeartbeats 40000000 in
theorem rmABC (l : Launch) (Z : State) (a0 : Array Value) (hw : ∀ d ∈ tables_1, d.before a0 Z = true) (p0 : Addr) (h0 : Heap) (n0 : Nat) (Z0 : n0 ≤ h0.size)  :
    Con l Z (⟨"java/util/AbstractCollection", "<init>", "()V"⟩ : MethodName) jdk_22_method_1_code 1 none [] ({ frames := 1, cells := 0, slots := 0, locals := 12 } : Room) 0 0 #[(.ref p0)] h0 (fun v h L => v = none ∧ h = h0 ∧ L = []) := by
  refine Con.body (plainFor_of_name (by first | (simp [plainName, overriddenIn]; done) | decide +kernel)) ?_
  intro p e s m below meth c T0 hx hby hml hown hnm hZ hret hlk X0 e0
  refine Goes.cast (ef_3 m p0) ?_
  have N0 := Fr.nil n0
  show Goes p.tables e below (T0.setTop (mkF m 0 #[.val (.ref p0)] [])) _
  refine g_aloadN X0 hx (hb hby d3_0) rfl rfl ?_
  show Goes p.tables e below (T0.setTop (mkF m 1 #[.val (.ref p0)] [(.ref p0)])) _
  refine g_init0 X0 hx hZ hown (by rw [hml]; rfl) e0 (hw _ (List.mem_of_getElem? (i := 18) rfl)) (hw _ (List.mem_of_getElem? (i := 19) rfl)) (hw _ (List.mem_of_getElem? (i := 20) rfl)) (hb hby d3_1) 0 (by decide) (by first | decide | exact Nat.le_refl _) (by first | decide | exact Nat.le_refl _) (fun T1 X1 e1 => ?_)
  show Goes p.tables e below (T1.setTop (mkF m 4 #[.val (.ref p0)] [])) _
  exact g_ret0 X1 hx hret hlk (hb hby d3_4) (by decide) (by decide) ⟨rfl, e1, rfl⟩
theorem d2_0 : decode jdk_39_method_1_code 0 = .ok (.aload_n 0, 1) := by decide +kernel
theorem d2_1 : decode jdk_39_method_1_code 1 = .ok (.invokespecial 1, 3) := by decide +kernel
theorem d2_4 : decode jdk_39_method_1_code 4 = .ok (.aload_n 0, 1) := by decide +kernel
theorem d2_5 : decode jdk_39_method_1_code 5 = .ok (.iconst 0, 1) := by decide +kernel
theorem d2_6 : decode jdk_39_method_1_code 6 = .ok (.putfield 7, 3) := by decide +kernel
theorem d2_9 : decode jdk_39_method_1_code 9 = .ok (.return_, 1) := by decide +kernel
theorem pd_2 : parseMethodDescriptor "()V" = some ⟨[], none⟩ := by decide +kernel
theorem ef_2 (m : MethodId) (p0 : Addr) : entryFrame m #[(.ref p0)] 1 = mkF m 0 #[.val (.ref p0)] [] := by first | (simp [entryFrame, mkF, argsToLocals, Value.category]; done) | rfl
set_option maxRecDepth 65536 in
set_option maxHeartbeats 40000000 in
theorem rmABL (l : Launch) (Z : State) (a0 : Array Value) (hw : ∀ d ∈ tables_1, d.before a0 Z = true) (p0 : Addr) (h0 : Heap) (n0 : Nat) (Z0 : n0 ≤ h0.size) (f1 : Fld Z h0 p0 "java/util/ArrayList" "elementData" "[Ljava/lang/Object;" .null) (f2 : Fld Z h0 p0 "java/util/ArrayList" "size" "I" (.int (0 : Int32))) (f3 : Fld Z h0 p0 "java/util/AbstractList" "modCount" "I" (.int (0 : Int32))) (E0 : Exa Z h0 p0 "java/util/ArrayList") (ga : n0 ≤ p0) :
    Con l Z (⟨"java/util/AbstractList", "<init>", "()V"⟩ : MethodName) jdk_39_method_1_code 1 none [] ({ frames := 2, cells := 0, slots := 0, locals := 24 } : Room) 0 0 #[(.ref p0)] h0 (fun v h L => v = none ∧ Fr n0 L ∧ Keep h0 h [p0] ∧ Fld Z h p0 "java/util/ArrayList" "elementData" "[Ljava/lang/Object;" .null ∧ Fld Z h p0 "java/util/ArrayList" "size" "I" (.int (0 : Int32)) ∧ Fld Z h p0 "java/util/AbstractList" "modCount" "I" (.int (0 : Int32))) := by
  refine Con.body (plainFor_of_name (by first | (simp [plainName, overriddenIn]; done) | decide +kernel)) ?_
  intro p e s m below meth c T0 hx hby hml hown hnm hZ hret hlk X0 e0
  refine Goes.cast (ef_2 m p0) ?_
  have N0 := Fr.nil n0
  have K0 : Keep h0 h0 [p0] := Keep.refl _ _
  show Goes p.tables e below (T0.setTop (mkF m 0 #[.val (.ref p0)] [])) _
  refine g_aloadN X0 hx (hb hby d2_0) rfl rfl ?_
  show Goes p.tables e below (T0.setTop (mkF m 1 #[.val (.ref p0)] [(.ref p0)])) _
  refine g_callI X0 hx hZ hown (by rw [hml]; rfl) e0 rfl (hw _ (List.mem_of_getElem? (i := 12) rfl)) (hw _ (List.mem_of_getElem? (i := 13) rfl)) (hw _ (List.mem_of_getElem? (i := 16) rfl)) (hw _ (List.mem_of_getElem? (i := 17) rfl)) (rmABC l Z a0 hw p0 h0 n0 Z0) p0 [] rfl [] rfl (lenOf pd_3 rfl) (hb hby d2_1) (by decide) 0 (by decide) (by decide) (by first | decide | exact Nat.le_refl _) (by decide) (by decide) (fun v T1 L1 X1 hQ1 => ?_)
  obtain ⟨rfl, e1, rfl⟩ := hQ1
  have N2 := Fr.app N0 (Fr.nil n0)
  show Goes p.tables e below (T1.setTop (mkF m 4 #[.val (.ref p0)] [])) _
  refine g_aloadN X1 hx (hb hby d2_4) rfl rfl ?_
  show Goes p.tables e below (T1.setTop (mkF m 5 #[.val (.ref p0)] [(.ref p0)])) _
  refine g_iconst X1 hx (0 : Int32) (hb hby d2_5) rfl ?_
  show Goes p.tables e below (T1.setTop (mkF m 6 #[.val (.ref p0)] [(.int (0 : Int32)), (.ref p0)])) _
  refine g_putF X1 hx hZ hown e1 (hw _ (List.mem_of_getElem? (i := 21) rfl)) Via.refl (v' := (.int (0 : Int32))) f3 E0 (Or.inl (hw _ (List.mem_of_getElem? (i := 22) rfl))) (hw _ (List.mem_of_getElem? (i := 1) rfl)) (ty := .int) (by decide) rfl rfl (hb hby d2_6) (fun T3 h3 X3 e3 W3 => ?_)
  have fx4 : Fld Z h3 p0 "java/util/ArrayList" "elementData" "[Ljava/lang/Object;" .null := Fld.other W3 f1 (Or.inr (slot_ne (t := (.array (.object "java/lang/Object"))) (t' := .int) (Or.inl (hw _ (List.mem_of_getElem? (i := 25) rfl))) (Or.inl (hw _ (List.mem_of_getElem? (i := 22) rfl))) (by decide) (by decide) (by decide)))
  have fx5 : Fld Z h3 p0 "java/util/ArrayList" "size" "I" (.int (0 : Int32)) := Fld.other W3 f2 (Or.inr (slot_ne (t := .int) (t' := .int) (Or.inl (hw _ (List.mem_of_getElem? (i := 57) rfl))) (Or.inl (hw _ (List.mem_of_getElem? (i := 22) rfl))) (by decide) (by decide) (by decide)))
  have fx6 : Exa Z h3 p0 "java/util/ArrayList" := Exa.wr W3 E0
  have fx7 : Fld Z h3 p0 "java/util/AbstractList" "modCount" "I" (.int (0 : Int32)) := Fld.same W3 f3
  have N8 := Fr.snoc X3 N2 ga
  have Z9 : n0 ≤ h3.size := by rw [W3.size]; exact Z0
  have K10 : Keep h0 h3 [p0] := Keep.wr K0 W3 (Or.inl (List.mem_of_getElem? (i := 0) rfl))
  show Goes p.tables e below (T3.setTop (mkF m 9 #[.val (.ref p0)] [])) _
  exact g_ret0 X3 hx hret hlk (hb hby d2_9) (by decide) (by decide) (by rw [e3]; exact ⟨rfl, N8, K10, fx4, fx5, fx7⟩)
theorem d1_0 : decode jdk_38_method_2_code 0 = .ok (.aload_n 0, 1) := by decide +kernel
theorem d1_1 : decode jdk_38_method_2_code 1 = .ok (.invokespecial 1, 3) := by decide +kernel
theorem d1_4 : decode jdk_38_method_2_code 4 = .ok (.aload_n 0, 1) := by decide +kernel
theorem d1_5 : decode jdk_38_method_2_code 5 = .ok (.getstatic 39, 3) := by decide +kernel
theorem d1_8 : decode jdk_38_method_2_code 8 = .ok (.putfield 9, 3) := by decide +kernel
theorem d1_11 : decode jdk_38_method_2_code 11 = .ok (.return_, 1) := by decide +kernel
theorem pd_1 : parseMethodDescriptor "()V" = some ⟨[], none⟩ := by decide +kernel
theorem ef_1 (m : MethodId) (p0 : Addr) : entryFrame m #[(.ref p0)] 1 = mkF m 0 #[.val (.ref p0)] [] := by first | (simp [entryFrame, mkF, argsToLocals, Value.category]; done) | rfl
set_option maxRecDepth 65536 in
set_option maxHeartbeats 40000000 in
theorem rmAL (l : Launch) (Z : State) (a0 : Array Value) (hw : ∀ d ∈ tables_1, d.before a0 Z = true) (p0 : Addr) (h0 : Heap) (n0 : Nat) (Z0 : n0 ≤ h0.size) (f1 : Fld Z h0 p0 "java/util/ArrayList" "elementData" "[Ljava/lang/Object;" .null) (f2 : Fld Z h0 p0 "java/util/ArrayList" "size" "I" (.int (0 : Int32))) (f3 : Fld Z h0 p0 "java/util/AbstractList" "modCount" "I" (.int (0 : Int32))) (E0 : Exa Z h0 p0 "java/util/ArrayList") (ga : n0 ≤ p0) (de : Addr) (SD : Sta Z h0 "java/util/ArrayList" "DEFAULTCAPACITY_EMPTY_ELEMENTDATA" "[Ljava/lang/Object;" (.ref de)) :
    Con l Z (⟨"java/util/ArrayList", "<init>", "()V"⟩ : MethodName) jdk_38_method_2_code 1 none [] ({ frames := 3, cells := 0, slots := 0, locals := 36 } : Room) 0 0 #[(.ref p0)] h0 (fun v h L => v = none ∧ Fr n0 L ∧ Keep h0 h [p0] ∧ Fld Z h p0 "java/util/ArrayList" "elementData" "[Ljava/lang/Object;" (.ref de) ∧ Fld Z h p0 "java/util/ArrayList" "size" "I" (.int (0 : Int32)) ∧ Fld Z h p0 "java/util/AbstractList" "modCount" "I" (.int (0 : Int32))) := by
  refine Con.body (plainFor_of_name (by first | (simp [plainName, overriddenIn]; done) | decide +kernel)) ?_
  intro p e s m below meth c T0 hx hby hml hown hnm hZ hret hlk X0 e0
  refine Goes.cast (ef_1 m p0) ?_
  have N0 := Fr.nil n0
  show Goes p.tables e below (T0.setTop (mkF m 0 #[.val (.ref p0)] [])) _
  refine g_aloadN X0 hx (hb hby d1_0) rfl rfl ?_
  show Goes p.tables e below (T0.setTop (mkF m 1 #[.val (.ref p0)] [(.ref p0)])) _
  refine g_callI X0 hx hZ hown (by rw [hml]; rfl) e0 rfl (hw _ (List.mem_of_getElem? (i := 6) rfl)) (hw _ (List.mem_of_getElem? (i := 7) rfl)) (hw _ (List.mem_of_getElem? (i := 10) rfl)) (hw _ (List.mem_of_getElem? (i := 11) rfl)) (rmABL l Z a0 hw p0 h0 n0 Z0 f1 f2 f3 E0 ga) p0 [] rfl [] rfl (lenOf pd_2 rfl) (hb hby d1_1) (by decide) 0 (by decide) (by decide) (by first | decide | exact Nat.le_refl _) (by decide) (by decide) (fun v T1 L1 X1 hQ1 => ?_)
  obtain ⟨rfl, Nc1, Kc1, fa1, fb1, fc1⟩ := hQ1
  have fx2 : Exa Z T1.heap p0 "java/util/ArrayList" := Exa.keep E0 Kc1
  have fx3 : Sta Z T1.heap "java/util/ArrayList" "DEFAULTCAPACITY_EMPTY_ELEMENTDATA" "[Ljava/lang/Object;" (.ref de) := own_stakeep SD Kc1 (allS (own_nst E0) all0)
  have N4 := Fr.app N0 Nc1
  have Z5 : n0 ≤ T1.heap.size := Nat.le_trans Z0 Kc1.1
  show Goes p.tables e below (T1.setTop (mkF m 4 #[.val (.ref p0)] [])) _
  refine g_aloadN X1 hx (hb hby d1_4) rfl rfl ?_
  show Goes p.tables e below (T1.setTop (mkF m 5 #[.val (.ref p0)] [(.ref p0)])) _
  refine g_getS X1 hx hZ hown rfl (host := "") (Or.inl (hw _ (List.mem_of_getElem? (i := 23) rfl))) fx3 (hb hby d1_5) (fun T6 X6 e6 => ?_)
  show Goes p.tables e below (T6.setTop (mkF m 8 #[.val (.ref p0)] [(.ref de), (.ref p0)])) _
  refine g_putF X6 hx hZ hown e6 (hw _ (List.mem_of_getElem? (i := 24) rfl)) Via.refl (v' := (.ref de)) fa1 fx2 (Or.inl (hw _ (List.mem_of_getElem? (i := 25) rfl))) (hw _ (List.mem_of_getElem? (i := 1) rfl)) (ty := (.array (.object "java/lang/Object"))) (by decide) rfl rfl (hb hby d1_8) (fun T7 h7 X7 e7 W7 => ?_)
  have fx8 : Exa Z h7 p0 "java/util/ArrayList" := Exa.wr W7 fx2
  have fx9 : Sta Z h7 "java/util/ArrayList" "DEFAULTCAPACITY_EMPTY_ELEMENTDATA" "[Ljava/lang/Object;" (.ref de) := Sta.wr W7 fx3
  have fx10 : Fld Z h7 p0 "java/util/ArrayList" "size" "I" (.int (0 : Int32)) := Fld.other W7 fb1 (Or.inr (slot_ne (t := .int) (t' := (.array (.object "java/lang/Object"))) (Or.inl (hw _ (List.mem_of_getElem? (i := 57) rfl))) (Or.inl (hw _ (List.mem_of_getElem? (i := 25) rfl))) (by decide) (by decide) (by decide)))
  have fx11 : Fld Z h7 p0 "java/util/AbstractList" "modCount" "I" (.int (0 : Int32)) := Fld.other W7 fc1 (Or.inr (slot_ne (t := .int) (t' := (.array (.object "java/lang/Object"))) (Or.inl (hw _ (List.mem_of_getElem? (i := 22) rfl))) (Or.inl (hw _ (List.mem_of_getElem? (i := 25) rfl))) (by decide) (by decide) (by decide)))
  have fx12 : Fld Z h7 p0 "java/util/ArrayList" "elementData" "[Ljava/lang/Object;" (.ref de) := Fld.same W7 fa1
  have N13 := Fr.snoc X7 N4 ga
  have Z14 : n0 ≤ h7.size := by rw [W7.size]; exact Z5
  have K15 : Keep h0 h7 [p0] := Keep.wr Kc1 W7 (Or.inl (List.mem_of_getElem? (i := 0) rfl))
  show Goes p.tables e below (T7.setTop (mkF m 11 #[.val (.ref p0)] [])) _
  exact g_ret0 X7 hx hret hlk (hb hby d1_11) (by decide) (by decide) (by rw [e7]; exact ⟨rfl, N13, K15, fx12, fx10, fx11⟩)
theorem d16_0 : decode jdk_29_method_65_code 0 = .ok (.iload_n 0, 1) := by decide +kernel
theorem d16_1 : decode jdk_29_method_65_code 1 = .ok (.iload_n 1, 1) := by decide +kernel
theorem d16_2 : decode jdk_29_method_65_code 2 = .ok (.if_icmp .lt 7, 3) := by decide +kernel
theorem d16_5 : decode jdk_29_method_65_code 5 = .ok (.iload_n 0, 1) := by decide +kernel
theorem d16_6 : decode jdk_29_method_65_code 6 = .ok (.goto 4, 3) := by decide +kernel
theorem d16_9 : decode jdk_29_method_65_code 9 = .ok (.iload_n 1, 1) := by decide +kernel
theorem d16_10 : decode jdk_29_method_65_code 10 = .ok (.ireturn, 1) := by decide +kernel
theorem pd_16 : parseMethodDescriptor "(II)I" = some ⟨[.int, .int], some .int⟩ := by decide +kernel
theorem ef_16 (m : MethodId) (p0 : Int32) (p1 : Int32) : entryFrame m #[(.int p0), (.int p1)] 2 = mkF m 0 #[.val (.int p0), .val (.int p1)] [] := by first | (simp [entryFrame, mkF, argsToLocals, Value.category]; done) | rfl
def maxV (p0 : Int32) (p1 : Int32) : Int32 := (if p0 < p1 then p1 else p0)
set_option maxRecDepth 65536 in
set_option maxHeartbeats 40000000 in
theorem rmMax (l : Launch) (Z : State) (a0 : Array Value) (hw : ∀ d ∈ tables_1, d.before a0 Z = true) (p0 : Int32) (p1 : Int32) (h0 : Heap)  :
    Con l Z (⟨"java/lang/Math", "max", "(II)I"⟩ : MethodName) jdk_29_method_65_code 2 (some .int) [] ({ frames := 0, cells := 0, slots := 0, locals := 0 } : Room) 0 0 #[(.int p0), (.int p1)] h0 (fun v h L => v = some (.int (maxV p0 p1)) ∧ h = h0 ∧ L = []) := by
  refine Con.body (Jvm.Free.JP.mathPlain rfl (by decide +kernel)) ?_
  intro p e s m below meth c T0 hx hby hml hown hnm hZ hret hlk X0 e0
  refine Goes.cast (ef_16 m p0 p1) ?_
  show Goes p.tables e below (T0.setTop (mkF m 0 #[.val (.int p0), .val (.int p1)] [])) _
  refine g_iloadN X0 hx (hb hby d16_0) rfl ?_
  show Goes p.tables e below (T0.setTop (mkF m 1 #[.val (.int p0), .val (.int p1)] [(.int p0)])) _
  refine g_iloadN X0 hx (hb hby d16_1) rfl ?_
  show Goes p.tables e below (T0.setTop (mkF m 2 #[.val (.int p0), .val (.int p1)] [(.int p1), (.int p0)])) _
  refine g_icmp_lt X0 hx (hb hby d16_2) (by decide) (pc' := 9) (by decide) (fun c2 => ?_) (fun c2 => ?_)
  · skip
    show Goes p.tables e below (T0.setTop (mkF m 9 #[.val (.int p0), .val (.int p1)] [])) _
    refine g_iloadN X0 hx (hb hby d16_9) rfl ?_
    show Goes p.tables e below (T0.setTop (mkF m 10 #[.val (.int p0), .val (.int p1)] [(.int p1)])) _
    exact g_retI X0 hx hret hlk (hb hby d16_10) (by decide) (by decide) ⟨by rw [maxV, if_pos c2], e0, rfl⟩
  · skip
    show Goes p.tables e below (T0.setTop (mkF m 5 #[.val (.int p0), .val (.int p1)] [])) _
    refine g_iloadN X0 hx (hb hby d16_5) rfl ?_
    show Goes p.tables e below (T0.setTop (mkF m 6 #[.val (.int p0), .val (.int p1)] [(.int p0)])) _
    refine g_goto X0 hx (hb hby d16_6) (by decide) (pc' := 10) (by decide) ?_
    show Goes p.tables e below (T0.setTop (mkF m 10 #[.val (.int p0), .val (.int p1)] [(.int p0)])) _
    exact g_retI X0 hx hret hlk (hb hby d16_10) (by decide) (by decide) ⟨by rw [maxV, if_neg c2], e0, rfl⟩
theorem d20_0 : decode jdk_29_method_69_code 0 = .ok (.iload_n 0, 1) := by decide +kernel
theorem d20_1 : decode jdk_29_method_69_code 1 = .ok (.iload_n 1, 1) := by decide +kernel
theorem d20_2 : decode jdk_29_method_69_code 2 = .ok (.if_icmp .gt 7, 3) := by decide +kernel
theorem d20_5 : decode jdk_29_method_69_code 5 = .ok (.iload_n 0, 1) := by decide +kernel
theorem d20_6 : decode jdk_29_method_69_code 6 = .ok (.goto 4, 3) := by decide +kernel
theorem d20_9 : decode jdk_29_method_69_code 9 = .ok (.iload_n 1, 1) := by decide +kernel
theorem d20_10 : decode jdk_29_method_69_code 10 = .ok (.ireturn, 1) := by decide +kernel
theorem pd_20 : parseMethodDescriptor "(II)I" = some ⟨[.int, .int], some .int⟩ := by decide +kernel
theorem ef_20 (m : MethodId) (p0 : Int32) (p1 : Int32) : entryFrame m #[(.int p0), (.int p1)] 2 = mkF m 0 #[.val (.int p0), .val (.int p1)] [] := by first | (simp [entryFrame, mkF, argsToLocals, Value.category]; done) | rfl
def minV (p0 : Int32) (p1 : Int32) : Int32 := (if p1 < p0 then p1 else p0)
set_option maxRecDepth 65536 in
set_option maxHeartbeats 40000000 in
theorem rmMin (l : Launch) (Z : State) (a0 : Array Value) (hw : ∀ d ∈ tables_1, d.before a0 Z = true) (p0 : Int32) (p1 : Int32) (h0 : Heap)  :
    Con l Z (⟨"java/lang/Math", "min", "(II)I"⟩ : MethodName) jdk_29_method_69_code 2 (some .int) [] ({ frames := 0, cells := 0, slots := 0, locals := 0 } : Room) 0 0 #[(.int p0), (.int p1)] h0 (fun v h L => v = some (.int (minV p0 p1)) ∧ h = h0 ∧ L = []) := by
  refine Con.body (Jvm.Free.JP.mathPlain rfl (by decide +kernel)) ?_
  intro p e s m below meth c T0 hx hby hml hown hnm hZ hret hlk X0 e0
  refine Goes.cast (ef_20 m p0 p1) ?_
  show Goes p.tables e below (T0.setTop (mkF m 0 #[.val (.int p0), .val (.int p1)] [])) _
  refine g_iloadN X0 hx (hb hby d20_0) rfl ?_
  show Goes p.tables e below (T0.setTop (mkF m 1 #[.val (.int p0), .val (.int p1)] [(.int p0)])) _
  refine g_iloadN X0 hx (hb hby d20_1) rfl ?_
  show Goes p.tables e below (T0.setTop (mkF m 2 #[.val (.int p0), .val (.int p1)] [(.int p1), (.int p0)])) _
  refine g_icmp_gt X0 hx (hb hby d20_2) (by decide) (pc' := 9) (by decide) (fun c2 => ?_) (fun c2 => ?_)
  · skip
    show Goes p.tables e below (T0.setTop (mkF m 9 #[.val (.int p0), .val (.int p1)] [])) _
    refine g_iloadN X0 hx (hb hby d20_9) rfl ?_
    show Goes p.tables e below (T0.setTop (mkF m 10 #[.val (.int p0), .val (.int p1)] [(.int p1)])) _
    exact g_retI X0 hx hret hlk (hb hby d20_10) (by decide) (by decide) ⟨by rw [minV, if_pos c2], e0, rfl⟩
  · skip
    show Goes p.tables e below (T0.setTop (mkF m 5 #[.val (.int p0), .val (.int p1)] [])) _
    refine g_iloadN X0 hx (hb hby d20_5) rfl ?_
    show Goes p.tables e below (T0.setTop (mkF m 6 #[.val (.int p0), .val (.int p1)] [(.int p0)])) _
    refine g_goto X0 hx (hb hby d20_6) (by decide) (pc' := 10) (by decide) ?_
    show Goes p.tables e below (T0.setTop (mkF m 10 #[.val (.int p0), .val (.int p1)] [(.int p0)])) _
    exact g_retI X0 hx hret hlk (hb hby d20_10) (by decide) (by decide) ⟨by rw [minV, if_neg c2], e0, rfl⟩
theorem own_of {n : Nat} (h : n < 2147483648) : (Int32.ofNat n).toInt = n := Int32.toInt_ofNat_of_lt (by omega)
theorem own_p1 {i : Int32} {j : Nat} (h : i.toInt = (j : Nat)) (hj : j + 1 < 2 ^ 31) : (i + 1).toInt = (j + 1 : Nat) := by
  have a := c_iadd i 1
  have k : (1 : Int32).toInt = 1 := by decide
  have r := rng32 i
  have r2 := rng32 (i + 1)
  rw [k] at a
  omega
theorem own_max10 {x : Int32} (h : x.toInt ≤ 10) : (maxV (10 : Int32) x).toInt = (10 : Nat) := by
  have k : (10 : Int32).toInt = 10 := by decide
  unfold maxV
  by_cases q : (10 : Int32) < x
  · have q' := Int32.lt_iff_toInt_lt.mp q
    omega
  · rw [if_neg q, k]; rfl
theorem own_ne10 {i : Int32} {k : Nat} (h : i.toInt = k) (hk : k < 10) : ¬ i = (10 : Int32) := fun z => by
  rw [z] at h
  have : (10 : Int32).toInt = 10 := by decide
  omega
theorem own_succ (n : Nat) : Int32.ofNat n + (1 : Int32) = Int32.ofNat (n + 1) := by
  rw [show (1 : Int32) = Int32.ofNat 1 from rfl, ← Int32.ofNat_add]
theorem d15_0 : decode jdk_38_method_6_code 0 = .ok (.aload_n 0, 1) := by decide +kernel
theorem d15_1 : decode jdk_38_method_6_code 1 = .ok (.getfield 9, 3) := by decide +kernel
theorem d15_4 : decode jdk_38_method_6_code 4 = .ok (.arraylength, 1) := by decide +kernel
theorem d15_5 : decode jdk_38_method_6_code 5 = .ok (.istore_n 2, 1) := by decide +kernel
theorem d15_6 : decode jdk_38_method_6_code 6 = .ok (.iload_n 2, 1) := by decide +kernel
theorem d15_7 : decode jdk_38_method_6_code 7 = .ok (.ifCond .gt 13, 3) := by decide +kernel
theorem d15_10 : decode jdk_38_method_6_code 10 = .ok (.aload_n 0, 1) := by decide +kernel
theorem d15_11 : decode jdk_38_method_6_code 11 = .ok (.getfield 9, 3) := by decide +kernel
theorem d15_14 : decode jdk_38_method_6_code 14 = .ok (.getstatic 39, 3) := by decide +kernel
theorem d15_17 : decode jdk_38_method_6_code 17 = .ok (.if_acmp .eq 28, 3) := by decide +kernel
theorem d15_20 : decode jdk_38_method_6_code 20 = .ok (.iload_n 2, 1) := by decide +kernel
theorem d15_21 : decode jdk_38_method_6_code 21 = .ok (.iload_n 1, 1) := by decide +kernel
theorem d15_22 : decode jdk_38_method_6_code 22 = .ok (.iload_n 2, 1) := by decide +kernel
theorem d15_23 : decode jdk_38_method_6_code 23 = .ok (.isub, 1) := by decide +kernel
theorem d15_24 : decode jdk_38_method_6_code 24 = .ok (.iload_n 2, 1) := by decide +kernel
theorem d15_25 : decode jdk_38_method_6_code 25 = .ok (.iconst 1, 1) := by decide +kernel
theorem d15_26 : decode jdk_38_method_6_code 26 = .ok (.ishr, 1) := by decide +kernel
theorem d15_27 : decode jdk_38_method_6_code 27 = .ok (.invokestatic 73, 3) := by decide +kernel
theorem d15_30 : decode jdk_38_method_6_code 30 = .ok (.istore_n 3, 1) := by decide +kernel
theorem d15_31 : decode jdk_38_method_6_code 31 = .ok (.aload_n 0, 1) := by decide +kernel
theorem d15_32 : decode jdk_38_method_6_code 32 = .ok (.aload_n 0, 1) := by decide +kernel
theorem d15_33 : decode jdk_38_method_6_code 33 = .ok (.getfield 9, 3) := by decide +kernel
theorem d15_36 : decode jdk_38_method_6_code 36 = .ok (.iload_n 3, 1) := by decide +kernel
theorem d15_37 : decode jdk_38_method_6_code 37 = .ok (.invokestatic 66, 3) := by decide +kernel
theorem d15_40 : decode jdk_38_method_6_code 40 = .ok (.dup_x1, 1) := by decide +kernel
theorem d15_41 : decode jdk_38_method_6_code 41 = .ok (.putfield 9, 3) := by decide +kernel
theorem d15_44 : decode jdk_38_method_6_code 44 = .ok (.areturn, 1) := by decide +kernel
theorem d15_45 : decode jdk_38_method_6_code 45 = .ok (.aload_n 0, 1) := by decide +kernel
theorem d15_46 : decode jdk_38_method_6_code 46 = .ok (.bipush 10, 2) := by decide +kernel
theorem d15_48 : decode jdk_38_method_6_code 48 = .ok (.iload_n 1, 1) := by decide +kernel
theorem d15_49 : decode jdk_38_method_6_code 49 = .ok (.invokestatic 79, 3) := by decide +kernel
theorem d15_52 : decode jdk_38_method_6_code 52 = .ok (.anewarray 7, 3) := by decide +kernel
theorem d15_55 : decode jdk_38_method_6_code 55 = .ok (.dup_x1, 1) := by decide +kernel
theorem d15_56 : decode jdk_38_method_6_code 56 = .ok (.putfield 9, 3) := by decide +kernel
theorem d15_59 : decode jdk_38_method_6_code 59 = .ok (.areturn, 1) := by decide +kernel
theorem pd_15 : parseMethodDescriptor "(I)[Ljava/lang/Object;" = some ⟨[.int], some (.array (.object "java/lang/Object"))⟩ := by decide +kernel
theorem ef_15 (m : MethodId) (p0 : Addr) (p1 : Int32) : entryFrame m #[(.ref p0), (.int p1)] 4 = mkF m 0 #[.val (.ref p0), .val (.int p1), .unset, .unset] [] := by first | (simp [entryFrame, mkF, argsToLocals, Value.category]; done) | rfl
set_option maxRecDepth 65536 in
set_option maxHeartbeats 40000000 in
theorem rmG1 (l : Launch) (Z : State) (a0 : Array Value) (hw : ∀ d ∈ tables_1, d.before a0 Z = true) (p0 : Addr) (p1 : Int32) (h0 : Heap) (n0 : Nat) (Z0 : n0 ≤ h0.size) (de : Addr) (sz mc : Int32) (f1 : Fld Z h0 p0 "java/util/ArrayList" "elementData" "[Ljava/lang/Object;" (.ref de)) (f2 : Fld Z h0 p0 "java/util/ArrayList" "size" "I" (.int sz)) (f3 : Fld Z h0 p0 "java/util/AbstractList" "modCount" "I" (.int mc)) (E0 : Exa Z h0 p0 "java/util/ArrayList") (ga : n0 ≤ p0) (SD : Sta Z h0 "java/util/ArrayList" "DEFAULTCAPACITY_EMPTY_ELEMENTDATA" "[Ljava/lang/Object;" (.ref de)) (AD : Ar Z h0 de (.object "java/lang/Object") []) (nde : de ≠ p0) (hp : p1.toInt ≤ 10) :
    Con l Z (⟨"java/util/ArrayList", "grow", "(I)[Ljava/lang/Object;"⟩ : MethodName) jdk_38_method_6_code 4 (some (.array (.object "java/lang/Object"))) [] ({ frames := 1, cells := 1, slots := 10, locals := 14 } : Room) 1 10 #[(.ref p0), (.int p1)] h0 (fun v h L => ∃ b, v = some (.ref b) ∧ n0 ≤ b ∧ h0.size ≤ b ∧ Fr n0 L ∧ Keep h0 h [p0] ∧ Ar Z h b (.object "java/lang/Object") (List.replicate 10 .null) ∧ Exa Z h b "[Ljava/lang/Object;" ∧ Ovc Z h b "java/lang/Object" ∧ Fld Z h p0 "java/util/ArrayList" "elementData" "[Ljava/lang/Object;" (.ref b) ∧ Fld Z h p0 "java/util/ArrayList" "size" "I" (.int sz) ∧ Fld Z h p0 "java/util/AbstractList" "modCount" "I" (.int mc)) := by
  refine Con.body (plainFor_of_name (by first | (simp [plainName, overriddenIn]; done) | decide +kernel)) ?_
  intro p e s m below meth c T0 hx hby hml hown hnm hZ hret hlk X0 e0
  refine Goes.cast (ef_15 m p0 p1) ?_
  have N0 := Fr.nil n0
  have K0 : Keep h0 h0 [p0] := Keep.refl _ _
  show Goes p.tables e below (T0.setTop (mkF m 0 #[.val (.ref p0), .val (.int p1), .unset, .unset] [])) _
  refine g_aloadN X0 hx (hb hby d15_0) rfl rfl ?_
  show Goes p.tables e below (T0.setTop (mkF m 1 #[.val (.ref p0), .val (.int p1), .unset, .unset] [(.ref p0)])) _
  refine g_getF X0 hx hZ hown e0 (host := "") (Or.inl (hw _ (List.mem_of_getElem? (i := 24) rfl))) Via.refl f1 (hb hby d15_1) (fun T1 X1 e1 => ?_)
  show Goes p.tables e below (T1.setTop (mkF m 4 #[.val (.ref p0), .val (.int p1), .unset, .unset] [(.ref de)])) _
  refine g_alen X1 hx hZ e1 AD (0 : Int32) (by show (0 : Int32).toInt = ((0 : Nat) : Int); decide) (hb hby d15_4) ?_
  show Goes p.tables e below (T1.setTop (mkF m 5 #[.val (.ref p0), .val (.int p1), .unset, .unset] [(.int (0 : Int32))])) _
  refine g_istoreN X1 hx (hb hby d15_5) (l' := #[.val (.ref p0), .val (.int p1), .val (.int (0 : Int32)), .unset]) rfl ?_
  show Goes p.tables e below (T1.setTop (mkF m 6 #[.val (.ref p0), .val (.int p1), .val (.int (0 : Int32)), .unset] [])) _
  refine g_iloadN X1 hx (hb hby d15_6) rfl ?_
  show Goes p.tables e below (T1.setTop (mkF m 7 #[.val (.ref p0), .val (.int p1), .val (.int (0 : Int32)), .unset] [(.int (0 : Int32))])) _
  refine g_if_gt X1 hx (hb hby d15_7) (by decide) (pc' := 20) (by decide) (fun q => absurd q (by decide)) (fun _ => ?_)
  show Goes p.tables e below (T1.setTop (mkF m 10 #[.val (.ref p0), .val (.int p1), .val (.int (0 : Int32)), .unset] [])) _
  refine g_aloadN X1 hx (hb hby d15_10) rfl rfl ?_
  show Goes p.tables e below (T1.setTop (mkF m 11 #[.val (.ref p0), .val (.int p1), .val (.int (0 : Int32)), .unset] [(.ref p0)])) _
  refine g_getF X1 hx hZ hown e1 (host := "") (Or.inl (hw _ (List.mem_of_getElem? (i := 24) rfl))) Via.refl f1 (hb hby d15_11) (fun T2 X2 e2 => ?_)
  show Goes p.tables e below (T2.setTop (mkF m 14 #[.val (.ref p0), .val (.int p1), .val (.int (0 : Int32)), .unset] [(.ref de)])) _
  refine g_getS X2 hx hZ hown e2 (host := "") (Or.inl (hw _ (List.mem_of_getElem? (i := 23) rfl))) SD (hb hby d15_14) (fun T3 X3 e3 => ?_)
  show Goes p.tables e below (T3.setTop (mkF m 17 #[.val (.ref p0), .val (.int p1), .val (.int (0 : Int32)), .unset] [(.ref de), (.ref de)])) _
  refine g_acmp_eq X3 hx rfl rfl (hb hby d15_17) (by decide) (pc' := 45) (by decide) (fun _ => ?_) (fun q => absurd rfl q)
  show Goes p.tables e below (T3.setTop (mkF m 45 #[.val (.ref p0), .val (.int p1), .val (.int (0 : Int32)), .unset] [])) _
  refine g_aloadN X3 hx (hb hby d15_45) rfl rfl ?_
  show Goes p.tables e below (T3.setTop (mkF m 46 #[.val (.ref p0), .val (.int p1), .val (.int (0 : Int32)), .unset] [(.ref p0)])) _
  refine g_bipush X3 hx (10 : Int32) (hb hby d15_46) (by decide) ?_
  show Goes p.tables e below (T3.setTop (mkF m 48 #[.val (.ref p0), .val (.int p1), .val (.int (0 : Int32)), .unset] [(.int (10 : Int32)), (.ref p0)])) _
  refine g_iloadN X3 hx (hb hby d15_48) rfl ?_
  show Goes p.tables e below (T3.setTop (mkF m 49 #[.val (.ref p0), .val (.int p1), .val (.int (0 : Int32)), .unset] [(.int p1), (.int (10 : Int32)), (.ref p0)])) _
  refine g_callS X3 hx hZ hown (by rw [hml]; rfl) e3 (hw _ (List.mem_of_getElem? (i := 114) rfl)) (hw _ (List.mem_of_getElem? (i := 115) rfl)) (hw _ (List.mem_of_getElem? (i := 116) rfl)) (hw _ (List.mem_of_getElem? (i := 117) rfl)) (rmMax l Z a0 hw (10 : Int32) p1 h0) [(.int (10 : Int32)), (.int p1)] rfl [(.ref p0)] rfl (lenOf pd_16 rfl) (hb hby d15_49) (by decide) 1 (by decide) (by decide) (by first | decide | exact Nat.le_refl _) (by decide) (by decide) (fun v T4 L4 X4 hQ4 => ?_)
  obtain ⟨rfl, e4, rfl⟩ := hQ4
  have N5 := Fr.app N0 (Fr.nil n0)
  show Goes p.tables e below (T4.setTop (mkF m 52 #[.val (.ref p0), .val (.int p1), .val (.int (0 : Int32)), .unset] [(.int (maxV (10 : Int32) p1)), (.ref p0)])) _
  refine g_newref X4 hx hZ hown e4 (hw _ (List.mem_of_getElem? (i := 118) rfl)) (hw _ (List.mem_of_getElem? (i := 119) rfl)) (hb hby d15_52) (n := 10) (own_max10 hp) 10 (by omega) (by decide) (by decide) (by decide) (ad := "[Ljava/lang/Object;") (by decide) (fun T6 h6 a6 ga6 X6 e6 Ex6 Aa6 Ea6 Oa6 => ?_)
  have ne7 : p0 ≠ a6 := Nat.ne_of_lt (by rw [ga6]; exact f1.lt)
  have ne8 : de ≠ a6 := Nat.ne_of_lt (by rw [ga6]; exact AD.lt)
  have ge9 : n0 ≤ a6 := by rw [ga6]; exact Z0
  have ge10 : h0.size ≤ a6 := by rw [ga6]; exact K0.1
  have fx11 : Fld Z h6 p0 "java/util/ArrayList" "elementData" "[Ljava/lang/Object;" (.ref de) := Fld.ext Ex6 f1
  have fx12 : Fld Z h6 p0 "java/util/ArrayList" "size" "I" (.int sz) := Fld.ext Ex6 f2
  have fx13 : Fld Z h6 p0 "java/util/AbstractList" "modCount" "I" (.int mc) := Fld.ext Ex6 f3
  have fx14 : Exa Z h6 p0 "java/util/ArrayList" := Exa.ext Ex6 E0
  have fx15 : Sta Z h6 "java/util/ArrayList" "DEFAULTCAPACITY_EMPTY_ELEMENTDATA" "[Ljava/lang/Object;" (.ref de) := Sta.ext Ex6 SD
  have fx16 : Ar Z h6 de (.object "java/lang/Object") [] := Ar.ext AD Ex6
  have Z17 : n0 ≤ h6.size := Nat.le_trans Z0 Ex6.1
  have K18 : Keep h0 h6 [p0] := Keep.ext K0 Ex6
  show Goes p.tables e below (T6.setTop (mkF m 55 #[.val (.ref p0), .val (.int p1), .val (.int (0 : Int32)), .unset] [(.ref a6), (.ref p0)])) _
  refine g_dupX1 X6 hx (hb hby d15_55) rfl rfl ?_
  show Goes p.tables e below (T6.setTop (mkF m 56 #[.val (.ref p0), .val (.int p1), .val (.int (0 : Int32)), .unset] [(.ref a6), (.ref p0), (.ref a6)])) _
  refine g_putF X6 hx hZ hown e6 (hw _ (List.mem_of_getElem? (i := 24) rfl)) Via.refl (v' := (.ref a6)) fx11 fx14 (Or.inl (hw _ (List.mem_of_getElem? (i := 25) rfl))) (hw _ (List.mem_of_getElem? (i := 1) rfl)) (ty := (.array (.object "java/lang/Object"))) (by decide) rfl rfl (hb hby d15_56) (fun T19 h19 X19 e19 W19 => ?_)
  have fx20 : Fld Z h19 p0 "java/util/ArrayList" "size" "I" (.int sz) := Fld.other W19 fx12 (Or.inr (slot_ne (t := .int) (t' := (.array (.object "java/lang/Object"))) (Or.inl (hw _ (List.mem_of_getElem? (i := 57) rfl))) (Or.inl (hw _ (List.mem_of_getElem? (i := 25) rfl))) (by decide) (by decide) (by decide)))
  have fx21 : Fld Z h19 p0 "java/util/AbstractList" "modCount" "I" (.int mc) := Fld.other W19 fx13 (Or.inr (slot_ne (t := .int) (t' := (.array (.object "java/lang/Object"))) (Or.inl (hw _ (List.mem_of_getElem? (i := 22) rfl))) (Or.inl (hw _ (List.mem_of_getElem? (i := 25) rfl))) (by decide) (by decide) (by decide)))
  have fx22 : Exa Z h19 p0 "java/util/ArrayList" := Exa.wr W19 fx14
  have fx23 : Sta Z h19 "java/util/ArrayList" "DEFAULTCAPACITY_EMPTY_ELEMENTDATA" "[Ljava/lang/Object;" (.ref de) := Sta.wr W19 fx15
  have fx24 : Ar Z h19 de (.object "java/lang/Object") [] := Ar.other fx16 W19 nde
  have fx25 : Ar Z h19 a6 (.object "java/lang/Object") (List.replicate 10 .null) := Ar.other Aa6 W19 (Ne.symm ne7)
  have fx26 : Exa Z h19 a6 "[Ljava/lang/Object;" := Exa.wr W19 Ea6
  have fx27 : Ovc Z h19 a6 "java/lang/Object" := Ovc.wr Oa6 W19
  have fx28 : Fld Z h19 p0 "java/util/ArrayList" "elementData" "[Ljava/lang/Object;" (.ref a6) := Fld.same W19 fx11
  have N29 := Fr.snoc X19 N5 ga
  have Z30 : n0 ≤ h19.size := by rw [W19.size]; exact Z17
  have K31 : Keep h0 h19 [p0] := Keep.wr K18 W19 (Or.inl (List.mem_of_getElem? (i := 0) rfl))
  show Goes p.tables e below (T19.setTop (mkF m 59 #[.val (.ref p0), .val (.int p1), .val (.int (0 : Int32)), .unset] [(.ref a6)])) _
  exact g_retA X19 hx hret hlk rfl rfl (hb hby d15_59) (by decide) (by decide) (by rw [e19]; exact ⟨a6, rfl, ge9, ge10, N29, K31, fx25, fx26, fx27, fx28, fx20, fx21⟩)
theorem d14_0 : decode jdk_38_method_7_code 0 = .ok (.aload_n 0, 1) := by decide +kernel
theorem d14_1 : decode jdk_38_method_7_code 1 = .ok (.aload_n 0, 1) := by decide +kernel
theorem d14_2 : decode jdk_38_method_7_code 2 = .ok (.getfield 48, 3) := by decide +kernel
theorem d14_5 : decode jdk_38_method_7_code 5 = .ok (.iconst 1, 1) := by decide +kernel
theorem d14_6 : decode jdk_38_method_7_code 6 = .ok (.iadd, 1) := by decide +kernel
theorem d14_7 : decode jdk_38_method_7_code 7 = .ok (.invokevirtual 69, 3) := by decide +kernel
theorem d14_10 : decode jdk_38_method_7_code 10 = .ok (.areturn, 1) := by decide +kernel
theorem pd_14 : parseMethodDescriptor "()[Ljava/lang/Object;" = some ⟨[], some (.array (.object "java/lang/Object"))⟩ := by decide +kernel
theorem ef_14 (m : MethodId) (p0 : Addr) : entryFrame m #[(.ref p0)] 1 = mkF m 0 #[.val (.ref p0)] [] := by first | (simp [entryFrame, mkF, argsToLocals, Value.category]; done) | rfl
set_option maxRecDepth 65536 in
set_option maxHeartbeats 40000000 in
theorem rmG0 (l : Launch) (Z : State) (a0 : Array Value) (hw : ∀ d ∈ tables_1, d.before a0 Z = true) (p0 : Addr) (h0 : Heap) (n0 : Nat) (Z0 : n0 ≤ h0.size) (de : Addr) (sz mc : Int32) (f1 : Fld Z h0 p0 "java/util/ArrayList" "elementData" "[Ljava/lang/Object;" (.ref de)) (f2 : Fld Z h0 p0 "java/util/ArrayList" "size" "I" (.int sz)) (f3 : Fld Z h0 p0 "java/util/AbstractList" "modCount" "I" (.int mc)) (E0 : Exa Z h0 p0 "java/util/ArrayList") (ga : n0 ≤ p0) (SD : Sta Z h0 "java/util/ArrayList" "DEFAULTCAPACITY_EMPTY_ELEMENTDATA" "[Ljava/lang/Object;" (.ref de)) (AD : Ar Z h0 de (.object "java/lang/Object") []) (nde : de ≠ p0) (hp : (sz + 1).toInt ≤ 10) :
    Con l Z (⟨"java/util/ArrayList", "grow", "()[Ljava/lang/Object;"⟩ : MethodName) jdk_38_method_7_code 1 (some (.array (.object "java/lang/Object"))) [] ({ frames := 2, cells := 1, slots := 10, locals := 29 } : Room) 1 10 #[(.ref p0)] h0 (fun v h L => ∃ b, v = some (.ref b) ∧ n0 ≤ b ∧ h0.size ≤ b ∧ Fr n0 L ∧ Keep h0 h [p0] ∧ Ar Z h b (.object "java/lang/Object") (List.replicate 10 .null) ∧ Exa Z h b "[Ljava/lang/Object;" ∧ Ovc Z h b "java/lang/Object" ∧ Fld Z h p0 "java/util/ArrayList" "elementData" "[Ljava/lang/Object;" (.ref b) ∧ Fld Z h p0 "java/util/ArrayList" "size" "I" (.int sz) ∧ Fld Z h p0 "java/util/AbstractList" "modCount" "I" (.int mc)) := by
  refine Con.body (plainFor_of_name (by first | (simp [plainName, overriddenIn]; done) | decide +kernel)) ?_
  intro p e s m below meth c T0 hx hby hml hown hnm hZ hret hlk X0 e0
  refine Goes.cast (ef_14 m p0) ?_
  have N0 := Fr.nil n0
  show Goes p.tables e below (T0.setTop (mkF m 0 #[.val (.ref p0)] [])) _
  refine g_aloadN X0 hx (hb hby d14_0) rfl rfl ?_
  show Goes p.tables e below (T0.setTop (mkF m 1 #[.val (.ref p0)] [(.ref p0)])) _
  refine g_aloadN X0 hx (hb hby d14_1) rfl rfl ?_
  show Goes p.tables e below (T0.setTop (mkF m 2 #[.val (.ref p0)] [(.ref p0), (.ref p0)])) _
  refine g_getF X0 hx hZ hown e0 (host := "") (Or.inl (hw _ (List.mem_of_getElem? (i := 56) rfl))) Via.refl f2 (hb hby d14_2) (fun T1 X1 e1 => ?_)
  show Goes p.tables e below (T1.setTop (mkF m 5 #[.val (.ref p0)] [(.int sz), (.ref p0)])) _
  refine g_iconst X1 hx (1 : Int32) (hb hby d14_5) rfl ?_
  show Goes p.tables e below (T1.setTop (mkF m 6 #[.val (.ref p0)] [(.int (1 : Int32)), (.int sz), (.ref p0)])) _
  refine g_iadd X1 hx (hb hby d14_6) ?_
  show Goes p.tables e below (T1.setTop (mkF m 7 #[.val (.ref p0)] [(.int (sz + (1 : Int32))), (.ref p0)])) _
  have e9 := e1
  refine g_callP X1 hx hZ hown (by rw [hml]; rfl) e1 (hw _ (List.mem_of_getElem? (i := 109) rfl)) (hw _ (List.mem_of_getElem? (i := 110) rfl)) (hw _ (List.mem_of_getElem? (i := 112) rfl)) (hw _ (List.mem_of_getElem? (i := 111) rfl)) (hw _ (List.mem_of_getElem? (i := 2) rfl)) (hw _ (List.mem_of_getElem? (i := 113) rfl)) E0 (rmG1 l Z a0 hw p0 (sz + 1) h0 n0 Z0 de sz mc f1 f2 f3 E0 ga SD AD nde hp) [(.int (sz + (1 : Int32)))] rfl [] rfl (lenOf pd_15 rfl) (hb hby d14_7) (by decide) 0 (by decide) (by decide) (by first | decide | exact Nat.le_refl _) (by decide) (by decide) (fun v T2 L2 X2 hQ2 => ?_)
  obtain ⟨b, rfl, gb, hgb, Nb, Kb, Ab, Eb, Ob, fa, fb, fc⟩ := hQ2
  show Goes p.tables e below (T2.setTop (mkF m 10 #[.val (.ref p0)] [(.ref b)])) _
  exact g_retA X2 hx hret hlk rfl rfl (hb hby d14_10) (by decide) (by decide) ⟨b, rfl, gb, hgb, Nb, Kb, Ab, Eb, Ob, fa, fb, fc⟩
theorem d13_0 : decode jdk_38_method_24_code 0 = .ok (.iload_n 3, 1) := by decide +kernel
theorem d13_1 : decode jdk_38_method_24_code 1 = .ok (.aload_n 2, 1) := by decide +kernel
theorem d13_2 : decode jdk_38_method_24_code 2 = .ok (.arraylength, 1) := by decide +kernel
theorem d13_3 : decode jdk_38_method_24_code 3 = .ok (.if_icmp .ne 8, 3) := by decide +kernel
theorem d13_6 : decode jdk_38_method_24_code 6 = .ok (.aload_n 0, 1) := by decide +kernel
theorem d13_7 : decode jdk_38_method_24_code 7 = .ok (.invokevirtual 129, 3) := by decide +kernel
theorem d13_10 : decode jdk_38_method_24_code 10 = .ok (.astore_n 2, 1) := by decide +kernel
theorem d13_11 : decode jdk_38_method_24_code 11 = .ok (.aload_n 2, 1) := by decide +kernel
theorem d13_12 : decode jdk_38_method_24_code 12 = .ok (.iload_n 3, 1) := by decide +kernel
theorem d13_13 : decode jdk_38_method_24_code 13 = .ok (.aload_n 1, 1) := by decide +kernel
theorem d13_14 : decode jdk_38_method_24_code 14 = .ok (.aastore, 1) := by decide +kernel
theorem d13_15 : decode jdk_38_method_24_code 15 = .ok (.aload_n 0, 1) := by decide +kernel
theorem d13_16 : decode jdk_38_method_24_code 16 = .ok (.iload_n 3, 1) := by decide +kernel
theorem d13_17 : decode jdk_38_method_24_code 17 = .ok (.iconst 1, 1) := by decide +kernel
theorem d13_18 : decode jdk_38_method_24_code 18 = .ok (.iadd, 1) := by decide +kernel
theorem d13_19 : decode jdk_38_method_24_code 19 = .ok (.putfield 48, 3) := by decide +kernel
theorem d13_22 : decode jdk_38_method_24_code 22 = .ok (.return_, 1) := by decide +kernel
theorem pd_13 : parseMethodDescriptor "(Ljava/lang/Object;[Ljava/lang/Object;I)V" = some ⟨[(.object "java/lang/Object"), (.array (.object "java/lang/Object")), .int], none⟩ := by decide +kernel
theorem ef_13 (m : MethodId) (p0 : Addr) (p1 : Addr) (p2 : Addr) (p3 : Int32) : entryFrame m #[(.ref p0), (.ref p1), (.ref p2), (.int p3)] 4 = mkF m 0 #[.val (.ref p0), .val (.ref p1), .val (.ref p2), .val (.int p3)] [] := by first | (simp [entryFrame, mkF, argsToLocals, Value.category]; done) | rfl
set_option maxRecDepth 65536 in
set_option maxHeartbeats 40000000 in
theorem rmHG (l : Launch) (Z : State) (a0 : Array Value) (hw : ∀ d ∈ tables_1, d.before a0 Z = true) (p0 : Addr) (p1 : Addr) (p2 : Addr) (p3 : Int32) (h0 : Heap) (n0 : Nat) (Z0 : n0 ≤ h0.size) (mc : Int32) (hp3 : p3 = 0) (f1 : Fld Z h0 p0 "java/util/ArrayList" "elementData" "[Ljava/lang/Object;" (.ref p2)) (f2 : Fld Z h0 p0 "java/util/ArrayList" "size" "I" (.int p3)) (f3 : Fld Z h0 p0 "java/util/AbstractList" "modCount" "I" (.int mc)) (E0 : Exa Z h0 p0 "java/util/ArrayList") (ga : n0 ≤ p0) (SD : Sta Z h0 "java/util/ArrayList" "DEFAULTCAPACITY_EMPTY_ELEMENTDATA" "[Ljava/lang/Object;" (.ref p2)) (AD : Ar Z h0 p2 (.object "java/lang/Object") []) (nde : p2 ≠ p0) (I1 : Ins Z h0 p1 "java/lang/Object" true) :
    Con l Z (⟨"java/util/ArrayList", "add", "(Ljava/lang/Object;[Ljava/lang/Object;I)V"⟩ : MethodName) jdk_38_method_24_code 4 none [] ({ frames := 3, cells := 1, slots := 10, locals := 41 } : Room) 1 10 #[(.ref p0), (.ref p1), (.ref p2), (.int p3)] h0 (fun v h L => Keep h0 h [p0] ∧ ∃ b, n0 ≤ b ∧ h0.size ≤ b ∧ v = none ∧ Fr n0 L ∧ Fld Z h p0 "java/util/ArrayList" "elementData" "[Ljava/lang/Object;" (.ref b) ∧ Fld Z h p0 "java/util/ArrayList" "size" "I" (.int (p3 + 1)) ∧ Fld Z h p0 "java/util/AbstractList" "modCount" "I" (.int mc) ∧ Ar Z h b (.object "java/lang/Object") ((List.replicate 10 Value.null).set 0 (.ref p1)) ∧ Exa Z h b "[Ljava/lang/Object;" ∧ Ovc Z h b "java/lang/Object" ∧ Exa Z h p0 "java/util/ArrayList") := by
  refine Con.body (plainFor_of_name (by first | (simp [plainName, overriddenIn]; done) | decide +kernel)) ?_
  intro p e s m below meth c T0 hx hby hml hown hnm hZ hret hlk X0 e0
  refine Goes.cast (ef_13 m p0 p1 p2 p3) ?_
  have N0 := Fr.nil n0
  have lt0 := E0.lt
  show Goes p.tables e below (T0.setTop (mkF m 0 #[.val (.ref p0), .val (.ref p1), .val (.ref p2), .val (.int p3)] [])) _
  refine g_iloadN X0 hx (hb hby d13_0) rfl ?_
  show Goes p.tables e below (T0.setTop (mkF m 1 #[.val (.ref p0), .val (.ref p1), .val (.ref p2), .val (.int p3)] [(.int p3)])) _
  refine g_aloadN X0 hx (hb hby d13_1) rfl rfl ?_
  show Goes p.tables e below (T0.setTop (mkF m 2 #[.val (.ref p0), .val (.ref p1), .val (.ref p2), .val (.int p3)] [(.ref p2), (.int p3)])) _
  refine g_alen X0 hx hZ e0 AD (0 : Int32) (by show (0 : Int32).toInt = ((0 : Nat) : Int); decide) (hb hby d13_2) ?_
  show Goes p.tables e below (T0.setTop (mkF m 3 #[.val (.ref p0), .val (.ref p1), .val (.ref p2), .val (.int p3)] [(.int (0 : Int32)), (.int p3)])) _
  have c3 : p3 = (0 : Int32) := hp3
  refine g_icmp_ne X0 hx (hb hby d13_3) (by decide) (pc' := 11) (by decide) (fun q => absurd c3 q) (fun _ => ?_)
  show Goes p.tables e below (T0.setTop (mkF m 6 #[.val (.ref p0), .val (.ref p1), .val (.ref p2), .val (.int p3)] [])) _
  refine g_aloadN X0 hx (hb hby d13_6) rfl rfl ?_
  show Goes p.tables e below (T0.setTop (mkF m 7 #[.val (.ref p0), .val (.ref p1), .val (.ref p2), .val (.int p3)] [(.ref p0)])) _
  refine g_callP X0 hx hZ hown (by rw [hml]; rfl) e0 (hw _ (List.mem_of_getElem? (i := 104) rfl)) (hw _ (List.mem_of_getElem? (i := 105) rfl)) (hw _ (List.mem_of_getElem? (i := 107) rfl)) (hw _ (List.mem_of_getElem? (i := 106) rfl)) (hw _ (List.mem_of_getElem? (i := 2) rfl)) (hw _ (List.mem_of_getElem? (i := 108) rfl)) E0 (rmG0 l Z a0 hw p0 h0 n0 Z0 p2 p3 mc f1 f2 f3 E0 ga SD AD nde (by rw [hp3]; decide)) [] rfl [] rfl (lenOf pd_14 rfl) (hb hby d13_7) (by decide) 0 (by decide) (by decide) (by first | decide | exact Nat.le_refl _) (by decide) (by decide) (fun v T1 L1 X1 hQ1 => ?_)
  obtain ⟨b, rfl, gb, hgb, Nb, Kb, Ab, Eb, Ob, fa, fb, fc⟩ := hQ1
  have fx2 : Exa Z T1.heap p0 "java/util/ArrayList" := Exa.keep E0 Kb
  have fx3 : Sta Z T1.heap "java/util/ArrayList" "DEFAULTCAPACITY_EMPTY_ELEMENTDATA" "[Ljava/lang/Object;" (.ref p2) := own_stakeep SD Kb (allS (own_nst E0) all0)
  have fx4 : Ar Z T1.heap p2 (.object "java/lang/Object") [] := Ar.keep AD Kb (ninS nde nin0)
  have fx5 : Ins Z T1.heap p1 "java/lang/Object" true := Ins.keep' I1 Kb
  have N6 := Fr.app N0 Nb
  have Z7 : n0 ≤ T1.heap.size := Nat.le_trans Z0 Kb.1
  have nbp : b ≠ p0 := Nat.ne_of_gt (Nat.lt_of_lt_of_le lt0 hgb)
  show Goes p.tables e below (T1.setTop (mkF m 10 #[.val (.ref p0), .val (.ref p1), .val (.ref p2), .val (.int p3)] [(.ref b)])) _
  refine g_astoreN X1 hx (hb hby d13_10) rfl (l' := #[.val (.ref p0), .val (.ref p1), .val (.ref b), .val (.int p3)]) rfl ?_
  show Goes p.tables e below (T1.setTop (mkF m 11 #[.val (.ref p0), .val (.ref p1), .val (.ref b), .val (.int p3)] [])) _
  refine g_aloadN X1 hx (hb hby d13_11) rfl rfl ?_
  show Goes p.tables e below (T1.setTop (mkF m 12 #[.val (.ref p0), .val (.ref p1), .val (.ref b), .val (.int p3)] [(.ref b)])) _
  refine g_iloadN X1 hx (hb hby d13_12) rfl ?_
  show Goes p.tables e below (T1.setTop (mkF m 13 #[.val (.ref p0), .val (.ref p1), .val (.ref b), .val (.int p3)] [(.int p3), (.ref b)])) _
  refine g_aloadN X1 hx (hb hby d13_13) rfl rfl ?_
  show Goes p.tables e below (T1.setTop (mkF m 14 #[.val (.ref p0), .val (.ref p1), .val (.ref b), .val (.int p3)] [(.ref p1), (.int p3), (.ref b)])) _
  refine g_aastore X1 hx hZ rfl Ab rfl (v := (.ref p1)) rfl (Ovc.sto Ob Ab fx5) 0 (by rw [hp3]; decide) (by decide) (hb hby d13_14) (fun T8 h8 X8 e8 W8 A8 => ?_)
  have fx9 : Exa Z h8 p0 "java/util/ArrayList" := Exa.wr W8 fx2
  have fx10 : Sta Z h8 "java/util/ArrayList" "DEFAULTCAPACITY_EMPTY_ELEMENTDATA" "[Ljava/lang/Object;" (.ref p2) := Sta.wr W8 fx3
  have fx11 : Ins Z h8 p1 "java/lang/Object" true := Ins.wr W8 fx5
  have fx12 : Fld Z h8 p0 "java/util/ArrayList" "elementData" "[Ljava/lang/Object;" (.ref b) := Fld.other W8 fa (Or.inl (Ne.symm nbp))
  have fx13 : Fld Z h8 p0 "java/util/ArrayList" "size" "I" (.int p3) := Fld.other W8 fb (Or.inl (Ne.symm nbp))
  have fx14 : Fld Z h8 p0 "java/util/AbstractList" "modCount" "I" (.int mc) := Fld.other W8 fc (Or.inl (Ne.symm nbp))
  have fx15 : Exa Z h8 b "[Ljava/lang/Object;" := Exa.wr W8 Eb
  have fx16 : Ovc Z h8 b "java/lang/Object" := Ovc.wr Ob W8
  have fx17 : Ar Z h8 b (.object "java/lang/Object") (List.set (List.replicate 10 Value.null) 0 (.ref p1)) := A8
  have N18 := Fr.snoc X8 N6 gb
  have Z19 : n0 ≤ h8.size := by rw [W8.size]; exact Z7
  have K20 : Keep h0 h8 [p0] := Keep.wr Kb W8 (Or.inr hgb)
  show Goes p.tables e below (T8.setTop (mkF m 15 #[.val (.ref p0), .val (.ref p1), .val (.ref b), .val (.int p3)] [])) _
  refine g_aloadN X8 hx (hb hby d13_15) rfl rfl ?_
  show Goes p.tables e below (T8.setTop (mkF m 16 #[.val (.ref p0), .val (.ref p1), .val (.ref b), .val (.int p3)] [(.ref p0)])) _
  refine g_iloadN X8 hx (hb hby d13_16) rfl ?_
  show Goes p.tables e below (T8.setTop (mkF m 17 #[.val (.ref p0), .val (.ref p1), .val (.ref b), .val (.int p3)] [(.int p3), (.ref p0)])) _
  refine g_iconst X8 hx (1 : Int32) (hb hby d13_17) rfl ?_
  show Goes p.tables e below (T8.setTop (mkF m 18 #[.val (.ref p0), .val (.ref p1), .val (.ref b), .val (.int p3)] [(.int (1 : Int32)), (.int p3), (.ref p0)])) _
  refine g_iadd X8 hx (hb hby d13_18) ?_
  show Goes p.tables e below (T8.setTop (mkF m 19 #[.val (.ref p0), .val (.ref p1), .val (.ref b), .val (.int p3)] [(.int (p3 + (1 : Int32))), (.ref p0)])) _
  refine g_putF X8 hx hZ hown e8 (hw _ (List.mem_of_getElem? (i := 56) rfl)) Via.refl (v' := (.int (p3 + (1 : Int32)))) fx13 fx9 (Or.inl (hw _ (List.mem_of_getElem? (i := 57) rfl))) (hw _ (List.mem_of_getElem? (i := 1) rfl)) (ty := .int) (by decide) rfl rfl (hb hby d13_19) (fun T21 h21 X21 e21 W21 => ?_)
  have fx22 : Exa Z h21 p0 "java/util/ArrayList" := Exa.wr W21 fx9
  have fx23 : Sta Z h21 "java/util/ArrayList" "DEFAULTCAPACITY_EMPTY_ELEMENTDATA" "[Ljava/lang/Object;" (.ref p2) := Sta.wr W21 fx10
  have fx24 : Ins Z h21 p1 "java/lang/Object" true := Ins.wr W21 fx11
  have fx25 : Fld Z h21 p0 "java/util/ArrayList" "elementData" "[Ljava/lang/Object;" (.ref b) := Fld.other W21 fx12 (Or.inr (slot_ne (t := (.array (.object "java/lang/Object"))) (t' := .int) (Or.inl (hw _ (List.mem_of_getElem? (i := 25) rfl))) (Or.inl (hw _ (List.mem_of_getElem? (i := 57) rfl))) (by decide) (by decide) (by decide)))
  have fx26 : Fld Z h21 p0 "java/util/AbstractList" "modCount" "I" (.int mc) := Fld.other W21 fx14 (Or.inr (slot_ne (t := .int) (t' := .int) (Or.inl (hw _ (List.mem_of_getElem? (i := 22) rfl))) (Or.inl (hw _ (List.mem_of_getElem? (i := 57) rfl))) (by decide) (by decide) (by decide)))
  have fx27 : Exa Z h21 b "[Ljava/lang/Object;" := Exa.wr W21 fx15
  have fx28 : Ovc Z h21 b "java/lang/Object" := Ovc.wr fx16 W21
  have fx29 : Ar Z h21 b (.object "java/lang/Object") (List.set (List.replicate 10 Value.null) 0 (.ref p1)) := Ar.other fx17 W21 nbp
  have fx30 : Fld Z h21 p0 "java/util/ArrayList" "size" "I" (.int (p3 + (1 : Int32))) := Fld.same W21 fx13
  have N31 := Fr.snoc X21 N18 ga
  have Z32 : n0 ≤ h21.size := by rw [W21.size]; exact Z19
  have K33 : Keep h0 h21 [p0] := Keep.wr K20 W21 (Or.inl (List.mem_of_getElem? (i := 0) rfl))
  show Goes p.tables e below (T21.setTop (mkF m 22 #[.val (.ref p0), .val (.ref p1), .val (.ref b), .val (.int p3)] [])) _
  exact g_ret0 X21 hx hret hlk (hb hby d13_22) (by decide) (by decide) (by rw [e21]; exact ⟨K33, b, gb, hgb, rfl, N31, fx25, fx30, fx26, fx29, fx27, fx28, fx22⟩)
set_option maxRecDepth 65536 in
set_option maxHeartbeats 40000000 in
theorem rmHR (l : Launch) (Z : State) (a0 : Array Value) (hw : ∀ d ∈ tables_1, d.before a0 Z = true) (p0 : Addr) (p1 : Addr) (p2 : Addr) (p3 : Int32) (h0 : Heap) (n0 : Nat) (Z0 : n0 ≤ h0.size) (mc : Int32) (vs : List Value) (k : Nat) (hk : p3.toInt = k) (hk2 : k < 10) (hvs : vs.length = 10) (f1 : Fld Z h0 p0 "java/util/ArrayList" "elementData" "[Ljava/lang/Object;" (.ref p2)) (f2 : Fld Z h0 p0 "java/util/ArrayList" "size" "I" (.int p3)) (f3 : Fld Z h0 p0 "java/util/AbstractList" "modCount" "I" (.int mc)) (E0 : Exa Z h0 p0 "java/util/ArrayList") (ga : n0 ≤ p0) (gd : n0 ≤ p2) (AD : Ar Z h0 p2 (.object "java/lang/Object") vs) (EA : Exa Z h0 p2 "[Ljava/lang/Object;") (OA : Ovc Z h0 p2 "java/lang/Object") (nde : p2 ≠ p0) (I1 : Ins Z h0 p1 "java/lang/Object" true) :
    Con l Z (⟨"java/util/ArrayList", "add", "(Ljava/lang/Object;[Ljava/lang/Object;I)V"⟩ : MethodName) jdk_38_method_24_code 4 none [] ({ frames := 0, cells := 0, slots := 0, locals := 0 } : Room) 0 0 #[(.ref p0), (.ref p1), (.ref p2), (.int p3)] h0 (fun v h L => Keep h0 h [p0, p2] ∧ v = none ∧ Fr n0 L ∧ Fld Z h p0 "java/util/ArrayList" "elementData" "[Ljava/lang/Object;" (.ref p2) ∧ Fld Z h p0 "java/util/ArrayList" "size" "I" (.int (p3 + 1)) ∧ Fld Z h p0 "java/util/AbstractList" "modCount" "I" (.int mc) ∧ Ar Z h p2 (.object "java/lang/Object") (vs.set k (.ref p1)) ∧ Exa Z h p2 "[Ljava/lang/Object;" ∧ Ovc Z h p2 "java/lang/Object" ∧ Exa Z h p0 "java/util/ArrayList") := by
  refine Con.body (plainFor_of_name (by first | (simp [plainName, overriddenIn]; done) | decide +kernel)) ?_
  intro p e s m below meth c T0 hx hby hml hown hnm hZ hret hlk X0 e0
  refine Goes.cast (ef_13 m p0 p1 p2 p3) ?_
  have N0 := Fr.nil n0
  have K0 : Keep h0 h0 [p0, p2] := Keep.refl _ _
  show Goes p.tables e below (T0.setTop (mkF m 0 #[.val (.ref p0), .val (.ref p1), .val (.ref p2), .val (.int p3)] [])) _
  refine g_iloadN X0 hx (hb hby d13_0) rfl ?_
  show Goes p.tables e below (T0.setTop (mkF m 1 #[.val (.ref p0), .val (.ref p1), .val (.ref p2), .val (.int p3)] [(.int p3)])) _
  refine g_aloadN X0 hx (hb hby d13_1) rfl rfl ?_
  show Goes p.tables e below (T0.setTop (mkF m 2 #[.val (.ref p0), .val (.ref p1), .val (.ref p2), .val (.int p3)] [(.ref p2), (.int p3)])) _
  refine g_alen X0 hx hZ e0 AD (10 : Int32) (by rw [hvs]; decide) (hb hby d13_2) ?_
  show Goes p.tables e below (T0.setTop (mkF m 3 #[.val (.ref p0), .val (.ref p1), .val (.ref p2), .val (.int p3)] [(.int (10 : Int32)), (.int p3)])) _
  have c3 : ¬ p3 = (10 : Int32) := (own_ne10 hk hk2)
  refine g_icmp_ne X0 hx (hb hby d13_3) (by decide) (pc' := 11) (by decide) (fun _ => ?_) (fun q => absurd q c3)
  show Goes p.tables e below (T0.setTop (mkF m 11 #[.val (.ref p0), .val (.ref p1), .val (.ref p2), .val (.int p3)] [])) _
  refine g_aloadN X0 hx (hb hby d13_11) rfl rfl ?_
  show Goes p.tables e below (T0.setTop (mkF m 12 #[.val (.ref p0), .val (.ref p1), .val (.ref p2), .val (.int p3)] [(.ref p2)])) _
  refine g_iloadN X0 hx (hb hby d13_12) rfl ?_
  show Goes p.tables e below (T0.setTop (mkF m 13 #[.val (.ref p0), .val (.ref p1), .val (.ref p2), .val (.int p3)] [(.int p3), (.ref p2)])) _
  refine g_aloadN X0 hx (hb hby d13_13) rfl rfl ?_
  show Goes p.tables e below (T0.setTop (mkF m 14 #[.val (.ref p0), .val (.ref p1), .val (.ref p2), .val (.int p3)] [(.ref p1), (.int p3), (.ref p2)])) _
  refine g_aastore X0 hx hZ e0 AD rfl (v := (.ref p1)) rfl (Ovc.sto OA AD I1) k hk (by rw [hvs]; exact hk2) (hb hby d13_14) (fun T1 h1 X1 e1 W1 A1 => ?_)
  have fx2 : Fld Z h1 p0 "java/util/ArrayList" "elementData" "[Ljava/lang/Object;" (.ref p2) := Fld.other W1 f1 (Or.inl (Ne.symm nde))
  have fx3 : Fld Z h1 p0 "java/util/ArrayList" "size" "I" (.int p3) := Fld.other W1 f2 (Or.inl (Ne.symm nde))
  have fx4 : Fld Z h1 p0 "java/util/AbstractList" "modCount" "I" (.int mc) := Fld.other W1 f3 (Or.inl (Ne.symm nde))
  have fx5 : Exa Z h1 p0 "java/util/ArrayList" := Exa.wr W1 E0
  have fx6 : Exa Z h1 p2 "[Ljava/lang/Object;" := Exa.wr W1 EA
  have fx7 : Ovc Z h1 p2 "java/lang/Object" := Ovc.wr OA W1
  have fx8 : Ins Z h1 p1 "java/lang/Object" true := Ins.wr W1 I1
  have fx9 : Ar Z h1 p2 (.object "java/lang/Object") (List.set vs k (.ref p1)) := A1
  have N10 := Fr.snoc X1 N0 gd
  have Z11 : n0 ≤ h1.size := by rw [W1.size]; exact Z0
  have K12 : Keep h0 h1 [p0, p2] := Keep.wr K0 W1 (Or.inl (List.mem_of_getElem? (i := 1) rfl))
  show Goes p.tables e below (T1.setTop (mkF m 15 #[.val (.ref p0), .val (.ref p1), .val (.ref p2), .val (.int p3)] [])) _
  refine g_aloadN X1 hx (hb hby d13_15) rfl rfl ?_
  show Goes p.tables e below (T1.setTop (mkF m 16 #[.val (.ref p0), .val (.ref p1), .val (.ref p2), .val (.int p3)] [(.ref p0)])) _
  refine g_iloadN X1 hx (hb hby d13_16) rfl ?_
  show Goes p.tables e below (T1.setTop (mkF m 17 #[.val (.ref p0), .val (.ref p1), .val (.ref p2), .val (.int p3)] [(.int p3), (.ref p0)])) _
  refine g_iconst X1 hx (1 : Int32) (hb hby d13_17) rfl ?_
  show Goes p.tables e below (T1.setTop (mkF m 18 #[.val (.ref p0), .val (.ref p1), .val (.ref p2), .val (.int p3)] [(.int (1 : Int32)), (.int p3), (.ref p0)])) _
  refine g_iadd X1 hx (hb hby d13_18) ?_
  show Goes p.tables e below (T1.setTop (mkF m 19 #[.val (.ref p0), .val (.ref p1), .val (.ref p2), .val (.int p3)] [(.int (p3 + (1 : Int32))), (.ref p0)])) _
  refine g_putF X1 hx hZ hown e1 (hw _ (List.mem_of_getElem? (i := 56) rfl)) Via.refl (v' := (.int (p3 + (1 : Int32)))) fx3 fx5 (Or.inl (hw _ (List.mem_of_getElem? (i := 57) rfl))) (hw _ (List.mem_of_getElem? (i := 1) rfl)) (ty := .int) (by decide) rfl rfl (hb hby d13_19) (fun T13 h13 X13 e13 W13 => ?_)
  have fx14 : Fld Z h13 p0 "java/util/ArrayList" "elementData" "[Ljava/lang/Object;" (.ref p2) := Fld.other W13 fx2 (Or.inr (slot_ne (t := (.array (.object "java/lang/Object"))) (t' := .int) (Or.inl (hw _ (List.mem_of_getElem? (i := 25) rfl))) (Or.inl (hw _ (List.mem_of_getElem? (i := 57) rfl))) (by decide) (by decide) (by decide)))
  have fx15 : Fld Z h13 p0 "java/util/AbstractList" "modCount" "I" (.int mc) := Fld.other W13 fx4 (Or.inr (slot_ne (t := .int) (t' := .int) (Or.inl (hw _ (List.mem_of_getElem? (i := 22) rfl))) (Or.inl (hw _ (List.mem_of_getElem? (i := 57) rfl))) (by decide) (by decide) (by decide)))
  have fx16 : Exa Z h13 p0 "java/util/ArrayList" := Exa.wr W13 fx5
  have fx17 : Exa Z h13 p2 "[Ljava/lang/Object;" := Exa.wr W13 fx6
  have fx18 : Ovc Z h13 p2 "java/lang/Object" := Ovc.wr fx7 W13
  have fx19 : Ins Z h13 p1 "java/lang/Object" true := Ins.wr W13 fx8
  have fx20 : Ar Z h13 p2 (.object "java/lang/Object") (List.set vs k (.ref p1)) := Ar.other fx9 W13 nde
  have fx21 : Fld Z h13 p0 "java/util/ArrayList" "size" "I" (.int (p3 + (1 : Int32))) := Fld.same W13 fx3
  have N22 := Fr.snoc X13 N10 ga
  have Z23 : n0 ≤ h13.size := by rw [W13.size]; exact Z11
  have K24 : Keep h0 h13 [p0, p2] := Keep.wr K12 W13 (Or.inl (List.mem_of_getElem? (i := 0) rfl))
  show Goes p.tables e below (T13.setTop (mkF m 22 #[.val (.ref p0), .val (.ref p1), .val (.ref p2), .val (.int p3)] [])) _
  exact g_ret0 X13 hx hret hlk (hb hby d13_22) (by decide) (by decide) (by rw [e13]; exact ⟨K24, rfl, N22, fx14, fx21, fx15, fx20, fx17, fx18, fx16⟩)
theorem d12_0 : decode jdk_38_method_25_code 0 = .ok (.aload_n 0, 1) := by decide +kernel
theorem d12_1 : decode jdk_38_method_25_code 1 = .ok (.dup, 1) := by decide +kernel
theorem d12_2 : decode jdk_38_method_25_code 2 = .ok (.getfield 63, 3) := by decide +kernel
theorem d12_5 : decode jdk_38_method_25_code 5 = .ok (.iconst 1, 1) := by decide +kernel
theorem d12_6 : decode jdk_38_method_25_code 6 = .ok (.iadd, 1) := by decide +kernel
theorem d12_7 : decode jdk_38_method_25_code 7 = .ok (.putfield 63, 3) := by decide +kernel
theorem d12_10 : decode jdk_38_method_25_code 10 = .ok (.aload_n 0, 1) := by decide +kernel
theorem d12_11 : decode jdk_38_method_25_code 11 = .ok (.aload_n 1, 1) := by decide +kernel
theorem d12_12 : decode jdk_38_method_25_code 12 = .ok (.aload_n 0, 1) := by decide +kernel
theorem d12_13 : decode jdk_38_method_25_code 13 = .ok (.getfield 9, 3) := by decide +kernel
theorem d12_16 : decode jdk_38_method_25_code 16 = .ok (.aload_n 0, 1) := by decide +kernel
theorem d12_17 : decode jdk_38_method_25_code 17 = .ok (.getfield 48, 3) := by decide +kernel
theorem d12_20 : decode jdk_38_method_25_code 20 = .ok (.invokevirtual 131, 3) := by decide +kernel
theorem d12_23 : decode jdk_38_method_25_code 23 = .ok (.iconst 1, 1) := by decide +kernel
theorem d12_24 : decode jdk_38_method_25_code 24 = .ok (.ireturn, 1) := by decide +kernel
theorem pd_12 : parseMethodDescriptor "(Ljava/lang/Object;)Z" = some ⟨[(.object "java/lang/Object")], some .boolean⟩ := by decide +kernel
theorem ef_12 (m : MethodId) (p0 : Addr) (p1 : Addr) : entryFrame m #[(.ref p0), (.ref p1)] 2 = mkF m 0 #[.val (.ref p0), .val (.ref p1)] [] := by first | (simp [entryFrame, mkF, argsToLocals, Value.category]; done) | rfl
set_option maxRecDepth 65536 in
set_option maxHeartbeats 40000000 in
theorem rmAG (l : Launch) (Z : State) (a0 : Array Value) (hw : ∀ d ∈ tables_1, d.before a0 Z = true) (p0 : Addr) (p1 : Addr) (h0 : Heap) (n0 : Nat) (Z0 : n0 ≤ h0.size) (de : Addr) (mc : Int32) (f1 : Fld Z h0 p0 "java/util/ArrayList" "elementData" "[Ljava/lang/Object;" (.ref de)) (f2 : Fld Z h0 p0 "java/util/ArrayList" "size" "I" (.int (0 : Int32))) (f3 : Fld Z h0 p0 "java/util/AbstractList" "modCount" "I" (.int mc)) (E0 : Exa Z h0 p0 "java/util/ArrayList") (ga : n0 ≤ p0) (SD : Sta Z h0 "java/util/ArrayList" "DEFAULTCAPACITY_EMPTY_ELEMENTDATA" "[Ljava/lang/Object;" (.ref de)) (AD : Ar Z h0 de (.object "java/lang/Object") []) (nde : de ≠ p0) (I1 : Ins Z h0 p1 "java/lang/Object" true) :
    Con l Z (⟨"java/util/ArrayList", "add", "(Ljava/lang/Object;)Z"⟩ : MethodName) jdk_38_method_25_code 2 (some .boolean) [] ({ frames := 4, cells := 1, slots := 10, locals := 56 } : Room) 1 10 #[(.ref p0), (.ref p1)] h0 (fun v h L => Keep h0 h [p0] ∧ ∃ b, n0 ≤ b ∧ h0.size ≤ b ∧ v = some (.int 1) ∧ Fr n0 L ∧ Fld Z h p0 "java/util/ArrayList" "elementData" "[Ljava/lang/Object;" (.ref b) ∧ Fld Z h p0 "java/util/ArrayList" "size" "I" (.int ((0 : Int32) + 1)) ∧ Fld Z h p0 "java/util/AbstractList" "modCount" "I" (.int (mc + 1)) ∧ Ar Z h b (.object "java/lang/Object") ((List.replicate 10 Value.null).set 0 (.ref p1)) ∧ Exa Z h b "[Ljava/lang/Object;" ∧ Ovc Z h b "java/lang/Object" ∧ Exa Z h p0 "java/util/ArrayList") := by
  refine Con.body (plainFor_of_name (by first | (simp [plainName, overriddenIn]; done) | decide +kernel)) ?_
  intro p e s m below meth c T0 hx hby hml hown hnm hZ hret hlk X0 e0
  refine Goes.cast (ef_12 m p0 p1) ?_
  have N0 := Fr.nil n0
  have K0 : Keep h0 h0 [p0] := Keep.refl _ _
  show Goes p.tables e below (T0.setTop (mkF m 0 #[.val (.ref p0), .val (.ref p1)] [])) _
  refine g_aloadN X0 hx (hb hby d12_0) rfl rfl ?_
  show Goes p.tables e below (T0.setTop (mkF m 1 #[.val (.ref p0), .val (.ref p1)] [(.ref p0)])) _
  refine g_dup X0 hx (hb hby d12_1) rfl ?_
  show Goes p.tables e below (T0.setTop (mkF m 2 #[.val (.ref p0), .val (.ref p1)] [(.ref p0), (.ref p0)])) _
  refine g_getF X0 hx hZ hown e0 (host := "") (Or.inl (hw _ (List.mem_of_getElem? (i := 97) rfl))) (Via.of (hw _ (List.mem_of_getElem? (i := 98) rfl))) f3 (hb hby d12_2) (fun T1 X1 e1 => ?_)
  show Goes p.tables e below (T1.setTop (mkF m 5 #[.val (.ref p0), .val (.ref p1)] [(.int mc), (.ref p0)])) _
  refine g_iconst X1 hx (1 : Int32) (hb hby d12_5) rfl ?_
  show Goes p.tables e below (T1.setTop (mkF m 6 #[.val (.ref p0), .val (.ref p1)] [(.int (1 : Int32)), (.int mc), (.ref p0)])) _
  refine g_iadd X1 hx (hb hby d12_6) ?_
  show Goes p.tables e below (T1.setTop (mkF m 7 #[.val (.ref p0), .val (.ref p1)] [(.int (mc + (1 : Int32))), (.ref p0)])) _
  refine g_putF X1 hx hZ hown e1 (hw _ (List.mem_of_getElem? (i := 97) rfl)) (Via.of (hw _ (List.mem_of_getElem? (i := 98) rfl))) (v' := (.int (mc + (1 : Int32)))) f3 E0 (Or.inl (hw _ (List.mem_of_getElem? (i := 22) rfl))) (hw _ (List.mem_of_getElem? (i := 1) rfl)) (ty := .int) (by decide) rfl rfl (hb hby d12_7) (fun T2 h2 X2 e2 W2 => ?_)
  have fx3 : Fld Z h2 p0 "java/util/ArrayList" "elementData" "[Ljava/lang/Object;" (.ref de) := Fld.other W2 f1 (Or.inr (slot_ne (t := (.array (.object "java/lang/Object"))) (t' := .int) (Or.inl (hw _ (List.mem_of_getElem? (i := 25) rfl))) (Or.inl (hw _ (List.mem_of_getElem? (i := 22) rfl))) (by decide) (by decide) (by decide)))
  have fx4 : Fld Z h2 p0 "java/util/ArrayList" "size" "I" (.int (0 : Int32)) := Fld.other W2 f2 (Or.inr (slot_ne (t := .int) (t' := .int) (Or.inl (hw _ (List.mem_of_getElem? (i := 57) rfl))) (Or.inl (hw _ (List.mem_of_getElem? (i := 22) rfl))) (by decide) (by decide) (by decide)))
  have fx5 : Exa Z h2 p0 "java/util/ArrayList" := Exa.wr W2 E0
  have fx6 : Sta Z h2 "java/util/ArrayList" "DEFAULTCAPACITY_EMPTY_ELEMENTDATA" "[Ljava/lang/Object;" (.ref de) := Sta.wr W2 SD
  have fx7 : Ar Z h2 de (.object "java/lang/Object") [] := Ar.other AD W2 nde
  have fx8 : Ins Z h2 p1 "java/lang/Object" true := Ins.wr W2 I1
  have fx9 : Fld Z h2 p0 "java/util/AbstractList" "modCount" "I" (.int (mc + (1 : Int32))) := Fld.same W2 f3
  have N10 := Fr.snoc X2 N0 ga
  have Z11 : n0 ≤ h2.size := by rw [W2.size]; exact Z0
  have K12 : Keep h0 h2 [p0] := Keep.wr K0 W2 (Or.inl (List.mem_of_getElem? (i := 0) rfl))
  show Goes p.tables e below (T2.setTop (mkF m 10 #[.val (.ref p0), .val (.ref p1)] [])) _
  refine g_aloadN X2 hx (hb hby d12_10) rfl rfl ?_
  show Goes p.tables e below (T2.setTop (mkF m 11 #[.val (.ref p0), .val (.ref p1)] [(.ref p0)])) _
  refine g_aloadN X2 hx (hb hby d12_11) rfl rfl ?_
  show Goes p.tables e below (T2.setTop (mkF m 12 #[.val (.ref p0), .val (.ref p1)] [(.ref p1), (.ref p0)])) _
  refine g_aloadN X2 hx (hb hby d12_12) rfl rfl ?_
  show Goes p.tables e below (T2.setTop (mkF m 13 #[.val (.ref p0), .val (.ref p1)] [(.ref p0), (.ref p1), (.ref p0)])) _
  refine g_getF X2 hx hZ hown e2 (host := "") (Or.inl (hw _ (List.mem_of_getElem? (i := 24) rfl))) Via.refl fx3 (hb hby d12_13) (fun T13 X13 e13 => ?_)
  show Goes p.tables e below (T13.setTop (mkF m 16 #[.val (.ref p0), .val (.ref p1)] [(.ref de), (.ref p1), (.ref p0)])) _
  refine g_aloadN X13 hx (hb hby d12_16) rfl rfl ?_
  show Goes p.tables e below (T13.setTop (mkF m 17 #[.val (.ref p0), .val (.ref p1)] [(.ref p0), (.ref de), (.ref p1), (.ref p0)])) _
  refine g_getF X13 hx hZ hown e13 (host := "") (Or.inl (hw _ (List.mem_of_getElem? (i := 56) rfl))) Via.refl fx4 (hb hby d12_17) (fun T14 X14 e14 => ?_)
  show Goes p.tables e below (T14.setTop (mkF m 20 #[.val (.ref p0), .val (.ref p1)] [(.int (0 : Int32)), (.ref de), (.ref p1), (.ref p0)])) _
  refine g_callP X14 hx hZ hown (by rw [hml]; rfl) e14 (hw _ (List.mem_of_getElem? (i := 99) rfl)) (hw _ (List.mem_of_getElem? (i := 100) rfl)) (hw _ (List.mem_of_getElem? (i := 102) rfl)) (hw _ (List.mem_of_getElem? (i := 101) rfl)) (hw _ (List.mem_of_getElem? (i := 2) rfl)) (hw _ (List.mem_of_getElem? (i := 103) rfl)) fx5 (rmHG l Z a0 hw p0 p1 de (0 : Int32) h2 n0 Z11 (mc + 1) rfl fx3 fx4 fx9 fx5 ga fx6 fx7 nde fx8) [(.ref p1), (.ref de), (.int (0 : Int32))] rfl [] rfl (lenOf pd_13 rfl) (hb hby d12_20) (by decide) 0 (by decide) (by decide) (by first | decide | exact Nat.le_refl _) (by decide) (by decide) (fun v T15 L15 X15 hQ15 => ?_)
  obtain ⟨Kb, b, gb, hgb, rfl, Nb, fa, fb, fc, Ab, Eb, Ob, E1⟩ := hQ15
  have Kz : Keep h0 T15.heap [p0] := K12.trans Kb (allS (Or.inl (List.mem_of_getElem? (i := 0) rfl)) all0)
  have hbz : h0.size ≤ b := Nat.le_trans K12.1 hgb
  have N16 := Fr.app N10 Nb
  show Goes p.tables e below (T15.setTop (mkF m 23 #[.val (.ref p0), .val (.ref p1)] [])) _
  refine g_iconst X15 hx (1 : Int32) (hb hby d12_23) rfl ?_
  show Goes p.tables e below (T15.setTop (mkF m 24 #[.val (.ref p0), .val (.ref p1)] [(.int (1 : Int32))])) _
  exact g_retZ X15 hx (hz := (by decide)) hret hlk (hb hby d12_24) (by decide) (by decide) ⟨Kz, b, gb, hbz, rfl, N16, fa, fb, fc, Ab, Eb, Ob, E1⟩
set_option maxRecDepth 65536 in
set_option maxHeartbeats 40000000 in
theorem rmAR (l : Launch) (Z : State) (a0 : Array Value) (hw : ∀ d ∈ tables_1, d.before a0 Z = true) (p0 : Addr) (p1 : Addr) (h0 : Heap) (n0 : Nat) (Z0 : n0 ≤ h0.size) (ed : Addr) (sz mc : Int32) (vs : List Value) (k : Nat) (hk : sz.toInt = k) (hk2 : k < 10) (hvs : vs.length = 10) (f1 : Fld Z h0 p0 "java/util/ArrayList" "elementData" "[Ljava/lang/Object;" (.ref ed)) (f2 : Fld Z h0 p0 "java/util/ArrayList" "size" "I" (.int sz)) (f3 : Fld Z h0 p0 "java/util/AbstractList" "modCount" "I" (.int mc)) (E0 : Exa Z h0 p0 "java/util/ArrayList") (ga : n0 ≤ p0) (gd : n0 ≤ ed) (AD : Ar Z h0 ed (.object "java/lang/Object") vs) (EA : Exa Z h0 ed "[Ljava/lang/Object;") (OA : Ovc Z h0 ed "java/lang/Object") (nde : ed ≠ p0) (I1 : Ins Z h0 p1 "java/lang/Object" true) :
    Con l Z (⟨"java/util/ArrayList", "add", "(Ljava/lang/Object;)Z"⟩ : MethodName) jdk_38_method_25_code 2 (some .boolean) [] ({ frames := 1, cells := 0, slots := 0, locals := 15 } : Room) 0 0 #[(.ref p0), (.ref p1)] h0 (fun v h L => Keep h0 h [p0, ed] ∧ v = some (.int 1) ∧ Fr n0 L ∧ Fld Z h p0 "java/util/ArrayList" "elementData" "[Ljava/lang/Object;" (.ref ed) ∧ Fld Z h p0 "java/util/ArrayList" "size" "I" (.int (sz + 1)) ∧ Fld Z h p0 "java/util/AbstractList" "modCount" "I" (.int (mc + 1)) ∧ Ar Z h ed (.object "java/lang/Object") (vs.set k (.ref p1)) ∧ Exa Z h ed "[Ljava/lang/Object;" ∧ Ovc Z h ed "java/lang/Object" ∧ Exa Z h p0 "java/util/ArrayList") := by
  refine Con.body (plainFor_of_name (by first | (simp [plainName, overriddenIn]; done) | decide +kernel)) ?_
  intro p e s m below meth c T0 hx hby hml hown hnm hZ hret hlk X0 e0
  refine Goes.cast (ef_12 m p0 p1) ?_
  have N0 := Fr.nil n0
  have K0 : Keep h0 h0 [p0, ed] := Keep.refl _ _
  show Goes p.tables e below (T0.setTop (mkF m 0 #[.val (.ref p0), .val (.ref p1)] [])) _
  refine g_aloadN X0 hx (hb hby d12_0) rfl rfl ?_
  show Goes p.tables e below (T0.setTop (mkF m 1 #[.val (.ref p0), .val (.ref p1)] [(.ref p0)])) _
  refine g_dup X0 hx (hb hby d12_1) rfl ?_
  show Goes p.tables e below (T0.setTop (mkF m 2 #[.val (.ref p0), .val (.ref p1)] [(.ref p0), (.ref p0)])) _
  refine g_getF X0 hx hZ hown e0 (host := "") (Or.inl (hw _ (List.mem_of_getElem? (i := 97) rfl))) (Via.of (hw _ (List.mem_of_getElem? (i := 98) rfl))) f3 (hb hby d12_2) (fun T1 X1 e1 => ?_)
  show Goes p.tables e below (T1.setTop (mkF m 5 #[.val (.ref p0), .val (.ref p1)] [(.int mc), (.ref p0)])) _
  refine g_iconst X1 hx (1 : Int32) (hb hby d12_5) rfl ?_
  show Goes p.tables e below (T1.setTop (mkF m 6 #[.val (.ref p0), .val (.ref p1)] [(.int (1 : Int32)), (.int mc), (.ref p0)])) _
  refine g_iadd X1 hx (hb hby d12_6) ?_
  show Goes p.tables e below (T1.setTop (mkF m 7 #[.val (.ref p0), .val (.ref p1)] [(.int (mc + (1 : Int32))), (.ref p0)])) _
  refine g_putF X1 hx hZ hown e1 (hw _ (List.mem_of_getElem? (i := 97) rfl)) (Via.of (hw _ (List.mem_of_getElem? (i := 98) rfl))) (v' := (.int (mc + (1 : Int32)))) f3 E0 (Or.inl (hw _ (List.mem_of_getElem? (i := 22) rfl))) (hw _ (List.mem_of_getElem? (i := 1) rfl)) (ty := .int) (by decide) rfl rfl (hb hby d12_7) (fun T2 h2 X2 e2 W2 => ?_)
  have fx3 : Fld Z h2 p0 "java/util/ArrayList" "elementData" "[Ljava/lang/Object;" (.ref ed) := Fld.other W2 f1 (Or.inr (slot_ne (t := (.array (.object "java/lang/Object"))) (t' := .int) (Or.inl (hw _ (List.mem_of_getElem? (i := 25) rfl))) (Or.inl (hw _ (List.mem_of_getElem? (i := 22) rfl))) (by decide) (by decide) (by decide)))
  have fx4 : Fld Z h2 p0 "java/util/ArrayList" "size" "I" (.int sz) := Fld.other W2 f2 (Or.inr (slot_ne (t := .int) (t' := .int) (Or.inl (hw _ (List.mem_of_getElem? (i := 57) rfl))) (Or.inl (hw _ (List.mem_of_getElem? (i := 22) rfl))) (by decide) (by decide) (by decide)))
  have fx5 : Exa Z h2 p0 "java/util/ArrayList" := Exa.wr W2 E0
  have fx6 : Ar Z h2 ed (.object "java/lang/Object") vs := Ar.other AD W2 nde
  have fx7 : Exa Z h2 ed "[Ljava/lang/Object;" := Exa.wr W2 EA
  have fx8 : Ovc Z h2 ed "java/lang/Object" := Ovc.wr OA W2
  have fx9 : Ins Z h2 p1 "java/lang/Object" true := Ins.wr W2 I1
  have fx10 : Fld Z h2 p0 "java/util/AbstractList" "modCount" "I" (.int (mc + (1 : Int32))) := Fld.same W2 f3
  have N11 := Fr.snoc X2 N0 ga
  have Z12 : n0 ≤ h2.size := by rw [W2.size]; exact Z0
  have K13 : Keep h0 h2 [p0, ed] := Keep.wr K0 W2 (Or.inl (List.mem_of_getElem? (i := 0) rfl))
  show Goes p.tables e below (T2.setTop (mkF m 10 #[.val (.ref p0), .val (.ref p1)] [])) _
  refine g_aloadN X2 hx (hb hby d12_10) rfl rfl ?_
  show Goes p.tables e below (T2.setTop (mkF m 11 #[.val (.ref p0), .val (.ref p1)] [(.ref p0)])) _
  refine g_aloadN X2 hx (hb hby d12_11) rfl rfl ?_
  show Goes p.tables e below (T2.setTop (mkF m 12 #[.val (.ref p0), .val (.ref p1)] [(.ref p1), (.ref p0)])) _
  refine g_aloadN X2 hx (hb hby d12_12) rfl rfl ?_
  show Goes p.tables e below (T2.setTop (mkF m 13 #[.val (.ref p0), .val (.ref p1)] [(.ref p0), (.ref p1), (.ref p0)])) _
  refine g_getF X2 hx hZ hown e2 (host := "") (Or.inl (hw _ (List.mem_of_getElem? (i := 24) rfl))) Via.refl fx3 (hb hby d12_13) (fun T14 X14 e14 => ?_)
  show Goes p.tables e below (T14.setTop (mkF m 16 #[.val (.ref p0), .val (.ref p1)] [(.ref ed), (.ref p1), (.ref p0)])) _
  refine g_aloadN X14 hx (hb hby d12_16) rfl rfl ?_
  show Goes p.tables e below (T14.setTop (mkF m 17 #[.val (.ref p0), .val (.ref p1)] [(.ref p0), (.ref ed), (.ref p1), (.ref p0)])) _
  refine g_getF X14 hx hZ hown e14 (host := "") (Or.inl (hw _ (List.mem_of_getElem? (i := 56) rfl))) Via.refl fx4 (hb hby d12_17) (fun T15 X15 e15 => ?_)
  show Goes p.tables e below (T15.setTop (mkF m 20 #[.val (.ref p0), .val (.ref p1)] [(.int sz), (.ref ed), (.ref p1), (.ref p0)])) _
  refine g_callP X15 hx hZ hown (by rw [hml]; rfl) e15 (hw _ (List.mem_of_getElem? (i := 99) rfl)) (hw _ (List.mem_of_getElem? (i := 100) rfl)) (hw _ (List.mem_of_getElem? (i := 102) rfl)) (hw _ (List.mem_of_getElem? (i := 101) rfl)) (hw _ (List.mem_of_getElem? (i := 2) rfl)) (hw _ (List.mem_of_getElem? (i := 103) rfl)) fx5 (rmHR l Z a0 hw p0 p1 ed sz h2 n0 Z12 (mc + 1) vs k hk hk2 hvs fx3 fx4 fx10 fx5 ga gd fx6 fx7 fx8 nde fx9) [(.ref p1), (.ref ed), (.int sz)] rfl [] rfl (lenOf pd_13 rfl) (hb hby d12_20) (by decide) 0 (by decide) (by decide) (by first | decide | exact Nat.le_refl _) (by decide) (by decide) (fun v T16 L16 X16 hQ16 => ?_)
  obtain ⟨Kb, rfl, Nb, fa, fb, fc, Ab, Eb, Ob, E1⟩ := hQ16
  have Kz : Keep h0 T16.heap [p0, ed] := K13.trans Kb (allS (Or.inl (List.mem_of_getElem? (i := 0) rfl)) (allS (Or.inl (List.mem_of_getElem? (i := 1) rfl)) all0))
  have N17 := Fr.app N11 Nb
  show Goes p.tables e below (T16.setTop (mkF m 23 #[.val (.ref p0), .val (.ref p1)] [])) _
  refine g_iconst X16 hx (1 : Int32) (hb hby d12_23) rfl ?_
  show Goes p.tables e below (T16.setTop (mkF m 24 #[.val (.ref p0), .val (.ref p1)] [(.int (1 : Int32))])) _
  exact g_retZ X16 hx (hz := (by decide)) hret hlk (hb hby d12_24) (by decide) (by decide) ⟨Kz, rfl, N17, fa, fb, fc, Ab, Eb, Ob, E1⟩
theorem d10_0 : decode jdk_38_method_8_code 0 = .ok (.aload_n 0, 1) := by decide +kernel
theorem d10_1 : decode jdk_38_method_8_code 1 = .ok (.getfield 48, 3) := by decide +kernel
theorem d10_4 : decode jdk_38_method_8_code 4 = .ok (.ireturn, 1) := by decide +kernel
theorem pd_10 : parseMethodDescriptor "()I" = some ⟨[], some .int⟩ := by decide +kernel
theorem ef_10 (m : MethodId) (p0 : Addr) : entryFrame m #[(.ref p0)] 1 = mkF m 0 #[.val (.ref p0)] [] := by first | (simp [entryFrame, mkF, argsToLocals, Value.category]; done) | rfl
set_option maxRecDepth 65536 in
set_option maxHeartbeats 40000000 in
theorem rmSize (l : Launch) (Z : State) (a0 : Array Value) (hw : ∀ d ∈ tables_1, d.before a0 Z = true) (p0 : Addr) (h0 : Heap) (n0 : Nat) (Z0 : n0 ≤ h0.size) (sz : Int32) (f1 : Fld Z h0 p0 "java/util/ArrayList" "size" "I" (.int sz)) :
    Con l Z (⟨"java/util/ArrayList", "size", "()I"⟩ : MethodName) jdk_38_method_8_code 1 (some .int) [] ({ frames := 0, cells := 0, slots := 0, locals := 0 } : Room) 0 0 #[(.ref p0)] h0 (fun v h L => v = some (.int sz) ∧ h = h0 ∧ L = []) := by
  refine Con.body (plainFor_of_name (by first | (simp [plainName, overriddenIn]; done) | decide +kernel)) ?_
  intro p e s m below meth c T0 hx hby hml hown hnm hZ hret hlk X0 e0
  refine Goes.cast (ef_10 m p0) ?_
  have N0 := Fr.nil n0
  show Goes p.tables e below (T0.setTop (mkF m 0 #[.val (.ref p0)] [])) _
  refine g_aloadN X0 hx (hb hby d10_0) rfl rfl ?_
  show Goes p.tables e below (T0.setTop (mkF m 1 #[.val (.ref p0)] [(.ref p0)])) _
  refine g_getF X0 hx hZ hown e0 (host := "") (Or.inl (hw _ (List.mem_of_getElem? (i := 56) rfl))) Via.refl f1 (hb hby d10_1) (fun T1 X1 e1 => ?_)
  show Goes p.tables e below (T1.setTop (mkF m 4 #[.val (.ref p0)] [(.int sz)])) _
  exact g_retI X1 hx hret hlk (hb hby d10_4) (by decide) (by decide) ⟨rfl, e1, rfl⟩
theorem d8_0 : decode jdk_38_method_9_code 0 = .ok (.aload_n 0, 1) := by decide +kernel
theorem d8_1 : decode jdk_38_method_9_code 1 = .ok (.getfield 48, 3) := by decide +kernel
theorem d8_4 : decode jdk_38_method_9_code 4 = .ok (.ifCond .ne 7, 3) := by decide +kernel
theorem d8_7 : decode jdk_38_method_9_code 7 = .ok (.iconst 1, 1) := by decide +kernel
theorem d8_8 : decode jdk_38_method_9_code 8 = .ok (.goto 4, 3) := by decide +kernel
theorem d8_11 : decode jdk_38_method_9_code 11 = .ok (.iconst 0, 1) := by decide +kernel
theorem d8_12 : decode jdk_38_method_9_code 12 = .ok (.ireturn, 1) := by decide +kernel
theorem pd_8 : parseMethodDescriptor "()Z" = some ⟨[], some .boolean⟩ := by decide +kernel
theorem ef_8 (m : MethodId) (p0 : Addr) : entryFrame m #[(.ref p0)] 1 = mkF m 0 #[.val (.ref p0)] [] := by first | (simp [entryFrame, mkF, argsToLocals, Value.category]; done) | rfl
set_option maxRecDepth 65536 in
set_option maxHeartbeats 40000000 in
theorem rmEmp (l : Launch) (Z : State) (a0 : Array Value) (hw : ∀ d ∈ tables_1, d.before a0 Z = true) (p0 : Addr) (h0 : Heap) (n0 : Nat) (Z0 : n0 ≤ h0.size) (sz : Int32) (f1 : Fld Z h0 p0 "java/util/ArrayList" "size" "I" (.int sz)) :
    Con l Z (⟨"java/util/ArrayList", "isEmpty", "()Z"⟩ : MethodName) jdk_38_method_9_code 1 (some .boolean) [] ({ frames := 0, cells := 0, slots := 0, locals := 0 } : Room) 0 0 #[(.ref p0)] h0 (fun v h L => v = some (.int (if sz = 0 then 1 else 0)) ∧ h = h0 ∧ L = []) := by
  refine Con.body (plainFor_of_name (by first | (simp [plainName, overriddenIn]; done) | decide +kernel)) ?_
  intro p e s m below meth c T0 hx hby hml hown hnm hZ hret hlk X0 e0
  refine Goes.cast (ef_8 m p0) ?_
  have N0 := Fr.nil n0
  show Goes p.tables e below (T0.setTop (mkF m 0 #[.val (.ref p0)] [])) _
  refine g_aloadN X0 hx (hb hby d8_0) rfl rfl ?_
  show Goes p.tables e below (T0.setTop (mkF m 1 #[.val (.ref p0)] [(.ref p0)])) _
  refine g_getF X0 hx hZ hown e0 (host := "") (Or.inl (hw _ (List.mem_of_getElem? (i := 56) rfl))) Via.refl f1 (hb hby d8_1) (fun T1 X1 e1 => ?_)
  show Goes p.tables e below (T1.setTop (mkF m 4 #[.val (.ref p0)] [(.int sz)])) _
  refine g_if_ne X1 hx (hb hby d8_4) (by decide) (pc' := 11) (by decide) (fun c4 => ?_) (fun c4 => ?_)
  · skip
    show Goes p.tables e below (T1.setTop (mkF m 11 #[.val (.ref p0)] [])) _
    refine g_iconst X1 hx (0 : Int32) (hb hby d8_11) rfl ?_
    show Goes p.tables e below (T1.setTop (mkF m 12 #[.val (.ref p0)] [(.int (0 : Int32))])) _
    exact g_retZ X1 hx (hz := (by decide)) hret hlk (hb hby d8_12) (by decide) (by decide) ⟨by rw [if_neg c4], e1, rfl⟩
  · skip
    show Goes p.tables e below (T1.setTop (mkF m 7 #[.val (.ref p0)] [])) _
    refine g_iconst X1 hx (1 : Int32) (hb hby d8_7) rfl ?_
    show Goes p.tables e below (T1.setTop (mkF m 8 #[.val (.ref p0)] [(.int (1 : Int32))])) _
    refine g_goto X1 hx (hb hby d8_8) (by decide) (pc' := 12) (by decide) ?_
    show Goes p.tables e below (T1.setTop (mkF m 12 #[.val (.ref p0)] [(.int (1 : Int32))])) _
    exact g_retZ X1 hx (hz := (by decide)) hret hlk (hb hby d8_12) (by decide) (by decide) ⟨by rw [if_pos c4], e1, rfl⟩
theorem own_min {p : Int32} {len n : Nat} (hn : p.toInt = n) (hl : len < 2147483648) (h : n ≤ len) : (minV (Int32.ofNat len) p).toInt = n := by
  unfold minV
  by_cases q : p < Int32.ofNat len
  · rw [if_pos q]; exact hn
  · rw [if_neg q]
    have q' : ¬ p.toInt < (Int32.ofNat len).toInt := fun z => q (Int32.lt_iff_toInt_lt.mpr z)
    rw [own_of hl] at q' ⊢
    omega
theorem d19_0 : decode jdk_65_method_120_code 0 = .ok (.aload_n 2, 1) := by decide +kernel
theorem d19_1 : decode jdk_65_method_120_code 1 = .ok (.ldc 110, 2) := by decide +kernel
theorem d19_3 : decode jdk_65_method_120_code 3 = .ok (.if_acmp .ne 10, 3) := by decide +kernel
theorem d19_6 : decode jdk_65_method_120_code 6 = .ok (.iload_n 1, 1) := by decide +kernel
theorem d19_7 : decode jdk_65_method_120_code 7 = .ok (.anewarray 2, 3) := by decide +kernel
theorem d19_10 : decode jdk_65_method_120_code 10 = .ok (.goto 14, 3) := by decide +kernel
theorem d19_13 : decode jdk_65_method_120_code 13 = .ok (.aload_n 2, 1) := by decide +kernel
theorem d19_14 : decode jdk_65_method_120_code 14 = .ok (.invokevirtual 90, 3) := by decide +kernel
theorem d19_17 : decode jdk_65_method_120_code 17 = .ok (.iload_n 1, 1) := by decide +kernel
theorem d19_18 : decode jdk_65_method_120_code 18 = .ok (.invokestatic 95, 3) := by decide +kernel
theorem d19_21 : decode jdk_65_method_120_code 21 = .ok (.checkcast 110, 3) := by decide +kernel
theorem d19_24 : decode jdk_65_method_120_code 24 = .ok (.astore_n 3, 1) := by decide +kernel
theorem d19_25 : decode jdk_65_method_120_code 25 = .ok (.aload_n 0, 1) := by decide +kernel
theorem d19_26 : decode jdk_65_method_120_code 26 = .ok (.iconst 0, 1) := by decide +kernel
theorem d19_27 : decode jdk_65_method_120_code 27 = .ok (.aload_n 3, 1) := by decide +kernel
theorem d19_28 : decode jdk_65_method_120_code 28 = .ok (.iconst 0, 1) := by decide +kernel
theorem d19_29 : decode jdk_65_method_120_code 29 = .ok (.aload_n 0, 1) := by decide +kernel
theorem d19_30 : decode jdk_65_method_120_code 30 = .ok (.arraylength, 1) := by decide +kernel
theorem d19_31 : decode jdk_65_method_120_code 31 = .ok (.iload_n 1, 1) := by decide +kernel
theorem d19_32 : decode jdk_65_method_120_code 32 = .ok (.invokestatic 304, 3) := by decide +kernel
theorem d19_35 : decode jdk_65_method_120_code 35 = .ok (.invokestatic 150, 3) := by decide +kernel
theorem d19_38 : decode jdk_65_method_120_code 38 = .ok (.aload_n 3, 1) := by decide +kernel
theorem d19_39 : decode jdk_65_method_120_code 39 = .ok (.areturn, 1) := by decide +kernel
theorem pd_19 : parseMethodDescriptor "([Ljava/lang/Object;ILjava/lang/Class;)[Ljava/lang/Object;" = some ⟨[(.array (.object "java/lang/Object")), .int, (.object "java/lang/Class")], some (.array (.object "java/lang/Object"))⟩ := by decide +kernel
theorem ef_19 (m : MethodId) (p0 : Addr) (p1 : Int32) (p2 : Addr) : entryFrame m #[(.ref p0), (.int p1), (.ref p2)] 4 = mkF m 0 #[.val (.ref p0), .val (.int p1), .val (.ref p2), .unset] [] := by first | (simp [entryFrame, mkF, argsToLocals, Value.category]; done) | rfl
set_option maxRecDepth 65536 in
set_option maxHeartbeats 40000000 in
theorem rmCpC (l : Launch) (Z : State) (a0 : Array Value) (hw : ∀ d ∈ tables_1, d.before a0 Z = true) (p0 : Addr) (p1 : Int32) (p2 : Addr) (h0 : Heap) (n0 : Nat) (Z0 : n0 ≤ h0.size) (M0 : Mirr Z "[Ljava/lang/Object;" p2) (vs : List Value) (n : Nat) (hn : p1.toInt = n) (hle : n ≤ vs.length) (hn4 : n ≤ 4) (A0 : Ar Z h0 p0 (.object "java/lang/Object") vs) (hI : ∀ v ∈ vs.take n, ∃ x, v = Value.ref x ∧ Ins Z h0 x "java/lang/Object" true) :
    Con l Z (⟨"java/util/Arrays", "copyOf", "([Ljava/lang/Object;ILjava/lang/Class;)[Ljava/lang/Object;"⟩ : MethodName) jdk_65_method_120_code 4 (some (.array (.object "java/lang/Object"))) [] ({ frames := 1, cells := 1, slots := 4, locals := 40 } : Room) 1 4 #[(.ref p0), (.int p1), (.ref p2)] h0 (fun v h L => ∃ b, v = some (.ref b) ∧ n0 ≤ b ∧ h0.size ≤ b ∧ Fr n0 L ∧ Keep h0 h [] ∧ Ar Z h b (.object "java/lang/Object") (vs.take n) ∧ Exa Z h b "[Ljava/lang/Object;" ∧ Ovc Z h b "java/lang/Object") := by
  refine Con.body (plainFor_of_name (by first | (simp [plainName, overriddenIn]; done) | decide +kernel)) ?_
  intro p e s m below meth c T0 hx hby hml hown hnm hZ hret hlk X0 e0
  refine Goes.cast (ef_19 m p0 p1 p2) ?_
  have N0 := Fr.nil n0
  have hlen : vs.length < 2147483648 := by obtain ⟨_, _, _, q, _⟩ := A0; omega
  have K0 : Keep h0 h0 [] := Keep.refl _ _
  show Goes p.tables e below (T0.setTop (mkF m 0 #[.val (.ref p0), .val (.int p1), .val (.ref p2), .unset] [])) _
  refine g_aloadN X0 hx (hb hby d19_0) rfl rfl ?_
  show Goes p.tables e below (T0.setTop (mkF m 1 #[.val (.ref p0), .val (.int p1), .val (.ref p2), .unset] [(.ref p2)])) _
  refine g_ldcM X0 hx hZ hown e0 (hw _ (List.mem_of_getElem? (i := 146) rfl)) M0 (hb hby d19_1) (fun T1 X1 e1 => ?_)
  show Goes p.tables e below (T1.setTop (mkF m 3 #[.val (.ref p0), .val (.int p1), .val (.ref p2), .unset] [(.ref p2), (.ref p2)])) _
  refine g_acmp_ne X1 hx rfl rfl (hb hby d19_3) (by decide) (pc' := 13) (by decide) (fun q => absurd rfl q) (fun _ => ?_)
  show Goes p.tables e below (T1.setTop (mkF m 6 #[.val (.ref p0), .val (.int p1), .val (.ref p2), .unset] [])) _
  refine g_iloadN X1 hx (hb hby d19_6) rfl ?_
  show Goes p.tables e below (T1.setTop (mkF m 7 #[.val (.ref p0), .val (.int p1), .val (.ref p2), .unset] [(.int p1)])) _
  refine g_newref X1 hx hZ hown e1 (hw _ (List.mem_of_getElem? (i := 147) rfl)) (hw _ (List.mem_of_getElem? (i := 119) rfl)) (hb hby d19_7) (n := n) hn 4 (by omega) (by decide) (by decide) (by decide) (ad := "[Ljava/lang/Object;") (by decide) (fun T2 h2 a2 ga2 X2 e2 Ex2 Aa2 Ea2 Oa2 => ?_)
  have ne3 : p0 ≠ a2 := Nat.ne_of_lt (by rw [ga2]; exact A0.lt)
  have ge4 : n0 ≤ a2 := by rw [ga2]; exact Z0
  have ge5 : h0.size ≤ a2 := by rw [ga2]; exact K0.1
  have fx6 : Ar Z h2 p0 (.object "java/lang/Object") vs := Ar.ext A0 Ex2
  have Z7 : n0 ≤ h2.size := Nat.le_trans Z0 Ex2.1
  have K8 : Keep h0 h2 [] := Keep.ext K0 Ex2
  show Goes p.tables e below (T2.setTop (mkF m 10 #[.val (.ref p0), .val (.int p1), .val (.ref p2), .unset] [(.ref a2)])) _
  refine g_goto X2 hx (hb hby d19_10) (by decide) (pc' := 24) (by decide) ?_
  show Goes p.tables e below (T2.setTop (mkF m 24 #[.val (.ref p0), .val (.int p1), .val (.ref p2), .unset] [(.ref a2)])) _
  refine g_astoreN X2 hx (hb hby d19_24) rfl (l' := #[.val (.ref p0), .val (.int p1), .val (.ref p2), .val (.ref a2)]) rfl ?_
  show Goes p.tables e below (T2.setTop (mkF m 25 #[.val (.ref p0), .val (.int p1), .val (.ref p2), .val (.ref a2)] [])) _
  refine g_aloadN X2 hx (hb hby d19_25) rfl rfl ?_
  show Goes p.tables e below (T2.setTop (mkF m 26 #[.val (.ref p0), .val (.int p1), .val (.ref p2), .val (.ref a2)] [(.ref p0)])) _
  refine g_iconst X2 hx (0 : Int32) (hb hby d19_26) rfl ?_
  show Goes p.tables e below (T2.setTop (mkF m 27 #[.val (.ref p0), .val (.int p1), .val (.ref p2), .val (.ref a2)] [(.int (0 : Int32)), (.ref p0)])) _
  refine g_aloadN X2 hx (hb hby d19_27) rfl rfl ?_
  show Goes p.tables e below (T2.setTop (mkF m 28 #[.val (.ref p0), .val (.int p1), .val (.ref p2), .val (.ref a2)] [(.ref a2), (.int (0 : Int32)), (.ref p0)])) _
  refine g_iconst X2 hx (0 : Int32) (hb hby d19_28) rfl ?_
  show Goes p.tables e below (T2.setTop (mkF m 29 #[.val (.ref p0), .val (.int p1), .val (.ref p2), .val (.ref a2)] [(.int (0 : Int32)), (.ref a2), (.int (0 : Int32)), (.ref p0)])) _
  refine g_aloadN X2 hx (hb hby d19_29) rfl rfl ?_
  show Goes p.tables e below (T2.setTop (mkF m 30 #[.val (.ref p0), .val (.int p1), .val (.ref p2), .val (.ref a2)] [(.ref p0), (.int (0 : Int32)), (.ref a2), (.int (0 : Int32)), (.ref p0)])) _
  refine g_alen X2 hx hZ e2 fx6 (Int32.ofNat vs.length) (own_of hlen) (hb hby d19_30) ?_
  show Goes p.tables e below (T2.setTop (mkF m 31 #[.val (.ref p0), .val (.int p1), .val (.ref p2), .val (.ref a2)] [(.int (Int32.ofNat vs.length)), (.int (0 : Int32)), (.ref a2), (.int (0 : Int32)), (.ref p0)])) _
  refine g_iloadN X2 hx (hb hby d19_31) rfl ?_
  show Goes p.tables e below (T2.setTop (mkF m 32 #[.val (.ref p0), .val (.int p1), .val (.ref p2), .val (.ref a2)] [(.int p1), (.int (Int32.ofNat vs.length)), (.int (0 : Int32)), (.ref a2), (.int (0 : Int32)), (.ref p0)])) _
  refine g_callS X2 hx hZ hown (by rw [hml]; rfl) e2 (hw _ (List.mem_of_getElem? (i := 148) rfl)) (hw _ (List.mem_of_getElem? (i := 149) rfl)) (hw _ (List.mem_of_getElem? (i := 116) rfl)) (hw _ (List.mem_of_getElem? (i := 150) rfl)) (rmMin l Z a0 hw (Int32.ofNat vs.length) p1 h2) [(.int (Int32.ofNat vs.length)), (.int p1)] rfl [(.int (0 : Int32)), (.ref a2), (.int (0 : Int32)), (.ref p0)] rfl (lenOf pd_20 rfl) (hb hby d19_32) (by decide) 4 (by decide) (by decide) (by first | decide | exact Nat.le_refl _) (by decide) (by decide) (fun v T9 L9 X9 hQ9 => ?_)
  obtain ⟨rfl, e9, rfl⟩ := hQ9
  have N10 := Fr.app N0 (Fr.nil n0)
  show Goes p.tables e below (T9.setTop (mkF m 35 #[.val (.ref p0), .val (.int p1), .val (.ref p2), .val (.ref a2)] [(.int (minV (Int32.ofNat vs.length) p1)), (.int (0 : Int32)), (.ref a2), (.int (0 : Int32)), (.ref p0)])) _
  refine g_acopyR X9 hx hZ hown (by rw [hml]; rfl) e9 (hw _ (List.mem_of_getElem? (i := 151) rfl)) (hw _ (List.mem_of_getElem? (i := 154) rfl)) (hw _ (List.mem_of_getElem? (i := 152) rfl)) (hw _ (List.mem_of_getElem? (i := 153) rfl)) fx6 Aa2 rfl (n := n) (own_min hn hlen hle) hle (by rw [List.length_replicate]; exact Nat.le_refl _) (fun v hv => by obtain ⟨x, rfl, hx'⟩ := hI v hv; exact Ovc.sto Oa2 Aa2 (Ins.keep' hx' K8)) (n0 := n0) N10 ge4 (hb hby d19_35) 0 (by decide) (by first | decide | exact Nat.le_refl _) (by first | decide | exact Nat.le_refl _) (fun T11 h11 L11 X11 e11 Nc11 Kc11 Ac11 => ?_)
  have E11 := Exa.keep Ea2 Kc11
  have O11 := Ovc.keep Oa2 Kc11
  rw [List.drop_replicate, Nat.sub_self, List.replicate_zero, List.append_nil] at Ac11
  have K11 : Keep h0 h11 [] := K8.trans Kc11 (allS (Or.inr ge5) all0)
  show Goes p.tables e below (T11.setTop (mkF m 38 #[.val (.ref p0), .val (.int p1), .val (.ref p2), .val (.ref a2)] [])) _
  refine g_aloadN X11 hx (hb hby d19_38) rfl rfl ?_
  show Goes p.tables e below (T11.setTop (mkF m 39 #[.val (.ref p0), .val (.int p1), .val (.ref p2), .val (.ref a2)] [(.ref a2)])) _
  exact g_retA X11 hx hret hlk rfl rfl (hb hby d19_39) (by decide) (by decide) (by rw [e11]; exact ⟨a2, rfl, ge4, ge5, Nc11, K11, Ac11, E11, O11⟩)
theorem d18_0 : decode jdk_65_method_119_code 0 = .ok (.aload_n 0, 1) := by decide +kernel
theorem d18_1 : decode jdk_65_method_119_code 1 = .ok (.iload_n 1, 1) := by decide +kernel
theorem d18_2 : decode jdk_65_method_119_code 2 = .ok (.aload_n 0, 1) := by decide +kernel
theorem d18_3 : decode jdk_65_method_119_code 3 = .ok (.invokevirtual 86, 3) := by decide +kernel
theorem d18_6 : decode jdk_65_method_119_code 6 = .ok (.invokestatic 300, 3) := by decide +kernel
theorem d18_9 : decode jdk_65_method_119_code 9 = .ok (.areturn, 1) := by decide +kernel
theorem pd_18 : parseMethodDescriptor "([Ljava/lang/Object;I)[Ljava/lang/Object;" = some ⟨[(.array (.object "java/lang/Object")), .int], some (.array (.object "java/lang/Object"))⟩ := by decide +kernel
theorem ef_18 (m : MethodId) (p0 : Addr) (p1 : Int32) : entryFrame m #[(.ref p0), (.int p1)] 2 = mkF m 0 #[.val (.ref p0), .val (.int p1)] [] := by first | (simp [entryFrame, mkF, argsToLocals, Value.category]; done) | rfl
set_option maxRecDepth 65536 in
set_option maxHeartbeats 40000000 in
theorem rmCp2 (l : Launch) (Z : State) (a0 : Array Value) (hw : ∀ d ∈ tables_1, d.before a0 Z = true) (p0 : Addr) (p1 : Int32) (h0 : Heap) (n0 : Nat) (Z0 : n0 ≤ h0.size) (mr : Addr) (M0 : Mirr Z "[Ljava/lang/Object;" mr) (EA : Exa Z h0 p0 "[Ljava/lang/Object;") (vs : List Value) (n : Nat) (hn : p1.toInt = n) (hle : n ≤ vs.length) (hn4 : n ≤ 4) (A0 : Ar Z h0 p0 (.object "java/lang/Object") vs) (hI : ∀ v ∈ vs.take n, ∃ x, v = Value.ref x ∧ Ins Z h0 x "java/lang/Object" true) :
    Con l Z (⟨"java/util/Arrays", "copyOf", "([Ljava/lang/Object;I)[Ljava/lang/Object;"⟩ : MethodName) jdk_65_method_119_code 2 (some (.array (.object "java/lang/Object"))) [] ({ frames := 2, cells := 1, slots := 4, locals := 55 } : Room) 1 4 #[(.ref p0), (.int p1)] h0 (fun v h L => ∃ b, v = some (.ref b) ∧ n0 ≤ b ∧ h0.size ≤ b ∧ Fr n0 L ∧ Keep h0 h [] ∧ Ar Z h b (.object "java/lang/Object") (vs.take n) ∧ Exa Z h b "[Ljava/lang/Object;" ∧ Ovc Z h b "java/lang/Object") := by
  refine Con.body (plainFor_of_name (by first | (simp [plainName, overriddenIn]; done) | decide +kernel)) ?_
  intro p e s m below meth c T0 hx hby hml hown hnm hZ hret hlk X0 e0
  refine Goes.cast (ef_18 m p0 p1) ?_
  have N0 := Fr.nil n0
  show Goes p.tables e below (T0.setTop (mkF m 0 #[.val (.ref p0), .val (.int p1)] [])) _
  refine g_aloadN X0 hx (hb hby d18_0) rfl rfl ?_
  show Goes p.tables e below (T0.setTop (mkF m 1 #[.val (.ref p0), .val (.int p1)] [(.ref p0)])) _
  refine g_iloadN X0 hx (hb hby d18_1) rfl ?_
  show Goes p.tables e below (T0.setTop (mkF m 2 #[.val (.ref p0), .val (.int p1)] [(.int p1), (.ref p0)])) _
  refine g_aloadN X0 hx (hb hby d18_2) rfl rfl ?_
  show Goes p.tables e below (T0.setTop (mkF m 3 #[.val (.ref p0), .val (.int p1)] [(.ref p0), (.int p1), (.ref p0)])) _
  refine g_gcls X0 hx hZ hown (by rw [hml]; rfl) e0 (hw _ (List.mem_of_getElem? (i := 137) rfl)) (hw _ (List.mem_of_getElem? (i := 138) rfl)) (hw _ (List.mem_of_getElem? (i := 45) rfl)) (hw _ (List.mem_of_getElem? (i := 140) rfl)) (hw _ (List.mem_of_getElem? (i := 139) rfl)) (hw _ (List.mem_of_getElem? (i := 141) rfl)) EA M0 (hb hby d18_3) 2 (by decide) (by first | decide | exact Nat.le_refl _) (by first | decide | exact Nat.le_refl _) (fun T1 X1 e1 => ?_)
  show Goes p.tables e below (T1.setTop (mkF m 6 #[.val (.ref p0), .val (.int p1)] [(.ref mr), (.int p1), (.ref p0)])) _
  refine g_callS X1 hx hZ hown (by rw [hml]; rfl) e1 (hw _ (List.mem_of_getElem? (i := 143) rfl)) (hw _ (List.mem_of_getElem? (i := 144) rfl)) (hw _ (List.mem_of_getElem? (i := 135) rfl)) (hw _ (List.mem_of_getElem? (i := 145) rfl)) (rmCpC l Z a0 hw p0 p1 mr h0 n0 Z0 M0 vs n hn hle hn4 A0 hI) [(.ref p0), (.int p1), (.ref mr)] rfl [] rfl (lenOf pd_19 rfl) (hb hby d18_6) (by decide) 0 (by decide) (by decide) (by first | decide | exact Nat.le_refl _) (by decide) (by decide) (fun v T2 L2 X2 hQ2 => ?_)
  obtain ⟨b, rfl, gb, hgb, Nb, Kb, Ab, Eb, Ob⟩ := hQ2
  show Goes p.tables e below (T2.setTop (mkF m 9 #[.val (.ref p0), .val (.int p1)] [(.ref b)])) _
  exact g_retA X2 hx hret hlk rfl rfl (hb hby d18_9) (by decide) (by decide) ⟨b, rfl, gb, hgb, Nb, Kb, Ab, Eb, Ob⟩
theorem d17_0 : decode jdk_38_method_16_code 0 = .ok (.aload_n 0, 1) := by decide +kernel
theorem d17_1 : decode jdk_38_method_16_code 1 = .ok (.getfield 9, 3) := by decide +kernel
theorem d17_4 : decode jdk_38_method_16_code 4 = .ok (.aload_n 0, 1) := by decide +kernel
theorem d17_5 : decode jdk_38_method_16_code 5 = .ok (.getfield 48, 3) := by decide +kernel
theorem d17_8 : decode jdk_38_method_16_code 8 = .ok (.invokestatic 66, 3) := by decide +kernel
theorem d17_11 : decode jdk_38_method_16_code 11 = .ok (.areturn, 1) := by decide +kernel
theorem pd_17 : parseMethodDescriptor "()[Ljava/lang/Object;" = some ⟨[], some (.array (.object "java/lang/Object"))⟩ := by decide +kernel
theorem ef_17 (m : MethodId) (p0 : Addr) : entryFrame m #[(.ref p0)] 1 = mkF m 0 #[.val (.ref p0)] [] := by first | (simp [entryFrame, mkF, argsToLocals, Value.category]; done) | rfl
set_option maxRecDepth 65536 in
set_option maxHeartbeats 40000000 in
theorem rmTA (l : Launch) (Z : State) (a0 : Array Value) (hw : ∀ d ∈ tables_1, d.before a0 Z = true) (p0 : Addr) (h0 : Heap) (n0 : Nat) (Z0 : n0 ≤ h0.size) (mr ed : Addr) (M0 : Mirr Z "[Ljava/lang/Object;" mr) (sz : Int32) (vs : List Value) (n : Nat) (hn : sz.toInt = n) (hle : n ≤ vs.length) (hn4 : n ≤ 4) (f1 : Fld Z h0 p0 "java/util/ArrayList" "elementData" "[Ljava/lang/Object;" (.ref ed)) (f2 : Fld Z h0 p0 "java/util/ArrayList" "size" "I" (.int sz)) (A0 : Ar Z h0 ed (.object "java/lang/Object") vs) (EA : Exa Z h0 ed "[Ljava/lang/Object;") (hI : ∀ v ∈ vs.take n, ∃ x, v = Value.ref x ∧ Ins Z h0 x "java/lang/Object" true) :
    Con l Z (⟨"java/util/ArrayList", "toArray", "()[Ljava/lang/Object;"⟩ : MethodName) jdk_38_method_16_code 1 (some (.array (.object "java/lang/Object"))) [] ({ frames := 3, cells := 1, slots := 4, locals := 68 } : Room) 1 4 #[(.ref p0)] h0 (fun v h L => ∃ b, v = some (.ref b) ∧ n0 ≤ b ∧ h0.size ≤ b ∧ Fr n0 L ∧ Keep h0 h [] ∧ Ar Z h b (.object "java/lang/Object") (vs.take n) ∧ Exa Z h b "[Ljava/lang/Object;" ∧ Ovc Z h b "java/lang/Object") := by
  refine Con.body (plainFor_of_name (by first | (simp [plainName, overriddenIn]; done) | decide +kernel)) ?_
  intro p e s m below meth c T0 hx hby hml hown hnm hZ hret hlk X0 e0
  refine Goes.cast (ef_17 m p0) ?_
  have N0 := Fr.nil n0
  show Goes p.tables e below (T0.setTop (mkF m 0 #[.val (.ref p0)] [])) _
  refine g_aloadN X0 hx (hb hby d17_0) rfl rfl ?_
  show Goes p.tables e below (T0.setTop (mkF m 1 #[.val (.ref p0)] [(.ref p0)])) _
  refine g_getF X0 hx hZ hown e0 (host := "") (Or.inl (hw _ (List.mem_of_getElem? (i := 24) rfl))) Via.refl f1 (hb hby d17_1) (fun T1 X1 e1 => ?_)
  show Goes p.tables e below (T1.setTop (mkF m 4 #[.val (.ref p0)] [(.ref ed)])) _
  refine g_aloadN X1 hx (hb hby d17_4) rfl rfl ?_
  show Goes p.tables e below (T1.setTop (mkF m 5 #[.val (.ref p0)] [(.ref p0), (.ref ed)])) _
  refine g_getF X1 hx hZ hown e1 (host := "") (Or.inl (hw _ (List.mem_of_getElem? (i := 56) rfl))) Via.refl f2 (hb hby d17_5) (fun T2 X2 e2 => ?_)
  show Goes p.tables e below (T2.setTop (mkF m 8 #[.val (.ref p0)] [(.int sz), (.ref ed)])) _
  refine g_callS X2 hx hZ hown (by rw [hml]; rfl) e2 (hw _ (List.mem_of_getElem? (i := 133) rfl)) (hw _ (List.mem_of_getElem? (i := 134) rfl)) (hw _ (List.mem_of_getElem? (i := 135) rfl)) (hw _ (List.mem_of_getElem? (i := 136) rfl)) (rmCp2 l Z a0 hw ed sz h0 n0 Z0 mr M0 EA vs n hn hle hn4 A0 hI) [(.ref ed), (.int sz)] rfl [] rfl (lenOf pd_18 rfl) (hb hby d17_8) (by decide) 0 (by decide) (by decide) (by first | decide | exact Nat.le_refl _) (by decide) (by decide) (fun v T3 L3 X3 hQ3 => ?_)
  obtain ⟨b, rfl, gb, hgb, Nb, Kb, Ab, Eb, Ob⟩ := hQ3
  show Goes p.tables e below (T3.setTop (mkF m 11 #[.val (.ref p0)] [(.ref b)])) _
  exact g_retA X3 hx hret hlk rfl rfl (hb hby d17_11) (by decide) (by decide) ⟨b, rfl, gb, hgb, Nb, Kb, Ab, Eb, Ob⟩
theorem d9_0 : decode jdk_40_method_36_code 0 = .ok (.getstatic 90, 3) := by decide +kernel
theorem d9_3 : decode jdk_40_method_36_code 3 = .ok (.areturn, 1) := by decide +kernel
theorem pd_9 : parseMethodDescriptor "()Ljava/util/List;" = some ⟨[], some (.object "java/util/List")⟩ := by decide +kernel
theorem ef_9 (m : MethodId)  : entryFrame m #[] 0 = mkF m 0 #[] [] := by first | (simp [entryFrame, mkF, argsToLocals, Value.category]; done) | rfl
set_option maxRecDepth 65536 in
set_option maxHeartbeats 40000000 in
theorem rmOf0 (l : Launch) (Z : State) (a0 : Array Value) (hw : ∀ d ∈ tables_1, d.before a0 Z = true)  (h0 : Heap) (n0 : Nat) (Z0 : n0 ≤ h0.size) (el : Addr) (SE : Sta Z h0 "java/util/ImmutableCollections" "EMPTY_LIST" "Ljava/util/ImmutableCollections$ListN;" (.ref el)) :
    Con l Z (⟨"java/util/List", "of", "()Ljava/util/List;"⟩ : MethodName) jdk_40_method_36_code 0 (some (.object "java/util/List")) [] ({ frames := 0, cells := 0, slots := 0, locals := 0 } : Room) 0 0 #[] h0 (fun v h L => v = some (.ref el) ∧ h = h0 ∧ L = []) := by
  refine Con.body (plainFor_of_name (by first | (simp [plainName, overriddenIn]; done) | decide +kernel)) ?_
  intro p e s m below meth c T0 hx hby hml hown hnm hZ hret hlk X0 e0
  refine Goes.cast (ef_9 m ) ?_
  have N0 := Fr.nil n0
  show Goes p.tables e below (T0.setTop (mkF m 0 #[] [])) _
  refine g_getS X0 hx hZ hown e0 (host := "") (Or.inl (hw _ (List.mem_of_getElem? (i := 61) rfl))) SE (hb hby d9_0) (fun T1 X1 e1 => ?_)
  show Goes p.tables e below (T1.setTop (mkF m 3 #[] [(.ref el)])) _
  exact g_retA X1 hx hret hlk rfl rfl (hb hby d9_3) (by decide) (by decide) ⟨rfl, e1, rfl⟩
theorem d23_0 : decode jdk_31_method_10_code 0 = .ok (.aload_n 0, 1) := by decide +kernel
theorem d23_1 : decode jdk_31_method_10_code 1 = .ok (.ifnonnull 11, 3) := by decide +kernel
theorem d23_4 : decode jdk_31_method_10_code 4 = .ok (.new 84, 3) := by decide +kernel
theorem d23_7 : decode jdk_31_method_10_code 7 = .ok (.dup, 1) := by decide +kernel
theorem d23_8 : decode jdk_31_method_10_code 8 = .ok (.invokespecial 86, 3) := by decide +kernel
theorem d23_11 : decode jdk_31_method_10_code 11 = .ok (.athrow, 1) := by decide +kernel
theorem d23_12 : decode jdk_31_method_10_code 12 = .ok (.aload_n 0, 1) := by decide +kernel
theorem d23_13 : decode jdk_31_method_10_code 13 = .ok (.areturn, 1) := by decide +kernel
theorem pd_23 : parseMethodDescriptor "(Ljava/lang/Object;)Ljava/lang/Object;" = some ⟨[(.object "java/lang/Object")], some (.object "java/lang/Object")⟩ := by decide +kernel
theorem ef_23 (m : MethodId) (p0 : Addr) : entryFrame m #[(.ref p0)] 1 = mkF m 0 #[.val (.ref p0)] [] := by first | (simp [entryFrame, mkF, argsToLocals, Value.category]; done) | rfl
set_option maxRecDepth 65536 in
set_option maxHeartbeats 40000000 in
theorem rmRNN (l : Launch) (Z : State) (a0 : Array Value) (hw : ∀ d ∈ tables_1, d.before a0 Z = true) (p0 : Addr) (h0 : Heap) (n0 : Nat) (Z0 : n0 ≤ h0.size)  :
    Con l Z (⟨"java/util/Objects", "requireNonNull", "(Ljava/lang/Object;)Ljava/lang/Object;"⟩ : MethodName) jdk_31_method_10_code 1 (some (.object "java/lang/Object")) [] ({ frames := 0, cells := 0, slots := 0, locals := 0 } : Room) 0 0 #[(.ref p0)] h0 (fun v h L => v = some (.ref p0) ∧ h = h0 ∧ L = []) := by
  refine Con.body (plainFor_of_name (by first | (simp [plainName, overriddenIn]; done) | decide +kernel)) ?_
  intro p e s m below meth c T0 hx hby hml hown hnm hZ hret hlk X0 e0
  refine Goes.cast (ef_23 m p0) ?_
  have N0 := Fr.nil n0
  show Goes p.tables e below (T0.setTop (mkF m 0 #[.val (.ref p0)] [])) _
  refine g_aloadN X0 hx (hb hby d23_0) rfl rfl ?_
  show Goes p.tables e below (T0.setTop (mkF m 1 #[.val (.ref p0)] [(.ref p0)])) _
  refine g_ifnonnull_ref X0 hx (hb hby d23_1) (by decide) (pc' := 12) (by decide) ?_
  show Goes p.tables e below (T0.setTop (mkF m 12 #[.val (.ref p0)] [])) _
  refine g_aloadN X0 hx (hb hby d23_12) rfl rfl ?_
  show Goes p.tables e below (T0.setTop (mkF m 13 #[.val (.ref p0)] [(.ref p0)])) _
  exact g_retA X0 hx hret hlk rfl rfl (hb hby d23_13) (by decide) (by decide) ⟨rfl, e0, rfl⟩
theorem d26_0 : decode jdk_47_method_1_code 0 = .ok (.aload_n 0, 1) := by decide +kernel
theorem d26_1 : decode jdk_47_method_1_code 1 = .ok (.invokespecial 1, 3) := by decide +kernel
theorem d26_4 : decode jdk_47_method_1_code 4 = .ok (.return_, 1) := by decide +kernel
theorem pd_26 : parseMethodDescriptor "()V" = some ⟨[], none⟩ := by decide +kernel
theorem ef_26 (m : MethodId) (p0 : Addr) : entryFrame m #[(.ref p0)] 1 = mkF m 0 #[.val (.ref p0)] [] := by first | (simp [entryFrame, mkF, argsToLocals, Value.category]; done) | rfl
set_option maxRecDepth 65536 in
set_option maxHeartbeats 40000000 in
theorem rmAIC (l : Launch) (Z : State) (a0 : Array Value) (hw : ∀ d ∈ tables_1, d.before a0 Z = true) (p0 : Addr) (h0 : Heap) (n0 : Nat) (Z0 : n0 ≤ h0.size)  :
    Con l Z (⟨"java/util/ImmutableCollections$AbstractImmutableCollection", "<init>", "()V"⟩ : MethodName) jdk_47_method_1_code 1 none [] ({ frames := 2, cells := 0, slots := 0, locals := 24 } : Room) 0 0 #[(.ref p0)] h0 (fun v h L => v = none ∧ h = h0 ∧ L = []) := by
  refine Con.body (plainFor_of_name (by first | (simp [plainName, overriddenIn]; done) | decide +kernel)) ?_
  intro p e s m below meth c T0 hx hby hml hown hnm hZ hret hlk X0 e0
  refine Goes.cast (ef_26 m p0) ?_
  have N0 := Fr.nil n0
  show Goes p.tables e below (T0.setTop (mkF m 0 #[.val (.ref p0)] [])) _
  refine g_aloadN X0 hx (hb hby d26_0) rfl rfl ?_
  show Goes p.tables e below (T0.setTop (mkF m 1 #[.val (.ref p0)] [(.ref p0)])) _
  refine g_callI X0 hx hZ hown (by rw [hml]; rfl) e0 rfl (hw _ (List.mem_of_getElem? (i := 184) rfl)) (hw _ (List.mem_of_getElem? (i := 13) rfl)) (hw _ (List.mem_of_getElem? (i := 16) rfl)) (hw _ (List.mem_of_getElem? (i := 17) rfl)) (rmABC l Z a0 hw p0 h0 n0 Z0) p0 [] rfl [] rfl (lenOf pd_3 rfl) (hb hby d26_1) (by decide) 0 (by decide) (by decide) (by first | decide | exact Nat.le_refl _) (by decide) (by decide) (fun v T1 L1 X1 hQ1 => ?_)
  obtain ⟨rfl, e1, rfl⟩ := hQ1
  have N2 := Fr.app N0 (Fr.nil n0)
  show Goes p.tables e below (T1.setTop (mkF m 4 #[.val (.ref p0)] [])) _
  exact g_ret0 X1 hx hret hlk (hb hby d26_4) (by decide) (by decide) ⟨rfl, e1, rfl⟩
theorem d25_0 : decode jdk_46_method_1_code 0 = .ok (.aload_n 0, 1) := by decide +kernel
theorem d25_1 : decode jdk_46_method_1_code 1 = .ok (.invokespecial 1, 3) := by decide +kernel
theorem d25_4 : decode jdk_46_method_1_code 4 = .ok (.return_, 1) := by decide +kernel
theorem pd_25 : parseMethodDescriptor "()V" = some ⟨[], none⟩ := by decide +kernel
theorem ef_25 (m : MethodId) (p0 : Addr) : entryFrame m #[(.ref p0)] 1 = mkF m 0 #[.val (.ref p0)] [] := by first | (simp [entryFrame, mkF, argsToLocals, Value.category]; done) | rfl
set_option maxRecDepth 65536 in
set_option maxHeartbeats 40000000 in
theorem rmAIL (l : Launch) (Z : State) (a0 : Array Value) (hw : ∀ d ∈ tables_1, d.before a0 Z = true) (p0 : Addr) (h0 : Heap) (n0 : Nat) (Z0 : n0 ≤ h0.size)  :
    Con l Z (⟨"java/util/ImmutableCollections$AbstractImmutableList", "<init>", "()V"⟩ : MethodName) jdk_46_method_1_code 1 none [] ({ frames := 3, cells := 0, slots := 0, locals := 36 } : Room) 0 0 #[(.ref p0)] h0 (fun v h L => v = none ∧ h = h0 ∧ L = []) := by
  refine Con.body (plainFor_of_name (by first | (simp [plainName, overriddenIn]; done) | decide +kernel)) ?_
  intro p e s m below meth c T0 hx hby hml hown hnm hZ hret hlk X0 e0
  refine Goes.cast (ef_25 m p0) ?_
  have N0 := Fr.nil n0
  show Goes p.tables e below (T0.setTop (mkF m 0 #[.val (.ref p0)] [])) _
  refine g_aloadN X0 hx (hb hby d25_0) rfl rfl ?_
  show Goes p.tables e below (T0.setTop (mkF m 1 #[.val (.ref p0)] [(.ref p0)])) _
  refine g_callI X0 hx hZ hown (by rw [hml]; rfl) e0 rfl (hw _ (List.mem_of_getElem? (i := 178) rfl)) (hw _ (List.mem_of_getElem? (i := 179) rfl)) (hw _ (List.mem_of_getElem? (i := 182) rfl)) (hw _ (List.mem_of_getElem? (i := 183) rfl)) (rmAIC l Z a0 hw p0 h0 n0 Z0) p0 [] rfl [] rfl (lenOf pd_26 rfl) (hb hby d25_1) (by decide) 0 (by decide) (by decide) (by first | decide | exact Nat.le_refl _) (by decide) (by decide) (fun v T1 L1 X1 hQ1 => ?_)
  obtain ⟨rfl, e1, rfl⟩ := hQ1
  have N2 := Fr.app N0 (Fr.nil n0)
  show Goes p.tables e below (T1.setTop (mkF m 4 #[.val (.ref p0)] [])) _
  exact g_ret0 X1 hx hret hlk (hb hby d25_4) (by decide) (by decide) ⟨rfl, e1, rfl⟩
theorem d32_0 : decode jdk_44_method_1_code 0 = .ok (.aload_n 0, 1) := by decide +kernel
theorem d32_1 : decode jdk_44_method_1_code 1 = .ok (.invokespecial 1, 3) := by decide +kernel
theorem d32_4 : decode jdk_44_method_1_code 4 = .ok (.aload_n 0, 1) := by decide +kernel
theorem d32_5 : decode jdk_44_method_1_code 5 = .ok (.aload_n 1, 1) := by decide +kernel
theorem d32_6 : decode jdk_44_method_1_code 6 = .ok (.invokestatic 7, 3) := by decide +kernel
theorem d32_9 : decode jdk_44_method_1_code 9 = .ok (.putfield 13, 3) := by decide +kernel
theorem d32_12 : decode jdk_44_method_1_code 12 = .ok (.aload_n 0, 1) := by decide +kernel
theorem d32_13 : decode jdk_44_method_1_code 13 = .ok (.getstatic 19, 3) := by decide +kernel
theorem d32_16 : decode jdk_44_method_1_code 16 = .ok (.putfield 24, 3) := by decide +kernel
theorem d32_19 : decode jdk_44_method_1_code 19 = .ok (.return_, 1) := by decide +kernel
theorem pd_32 : parseMethodDescriptor "(Ljava/lang/Object;)V" = some ⟨[(.object "java/lang/Object")], none⟩ := by decide +kernel
theorem ef_32 (m : MethodId) (p0 : Addr) (p1 : Addr) : entryFrame m #[(.ref p0), (.ref p1)] 2 = mkF m 0 #[.val (.ref p0), .val (.ref p1)] [] := by first | (simp [entryFrame, mkF, argsToLocals, Value.category]; done) | rfl
set_option maxRecDepth 65536 in
set_option maxHeartbeats 40000000 in
theorem rmL1 (l : Launch) (Z : State) (a0 : Array Value) (hw : ∀ d ∈ tables_1, d.before a0 Z = true) (p0 : Addr) (p1 : Addr) (h0 : Heap) (n0 : Nat) (Z0 : n0 ≤ h0.size) (f1 : Fld Z h0 p0 "java/util/ImmutableCollections$List12" "e0" "Ljava/lang/Object;" .null) (f2 : Fld Z h0 p0 "java/util/ImmutableCollections$List12" "e1" "Ljava/lang/Object;" .null) (E0 : Exa Z h0 p0 "java/util/ImmutableCollections$List12") (ga : n0 ≤ p0) (em : Addr) (SE : Sta Z h0 "java/util/ImmutableCollections" "EMPTY" "Ljava/lang/Object;" (.ref em)) :
    Con l Z (⟨"java/util/ImmutableCollections$List12", "<init>", "(Ljava/lang/Object;)V"⟩ : MethodName) jdk_44_method_1_code 2 none [] ({ frames := 4, cells := 0, slots := 0, locals := 48 } : Room) 0 0 #[(.ref p0), (.ref p1)] h0 (fun v h L => v = none ∧ Fr n0 L ∧ Keep h0 h [p0]) := by
  refine Con.body (plainFor_of_name (by first | (simp [plainName, overriddenIn]; done) | decide +kernel)) ?_
  intro p e s m below meth c T0 hx hby hml hown hnm hZ hret hlk X0 e0
  refine Goes.cast (ef_32 m p0 p1) ?_
  have N0 := Fr.nil n0
  have K0 : Keep h0 h0 [p0] := Keep.refl _ _
  show Goes p.tables e below (T0.setTop (mkF m 0 #[.val (.ref p0), .val (.ref p1)] [])) _
  refine g_aloadN X0 hx (hb hby d32_0) rfl rfl ?_
  show Goes p.tables e below (T0.setTop (mkF m 1 #[.val (.ref p0), .val (.ref p1)] [(.ref p0)])) _
  refine g_callI X0 hx hZ hown (by rw [hml]; rfl) e0 rfl (hw _ (List.mem_of_getElem? (i := 211) rfl)) (hw _ (List.mem_of_getElem? (i := 173) rfl)) (hw _ (List.mem_of_getElem? (i := 176) rfl)) (hw _ (List.mem_of_getElem? (i := 177) rfl)) (rmAIL l Z a0 hw p0 h0 n0 Z0) p0 [] rfl [] rfl (lenOf pd_25 rfl) (hb hby d32_1) (by decide) 0 (by decide) (by decide) (by first | decide | exact Nat.le_refl _) (by decide) (by decide) (fun v T1 L1 X1 hQ1 => ?_)
  obtain ⟨rfl, e1, rfl⟩ := hQ1
  have N2 := Fr.app N0 (Fr.nil n0)
  show Goes p.tables e below (T1.setTop (mkF m 4 #[.val (.ref p0), .val (.ref p1)] [])) _
  refine g_aloadN X1 hx (hb hby d32_4) rfl rfl ?_
  show Goes p.tables e below (T1.setTop (mkF m 5 #[.val (.ref p0), .val (.ref p1)] [(.ref p0)])) _
  refine g_aloadN X1 hx (hb hby d32_5) rfl rfl ?_
  show Goes p.tables e below (T1.setTop (mkF m 6 #[.val (.ref p0), .val (.ref p1)] [(.ref p1), (.ref p0)])) _
  refine g_callS X1 hx hZ hown (by rw [hml]; rfl) e1 (hw _ (List.mem_of_getElem? (i := 215) rfl)) (hw _ (List.mem_of_getElem? (i := 163) rfl)) (hw _ (List.mem_of_getElem? (i := 164) rfl)) (hw _ (List.mem_of_getElem? (i := 165) rfl)) (rmRNN l Z a0 hw p1 h0 n0 Z0) [(.ref p1)] rfl [(.ref p0)] rfl (lenOf pd_23 rfl) (hb hby d32_6) (by decide) 1 (by decide) (by decide) (by first | decide | exact Nat.le_refl _) (by decide) (by decide) (fun v T3 L3 X3 hQ3 => ?_)
  obtain ⟨rfl, e3, rfl⟩ := hQ3
  have N4 := Fr.app N2 (Fr.nil n0)
  show Goes p.tables e below (T3.setTop (mkF m 9 #[.val (.ref p0), .val (.ref p1)] [(.ref p1), (.ref p0)])) _
  refine g_putF X3 hx hZ hown e3 (hw _ (List.mem_of_getElem? (i := 216) rfl)) Via.refl (v' := (.ref p1)) f1 E0 (Or.inr ⟨(hw _ (List.mem_of_getElem? (i := 217) rfl)), rfl, hnm⟩) (hw _ (List.mem_of_getElem? (i := 205) rfl)) (ty := (.object "java/lang/Object")) (by decide) rfl rfl (hb hby d32_9) (fun T5 h5 X5 e5 W5 => ?_)
  have fx6 : Fld Z h5 p0 "java/util/ImmutableCollections$List12" "e1" "Ljava/lang/Object;" .null := Fld.other W5 f2 (Or.inr (slot_ne (t := (.object "java/lang/Object")) (t' := (.object "java/lang/Object")) (Or.inr (hw _ (List.mem_of_getElem? (i := 219) rfl))) (Or.inr (hw _ (List.mem_of_getElem? (i := 217) rfl))) (by decide) (by decide) (by decide)))
  have fx7 : Exa Z h5 p0 "java/util/ImmutableCollections$List12" := Exa.wr W5 E0
  have fx8 : Sta Z h5 "java/util/ImmutableCollections" "EMPTY" "Ljava/lang/Object;" (.ref em) := Sta.wr W5 SE
  have fx9 : Fld Z h5 p0 "java/util/ImmutableCollections$List12" "e0" "Ljava/lang/Object;" (.ref p1) := Fld.same W5 f1
  have N10 := Fr.snoc X5 N4 ga
  have Z11 : n0 ≤ h5.size := by rw [W5.size]; exact Z0
  have K12 : Keep h0 h5 [p0] := Keep.wr K0 W5 (Or.inl (List.mem_of_getElem? (i := 0) rfl))
  show Goes p.tables e below (T5.setTop (mkF m 12 #[.val (.ref p0), .val (.ref p1)] [])) _
  refine g_aloadN X5 hx (hb hby d32_12) rfl rfl ?_
  show Goes p.tables e below (T5.setTop (mkF m 13 #[.val (.ref p0), .val (.ref p1)] [(.ref p0)])) _
  refine g_getS X5 hx hZ hown e5 (host := "java/util/ImmutableCollections") (Or.inr (hw _ (List.mem_of_getElem? (i := 228) rfl))) fx8 (hb hby d32_13) (fun T13 X13 e13 => ?_)
  show Goes p.tables e below (T13.setTop (mkF m 16 #[.val (.ref p0), .val (.ref p1)] [(.ref em), (.ref p0)])) _
  refine g_putF X13 hx hZ hown e13 (hw _ (List.mem_of_getElem? (i := 218) rfl)) Via.refl (v' := (.ref em)) fx6 fx7 (Or.inr ⟨(hw _ (List.mem_of_getElem? (i := 219) rfl)), rfl, hnm⟩) (hw _ (List.mem_of_getElem? (i := 205) rfl)) (ty := (.object "java/lang/Object")) (by decide) rfl rfl (hb hby d32_16) (fun T14 h14 X14 e14 W14 => ?_)
  have fx15 : Exa Z h14 p0 "java/util/ImmutableCollections$List12" := Exa.wr W14 fx7
  have fx16 : Sta Z h14 "java/util/ImmutableCollections" "EMPTY" "Ljava/lang/Object;" (.ref em) := Sta.wr W14 fx8
  have fx17 : Fld Z h14 p0 "java/util/ImmutableCollections$List12" "e0" "Ljava/lang/Object;" (.ref p1) := Fld.other W14 fx9 (Or.inr (slot_ne (t := (.object "java/lang/Object")) (t' := (.object "java/lang/Object")) (Or.inr (hw _ (List.mem_of_getElem? (i := 217) rfl))) (Or.inr (hw _ (List.mem_of_getElem? (i := 219) rfl))) (by decide) (by decide) (by decide)))
  have fx18 : Fld Z h14 p0 "java/util/ImmutableCollections$List12" "e1" "Ljava/lang/Object;" (.ref em) := Fld.same W14 fx6
  have N19 := Fr.snoc X14 N10 ga
  have Z20 : n0 ≤ h14.size := by rw [W14.size]; exact Z11
  have K21 : Keep h0 h14 [p0] := Keep.wr K12 W14 (Or.inl (List.mem_of_getElem? (i := 0) rfl))
  show Goes p.tables e below (T14.setTop (mkF m 19 #[.val (.ref p0), .val (.ref p1)] [])) _
  exact g_ret0 X14 hx hret hlk (hb hby d32_19) (by decide) (by decide) (by rw [e14]; exact ⟨rfl, N19, K21⟩)
theorem d30_0 : decode jdk_44_method_2_code 0 = .ok (.aload_n 0, 1) := by decide +kernel
theorem d30_1 : decode jdk_44_method_2_code 1 = .ok (.invokespecial 1, 3) := by decide +kernel
theorem d30_4 : decode jdk_44_method_2_code 4 = .ok (.aload_n 0, 1) := by decide +kernel
theorem d30_5 : decode jdk_44_method_2_code 5 = .ok (.aload_n 1, 1) := by decide +kernel
theorem d30_6 : decode jdk_44_method_2_code 6 = .ok (.invokestatic 7, 3) := by decide +kernel
theorem d30_9 : decode jdk_44_method_2_code 9 = .ok (.putfield 13, 3) := by decide +kernel
theorem d30_12 : decode jdk_44_method_2_code 12 = .ok (.aload_n 0, 1) := by decide +kernel
theorem d30_13 : decode jdk_44_method_2_code 13 = .ok (.aload_n 2, 1) := by decide +kernel
theorem d30_14 : decode jdk_44_method_2_code 14 = .ok (.invokestatic 7, 3) := by decide +kernel
theorem d30_17 : decode jdk_44_method_2_code 17 = .ok (.putfield 24, 3) := by decide +kernel
theorem d30_20 : decode jdk_44_method_2_code 20 = .ok (.return_, 1) := by decide +kernel
theorem pd_30 : parseMethodDescriptor "(Ljava/lang/Object;Ljava/lang/Object;)V" = some ⟨[(.object "java/lang/Object"), (.object "java/lang/Object")], none⟩ := by decide +kernel
theorem ef_30 (m : MethodId) (p0 : Addr) (p1 : Addr) (p2 : Addr) : entryFrame m #[(.ref p0), (.ref p1), (.ref p2)] 3 = mkF m 0 #[.val (.ref p0), .val (.ref p1), .val (.ref p2)] [] := by first | (simp [entryFrame, mkF, argsToLocals, Value.category]; done) | rfl
set_option maxRecDepth 65536 in
set_option maxHeartbeats 40000000 in
theorem rmL2 (l : Launch) (Z : State) (a0 : Array Value) (hw : ∀ d ∈ tables_1, d.before a0 Z = true) (p0 : Addr) (p1 : Addr) (p2 : Addr) (h0 : Heap) (n0 : Nat) (Z0 : n0 ≤ h0.size) (f1 : Fld Z h0 p0 "java/util/ImmutableCollections$List12" "e0" "Ljava/lang/Object;" .null) (f2 : Fld Z h0 p0 "java/util/ImmutableCollections$List12" "e1" "Ljava/lang/Object;" .null) (E0 : Exa Z h0 p0 "java/util/ImmutableCollections$List12") (ga : n0 ≤ p0) :
    Con l Z (⟨"java/util/ImmutableCollections$List12", "<init>", "(Ljava/lang/Object;Ljava/lang/Object;)V"⟩ : MethodName) jdk_44_method_2_code 3 none [] ({ frames := 4, cells := 0, slots := 0, locals := 48 } : Room) 0 0 #[(.ref p0), (.ref p1), (.ref p2)] h0 (fun v h L => v = none ∧ Fr n0 L ∧ Keep h0 h [p0]) := by
  refine Con.body (plainFor_of_name (by first | (simp [plainName, overriddenIn]; done) | decide +kernel)) ?_
  intro p e s m below meth c T0 hx hby hml hown hnm hZ hret hlk X0 e0
  refine Goes.cast (ef_30 m p0 p1 p2) ?_
  have N0 := Fr.nil n0
  have K0 : Keep h0 h0 [p0] := Keep.refl _ _
  show Goes p.tables e below (T0.setTop (mkF m 0 #[.val (.ref p0), .val (.ref p1), .val (.ref p2)] [])) _
  refine g_aloadN X0 hx (hb hby d30_0) rfl rfl ?_
  show Goes p.tables e below (T0.setTop (mkF m 1 #[.val (.ref p0), .val (.ref p1), .val (.ref p2)] [(.ref p0)])) _
  refine g_callI X0 hx hZ hown (by rw [hml]; rfl) e0 rfl (hw _ (List.mem_of_getElem? (i := 211) rfl)) (hw _ (List.mem_of_getElem? (i := 173) rfl)) (hw _ (List.mem_of_getElem? (i := 176) rfl)) (hw _ (List.mem_of_getElem? (i := 177) rfl)) (rmAIL l Z a0 hw p0 h0 n0 Z0) p0 [] rfl [] rfl (lenOf pd_25 rfl) (hb hby d30_1) (by decide) 0 (by decide) (by decide) (by first | decide | exact Nat.le_refl _) (by decide) (by decide) (fun v T1 L1 X1 hQ1 => ?_)
  obtain ⟨rfl, e1, rfl⟩ := hQ1
  have N2 := Fr.app N0 (Fr.nil n0)
  show Goes p.tables e below (T1.setTop (mkF m 4 #[.val (.ref p0), .val (.ref p1), .val (.ref p2)] [])) _
  refine g_aloadN X1 hx (hb hby d30_4) rfl rfl ?_
  show Goes p.tables e below (T1.setTop (mkF m 5 #[.val (.ref p0), .val (.ref p1), .val (.ref p2)] [(.ref p0)])) _
  refine g_aloadN X1 hx (hb hby d30_5) rfl rfl ?_
  show Goes p.tables e below (T1.setTop (mkF m 6 #[.val (.ref p0), .val (.ref p1), .val (.ref p2)] [(.ref p1), (.ref p0)])) _
  refine g_callS X1 hx hZ hown (by rw [hml]; rfl) e1 (hw _ (List.mem_of_getElem? (i := 215) rfl)) (hw _ (List.mem_of_getElem? (i := 163) rfl)) (hw _ (List.mem_of_getElem? (i := 164) rfl)) (hw _ (List.mem_of_getElem? (i := 165) rfl)) (rmRNN l Z a0 hw p1 h0 n0 Z0) [(.ref p1)] rfl [(.ref p0)] rfl (lenOf pd_23 rfl) (hb hby d30_6) (by decide) 1 (by decide) (by decide) (by first | decide | exact Nat.le_refl _) (by decide) (by decide) (fun v T3 L3 X3 hQ3 => ?_)
  obtain ⟨rfl, e3, rfl⟩ := hQ3
  have N4 := Fr.app N2 (Fr.nil n0)
  show Goes p.tables e below (T3.setTop (mkF m 9 #[.val (.ref p0), .val (.ref p1), .val (.ref p2)] [(.ref p1), (.ref p0)])) _
  refine g_putF X3 hx hZ hown e3 (hw _ (List.mem_of_getElem? (i := 216) rfl)) Via.refl (v' := (.ref p1)) f1 E0 (Or.inr ⟨(hw _ (List.mem_of_getElem? (i := 217) rfl)), rfl, hnm⟩) (hw _ (List.mem_of_getElem? (i := 205) rfl)) (ty := (.object "java/lang/Object")) (by decide) rfl rfl (hb hby d30_9) (fun T5 h5 X5 e5 W5 => ?_)
  have fx6 : Fld Z h5 p0 "java/util/ImmutableCollections$List12" "e1" "Ljava/lang/Object;" .null := Fld.other W5 f2 (Or.inr (slot_ne (t := (.object "java/lang/Object")) (t' := (.object "java/lang/Object")) (Or.inr (hw _ (List.mem_of_getElem? (i := 219) rfl))) (Or.inr (hw _ (List.mem_of_getElem? (i := 217) rfl))) (by decide) (by decide) (by decide)))
  have fx7 : Exa Z h5 p0 "java/util/ImmutableCollections$List12" := Exa.wr W5 E0
  have fx8 : Fld Z h5 p0 "java/util/ImmutableCollections$List12" "e0" "Ljava/lang/Object;" (.ref p1) := Fld.same W5 f1
  have N9 := Fr.snoc X5 N4 ga
  have Z10 : n0 ≤ h5.size := by rw [W5.size]; exact Z0
  have K11 : Keep h0 h5 [p0] := Keep.wr K0 W5 (Or.inl (List.mem_of_getElem? (i := 0) rfl))
  show Goes p.tables e below (T5.setTop (mkF m 12 #[.val (.ref p0), .val (.ref p1), .val (.ref p2)] [])) _
  refine g_aloadN X5 hx (hb hby d30_12) rfl rfl ?_
  show Goes p.tables e below (T5.setTop (mkF m 13 #[.val (.ref p0), .val (.ref p1), .val (.ref p2)] [(.ref p0)])) _
  refine g_aloadN X5 hx (hb hby d30_13) rfl rfl ?_
  show Goes p.tables e below (T5.setTop (mkF m 14 #[.val (.ref p0), .val (.ref p1), .val (.ref p2)] [(.ref p2), (.ref p0)])) _
  refine g_callS X5 hx hZ hown (by rw [hml]; rfl) e5 (hw _ (List.mem_of_getElem? (i := 215) rfl)) (hw _ (List.mem_of_getElem? (i := 163) rfl)) (hw _ (List.mem_of_getElem? (i := 164) rfl)) (hw _ (List.mem_of_getElem? (i := 165) rfl)) (rmRNN l Z a0 hw p2 h5 n0 Z10) [(.ref p2)] rfl [(.ref p0)] rfl (lenOf pd_23 rfl) (hb hby d30_14) (by decide) 1 (by decide) (by decide) (by first | decide | exact Nat.le_refl _) (by decide) (by decide) (fun v T12 L12 X12 hQ12 => ?_)
  obtain ⟨rfl, e12, rfl⟩ := hQ12
  have N13 := Fr.app N9 (Fr.nil n0)
  show Goes p.tables e below (T12.setTop (mkF m 17 #[.val (.ref p0), .val (.ref p1), .val (.ref p2)] [(.ref p2), (.ref p0)])) _
  refine g_putF X12 hx hZ hown e12 (hw _ (List.mem_of_getElem? (i := 218) rfl)) Via.refl (v' := (.ref p2)) fx6 fx7 (Or.inr ⟨(hw _ (List.mem_of_getElem? (i := 219) rfl)), rfl, hnm⟩) (hw _ (List.mem_of_getElem? (i := 205) rfl)) (ty := (.object "java/lang/Object")) (by decide) rfl rfl (hb hby d30_17) (fun T14 h14 X14 e14 W14 => ?_)
  have fx15 : Exa Z h14 p0 "java/util/ImmutableCollections$List12" := Exa.wr W14 fx7
  have fx16 : Fld Z h14 p0 "java/util/ImmutableCollections$List12" "e0" "Ljava/lang/Object;" (.ref p1) := Fld.other W14 fx8 (Or.inr (slot_ne (t := (.object "java/lang/Object")) (t' := (.object "java/lang/Object")) (Or.inr (hw _ (List.mem_of_getElem? (i := 217) rfl))) (Or.inr (hw _ (List.mem_of_getElem? (i := 219) rfl))) (by decide) (by decide) (by decide)))
  have fx17 : Fld Z h14 p0 "java/util/ImmutableCollections$List12" "e1" "Ljava/lang/Object;" (.ref p2) := Fld.same W14 fx6
  have N18 := Fr.snoc X14 N13 ga
  have Z19 : n0 ≤ h14.size := by rw [W14.size]; exact Z10
  have K20 : Keep h0 h14 [p0] := Keep.wr K11 W14 (Or.inl (List.mem_of_getElem? (i := 0) rfl))
  show Goes p.tables e below (T14.setTop (mkF m 20 #[.val (.ref p0), .val (.ref p1), .val (.ref p2)] [])) _
  exact g_ret0 X14 hx hret hlk (hb hby d30_20) (by decide) (by decide) (by rw [e14]; exact ⟨rfl, N18, K20⟩)
theorem d24_0 : decode jdk_45_method_1_code 0 = .ok (.aload_n 0, 1) := by decide +kernel
theorem d24_1 : decode jdk_45_method_1_code 1 = .ok (.invokespecial 1, 3) := by decide +kernel
theorem d24_4 : decode jdk_45_method_1_code 4 = .ok (.aload_n 0, 1) := by decide +kernel
theorem d24_5 : decode jdk_45_method_1_code 5 = .ok (.aload_n 1, 1) := by decide +kernel
theorem d24_6 : decode jdk_45_method_1_code 6 = .ok (.putfield 7, 3) := by decide +kernel
theorem d24_9 : decode jdk_45_method_1_code 9 = .ok (.aload_n 0, 1) := by decide +kernel
theorem d24_10 : decode jdk_45_method_1_code 10 = .ok (.iload_n 2, 1) := by decide +kernel
theorem d24_11 : decode jdk_45_method_1_code 11 = .ok (.putfield 13, 3) := by decide +kernel
theorem d24_14 : decode jdk_45_method_1_code 14 = .ok (.return_, 1) := by decide +kernel
theorem pd_24 : parseMethodDescriptor "([Ljava/lang/Object;Z)V" = some ⟨[(.array (.object "java/lang/Object")), .boolean], none⟩ := by decide +kernel
theorem ef_24 (m : MethodId) (p0 : Addr) (p1 : Addr) (p2 : Int32) : entryFrame m #[(.ref p0), (.ref p1), (.int p2)] 3 = mkF m 0 #[.val (.ref p0), .val (.ref p1), .val (.int p2)] [] := by first | (simp [entryFrame, mkF, argsToLocals, Value.category]; done) | rfl
set_option maxRecDepth 65536 in
set_option maxHeartbeats 40000000 in
theorem rmLN (l : Launch) (Z : State) (a0 : Array Value) (hw : ∀ d ∈ tables_1, d.before a0 Z = true) (p0 : Addr) (p1 : Addr) (p2 : Int32) (h0 : Heap) (n0 : Nat) (Z0 : n0 ≤ h0.size) (f1 : Fld Z h0 p0 "java/util/ImmutableCollections$ListN" "elements" "[Ljava/lang/Object;" .null) (f2 : Fld Z h0 p0 "java/util/ImmutableCollections$ListN" "allowNulls" "Z" (.int (0 : Int32))) (E0 : Exa Z h0 p0 "java/util/ImmutableCollections$ListN") (ga : n0 ≤ p0) :
    Con l Z (⟨"java/util/ImmutableCollections$ListN", "<init>", "([Ljava/lang/Object;Z)V"⟩ : MethodName) jdk_45_method_1_code 3 none [] ({ frames := 4, cells := 0, slots := 0, locals := 48 } : Room) 0 0 #[(.ref p0), (.ref p1), (.int p2)] h0 (fun v h L => v = none ∧ Fr n0 L ∧ Keep h0 h [p0]) := by
  refine Con.body (plainFor_of_name (by first | (simp [plainName, overriddenIn]; done) | decide +kernel)) ?_
  intro p e s m below meth c T0 hx hby hml hown hnm hZ hret hlk X0 e0
  refine Goes.cast (ef_24 m p0 p1 p2) ?_
  have N0 := Fr.nil n0
  have K0 : Keep h0 h0 [p0] := Keep.refl _ _
  show Goes p.tables e below (T0.setTop (mkF m 0 #[.val (.ref p0), .val (.ref p1), .val (.int p2)] [])) _
  refine g_aloadN X0 hx (hb hby d24_0) rfl rfl ?_
  show Goes p.tables e below (T0.setTop (mkF m 1 #[.val (.ref p0), .val (.ref p1), .val (.int p2)] [(.ref p0)])) _
  refine g_callI X0 hx hZ hown (by rw [hml]; rfl) e0 rfl (hw _ (List.mem_of_getElem? (i := 172) rfl)) (hw _ (List.mem_of_getElem? (i := 173) rfl)) (hw _ (List.mem_of_getElem? (i := 176) rfl)) (hw _ (List.mem_of_getElem? (i := 177) rfl)) (rmAIL l Z a0 hw p0 h0 n0 Z0) p0 [] rfl [] rfl (lenOf pd_25 rfl) (hb hby d24_1) (by decide) 0 (by decide) (by decide) (by first | decide | exact Nat.le_refl _) (by decide) (by decide) (fun v T1 L1 X1 hQ1 => ?_)
  obtain ⟨rfl, e1, rfl⟩ := hQ1
  have N2 := Fr.app N0 (Fr.nil n0)
  show Goes p.tables e below (T1.setTop (mkF m 4 #[.val (.ref p0), .val (.ref p1), .val (.int p2)] [])) _
  refine g_aloadN X1 hx (hb hby d24_4) rfl rfl ?_
  show Goes p.tables e below (T1.setTop (mkF m 5 #[.val (.ref p0), .val (.ref p1), .val (.int p2)] [(.ref p0)])) _
  refine g_aloadN X1 hx (hb hby d24_5) rfl rfl ?_
  show Goes p.tables e below (T1.setTop (mkF m 6 #[.val (.ref p0), .val (.ref p1), .val (.int p2)] [(.ref p1), (.ref p0)])) _
  refine g_putF X1 hx hZ hown e1 (hw _ (List.mem_of_getElem? (i := 186) rfl)) Via.refl (v' := (.ref p1)) f1 E0 (Or.inr ⟨(hw _ (List.mem_of_getElem? (i := 187) rfl)), rfl, hnm⟩) (hw _ (List.mem_of_getElem? (i := 166) rfl)) (ty := (.array (.object "java/lang/Object"))) (by decide) rfl rfl (hb hby d24_6) (fun T3 h3 X3 e3 W3 => ?_)
  have fx4 : Fld Z h3 p0 "java/util/ImmutableCollections$ListN" "allowNulls" "Z" (.int (0 : Int32)) := Fld.other W3 f2 (Or.inr (slot_ne (t := .boolean) (t' := (.array (.object "java/lang/Object"))) (Or.inr (hw _ (List.mem_of_getElem? (i := 189) rfl))) (Or.inr (hw _ (List.mem_of_getElem? (i := 187) rfl))) (by decide) (by decide) (by decide)))
  have fx5 : Exa Z h3 p0 "java/util/ImmutableCollections$ListN" := Exa.wr W3 E0
  have fx6 : Fld Z h3 p0 "java/util/ImmutableCollections$ListN" "elements" "[Ljava/lang/Object;" (.ref p1) := Fld.same W3 f1
  have N7 := Fr.snoc X3 N2 ga
  have Z8 : n0 ≤ h3.size := by rw [W3.size]; exact Z0
  have K9 : Keep h0 h3 [p0] := Keep.wr K0 W3 (Or.inl (List.mem_of_getElem? (i := 0) rfl))
  show Goes p.tables e below (T3.setTop (mkF m 9 #[.val (.ref p0), .val (.ref p1), .val (.int p2)] [])) _
  refine g_aloadN X3 hx (hb hby d24_9) rfl rfl ?_
  show Goes p.tables e below (T3.setTop (mkF m 10 #[.val (.ref p0), .val (.ref p1), .val (.int p2)] [(.ref p0)])) _
  refine g_iloadN X3 hx (hb hby d24_10) rfl ?_
  show Goes p.tables e below (T3.setTop (mkF m 11 #[.val (.ref p0), .val (.ref p1), .val (.int p2)] [(.int p2), (.ref p0)])) _
  refine g_putF X3 hx hZ hown e3 (hw _ (List.mem_of_getElem? (i := 188) rfl)) Via.refl (v' := (.int (p2 &&& 1))) fx4 fx5 (Or.inr ⟨(hw _ (List.mem_of_getElem? (i := 189) rfl)), rfl, hnm⟩) (hw _ (List.mem_of_getElem? (i := 166) rfl)) (ty := .boolean) (by decide) rfl (fits_nar_bool p2) (hb hby d24_11) (fun T10 h10 X10 e10 W10 => ?_)
  have fx11 : Exa Z h10 p0 "java/util/ImmutableCollections$ListN" := Exa.wr W10 fx5
  have fx12 : Fld Z h10 p0 "java/util/ImmutableCollections$ListN" "elements" "[Ljava/lang/Object;" (.ref p1) := Fld.other W10 fx6 (Or.inr (slot_ne (t := (.array (.object "java/lang/Object"))) (t' := .boolean) (Or.inr (hw _ (List.mem_of_getElem? (i := 187) rfl))) (Or.inr (hw _ (List.mem_of_getElem? (i := 189) rfl))) (by decide) (by decide) (by decide)))
  have fx13 : Fld Z h10 p0 "java/util/ImmutableCollections$ListN" "allowNulls" "Z" (.int (p2 &&& 1)) := Fld.same W10 fx4
  have N14 := Fr.snoc X10 N7 ga
  have Z15 : n0 ≤ h10.size := by rw [W10.size]; exact Z8
  have K16 : Keep h0 h10 [p0] := Keep.wr K9 W10 (Or.inl (List.mem_of_getElem? (i := 0) rfl))
  show Goes p.tables e below (T10.setTop (mkF m 14 #[.val (.ref p0), .val (.ref p1), .val (.int p2)] [])) _
  exact g_ret0 X10 hx hret hlk (hb hby d24_14) (by decide) (by decide) (by rw [e10]; exact ⟨rfl, N14, K16⟩)
theorem d22_0 : decode jdk_56_method_4_code 0 = .ok (.aload_n 0, 1) := by decide +kernel
theorem d22_1 : decode jdk_56_method_4_code 1 = .ok (.arraylength, 1) := by decide +kernel
theorem d22_2 : decode jdk_56_method_4_code 2 = .ok (.anewarray 2, 3) := by decide +kernel
theorem d22_5 : decode jdk_56_method_4_code 5 = .ok (.astore_n 1, 1) := by decide +kernel
theorem d22_6 : decode jdk_56_method_4_code 6 = .ok (.iconst 0, 1) := by decide +kernel
theorem d22_7 : decode jdk_56_method_4_code 7 = .ok (.istore_n 2, 1) := by decide +kernel
theorem d22_8 : decode jdk_56_method_4_code 8 = .ok (.iload_n 2, 1) := by decide +kernel
theorem d22_9 : decode jdk_56_method_4_code 9 = .ok (.aload_n 0, 1) := by decide +kernel
theorem d22_10 : decode jdk_56_method_4_code 10 = .ok (.arraylength, 1) := by decide +kernel
theorem d22_11 : decode jdk_56_method_4_code 11 = .ok (.if_icmp .ge 18, 3) := by decide +kernel
theorem d22_14 : decode jdk_56_method_4_code 14 = .ok (.aload_n 1, 1) := by decide +kernel
theorem d22_15 : decode jdk_56_method_4_code 15 = .ok (.iload_n 2, 1) := by decide +kernel
theorem d22_16 : decode jdk_56_method_4_code 16 = .ok (.aload_n 0, 1) := by decide +kernel
theorem d22_17 : decode jdk_56_method_4_code 17 = .ok (.iload_n 2, 1) := by decide +kernel
theorem d22_18 : decode jdk_56_method_4_code 18 = .ok (.aaload, 1) := by decide +kernel
theorem d22_19 : decode jdk_56_method_4_code 19 = .ok (.invokestatic 37, 3) := by decide +kernel
theorem d22_22 : decode jdk_56_method_4_code 22 = .ok (.aastore, 1) := by decide +kernel
theorem d22_23 : decode jdk_56_method_4_code 23 = .ok (.iinc 2 1, 3) := by decide +kernel
theorem d22_26 : decode jdk_56_method_4_code 26 = .ok (.goto (-18), 3) := by decide +kernel
theorem d22_29 : decode jdk_56_method_4_code 29 = .ok (.new 12, 3) := by decide +kernel
theorem d22_32 : decode jdk_56_method_4_code 32 = .ok (.dup, 1) := by decide +kernel
theorem d22_33 : decode jdk_56_method_4_code 33 = .ok (.aload_n 1, 1) := by decide +kernel
theorem d22_34 : decode jdk_56_method_4_code 34 = .ok (.iconst 0, 1) := by decide +kernel
theorem d22_35 : decode jdk_56_method_4_code 35 = .ok (.invokespecial 43, 3) := by decide +kernel
theorem d22_38 : decode jdk_56_method_4_code 38 = .ok (.areturn, 1) := by decide +kernel
theorem pd_22 : parseMethodDescriptor "([Ljava/lang/Object;)Ljava/util/List;" = some ⟨[(.array (.object "java/lang/Object"))], some (.object "java/util/List")⟩ := by decide +kernel
theorem ef_22 (m : MethodId) (p0 : Addr) : entryFrame m #[(.ref p0)] 3 = mkF m 0 #[.val (.ref p0), .unset, .unset] [] := by first | (simp [entryFrame, mkF, argsToLocals, Value.category]; done) | rfl
set_option maxRecDepth 65536 in
set_option maxHeartbeats 40000000 in
theorem rmLFA (l : Launch) (Z : State) (a0 : Array Value) (hw : ∀ d ∈ tables_1, d.before a0 Z = true) (p0 : Addr) (h0 : Heap) (n0 : Nat) (Z0 : n0 ≤ h0.size) (vs : List Value) (n : Nat) (hn : vs.length = n) (hn4 : n ≤ 4) (A0 : Ar Z h0 p0 (.object "java/lang/Object") vs) (hI : ∀ v ∈ vs, ∃ x, v = Value.ref x ∧ Ins Z h0 x "java/lang/Object" true) :
    Con l Z (⟨"java/util/ImmutableCollections", "listFromArray", "([Ljava/lang/Object;)Ljava/util/List;"⟩ : MethodName) jdk_56_method_4_code 3 (some (.object "java/util/List")) [] ({ frames := 5, cells := 2, slots := 6, locals := 63 } : Room) 2 6 #[(.ref p0)] h0 (fun v h L => ∃ r, v = some (.ref r) ∧ Fr n0 L ∧ Keep h0 h []) := by
  refine Con.body (plainFor_of_name (by first | (simp [plainName, overriddenIn]; done) | decide +kernel)) ?_
  intro p e s m below meth c T0 hx hby hml hown hnm hZ hret hlk X0 e0
  refine Goes.cast (ef_22 m p0) ?_
  have N0 := Fr.nil n0
  have K0 : Keep h0 h0 [] := Keep.refl _ _
  show Goes p.tables e below (T0.setTop (mkF m 0 #[.val (.ref p0), .unset, .unset] [])) _
  refine g_aloadN X0 hx (hb hby d22_0) rfl rfl ?_
  show Goes p.tables e below (T0.setTop (mkF m 1 #[.val (.ref p0), .unset, .unset] [(.ref p0)])) _
  refine g_alen X0 hx hZ e0 A0 (Int32.ofNat n) (by rw [hn]; exact own_of (by omega)) (hb hby d22_1) ?_
  show Goes p.tables e below (T0.setTop (mkF m 2 #[.val (.ref p0), .unset, .unset] [(.int (Int32.ofNat n))])) _
  refine g_newref X0 hx hZ hown e0 (hw _ (List.mem_of_getElem? (i := 161) rfl)) (hw _ (List.mem_of_getElem? (i := 119) rfl)) (hb hby d22_2) (n := n) (own_of (by omega)) 4 (by omega) (by decide) (by decide) (by decide) (ad := "[Ljava/lang/Object;") (by decide) (fun T1 h1 a1 ga1 X1 e1 Ex1 Aa1 Ea1 Oa1 => ?_)
  have ne2 : p0 ≠ a1 := Nat.ne_of_lt (by rw [ga1]; exact A0.lt)
  have ge3 : n0 ≤ a1 := by rw [ga1]; exact Z0
  have ge4 : h0.size ≤ a1 := by rw [ga1]; exact K0.1
  have fx5 : Ar Z h1 p0 (.object "java/lang/Object") vs := Ar.ext A0 Ex1
  have Z6 : n0 ≤ h1.size := Nat.le_trans Z0 Ex1.1
  have K7 : Keep h0 h1 [] := Keep.ext K0 Ex1
  show Goes p.tables e below (T1.setTop (mkF m 5 #[.val (.ref p0), .unset, .unset] [(.ref a1)])) _
  refine g_astoreN X1 hx (hb hby d22_5) rfl (l' := #[.val (.ref p0), .val (.ref a1), .unset]) rfl ?_
  show Goes p.tables e below (T1.setTop (mkF m 6 #[.val (.ref p0), .val (.ref a1), .unset] [])) _
  refine g_iconst X1 hx (0 : Int32) (hb hby d22_6) rfl ?_
  show Goes p.tables e below (T1.setTop (mkF m 7 #[.val (.ref p0), .val (.ref a1), .unset] [(.int (0 : Int32))])) _
  refine g_istoreN X1 hx (hb hby d22_7) (l' := #[.val (.ref p0), .val (.ref a1), .val (.int (0 : Int32))]) rfl ?_
  have npd : p0 ≠ a1 := ne2
  have gd : n0 ≤ a1 := ge3
  have g0d : h0.size ≤ a1 := ge4
  have loop : ∀ k i9 : Nat, n - i9 = k → i9 ≤ n → ∀ (T : State) (locs : List Loc) (h : Heap) (ds : List Value), Stand p l e ({ frames := 5, cells := 2, slots := 6, locals := 63 } : Room) s m #[(.ref p0)] below meth c T locs (0 + 1) (0 + 4) → T.heap = h → Fr n0 locs → n0 ≤ h.size → Keep h0 h [] → Ar Z h a1 (.object "java/lang/Object") ds → ds.length = n → Ovc Z h a1 "java/lang/Object" → Goes p.tables e below (T.setTop (mkF m 8 #[.val (.ref p0), .val (.ref a1), .val (.int (Int32.ofNat i9))] [])) (Fin s 2 6 (fun v h L => ∃ r, v = some (.ref r) ∧ Fr n0 L ∧ Keep h0 h [])) := by
    intro k
    induction k using Nat.strongRecOn with
    | _ k ih =>
      intro i9 hk hi9 T locs h ds X9 e9 N9 Z9 K9 A9 hds O9
      have B9 := A0.keep K9 nin0
      show Goes p.tables e below (T.setTop (mkF m 8 #[.val (.ref p0), .val (.ref a1), .val (.int (Int32.ofNat i9))] [])) _
      refine g_iloadN X9 hx (hb hby d22_8) rfl ?_
      show Goes p.tables e below (T.setTop (mkF m 9 #[.val (.ref p0), .val (.ref a1), .val (.int (Int32.ofNat i9))] [(.int (Int32.ofNat i9))])) _
      refine g_aloadN X9 hx (hb hby d22_9) rfl rfl ?_
      show Goes p.tables e below (T.setTop (mkF m 10 #[.val (.ref p0), .val (.ref a1), .val (.int (Int32.ofNat i9))] [(.ref p0), (.int (Int32.ofNat i9))])) _
      refine g_alen X9 hx hZ e9 B9 (Int32.ofNat n) (by rw [hn]; exact own_of (by omega)) (hb hby d22_10) ?_
      refine g_icmp_ge X9 hx (hb hby d22_11) (by decide) (pc' := 29) (by decide) (fun c11 => ?_) (fun c11 => ?_)
      · skip
        show Goes p.tables e below (T.setTop (mkF m 29 #[.val (.ref p0), .val (.ref a1), .val (.int (Int32.ofNat i9))] [])) _
        refine g_new X9 hx hZ hown e9 (hw _ (List.mem_of_getElem? (i := 46) rfl)) (hw _ (List.mem_of_getElem? (i := 166) rfl)) (hw _ (List.mem_of_getElem? (i := 167) rfl)) (hb hby d22_29) (by decide) (by decide) (fun T8 h8 a8 ga8 X8 e8 Ex8 Ea8 Df8 => ?_)
        have ne9 : p0 ≠ a8 := Nat.ne_of_lt (by rw [ga8]; exact B9.lt)
        have ne10 : a1 ≠ a8 := Nat.ne_of_lt (by rw [ga8]; exact A9.lt)
        have ge11 : n0 ≤ a8 := by rw [ga8]; exact Z9
        have ge12 : h0.size ≤ a8 := by rw [ga8]; exact K9.1
        have fx13 : Ar Z h8 p0 (.object "java/lang/Object") vs := Ar.ext B9 Ex8
        have fx14 : Ar Z h8 a1 (.object "java/lang/Object") ds := Ar.ext A9 Ex8
        have fx15 : Ovc Z h8 a1 "java/lang/Object" := Ovc.ext O9 Ex8
        have Z16 : n0 ≤ h8.size := Nat.le_trans Z9 Ex8.1
        have K17 : Keep h0 h8 [] := Keep.ext K9 Ex8
        have fx18 : Fld Z h8 a8 "java/util/ImmutableCollections$ListN" "elements" "[Ljava/lang/Object;" .null := Df8 (Or.inr (hw _ (List.mem_of_getElem? (i := 187) rfl))) (ty := (.array (.object "java/lang/Object"))) (by decide)
        have fx19 : Fld Z h8 a8 "java/util/ImmutableCollections$ListN" "allowNulls" "Z" (.int (0 : Int32)) := Df8 (Or.inr (hw _ (List.mem_of_getElem? (i := 189) rfl))) (ty := .boolean) (by decide)
        show Goes p.tables e below (T8.setTop (mkF m 32 #[.val (.ref p0), .val (.ref a1), .val (.int (Int32.ofNat i9))] [(.ref a8)])) _
        refine g_dup X8 hx (hb hby d22_32) rfl ?_
        show Goes p.tables e below (T8.setTop (mkF m 33 #[.val (.ref p0), .val (.ref a1), .val (.int (Int32.ofNat i9))] [(.ref a8), (.ref a8)])) _
        refine g_aloadN X8 hx (hb hby d22_33) rfl rfl ?_
        show Goes p.tables e below (T8.setTop (mkF m 34 #[.val (.ref p0), .val (.ref a1), .val (.int (Int32.ofNat i9))] [(.ref a1), (.ref a8), (.ref a8)])) _
        refine g_iconst X8 hx (0 : Int32) (hb hby d22_34) rfl ?_
        show Goes p.tables e below (T8.setTop (mkF m 35 #[.val (.ref p0), .val (.ref a1), .val (.int (Int32.ofNat i9))] [(.int (0 : Int32)), (.ref a1), (.ref a8), (.ref a8)])) _
        refine g_callIN X8 hx hZ hown (by rw [hml]; rfl) e8 (host := "java/util/ImmutableCollections") rfl (hw _ (List.mem_of_getElem? (i := 168) rfl)) (hw _ (List.mem_of_getElem? (i := 169) rfl)) (hw _ (List.mem_of_getElem? (i := 167) rfl)) (hw _ (List.mem_of_getElem? (i := 171) rfl)) (rmLN l Z a0 hw a8 a1 (0 : Int32) h8 n0 Z16 fx18 fx19 Ea8 ge11) a8 [(.ref a1), (.int (0 : Int32))] rfl [(.ref a8)] rfl (lenOf pd_24 rfl) (hb hby d22_35) (by decide) 1 (by decide) (by decide) (by first | decide | exact Nat.le_refl _) (by decide) (by decide) (fun v T20 L20 X20 hQ20 => ?_)
        obtain ⟨rfl, Nb, Kb⟩ := hQ20
        have Kz : Keep h0 T20.heap [] := K17.trans Kb (allS (Or.inr ge12) all0)
        have N21 := Fr.app N9 Nb
        show Goes p.tables e below (T20.setTop (mkF m 38 #[.val (.ref p0), .val (.ref a1), .val (.int (Int32.ofNat i9))] [(.ref a8)])) _
        exact g_retA X20 hx hret hlk rfl rfl (hb hby d22_38) (by decide) (by decide) ⟨a8, rfl, N21, Kz⟩
      · skip
        show Goes p.tables e below (T.setTop (mkF m 14 #[.val (.ref p0), .val (.ref a1), .val (.int (Int32.ofNat i9))] [])) _
        have hlt : i9 < n := by have q := Int32.lt_iff_toInt_lt.mp c11; rw [own_of (by omega), own_of (by omega)] at q; omega
        obtain ⟨y, hy⟩ : ∃ y, vs[i9]? = some y := ⟨_, List.getElem?_eq_getElem (by rw [hn]; exact hlt)⟩
        obtain ⟨x, rfl, hx'⟩ := hI y (List.mem_of_getElem? hy)
        have hx9 := Ins.keep' hx' K9
        refine g_aloadN X9 hx (hb hby d22_14) rfl rfl ?_
        show Goes p.tables e below (T.setTop (mkF m 15 #[.val (.ref p0), .val (.ref a1), .val (.int (Int32.ofNat i9))] [(.ref a1)])) _
        refine g_iloadN X9 hx (hb hby d22_15) rfl ?_
        show Goes p.tables e below (T.setTop (mkF m 16 #[.val (.ref p0), .val (.ref a1), .val (.int (Int32.ofNat i9))] [(.int (Int32.ofNat i9)), (.ref a1)])) _
        refine g_aloadN X9 hx (hb hby d22_16) rfl rfl ?_
        show Goes p.tables e below (T.setTop (mkF m 17 #[.val (.ref p0), .val (.ref a1), .val (.int (Int32.ofNat i9))] [(.ref p0), (.int (Int32.ofNat i9)), (.ref a1)])) _
        refine g_iloadN X9 hx (hb hby d22_17) rfl ?_
        show Goes p.tables e below (T.setTop (mkF m 18 #[.val (.ref p0), .val (.ref a1), .val (.int (Int32.ofNat i9))] [(.int (Int32.ofNat i9)), (.ref p0), (.int (Int32.ofNat i9)), (.ref a1)])) _
        refine g_aaload X9 hx hZ e9 B9 rfl (i := i9) (v := (.ref x)) (own_of (by omega)) hy (hb hby d22_18) ?_
        show Goes p.tables e below (T.setTop (mkF m 19 #[.val (.ref p0), .val (.ref a1), .val (.int (Int32.ofNat i9))] [(.ref x), (.int (Int32.ofNat i9)), (.ref a1)])) _
        refine g_callS X9 hx hZ hown (by rw [hml]; rfl) e9 (hw _ (List.mem_of_getElem? (i := 162) rfl)) (hw _ (List.mem_of_getElem? (i := 163) rfl)) (hw _ (List.mem_of_getElem? (i := 164) rfl)) (hw _ (List.mem_of_getElem? (i := 165) rfl)) (rmRNN l Z a0 hw x h n0 Z9) [(.ref x)] rfl [(.int (Int32.ofNat i9)), (.ref a1)] rfl (lenOf pd_23 rfl) (hb hby d22_19) (by decide) 2 (by decide) (by decide) (by first | decide | exact Nat.le_refl _) (by decide) (by decide) (fun v T22 L22 X22 hQ22 => ?_)
        obtain ⟨rfl, e22, rfl⟩ := hQ22
        have N23 := Fr.app N9 (Fr.nil n0)
        show Goes p.tables e below (T22.setTop (mkF m 22 #[.val (.ref p0), .val (.ref a1), .val (.int (Int32.ofNat i9))] [(.ref x), (.int (Int32.ofNat i9)), (.ref a1)])) _
        refine g_aastore X22 hx hZ e22 A9 rfl (v := (.ref x)) rfl (Ovc.sto O9 A9 hx9) i9 (own_of (by omega)) (by rw [hds]; exact hlt) (hb hby d22_22) (fun T24 h24 X24 e24 W24 A24 => ?_)
        have fx25 : Ar Z h24 p0 (.object "java/lang/Object") vs := Ar.other B9 W24 npd
        have fx26 : Ovc Z h24 a1 "java/lang/Object" := Ovc.wr O9 W24
        have fx27 : Ins Z h24 x "java/lang/Object" true := Ins.wr W24 hx9
        have fx28 : Ar Z h24 a1 (.object "java/lang/Object") (List.set ds i9 (.ref x)) := A24
        have N29 := Fr.snoc X24 N23 gd
        have Z30 : n0 ≤ h24.size := by rw [W24.size]; exact Z9
        have K31 : Keep h0 h24 [] := Keep.wr K9 W24 (Or.inr g0d)
        show Goes p.tables e below (T24.setTop (mkF m 23 #[.val (.ref p0), .val (.ref a1), .val (.int (Int32.ofNat i9))] [])) _
        refine g_iinc X24 hx (1 : Int32) (hb hby d22_23) rfl rfl (l' := #[.val (.ref p0), .val (.ref a1), .val (.int ((Int32.ofNat i9) + (1 : Int32)))]) rfl ?_
        show Goes p.tables e below (T24.setTop (mkF m 26 #[.val (.ref p0), .val (.ref a1), .val (.int ((Int32.ofNat i9) + (1 : Int32)))] [])) _
        refine g_goto X24 hx (hb hby d22_26) (by decide) (pc' := 8) (by decide) ?_
        rw [own_succ]
        exact ih (n - (i9 + 1)) (by omega) (i9 + 1) rfl (by omega) _ _ _ _ X24 e24 N29 Z30 K31 fx28 (by rw [List.length_set]; exact hds) fx26
  exact loop _ 0 rfl (Nat.zero_le _) _ _ _ _ X1 e1 N0 Z6 K7 Aa1 List.length_replicate Oa1
theorem d21_0 : decode jdk_40_method_47_code 0 = .ok (.aload_n 0, 1) := by decide +kernel
theorem d21_1 : decode jdk_40_method_47_code 1 = .ok (.arraylength, 1) := by decide +kernel
theorem d21_2 : decode jdk_40_method_47_code 2 = .ok (.tableswitch 57 0 2 #[26, 32, 43], 26) := by decide +kernel
theorem d21_28 : decode jdk_40_method_47_code 28 = .ok (.getstatic 90, 3) := by decide +kernel
theorem d21_31 : decode jdk_40_method_47_code 31 = .ok (.astore_n 1, 1) := by decide +kernel
theorem d21_32 : decode jdk_40_method_47_code 32 = .ok (.aload_n 1, 1) := by decide +kernel
theorem d21_33 : decode jdk_40_method_47_code 33 = .ok (.areturn, 1) := by decide +kernel
theorem d21_34 : decode jdk_40_method_47_code 34 = .ok (.new 96, 3) := by decide +kernel
theorem d21_37 : decode jdk_40_method_47_code 37 = .ok (.dup, 1) := by decide +kernel
theorem d21_38 : decode jdk_40_method_47_code 38 = .ok (.aload_n 0, 1) := by decide +kernel
theorem d21_39 : decode jdk_40_method_47_code 39 = .ok (.iconst 0, 1) := by decide +kernel
theorem d21_40 : decode jdk_40_method_47_code 40 = .ok (.aaload, 1) := by decide +kernel
theorem d21_41 : decode jdk_40_method_47_code 41 = .ok (.invokespecial 98, 3) := by decide +kernel
theorem d21_44 : decode jdk_40_method_47_code 44 = .ok (.areturn, 1) := by decide +kernel
theorem d21_45 : decode jdk_40_method_47_code 45 = .ok (.new 96, 3) := by decide +kernel
theorem d21_48 : decode jdk_40_method_47_code 48 = .ok (.dup, 1) := by decide +kernel
theorem d21_49 : decode jdk_40_method_47_code 49 = .ok (.aload_n 0, 1) := by decide +kernel
theorem d21_50 : decode jdk_40_method_47_code 50 = .ok (.iconst 0, 1) := by decide +kernel
theorem d21_51 : decode jdk_40_method_47_code 51 = .ok (.aaload, 1) := by decide +kernel
theorem d21_52 : decode jdk_40_method_47_code 52 = .ok (.aload_n 0, 1) := by decide +kernel
theorem d21_53 : decode jdk_40_method_47_code 53 = .ok (.iconst 1, 1) := by decide +kernel
theorem d21_54 : decode jdk_40_method_47_code 54 = .ok (.aaload, 1) := by decide +kernel
theorem d21_55 : decode jdk_40_method_47_code 55 = .ok (.invokespecial 100, 3) := by decide +kernel
theorem d21_58 : decode jdk_40_method_47_code 58 = .ok (.areturn, 1) := by decide +kernel
theorem d21_59 : decode jdk_40_method_47_code 59 = .ok (.aload_n 0, 1) := by decide +kernel
theorem d21_60 : decode jdk_40_method_47_code 60 = .ok (.invokestatic 109, 3) := by decide +kernel
theorem d21_63 : decode jdk_40_method_47_code 63 = .ok (.areturn, 1) := by decide +kernel
theorem pd_21 : parseMethodDescriptor "([Ljava/lang/Object;)Ljava/util/List;" = some ⟨[(.array (.object "java/lang/Object"))], some (.object "java/util/List")⟩ := by decide +kernel
theorem ef_21 (m : MethodId) (p0 : Addr) : entryFrame m #[(.ref p0)] 2 = mkF m 0 #[.val (.ref p0), .unset] [] := by first | (simp [entryFrame, mkF, argsToLocals, Value.category]; done) | rfl
set_option maxRecDepth 65536 in
set_option maxHeartbeats 40000000 in
theorem rmOfA (l : Launch) (Z : State) (a0 : Array Value) (hw : ∀ d ∈ tables_1, d.before a0 Z = true) (p0 : Addr) (h0 : Heap) (n0 : Nat) (Z0 : n0 ≤ h0.size) (em : Addr) (SE : Sta Z h0 "java/util/ImmutableCollections" "EMPTY" "Ljava/lang/Object;" (.ref em)) (vs : List Value) (n : Nat) (hn : vs.length = n) (hn4 : n ≤ 4) (A0 : Ar Z h0 p0 (.object "java/lang/Object") vs) (hI : ∀ v ∈ vs, ∃ x, v = Value.ref x ∧ Ins Z h0 x "java/lang/Object" true) (h1n : 1 ≤ n) :
    Con l Z (⟨"java/util/List", "of", "([Ljava/lang/Object;)Ljava/util/List;"⟩ : MethodName) jdk_40_method_47_code 2 (some (.object "java/util/List")) [] ({ frames := 6, cells := 2, slots := 6, locals := 77 } : Room) 2 6 #[(.ref p0)] h0 (fun v h L => ∃ r, v = some (.ref r) ∧ Fr n0 L ∧ Keep h0 h []) := by
  refine Con.body (plainFor_of_name (by first | (simp [plainName, overriddenIn]; done) | decide +kernel)) ?_
  intro p e s m below meth c T0 hx hby hml hown hnm hZ hret hlk X0 e0
  refine Goes.cast (ef_21 m p0) ?_
  have N0 := Fr.nil n0
  have K0 : Keep h0 h0 [] := Keep.refl _ _
  show Goes p.tables e below (T0.setTop (mkF m 0 #[.val (.ref p0), .unset] [])) _
  refine g_aloadN X0 hx (hb hby d21_0) rfl rfl ?_
  show Goes p.tables e below (T0.setTop (mkF m 1 #[.val (.ref p0), .unset] [(.ref p0)])) _
  refine g_alen X0 hx hZ e0 A0 (Int32.ofNat n) (by rw [hn]; exact own_of (by omega)) (hb hby d21_1) ?_
  have hnI : (Int32.ofNat n).toInt = n := own_of (by omega)
  have h3 : n = 1 ∨ n = 2 ∨ 3 ≤ n := by omega
  rcases h3 with h3 | h3 | h3
  · skip
    refine g_tswIn X0 hx (hb hby d21_2) (o := 32) (pc' := 34) (by rw [hnI, h3]; decide) (by rw [hnI, h3]; rfl) (by decide) (by decide) ?_
    show Goes p.tables e below (T0.setTop (mkF m 34 #[.val (.ref p0), .unset] [])) _
    obtain ⟨y0, hy0⟩ : ∃ y, vs[0]? = some y := ⟨_, List.getElem?_eq_getElem (by omega)⟩
    obtain ⟨x0, rfl, hq0⟩ := hI y0 (List.mem_of_getElem? hy0)
    refine g_new X0 hx hZ hown e0 (hw _ (List.mem_of_getElem? (i := 204) rfl)) (hw _ (List.mem_of_getElem? (i := 205) rfl)) (hw _ (List.mem_of_getElem? (i := 206) rfl)) (hb hby d21_34) (by decide) (by decide) (fun T1 h1 a1 ga1 X1 e1 Ex1 Ea1 Df1 => ?_)
    have ne2 : p0 ≠ a1 := Nat.ne_of_lt (by rw [ga1]; exact A0.lt)
    have ge3 : n0 ≤ a1 := by rw [ga1]; exact Z0
    have ge4 : h0.size ≤ a1 := by rw [ga1]; exact K0.1
    have fx5 : Ar Z h1 p0 (.object "java/lang/Object") vs := Ar.ext A0 Ex1
    have fx6 : Sta Z h1 "java/util/ImmutableCollections" "EMPTY" "Ljava/lang/Object;" (.ref em) := Sta.ext Ex1 SE
    have Z7 : n0 ≤ h1.size := Nat.le_trans Z0 Ex1.1
    have K8 : Keep h0 h1 [] := Keep.ext K0 Ex1
    have fx9 : Fld Z h1 a1 "java/util/ImmutableCollections$List12" "e0" "Ljava/lang/Object;" .null := Df1 (Or.inr (hw _ (List.mem_of_getElem? (i := 217) rfl))) (ty := (.object "java/lang/Object")) (by decide)
    have fx10 : Fld Z h1 a1 "java/util/ImmutableCollections$List12" "e1" "Ljava/lang/Object;" .null := Df1 (Or.inr (hw _ (List.mem_of_getElem? (i := 219) rfl))) (ty := (.object "java/lang/Object")) (by decide)
    show Goes p.tables e below (T1.setTop (mkF m 37 #[.val (.ref p0), .unset] [(.ref a1)])) _
    refine g_dup X1 hx (hb hby d21_37) rfl ?_
    show Goes p.tables e below (T1.setTop (mkF m 38 #[.val (.ref p0), .unset] [(.ref a1), (.ref a1)])) _
    refine g_aloadN X1 hx (hb hby d21_38) rfl rfl ?_
    show Goes p.tables e below (T1.setTop (mkF m 39 #[.val (.ref p0), .unset] [(.ref p0), (.ref a1), (.ref a1)])) _
    refine g_iconst X1 hx (0 : Int32) (hb hby d21_39) rfl ?_
    show Goes p.tables e below (T1.setTop (mkF m 40 #[.val (.ref p0), .unset] [(.int (0 : Int32)), (.ref p0), (.ref a1), (.ref a1)])) _
    refine g_aaload X1 hx hZ e1 fx5 rfl (i := 0) (v := (.ref x0)) (by decide) hy0 (hb hby d21_40) ?_
    show Goes p.tables e below (T1.setTop (mkF m 41 #[.val (.ref p0), .unset] [(.ref x0), (.ref a1), (.ref a1)])) _
    refine g_callI X1 hx hZ hown (by rw [hml]; rfl) e1 rfl (hw _ (List.mem_of_getElem? (i := 225) rfl)) (hw _ (List.mem_of_getElem? (i := 226) rfl)) (hw _ (List.mem_of_getElem? (i := 206) rfl)) (hw _ (List.mem_of_getElem? (i := 227) rfl)) (rmL1 l Z a0 hw a1 x0 h1 n0 Z7 fx9 fx10 Ea1 ge3 em fx6) a1 [(.ref x0)] rfl [(.ref a1)] rfl (lenOf pd_32 rfl) (hb hby d21_41) (by decide) 1 (by decide) (by decide) (by first | decide | exact Nat.le_refl _) (by decide) (by decide) (fun v T11 L11 X11 hQ11 => ?_)
    obtain ⟨rfl, Nb, Kb⟩ := hQ11
    have Kz : Keep h0 T11.heap [] := K8.trans Kb (allS (Or.inr ge4) all0)
    have N12 := Fr.app N0 Nb
    show Goes p.tables e below (T11.setTop (mkF m 44 #[.val (.ref p0), .unset] [(.ref a1)])) _
    exact g_retA X11 hx hret hlk rfl rfl (hb hby d21_44) (by decide) (by decide) ⟨a1, rfl, N12, Kz⟩
  · skip
    refine g_tswIn X0 hx (hb hby d21_2) (o := 43) (pc' := 45) (by rw [hnI, h3]; decide) (by rw [hnI, h3]; rfl) (by decide) (by decide) ?_
    show Goes p.tables e below (T0.setTop (mkF m 45 #[.val (.ref p0), .unset] [])) _
    obtain ⟨y0, hy0⟩ : ∃ y, vs[0]? = some y := ⟨_, List.getElem?_eq_getElem (by omega)⟩
    obtain ⟨x0, rfl, hq0⟩ := hI y0 (List.mem_of_getElem? hy0)
    obtain ⟨y1, hy1⟩ : ∃ y, vs[1]? = some y := ⟨_, List.getElem?_eq_getElem (by omega)⟩
    obtain ⟨x1, rfl, hq1⟩ := hI y1 (List.mem_of_getElem? hy1)
    refine g_new X0 hx hZ hown e0 (hw _ (List.mem_of_getElem? (i := 204) rfl)) (hw _ (List.mem_of_getElem? (i := 205) rfl)) (hw _ (List.mem_of_getElem? (i := 206) rfl)) (hb hby d21_45) (by decide) (by decide) (fun T13 h13 a13 ga13 X13 e13 Ex13 Ea13 Df13 => ?_)
    have ne14 : p0 ≠ a13 := Nat.ne_of_lt (by rw [ga13]; exact A0.lt)
    have ge15 : n0 ≤ a13 := by rw [ga13]; exact Z0
    have ge16 : h0.size ≤ a13 := by rw [ga13]; exact K0.1
    have fx17 : Ar Z h13 p0 (.object "java/lang/Object") vs := Ar.ext A0 Ex13
    have fx18 : Sta Z h13 "java/util/ImmutableCollections" "EMPTY" "Ljava/lang/Object;" (.ref em) := Sta.ext Ex13 SE
    have Z19 : n0 ≤ h13.size := Nat.le_trans Z0 Ex13.1
    have K20 : Keep h0 h13 [] := Keep.ext K0 Ex13
    have fx21 : Fld Z h13 a13 "java/util/ImmutableCollections$List12" "e0" "Ljava/lang/Object;" .null := Df13 (Or.inr (hw _ (List.mem_of_getElem? (i := 217) rfl))) (ty := (.object "java/lang/Object")) (by decide)
    have fx22 : Fld Z h13 a13 "java/util/ImmutableCollections$List12" "e1" "Ljava/lang/Object;" .null := Df13 (Or.inr (hw _ (List.mem_of_getElem? (i := 219) rfl))) (ty := (.object "java/lang/Object")) (by decide)
    show Goes p.tables e below (T13.setTop (mkF m 48 #[.val (.ref p0), .unset] [(.ref a13)])) _
    refine g_dup X13 hx (hb hby d21_48) rfl ?_
    show Goes p.tables e below (T13.setTop (mkF m 49 #[.val (.ref p0), .unset] [(.ref a13), (.ref a13)])) _
    refine g_aloadN X13 hx (hb hby d21_49) rfl rfl ?_
    show Goes p.tables e below (T13.setTop (mkF m 50 #[.val (.ref p0), .unset] [(.ref p0), (.ref a13), (.ref a13)])) _
    refine g_iconst X13 hx (0 : Int32) (hb hby d21_50) rfl ?_
    show Goes p.tables e below (T13.setTop (mkF m 51 #[.val (.ref p0), .unset] [(.int (0 : Int32)), (.ref p0), (.ref a13), (.ref a13)])) _
    refine g_aaload X13 hx hZ e13 fx17 rfl (i := 0) (v := (.ref x0)) (by decide) hy0 (hb hby d21_51) ?_
    show Goes p.tables e below (T13.setTop (mkF m 52 #[.val (.ref p0), .unset] [(.ref x0), (.ref a13), (.ref a13)])) _
    refine g_aloadN X13 hx (hb hby d21_52) rfl rfl ?_
    show Goes p.tables e below (T13.setTop (mkF m 53 #[.val (.ref p0), .unset] [(.ref p0), (.ref x0), (.ref a13), (.ref a13)])) _
    refine g_iconst X13 hx (1 : Int32) (hb hby d21_53) rfl ?_
    show Goes p.tables e below (T13.setTop (mkF m 54 #[.val (.ref p0), .unset] [(.int (1 : Int32)), (.ref p0), (.ref x0), (.ref a13), (.ref a13)])) _
    refine g_aaload X13 hx hZ e13 fx17 rfl (i := 1) (v := (.ref x1)) (by decide) hy1 (hb hby d21_54) ?_
    show Goes p.tables e below (T13.setTop (mkF m 55 #[.val (.ref p0), .unset] [(.ref x1), (.ref x0), (.ref a13), (.ref a13)])) _
    refine g_callI X13 hx hZ hown (by rw [hml]; rfl) e13 rfl (hw _ (List.mem_of_getElem? (i := 207) rfl)) (hw _ (List.mem_of_getElem? (i := 208) rfl)) (hw _ (List.mem_of_getElem? (i := 206) rfl)) (hw _ (List.mem_of_getElem? (i := 210) rfl)) (rmL2 l Z a0 hw a13 x0 x1 h13 n0 Z19 fx21 fx22 Ea13 ge15) a13 [(.ref x0), (.ref x1)] rfl [(.ref a13)] rfl (lenOf pd_30 rfl) (hb hby d21_55) (by decide) 1 (by decide) (by decide) (by first | decide | exact Nat.le_refl _) (by decide) (by decide) (fun v T23 L23 X23 hQ23 => ?_)
    obtain ⟨rfl, Nb, Kb⟩ := hQ23
    have Kz : Keep h0 T23.heap [] := K20.trans Kb (allS (Or.inr ge16) all0)
    have N24 := Fr.app N0 Nb
    show Goes p.tables e below (T23.setTop (mkF m 58 #[.val (.ref p0), .unset] [(.ref a13)])) _
    exact g_retA X23 hx hret hlk rfl rfl (hb hby d21_58) (by decide) (by decide) ⟨a13, rfl, N24, Kz⟩
  · skip
    refine g_tswOut X0 hx (hb hby d21_2) (pc' := 59) (by rw [hnI]; omega) (by decide) (by decide) ?_
    show Goes p.tables e below (T0.setTop (mkF m 59 #[.val (.ref p0), .unset] [])) _
    refine g_aloadN X0 hx (hb hby d21_59) rfl rfl ?_
    show Goes p.tables e below (T0.setTop (mkF m 60 #[.val (.ref p0), .unset] [(.ref p0)])) _
    refine g_callS X0 hx hZ hown (by rw [hml]; rfl) e0 (hw _ (List.mem_of_getElem? (i := 158) rfl)) (hw _ (List.mem_of_getElem? (i := 159) rfl)) (hw _ (List.mem_of_getElem? (i := 39) rfl)) (hw _ (List.mem_of_getElem? (i := 160) rfl)) (rmLFA l Z a0 hw p0 h0 n0 Z0 vs n hn hn4 A0 hI) [(.ref p0)] rfl [] rfl (lenOf pd_22 rfl) (hb hby d21_60) (by decide) 0 (by decide) (by decide) (by first | decide | exact Nat.le_refl _) (by decide) (by decide) (fun v T25 L25 X25 hQ25 => ?_)
    obtain ⟨r, rfl, Nb, Kb⟩ := hQ25
    show Goes p.tables e below (T25.setTop (mkF m 63 #[.val (.ref p0), .unset] [(.ref r)])) _
    exact g_retA X25 hx hret hlk rfl rfl (hb hby d21_63) (by decide) (by decide) ⟨r, rfl, Nb, Kb⟩
theorem own_NSroot {Z : State} {a0 : Array Value} {O K : String} {n : Nat} (w : (Jvm.Cond.noSuperclass O).before a0 Z = true) (wk : (Jvm.Cond.instantiable K n).before a0 Z = true) (hn : O ≠ K) : NS Z O K := by
  obtain ⟨t, kt, g1, g2, -⟩ := Cond.instantiable_spec wk
  obtain ⟨c, k, h1, h2, h3⟩ := Cond.noSuperclass_spec w
  have ne := ids_ne h1 g1 hn
  refine ⟨c, t, h1, g1, fun fuel => ?_⟩
  cases fuel with
  | zero => rfl
  | succ f => simp [Vm.isSubclassAux, ne, h2, h3]
theorem own_notOf {Z : State} {a0 : Array Value} {C S K : String} {n : Nat} (w : (Jvm.Cond.superclass C S).before a0 Z = true) (wk : (Jvm.Cond.instantiable K n).before a0 Z = true) (hN : NS Z C K) (hn : C ≠ K) : ∃ c t, Z.vm.findClass C = some c ∧ Z.vm.findClass K = some t ∧ Z.vm.assignable c t = false := by
  obtain ⟨c, t, h0, g0, n3⟩ := hN
  obtain ⟨p, k, kp, h1, h2, h3, h4, h5, -, h7⟩ := Cond.superclass_spec h0 w
  obtain ⟨t', k', g1, g2, g3, g4, -⟩ := Cond.instantiable_spec wk
  cases g0.symm.trans g1
  have ne := ids_ne h0 g0 hn
  refine ⟨c, t, h0, g0, ?_⟩
  have g5 : k'.isInterface = false := by cases hh : k'.isInterface <;> simp [hh] at g4 ⊢
  show Z.vm.assignableAux (255 + 1) c t = false
  simp [Vm.assignableAux, ne, h2, g2, h5, g3, g5, Vm.isSubclass, n3]
theorem own_pos {sz : Int32} {n : Nat} (hn : sz.toInt = n) (c : (if sz = 0 then (1 : Int32) else 0) = 0) : 1 ≤ n := by
  rcases Nat.eq_zero_or_pos n with q | q
  · have e : sz = 0 := Int32.toInt_inj.mp (by rw [hn, q]; rfl)
    rw [if_pos e] at c
    exact absurd c (by decide)
  · exact q
theorem d7_0 : decode jdk_56_method_3_code 0 = .ok (.aload_n 0, 1) := by decide +kernel
theorem d7_1 : decode jdk_56_method_3_code 1 = .ok (.instanceof 10, 3) := by decide +kernel
theorem d7_4 : decode jdk_56_method_3_code 4 = .ok (.ifCond .ne 22, 3) := by decide +kernel
theorem d7_7 : decode jdk_56_method_3_code 7 = .ok (.aload_n 0, 1) := by decide +kernel
theorem d7_8 : decode jdk_56_method_3_code 8 = .ok (.instanceof 12, 3) := by decide +kernel
theorem d7_11 : decode jdk_56_method_3_code 11 = .ok (.ifCond .eq 20, 3) := by decide +kernel
theorem d7_14 : decode jdk_56_method_3_code 14 = .ok (.aload_n 0, 1) := by decide +kernel
theorem d7_15 : decode jdk_56_method_3_code 15 = .ok (.checkcast 12, 3) := by decide +kernel
theorem d7_18 : decode jdk_56_method_3_code 18 = .ok (.astore_n 1, 1) := by decide +kernel
theorem d7_19 : decode jdk_56_method_3_code 19 = .ok (.aload_n 1, 1) := by decide +kernel
theorem d7_20 : decode jdk_56_method_3_code 20 = .ok (.getfield 14, 3) := by decide +kernel
theorem d7_23 : decode jdk_56_method_3_code 23 = .ok (.ifCond .ne 8, 3) := by decide +kernel
theorem d7_26 : decode jdk_56_method_3_code 26 = .ok (.aload_n 0, 1) := by decide +kernel
theorem d7_27 : decode jdk_56_method_3_code 27 = .ok (.checkcast 18, 3) := by decide +kernel
theorem d7_30 : decode jdk_56_method_3_code 30 = .ok (.areturn, 1) := by decide +kernel
theorem d7_31 : decode jdk_56_method_3_code 31 = .ok (.aload_n 0, 1) := by decide +kernel
theorem d7_32 : decode jdk_56_method_3_code 32 = .ok (.invokeinterface 20 1, 5) := by decide +kernel
theorem d7_37 : decode jdk_56_method_3_code 37 = .ok (.ifCond .eq 7, 3) := by decide +kernel
theorem d7_40 : decode jdk_56_method_3_code 40 = .ok (.invokestatic 26, 3) := by decide +kernel
theorem d7_43 : decode jdk_56_method_3_code 43 = .ok (.areturn, 1) := by decide +kernel
theorem d7_44 : decode jdk_56_method_3_code 44 = .ok (.aload_n 0, 1) := by decide +kernel
theorem d7_45 : decode jdk_56_method_3_code 45 = .ok (.invokeinterface 30 1, 5) := by decide +kernel
theorem d7_50 : decode jdk_56_method_3_code 50 = .ok (.invokestatic 34, 3) := by decide +kernel
theorem d7_53 : decode jdk_56_method_3_code 53 = .ok (.areturn, 1) := by decide +kernel
theorem pd_7 : parseMethodDescriptor "(Ljava/util/Collection;)Ljava/util/List;" = some ⟨[(.object "java/util/Collection")], some (.object "java/util/List")⟩ := by decide +kernel
theorem ef_7 (m : MethodId) (p0 : Addr) : entryFrame m #[(.ref p0)] 2 = mkF m 0 #[.val (.ref p0), .unset] [] := by first | (simp [entryFrame, mkF, argsToLocals, Value.category]; done) | rfl
set_option maxRecDepth 65536 in
set_option maxHeartbeats 40000000 in
theorem rmLC (l : Launch) (Z : State) (a0 : Array Value) (hw : ∀ d ∈ tables_1, d.before a0 Z = true) (p0 : Addr) (h0 : Heap) (n0 : Nat) (Z0 : n0 ≤ h0.size) (mr ed el em : Addr) (M0 : Mirr Z "[Ljava/lang/Object;" mr) (SL : Sta Z h0 "java/util/ImmutableCollections" "EMPTY_LIST" "Ljava/util/ImmutableCollections$ListN;" (.ref el)) (SE : Sta Z h0 "java/util/ImmutableCollections" "EMPTY" "Ljava/lang/Object;" (.ref em)) (sz : Int32) (vs : List Value) (n : Nat) (hn : sz.toInt = n) (hle : n ≤ vs.length) (hn4 : n ≤ 4) (f1 : Fld Z h0 p0 "java/util/ArrayList" "elementData" "[Ljava/lang/Object;" (.ref ed)) (f2 : Fld Z h0 p0 "java/util/ArrayList" "size" "I" (.int sz)) (E0 : Exa Z h0 p0 "java/util/ArrayList") (A0 : Ar Z h0 ed (.object "java/lang/Object") vs) (EA : Exa Z h0 ed "[Ljava/lang/Object;") (hI : ∀ v ∈ vs.take n, ∃ x, v = Value.ref x ∧ Ins Z h0 x "java/lang/Object" true) :
    Con l Z (⟨"java/util/ImmutableCollections", "listCopy", "(Ljava/util/Collection;)Ljava/util/List;"⟩ : MethodName) jdk_56_method_3_code 2 (some (.object "java/util/List")) [] ({ frames := 7, cells := 3, slots := 10, locals := 90 } : Room) 3 10 #[(.ref p0)] h0 (fun v h L => ∃ r, v = some (.ref r) ∧ Fr n0 L ∧ Keep h0 h []) := by
  refine Con.body (plainFor_of_name (by first | (simp [plainName, overriddenIn]; done) | decide +kernel)) ?_
  intro p e s m below meth c T0 hx hby hml hown hnm hZ hret hlk X0 e0
  refine Goes.cast (ef_7 m p0) ?_
  have N0 := Fr.nil n0
  show Goes p.tables e below (T0.setTop (mkF m 0 #[.val (.ref p0), .unset] [])) _
  refine g_aloadN X0 hx (hb hby d7_0) rfl rfl ?_
  show Goes p.tables e below (T0.setTop (mkF m 1 #[.val (.ref p0), .unset] [(.ref p0)])) _
  refine g_instNo X0 hx hZ hown e0 (hw _ (List.mem_of_getElem? (i := 41) rfl)) E0 (own_notOf (hw _ (List.mem_of_getElem? (i := 42) rfl)) (hw _ (List.mem_of_getElem? (i := 205) rfl)) (NS.step (hw _ (List.mem_of_getElem? (i := 42) rfl)) (NS.step (hw _ (List.mem_of_getElem? (i := 43) rfl)) (NS.step (hw _ (List.mem_of_getElem? (i := 44) rfl)) (own_NSroot (hw _ (List.mem_of_getElem? (i := 45) rfl)) (hw _ (List.mem_of_getElem? (i := 205) rfl)) (by decide)) (by decide)) (by decide)) (by decide)) (by decide)) (hb hby d7_1) (fun T1 X1 e1 => ?_)
  show Goes p.tables e below (T1.setTop (mkF m 4 #[.val (.ref p0), .unset] [(.int (0 : Int32))])) _
  refine g_if_ne X1 hx (hb hby d7_4) (by decide) (pc' := 26) (by decide) (fun q => absurd (by decide) q) (fun _ => ?_)
  show Goes p.tables e below (T1.setTop (mkF m 7 #[.val (.ref p0), .unset] [])) _
  refine g_aloadN X1 hx (hb hby d7_7) rfl rfl ?_
  show Goes p.tables e below (T1.setTop (mkF m 8 #[.val (.ref p0), .unset] [(.ref p0)])) _
  refine g_instNo X1 hx hZ hown e1 (hw _ (List.mem_of_getElem? (i := 46) rfl)) E0 (own_notOf (hw _ (List.mem_of_getElem? (i := 42) rfl)) (hw _ (List.mem_of_getElem? (i := 166) rfl)) (NS.step (hw _ (List.mem_of_getElem? (i := 42) rfl)) (NS.step (hw _ (List.mem_of_getElem? (i := 43) rfl)) (NS.step (hw _ (List.mem_of_getElem? (i := 44) rfl)) (own_NSroot (hw _ (List.mem_of_getElem? (i := 45) rfl)) (hw _ (List.mem_of_getElem? (i := 166) rfl)) (by decide)) (by decide)) (by decide)) (by decide)) (by decide)) (hb hby d7_8) (fun T2 X2 e2 => ?_)
  show Goes p.tables e below (T2.setTop (mkF m 11 #[.val (.ref p0), .unset] [(.int (0 : Int32))])) _
  refine g_if_eq X2 hx (hb hby d7_11) (by decide) (pc' := 31) (by decide) (fun _ => ?_) (fun q => absurd (by decide) q)
  show Goes p.tables e below (T2.setTop (mkF m 31 #[.val (.ref p0), .unset] [])) _
  refine g_aloadN X2 hx (hb hby d7_31) rfl rfl ?_
  show Goes p.tables e below (T2.setTop (mkF m 32 #[.val (.ref p0), .unset] [(.ref p0)])) _
  refine g_callF X2 hx hZ hown (by rw [hml]; rfl) e2 (hw _ (List.mem_of_getElem? (i := 47) rfl)) (hw _ (List.mem_of_getElem? (i := 48) rfl)) (hw _ (List.mem_of_getElem? (i := 49) rfl)) (hw _ (List.mem_of_getElem? (i := 50) rfl)) (hw _ (List.mem_of_getElem? (i := 51) rfl)) (hw _ (List.mem_of_getElem? (i := 52) rfl)) (hw _ (List.mem_of_getElem? (i := 53) rfl)) (hw _ (List.mem_of_getElem? (i := 54) rfl)) (hw _ (List.mem_of_getElem? (i := 2) rfl)) (hw _ (List.mem_of_getElem? (i := 55) rfl)) E0 (rmEmp l Z a0 hw p0 h0 n0 Z0 sz f2) [] rfl [] rfl (lenOf pd_8 rfl) (hb hby d7_32) (by decide) 0 (by decide) (by decide) (by first | decide | exact Nat.le_refl _) (by decide) (by decide) (fun v T3 L3 X3 hQ3 => ?_)
  obtain ⟨rfl, e3, rfl⟩ := hQ3
  have N4 := Fr.app N0 (Fr.nil n0)
  show Goes p.tables e below (T3.setTop (mkF m 37 #[.val (.ref p0), .unset] [(.int (if sz = 0 then (1 : Int32) else 0))])) _
  refine g_if_eq X3 hx (hb hby d7_37) (by decide) (pc' := 44) (by decide) (fun c37 => ?_) (fun c37 => ?_)
  · skip
    show Goes p.tables e below (T3.setTop (mkF m 44 #[.val (.ref p0), .unset] [])) _
    have hn1 : 1 ≤ n := own_pos hn c37
    show Goes p.tables e below (T3.setTop (mkF m 44 #[.val (.ref p0), .unset] [])) _
    refine g_aloadN X3 hx (hb hby d7_44) rfl rfl ?_
    show Goes p.tables e below (T3.setTop (mkF m 45 #[.val (.ref p0), .unset] [(.ref p0)])) _
    refine g_callF X3 hx hZ hown (by rw [hml]; rfl) e3 (hw _ (List.mem_of_getElem? (i := 125) rfl)) (hw _ (List.mem_of_getElem? (i := 126) rfl)) (hw _ (List.mem_of_getElem? (i := 127) rfl)) (hw _ (List.mem_of_getElem? (i := 128) rfl)) (hw _ (List.mem_of_getElem? (i := 129) rfl)) (hw _ (List.mem_of_getElem? (i := 130) rfl)) (hw _ (List.mem_of_getElem? (i := 131) rfl)) (hw _ (List.mem_of_getElem? (i := 54) rfl)) (hw _ (List.mem_of_getElem? (i := 2) rfl)) (hw _ (List.mem_of_getElem? (i := 132) rfl)) E0 (rmTA l Z a0 hw p0 h0 n0 Z0 mr ed M0 sz vs n hn hle hn4 f1 f2 A0 EA hI) [] rfl [] rfl (lenOf pd_17 rfl) (hb hby d7_45) (by decide) 0 (by decide) (by decide) (by first | decide | exact Nat.le_refl _) (by decide) (by decide) (fun v T5 L5 X5 hQ5 => ?_)
    obtain ⟨b, rfl, gb, hgb, Nb, Kb, Ab, Eb, Ob⟩ := hQ5
    have Zb : n0 ≤ T5.heap.size := Nat.le_trans Z0 Kb.1
    have SE2 := own_stakeep SE Kb all0
    have N6 := Fr.app N4 Nb
    show Goes p.tables e below (T5.setTop (mkF m 50 #[.val (.ref p0), .unset] [(.ref b)])) _
    have hI2 : ∀ v ∈ vs.take n, ∃ x, v = Value.ref x ∧ Ins Z T5.heap x "java/lang/Object" true := fun v hv => by obtain ⟨x, e, q⟩ := hI v hv; exact ⟨x, e, Ins.keep' q Kb⟩
    refine g_callS X5 hx hZ hown (by rw [hml]; rfl) rfl (hw _ (List.mem_of_getElem? (i := 155) rfl)) (hw _ (List.mem_of_getElem? (i := 156) rfl)) (hw _ (List.mem_of_getElem? (i := 35) rfl)) (hw _ (List.mem_of_getElem? (i := 157) rfl)) (rmOfA l Z a0 hw b T5.heap n0 Zb em SE2 (vs.take n) n (by rw [List.length_take]; omega) hn4 Ab hI2 hn1) [(.ref b)] rfl [] rfl (lenOf pd_21 rfl) (hb hby d7_50) (by decide) 0 (by decide) (by decide) (by first | decide | exact Nat.le_refl _) (by decide) (by decide) (fun v T7 L7 X7 hQ7 => ?_)
    obtain ⟨r, rfl, Nd, Kd⟩ := hQ7
    have Kz := Kb.trans Kd all0
    have N8 := Fr.app N6 Nd
    show Goes p.tables e below (T7.setTop (mkF m 53 #[.val (.ref p0), .unset] [(.ref r)])) _
    exact g_retA X7 hx hret hlk rfl rfl (hb hby d7_53) (by decide) (by decide) ⟨r, rfl, N8, Kz⟩
  · skip
    show Goes p.tables e below (T3.setTop (mkF m 40 #[.val (.ref p0), .unset] [])) _
    refine g_callS X3 hx hZ hown (by rw [hml]; rfl) e3 (hw _ (List.mem_of_getElem? (i := 58) rfl)) (hw _ (List.mem_of_getElem? (i := 59) rfl)) (hw _ (List.mem_of_getElem? (i := 35) rfl)) (hw _ (List.mem_of_getElem? (i := 60) rfl)) (rmOf0 l Z a0 hw h0 n0 Z0 el SL) [] rfl [] rfl (lenOf pd_9 rfl) (hb hby d7_40) (by decide) 0 (by decide) (by decide) (by first | decide | exact Nat.le_refl _) (by decide) (by decide) (fun v T9 L9 X9 hQ9 => ?_)
    obtain ⟨rfl, e9, rfl⟩ := hQ9
    have N10 := Fr.app N4 (Fr.nil n0)
    show Goes p.tables e below (T9.setTop (mkF m 43 #[.val (.ref p0), .unset] [(.ref el)])) _
    exact g_retA X9 hx hret hlk rfl rfl (hb hby d7_43) (by decide) (by decide) ⟨el, rfl, N10, by rw [e9]; exact Keep.refl _ _⟩
theorem d6_0 : decode jdk_40_method_48_code 0 = .ok (.aload_n 0, 1) := by decide +kernel
theorem d6_1 : decode jdk_40_method_48_code 1 = .ok (.invokestatic 112, 3) := by decide +kernel
theorem d6_4 : decode jdk_40_method_48_code 4 = .ok (.areturn, 1) := by decide +kernel
theorem pd_6 : parseMethodDescriptor "(Ljava/util/Collection;)Ljava/util/List;" = some ⟨[(.object "java/util/Collection")], some (.object "java/util/List")⟩ := by decide +kernel
theorem ef_6 (m : MethodId) (p0 : Addr) : entryFrame m #[(.ref p0)] 1 = mkF m 0 #[.val (.ref p0)] [] := by first | (simp [entryFrame, mkF, argsToLocals, Value.category]; done) | rfl
set_option maxRecDepth 65536 in
set_option maxHeartbeats 40000000 in
theorem rmCO (l : Launch) (Z : State) (a0 : Array Value) (hw : ∀ d ∈ tables_1, d.before a0 Z = true) (p0 : Addr) (h0 : Heap) (n0 : Nat) (Z0 : n0 ≤ h0.size) (mr ed el em : Addr) (M0 : Mirr Z "[Ljava/lang/Object;" mr) (SL : Sta Z h0 "java/util/ImmutableCollections" "EMPTY_LIST" "Ljava/util/ImmutableCollections$ListN;" (.ref el)) (SE : Sta Z h0 "java/util/ImmutableCollections" "EMPTY" "Ljava/lang/Object;" (.ref em)) (sz : Int32) (vs : List Value) (n : Nat) (hn : sz.toInt = n) (hle : n ≤ vs.length) (hn4 : n ≤ 4) (f1 : Fld Z h0 p0 "java/util/ArrayList" "elementData" "[Ljava/lang/Object;" (.ref ed)) (f2 : Fld Z h0 p0 "java/util/ArrayList" "size" "I" (.int sz)) (E0 : Exa Z h0 p0 "java/util/ArrayList") (A0 : Ar Z h0 ed (.object "java/lang/Object") vs) (EA : Exa Z h0 ed "[Ljava/lang/Object;") (hI : ∀ v ∈ vs.take n, ∃ x, v = Value.ref x ∧ Ins Z h0 x "java/lang/Object" true) :
    Con l Z (⟨"java/util/List", "copyOf", "(Ljava/util/Collection;)Ljava/util/List;"⟩ : MethodName) jdk_40_method_48_code 1 (some (.object "java/util/List")) [] ({ frames := 8, cells := 3, slots := 10, locals := 103 } : Room) 3 10 #[(.ref p0)] h0 (fun v h L => ∃ r, v = some (.ref r) ∧ Fr n0 L ∧ Keep h0 h []) := by
  refine Con.body (plainFor_of_name (by first | (simp [plainName, overriddenIn]; done) | decide +kernel)) ?_
  intro p e s m below meth c T0 hx hby hml hown hnm hZ hret hlk X0 e0
  refine Goes.cast (ef_6 m p0) ?_
  have N0 := Fr.nil n0
  show Goes p.tables e below (T0.setTop (mkF m 0 #[.val (.ref p0)] [])) _
  refine g_aloadN X0 hx (hb hby d6_0) rfl rfl ?_
  show Goes p.tables e below (T0.setTop (mkF m 1 #[.val (.ref p0)] [(.ref p0)])) _
  refine g_callS X0 hx hZ hown (by rw [hml]; rfl) e0 (hw _ (List.mem_of_getElem? (i := 37) rfl)) (hw _ (List.mem_of_getElem? (i := 38) rfl)) (hw _ (List.mem_of_getElem? (i := 39) rfl)) (hw _ (List.mem_of_getElem? (i := 40) rfl)) (rmLC l Z a0 hw p0 h0 n0 Z0 mr ed el em M0 SL SE sz vs n hn hle hn4 f1 f2 E0 A0 EA hI) [(.ref p0)] rfl [] rfl (lenOf pd_7 rfl) (hb hby d6_1) (by decide) 0 (by decide) (by decide) (by first | decide | exact Nat.le_refl _) (by decide) (by decide) (fun v T1 L1 X1 hQ1 => ?_)
  obtain ⟨r, rfl, Nb, Kb⟩ := hQ1
  show Goes p.tables e below (T1.setTop (mkF m 4 #[.val (.ref p0)] [(.ref r)])) _
  exact g_retA X1 hx hret hlk rfl rfl (hb hby d6_4) (by decide) (by decide) ⟨r, rfl, Nb, Kb⟩
theorem d5_0 : decode prog_37_method_1_code 0 = .ok (.aload_n 0, 1) := by decide +kernel
theorem d5_1 : decode prog_37_method_1_code 1 = .ok (.invokespecial 1, 3) := by decide +kernel
theorem d5_4 : decode prog_37_method_1_code 4 = .ok (.aload_n 0, 1) := by decide +kernel
theorem d5_5 : decode prog_37_method_1_code 5 = .ok (.aload_n 1, 1) := by decide +kernel
theorem d5_6 : decode prog_37_method_1_code 6 = .ok (.invokestatic 7, 3) := by decide +kernel
theorem d5_9 : decode prog_37_method_1_code 9 = .ok (.putfield 13, 3) := by decide +kernel
theorem d5_12 : decode prog_37_method_1_code 12 = .ok (.aload_n 0, 1) := by decide +kernel
theorem d5_13 : decode prog_37_method_1_code 13 = .ok (.aload_n 1, 1) := by decide +kernel
theorem d5_14 : decode prog_37_method_1_code 14 = .ok (.invokeinterface 19 1, 5) := by decide +kernel
theorem d5_19 : decode prog_37_method_1_code 19 = .ok (.newarray .boolean, 2) := by decide +kernel
theorem d5_21 : decode prog_37_method_1_code 21 = .ok (.putfield 23, 3) := by decide +kernel
theorem d5_24 : decode prog_37_method_1_code 24 = .ok (.aload_n 0, 1) := by decide +kernel
theorem d5_25 : decode prog_37_method_1_code 25 = .ok (.aload_n 1, 1) := by decide +kernel
theorem d5_26 : decode prog_37_method_1_code 26 = .ok (.invokeinterface 19 1, 5) := by decide +kernel
theorem d5_31 : decode prog_37_method_1_code 31 = .ok (.newarray .int, 2) := by decide +kernel
theorem d5_33 : decode prog_37_method_1_code 33 = .ok (.putfield 27, 3) := by decide +kernel
theorem d5_36 : decode prog_37_method_1_code 36 = .ok (.aload_n 0, 1) := by decide +kernel
theorem d5_37 : decode prog_37_method_1_code 37 = .ok (.aload_n 1, 1) := by decide +kernel
theorem d5_38 : decode prog_37_method_1_code 38 = .ok (.invokeinterface 19 1, 5) := by decide +kernel
theorem d5_43 : decode prog_37_method_1_code 43 = .ok (.newarray .boolean, 2) := by decide +kernel
theorem d5_45 : decode prog_37_method_1_code 45 = .ok (.putfield 31, 3) := by decide +kernel
theorem d5_48 : decode prog_37_method_1_code 48 = .ok (.return_, 1) := by decide +kernel
theorem pd_5 : parseMethodDescriptor "(Ljava/util/List;)V" = some ⟨[(.object "java/util/List")], none⟩ := by decide +kernel
theorem ef_5 (m : MethodId) (p0 : Addr) (p1 : Addr) : entryFrame m #[(.ref p0), (.ref p1)] 2 = mkF m 0 #[.val (.ref p0), .val (.ref p1)] [] := by first | (simp [entryFrame, mkF, argsToLocals, Value.category]; done) | rfl
set_option maxRecDepth 65536 in
set_option maxHeartbeats 40000000 in
theorem rmSB (l : Launch) (Z : State) (a0 : Array Value) (hw : ∀ d ∈ tables_1, d.before a0 Z = true) (p0 : Addr) (p1 : Addr) (h0 : Heap) (n0 : Nat) (Z0 : n0 ≤ h0.size) (mr ed el em : Addr) (M0 : Mirr Z "[Ljava/lang/Object;" mr) (SL : Sta Z h0 "java/util/ImmutableCollections" "EMPTY_LIST" "Ljava/util/ImmutableCollections$ListN;" (.ref el)) (SE : Sta Z h0 "java/util/ImmutableCollections" "EMPTY" "Ljava/lang/Object;" (.ref em)) (sz : Int32) (vs : List Value) (n : Nat) (hn : sz.toInt = n) (hle : n ≤ vs.length) (hn4 : n ≤ 4) (f1 : Fld Z h0 p1 "java/util/ArrayList" "elementData" "[Ljava/lang/Object;" (.ref ed)) (f2 : Fld Z h0 p1 "java/util/ArrayList" "size" "I" (.int sz)) (E1 : Exa Z h0 p1 "java/util/ArrayList") (A0 : Ar Z h0 ed (.object "java/lang/Object") vs) (EA : Exa Z h0 ed "[Ljava/lang/Object;") (hI : ∀ v ∈ vs.take n, ∃ x, v = Value.ref x ∧ Ins Z h0 x "java/lang/Object" true) (g1 : Fld Z h0 p0 "com/example/delvedeck/delvedeck/solo/SkillBoard" "skills" "Ljava/util/List;" .null) (g2 : Fld Z h0 p0 "com/example/delvedeck/delvedeck/solo/SkillBoard" "faceDown" "[Z" .null) (g3 : Fld Z h0 p0 "com/example/delvedeck/delvedeck/solo/SkillBoard" "charges" "[I" .null) (g4 : Fld Z h0 p0 "com/example/delvedeck/delvedeck/solo/SkillBoard" "performed" "[Z" .null) (E0 : Exa Z h0 p0 "com/example/delvedeck/delvedeck/solo/SkillBoard") (ga : n0 ≤ p0) (npl : p1 ≠ p0) :
    Con l Z (⟨"com/example/delvedeck/delvedeck/solo/SkillBoard", "<init>", "(Ljava/util/List;)V"⟩ : MethodName) prog_37_method_1_code 2 none [] ({ frames := 9, cells := 6, slots := 22, locals := 116 } : Room) 6 22 #[(.ref p0), (.ref p1)] h0 (fun v h L => v = none ∧ Fr n0 L ∧ Keep h0 h [p0] ∧ ∃ fd ch pf, n0 ≤ fd ∧ n0 ≤ ch ∧ n0 ≤ pf ∧ h0.size ≤ fd ∧ h0.size ≤ ch ∧ h0.size ≤ pf ∧ fd ≠ ch ∧ Fld Z h p0 "com/example/delvedeck/delvedeck/solo/SkillBoard" "faceDown" "[Z" (.ref fd) ∧ Fld Z h p0 "com/example/delvedeck/delvedeck/solo/SkillBoard" "charges" "[I" (.ref ch) ∧ Fld Z h p0 "com/example/delvedeck/delvedeck/solo/SkillBoard" "performed" "[Z" (.ref pf) ∧ Ar Z h fd .boolean (List.replicate n (.int (0 : Int32))) ∧ Ar Z h ch .int (List.replicate n (.int (0 : Int32))) ∧ Ar Z h pf .boolean (List.replicate n (.int (0 : Int32)))) := by
  refine Con.body (plainFor_of_name (by first | (simp [plainName, overriddenIn]; done) | decide +kernel)) ?_
  intro p e s m below meth c T0 hx hby hml hown hnm hZ hret hlk X0 e0
  refine Goes.cast (ef_5 m p0 p1) ?_
  have N0 := Fr.nil n0
  have K0 : Keep h0 h0 [p0] := Keep.refl _ _
  show Goes p.tables e below (T0.setTop (mkF m 0 #[.val (.ref p0), .val (.ref p1)] [])) _
  refine g_aloadN X0 hx (hb hby d5_0) rfl rfl ?_
  show Goes p.tables e below (T0.setTop (mkF m 1 #[.val (.ref p0), .val (.ref p1)] [(.ref p0)])) _
  refine g_init0 X0 hx hZ hown (by rw [hml]; rfl) e0 (hw _ (List.mem_of_getElem? (i := 32) rfl)) (hw _ (List.mem_of_getElem? (i := 19) rfl)) (hw _ (List.mem_of_getElem? (i := 20) rfl)) (hb hby d5_1) 0 (by decide) (by first | decide | exact Nat.le_refl _) (by first | decide | exact Nat.le_refl _) (fun T1 X1 e1 => ?_)
  show Goes p.tables e below (T1.setTop (mkF m 4 #[.val (.ref p0), .val (.ref p1)] [])) _
  refine g_aloadN X1 hx (hb hby d5_4) rfl rfl ?_
  show Goes p.tables e below (T1.setTop (mkF m 5 #[.val (.ref p0), .val (.ref p1)] [(.ref p0)])) _
  refine g_aloadN X1 hx (hb hby d5_5) rfl rfl ?_
  show Goes p.tables e below (T1.setTop (mkF m 6 #[.val (.ref p0), .val (.ref p1)] [(.ref p1), (.ref p0)])) _
  refine g_callS X1 hx hZ hown (by rw [hml]; rfl) e1 (hw _ (List.mem_of_getElem? (i := 33) rfl)) (hw _ (List.mem_of_getElem? (i := 34) rfl)) (hw _ (List.mem_of_getElem? (i := 35) rfl)) (hw _ (List.mem_of_getElem? (i := 36) rfl)) (rmCO l Z a0 hw p1 h0 n0 Z0 mr ed el em M0 SL SE sz vs n hn hle hn4 f1 f2 E1 A0 EA hI) [(.ref p1)] rfl [(.ref p0)] rfl (lenOf pd_6 rfl) (hb hby d5_6) (by decide) 1 (by decide) (by decide) (by first | decide | exact Nat.le_refl _) (by decide) (by decide) (fun v T2 L2 X2 hQ2 => ?_)
  obtain ⟨r, rfl, Nb, Kb⟩ := hQ2
  have Ky : Keep h0 T2.heap [p0] := K0.trans Kb all0
  have fx3 : Fld Z T2.heap p0 "com/example/delvedeck/delvedeck/solo/SkillBoard" "skills" "Ljava/util/List;" .null := Fld.keep g1 Kb nin0
  have fx4 : Fld Z T2.heap p0 "com/example/delvedeck/delvedeck/solo/SkillBoard" "faceDown" "[Z" .null := Fld.keep g2 Kb nin0
  have fx5 : Fld Z T2.heap p0 "com/example/delvedeck/delvedeck/solo/SkillBoard" "charges" "[I" .null := Fld.keep g3 Kb nin0
  have fx6 : Fld Z T2.heap p0 "com/example/delvedeck/delvedeck/solo/SkillBoard" "performed" "[Z" .null := Fld.keep g4 Kb nin0
  have fx7 : Exa Z T2.heap p0 "com/example/delvedeck/delvedeck/solo/SkillBoard" := Exa.keep E0 Kb
  have fx8 : Fld Z T2.heap p1 "java/util/ArrayList" "size" "I" (.int sz) := Fld.keep f2 Kb nin0
  have fx9 : Exa Z T2.heap p1 "java/util/ArrayList" := Exa.keep E1 Kb
  have N10 := Fr.app N0 Nb
  have Z11 : n0 ≤ T2.heap.size := Nat.le_trans Z0 Kb.1
  show Goes p.tables e below (T2.setTop (mkF m 9 #[.val (.ref p0), .val (.ref p1)] [(.ref r), (.ref p0)])) _
  refine g_putF X2 hx hZ hown rfl (hw _ (List.mem_of_getElem? (i := 62) rfl)) Via.refl (v' := (.ref r)) fx3 fx7 (Or.inr ⟨(hw _ (List.mem_of_getElem? (i := 63) rfl)), rfl, hnm⟩) (hw _ (List.mem_of_getElem? (i := 27) rfl)) (ty := (.object "java/util/List")) (by decide) rfl rfl (hb hby d5_9) (fun T12 h12 X12 e12 W12 => ?_)
  have fx13 : Fld Z h12 p0 "com/example/delvedeck/delvedeck/solo/SkillBoard" "faceDown" "[Z" .null := Fld.other W12 fx4 (Or.inr (slot_ne (t := (.array .boolean)) (t' := (.object "java/util/List")) (Or.inr (hw _ (List.mem_of_getElem? (i := 75) rfl))) (Or.inr (hw _ (List.mem_of_getElem? (i := 63) rfl))) (by decide) (by decide) (by decide)))
  have fx14 : Fld Z h12 p0 "com/example/delvedeck/delvedeck/solo/SkillBoard" "charges" "[I" .null := Fld.other W12 fx5 (Or.inr (slot_ne (t := (.array .int)) (t' := (.object "java/util/List")) (Or.inr (hw _ (List.mem_of_getElem? (i := 78) rfl))) (Or.inr (hw _ (List.mem_of_getElem? (i := 63) rfl))) (by decide) (by decide) (by decide)))
  have fx15 : Fld Z h12 p0 "com/example/delvedeck/delvedeck/solo/SkillBoard" "performed" "[Z" .null := Fld.other W12 fx6 (Or.inr (slot_ne (t := (.array .boolean)) (t' := (.object "java/util/List")) (Or.inr (hw _ (List.mem_of_getElem? (i := 80) rfl))) (Or.inr (hw _ (List.mem_of_getElem? (i := 63) rfl))) (by decide) (by decide) (by decide)))
  have fx16 : Exa Z h12 p0 "com/example/delvedeck/delvedeck/solo/SkillBoard" := Exa.wr W12 fx7
  have fx17 : Fld Z h12 p1 "java/util/ArrayList" "size" "I" (.int sz) := Fld.other W12 fx8 (Or.inl npl)
  have fx18 : Exa Z h12 p1 "java/util/ArrayList" := Exa.wr W12 fx9
  have fx19 : Fld Z h12 p0 "com/example/delvedeck/delvedeck/solo/SkillBoard" "skills" "Ljava/util/List;" (.ref r) := Fld.same W12 fx3
  have N20 := Fr.snoc X12 N10 ga
  have Z21 : n0 ≤ h12.size := by rw [W12.size]; exact Z11
  have K22 : Keep h0 h12 [p0] := Keep.wr Ky W12 (Or.inl (List.mem_of_getElem? (i := 0) rfl))
  show Goes p.tables e below (T12.setTop (mkF m 12 #[.val (.ref p0), .val (.ref p1)] [])) _
  refine g_aloadN X12 hx (hb hby d5_12) rfl rfl ?_
  show Goes p.tables e below (T12.setTop (mkF m 13 #[.val (.ref p0), .val (.ref p1)] [(.ref p0)])) _
  refine g_aloadN X12 hx (hb hby d5_13) rfl rfl ?_
  show Goes p.tables e below (T12.setTop (mkF m 14 #[.val (.ref p0), .val (.ref p1)] [(.ref p1), (.ref p0)])) _
  refine g_callF X12 hx hZ hown (by rw [hml]; rfl) e12 (hw _ (List.mem_of_getElem? (i := 64) rfl)) (hw _ (List.mem_of_getElem? (i := 65) rfl)) (hw _ (List.mem_of_getElem? (i := 66) rfl)) (hw _ (List.mem_of_getElem? (i := 67) rfl)) (hw _ (List.mem_of_getElem? (i := 68) rfl)) (hw _ (List.mem_of_getElem? (i := 69) rfl)) (hw _ (List.mem_of_getElem? (i := 70) rfl)) (hw _ (List.mem_of_getElem? (i := 71) rfl)) (hw _ (List.mem_of_getElem? (i := 2) rfl)) (hw _ (List.mem_of_getElem? (i := 72) rfl)) fx18 (rmSize l Z a0 hw p1 h12 n0 Z21 sz fx17) [] rfl [(.ref p0)] rfl (lenOf pd_10 rfl) (hb hby d5_14) (by decide) 1 (by decide) (by decide) (by first | decide | exact Nat.le_refl _) (by decide) (by decide) (fun v T23 L23 X23 hQ23 => ?_)
  obtain ⟨rfl, e23, rfl⟩ := hQ23
  have N24 := Fr.app N20 (Fr.nil n0)
  show Goes p.tables e below (T23.setTop (mkF m 19 #[.val (.ref p0), .val (.ref p1)] [(.int sz), (.ref p0)])) _
  refine g_newarr X23 hx hZ e23 (hw _ (List.mem_of_getElem? (i := 73) rfl)) (hb hby d5_19) (n := n) hn 4 (by omega) (by decide) (by decide) (by decide) (ad := "[Z") (by decide) rfl (fun T25 h25 a25 ga25 X25 e25 Ex25 Aa25 Ea25 => ?_)
  have ne26 : p0 ≠ a25 := Nat.ne_of_lt (by rw [ga25]; exact fx13.lt)
  have ne27 : p1 ≠ a25 := Nat.ne_of_lt (by rw [ga25]; exact fx17.lt)
  have ge28 : n0 ≤ a25 := by rw [ga25]; exact Z21
  have ge29 : h0.size ≤ a25 := by rw [ga25]; exact K22.1
  have fx30 : Fld Z h25 p0 "com/example/delvedeck/delvedeck/solo/SkillBoard" "faceDown" "[Z" .null := Fld.ext Ex25 fx13
  have fx31 : Fld Z h25 p0 "com/example/delvedeck/delvedeck/solo/SkillBoard" "charges" "[I" .null := Fld.ext Ex25 fx14
  have fx32 : Fld Z h25 p0 "com/example/delvedeck/delvedeck/solo/SkillBoard" "performed" "[Z" .null := Fld.ext Ex25 fx15
  have fx33 : Exa Z h25 p0 "com/example/delvedeck/delvedeck/solo/SkillBoard" := Exa.ext Ex25 fx16
  have fx34 : Fld Z h25 p1 "java/util/ArrayList" "size" "I" (.int sz) := Fld.ext Ex25 fx17
  have fx35 : Exa Z h25 p1 "java/util/ArrayList" := Exa.ext Ex25 fx18
  have fx36 : Fld Z h25 p0 "com/example/delvedeck/delvedeck/solo/SkillBoard" "skills" "Ljava/util/List;" (.ref r) := Fld.ext Ex25 fx19
  have Z37 : n0 ≤ h25.size := Nat.le_trans Z21 Ex25.1
  have K38 : Keep h0 h25 [p0] := Keep.ext K22 Ex25
  have fx39 : Ar Z h25 a25 .boolean (List.replicate n (.int (0 : Int32))) := Aa25
  show Goes p.tables e below (T25.setTop (mkF m 21 #[.val (.ref p0), .val (.ref p1)] [(.ref a25), (.ref p0)])) _
  refine g_putF X25 hx hZ hown e25 (hw _ (List.mem_of_getElem? (i := 74) rfl)) Via.refl (v' := (.ref a25)) fx30 fx33 (Or.inr ⟨(hw _ (List.mem_of_getElem? (i := 75) rfl)), rfl, hnm⟩) (hw _ (List.mem_of_getElem? (i := 27) rfl)) (ty := (.array .boolean)) (by decide) rfl rfl (hb hby d5_21) (fun T40 h40 X40 e40 W40 => ?_)
  have fx41 : Fld Z h40 p0 "com/example/delvedeck/delvedeck/solo/SkillBoard" "charges" "[I" .null := Fld.other W40 fx31 (Or.inr (slot_ne (t := (.array .int)) (t' := (.array .boolean)) (Or.inr (hw _ (List.mem_of_getElem? (i := 78) rfl))) (Or.inr (hw _ (List.mem_of_getElem? (i := 75) rfl))) (by decide) (by decide) (by decide)))
  have fx42 : Fld Z h40 p0 "com/example/delvedeck/delvedeck/solo/SkillBoard" "performed" "[Z" .null := Fld.other W40 fx32 (Or.inr (slot_ne (t := (.array .boolean)) (t' := (.array .boolean)) (Or.inr (hw _ (List.mem_of_getElem? (i := 80) rfl))) (Or.inr (hw _ (List.mem_of_getElem? (i := 75) rfl))) (by decide) (by decide) (by decide)))
  have fx43 : Exa Z h40 p0 "com/example/delvedeck/delvedeck/solo/SkillBoard" := Exa.wr W40 fx33
  have fx44 : Fld Z h40 p1 "java/util/ArrayList" "size" "I" (.int sz) := Fld.other W40 fx34 (Or.inl npl)
  have fx45 : Exa Z h40 p1 "java/util/ArrayList" := Exa.wr W40 fx35
  have fx46 : Fld Z h40 p0 "com/example/delvedeck/delvedeck/solo/SkillBoard" "skills" "Ljava/util/List;" (.ref r) := Fld.other W40 fx36 (Or.inr (slot_ne (t := (.object "java/util/List")) (t' := (.array .boolean)) (Or.inr (hw _ (List.mem_of_getElem? (i := 63) rfl))) (Or.inr (hw _ (List.mem_of_getElem? (i := 75) rfl))) (by decide) (by decide) (by decide)))
  have fx47 : Ar Z h40 a25 .boolean (List.replicate n (.int (0 : Int32))) := Ar.other fx39 W40 (Ne.symm ne26)
  have fx48 : Exa Z h40 a25 "[Z" := Exa.wr W40 Ea25
  have fx49 : Fld Z h40 p0 "com/example/delvedeck/delvedeck/solo/SkillBoard" "faceDown" "[Z" (.ref a25) := Fld.same W40 fx30
  have N50 := Fr.snoc X40 N24 ga
  have Z51 : n0 ≤ h40.size := by rw [W40.size]; exact Z37
  have K52 : Keep h0 h40 [p0] := Keep.wr K38 W40 (Or.inl (List.mem_of_getElem? (i := 0) rfl))
  show Goes p.tables e below (T40.setTop (mkF m 24 #[.val (.ref p0), .val (.ref p1)] [])) _
  refine g_aloadN X40 hx (hb hby d5_24) rfl rfl ?_
  show Goes p.tables e below (T40.setTop (mkF m 25 #[.val (.ref p0), .val (.ref p1)] [(.ref p0)])) _
  refine g_aloadN X40 hx (hb hby d5_25) rfl rfl ?_
  show Goes p.tables e below (T40.setTop (mkF m 26 #[.val (.ref p0), .val (.ref p1)] [(.ref p1), (.ref p0)])) _
  refine g_callF X40 hx hZ hown (by rw [hml]; rfl) e40 (hw _ (List.mem_of_getElem? (i := 64) rfl)) (hw _ (List.mem_of_getElem? (i := 65) rfl)) (hw _ (List.mem_of_getElem? (i := 66) rfl)) (hw _ (List.mem_of_getElem? (i := 67) rfl)) (hw _ (List.mem_of_getElem? (i := 68) rfl)) (hw _ (List.mem_of_getElem? (i := 69) rfl)) (hw _ (List.mem_of_getElem? (i := 70) rfl)) (hw _ (List.mem_of_getElem? (i := 71) rfl)) (hw _ (List.mem_of_getElem? (i := 2) rfl)) (hw _ (List.mem_of_getElem? (i := 72) rfl)) fx45 (rmSize l Z a0 hw p1 h40 n0 Z51 sz fx44) [] rfl [(.ref p0)] rfl (lenOf pd_10 rfl) (hb hby d5_26) (by decide) 1 (by decide) (by decide) (by first | decide | exact Nat.le_refl _) (by decide) (by decide) (fun v T53 L53 X53 hQ53 => ?_)
  obtain ⟨rfl, e53, rfl⟩ := hQ53
  have N54 := Fr.app N50 (Fr.nil n0)
  show Goes p.tables e below (T53.setTop (mkF m 31 #[.val (.ref p0), .val (.ref p1)] [(.int sz), (.ref p0)])) _
  refine g_newarr X53 hx hZ e53 (hw _ (List.mem_of_getElem? (i := 76) rfl)) (hb hby d5_31) (n := n) hn 4 (by omega) (by decide) (by decide) (by decide) (ad := "[I") (by decide) rfl (fun T55 h55 a55 ga55 X55 e55 Ex55 Aa55 Ea55 => ?_)
  have ne56 : p0 ≠ a55 := Nat.ne_of_lt (by rw [ga55]; exact fx41.lt)
  have ne57 : p1 ≠ a55 := Nat.ne_of_lt (by rw [ga55]; exact fx44.lt)
  have ne58 : a25 ≠ a55 := Nat.ne_of_lt (by rw [ga55]; exact fx47.lt)
  have ge59 : n0 ≤ a55 := by rw [ga55]; exact Z51
  have ge60 : h0.size ≤ a55 := by rw [ga55]; exact K52.1
  have fx61 : Fld Z h55 p0 "com/example/delvedeck/delvedeck/solo/SkillBoard" "charges" "[I" .null := Fld.ext Ex55 fx41
  have fx62 : Fld Z h55 p0 "com/example/delvedeck/delvedeck/solo/SkillBoard" "performed" "[Z" .null := Fld.ext Ex55 fx42
  have fx63 : Exa Z h55 p0 "com/example/delvedeck/delvedeck/solo/SkillBoard" := Exa.ext Ex55 fx43
  have fx64 : Fld Z h55 p1 "java/util/ArrayList" "size" "I" (.int sz) := Fld.ext Ex55 fx44
  have fx65 : Exa Z h55 p1 "java/util/ArrayList" := Exa.ext Ex55 fx45
  have fx66 : Fld Z h55 p0 "com/example/delvedeck/delvedeck/solo/SkillBoard" "skills" "Ljava/util/List;" (.ref r) := Fld.ext Ex55 fx46
  have fx67 : Ar Z h55 a25 .boolean (List.replicate n (.int (0 : Int32))) := Ar.ext fx47 Ex55
  have fx68 : Exa Z h55 a25 "[Z" := Exa.ext Ex55 fx48
  have fx69 : Fld Z h55 p0 "com/example/delvedeck/delvedeck/solo/SkillBoard" "faceDown" "[Z" (.ref a25) := Fld.ext Ex55 fx49
  have Z70 : n0 ≤ h55.size := Nat.le_trans Z51 Ex55.1
  have K71 : Keep h0 h55 [p0] := Keep.ext K52 Ex55
  have fx72 : Ar Z h55 a55 .int (List.replicate n (.int (0 : Int32))) := Aa55
  show Goes p.tables e below (T55.setTop (mkF m 33 #[.val (.ref p0), .val (.ref p1)] [(.ref a55), (.ref p0)])) _
  refine g_putF X55 hx hZ hown e55 (hw _ (List.mem_of_getElem? (i := 77) rfl)) Via.refl (v' := (.ref a55)) fx61 fx63 (Or.inr ⟨(hw _ (List.mem_of_getElem? (i := 78) rfl)), rfl, hnm⟩) (hw _ (List.mem_of_getElem? (i := 27) rfl)) (ty := (.array .int)) (by decide) rfl rfl (hb hby d5_33) (fun T73 h73 X73 e73 W73 => ?_)
  have fx74 : Fld Z h73 p0 "com/example/delvedeck/delvedeck/solo/SkillBoard" "performed" "[Z" .null := Fld.other W73 fx62 (Or.inr (slot_ne (t := (.array .boolean)) (t' := (.array .int)) (Or.inr (hw _ (List.mem_of_getElem? (i := 80) rfl))) (Or.inr (hw _ (List.mem_of_getElem? (i := 78) rfl))) (by decide) (by decide) (by decide)))
  have fx75 : Exa Z h73 p0 "com/example/delvedeck/delvedeck/solo/SkillBoard" := Exa.wr W73 fx63
  have fx76 : Fld Z h73 p1 "java/util/ArrayList" "size" "I" (.int sz) := Fld.other W73 fx64 (Or.inl npl)
  have fx77 : Exa Z h73 p1 "java/util/ArrayList" := Exa.wr W73 fx65
  have fx78 : Fld Z h73 p0 "com/example/delvedeck/delvedeck/solo/SkillBoard" "skills" "Ljava/util/List;" (.ref r) := Fld.other W73 fx66 (Or.inr (slot_ne (t := (.object "java/util/List")) (t' := (.array .int)) (Or.inr (hw _ (List.mem_of_getElem? (i := 63) rfl))) (Or.inr (hw _ (List.mem_of_getElem? (i := 78) rfl))) (by decide) (by decide) (by decide)))
  have fx79 : Ar Z h73 a25 .boolean (List.replicate n (.int (0 : Int32))) := Ar.other fx67 W73 (Ne.symm ne26)
  have fx80 : Exa Z h73 a25 "[Z" := Exa.wr W73 fx68
  have fx81 : Fld Z h73 p0 "com/example/delvedeck/delvedeck/solo/SkillBoard" "faceDown" "[Z" (.ref a25) := Fld.other W73 fx69 (Or.inr (slot_ne (t := (.array .boolean)) (t' := (.array .int)) (Or.inr (hw _ (List.mem_of_getElem? (i := 75) rfl))) (Or.inr (hw _ (List.mem_of_getElem? (i := 78) rfl))) (by decide) (by decide) (by decide)))
  have fx82 : Ar Z h73 a55 .int (List.replicate n (.int (0 : Int32))) := Ar.other fx72 W73 (Ne.symm ne56)
  have fx83 : Exa Z h73 a55 "[I" := Exa.wr W73 Ea55
  have fx84 : Fld Z h73 p0 "com/example/delvedeck/delvedeck/solo/SkillBoard" "charges" "[I" (.ref a55) := Fld.same W73 fx61
  have N85 := Fr.snoc X73 N54 ga
  have Z86 : n0 ≤ h73.size := by rw [W73.size]; exact Z70
  have K87 : Keep h0 h73 [p0] := Keep.wr K71 W73 (Or.inl (List.mem_of_getElem? (i := 0) rfl))
  show Goes p.tables e below (T73.setTop (mkF m 36 #[.val (.ref p0), .val (.ref p1)] [])) _
  refine g_aloadN X73 hx (hb hby d5_36) rfl rfl ?_
  show Goes p.tables e below (T73.setTop (mkF m 37 #[.val (.ref p0), .val (.ref p1)] [(.ref p0)])) _
  refine g_aloadN X73 hx (hb hby d5_37) rfl rfl ?_
  show Goes p.tables e below (T73.setTop (mkF m 38 #[.val (.ref p0), .val (.ref p1)] [(.ref p1), (.ref p0)])) _
  refine g_callF X73 hx hZ hown (by rw [hml]; rfl) e73 (hw _ (List.mem_of_getElem? (i := 64) rfl)) (hw _ (List.mem_of_getElem? (i := 65) rfl)) (hw _ (List.mem_of_getElem? (i := 66) rfl)) (hw _ (List.mem_of_getElem? (i := 67) rfl)) (hw _ (List.mem_of_getElem? (i := 68) rfl)) (hw _ (List.mem_of_getElem? (i := 69) rfl)) (hw _ (List.mem_of_getElem? (i := 70) rfl)) (hw _ (List.mem_of_getElem? (i := 71) rfl)) (hw _ (List.mem_of_getElem? (i := 2) rfl)) (hw _ (List.mem_of_getElem? (i := 72) rfl)) fx77 (rmSize l Z a0 hw p1 h73 n0 Z86 sz fx76) [] rfl [(.ref p0)] rfl (lenOf pd_10 rfl) (hb hby d5_38) (by decide) 1 (by decide) (by decide) (by first | decide | exact Nat.le_refl _) (by decide) (by decide) (fun v T88 L88 X88 hQ88 => ?_)
  obtain ⟨rfl, e88, rfl⟩ := hQ88
  have N89 := Fr.app N85 (Fr.nil n0)
  show Goes p.tables e below (T88.setTop (mkF m 43 #[.val (.ref p0), .val (.ref p1)] [(.int sz), (.ref p0)])) _
  refine g_newarr X88 hx hZ e88 (hw _ (List.mem_of_getElem? (i := 73) rfl)) (hb hby d5_43) (n := n) hn 4 (by omega) (by decide) (by decide) (by decide) (ad := "[Z") (by decide) rfl (fun T90 h90 a90 ga90 X90 e90 Ex90 Aa90 Ea90 => ?_)
  have ne91 : p0 ≠ a90 := Nat.ne_of_lt (by rw [ga90]; exact fx74.lt)
  have ne92 : p1 ≠ a90 := Nat.ne_of_lt (by rw [ga90]; exact fx76.lt)
  have ne93 : a25 ≠ a90 := Nat.ne_of_lt (by rw [ga90]; exact fx79.lt)
  have ne94 : a55 ≠ a90 := Nat.ne_of_lt (by rw [ga90]; exact fx82.lt)
  have ge95 : n0 ≤ a90 := by rw [ga90]; exact Z86
  have ge96 : h0.size ≤ a90 := by rw [ga90]; exact K87.1
  have fx97 : Fld Z h90 p0 "com/example/delvedeck/delvedeck/solo/SkillBoard" "performed" "[Z" .null := Fld.ext Ex90 fx74
  have fx98 : Exa Z h90 p0 "com/example/delvedeck/delvedeck/solo/SkillBoard" := Exa.ext Ex90 fx75
  have fx99 : Fld Z h90 p1 "java/util/ArrayList" "size" "I" (.int sz) := Fld.ext Ex90 fx76
  have fx100 : Exa Z h90 p1 "java/util/ArrayList" := Exa.ext Ex90 fx77
  have fx101 : Fld Z h90 p0 "com/example/delvedeck/delvedeck/solo/SkillBoard" "skills" "Ljava/util/List;" (.ref r) := Fld.ext Ex90 fx78
  have fx102 : Ar Z h90 a25 .boolean (List.replicate n (.int (0 : Int32))) := Ar.ext fx79 Ex90
  have fx103 : Exa Z h90 a25 "[Z" := Exa.ext Ex90 fx80
  have fx104 : Fld Z h90 p0 "com/example/delvedeck/delvedeck/solo/SkillBoard" "faceDown" "[Z" (.ref a25) := Fld.ext Ex90 fx81
  have fx105 : Ar Z h90 a55 .int (List.replicate n (.int (0 : Int32))) := Ar.ext fx82 Ex90
  have fx106 : Exa Z h90 a55 "[I" := Exa.ext Ex90 fx83
  have fx107 : Fld Z h90 p0 "com/example/delvedeck/delvedeck/solo/SkillBoard" "charges" "[I" (.ref a55) := Fld.ext Ex90 fx84
  have Z108 : n0 ≤ h90.size := Nat.le_trans Z86 Ex90.1
  have K109 : Keep h0 h90 [p0] := Keep.ext K87 Ex90
  have fx110 : Ar Z h90 a90 .boolean (List.replicate n (.int (0 : Int32))) := Aa90
  show Goes p.tables e below (T90.setTop (mkF m 45 #[.val (.ref p0), .val (.ref p1)] [(.ref a90), (.ref p0)])) _
  refine g_putF X90 hx hZ hown e90 (hw _ (List.mem_of_getElem? (i := 79) rfl)) Via.refl (v' := (.ref a90)) fx97 fx98 (Or.inr ⟨(hw _ (List.mem_of_getElem? (i := 80) rfl)), rfl, hnm⟩) (hw _ (List.mem_of_getElem? (i := 27) rfl)) (ty := (.array .boolean)) (by decide) rfl rfl (hb hby d5_45) (fun T111 h111 X111 e111 W111 => ?_)
  have fx112 : Exa Z h111 p0 "com/example/delvedeck/delvedeck/solo/SkillBoard" := Exa.wr W111 fx98
  have fx113 : Fld Z h111 p1 "java/util/ArrayList" "size" "I" (.int sz) := Fld.other W111 fx99 (Or.inl npl)
  have fx114 : Exa Z h111 p1 "java/util/ArrayList" := Exa.wr W111 fx100
  have fx115 : Fld Z h111 p0 "com/example/delvedeck/delvedeck/solo/SkillBoard" "skills" "Ljava/util/List;" (.ref r) := Fld.other W111 fx101 (Or.inr (slot_ne (t := (.object "java/util/List")) (t' := (.array .boolean)) (Or.inr (hw _ (List.mem_of_getElem? (i := 63) rfl))) (Or.inr (hw _ (List.mem_of_getElem? (i := 80) rfl))) (by decide) (by decide) (by decide)))
  have fx116 : Ar Z h111 a25 .boolean (List.replicate n (.int (0 : Int32))) := Ar.other fx102 W111 (Ne.symm ne26)
  have fx117 : Exa Z h111 a25 "[Z" := Exa.wr W111 fx103
  have fx118 : Fld Z h111 p0 "com/example/delvedeck/delvedeck/solo/SkillBoard" "faceDown" "[Z" (.ref a25) := Fld.other W111 fx104 (Or.inr (slot_ne (t := (.array .boolean)) (t' := (.array .boolean)) (Or.inr (hw _ (List.mem_of_getElem? (i := 75) rfl))) (Or.inr (hw _ (List.mem_of_getElem? (i := 80) rfl))) (by decide) (by decide) (by decide)))
  have fx119 : Ar Z h111 a55 .int (List.replicate n (.int (0 : Int32))) := Ar.other fx105 W111 (Ne.symm ne56)
  have fx120 : Exa Z h111 a55 "[I" := Exa.wr W111 fx106
  have fx121 : Fld Z h111 p0 "com/example/delvedeck/delvedeck/solo/SkillBoard" "charges" "[I" (.ref a55) := Fld.other W111 fx107 (Or.inr (slot_ne (t := (.array .int)) (t' := (.array .boolean)) (Or.inr (hw _ (List.mem_of_getElem? (i := 78) rfl))) (Or.inr (hw _ (List.mem_of_getElem? (i := 80) rfl))) (by decide) (by decide) (by decide)))
  have fx122 : Ar Z h111 a90 .boolean (List.replicate n (.int (0 : Int32))) := Ar.other fx110 W111 (Ne.symm ne91)
  have fx123 : Exa Z h111 a90 "[Z" := Exa.wr W111 Ea90
  have fx124 : Fld Z h111 p0 "com/example/delvedeck/delvedeck/solo/SkillBoard" "performed" "[Z" (.ref a90) := Fld.same W111 fx97
  have N125 := Fr.snoc X111 N89 ga
  have Z126 : n0 ≤ h111.size := by rw [W111.size]; exact Z108
  have K127 : Keep h0 h111 [p0] := Keep.wr K109 W111 (Or.inl (List.mem_of_getElem? (i := 0) rfl))
  show Goes p.tables e below (T111.setTop (mkF m 48 #[.val (.ref p0), .val (.ref p1)] [])) _
  exact g_ret0 X111 hx hret hlk (hb hby d5_48) (by decide) (by decide) (by rw [e111]; exact ⟨rfl, N125, K127, a25, a55, a90, ge28, ge59, ge95, ge29, ge60, ge96, ne58, fx118, fx121, fx124, fx116, fx119, fx122⟩)
theorem d27_0 : decode prog_37_method_11_code 0 = .ok (.aload_n 0, 1) := by decide +kernel
theorem d27_1 : decode prog_37_method_11_code 1 = .ok (.getfield 27, 3) := by decide +kernel
theorem d27_4 : decode prog_37_method_11_code 4 = .ok (.iload_n 1, 1) := by decide +kernel
theorem d27_5 : decode prog_37_method_11_code 5 = .ok (.iload_n 2, 1) := by decide +kernel
theorem d27_6 : decode prog_37_method_11_code 6 = .ok (.iastore, 1) := by decide +kernel
theorem d27_7 : decode prog_37_method_11_code 7 = .ok (.return_, 1) := by decide +kernel
theorem pd_27 : parseMethodDescriptor "(II)V" = some ⟨[.int, .int], none⟩ := by decide +kernel
theorem ef_27 (m : MethodId) (p0 : Addr) (p1 : Int32) (p2 : Int32) : entryFrame m #[(.ref p0), (.int p1), (.int p2)] 3 = mkF m 0 #[.val (.ref p0), .val (.int p1), .val (.int p2)] [] := by first | (simp [entryFrame, mkF, argsToLocals, Value.category]; done) | rfl
set_option maxRecDepth 65536 in
set_option maxHeartbeats 40000000 in
theorem rmCh (l : Launch) (Z : State) (a0 : Array Value) (hw : ∀ d ∈ tables_1, d.before a0 Z = true) (p0 : Addr) (p1 : Int32) (p2 : Int32) (h0 : Heap) (n0 : Nat) (Z0 : n0 ≤ h0.size) (ch : Addr) (ds : List Value) (i : Nat) (hi : p1.toInt = i) (hl : i < ds.length) (f1 : Fld Z h0 p0 "com/example/delvedeck/delvedeck/solo/SkillBoard" "charges" "[I" (.ref ch)) (A0 : Ar Z h0 ch .int ds) (gp : n0 ≤ ch) (npf : p0 ≠ ch) :
    Con l Z (⟨"com/example/delvedeck/delvedeck/solo/SkillBoard", "charge", "(II)V"⟩ : MethodName) prog_37_method_11_code 3 none [] ({ frames := 0, cells := 0, slots := 0, locals := 0 } : Room) 0 0 #[(.ref p0), (.int p1), (.int p2)] h0 (fun v h L => v = none ∧ Fr n0 L ∧ Keep h0 h [ch] ∧ Ar Z h ch .int (ds.set i (.int p2))) := by
  refine Con.body (plainFor_of_name (by first | (simp [plainName, overriddenIn]; done) | decide +kernel)) ?_
  intro p e s m below meth c T0 hx hby hml hown hnm hZ hret hlk X0 e0
  refine Goes.cast (ef_27 m p0 p1 p2) ?_
  have N0 := Fr.nil n0
  have K0 : Keep h0 h0 [ch] := Keep.refl _ _
  show Goes p.tables e below (T0.setTop (mkF m 0 #[.val (.ref p0), .val (.int p1), .val (.int p2)] [])) _
  refine g_aloadN X0 hx (hb hby d27_0) rfl rfl ?_
  show Goes p.tables e below (T0.setTop (mkF m 1 #[.val (.ref p0), .val (.int p1), .val (.int p2)] [(.ref p0)])) _
  refine g_getF X0 hx hZ hown e0 (host := "") (Or.inl (hw _ (List.mem_of_getElem? (i := 77) rfl))) Via.refl f1 (hb hby d27_1) (fun T1 X1 e1 => ?_)
  show Goes p.tables e below (T1.setTop (mkF m 4 #[.val (.ref p0), .val (.int p1), .val (.int p2)] [(.ref ch)])) _
  refine g_iloadN X1 hx (hb hby d27_4) rfl ?_
  show Goes p.tables e below (T1.setTop (mkF m 5 #[.val (.ref p0), .val (.int p1), .val (.int p2)] [(.int p1), (.ref ch)])) _
  refine g_iloadN X1 hx (hb hby d27_5) rfl ?_
  show Goes p.tables e below (T1.setTop (mkF m 6 #[.val (.ref p0), .val (.int p1), .val (.int p2)] [(.int p2), (.int p1), (.ref ch)])) _
  refine g_iastore X1 hx hZ e1 A0 i hi hl (hb hby d27_6) (fun T2 h2 X2 e2 W2 A2 => ?_)
  have fx3 : Fld Z h2 p0 "com/example/delvedeck/delvedeck/solo/SkillBoard" "charges" "[I" (.ref ch) := Fld.other W2 f1 (Or.inl npf)
  have fx4 : Ar Z h2 ch .int (List.set ds i (.int p2)) := A2
  have N5 := Fr.snoc X2 N0 gp
  have Z6 : n0 ≤ h2.size := by rw [W2.size]; exact Z0
  have K7 : Keep h0 h2 [ch] := Keep.wr K0 W2 (Or.inl (List.mem_of_getElem? (i := 0) rfl))
  show Goes p.tables e below (T2.setTop (mkF m 7 #[.val (.ref p0), .val (.int p1), .val (.int p2)] [])) _
  exact g_ret0 X2 hx hret hlk (hb hby d27_7) (by decide) (by decide) (by rw [e2]; exact ⟨rfl, N5, K7, fx4⟩)
theorem d31_0 : decode prog_37_method_12_code 0 = .ok (.aload_n 0, 1) := by decide +kernel
theorem d31_1 : decode prog_37_method_12_code 1 = .ok (.getfield 27, 3) := by decide +kernel
theorem d31_4 : decode prog_37_method_12_code 4 = .ok (.iload_n 1, 1) := by decide +kernel
theorem d31_5 : decode prog_37_method_12_code 5 = .ok (.iaload, 1) := by decide +kernel
theorem d31_6 : decode prog_37_method_12_code 6 = .ok (.istore_n 2, 1) := by decide +kernel
theorem d31_7 : decode prog_37_method_12_code 7 = .ok (.aload_n 0, 1) := by decide +kernel
theorem d31_8 : decode prog_37_method_12_code 8 = .ok (.getfield 27, 3) := by decide +kernel
theorem d31_11 : decode prog_37_method_12_code 11 = .ok (.iload_n 1, 1) := by decide +kernel
theorem d31_12 : decode prog_37_method_12_code 12 = .ok (.iconst 0, 1) := by decide +kernel
theorem d31_13 : decode prog_37_method_12_code 13 = .ok (.iastore, 1) := by decide +kernel
theorem d31_14 : decode prog_37_method_12_code 14 = .ok (.iload_n 2, 1) := by decide +kernel
theorem d31_15 : decode prog_37_method_12_code 15 = .ok (.ireturn, 1) := by decide +kernel
theorem pd_31 : parseMethodDescriptor "(I)I" = some ⟨[.int], some .int⟩ := by decide +kernel
theorem ef_31 (m : MethodId) (p0 : Addr) (p1 : Int32) : entryFrame m #[(.ref p0), (.int p1)] 3 = mkF m 0 #[.val (.ref p0), .val (.int p1), .unset] [] := by first | (simp [entryFrame, mkF, argsToLocals, Value.category]; done) | rfl
set_option maxRecDepth 65536 in
set_option maxHeartbeats 40000000 in
theorem rmSp (l : Launch) (Z : State) (a0 : Array Value) (hw : ∀ d ∈ tables_1, d.before a0 Z = true) (p0 : Addr) (p1 : Int32) (h0 : Heap) (n0 : Nat) (Z0 : n0 ≤ h0.size) (ch : Addr) (ds : List Value) (i : Nat) (hi : p1.toInt = i) (hl : i < ds.length) (f1 : Fld Z h0 p0 "com/example/delvedeck/delvedeck/solo/SkillBoard" "charges" "[I" (.ref ch)) (A0 : Ar Z h0 ch .int ds) (gp : n0 ≤ ch) (npf : p0 ≠ ch) (x : Int32) (hx0 : ds[i]? = some (.int x)) :
    Con l Z (⟨"com/example/delvedeck/delvedeck/solo/SkillBoard", "spend", "(I)I"⟩ : MethodName) prog_37_method_12_code 3 (some .int) [] ({ frames := 0, cells := 0, slots := 0, locals := 0 } : Room) 0 0 #[(.ref p0), (.int p1)] h0 (fun v h L => v = some (.int x) ∧ Fr n0 L ∧ Keep h0 h [ch] ∧ Ar Z h ch .int (ds.set i (.int (0 : Int32)))) := by
  refine Con.body (plainFor_of_name (by first | (simp [plainName, overriddenIn]; done) | decide +kernel)) ?_
  intro p e s m below meth c T0 hx hby hml hown hnm hZ hret hlk X0 e0
  refine Goes.cast (ef_31 m p0 p1) ?_
  have N0 := Fr.nil n0
  have K0 : Keep h0 h0 [ch] := Keep.refl _ _
  show Goes p.tables e below (T0.setTop (mkF m 0 #[.val (.ref p0), .val (.int p1), .unset] [])) _
  refine g_aloadN X0 hx (hb hby d31_0) rfl rfl ?_
  show Goes p.tables e below (T0.setTop (mkF m 1 #[.val (.ref p0), .val (.int p1), .unset] [(.ref p0)])) _
  refine g_getF X0 hx hZ hown e0 (host := "") (Or.inl (hw _ (List.mem_of_getElem? (i := 77) rfl))) Via.refl f1 (hb hby d31_1) (fun T1 X1 e1 => ?_)
  show Goes p.tables e below (T1.setTop (mkF m 4 #[.val (.ref p0), .val (.int p1), .unset] [(.ref ch)])) _
  refine g_iloadN X1 hx (hb hby d31_4) rfl ?_
  show Goes p.tables e below (T1.setTop (mkF m 5 #[.val (.ref p0), .val (.int p1), .unset] [(.int p1), (.ref ch)])) _
  refine g_iaload X1 hx hZ e1 A0 (i := i) (v := (.int x)) hi hx0 (hb hby d31_5) ?_
  show Goes p.tables e below (T1.setTop (mkF m 6 #[.val (.ref p0), .val (.int p1), .unset] [(.int x)])) _
  refine g_istoreN X1 hx (hb hby d31_6) (l' := #[.val (.ref p0), .val (.int p1), .val (.int x)]) rfl ?_
  show Goes p.tables e below (T1.setTop (mkF m 7 #[.val (.ref p0), .val (.int p1), .val (.int x)] [])) _
  refine g_aloadN X1 hx (hb hby d31_7) rfl rfl ?_
  show Goes p.tables e below (T1.setTop (mkF m 8 #[.val (.ref p0), .val (.int p1), .val (.int x)] [(.ref p0)])) _
  refine g_getF X1 hx hZ hown e1 (host := "") (Or.inl (hw _ (List.mem_of_getElem? (i := 77) rfl))) Via.refl f1 (hb hby d31_8) (fun T2 X2 e2 => ?_)
  show Goes p.tables e below (T2.setTop (mkF m 11 #[.val (.ref p0), .val (.int p1), .val (.int x)] [(.ref ch)])) _
  refine g_iloadN X2 hx (hb hby d31_11) rfl ?_
  show Goes p.tables e below (T2.setTop (mkF m 12 #[.val (.ref p0), .val (.int p1), .val (.int x)] [(.int p1), (.ref ch)])) _
  refine g_iconst X2 hx (0 : Int32) (hb hby d31_12) rfl ?_
  show Goes p.tables e below (T2.setTop (mkF m 13 #[.val (.ref p0), .val (.int p1), .val (.int x)] [(.int (0 : Int32)), (.int p1), (.ref ch)])) _
  refine g_iastore X2 hx hZ e2 A0 i hi hl (hb hby d31_13) (fun T3 h3 X3 e3 W3 A3 => ?_)
  have fx4 : Fld Z h3 p0 "com/example/delvedeck/delvedeck/solo/SkillBoard" "charges" "[I" (.ref ch) := Fld.other W3 f1 (Or.inl npf)
  have fx5 : Ar Z h3 ch .int (List.set ds i (.int (0 : Int32))) := A3
  have N6 := Fr.snoc X3 N0 gp
  have Z7 : n0 ≤ h3.size := by rw [W3.size]; exact Z0
  have K8 : Keep h0 h3 [ch] := Keep.wr K0 W3 (Or.inl (List.mem_of_getElem? (i := 0) rfl))
  show Goes p.tables e below (T3.setTop (mkF m 14 #[.val (.ref p0), .val (.int p1), .val (.int x)] [])) _
  refine g_iloadN X3 hx (hb hby d31_14) rfl ?_
  show Goes p.tables e below (T3.setTop (mkF m 15 #[.val (.ref p0), .val (.int p1), .val (.int x)] [(.int x)])) _
  exact g_retI X3 hx hret hlk (hb hby d31_15) (by decide) (by decide) (by rw [e3]; exact ⟨rfl, N6, K8, fx5⟩)
theorem d29_0 : decode prog_37_method_8_code 0 = .ok (.aload_n 0, 1) := by decide +kernel
theorem d29_1 : decode prog_37_method_8_code 1 = .ok (.getfield 23, 3) := by decide +kernel
theorem d29_4 : decode prog_37_method_8_code 4 = .ok (.iload_n 1, 1) := by decide +kernel
theorem d29_5 : decode prog_37_method_8_code 5 = .ok (.iconst 1, 1) := by decide +kernel
theorem d29_6 : decode prog_37_method_8_code 6 = .ok (.bastore, 1) := by decide +kernel
theorem d29_7 : decode prog_37_method_8_code 7 = .ok (.aload_n 0, 1) := by decide +kernel
theorem d29_8 : decode prog_37_method_8_code 8 = .ok (.getfield 27, 3) := by decide +kernel
theorem d29_11 : decode prog_37_method_8_code 11 = .ok (.iload_n 1, 1) := by decide +kernel
theorem d29_12 : decode prog_37_method_8_code 12 = .ok (.iconst 0, 1) := by decide +kernel
theorem d29_13 : decode prog_37_method_8_code 13 = .ok (.iastore, 1) := by decide +kernel
theorem d29_14 : decode prog_37_method_8_code 14 = .ok (.return_, 1) := by decide +kernel
theorem pd_29 : parseMethodDescriptor "(I)V" = some ⟨[.int], none⟩ := by decide +kernel
theorem ef_29 (m : MethodId) (p0 : Addr) (p1 : Int32) : entryFrame m #[(.ref p0), (.int p1)] 2 = mkF m 0 #[.val (.ref p0), .val (.int p1)] [] := by first | (simp [entryFrame, mkF, argsToLocals, Value.category]; done) | rfl
set_option maxRecDepth 65536 in
set_option maxHeartbeats 40000000 in
theorem rmTD (l : Launch) (Z : State) (a0 : Array Value) (hw : ∀ d ∈ tables_1, d.before a0 Z = true) (p0 : Addr) (p1 : Int32) (h0 : Heap) (n0 : Nat) (Z0 : n0 ≤ h0.size) (ch : Addr) (ds : List Value) (i : Nat) (hi : p1.toInt = i) (hl : i < ds.length) (f1 : Fld Z h0 p0 "com/example/delvedeck/delvedeck/solo/SkillBoard" "charges" "[I" (.ref ch)) (A0 : Ar Z h0 ch .int ds) (gp : n0 ≤ ch) (npf : p0 ≠ ch) (fd : Addr) (es : List Value) (f2 : Fld Z h0 p0 "com/example/delvedeck/delvedeck/solo/SkillBoard" "faceDown" "[Z" (.ref fd)) (A1 : Ar Z h0 fd .boolean es) (hl2 : i < es.length) (gq : n0 ≤ fd) (nqf : p0 ≠ fd) (nfc : fd ≠ ch) :
    Con l Z (⟨"com/example/delvedeck/delvedeck/solo/SkillBoard", "turnDown", "(I)V"⟩ : MethodName) prog_37_method_8_code 2 none [] ({ frames := 0, cells := 0, slots := 0, locals := 0 } : Room) 0 0 #[(.ref p0), (.int p1)] h0 (fun v h L => v = none ∧ Fr n0 L ∧ Keep h0 h [ch, fd] ∧ Ar Z h ch .int (ds.set i (.int (0 : Int32))) ∧ Ar Z h fd .boolean (es.set i (.int (1 : Int32)))) := by
  refine Con.body (plainFor_of_name (by first | (simp [plainName, overriddenIn]; done) | decide +kernel)) ?_
  intro p e s m below meth c T0 hx hby hml hown hnm hZ hret hlk X0 e0
  refine Goes.cast (ef_29 m p0 p1) ?_
  have N0 := Fr.nil n0
  have K0 : Keep h0 h0 [ch, fd] := Keep.refl _ _
  show Goes p.tables e below (T0.setTop (mkF m 0 #[.val (.ref p0), .val (.int p1)] [])) _
  refine g_aloadN X0 hx (hb hby d29_0) rfl rfl ?_
  show Goes p.tables e below (T0.setTop (mkF m 1 #[.val (.ref p0), .val (.int p1)] [(.ref p0)])) _
  refine g_getF X0 hx hZ hown e0 (host := "") (Or.inl (hw _ (List.mem_of_getElem? (i := 74) rfl))) Via.refl f2 (hb hby d29_1) (fun T1 X1 e1 => ?_)
  show Goes p.tables e below (T1.setTop (mkF m 4 #[.val (.ref p0), .val (.int p1)] [(.ref fd)])) _
  refine g_iloadN X1 hx (hb hby d29_4) rfl ?_
  show Goes p.tables e below (T1.setTop (mkF m 5 #[.val (.ref p0), .val (.int p1)] [(.int p1), (.ref fd)])) _
  refine g_iconst X1 hx (1 : Int32) (hb hby d29_5) rfl ?_
  show Goes p.tables e below (T1.setTop (mkF m 6 #[.val (.ref p0), .val (.int p1)] [(.int (1 : Int32)), (.int p1), (.ref fd)])) _
  refine g_zastore X1 hx hZ e1 A1 i hi hl2 (1 : Int32) (by decide) (hb hby d29_6) (fun T2 h2 X2 e2 W2 A2 => ?_)
  have fx3 : Fld Z h2 p0 "com/example/delvedeck/delvedeck/solo/SkillBoard" "charges" "[I" (.ref ch) := Fld.other W2 f1 (Or.inl nqf)
  have fx4 : Ar Z h2 ch .int ds := Ar.other A0 W2 (Ne.symm nfc)
  have fx5 : Fld Z h2 p0 "com/example/delvedeck/delvedeck/solo/SkillBoard" "faceDown" "[Z" (.ref fd) := Fld.other W2 f2 (Or.inl nqf)
  have fx6 : Ar Z h2 fd .boolean (List.set es i (.int (1 : Int32))) := A2
  have N7 := Fr.snoc X2 N0 gq
  have Z8 : n0 ≤ h2.size := by rw [W2.size]; exact Z0
  have K9 : Keep h0 h2 [ch, fd] := Keep.wr K0 W2 (Or.inl (List.mem_of_getElem? (i := 1) rfl))
  show Goes p.tables e below (T2.setTop (mkF m 7 #[.val (.ref p0), .val (.int p1)] [])) _
  refine g_aloadN X2 hx (hb hby d29_7) rfl rfl ?_
  show Goes p.tables e below (T2.setTop (mkF m 8 #[.val (.ref p0), .val (.int p1)] [(.ref p0)])) _
  refine g_getF X2 hx hZ hown e2 (host := "") (Or.inl (hw _ (List.mem_of_getElem? (i := 77) rfl))) Via.refl fx3 (hb hby d29_8) (fun T10 X10 e10 => ?_)
  show Goes p.tables e below (T10.setTop (mkF m 11 #[.val (.ref p0), .val (.int p1)] [(.ref ch)])) _
  refine g_iloadN X10 hx (hb hby d29_11) rfl ?_
  show Goes p.tables e below (T10.setTop (mkF m 12 #[.val (.ref p0), .val (.int p1)] [(.int p1), (.ref ch)])) _
  refine g_iconst X10 hx (0 : Int32) (hb hby d29_12) rfl ?_
  show Goes p.tables e below (T10.setTop (mkF m 13 #[.val (.ref p0), .val (.int p1)] [(.int (0 : Int32)), (.int p1), (.ref ch)])) _
  refine g_iastore X10 hx hZ e10 fx4 i hi hl (hb hby d29_13) (fun T11 h11 X11 e11 W11 A11 => ?_)
  have fx12 : Fld Z h11 p0 "com/example/delvedeck/delvedeck/solo/SkillBoard" "charges" "[I" (.ref ch) := Fld.other W11 fx3 (Or.inl npf)
  have fx13 : Fld Z h11 p0 "com/example/delvedeck/delvedeck/solo/SkillBoard" "faceDown" "[Z" (.ref fd) := Fld.other W11 fx5 (Or.inl npf)
  have fx14 : Ar Z h11 fd .boolean (List.set es i (.int (1 : Int32))) := Ar.other fx6 W11 nfc
  have fx15 : Ar Z h11 ch .int (List.set ds i (.int (0 : Int32))) := A11
  have N16 := Fr.snoc X11 N7 gp
  have Z17 : n0 ≤ h11.size := by rw [W11.size]; exact Z8
  have K18 : Keep h0 h11 [ch, fd] := Keep.wr K9 W11 (Or.inl (List.mem_of_getElem? (i := 0) rfl))
  show Goes p.tables e below (T11.setTop (mkF m 14 #[.val (.ref p0), .val (.int p1)] [])) _
  exact g_ret0 X11 hx hret hlk (hb hby d29_14) (by decide) (by decide) (by rw [e11]; exact ⟨rfl, N16, K18, fx15, fx14⟩)
theorem d28_0 : decode method_2_code 0 = .ok (.iload_n 2, 1) := by decide +kernel
theorem d28_1 : decode method_2_code 1 = .ok (.ifCond .eq 11, 3) := by decide +kernel
theorem d28_4 : decode method_2_code 4 = .ok (.aload_n 0, 1) := by decide +kernel
theorem d28_5 : decode method_2_code 5 = .ok (.iload_n 1, 1) := by decide +kernel
theorem d28_6 : decode method_2_code 6 = .ok (.invokevirtual 7, 3) := by decide +kernel
theorem d28_9 : decode method_2_code 9 = .ok (.goto 9, 3) := by decide +kernel
theorem d28_12 : decode method_2_code 12 = .ok (.aload_n 0, 1) := by decide +kernel
theorem d28_13 : decode method_2_code 13 = .ok (.iload_n 1, 1) := by decide +kernel
theorem d28_14 : decode method_2_code 14 = .ok (.invokevirtual 13, 3) := by decide +kernel
theorem d28_17 : decode method_2_code 17 = .ok (.pop, 1) := by decide +kernel
theorem d28_18 : decode method_2_code 18 = .ok (.return_, 1) := by decide +kernel
theorem pd_28 : parseMethodDescriptor "(Lcom/example/delvedeck/delvedeck/solo/SkillBoard;IZ)V" = some ⟨[(.object "com/example/delvedeck/delvedeck/solo/SkillBoard"), .int, .boolean], none⟩ := by decide +kernel
theorem ef_28 (m : MethodId) (p0 : Addr) (p1 : Int32) (p2 : Int32) : entryFrame m #[(.ref p0), (.int p1), (.int p2)] 3 = mkF m 0 #[.val (.ref p0), .val (.int p1), .val (.int p2)] [] := by first | (simp [entryFrame, mkF, argsToLocals, Value.category]; done) | rfl
set_option maxRecDepth 65536 in
set_option maxHeartbeats 40000000 in
theorem rmRem (l : Launch) (Z : State) (a0 : Array Value) (hw : ∀ d ∈ tables_1, d.before a0 Z = true) (p0 : Addr) (p1 : Int32) (p2 : Int32) (h0 : Heap) (n0 : Nat) (Z0 : n0 ≤ h0.size) (ch : Addr) (ds : List Value) (i : Nat) (hi : p1.toInt = i) (hl : i < ds.length) (f1 : Fld Z h0 p0 "com/example/delvedeck/delvedeck/solo/SkillBoard" "charges" "[I" (.ref ch)) (A0 : Ar Z h0 ch .int ds) (gp : n0 ≤ ch) (npf : p0 ≠ ch) (fd : Addr) (es : List Value) (f2 : Fld Z h0 p0 "com/example/delvedeck/delvedeck/solo/SkillBoard" "faceDown" "[Z" (.ref fd)) (A1 : Ar Z h0 fd .boolean es) (hl2 : i < es.length) (gq : n0 ≤ fd) (nqf : p0 ≠ fd) (nfc : fd ≠ ch) (x : Int32) (hx0 : ds[i]? = some (.int x)) (E0 : Exa Z h0 p0 "com/example/delvedeck/delvedeck/solo/SkillBoard") :
    Con l Z (⟨"com/example/delvedeck/delvedeck/solo/SkillBoardChargedPinLaw", "remove", "(Lcom/example/delvedeck/delvedeck/solo/SkillBoard;IZ)V"⟩ : MethodName) method_2_code 3 none [] ({ frames := 1, cells := 0, slots := 0, locals := 15 } : Room) 0 0 #[(.ref p0), (.int p1), (.int p2)] h0 (fun v h L => v = none ∧ Fr n0 L ∧ Keep h0 h [ch, fd] ∧ Ar Z h ch .int (ds.set i (.int (0 : Int32))) ∧ ∃ es2, es2.length = es.length ∧ Ar Z h fd .boolean es2) := by
  refine Con.body (plainFor_of_name (by first | (simp [plainName, overriddenIn]; done) | decide +kernel)) ?_
  intro p e s m below meth c T0 hx hby hml hown hnm hZ hret hlk X0 e0
  refine Goes.cast (ef_28 m p0 p1 p2) ?_
  have N0 := Fr.nil n0
  show Goes p.tables e below (T0.setTop (mkF m 0 #[.val (.ref p0), .val (.int p1), .val (.int p2)] [])) _
  refine g_iloadN X0 hx (hb hby d28_0) rfl ?_
  show Goes p.tables e below (T0.setTop (mkF m 1 #[.val (.ref p0), .val (.int p1), .val (.int p2)] [(.int p2)])) _
  refine g_if_eq X0 hx (hb hby d28_1) (by decide) (pc' := 12) (by decide) (fun c1 => ?_) (fun c1 => ?_)
  · skip
    show Goes p.tables e below (T0.setTop (mkF m 12 #[.val (.ref p0), .val (.int p1), .val (.int p2)] [])) _
    refine g_aloadN X0 hx (hb hby d28_12) rfl rfl ?_
    show Goes p.tables e below (T0.setTop (mkF m 13 #[.val (.ref p0), .val (.int p1), .val (.int p2)] [(.ref p0)])) _
    refine g_iloadN X0 hx (hb hby d28_13) rfl ?_
    show Goes p.tables e below (T0.setTop (mkF m 14 #[.val (.ref p0), .val (.int p1), .val (.int p2)] [(.int p1), (.ref p0)])) _
    refine g_callV X0 hx hZ hown (by rw [hml]; rfl) e0 (K := "com/example/delvedeck/delvedeck/solo/SkillBoard") (hw _ (List.mem_of_getElem? (i := 220) rfl)) (hw _ (List.mem_of_getElem? (i := 221) rfl)) (hw _ (List.mem_of_getElem? (i := 223) rfl)) (hw _ (List.mem_of_getElem? (i := 222) rfl)) (hw _ (List.mem_of_getElem? (i := 28) rfl)) (hw _ (List.mem_of_getElem? (i := 224) rfl)) E0 (rmSp l Z a0 hw p0 p1 h0 n0 Z0 ch ds i hi hl f1 A0 gp npf x hx0) [(.int p1)] rfl [] rfl (lenOf pd_31 rfl) (hb hby d28_14) (by decide) 0 (by decide) (by decide) (by first | decide | exact Nat.le_refl _) (by decide) (by decide) (fun v T1 L1 X1 hQ1 => ?_)
    obtain ⟨rfl, Nb, Kb, Ab⟩ := hQ1
    have Ac := A1.keep Kb (ninS nfc nin0)
    have Kc : Keep h0 T1.heap [ch, fd] := (Keep.refl h0 [ch, fd]).trans Kb (allS (Or.inl (List.mem_of_getElem? (i := 0) rfl)) all0)
    show Goes p.tables e below (T1.setTop (mkF m 17 #[.val (.ref p0), .val (.int p1), .val (.int p2)] [(.int x)])) _
    refine g_pop X1 hx (hb hby d28_17) rfl ?_
    show Goes p.tables e below (T1.setTop (mkF m 18 #[.val (.ref p0), .val (.int p1), .val (.int p2)] [])) _
    exact g_ret0 X1 hx hret hlk (hb hby d28_18) (by decide) (by decide) ⟨rfl, Fr.app N0 Nb, Kc, Ab, _, rfl, Ac⟩
  · skip
    show Goes p.tables e below (T0.setTop (mkF m 4 #[.val (.ref p0), .val (.int p1), .val (.int p2)] [])) _
    refine g_aloadN X0 hx (hb hby d28_4) rfl rfl ?_
    show Goes p.tables e below (T0.setTop (mkF m 5 #[.val (.ref p0), .val (.int p1), .val (.int p2)] [(.ref p0)])) _
    refine g_iloadN X0 hx (hb hby d28_5) rfl ?_
    show Goes p.tables e below (T0.setTop (mkF m 6 #[.val (.ref p0), .val (.int p1), .val (.int p2)] [(.int p1), (.ref p0)])) _
    refine g_callV X0 hx hZ hown (by rw [hml]; rfl) e0 (K := "com/example/delvedeck/delvedeck/solo/SkillBoard") (hw _ (List.mem_of_getElem? (i := 199) rfl)) (hw _ (List.mem_of_getElem? (i := 200) rfl)) (hw _ (List.mem_of_getElem? (i := 202) rfl)) (hw _ (List.mem_of_getElem? (i := 201) rfl)) (hw _ (List.mem_of_getElem? (i := 28) rfl)) (hw _ (List.mem_of_getElem? (i := 203) rfl)) E0 (rmTD l Z a0 hw p0 p1 h0 n0 Z0 ch ds i hi hl f1 A0 gp npf fd es f2 A1 hl2 gq nqf nfc) [(.int p1)] rfl [] rfl (lenOf pd_29 rfl) (hb hby d28_6) (by decide) 0 (by decide) (by decide) (by first | decide | exact Nat.le_refl _) (by decide) (by decide) (fun v T2 L2 X2 hQ2 => ?_)
    obtain ⟨rfl, Nb, Kb, Ab, Ac⟩ := hQ2
    show Goes p.tables e below (T2.setTop (mkF m 9 #[.val (.ref p0), .val (.int p1), .val (.int p2)] [])) _
    refine g_goto X2 hx (hb hby d28_9) (by decide) (pc' := 18) (by decide) ?_
    show Goes p.tables e below (T2.setTop (mkF m 18 #[.val (.ref p0), .val (.int p1), .val (.int p2)] [])) _
    exact g_ret0 X2 hx hret hlk (hb hby d28_18) (by decide) (by decide) ⟨rfl, Fr.app N0 Nb, Kb, Ab, _, List.length_set, Ac⟩
def sumL : List Int32 → Int32
  | [] => 0
  | x :: t => x + sumL t
theorem own_sumS : ∀ (xs : List Int32) (k : Nat) (y : Int32), xs[k]? = some y → sumL (xs.take (k + 1)) = sumL (xs.take k) + y
  | [], k, y, h => by simp at h
  | x :: t, 0, y, h => by
    cases Option.some.inj (show some x = some y from h)
    show x + sumL [] = sumL [] + x
    rw [Int32.add_comm]
  | x :: t, k + 1, y, h => by
    show x + sumL (t.take (k + 1)) = (x + sumL (t.take k)) + y
    rw [own_sumS t k y h, Int32.add_assoc]
theorem d11_0 : decode prog_37_method_13_code 0 = .ok (.iconst 0, 1) := by decide +kernel
theorem d11_1 : decode prog_37_method_13_code 1 = .ok (.istore_n 1, 1) := by decide +kernel
theorem d11_2 : decode prog_37_method_13_code 2 = .ok (.aload_n 0, 1) := by decide +kernel
theorem d11_3 : decode prog_37_method_13_code 3 = .ok (.getfield 27, 3) := by decide +kernel
theorem d11_6 : decode prog_37_method_13_code 6 = .ok (.astore_n 2, 1) := by decide +kernel
theorem d11_7 : decode prog_37_method_13_code 7 = .ok (.aload_n 2, 1) := by decide +kernel
theorem d11_8 : decode prog_37_method_13_code 8 = .ok (.arraylength, 1) := by decide +kernel
theorem d11_9 : decode prog_37_method_13_code 9 = .ok (.istore_n 3, 1) := by decide +kernel
theorem d11_10 : decode prog_37_method_13_code 10 = .ok (.iconst 0, 1) := by decide +kernel
theorem d11_11 : decode prog_37_method_13_code 11 = .ok (.istore 4, 2) := by decide +kernel
theorem d11_13 : decode prog_37_method_13_code 13 = .ok (.iload 4, 2) := by decide +kernel
theorem d11_15 : decode prog_37_method_13_code 15 = .ok (.iload_n 3, 1) := by decide +kernel
theorem d11_16 : decode prog_37_method_13_code 16 = .ok (.if_icmp .ge 20, 3) := by decide +kernel
theorem d11_19 : decode prog_37_method_13_code 19 = .ok (.aload_n 2, 1) := by decide +kernel
theorem d11_20 : decode prog_37_method_13_code 20 = .ok (.iload 4, 2) := by decide +kernel
theorem d11_22 : decode prog_37_method_13_code 22 = .ok (.iaload, 1) := by decide +kernel
theorem d11_23 : decode prog_37_method_13_code 23 = .ok (.istore 5, 2) := by decide +kernel
theorem d11_25 : decode prog_37_method_13_code 25 = .ok (.iload_n 1, 1) := by decide +kernel
theorem d11_26 : decode prog_37_method_13_code 26 = .ok (.iload 5, 2) := by decide +kernel
theorem d11_28 : decode prog_37_method_13_code 28 = .ok (.iadd, 1) := by decide +kernel
theorem d11_29 : decode prog_37_method_13_code 29 = .ok (.istore_n 1, 1) := by decide +kernel
theorem d11_30 : decode prog_37_method_13_code 30 = .ok (.iinc 4 1, 3) := by decide +kernel
theorem d11_33 : decode prog_37_method_13_code 33 = .ok (.goto (-20), 3) := by decide +kernel
theorem d11_36 : decode prog_37_method_13_code 36 = .ok (.iload_n 1, 1) := by decide +kernel
theorem d11_37 : decode prog_37_method_13_code 37 = .ok (.ireturn, 1) := by decide +kernel
theorem pd_11 : parseMethodDescriptor "()I" = some ⟨[], some .int⟩ := by decide +kernel
theorem ef_11 (m : MethodId) (p0 : Addr) : entryFrame m #[(.ref p0)] 6 = mkF m 0 #[.val (.ref p0), .unset, .unset, .unset, .unset, .unset] [] := by first | (simp [entryFrame, mkF, argsToLocals, Value.category]; done) | rfl
set_option maxRecDepth 65536 in
set_option maxHeartbeats 40000000 in
theorem rmCd (l : Launch) (Z : State) (a0 : Array Value) (hw : ∀ d ∈ tables_1, d.before a0 Z = true) (p0 : Addr) (h0 : Heap) (n0 : Nat) (Z0 : n0 ≤ h0.size) (ad : Addr) (xs : List Int32) (f1 : Fld Z h0 p0 "com/example/delvedeck/delvedeck/solo/SkillBoard" "charges" "[I" (.ref ad)) (A0 : Ar Z h0 ad .int (xs.map Value.int)) (hl : xs.length ≤ 4) :
    Con l Z (⟨"com/example/delvedeck/delvedeck/solo/SkillBoard", "charged", "()I"⟩ : MethodName) prog_37_method_13_code 6 (some .int) [] ({ frames := 0, cells := 0, slots := 0, locals := 0 } : Room) 0 0 #[(.ref p0)] h0 (fun v h L => v = some (.int (sumL xs)) ∧ h = h0 ∧ L = []) := by
  refine Con.body (plainFor_of_name (by first | (simp [plainName, overriddenIn]; done) | decide +kernel)) ?_
  intro p e s m below meth c T0 hx hby hml hown hnm hZ hret hlk X0 e0
  refine Goes.cast (ef_11 m p0) ?_
  have N0 := Fr.nil n0
  show Goes p.tables e below (T0.setTop (mkF m 0 #[.val (.ref p0), .unset, .unset, .unset, .unset, .unset] [])) _
  refine g_iconst X0 hx (0 : Int32) (hb hby d11_0) rfl ?_
  show Goes p.tables e below (T0.setTop (mkF m 1 #[.val (.ref p0), .unset, .unset, .unset, .unset, .unset] [(.int (0 : Int32))])) _
  refine g_istoreN X0 hx (hb hby d11_1) (l' := #[.val (.ref p0), .val (.int (0 : Int32)), .unset, .unset, .unset, .unset]) rfl ?_
  show Goes p.tables e below (T0.setTop (mkF m 2 #[.val (.ref p0), .val (.int (0 : Int32)), .unset, .unset, .unset, .unset] [])) _
  refine g_aloadN X0 hx (hb hby d11_2) rfl rfl ?_
  show Goes p.tables e below (T0.setTop (mkF m 3 #[.val (.ref p0), .val (.int (0 : Int32)), .unset, .unset, .unset, .unset] [(.ref p0)])) _
  refine g_getF X0 hx hZ hown e0 (host := "") (Or.inl (hw _ (List.mem_of_getElem? (i := 77) rfl))) Via.refl f1 (hb hby d11_3) (fun T1 X1 e1 => ?_)
  show Goes p.tables e below (T1.setTop (mkF m 6 #[.val (.ref p0), .val (.int (0 : Int32)), .unset, .unset, .unset, .unset] [(.ref ad)])) _
  refine g_astoreN X1 hx (hb hby d11_6) rfl (l' := #[.val (.ref p0), .val (.int (0 : Int32)), .val (.ref ad), .unset, .unset, .unset]) rfl ?_
  show Goes p.tables e below (T1.setTop (mkF m 7 #[.val (.ref p0), .val (.int (0 : Int32)), .val (.ref ad), .unset, .unset, .unset] [])) _
  refine g_aloadN X1 hx (hb hby d11_7) rfl rfl ?_
  show Goes p.tables e below (T1.setTop (mkF m 8 #[.val (.ref p0), .val (.int (0 : Int32)), .val (.ref ad), .unset, .unset, .unset] [(.ref ad)])) _
  refine g_alen X1 hx hZ e1 A0 (Int32.ofNat xs.length) (by rw [List.length_map]; exact own_of (by omega)) (hb hby d11_8) ?_
  show Goes p.tables e below (T1.setTop (mkF m 9 #[.val (.ref p0), .val (.int (0 : Int32)), .val (.ref ad), .unset, .unset, .unset] [(.int (Int32.ofNat xs.length))])) _
  refine g_istoreN X1 hx (hb hby d11_9) (l' := #[.val (.ref p0), .val (.int (0 : Int32)), .val (.ref ad), .val (.int (Int32.ofNat xs.length)), .unset, .unset]) rfl ?_
  show Goes p.tables e below (T1.setTop (mkF m 10 #[.val (.ref p0), .val (.int (0 : Int32)), .val (.ref ad), .val (.int (Int32.ofNat xs.length)), .unset, .unset] [])) _
  refine g_iconst X1 hx (0 : Int32) (hb hby d11_10) rfl ?_
  show Goes p.tables e below (T1.setTop (mkF m 11 #[.val (.ref p0), .val (.int (0 : Int32)), .val (.ref ad), .val (.int (Int32.ofNat xs.length)), .unset, .unset] [(.int (0 : Int32))])) _
  refine g_istore X1 hx (hb hby d11_11) (l' := #[.val (.ref p0), .val (.int (0 : Int32)), .val (.ref ad), .val (.int (Int32.ofNat xs.length)), .val (.int (0 : Int32)), .unset]) rfl ?_
  have loop : ∀ k i9 : Nat, ∀ (sl : Slot), One sl → xs.length - i9 = k → i9 ≤ xs.length → ∀ (T : State), Stand p l e ({ frames := 0, cells := 0, slots := 0, locals := 0 } : Room) s m #[(.ref p0)] below meth c T [] 0 0 → T.heap = h0 → Goes p.tables e below (T.setTop (mkF m 13 #[.val (.ref p0), .val (.int (sumL (xs.take i9))), .val (.ref ad), .val (.int (Int32.ofNat xs.length)), .val (.int (Int32.ofNat i9)), sl] [])) (Fin s 0 0 (fun v h L => v = some (.int (sumL xs)) ∧ h = h0 ∧ L = [])) := by
    intro k
    induction k using Nat.strongRecOn with
    | _ k ih =>
      intro i9 sl hsl hk hi9 T X9 e9
      show Goes p.tables e below (T.setTop (mkF m 13 #[.val (.ref p0), .val (.int (sumL (xs.take i9))), .val (.ref ad), .val (.int (Int32.ofNat xs.length)), .val (.int (Int32.ofNat i9)), sl] [])) _
      refine g_iload X9 hx (hb hby d11_13) rfl ?_
      show Goes p.tables e below (T.setTop (mkF m 15 #[.val (.ref p0), .val (.int (sumL (xs.take i9))), .val (.ref ad), .val (.int (Int32.ofNat xs.length)), .val (.int (Int32.ofNat i9)), sl] [(.int (Int32.ofNat i9))])) _
      refine g_iloadN X9 hx (hb hby d11_15) rfl ?_
      refine g_icmp_ge X9 hx (hb hby d11_16) (by decide) (pc' := 36) (by decide) (fun c16 => ?_) (fun c16 => ?_)
      · skip
        show Goes p.tables e below (T.setTop (mkF m 36 #[.val (.ref p0), .val (.int (sumL (xs.take i9))), .val (.ref ad), .val (.int (Int32.ofNat xs.length)), .val (.int (Int32.ofNat i9)), sl] [])) _
        have en : i9 = xs.length := by have q : ¬ _ < _ := fun z => c16 (Int32.lt_iff_toInt_lt.mpr z); rw [own_of (by omega), own_of (by omega)] at q; omega
        refine g_iloadN X9 hx (hb hby d11_36) rfl ?_
        show Goes p.tables e below (T.setTop (mkF m 37 #[.val (.ref p0), .val (.int (sumL (xs.take i9))), .val (.ref ad), .val (.int (Int32.ofNat xs.length)), .val (.int (Int32.ofNat i9)), sl] [(.int (sumL (xs.take i9)))])) _
        exact g_retI X9 hx hret hlk (hb hby d11_37) (by decide) (by decide) ⟨by rw [en, List.take_length], e9, rfl⟩
      · skip
        show Goes p.tables e below (T.setTop (mkF m 19 #[.val (.ref p0), .val (.int (sumL (xs.take i9))), .val (.ref ad), .val (.int (Int32.ofNat xs.length)), .val (.int (Int32.ofNat i9)), sl] [])) _
        have hlt : i9 < xs.length := by have q := Int32.lt_iff_toInt_lt.mp c16; rw [own_of (by omega), own_of (by omega)] at q; omega
        obtain ⟨x, hxx⟩ : ∃ x, xs[i9]? = some x := ⟨_, List.getElem?_eq_getElem hlt⟩
        have hs9 := own_sumS xs i9 x hxx
        refine g_aloadN X9 hx (hb hby d11_19) rfl rfl ?_
        show Goes p.tables e below (T.setTop (mkF m 20 #[.val (.ref p0), .val (.int (sumL (xs.take i9))), .val (.ref ad), .val (.int (Int32.ofNat xs.length)), .val (.int (Int32.ofNat i9)), sl] [(.ref ad)])) _
        refine g_iload X9 hx (hb hby d11_20) rfl ?_
        show Goes p.tables e below (T.setTop (mkF m 22 #[.val (.ref p0), .val (.int (sumL (xs.take i9))), .val (.ref ad), .val (.int (Int32.ofNat xs.length)), .val (.int (Int32.ofNat i9)), sl] [(.int (Int32.ofNat i9)), (.ref ad)])) _
        refine g_iaload X9 hx hZ e9 A0 (i := i9) (v := (.int x)) (own_of (by omega)) (by rw [List.getElem?_map, hxx]; rfl) (hb hby d11_22) ?_
        show Goes p.tables e below (T.setTop (mkF m 23 #[.val (.ref p0), .val (.int (sumL (xs.take i9))), .val (.ref ad), .val (.int (Int32.ofNat xs.length)), .val (.int (Int32.ofNat i9)), sl] [(.int x)])) _
        refine g_istoreS X9 hx (hb hby d11_23) rfl hsl ?_
        show Goes p.tables e below (T.setTop (mkF m 25 #[.val (.ref p0), .val (.int (sumL (xs.take i9))), .val (.ref ad), .val (.int (Int32.ofNat xs.length)), .val (.int (Int32.ofNat i9)), .val (.int x)] [])) _
        refine g_iloadN X9 hx (hb hby d11_25) rfl ?_
        show Goes p.tables e below (T.setTop (mkF m 26 #[.val (.ref p0), .val (.int (sumL (xs.take i9))), .val (.ref ad), .val (.int (Int32.ofNat xs.length)), .val (.int (Int32.ofNat i9)), .val (.int x)] [(.int (sumL (xs.take i9)))])) _
        refine g_iload X9 hx (hb hby d11_26) rfl ?_
        show Goes p.tables e below (T.setTop (mkF m 28 #[.val (.ref p0), .val (.int (sumL (xs.take i9))), .val (.ref ad), .val (.int (Int32.ofNat xs.length)), .val (.int (Int32.ofNat i9)), .val (.int x)] [(.int x), (.int (sumL (xs.take i9)))])) _
        refine g_iadd X9 hx (hb hby d11_28) ?_
        show Goes p.tables e below (T.setTop (mkF m 29 #[.val (.ref p0), .val (.int (sumL (xs.take i9))), .val (.ref ad), .val (.int (Int32.ofNat xs.length)), .val (.int (Int32.ofNat i9)), .val (.int x)] [(.int ((sumL (xs.take i9)) + x))])) _
        refine g_istoreN X9 hx (hb hby d11_29) (l' := #[.val (.ref p0), .val (.int ((sumL (xs.take i9)) + x)), .val (.ref ad), .val (.int (Int32.ofNat xs.length)), .val (.int (Int32.ofNat i9)), .val (.int x)]) rfl ?_
        show Goes p.tables e below (T.setTop (mkF m 30 #[.val (.ref p0), .val (.int ((sumL (xs.take i9)) + x)), .val (.ref ad), .val (.int (Int32.ofNat xs.length)), .val (.int (Int32.ofNat i9)), .val (.int x)] [])) _
        refine g_iinc X9 hx (1 : Int32) (hb hby d11_30) rfl rfl (l' := #[.val (.ref p0), .val (.int ((sumL (xs.take i9)) + x)), .val (.ref ad), .val (.int (Int32.ofNat xs.length)), .val (.int ((Int32.ofNat i9) + (1 : Int32))), .val (.int x)]) rfl ?_
        show Goes p.tables e below (T.setTop (mkF m 33 #[.val (.ref p0), .val (.int ((sumL (xs.take i9)) + x)), .val (.ref ad), .val (.int (Int32.ofNat xs.length)), .val (.int ((Int32.ofNat i9) + (1 : Int32))), .val (.int x)] [])) _
        refine g_goto X9 hx (hb hby d11_33) (by decide) (pc' := 13) (by decide) ?_
        rw [own_succ, ← hs9]
        exact ih (xs.length - (i9 + 1)) (by omega) (i9 + 1) _ (One.val rfl) rfl (by omega) _ X9 e9
  exact loop _ 0 .unset One.u rfl (Nat.zero_le _) _ X1 e1
theorem own_up {p : Program} {l : Launch} {e : Env} {R : Room} {s : State} {m : MethodId} {args : Array Value} {below : List Frame} {meth : Method} {c : Code} {T : State} {locs : List Loc} {cells slots c2 n2 : Nat} (X : Stand p l e R s m args below meth c T locs cells slots) (h1 : cells ≤ c2) (h2 : slots ≤ n2) : Stand p l e R s m args below meth c T locs c2 n2 := { X with same := X.same.mono h1 h2 }
theorem own_emp {Z : State} {args : Array Value} {t : Term} {a : Addr} {ty : FieldType} (ev : t.eval args Z none [] Z = some (.ref a)) (h1 : (Cond.arrayOf t ty).value args Z none Z [] = some true) (h2 : (Cond.eq (Term.length t) (Term.int (0 : Int32))).value args Z none Z [] = some true) : Ar Z Z.heap a ty [] := by
  obtain ⟨c, A⟩ := Arr.start ev h1
  have hlen : (Term.length t).eval args Z none [] Z = some (.int (0 : Int32)) := own_eqI h2 (Term.int_eval (0 : Int32))
  have harr : Z.arrayAt? a = some c := Arr.fin (State.Warmed39.refl Z).alike A
  have hsz : c.slots.size = 0 := by
    by_cases p : c.slots.size < 2 ^ 31
    · obtain ⟨a', c', e1, e2, e3⟩ := Term.length_spec hlen
      cases ev.symm.trans e1
      cases harr.symm.trans e2
      have q := len_toInt p
      rw [← Value.int.inj e3] at q
      have z : (0 : Int32).toInt = 0 := rfl
      omega
    · simp [Term.eval, ev, harr, p] at hlen
  exact ⟨c, A, List.eq_nil_of_length_eq_zero (by rw [Array.length_toList]; exact hsz), by decide, fun v hv => by cases hv⟩
theorem own_all0 {α : Type} {P : α → Prop} : ∀ x ∈ ([] : List α), P x := fun _ q => nomatch q
theorem own_allS {α : Type} {P : α → Prop} {y : α} {L : List α} (q : P y) (r : ∀ x ∈ L, P x) : ∀ x ∈ y :: L, P x := fun x z => (List.mem_cons.mp z).elim (fun e => e ▸ q) (r x)
theorem own_setmap {xs ys : List Int32} {i : Nat} {x : Int32} (h : xs.set i x = ys) : (xs.map Value.int).set i (.int x) = ys.map Value.int := by rw [← h, List.map_set]
theorem own_small {x : Int32} {k : Nat} (h0 : 0 ≤ x.toInt) (h1 : x.toInt ≤ k) : ∃ n : Nat, n ≤ k ∧ x = Int32.ofNat n := by
  have r := rng32 x
  refine ⟨x.toInt.toNat, by omega, ?_⟩
  apply Int32.toInt_inj.mp
  rw [Int32.toInt_ofNat_of_lt (by omega)]
  omega
def cl (n : Nat) (a b c : Int32) : List Int32 := [a, b, c].take n
theorem own_cllen {n : Nat} (a b c : Int32) (h : n ≤ 3) : (cl n a b c).length = n := by rw [cl, List.length_take]; show min n 3 = n; omega
theorem own_cl0 {n : Nat} (h : n ≤ 3) : List.replicate n (Value.int 0) = (cl n 0 0 0).map Value.int := by
  have h4 : n = 0 ∨ n = 1 ∨ n = 2 ∨ n = 3 := by omega
  rcases h4 with rfl | rfl | rfl | rfl <;> rfl
theorem own_cls0 (n : Nat) (a b c x : Int32) : (cl n a b c).set 0 x = cl n x b c := by rw [cl, ← List.take_set]; rfl
theorem own_cls1 (n : Nat) (a b c x : Int32) : (cl n a b c).set 1 x = cl n a x c := by rw [cl, ← List.take_set]; rfl
theorem own_cls2 (n : Nat) (a b c x : Int32) : (cl n a b c).set 2 x = cl n a b x := by rw [cl, ← List.take_set]; rfl
theorem own_clg0 {n : Nat} (a b c : Int32) (h : 0 < n) : ((cl n a b c).map Value.int)[0]? = some (.int a) := by rw [cl, List.getElem?_map, List.getElem?_take, if_pos h]; rfl
theorem own_clg1 {n : Nat} (a b c : Int32) (h : 1 < n) : ((cl n a b c).map Value.int)[1]? = some (.int b) := by rw [cl, List.getElem?_map, List.getElem?_take, if_pos h]; rfl
theorem own_clg2 {n : Nat} (a b c : Int32) (h : 2 < n) : ((cl n a b c).map Value.int)[2]? = some (.int c) := by rw [cl, List.getElem?_map, List.getElem?_take, if_pos h]; rfl
theorem own_sum3 {n : Nat} {a b c : Int32} (h : n ≤ 3) (h0 : n ≤ 0 → a = 0) (h1 : n ≤ 1 → b = 0) (h2 : n ≤ 2 → c = 0) : sumL (cl n a b c) = a + b + c := by
  have h4 : n = 0 ∨ n = 1 ∨ n = 2 ∨ n = 3 := by omega
  rcases h4 with rfl | rfl | rfl | rfl
  · rw [h0 (by decide), h1 (by decide), h2 (by decide)]; rfl
  · rw [h1 (by decide), h2 (by decide)]
    show a + 0 = a + 0 + 0
    rw [Int32.add_zero, Int32.add_zero]
  · rw [h2 (by decide)]
    show a + (b + 0) = a + b + 0
    rw [Int32.add_zero, Int32.add_zero]
  · show a + (b + (c + 0)) = a + b + c
    rw [Int32.add_zero, Int32.add_assoc]
theorem own_nl0 {n : Nat} {vn : Int32} (e : vn = Int32.ofNat n) (h : n ≤ 3) (q : n ≤ 0) : ¬ 0 < vn := by
  have k : ∀ n, n < 4 → n ≤ 0 → ¬ (0 : Int32) < Int32.ofNat n := by decide +kernel
  rw [e]; exact k n (by omega) q
theorem own_nl1 {n : Nat} {vn : Int32} (e : vn = Int32.ofNat n) (h : n ≤ 3) (q : n ≤ 1) : ¬ (1 : Int32) < vn := by
  have k : ∀ n, n < 4 → n ≤ 1 → ¬ (1 : Int32) < Int32.ofNat n := by decide +kernel
  rw [e]; exact k n (by omega) q
theorem own_nl2 {n : Nat} {vn : Int32} (e : vn = Int32.ofNat n) (h : n ≤ 3) (q : n ≤ 2) : ¬ (2 : Int32) < vn := by
  have k : ∀ n, n < 4 → n ≤ 2 → ¬ (2 : Int32) < Int32.ofNat n := by decide +kernel
  rw [e]; exact k n (by omega) q
theorem own_if2 (a b p : Int32) : (if b = 0 then (if a = 0 then (0 : Int32) else p) else (0 : Int32)) = (if a = 0 then (0 : Int32) else (if b = 0 then p else (0 : Int32))) := by
  by_cases ha : a = 0 <;> by_cases hb : b = 0 <;> simp [ha, hb]
theorem own_n {k v : Int32} (hv : v = (k &&& (3 : Int32))) : ∃ n : Nat, n ≤ 3 ∧ v = Int32.ofNat n := by
  have a := c_and k 3 (by decide)
  exact own_small (x := v) (k := 3) (by rw [hv]; exact a.1) (by rw [hv]; exact a.2)
theorem own_same {a b : Nat} (h : Int32.ofNat a = Int32.ofNat b) (ha : a ≤ 4) (hb : b ≤ 3) : a ≤ 3 := by
  have q := congrArg Int32.toInt h
  rw [Int32.toInt_ofNat_of_lt (by omega), Int32.toInt_ofNat_of_lt (by omega)] at q
  omega
theorem ef_0 (m : MethodId) (p0 : Int32) (p1 : Int32) (p2 : Int32) (p3 : Int32) (p4 : Int32) : entryFrame m #[(.int p0), (.int p1), (.int p2), (.int p3), (.int p4)] maxLocals = mkF m 0 #[.val (.int p0), .val (.int p1), .val (.int p2), .val (.int p3), .val (.int p4), .unset, .unset, .unset, .unset, .unset, .unset, .unset, .unset, .unset, .unset, .unset, .unset] [] := by first | (simp [entryFrame, mkF, argsToLocals, Value.category, maxLocals]; done) | rfl
set_option maxRecDepth 65536 in
set_option maxHeartbeats 40000000 in
theorem law (l : Launch) (Z : State) (a0 : Array Value) (hw : ∀ d ∈ tables_1, d.before a0 Z = true) (ws : List Jvm.Cond) (p0 : Int32) (p1 : Int32) (p2 : Int32) (p3 : Int32) (p4 : Int32) (h0 : Heap) (b0 : Addr) (Sb0 : Sta Z h0 "com/example/delvedeck/delvedeck/solo/Skill" "ATTACK" "Lcom/example/delvedeck/delvedeck/solo/Skill;" (.ref b0)) (Eb0 : Exa Z h0 b0 "com/example/delvedeck/delvedeck/solo/Skill") (b1 : Addr) (Sb1 : Sta Z h0 "com/example/delvedeck/delvedeck/solo/Skill" "QUEST" "Lcom/example/delvedeck/delvedeck/solo/Skill;" (.ref b1)) (Eb1 : Exa Z h0 b1 "com/example/delvedeck/delvedeck/solo/Skill") (b2 : Addr) (Sb2 : Sta Z h0 "com/example/delvedeck/delvedeck/solo/Skill" "REST" "Lcom/example/delvedeck/delvedeck/solo/Skill;" (.ref b2)) (Eb2 : Exa Z h0 b2 "com/example/delvedeck/delvedeck/solo/Skill") (de : Addr) (Sde : Sta Z h0 "java/util/ArrayList" "DEFAULTCAPACITY_EMPTY_ELEMENTDATA" "[Ljava/lang/Object;" (.ref de)) (el : Addr) (Sel : Sta Z h0 "java/util/ImmutableCollections" "EMPTY_LIST" "Ljava/util/ImmutableCollections$ListN;" (.ref el)) (em : Addr) (Sem : Sta Z h0 "java/util/ImmutableCollections" "EMPTY" "Ljava/lang/Object;" (.ref em)) (Ede : Exa Z h0 de "[Ljava/lang/Object;") (Ade : Ar Z h0 de (.object "java/lang/Object") []) (mr : Addr) (M0 : Mirr Z "[Ljava/lang/Object;" mr) :
    Con l Z x code maxLocals ret ws room_1 32 192 #[(.int p0), (.int p1), (.int p2), (.int p3), (.int p4)] h0 (fun v h L => v = some (.int 1) ∧ Fr h0.size L) := by
  refine Con.body (plainFor_of_name (by first | (simp [plainName, overriddenIn, x]; done) | decide +kernel)) ?_
  intro p e s m below meth c T0 hx hby hml hown hnm hZ hret hlk X0 e0
  refine Goes.cast (ef_0 m p0 p1 p2 p3 p4) ?_
  have N0 := Fr.nil h0.size
  have Z0 : h0.size ≤ h0.size := Nat.le_refl _
  show Goes p.tables e below (T0.setTop (mkF m 0 #[.val (.int p0), .val (.int p1), .val (.int p2), .val (.int p3), .val (.int p4), .unset, .unset, .unset, .unset, .unset, .unset, .unset, .unset, .unset, .unset, .unset, .unset] [])) _
  refine g_iloadN X0 hx (hb hby at_0) rfl ?_
  show Goes p.tables e below (T0.setTop (mkF m 1 #[.val (.int p0), .val (.int p1), .val (.int p2), .val (.int p3), .val (.int p4), .unset, .unset, .unset, .unset, .unset, .unset, .unset, .unset, .unset, .unset, .unset, .unset] [(.int p0)])) _
  refine g_iconst X0 hx (3 : Int32) (hb hby at_1) rfl ?_
  show Goes p.tables e below (T0.setTop (mkF m 2 #[.val (.int p0), .val (.int p1), .val (.int p2), .val (.int p3), .val (.int p4), .unset, .unset, .unset, .unset, .unset, .unset, .unset, .unset, .unset, .unset, .unset, .unset] [(.int (3 : Int32)), (.int p0)])) _
  refine g_iand X0 hx (hb hby at_2) ?_
  show Goes p.tables e below (T0.setTop (mkF m 3 #[.val (.int p0), .val (.int p1), .val (.int p2), .val (.int p3), .val (.int p4), .unset, .unset, .unset, .unset, .unset, .unset, .unset, .unset, .unset, .unset, .unset, .unset] [(.int (p0 &&& (3 : Int32)))])) _
  obtain ⟨vn, hvn⟩ : ∃ z : Int32, z = (p0 &&& (3 : Int32)) := ⟨_, rfl⟩
  refine g_nameI hvn ?_
  show Goes p.tables e below (T0.setTop (mkF m 3 #[.val (.int p0), .val (.int p1), .val (.int p2), .val (.int p3), .val (.int p4), .unset, .unset, .unset, .unset, .unset, .unset, .unset, .unset, .unset, .unset, .unset, .unset] [(.int vn)])) _
  refine g_istore X0 hx (hb hby at_3) (l' := #[.val (.int p0), .val (.int p1), .val (.int p2), .val (.int p3), .val (.int p4), .val (.int vn), .unset, .unset, .unset, .unset, .unset, .unset, .unset, .unset, .unset, .unset, .unset]) rfl ?_
  show Goes p.tables e below (T0.setTop (mkF m 5 #[.val (.int p0), .val (.int p1), .val (.int p2), .val (.int p3), .val (.int p4), .val (.int vn), .unset, .unset, .unset, .unset, .unset, .unset, .unset, .unset, .unset, .unset, .unset] [])) _
  refine g_new X0 hx hZ hown e0 (hw _ (List.mem_of_getElem? (i := 0) rfl)) (hw _ (List.mem_of_getElem? (i := 1) rfl)) (hw _ (List.mem_of_getElem? (i := 2) rfl)) (hb hby at_5) (by decide) (by decide) (fun T1 h1 a1 ga1 X1 e1 Ex1 Ea1 Df1 => ?_)
  have ne2 : b0 ≠ a1 := Nat.ne_of_lt (by rw [ga1]; exact Eb0.lt)
  have ne3 : b1 ≠ a1 := Nat.ne_of_lt (by rw [ga1]; exact Eb1.lt)
  have ne4 : b2 ≠ a1 := Nat.ne_of_lt (by rw [ga1]; exact Eb2.lt)
  have ne5 : de ≠ a1 := Nat.ne_of_lt (by rw [ga1]; exact Ede.lt)
  have ge6 : h0.size ≤ a1 := by rw [ga1]; exact Z0
  have fx7 : Sta Z h1 "com/example/delvedeck/delvedeck/solo/Skill" "ATTACK" "Lcom/example/delvedeck/delvedeck/solo/Skill;" (.ref b0) := Sta.ext Ex1 Sb0
  have fx8 : Exa Z h1 b0 "com/example/delvedeck/delvedeck/solo/Skill" := Exa.ext Ex1 Eb0
  have fx9 : Sta Z h1 "com/example/delvedeck/delvedeck/solo/Skill" "QUEST" "Lcom/example/delvedeck/delvedeck/solo/Skill;" (.ref b1) := Sta.ext Ex1 Sb1
  have fx10 : Exa Z h1 b1 "com/example/delvedeck/delvedeck/solo/Skill" := Exa.ext Ex1 Eb1
  have fx11 : Sta Z h1 "com/example/delvedeck/delvedeck/solo/Skill" "REST" "Lcom/example/delvedeck/delvedeck/solo/Skill;" (.ref b2) := Sta.ext Ex1 Sb2
  have fx12 : Exa Z h1 b2 "com/example/delvedeck/delvedeck/solo/Skill" := Exa.ext Ex1 Eb2
  have fx13 : Sta Z h1 "java/util/ArrayList" "DEFAULTCAPACITY_EMPTY_ELEMENTDATA" "[Ljava/lang/Object;" (.ref de) := Sta.ext Ex1 Sde
  have fx14 : Sta Z h1 "java/util/ImmutableCollections" "EMPTY_LIST" "Ljava/util/ImmutableCollections$ListN;" (.ref el) := Sta.ext Ex1 Sel
  have fx15 : Sta Z h1 "java/util/ImmutableCollections" "EMPTY" "Ljava/lang/Object;" (.ref em) := Sta.ext Ex1 Sem
  have fx16 : Exa Z h1 de "[Ljava/lang/Object;" := Exa.ext Ex1 Ede
  have fx17 : Ar Z h1 de (.object "java/lang/Object") [] := Ar.ext Ade Ex1
  have Z18 : h0.size ≤ h1.size := Nat.le_trans Z0 Ex1.1
  have fx19 : Fld Z h1 a1 "java/util/AbstractList" "modCount" "I" (.int (0 : Int32)) := Df1 (Or.inl (hw _ (List.mem_of_getElem? (i := 22) rfl))) (ty := .int) (by decide)
  have fx20 : Fld Z h1 a1 "java/util/ArrayList" "elementData" "[Ljava/lang/Object;" .null := Df1 (Or.inl (hw _ (List.mem_of_getElem? (i := 25) rfl))) (ty := (.array (.object "java/lang/Object"))) (by decide)
  have fx21 : Fld Z h1 a1 "java/util/ArrayList" "size" "I" (.int (0 : Int32)) := Df1 (Or.inl (hw _ (List.mem_of_getElem? (i := 57) rfl))) (ty := .int) (by decide)
  show Goes p.tables e below (T1.setTop (mkF m 8 #[.val (.int p0), .val (.int p1), .val (.int p2), .val (.int p3), .val (.int p4), .val (.int vn), .unset, .unset, .unset, .unset, .unset, .unset, .unset, .unset, .unset, .unset, .unset] [(.ref a1)])) _
  refine g_dup X1 hx (hb hby at_8) rfl ?_
  show Goes p.tables e below (T1.setTop (mkF m 9 #[.val (.int p0), .val (.int p1), .val (.int p2), .val (.int p3), .val (.int p4), .val (.int vn), .unset, .unset, .unset, .unset, .unset, .unset, .unset, .unset, .unset, .unset, .unset] [(.ref a1), (.ref a1)])) _
  refine g_callI X1 hx hZ hown (by rw [hml]; rfl) e1 rfl (hw _ (List.mem_of_getElem? (i := 3) rfl)) (hw _ (List.mem_of_getElem? (i := 4) rfl)) (hw _ (List.mem_of_getElem? (i := 2) rfl)) (hw _ (List.mem_of_getElem? (i := 5) rfl)) (rmAL l Z a0 hw a1 h1 h0.size Z18 fx20 fx21 fx19 Ea1 ge6 de fx13) a1 [] rfl [(.ref a1)] rfl (lenOf pd_1 rfl) (hb hby at_9) (by decide) 1 (by decide) (by decide) (by first | decide | exact Nat.le_refl _) (by decide) (by decide) (fun v T22 L22 X22 hQ22 => ?_)
  obtain ⟨rfl, Nc22, Kc22, fa22, fb22, fc22⟩ := hQ22
  have fx23 : Sta Z T22.heap "com/example/delvedeck/delvedeck/solo/Skill" "ATTACK" "Lcom/example/delvedeck/delvedeck/solo/Skill;" (.ref b0) := own_stakeep fx7 Kc22 (allS (own_nst Ea1) all0)
  have fx24 : Exa Z T22.heap b0 "com/example/delvedeck/delvedeck/solo/Skill" := Exa.keep fx8 Kc22
  have fx25 : Sta Z T22.heap "com/example/delvedeck/delvedeck/solo/Skill" "QUEST" "Lcom/example/delvedeck/delvedeck/solo/Skill;" (.ref b1) := own_stakeep fx9 Kc22 (allS (own_nst Ea1) all0)
  have fx26 : Exa Z T22.heap b1 "com/example/delvedeck/delvedeck/solo/Skill" := Exa.keep fx10 Kc22
  have fx27 : Sta Z T22.heap "com/example/delvedeck/delvedeck/solo/Skill" "REST" "Lcom/example/delvedeck/delvedeck/solo/Skill;" (.ref b2) := own_stakeep fx11 Kc22 (allS (own_nst Ea1) all0)
  have fx28 : Exa Z T22.heap b2 "com/example/delvedeck/delvedeck/solo/Skill" := Exa.keep fx12 Kc22
  have fx29 : Sta Z T22.heap "java/util/ArrayList" "DEFAULTCAPACITY_EMPTY_ELEMENTDATA" "[Ljava/lang/Object;" (.ref de) := own_stakeep fx13 Kc22 (allS (own_nst Ea1) all0)
  have fx30 : Sta Z T22.heap "java/util/ImmutableCollections" "EMPTY_LIST" "Ljava/util/ImmutableCollections$ListN;" (.ref el) := own_stakeep fx14 Kc22 (allS (own_nst Ea1) all0)
  have fx31 : Sta Z T22.heap "java/util/ImmutableCollections" "EMPTY" "Ljava/lang/Object;" (.ref em) := own_stakeep fx15 Kc22 (allS (own_nst Ea1) all0)
  have fx32 : Exa Z T22.heap de "[Ljava/lang/Object;" := Exa.keep fx16 Kc22
  have fx33 : Ar Z T22.heap de (.object "java/lang/Object") [] := Ar.keep fx17 Kc22 (ninS ne5 nin0)
  have fx34 : Exa Z T22.heap a1 "java/util/ArrayList" := Exa.keep Ea1 Kc22
  have N35 := Fr.app N0 Nc22
  have Z36 : h0.size ≤ T22.heap.size := Nat.le_trans Z18 Kc22.1
  show Goes p.tables e below (T22.setTop (mkF m 12 #[.val (.int p0), .val (.int p1), .val (.int p2), .val (.int p3), .val (.int p4), .val (.int vn), .unset, .unset, .unset, .unset, .unset, .unset, .unset, .unset, .unset, .unset, .unset] [(.ref a1)])) _
  refine g_astore X22 hx (hb hby at_12) rfl (l' := #[.val (.int p0), .val (.int p1), .val (.int p2), .val (.int p3), .val (.int p4), .val (.int vn), .val (.ref a1), .unset, .unset, .unset, .unset, .unset, .unset, .unset, .unset, .unset, .unset]) rfl ?_
  obtain ⟨n, hn3, hvn2⟩ := own_n hvn
  have hn4 : n ≤ 4 := by omega
  have JB : ∀ (n : Nat) (a ed : Addr) (sz : Int32) (vs : List Value) (T : State) (locs : List Loc) (h : Heap), vn = Int32.ofNat n → n ≤ 4 → sz.toInt = n → n ≤ vs.length → Stand p l e room_1 s m #[(.int p0), (.int p1), (.int p2), (.int p3), (.int p4)] below meth c T locs 2 13 → T.heap = h → Fr h0.size locs → h0.size ≤ h.size → Sta Z h "java/util/ImmutableCollections" "EMPTY_LIST" "Ljava/util/ImmutableCollections$ListN;" (.ref el) → Sta Z h "java/util/ImmutableCollections" "EMPTY" "Ljava/lang/Object;" (.ref em) → Fld Z h a "java/util/ArrayList" "elementData" "[Ljava/lang/Object;" (.ref ed) → Fld Z h a "java/util/ArrayList" "size" "I" (.int sz) → Exa Z h a "java/util/ArrayList" → Ar Z h ed (.object "java/lang/Object") vs → Exa Z h ed "[Ljava/lang/Object;" → (∀ v ∈ vs.take n, ∃ x, v = Value.ref x ∧ Ins Z h x "java/lang/Object" true) → ed ≠ a → Goes p.tables e below (T.setTop (mkF m 64 #[.val (.int p0), .val (.int p1), .val (.int p2), .val (.int p3), .val (.int p4), .val (.int vn), .val (.ref a), .unset, .unset, .unset, .unset, .unset, .unset, .unset, .unset, .unset, .unset] [])) (Fin s 32 192 (fun v h L => v = some (.int 1) ∧ Fr h0.size L)) := by
    intro n a ed sz vs T locs h hvn3 hn4 hn hle X9 e9 N9 Z9 SL9 SE9 f1 f2 E1 A0 EA hI nea
    show Goes p.tables e below (T.setTop (mkF m 64 #[.val (.int p0), .val (.int p1), .val (.int p2), .val (.int p3), .val (.int p4), .val (.int vn), .val (.ref a), .unset, .unset, .unset, .unset, .unset, .unset, .unset, .unset, .unset, .unset] [])) _
    refine g_new X9 hx hZ hown e9 (hw _ (List.mem_of_getElem? (i := 26) rfl)) (hw _ (List.mem_of_getElem? (i := 27) rfl)) (hw _ (List.mem_of_getElem? (i := 28) rfl)) (hb hby at_64) (by decide) (by decide) (fun T37 h37 a37 ga37 X37 e37 Ex37 Ea37 Df37 => ?_)
    have ne38 : a ≠ a37 := Nat.ne_of_lt (by rw [ga37]; exact f1.lt)
    have ne39 : ed ≠ a37 := Nat.ne_of_lt (by rw [ga37]; exact A0.lt)
    have ge40 : h0.size ≤ a37 := by rw [ga37]; exact Z9
    have fx41 : Sta Z h37 "java/util/ImmutableCollections" "EMPTY_LIST" "Ljava/util/ImmutableCollections$ListN;" (.ref el) := Sta.ext Ex37 SL9
    have fx42 : Sta Z h37 "java/util/ImmutableCollections" "EMPTY" "Ljava/lang/Object;" (.ref em) := Sta.ext Ex37 SE9
    have fx43 : Fld Z h37 a "java/util/ArrayList" "elementData" "[Ljava/lang/Object;" (.ref ed) := Fld.ext Ex37 f1
    have fx44 : Fld Z h37 a "java/util/ArrayList" "size" "I" (.int sz) := Fld.ext Ex37 f2
    have fx45 : Exa Z h37 a "java/util/ArrayList" := Exa.ext Ex37 E1
    have fx46 : Ar Z h37 ed (.object "java/lang/Object") vs := Ar.ext A0 Ex37
    have fx47 : Exa Z h37 ed "[Ljava/lang/Object;" := Exa.ext Ex37 EA
    have Z48 : h0.size ≤ h37.size := Nat.le_trans Z9 Ex37.1
    have fx49 : Fld Z h37 a37 "com/example/delvedeck/delvedeck/solo/SkillBoard" "skills" "Ljava/util/List;" .null := Df37 (Or.inr (hw _ (List.mem_of_getElem? (i := 63) rfl))) (ty := (.object "java/util/List")) (by decide)
    have fx50 : Fld Z h37 a37 "com/example/delvedeck/delvedeck/solo/SkillBoard" "faceDown" "[Z" .null := Df37 (Or.inr (hw _ (List.mem_of_getElem? (i := 75) rfl))) (ty := (.array .boolean)) (by decide)
    have fx51 : Fld Z h37 a37 "com/example/delvedeck/delvedeck/solo/SkillBoard" "charges" "[I" .null := Df37 (Or.inr (hw _ (List.mem_of_getElem? (i := 78) rfl))) (ty := (.array .int)) (by decide)
    have fx52 : Fld Z h37 a37 "com/example/delvedeck/delvedeck/solo/SkillBoard" "performed" "[Z" .null := Df37 (Or.inr (hw _ (List.mem_of_getElem? (i := 80) rfl))) (ty := (.array .boolean)) (by decide)
    show Goes p.tables e below (T37.setTop (mkF m 67 #[.val (.int p0), .val (.int p1), .val (.int p2), .val (.int p3), .val (.int p4), .val (.int vn), .val (.ref a), .unset, .unset, .unset, .unset, .unset, .unset, .unset, .unset, .unset, .unset] [(.ref a37)])) _
    refine g_dup X37 hx (hb hby at_67) rfl ?_
    show Goes p.tables e below (T37.setTop (mkF m 68 #[.val (.int p0), .val (.int p1), .val (.int p2), .val (.int p3), .val (.int p4), .val (.int vn), .val (.ref a), .unset, .unset, .unset, .unset, .unset, .unset, .unset, .unset, .unset, .unset] [(.ref a37), (.ref a37)])) _
    refine g_aload X37 hx (hb hby at_68) rfl rfl ?_
    show Goes p.tables e below (T37.setTop (mkF m 70 #[.val (.int p0), .val (.int p1), .val (.int p2), .val (.int p3), .val (.int p4), .val (.int vn), .val (.ref a), .unset, .unset, .unset, .unset, .unset, .unset, .unset, .unset, .unset, .unset] [(.ref a), (.ref a37), (.ref a37)])) _
    have hI2 : ∀ v ∈ vs.take n, ∃ x, v = Value.ref x ∧ Ins Z h37 x "java/lang/Object" true := fun v hv => by obtain ⟨x, e9', q⟩ := hI v hv; exact ⟨x, e9', Ins.ext Ex37 q⟩
    have lto := Ea37.lt
    refine g_callI X37 hx hZ hown (by rw [hml]; rfl) e37 rfl (hw _ (List.mem_of_getElem? (i := 29) rfl)) (hw _ (List.mem_of_getElem? (i := 30) rfl)) (hw _ (List.mem_of_getElem? (i := 28) rfl)) (hw _ (List.mem_of_getElem? (i := 31) rfl)) (rmSB l Z a0 hw a37 a h37 h0.size Z48 mr ed el em M0 fx41 fx42 sz vs n hn hle hn4 fx43 fx44 fx45 fx46 fx47 hI2 fx49 fx50 fx51 fx52 Ea37 ge40 ne38) a37 [(.ref a)] rfl [(.ref a37)] rfl (lenOf pd_5 rfl) (hb hby at_70) (by decide) 1 (by decide) (by decide) (by first | decide | exact Nat.le_refl _) (by decide) (by decide) (fun v T53 L53 X53 hQ53 => ?_)
    obtain ⟨rfl, Nc, Kc, fd, ch, pf, gfd, gch, gpf, hfd, hch, hpf, nfc, fF, fC, fP, A1, A2, A3⟩ := hQ53
    have fx54 : Exa Z T53.heap a37 "com/example/delvedeck/delvedeck/solo/SkillBoard" := Exa.keep Ea37 Kc
    have N55 := Fr.app N9 Nc
    have Z56 : h0.size ≤ T53.heap.size := Nat.le_trans Z48 Kc.1
    have nofd : a37 ≠ fd := Nat.ne_of_lt (Nat.lt_of_lt_of_le lto hfd)
    have noch : a37 ≠ ch := Nat.ne_of_lt (Nat.lt_of_lt_of_le lto hch)
    have nopf : a37 ≠ pf := Nat.ne_of_lt (Nat.lt_of_lt_of_le lto hpf)
    show Goes p.tables e below (T53.setTop (mkF m 73 #[.val (.int p0), .val (.int p1), .val (.int p2), .val (.int p3), .val (.int p4), .val (.int vn), .val (.ref a), .unset, .unset, .unset, .unset, .unset, .unset, .unset, .unset, .unset, .unset] [(.ref a37)])) _
    refine g_astore X53 hx (hb hby at_73) rfl (l' := #[.val (.int p0), .val (.int p1), .val (.int p2), .val (.int p3), .val (.int p4), .val (.int vn), .val (.ref a), .val (.ref a37), .unset, .unset, .unset, .unset, .unset, .unset, .unset, .unset, .unset]) rfl ?_
    have hn3 : n ≤ 3 := by rw [hvn3] at hvn2; exact own_same hvn2 hn4 hn3
    refine g_iload X53 hx (hb hby at_75) rfl ?_
    show Goes p.tables e below (T53.setTop (mkF m 77 #[.val (.int p0), .val (.int p1), .val (.int p2), .val (.int p3), .val (.int p4), .val (.int vn), .val (.ref a), .val (.ref a37), .unset, .unset, .unset, .unset, .unset, .unset, .unset, .unset, .unset] [(.int vn)])) _
    obtain ⟨v57, hv57⟩ : ∃ z : Int32, z = (if 0 < vn then (if (p4 &&& (1 : Int32)) = 0 then (0 : Int32) else (1 : Int32)) else (0 : Int32)) := ⟨_, rfl⟩
    refine Goes.join (S' := T53.setTop (mkF m 92 #[.val (.int p0), .val (.int p1), .val (.int p2), .val (.int p3), .val (.int p4), .val (.int vn), .val (.ref a), .val (.ref a37), .unset, .unset, .unset, .unset, .unset, .unset, .unset, .unset, .unset] [(.int v57)])) (fun J => ?_) ?_
    · skip
      refine g_if_le X53 hx (hb hby at_77) (by decide) (pc' := 91) (by decide) (fun c77 => ?_) (fun c77 => ?_)
      · skip
        show Goes p.tables e below (T53.setTop (mkF m 91 #[.val (.int p0), .val (.int p1), .val (.int p2), .val (.int p3), .val (.int p4), .val (.int vn), .val (.ref a), .val (.ref a37), .unset, .unset, .unset, .unset, .unset, .unset, .unset, .unset, .unset] [])) _
        refine g_iconst X53 hx (0 : Int32) (hb hby at_91) rfl ?_
        rw [show v57 = ((0 : Int32)) from by rw [hv57, if_neg c77]] at J
        exact J
      · skip
        show Goes p.tables e below (T53.setTop (mkF m 80 #[.val (.int p0), .val (.int p1), .val (.int p2), .val (.int p3), .val (.int p4), .val (.int vn), .val (.ref a), .val (.ref a37), .unset, .unset, .unset, .unset, .unset, .unset, .unset, .unset, .unset] [])) _
        refine g_iload X53 hx (hb hby at_80) rfl ?_
        show Goes p.tables e below (T53.setTop (mkF m 82 #[.val (.int p0), .val (.int p1), .val (.int p2), .val (.int p3), .val (.int p4), .val (.int vn), .val (.ref a), .val (.ref a37), .unset, .unset, .unset, .unset, .unset, .unset, .unset, .unset, .unset] [(.int p4)])) _
        refine g_iconst X53 hx (1 : Int32) (hb hby at_82) rfl ?_
        show Goes p.tables e below (T53.setTop (mkF m 83 #[.val (.int p0), .val (.int p1), .val (.int p2), .val (.int p3), .val (.int p4), .val (.int vn), .val (.ref a), .val (.ref a37), .unset, .unset, .unset, .unset, .unset, .unset, .unset, .unset, .unset] [(.int (1 : Int32)), (.int p4)])) _
        refine g_iand X53 hx (hb hby at_83) ?_
        show Goes p.tables e below (T53.setTop (mkF m 84 #[.val (.int p0), .val (.int p1), .val (.int p2), .val (.int p3), .val (.int p4), .val (.int vn), .val (.ref a), .val (.ref a37), .unset, .unset, .unset, .unset, .unset, .unset, .unset, .unset, .unset] [(.int (p4 &&& (1 : Int32)))])) _
        refine g_if_eq X53 hx (hb hby at_84) (by decide) (pc' := 91) (by decide) (fun c84 => ?_) (fun c84 => ?_)
        · skip
          show Goes p.tables e below (T53.setTop (mkF m 91 #[.val (.int p0), .val (.int p1), .val (.int p2), .val (.int p3), .val (.int p4), .val (.int vn), .val (.ref a), .val (.ref a37), .unset, .unset, .unset, .unset, .unset, .unset, .unset, .unset, .unset] [])) _
          refine g_iconst X53 hx (0 : Int32) (hb hby at_91) rfl ?_
          rw [show v57 = ((0 : Int32)) from by rw [hv57, if_pos c77, if_pos c84]] at J
          exact J
        · skip
          show Goes p.tables e below (T53.setTop (mkF m 87 #[.val (.int p0), .val (.int p1), .val (.int p2), .val (.int p3), .val (.int p4), .val (.int vn), .val (.ref a), .val (.ref a37), .unset, .unset, .unset, .unset, .unset, .unset, .unset, .unset, .unset] [])) _
          refine g_iconst X53 hx (1 : Int32) (hb hby at_87) rfl ?_
          show Goes p.tables e below (T53.setTop (mkF m 88 #[.val (.int p0), .val (.int p1), .val (.int p2), .val (.int p3), .val (.int p4), .val (.int vn), .val (.ref a), .val (.ref a37), .unset, .unset, .unset, .unset, .unset, .unset, .unset, .unset, .unset] [(.int (1 : Int32))])) _
          refine g_goto X53 hx (hb hby at_88) (by decide) (pc' := 92) (by decide) ?_
          rw [show v57 = ((1 : Int32)) from by rw [hv57, if_pos c77, if_neg c84]] at J
          exact J
    show Goes p.tables e below (T53.setTop (mkF m 92 #[.val (.int p0), .val (.int p1), .val (.int p2), .val (.int p3), .val (.int p4), .val (.int vn), .val (.ref a), .val (.ref a37), .unset, .unset, .unset, .unset, .unset, .unset, .unset, .unset, .unset] [(.int v57)])) _
    refine g_istore X53 hx (hb hby at_92) (l' := #[.val (.int p0), .val (.int p1), .val (.int p2), .val (.int p3), .val (.int p4), .val (.int vn), .val (.ref a), .val (.ref a37), .val (.int v57), .unset, .unset, .unset, .unset, .unset, .unset, .unset, .unset]) rfl ?_
    show Goes p.tables e below (T53.setTop (mkF m 94 #[.val (.int p0), .val (.int p1), .val (.int p2), .val (.int p3), .val (.int p4), .val (.int vn), .val (.ref a), .val (.ref a37), .val (.int v57), .unset, .unset, .unset, .unset, .unset, .unset, .unset, .unset] [])) _
    refine g_iload X53 hx (hb hby at_94) rfl ?_
    show Goes p.tables e below (T53.setTop (mkF m 96 #[.val (.int p0), .val (.int p1), .val (.int p2), .val (.int p3), .val (.int p4), .val (.int vn), .val (.ref a), .val (.ref a37), .val (.int v57), .unset, .unset, .unset, .unset, .unset, .unset, .unset, .unset] [(.int vn)])) _
    refine g_iconst X53 hx (1 : Int32) (hb hby at_96) rfl ?_
    show Goes p.tables e below (T53.setTop (mkF m 97 #[.val (.int p0), .val (.int p1), .val (.int p2), .val (.int p3), .val (.int p4), .val (.int vn), .val (.ref a), .val (.ref a37), .val (.int v57), .unset, .unset, .unset, .unset, .unset, .unset, .unset, .unset] [(.int (1 : Int32)), (.int vn)])) _
    obtain ⟨v58, hv58⟩ : ∃ z : Int32, z = (if (1 : Int32) < vn then (if (p4 &&& (2 : Int32)) = 0 then (0 : Int32) else (1 : Int32)) else (0 : Int32)) := ⟨_, rfl⟩
    refine Goes.join (S' := T53.setTop (mkF m 112 #[.val (.int p0), .val (.int p1), .val (.int p2), .val (.int p3), .val (.int p4), .val (.int vn), .val (.ref a), .val (.ref a37), .val (.int v57), .unset, .unset, .unset, .unset, .unset, .unset, .unset, .unset] [(.int v58)])) (fun J => ?_) ?_
    · skip
      refine g_icmp_le X53 hx (hb hby at_97) (by decide) (pc' := 111) (by decide) (fun c97 => ?_) (fun c97 => ?_)
      · skip
        show Goes p.tables e below (T53.setTop (mkF m 111 #[.val (.int p0), .val (.int p1), .val (.int p2), .val (.int p3), .val (.int p4), .val (.int vn), .val (.ref a), .val (.ref a37), .val (.int v57), .unset, .unset, .unset, .unset, .unset, .unset, .unset, .unset] [])) _
        refine g_iconst X53 hx (0 : Int32) (hb hby at_111) rfl ?_
        rw [show v58 = ((0 : Int32)) from by rw [hv58, if_neg c97]] at J
        exact J
      · skip
        show Goes p.tables e below (T53.setTop (mkF m 100 #[.val (.int p0), .val (.int p1), .val (.int p2), .val (.int p3), .val (.int p4), .val (.int vn), .val (.ref a), .val (.ref a37), .val (.int v57), .unset, .unset, .unset, .unset, .unset, .unset, .unset, .unset] [])) _
        refine g_iload X53 hx (hb hby at_100) rfl ?_
        show Goes p.tables e below (T53.setTop (mkF m 102 #[.val (.int p0), .val (.int p1), .val (.int p2), .val (.int p3), .val (.int p4), .val (.int vn), .val (.ref a), .val (.ref a37), .val (.int v57), .unset, .unset, .unset, .unset, .unset, .unset, .unset, .unset] [(.int p4)])) _
        refine g_iconst X53 hx (2 : Int32) (hb hby at_102) rfl ?_
        show Goes p.tables e below (T53.setTop (mkF m 103 #[.val (.int p0), .val (.int p1), .val (.int p2), .val (.int p3), .val (.int p4), .val (.int vn), .val (.ref a), .val (.ref a37), .val (.int v57), .unset, .unset, .unset, .unset, .unset, .unset, .unset, .unset] [(.int (2 : Int32)), (.int p4)])) _
        refine g_iand X53 hx (hb hby at_103) ?_
        show Goes p.tables e below (T53.setTop (mkF m 104 #[.val (.int p0), .val (.int p1), .val (.int p2), .val (.int p3), .val (.int p4), .val (.int vn), .val (.ref a), .val (.ref a37), .val (.int v57), .unset, .unset, .unset, .unset, .unset, .unset, .unset, .unset] [(.int (p4 &&& (2 : Int32)))])) _
        refine g_if_eq X53 hx (hb hby at_104) (by decide) (pc' := 111) (by decide) (fun c104 => ?_) (fun c104 => ?_)
        · skip
          show Goes p.tables e below (T53.setTop (mkF m 111 #[.val (.int p0), .val (.int p1), .val (.int p2), .val (.int p3), .val (.int p4), .val (.int vn), .val (.ref a), .val (.ref a37), .val (.int v57), .unset, .unset, .unset, .unset, .unset, .unset, .unset, .unset] [])) _
          refine g_iconst X53 hx (0 : Int32) (hb hby at_111) rfl ?_
          rw [show v58 = ((0 : Int32)) from by rw [hv58, if_pos c97, if_pos c104]] at J
          exact J
        · skip
          show Goes p.tables e below (T53.setTop (mkF m 107 #[.val (.int p0), .val (.int p1), .val (.int p2), .val (.int p3), .val (.int p4), .val (.int vn), .val (.ref a), .val (.ref a37), .val (.int v57), .unset, .unset, .unset, .unset, .unset, .unset, .unset, .unset] [])) _
          refine g_iconst X53 hx (1 : Int32) (hb hby at_107) rfl ?_
          show Goes p.tables e below (T53.setTop (mkF m 108 #[.val (.int p0), .val (.int p1), .val (.int p2), .val (.int p3), .val (.int p4), .val (.int vn), .val (.ref a), .val (.ref a37), .val (.int v57), .unset, .unset, .unset, .unset, .unset, .unset, .unset, .unset] [(.int (1 : Int32))])) _
          refine g_goto X53 hx (hb hby at_108) (by decide) (pc' := 112) (by decide) ?_
          rw [show v58 = ((1 : Int32)) from by rw [hv58, if_pos c97, if_neg c104]] at J
          exact J
    show Goes p.tables e below (T53.setTop (mkF m 112 #[.val (.int p0), .val (.int p1), .val (.int p2), .val (.int p3), .val (.int p4), .val (.int vn), .val (.ref a), .val (.ref a37), .val (.int v57), .unset, .unset, .unset, .unset, .unset, .unset, .unset, .unset] [(.int v58)])) _
    refine g_istore X53 hx (hb hby at_112) (l' := #[.val (.int p0), .val (.int p1), .val (.int p2), .val (.int p3), .val (.int p4), .val (.int vn), .val (.ref a), .val (.ref a37), .val (.int v57), .val (.int v58), .unset, .unset, .unset, .unset, .unset, .unset, .unset]) rfl ?_
    show Goes p.tables e below (T53.setTop (mkF m 114 #[.val (.int p0), .val (.int p1), .val (.int p2), .val (.int p3), .val (.int p4), .val (.int vn), .val (.ref a), .val (.ref a37), .val (.int v57), .val (.int v58), .unset, .unset, .unset, .unset, .unset, .unset, .unset] [])) _
    refine g_iload X53 hx (hb hby at_114) rfl ?_
    show Goes p.tables e below (T53.setTop (mkF m 116 #[.val (.int p0), .val (.int p1), .val (.int p2), .val (.int p3), .val (.int p4), .val (.int vn), .val (.ref a), .val (.ref a37), .val (.int v57), .val (.int v58), .unset, .unset, .unset, .unset, .unset, .unset, .unset] [(.int vn)])) _
    refine g_iconst X53 hx (2 : Int32) (hb hby at_116) rfl ?_
    show Goes p.tables e below (T53.setTop (mkF m 117 #[.val (.int p0), .val (.int p1), .val (.int p2), .val (.int p3), .val (.int p4), .val (.int vn), .val (.ref a), .val (.ref a37), .val (.int v57), .val (.int v58), .unset, .unset, .unset, .unset, .unset, .unset, .unset] [(.int (2 : Int32)), (.int vn)])) _
    obtain ⟨v59, hv59⟩ : ∃ z : Int32, z = (if (2 : Int32) < vn then (if (p4 &&& (4 : Int32)) = 0 then (0 : Int32) else (1 : Int32)) else (0 : Int32)) := ⟨_, rfl⟩
    refine Goes.join (S' := T53.setTop (mkF m 132 #[.val (.int p0), .val (.int p1), .val (.int p2), .val (.int p3), .val (.int p4), .val (.int vn), .val (.ref a), .val (.ref a37), .val (.int v57), .val (.int v58), .unset, .unset, .unset, .unset, .unset, .unset, .unset] [(.int v59)])) (fun J => ?_) ?_
    · skip
      refine g_icmp_le X53 hx (hb hby at_117) (by decide) (pc' := 131) (by decide) (fun c117 => ?_) (fun c117 => ?_)
      · skip
        show Goes p.tables e below (T53.setTop (mkF m 131 #[.val (.int p0), .val (.int p1), .val (.int p2), .val (.int p3), .val (.int p4), .val (.int vn), .val (.ref a), .val (.ref a37), .val (.int v57), .val (.int v58), .unset, .unset, .unset, .unset, .unset, .unset, .unset] [])) _
        refine g_iconst X53 hx (0 : Int32) (hb hby at_131) rfl ?_
        rw [show v59 = ((0 : Int32)) from by rw [hv59, if_neg c117]] at J
        exact J
      · skip
        show Goes p.tables e below (T53.setTop (mkF m 120 #[.val (.int p0), .val (.int p1), .val (.int p2), .val (.int p3), .val (.int p4), .val (.int vn), .val (.ref a), .val (.ref a37), .val (.int v57), .val (.int v58), .unset, .unset, .unset, .unset, .unset, .unset, .unset] [])) _
        refine g_iload X53 hx (hb hby at_120) rfl ?_
        show Goes p.tables e below (T53.setTop (mkF m 122 #[.val (.int p0), .val (.int p1), .val (.int p2), .val (.int p3), .val (.int p4), .val (.int vn), .val (.ref a), .val (.ref a37), .val (.int v57), .val (.int v58), .unset, .unset, .unset, .unset, .unset, .unset, .unset] [(.int p4)])) _
        refine g_iconst X53 hx (4 : Int32) (hb hby at_122) rfl ?_
        show Goes p.tables e below (T53.setTop (mkF m 123 #[.val (.int p0), .val (.int p1), .val (.int p2), .val (.int p3), .val (.int p4), .val (.int vn), .val (.ref a), .val (.ref a37), .val (.int v57), .val (.int v58), .unset, .unset, .unset, .unset, .unset, .unset, .unset] [(.int (4 : Int32)), (.int p4)])) _
        refine g_iand X53 hx (hb hby at_123) ?_
        show Goes p.tables e below (T53.setTop (mkF m 124 #[.val (.int p0), .val (.int p1), .val (.int p2), .val (.int p3), .val (.int p4), .val (.int vn), .val (.ref a), .val (.ref a37), .val (.int v57), .val (.int v58), .unset, .unset, .unset, .unset, .unset, .unset, .unset] [(.int (p4 &&& (4 : Int32)))])) _
        refine g_if_eq X53 hx (hb hby at_124) (by decide) (pc' := 131) (by decide) (fun c124 => ?_) (fun c124 => ?_)
        · skip
          show Goes p.tables e below (T53.setTop (mkF m 131 #[.val (.int p0), .val (.int p1), .val (.int p2), .val (.int p3), .val (.int p4), .val (.int vn), .val (.ref a), .val (.ref a37), .val (.int v57), .val (.int v58), .unset, .unset, .unset, .unset, .unset, .unset, .unset] [])) _
          refine g_iconst X53 hx (0 : Int32) (hb hby at_131) rfl ?_
          rw [show v59 = ((0 : Int32)) from by rw [hv59, if_pos c117, if_pos c124]] at J
          exact J
        · skip
          show Goes p.tables e below (T53.setTop (mkF m 127 #[.val (.int p0), .val (.int p1), .val (.int p2), .val (.int p3), .val (.int p4), .val (.int vn), .val (.ref a), .val (.ref a37), .val (.int v57), .val (.int v58), .unset, .unset, .unset, .unset, .unset, .unset, .unset] [])) _
          refine g_iconst X53 hx (1 : Int32) (hb hby at_127) rfl ?_
          show Goes p.tables e below (T53.setTop (mkF m 128 #[.val (.int p0), .val (.int p1), .val (.int p2), .val (.int p3), .val (.int p4), .val (.int vn), .val (.ref a), .val (.ref a37), .val (.int v57), .val (.int v58), .unset, .unset, .unset, .unset, .unset, .unset, .unset] [(.int (1 : Int32))])) _
          refine g_goto X53 hx (hb hby at_128) (by decide) (pc' := 132) (by decide) ?_
          rw [show v59 = ((1 : Int32)) from by rw [hv59, if_pos c117, if_neg c124]] at J
          exact J
    show Goes p.tables e below (T53.setTop (mkF m 132 #[.val (.int p0), .val (.int p1), .val (.int p2), .val (.int p3), .val (.int p4), .val (.int vn), .val (.ref a), .val (.ref a37), .val (.int v57), .val (.int v58), .unset, .unset, .unset, .unset, .unset, .unset, .unset] [(.int v59)])) _
    refine g_istore X53 hx (hb hby at_132) (l' := #[.val (.int p0), .val (.int p1), .val (.int p2), .val (.int p3), .val (.int p4), .val (.int vn), .val (.ref a), .val (.ref a37), .val (.int v57), .val (.int v58), .val (.int v59), .unset, .unset, .unset, .unset, .unset, .unset]) rfl ?_
    have hz0 : n ≤ 0 → v57 = 0 := fun q => by rw [hv57, if_neg (own_nl0 hvn3 hn3 q)]
    have hz1 : n ≤ 1 → v58 = 0 := fun q => by rw [hv58, if_neg (own_nl1 hvn3 hn3 q)]
    have hz2 : n ≤ 2 → v59 = 0 := fun q => by rw [hv59, if_neg (own_nl2 hvn3 hn3 q)]
    have J332 : ∀ (t9 d9 r0 r1 r2 : Int32) (es : List Value) (T : State) (locs : List Loc) (h : Heap), (n ≤ 0 → r0 = 0) → (n ≤ 1 → r1 = 0) → (n ≤ 2 → r2 = 0) → es.length = n → Stand p l e room_1 s m #[(.int p0), (.int p1), (.int p2), (.int p3), (.int p4)] below meth c T locs (2 + 1 + 6) (13 + 4 + 22) → T.heap = h → Fr h0.size locs → h0.size ≤ h.size → Exa Z h a37 "com/example/delvedeck/delvedeck/solo/SkillBoard" → Fld Z h a37 "com/example/delvedeck/delvedeck/solo/SkillBoard" "faceDown" "[Z" (.ref fd) → Fld Z h a37 "com/example/delvedeck/delvedeck/solo/SkillBoard" "charges" "[I" (.ref ch) → Ar Z h ch .int ((cl n (if r0 = 0 then (if v57 = 0 then (0 : Int32) else p1) else (0 : Int32)) (if r1 = 0 then (if v58 = 0 then (0 : Int32) else p2) else (0 : Int32)) (if r2 = 0 then (if v59 = 0 then (0 : Int32) else p3) else (0 : Int32))).map Value.int) → Ar Z h fd .boolean es → Goes p.tables e below (T.setTop (mkF m 332 #[.val (.int p0), .val (.int p1), .val (.int p2), .val (.int p3), .val (.int p4), .val (.int vn), .val (.ref a), .val (.ref a37), .val (.int v57), .val (.int v58), .val (.int v59), .val (.int t9), .val (.int d9), .val (.int r0), .val (.int r1), .val (.int r2), .unset] [])) (Fin s 32 192 (fun v h L => v = some (.int 1) ∧ Fr h0.size L)) := by
      intro t9 d9 r0 r1 r2 es T locs h y0 y1 y2 hes X9 e9 N9 Z9 Eo Fd Fo Ao Af
      show Goes p.tables e below (T.setTop (mkF m 332 #[.val (.int p0), .val (.int p1), .val (.int p2), .val (.int p3), .val (.int p4), .val (.int vn), .val (.ref a), .val (.ref a37), .val (.int v57), .val (.int v58), .val (.int v59), .val (.int t9), .val (.int d9), .val (.int r0), .val (.int r1), .val (.int r2), .unset] [])) _
      refine g_iload X9 hx (hb hby at_332) rfl ?_
      show Goes p.tables e below (T.setTop (mkF m 334 #[.val (.int p0), .val (.int p1), .val (.int p2), .val (.int p3), .val (.int p4), .val (.int vn), .val (.ref a), .val (.ref a37), .val (.int v57), .val (.int v58), .val (.int v59), .val (.int t9), .val (.int d9), .val (.int r0), .val (.int r1), .val (.int r2), .unset] [(.int v57)])) _
      obtain ⟨v60, hv60⟩ : ∃ z : Int32, z = (if v57 = 0 then (0 : Int32) else (if r0 = 0 then p1 else (0 : Int32))) := ⟨_, rfl⟩
      refine Goes.join (S' := T.setTop (mkF m 347 #[.val (.int p0), .val (.int p1), .val (.int p2), .val (.int p3), .val (.int p4), .val (.int vn), .val (.ref a), .val (.ref a37), .val (.int v57), .val (.int v58), .val (.int v59), .val (.int t9), .val (.int d9), .val (.int r0), .val (.int r1), .val (.int r2), .unset] [(.int v60)])) (fun J => ?_) ?_
      · skip
        refine g_if_eq X9 hx (hb hby at_334) (by decide) (pc' := 346) (by decide) (fun c334 => ?_) (fun c334 => ?_)
        · skip
          show Goes p.tables e below (T.setTop (mkF m 346 #[.val (.int p0), .val (.int p1), .val (.int p2), .val (.int p3), .val (.int p4), .val (.int vn), .val (.ref a), .val (.ref a37), .val (.int v57), .val (.int v58), .val (.int v59), .val (.int t9), .val (.int d9), .val (.int r0), .val (.int r1), .val (.int r2), .unset] [])) _
          refine g_iconst X9 hx (0 : Int32) (hb hby at_346) rfl ?_
          rw [show v60 = ((0 : Int32)) from by rw [hv60, if_pos c334]] at J
          exact J
        · skip
          show Goes p.tables e below (T.setTop (mkF m 337 #[.val (.int p0), .val (.int p1), .val (.int p2), .val (.int p3), .val (.int p4), .val (.int vn), .val (.ref a), .val (.ref a37), .val (.int v57), .val (.int v58), .val (.int v59), .val (.int t9), .val (.int d9), .val (.int r0), .val (.int r1), .val (.int r2), .unset] [])) _
          refine g_iload X9 hx (hb hby at_337) rfl ?_
          show Goes p.tables e below (T.setTop (mkF m 339 #[.val (.int p0), .val (.int p1), .val (.int p2), .val (.int p3), .val (.int p4), .val (.int vn), .val (.ref a), .val (.ref a37), .val (.int v57), .val (.int v58), .val (.int v59), .val (.int t9), .val (.int d9), .val (.int r0), .val (.int r1), .val (.int r2), .unset] [(.int r0)])) _
          refine g_if_ne X9 hx (hb hby at_339) (by decide) (pc' := 346) (by decide) (fun c339 => ?_) (fun c339 => ?_)
          · skip
            show Goes p.tables e below (T.setTop (mkF m 346 #[.val (.int p0), .val (.int p1), .val (.int p2), .val (.int p3), .val (.int p4), .val (.int vn), .val (.ref a), .val (.ref a37), .val (.int v57), .val (.int v58), .val (.int v59), .val (.int t9), .val (.int d9), .val (.int r0), .val (.int r1), .val (.int r2), .unset] [])) _
            refine g_iconst X9 hx (0 : Int32) (hb hby at_346) rfl ?_
            rw [show v60 = ((0 : Int32)) from by rw [hv60, if_neg c334, if_neg c339]] at J
            exact J
          · skip
            show Goes p.tables e below (T.setTop (mkF m 342 #[.val (.int p0), .val (.int p1), .val (.int p2), .val (.int p3), .val (.int p4), .val (.int vn), .val (.ref a), .val (.ref a37), .val (.int v57), .val (.int v58), .val (.int v59), .val (.int t9), .val (.int d9), .val (.int r0), .val (.int r1), .val (.int r2), .unset] [])) _
            refine g_iloadN X9 hx (hb hby at_342) rfl ?_
            show Goes p.tables e below (T.setTop (mkF m 343 #[.val (.int p0), .val (.int p1), .val (.int p2), .val (.int p3), .val (.int p4), .val (.int vn), .val (.ref a), .val (.ref a37), .val (.int v57), .val (.int v58), .val (.int v59), .val (.int t9), .val (.int d9), .val (.int r0), .val (.int r1), .val (.int r2), .unset] [(.int p1)])) _
            refine g_goto X9 hx (hb hby at_343) (by decide) (pc' := 347) (by decide) ?_
            rw [show v60 = (p1) from by rw [hv60, if_neg c334, if_pos c339]] at J
            exact J
      show Goes p.tables e below (T.setTop (mkF m 347 #[.val (.int p0), .val (.int p1), .val (.int p2), .val (.int p3), .val (.int p4), .val (.int vn), .val (.ref a), .val (.ref a37), .val (.int v57), .val (.int v58), .val (.int v59), .val (.int t9), .val (.int d9), .val (.int r0), .val (.int r1), .val (.int r2), .unset] [(.int v60)])) _
      refine g_iload X9 hx (hb hby at_347) rfl ?_
      show Goes p.tables e below (T.setTop (mkF m 349 #[.val (.int p0), .val (.int p1), .val (.int p2), .val (.int p3), .val (.int p4), .val (.int vn), .val (.ref a), .val (.ref a37), .val (.int v57), .val (.int v58), .val (.int v59), .val (.int t9), .val (.int d9), .val (.int r0), .val (.int r1), .val (.int r2), .unset] [(.int v58), (.int v60)])) _
      obtain ⟨v61, hv61⟩ : ∃ z : Int32, z = (if v58 = 0 then (0 : Int32) else (if r1 = 0 then p2 else (0 : Int32))) := ⟨_, rfl⟩
      refine Goes.join (S' := T.setTop (mkF m 362 #[.val (.int p0), .val (.int p1), .val (.int p2), .val (.int p3), .val (.int p4), .val (.int vn), .val (.ref a), .val (.ref a37), .val (.int v57), .val (.int v58), .val (.int v59), .val (.int t9), .val (.int d9), .val (.int r0), .val (.int r1), .val (.int r2), .unset] [(.int v61), (.int v60)])) (fun J => ?_) ?_
      · skip
        refine g_if_eq X9 hx (hb hby at_349) (by decide) (pc' := 361) (by decide) (fun c349 => ?_) (fun c349 => ?_)
        · skip
          show Goes p.tables e below (T.setTop (mkF m 361 #[.val (.int p0), .val (.int p1), .val (.int p2), .val (.int p3), .val (.int p4), .val (.int vn), .val (.ref a), .val (.ref a37), .val (.int v57), .val (.int v58), .val (.int v59), .val (.int t9), .val (.int d9), .val (.int r0), .val (.int r1), .val (.int r2), .unset] [(.int v60)])) _
          refine g_iconst X9 hx (0 : Int32) (hb hby at_361) rfl ?_
          rw [show v61 = ((0 : Int32)) from by rw [hv61, if_pos c349]] at J
          exact J
        · skip
          show Goes p.tables e below (T.setTop (mkF m 352 #[.val (.int p0), .val (.int p1), .val (.int p2), .val (.int p3), .val (.int p4), .val (.int vn), .val (.ref a), .val (.ref a37), .val (.int v57), .val (.int v58), .val (.int v59), .val (.int t9), .val (.int d9), .val (.int r0), .val (.int r1), .val (.int r2), .unset] [(.int v60)])) _
          refine g_iload X9 hx (hb hby at_352) rfl ?_
          show Goes p.tables e below (T.setTop (mkF m 354 #[.val (.int p0), .val (.int p1), .val (.int p2), .val (.int p3), .val (.int p4), .val (.int vn), .val (.ref a), .val (.ref a37), .val (.int v57), .val (.int v58), .val (.int v59), .val (.int t9), .val (.int d9), .val (.int r0), .val (.int r1), .val (.int r2), .unset] [(.int r1), (.int v60)])) _
          refine g_if_ne X9 hx (hb hby at_354) (by decide) (pc' := 361) (by decide) (fun c354 => ?_) (fun c354 => ?_)
          · skip
            show Goes p.tables e below (T.setTop (mkF m 361 #[.val (.int p0), .val (.int p1), .val (.int p2), .val (.int p3), .val (.int p4), .val (.int vn), .val (.ref a), .val (.ref a37), .val (.int v57), .val (.int v58), .val (.int v59), .val (.int t9), .val (.int d9), .val (.int r0), .val (.int r1), .val (.int r2), .unset] [(.int v60)])) _
            refine g_iconst X9 hx (0 : Int32) (hb hby at_361) rfl ?_
            rw [show v61 = ((0 : Int32)) from by rw [hv61, if_neg c349, if_neg c354]] at J
            exact J
          · skip
            show Goes p.tables e below (T.setTop (mkF m 357 #[.val (.int p0), .val (.int p1), .val (.int p2), .val (.int p3), .val (.int p4), .val (.int vn), .val (.ref a), .val (.ref a37), .val (.int v57), .val (.int v58), .val (.int v59), .val (.int t9), .val (.int d9), .val (.int r0), .val (.int r1), .val (.int r2), .unset] [(.int v60)])) _
            refine g_iloadN X9 hx (hb hby at_357) rfl ?_
            show Goes p.tables e below (T.setTop (mkF m 358 #[.val (.int p0), .val (.int p1), .val (.int p2), .val (.int p3), .val (.int p4), .val (.int vn), .val (.ref a), .val (.ref a37), .val (.int v57), .val (.int v58), .val (.int v59), .val (.int t9), .val (.int d9), .val (.int r0), .val (.int r1), .val (.int r2), .unset] [(.int p2), (.int v60)])) _
            refine g_goto X9 hx (hb hby at_358) (by decide) (pc' := 362) (by decide) ?_
            rw [show v61 = (p2) from by rw [hv61, if_neg c349, if_pos c354]] at J
            exact J
      show Goes p.tables e below (T.setTop (mkF m 362 #[.val (.int p0), .val (.int p1), .val (.int p2), .val (.int p3), .val (.int p4), .val (.int vn), .val (.ref a), .val (.ref a37), .val (.int v57), .val (.int v58), .val (.int v59), .val (.int t9), .val (.int d9), .val (.int r0), .val (.int r1), .val (.int r2), .unset] [(.int v61), (.int v60)])) _
      refine g_iadd X9 hx (hb hby at_362) ?_
      show Goes p.tables e below (T.setTop (mkF m 363 #[.val (.int p0), .val (.int p1), .val (.int p2), .val (.int p3), .val (.int p4), .val (.int vn), .val (.ref a), .val (.ref a37), .val (.int v57), .val (.int v58), .val (.int v59), .val (.int t9), .val (.int d9), .val (.int r0), .val (.int r1), .val (.int r2), .unset] [(.int (v60 + v61))])) _
      refine g_iload X9 hx (hb hby at_363) rfl ?_
      show Goes p.tables e below (T.setTop (mkF m 365 #[.val (.int p0), .val (.int p1), .val (.int p2), .val (.int p3), .val (.int p4), .val (.int vn), .val (.ref a), .val (.ref a37), .val (.int v57), .val (.int v58), .val (.int v59), .val (.int t9), .val (.int d9), .val (.int r0), .val (.int r1), .val (.int r2), .unset] [(.int v59), (.int (v60 + v61))])) _
      obtain ⟨v62, hv62⟩ : ∃ z : Int32, z = (if v59 = 0 then (0 : Int32) else (if r2 = 0 then p3 else (0 : Int32))) := ⟨_, rfl⟩
      refine Goes.join (S' := T.setTop (mkF m 378 #[.val (.int p0), .val (.int p1), .val (.int p2), .val (.int p3), .val (.int p4), .val (.int vn), .val (.ref a), .val (.ref a37), .val (.int v57), .val (.int v58), .val (.int v59), .val (.int t9), .val (.int d9), .val (.int r0), .val (.int r1), .val (.int r2), .unset] [(.int v62), (.int (v60 + v61))])) (fun J => ?_) ?_
      · skip
        refine g_if_eq X9 hx (hb hby at_365) (by decide) (pc' := 377) (by decide) (fun c365 => ?_) (fun c365 => ?_)
        · skip
          show Goes p.tables e below (T.setTop (mkF m 377 #[.val (.int p0), .val (.int p1), .val (.int p2), .val (.int p3), .val (.int p4), .val (.int vn), .val (.ref a), .val (.ref a37), .val (.int v57), .val (.int v58), .val (.int v59), .val (.int t9), .val (.int d9), .val (.int r0), .val (.int r1), .val (.int r2), .unset] [(.int (v60 + v61))])) _
          refine g_iconst X9 hx (0 : Int32) (hb hby at_377) rfl ?_
          rw [show v62 = ((0 : Int32)) from by rw [hv62, if_pos c365]] at J
          exact J
        · skip
          show Goes p.tables e below (T.setTop (mkF m 368 #[.val (.int p0), .val (.int p1), .val (.int p2), .val (.int p3), .val (.int p4), .val (.int vn), .val (.ref a), .val (.ref a37), .val (.int v57), .val (.int v58), .val (.int v59), .val (.int t9), .val (.int d9), .val (.int r0), .val (.int r1), .val (.int r2), .unset] [(.int (v60 + v61))])) _
          refine g_iload X9 hx (hb hby at_368) rfl ?_
          show Goes p.tables e below (T.setTop (mkF m 370 #[.val (.int p0), .val (.int p1), .val (.int p2), .val (.int p3), .val (.int p4), .val (.int vn), .val (.ref a), .val (.ref a37), .val (.int v57), .val (.int v58), .val (.int v59), .val (.int t9), .val (.int d9), .val (.int r0), .val (.int r1), .val (.int r2), .unset] [(.int r2), (.int (v60 + v61))])) _
          refine g_if_ne X9 hx (hb hby at_370) (by decide) (pc' := 377) (by decide) (fun c370 => ?_) (fun c370 => ?_)
          · skip
            show Goes p.tables e below (T.setTop (mkF m 377 #[.val (.int p0), .val (.int p1), .val (.int p2), .val (.int p3), .val (.int p4), .val (.int vn), .val (.ref a), .val (.ref a37), .val (.int v57), .val (.int v58), .val (.int v59), .val (.int t9), .val (.int d9), .val (.int r0), .val (.int r1), .val (.int r2), .unset] [(.int (v60 + v61))])) _
            refine g_iconst X9 hx (0 : Int32) (hb hby at_377) rfl ?_
            rw [show v62 = ((0 : Int32)) from by rw [hv62, if_neg c365, if_neg c370]] at J
            exact J
          · skip
            show Goes p.tables e below (T.setTop (mkF m 373 #[.val (.int p0), .val (.int p1), .val (.int p2), .val (.int p3), .val (.int p4), .val (.int vn), .val (.ref a), .val (.ref a37), .val (.int v57), .val (.int v58), .val (.int v59), .val (.int t9), .val (.int d9), .val (.int r0), .val (.int r1), .val (.int r2), .unset] [(.int (v60 + v61))])) _
            refine g_iloadN X9 hx (hb hby at_373) rfl ?_
            show Goes p.tables e below (T.setTop (mkF m 374 #[.val (.int p0), .val (.int p1), .val (.int p2), .val (.int p3), .val (.int p4), .val (.int vn), .val (.ref a), .val (.ref a37), .val (.int v57), .val (.int v58), .val (.int v59), .val (.int t9), .val (.int d9), .val (.int r0), .val (.int r1), .val (.int r2), .unset] [(.int p3), (.int (v60 + v61))])) _
            refine g_goto X9 hx (hb hby at_374) (by decide) (pc' := 378) (by decide) ?_
            rw [show v62 = (p3) from by rw [hv62, if_neg c365, if_pos c370]] at J
            exact J
      show Goes p.tables e below (T.setTop (mkF m 378 #[.val (.int p0), .val (.int p1), .val (.int p2), .val (.int p3), .val (.int p4), .val (.int vn), .val (.ref a), .val (.ref a37), .val (.int v57), .val (.int v58), .val (.int v59), .val (.int t9), .val (.int d9), .val (.int r0), .val (.int r1), .val (.int r2), .unset] [(.int v62), (.int (v60 + v61))])) _
      refine g_iadd X9 hx (hb hby at_378) ?_
      obtain ⟨vu, hvu⟩ : ∃ z : Int32, z = ((v60 + v61) + v62) := ⟨_, rfl⟩
      refine g_nameI hvu ?_
      show Goes p.tables e below (T.setTop (mkF m 379 #[.val (.int p0), .val (.int p1), .val (.int p2), .val (.int p3), .val (.int p4), .val (.int vn), .val (.ref a), .val (.ref a37), .val (.int v57), .val (.int v58), .val (.int v59), .val (.int t9), .val (.int d9), .val (.int r0), .val (.int r1), .val (.int r2), .unset] [(.int vu)])) _
      refine g_istore X9 hx (hb hby at_379) (l' := #[.val (.int p0), .val (.int p1), .val (.int p2), .val (.int p3), .val (.int p4), .val (.int vn), .val (.ref a), .val (.ref a37), .val (.int v57), .val (.int v58), .val (.int v59), .val (.int t9), .val (.int d9), .val (.int r0), .val (.int r1), .val (.int r2), .val (.int vu)]) rfl ?_
      show Goes p.tables e below (T.setTop (mkF m 381 #[.val (.int p0), .val (.int p1), .val (.int p2), .val (.int p3), .val (.int p4), .val (.int vn), .val (.ref a), .val (.ref a37), .val (.int v57), .val (.int v58), .val (.int v59), .val (.int t9), .val (.int d9), .val (.int r0), .val (.int r1), .val (.int r2), .val (.int vu)] [])) _
      refine g_aload X9 hx (hb hby at_381) rfl rfl ?_
      show Goes p.tables e below (T.setTop (mkF m 383 #[.val (.int p0), .val (.int p1), .val (.int p2), .val (.int p3), .val (.int p4), .val (.int vn), .val (.ref a), .val (.ref a37), .val (.int v57), .val (.int v58), .val (.int v59), .val (.int t9), .val (.int d9), .val (.int r0), .val (.int r1), .val (.int r2), .val (.int vu)] [(.ref a37)])) _
      refine g_callV X9 hx hZ hown (by rw [hml]; rfl) e9 (K := "com/example/delvedeck/delvedeck/solo/SkillBoard") (hw _ (List.mem_of_getElem? (i := 81) rfl)) (hw _ (List.mem_of_getElem? (i := 82) rfl)) (hw _ (List.mem_of_getElem? (i := 84) rfl)) (hw _ (List.mem_of_getElem? (i := 83) rfl)) (hw _ (List.mem_of_getElem? (i := 28) rfl)) (hw _ (List.mem_of_getElem? (i := 85) rfl)) Eo (rmCd l Z a0 hw a37 h h0.size Z9 ch (cl n (if r0 = 0 then (if v57 = 0 then (0 : Int32) else p1) else (0 : Int32)) (if r1 = 0 then (if v58 = 0 then (0 : Int32) else p2) else (0 : Int32)) (if r2 = 0 then (if v59 = 0 then (0 : Int32) else p3) else (0 : Int32))) Fo Ao (by rw [own_cllen _ _ _ hn3]; exact hn4)) [] rfl [] rfl (lenOf pd_11 rfl) (hb hby at_383) (by decide) 0 (by decide) (by decide) (by first | decide | exact Nat.le_refl _) (by decide) (by decide) (fun v T63 L63 X63 hQ63 => ?_)
      obtain ⟨rfl, e63, rfl⟩ := hQ63
      have N64 := Fr.app N9 (Fr.nil h0.size)
      show Goes p.tables e below (T63.setTop (mkF m 386 #[.val (.int p0), .val (.int p1), .val (.int p2), .val (.int p3), .val (.int p4), .val (.int vn), .val (.ref a), .val (.ref a37), .val (.int v57), .val (.int v58), .val (.int v59), .val (.int t9), .val (.int d9), .val (.int r0), .val (.int r1), .val (.int r2), .val (.int vu)] [(.int (sumL (cl n (if r0 = 0 then (if v57 = 0 then (0 : Int32) else p1) else (0 : Int32)) (if r1 = 0 then (if v58 = 0 then (0 : Int32) else p2) else (0 : Int32)) (if r2 = 0 then (if v59 = 0 then (0 : Int32) else p3) else (0 : Int32)))))])) _
      refine g_iload X63 hx (hb hby at_386) rfl ?_
      have c388 : (sumL (cl n (if r0 = 0 then (if v57 = 0 then (0 : Int32) else p1) else (0 : Int32)) (if r1 = 0 then (if v58 = 0 then (0 : Int32) else p2) else (0 : Int32)) (if r2 = 0 then (if v59 = 0 then (0 : Int32) else p3) else (0 : Int32)))) = vu := (by rw [own_sum3 hn3 (fun q => by rw [hz0 q, if_pos rfl, ite_self]) (fun q => by rw [hz1 q, if_pos rfl, ite_self]) (fun q => by rw [hz2 q, if_pos rfl, ite_self]), hvu, hv60, hv61, hv62, own_if2, own_if2, own_if2])
      refine g_icmp_ne X63 hx (hb hby at_388) (by decide) (pc' := 395) (by decide) (fun q => absurd c388 q) (fun _ => ?_)
      show Goes p.tables e below (T63.setTop (mkF m 391 #[.val (.int p0), .val (.int p1), .val (.int p2), .val (.int p3), .val (.int p4), .val (.int vn), .val (.ref a), .val (.ref a37), .val (.int v57), .val (.int v58), .val (.int v59), .val (.int t9), .val (.int d9), .val (.int r0), .val (.int r1), .val (.int r2), .val (.int vu)] [])) _
      refine g_iconst X63 hx (1 : Int32) (hb hby at_391) rfl ?_
      show Goes p.tables e below (T63.setTop (mkF m 392 #[.val (.int p0), .val (.int p1), .val (.int p2), .val (.int p3), .val (.int p4), .val (.int vn), .val (.ref a), .val (.ref a37), .val (.int v57), .val (.int v58), .val (.int v59), .val (.int t9), .val (.int d9), .val (.int r0), .val (.int r1), .val (.int r2), .val (.int vu)] [(.int (1 : Int32))])) _
      refine g_goto X63 hx (hb hby at_392) (by decide) (pc' := 396) (by decide) ?_
      show Goes p.tables e below (T63.setTop (mkF m 396 #[.val (.int p0), .val (.int p1), .val (.int p2), .val (.int p3), .val (.int p4), .val (.int vn), .val (.ref a), .val (.ref a37), .val (.int v57), .val (.int v58), .val (.int v59), .val (.int t9), .val (.int d9), .val (.int r0), .val (.int r1), .val (.int r2), .val (.int vu)] [(.int (1 : Int32))])) _
      exact g_retZ X63 hx (hz := (by decide)) hret hlk (hb hby at_396) (by decide) (by decide) ⟨rfl, N64⟩
    have J319 : ∀ (t9 d9 r0 r1 r2 : Int32) (es : List Value) (T : State) (locs : List Loc) (h : Heap), (n ≤ 0 → r0 = 0) → (n ≤ 1 → r1 = 0) → (n ≤ 2 → r2 = 0) → es.length = n → Stand p l e room_1 s m #[(.int p0), (.int p1), (.int p2), (.int p3), (.int p4)] below meth c T locs (2 + 1 + 6) (13 + 4 + 22) → T.heap = h → Fr h0.size locs → h0.size ≤ h.size → Exa Z h a37 "com/example/delvedeck/delvedeck/solo/SkillBoard" → Fld Z h a37 "com/example/delvedeck/delvedeck/solo/SkillBoard" "faceDown" "[Z" (.ref fd) → Fld Z h a37 "com/example/delvedeck/delvedeck/solo/SkillBoard" "charges" "[I" (.ref ch) → Ar Z h ch .int ((cl n (if r0 = 0 then (if v57 = 0 then (0 : Int32) else p1) else (0 : Int32)) (if r1 = 0 then (if v58 = 0 then (0 : Int32) else p2) else (0 : Int32)) (if v59 = 0 then (0 : Int32) else p3)).map Value.int) → Ar Z h fd .boolean es → Goes p.tables e below (T.setTop (mkF m 319 #[.val (.int p0), .val (.int p1), .val (.int p2), .val (.int p3), .val (.int p4), .val (.int vn), .val (.ref a), .val (.ref a37), .val (.int v57), .val (.int v58), .val (.int v59), .val (.int t9), .val (.int d9), .val (.int r0), .val (.int r1), .val (.int r2), .unset] [])) (Fin s 32 192 (fun v h L => v = some (.int 1) ∧ Fr h0.size L)) := by
      intro t9 d9 r0 r1 r2 es T locs h y0 y1 y2 hes X9 e9 N9 Z9 Eo Fd Fo Ao Af
      show Goes p.tables e below (T.setTop (mkF m 319 #[.val (.int p0), .val (.int p1), .val (.int p2), .val (.int p3), .val (.int p4), .val (.int vn), .val (.ref a), .val (.ref a37), .val (.int v57), .val (.int v58), .val (.int v59), .val (.int t9), .val (.int d9), .val (.int r0), .val (.int r1), .val (.int r2), .unset] [])) _
      refine g_iload X9 hx (hb hby at_319) rfl ?_
      refine g_if_eq X9 hx (hb hby at_321) (by decide) (pc' := 332) (by decide) (fun c321 => ?_) (fun c321 => ?_)
      · skip
        show Goes p.tables e below (T.setTop (mkF m 332 #[.val (.int p0), .val (.int p1), .val (.int p2), .val (.int p3), .val (.int p4), .val (.int vn), .val (.ref a), .val (.ref a37), .val (.int v57), .val (.int v58), .val (.int v59), .val (.int t9), .val (.int d9), .val (.int r0), .val (.int r1), .val (.int r2), .unset] [])) _
        have A8 := Ao
        rw [show (if v59 = 0 then (0 : Int32) else p3) = (if r2 = 0 then (if v59 = 0 then (0 : Int32) else p3) else (0 : Int32)) from (if_pos c321).symm] at A8
        exact J332 t9 d9 r0 r1 r2 es _ _ _ y0 y1 y2 hes X9 e9 N9 Z9 Eo Fd Fo A8 Af
      · skip
        show Goes p.tables e below (T.setTop (mkF m 324 #[.val (.int p0), .val (.int p1), .val (.int p2), .val (.int p3), .val (.int p4), .val (.int vn), .val (.ref a), .val (.ref a37), .val (.int v57), .val (.int v58), .val (.int v59), .val (.int t9), .val (.int d9), .val (.int r0), .val (.int r1), .val (.int r2), .unset] [])) _
        have hlt : 2 < n := by rcases Nat.lt_or_ge 2 n with q | q; exact q; exact absurd (y2 q) c321
        refine g_aload X9 hx (hb hby at_324) rfl rfl ?_
        show Goes p.tables e below (T.setTop (mkF m 326 #[.val (.int p0), .val (.int p1), .val (.int p2), .val (.int p3), .val (.int p4), .val (.int vn), .val (.ref a), .val (.ref a37), .val (.int v57), .val (.int v58), .val (.int v59), .val (.int t9), .val (.int d9), .val (.int r0), .val (.int r1), .val (.int r2), .unset] [(.ref a37)])) _
        refine g_iconst X9 hx (2 : Int32) (hb hby at_326) rfl ?_
        show Goes p.tables e below (T.setTop (mkF m 327 #[.val (.int p0), .val (.int p1), .val (.int p2), .val (.int p3), .val (.int p4), .val (.int vn), .val (.ref a), .val (.ref a37), .val (.int v57), .val (.int v58), .val (.int v59), .val (.int t9), .val (.int d9), .val (.int r0), .val (.int r1), .val (.int r2), .unset] [(.int (2 : Int32)), (.ref a37)])) _
        refine g_iload X9 hx (hb hby at_327) rfl ?_
        show Goes p.tables e below (T.setTop (mkF m 329 #[.val (.int p0), .val (.int p1), .val (.int p2), .val (.int p3), .val (.int p4), .val (.int vn), .val (.ref a), .val (.ref a37), .val (.int v57), .val (.int v58), .val (.int v59), .val (.int t9), .val (.int d9), .val (.int r0), .val (.int r1), .val (.int r2), .unset] [(.int d9), (.int (2 : Int32)), (.ref a37)])) _
        refine g_callS X9 hx hZ hown (by rw [hml]; rfl) e9 (hw _ (List.mem_of_getElem? (i := 195) rfl)) (hw _ (List.mem_of_getElem? (i := 196) rfl)) (hw _ (List.mem_of_getElem? (i := 197) rfl)) (hw _ (List.mem_of_getElem? (i := 198) rfl)) (rmRem l Z a0 hw a37 (2 : Int32) d9 h h0.size Z9 ch ((cl n (if r0 = 0 then (if v57 = 0 then (0 : Int32) else p1) else (0 : Int32)) (if r1 = 0 then (if v58 = 0 then (0 : Int32) else p2) else (0 : Int32)) (if v59 = 0 then (0 : Int32) else p3)).map Value.int) 2 (by decide) (by rw [List.length_map, own_cllen _ _ _ hn3]; exact hlt) Fo Ao gch noch fd es Fd Af (by rw [hes]; exact hlt) gfd nofd nfc (if v59 = 0 then (0 : Int32) else p3) (own_clg2 _ _ _ hlt) Eo) [(.ref a37), (.int (2 : Int32)), (.int d9)] rfl [] rfl (lenOf pd_28 rfl) (hb hby at_329) (by decide) 0 (by decide) (by decide) (by first | decide | exact Nat.le_refl _) (by decide) (by decide) (fun v T65 L65 X65 hQ65 => ?_)
        obtain ⟨rfl, Nc65, Kc65, Ac65, es2, hes2, Ad65⟩ := hQ65
        have fx66 : Exa Z T65.heap a37 "com/example/delvedeck/delvedeck/solo/SkillBoard" := Exa.keep Eo Kc65
        have fx67 : Fld Z T65.heap a37 "com/example/delvedeck/delvedeck/solo/SkillBoard" "faceDown" "[Z" (.ref fd) := Fld.keep Fd Kc65 (ninS noch (ninS nofd nin0))
        have fx68 : Fld Z T65.heap a37 "com/example/delvedeck/delvedeck/solo/SkillBoard" "charges" "[I" (.ref ch) := Fld.keep Fo Kc65 (ninS noch (ninS nofd nin0))
        have N69 := Fr.app N9 Nc65
        have Z70 : h0.size ≤ T65.heap.size := Nat.le_trans Z9 Kc65.1
        rw [own_setmap (own_cls2 _ _ _ _ _)] at Ac65
        have A8 := Ac65
        rw [show cl n (if r0 = 0 then (if v57 = 0 then (0 : Int32) else p1) else (0 : Int32)) (if r1 = 0 then (if v58 = 0 then (0 : Int32) else p2) else (0 : Int32)) (0 : Int32) = cl n (if r0 = 0 then (if v57 = 0 then (0 : Int32) else p1) else (0 : Int32)) (if r1 = 0 then (if v58 = 0 then (0 : Int32) else p2) else (0 : Int32)) (if r2 = 0 then (if v59 = 0 then (0 : Int32) else p3) else (0 : Int32)) from by rw [if_neg c321]] at A8
        exact J332 t9 d9 r0 r1 r2 es2 _ _ _ y0 y1 y2 (hes2.trans hes) X65 rfl N69 Z70 fx66 fx67 fx68 A8 Ad65
    have J306 : ∀ (t9 d9 r0 r1 r2 : Int32) (es : List Value) (T : State) (locs : List Loc) (h : Heap), (n ≤ 0 → r0 = 0) → (n ≤ 1 → r1 = 0) → (n ≤ 2 → r2 = 0) → es.length = n → Stand p l e room_1 s m #[(.int p0), (.int p1), (.int p2), (.int p3), (.int p4)] below meth c T locs (2 + 1 + 6) (13 + 4 + 22) → T.heap = h → Fr h0.size locs → h0.size ≤ h.size → Exa Z h a37 "com/example/delvedeck/delvedeck/solo/SkillBoard" → Fld Z h a37 "com/example/delvedeck/delvedeck/solo/SkillBoard" "faceDown" "[Z" (.ref fd) → Fld Z h a37 "com/example/delvedeck/delvedeck/solo/SkillBoard" "charges" "[I" (.ref ch) → Ar Z h ch .int ((cl n (if r0 = 0 then (if v57 = 0 then (0 : Int32) else p1) else (0 : Int32)) (if v58 = 0 then (0 : Int32) else p2) (if v59 = 0 then (0 : Int32) else p3)).map Value.int) → Ar Z h fd .boolean es → Goes p.tables e below (T.setTop (mkF m 306 #[.val (.int p0), .val (.int p1), .val (.int p2), .val (.int p3), .val (.int p4), .val (.int vn), .val (.ref a), .val (.ref a37), .val (.int v57), .val (.int v58), .val (.int v59), .val (.int t9), .val (.int d9), .val (.int r0), .val (.int r1), .val (.int r2), .unset] [])) (Fin s 32 192 (fun v h L => v = some (.int 1) ∧ Fr h0.size L)) := by
      intro t9 d9 r0 r1 r2 es T locs h y0 y1 y2 hes X9 e9 N9 Z9 Eo Fd Fo Ao Af
      show Goes p.tables e below (T.setTop (mkF m 306 #[.val (.int p0), .val (.int p1), .val (.int p2), .val (.int p3), .val (.int p4), .val (.int vn), .val (.ref a), .val (.ref a37), .val (.int v57), .val (.int v58), .val (.int v59), .val (.int t9), .val (.int d9), .val (.int r0), .val (.int r1), .val (.int r2), .unset] [])) _
      refine g_iload X9 hx (hb hby at_306) rfl ?_
      refine g_if_eq X9 hx (hb hby at_308) (by decide) (pc' := 319) (by decide) (fun c308 => ?_) (fun c308 => ?_)
      · skip
        show Goes p.tables e below (T.setTop (mkF m 319 #[.val (.int p0), .val (.int p1), .val (.int p2), .val (.int p3), .val (.int p4), .val (.int vn), .val (.ref a), .val (.ref a37), .val (.int v57), .val (.int v58), .val (.int v59), .val (.int t9), .val (.int d9), .val (.int r0), .val (.int r1), .val (.int r2), .unset] [])) _
        have A8 := Ao
        rw [show (if v58 = 0 then (0 : Int32) else p2) = (if r1 = 0 then (if v58 = 0 then (0 : Int32) else p2) else (0 : Int32)) from (if_pos c308).symm] at A8
        exact J319 t9 d9 r0 r1 r2 es _ _ _ y0 y1 y2 hes X9 e9 N9 Z9 Eo Fd Fo A8 Af
      · skip
        show Goes p.tables e below (T.setTop (mkF m 311 #[.val (.int p0), .val (.int p1), .val (.int p2), .val (.int p3), .val (.int p4), .val (.int vn), .val (.ref a), .val (.ref a37), .val (.int v57), .val (.int v58), .val (.int v59), .val (.int t9), .val (.int d9), .val (.int r0), .val (.int r1), .val (.int r2), .unset] [])) _
        have hlt : 1 < n := by rcases Nat.lt_or_ge 1 n with q | q; exact q; exact absurd (y1 q) c308
        refine g_aload X9 hx (hb hby at_311) rfl rfl ?_
        show Goes p.tables e below (T.setTop (mkF m 313 #[.val (.int p0), .val (.int p1), .val (.int p2), .val (.int p3), .val (.int p4), .val (.int vn), .val (.ref a), .val (.ref a37), .val (.int v57), .val (.int v58), .val (.int v59), .val (.int t9), .val (.int d9), .val (.int r0), .val (.int r1), .val (.int r2), .unset] [(.ref a37)])) _
        refine g_iconst X9 hx (1 : Int32) (hb hby at_313) rfl ?_
        show Goes p.tables e below (T.setTop (mkF m 314 #[.val (.int p0), .val (.int p1), .val (.int p2), .val (.int p3), .val (.int p4), .val (.int vn), .val (.ref a), .val (.ref a37), .val (.int v57), .val (.int v58), .val (.int v59), .val (.int t9), .val (.int d9), .val (.int r0), .val (.int r1), .val (.int r2), .unset] [(.int (1 : Int32)), (.ref a37)])) _
        refine g_iload X9 hx (hb hby at_314) rfl ?_
        show Goes p.tables e below (T.setTop (mkF m 316 #[.val (.int p0), .val (.int p1), .val (.int p2), .val (.int p3), .val (.int p4), .val (.int vn), .val (.ref a), .val (.ref a37), .val (.int v57), .val (.int v58), .val (.int v59), .val (.int t9), .val (.int d9), .val (.int r0), .val (.int r1), .val (.int r2), .unset] [(.int d9), (.int (1 : Int32)), (.ref a37)])) _
        refine g_callS X9 hx hZ hown (by rw [hml]; rfl) e9 (hw _ (List.mem_of_getElem? (i := 195) rfl)) (hw _ (List.mem_of_getElem? (i := 196) rfl)) (hw _ (List.mem_of_getElem? (i := 197) rfl)) (hw _ (List.mem_of_getElem? (i := 198) rfl)) (rmRem l Z a0 hw a37 (1 : Int32) d9 h h0.size Z9 ch ((cl n (if r0 = 0 then (if v57 = 0 then (0 : Int32) else p1) else (0 : Int32)) (if v58 = 0 then (0 : Int32) else p2) (if v59 = 0 then (0 : Int32) else p3)).map Value.int) 1 (by decide) (by rw [List.length_map, own_cllen _ _ _ hn3]; exact hlt) Fo Ao gch noch fd es Fd Af (by rw [hes]; exact hlt) gfd nofd nfc (if v58 = 0 then (0 : Int32) else p2) (own_clg1 _ _ _ hlt) Eo) [(.ref a37), (.int (1 : Int32)), (.int d9)] rfl [] rfl (lenOf pd_28 rfl) (hb hby at_316) (by decide) 0 (by decide) (by decide) (by first | decide | exact Nat.le_refl _) (by decide) (by decide) (fun v T71 L71 X71 hQ71 => ?_)
        obtain ⟨rfl, Nc71, Kc71, Ac71, es2, hes2, Ad71⟩ := hQ71
        have fx72 : Exa Z T71.heap a37 "com/example/delvedeck/delvedeck/solo/SkillBoard" := Exa.keep Eo Kc71
        have fx73 : Fld Z T71.heap a37 "com/example/delvedeck/delvedeck/solo/SkillBoard" "faceDown" "[Z" (.ref fd) := Fld.keep Fd Kc71 (ninS noch (ninS nofd nin0))
        have fx74 : Fld Z T71.heap a37 "com/example/delvedeck/delvedeck/solo/SkillBoard" "charges" "[I" (.ref ch) := Fld.keep Fo Kc71 (ninS noch (ninS nofd nin0))
        have N75 := Fr.app N9 Nc71
        have Z76 : h0.size ≤ T71.heap.size := Nat.le_trans Z9 Kc71.1
        rw [own_setmap (own_cls1 _ _ _ _ _)] at Ac71
        have A8 := Ac71
        rw [show cl n (if r0 = 0 then (if v57 = 0 then (0 : Int32) else p1) else (0 : Int32)) (0 : Int32) (if v59 = 0 then (0 : Int32) else p3) = cl n (if r0 = 0 then (if v57 = 0 then (0 : Int32) else p1) else (0 : Int32)) (if r1 = 0 then (if v58 = 0 then (0 : Int32) else p2) else (0 : Int32)) (if v59 = 0 then (0 : Int32) else p3) from by rw [if_neg c308]] at A8
        exact J319 t9 d9 r0 r1 r2 es2 _ _ _ y0 y1 y2 (hes2.trans hes) X71 rfl N75 Z76 fx72 fx73 fx74 A8 Ad71
    have J293 : ∀ (t9 d9 r0 r1 r2 : Int32) (es : List Value) (T : State) (locs : List Loc) (h : Heap), (n ≤ 0 → r0 = 0) → (n ≤ 1 → r1 = 0) → (n ≤ 2 → r2 = 0) → es.length = n → Stand p l e room_1 s m #[(.int p0), (.int p1), (.int p2), (.int p3), (.int p4)] below meth c T locs (2 + 1 + 6) (13 + 4 + 22) → T.heap = h → Fr h0.size locs → h0.size ≤ h.size → Exa Z h a37 "com/example/delvedeck/delvedeck/solo/SkillBoard" → Fld Z h a37 "com/example/delvedeck/delvedeck/solo/SkillBoard" "faceDown" "[Z" (.ref fd) → Fld Z h a37 "com/example/delvedeck/delvedeck/solo/SkillBoard" "charges" "[I" (.ref ch) → Ar Z h ch .int ((cl n (if v57 = 0 then (0 : Int32) else p1) (if v58 = 0 then (0 : Int32) else p2) (if v59 = 0 then (0 : Int32) else p3)).map Value.int) → Ar Z h fd .boolean es → Goes p.tables e below (T.setTop (mkF m 293 #[.val (.int p0), .val (.int p1), .val (.int p2), .val (.int p3), .val (.int p4), .val (.int vn), .val (.ref a), .val (.ref a37), .val (.int v57), .val (.int v58), .val (.int v59), .val (.int t9), .val (.int d9), .val (.int r0), .val (.int r1), .val (.int r2), .unset] [])) (Fin s 32 192 (fun v h L => v = some (.int 1) ∧ Fr h0.size L)) := by
      intro t9 d9 r0 r1 r2 es T locs h y0 y1 y2 hes X9 e9 N9 Z9 Eo Fd Fo Ao Af
      show Goes p.tables e below (T.setTop (mkF m 293 #[.val (.int p0), .val (.int p1), .val (.int p2), .val (.int p3), .val (.int p4), .val (.int vn), .val (.ref a), .val (.ref a37), .val (.int v57), .val (.int v58), .val (.int v59), .val (.int t9), .val (.int d9), .val (.int r0), .val (.int r1), .val (.int r2), .unset] [])) _
      refine g_iload X9 hx (hb hby at_293) rfl ?_
      refine g_if_eq X9 hx (hb hby at_295) (by decide) (pc' := 306) (by decide) (fun c295 => ?_) (fun c295 => ?_)
      · skip
        show Goes p.tables e below (T.setTop (mkF m 306 #[.val (.int p0), .val (.int p1), .val (.int p2), .val (.int p3), .val (.int p4), .val (.int vn), .val (.ref a), .val (.ref a37), .val (.int v57), .val (.int v58), .val (.int v59), .val (.int t9), .val (.int d9), .val (.int r0), .val (.int r1), .val (.int r2), .unset] [])) _
        have A8 := Ao
        rw [show (if v57 = 0 then (0 : Int32) else p1) = (if r0 = 0 then (if v57 = 0 then (0 : Int32) else p1) else (0 : Int32)) from (if_pos c295).symm] at A8
        exact J306 t9 d9 r0 r1 r2 es _ _ _ y0 y1 y2 hes X9 e9 N9 Z9 Eo Fd Fo A8 Af
      · skip
        show Goes p.tables e below (T.setTop (mkF m 298 #[.val (.int p0), .val (.int p1), .val (.int p2), .val (.int p3), .val (.int p4), .val (.int vn), .val (.ref a), .val (.ref a37), .val (.int v57), .val (.int v58), .val (.int v59), .val (.int t9), .val (.int d9), .val (.int r0), .val (.int r1), .val (.int r2), .unset] [])) _
        have hlt : 0 < n := by rcases Nat.lt_or_ge 0 n with q | q; exact q; exact absurd (y0 q) c295
        refine g_aload X9 hx (hb hby at_298) rfl rfl ?_
        show Goes p.tables e below (T.setTop (mkF m 300 #[.val (.int p0), .val (.int p1), .val (.int p2), .val (.int p3), .val (.int p4), .val (.int vn), .val (.ref a), .val (.ref a37), .val (.int v57), .val (.int v58), .val (.int v59), .val (.int t9), .val (.int d9), .val (.int r0), .val (.int r1), .val (.int r2), .unset] [(.ref a37)])) _
        refine g_iconst X9 hx (0 : Int32) (hb hby at_300) rfl ?_
        show Goes p.tables e below (T.setTop (mkF m 301 #[.val (.int p0), .val (.int p1), .val (.int p2), .val (.int p3), .val (.int p4), .val (.int vn), .val (.ref a), .val (.ref a37), .val (.int v57), .val (.int v58), .val (.int v59), .val (.int t9), .val (.int d9), .val (.int r0), .val (.int r1), .val (.int r2), .unset] [(.int (0 : Int32)), (.ref a37)])) _
        refine g_iload X9 hx (hb hby at_301) rfl ?_
        show Goes p.tables e below (T.setTop (mkF m 303 #[.val (.int p0), .val (.int p1), .val (.int p2), .val (.int p3), .val (.int p4), .val (.int vn), .val (.ref a), .val (.ref a37), .val (.int v57), .val (.int v58), .val (.int v59), .val (.int t9), .val (.int d9), .val (.int r0), .val (.int r1), .val (.int r2), .unset] [(.int d9), (.int (0 : Int32)), (.ref a37)])) _
        refine g_callS X9 hx hZ hown (by rw [hml]; rfl) e9 (hw _ (List.mem_of_getElem? (i := 195) rfl)) (hw _ (List.mem_of_getElem? (i := 196) rfl)) (hw _ (List.mem_of_getElem? (i := 197) rfl)) (hw _ (List.mem_of_getElem? (i := 198) rfl)) (rmRem l Z a0 hw a37 (0 : Int32) d9 h h0.size Z9 ch ((cl n (if v57 = 0 then (0 : Int32) else p1) (if v58 = 0 then (0 : Int32) else p2) (if v59 = 0 then (0 : Int32) else p3)).map Value.int) 0 (by decide) (by rw [List.length_map, own_cllen _ _ _ hn3]; exact hlt) Fo Ao gch noch fd es Fd Af (by rw [hes]; exact hlt) gfd nofd nfc (if v57 = 0 then (0 : Int32) else p1) (own_clg0 _ _ _ hlt) Eo) [(.ref a37), (.int (0 : Int32)), (.int d9)] rfl [] rfl (lenOf pd_28 rfl) (hb hby at_303) (by decide) 0 (by decide) (by decide) (by first | decide | exact Nat.le_refl _) (by decide) (by decide) (fun v T77 L77 X77 hQ77 => ?_)
        obtain ⟨rfl, Nc77, Kc77, Ac77, es2, hes2, Ad77⟩ := hQ77
        have fx78 : Exa Z T77.heap a37 "com/example/delvedeck/delvedeck/solo/SkillBoard" := Exa.keep Eo Kc77
        have fx79 : Fld Z T77.heap a37 "com/example/delvedeck/delvedeck/solo/SkillBoard" "faceDown" "[Z" (.ref fd) := Fld.keep Fd Kc77 (ninS noch (ninS nofd nin0))
        have fx80 : Fld Z T77.heap a37 "com/example/delvedeck/delvedeck/solo/SkillBoard" "charges" "[I" (.ref ch) := Fld.keep Fo Kc77 (ninS noch (ninS nofd nin0))
        have N81 := Fr.app N9 Nc77
        have Z82 : h0.size ≤ T77.heap.size := Nat.le_trans Z9 Kc77.1
        rw [own_setmap (own_cls0 _ _ _ _ _)] at Ac77
        have A8 := Ac77
        rw [show cl n (0 : Int32) (if v58 = 0 then (0 : Int32) else p2) (if v59 = 0 then (0 : Int32) else p3) = cl n (if r0 = 0 then (if v57 = 0 then (0 : Int32) else p1) else (0 : Int32)) (if v58 = 0 then (0 : Int32) else p2) (if v59 = 0 then (0 : Int32) else p3) from by rw [if_neg c295]] at A8
        exact J306 t9 d9 r0 r1 r2 es2 _ _ _ y0 y1 y2 (hes2.trans hes) X77 rfl N81 Z82 fx78 fx79 fx80 A8 Ad77
    have J170 : ∀ (es : List Value) (T : State) (locs : List Loc) (h : Heap), es.length = n → Stand p l e room_1 s m #[(.int p0), (.int p1), (.int p2), (.int p3), (.int p4)] below meth c T locs (2 + 1 + 6) (13 + 4 + 22) → T.heap = h → Fr h0.size locs → h0.size ≤ h.size → Exa Z h a37 "com/example/delvedeck/delvedeck/solo/SkillBoard" → Fld Z h a37 "com/example/delvedeck/delvedeck/solo/SkillBoard" "faceDown" "[Z" (.ref fd) → Fld Z h a37 "com/example/delvedeck/delvedeck/solo/SkillBoard" "charges" "[I" (.ref ch) → Ar Z h ch .int ((cl n (if v57 = 0 then (0 : Int32) else p1) (if v58 = 0 then (0 : Int32) else p2) (if v59 = 0 then (0 : Int32) else p3)).map Value.int) → Ar Z h fd .boolean es → Goes p.tables e below (T.setTop (mkF m 170 #[.val (.int p0), .val (.int p1), .val (.int p2), .val (.int p3), .val (.int p4), .val (.int vn), .val (.ref a), .val (.ref a37), .val (.int v57), .val (.int v58), .val (.int v59), .unset, .unset, .unset, .unset, .unset, .unset] [])) (Fin s 32 192 (fun v h L => v = some (.int 1) ∧ Fr h0.size L)) := by
      intro es T locs h hes X9 e9 N9 Z9 Eo Fd Fo Ao Af
      show Goes p.tables e below (T.setTop (mkF m 170 #[.val (.int p0), .val (.int p1), .val (.int p2), .val (.int p3), .val (.int p4), .val (.int vn), .val (.ref a), .val (.ref a37), .val (.int v57), .val (.int v58), .val (.int v59), .unset, .unset, .unset, .unset, .unset, .unset] [])) _
      refine g_iload X9 hx (hb hby at_170) rfl ?_
      show Goes p.tables e below (T.setTop (mkF m 172 #[.val (.int p0), .val (.int p1), .val (.int p2), .val (.int p3), .val (.int p4), .val (.int vn), .val (.ref a), .val (.ref a37), .val (.int v57), .val (.int v58), .val (.int v59), .unset, .unset, .unset, .unset, .unset, .unset] [(.int v57)])) _
      obtain ⟨v83, hv83⟩ : ∃ z : Int32, z = (if v57 = 0 then (0 : Int32) else p1) := ⟨_, rfl⟩
      refine Goes.join (S' := T.setTop (mkF m 180 #[.val (.int p0), .val (.int p1), .val (.int p2), .val (.int p3), .val (.int p4), .val (.int vn), .val (.ref a), .val (.ref a37), .val (.int v57), .val (.int v58), .val (.int v59), .unset, .unset, .unset, .unset, .unset, .unset] [(.int v83)])) (fun J => ?_) ?_
      · skip
        refine g_if_eq X9 hx (hb hby at_172) (by decide) (pc' := 179) (by decide) (fun c172 => ?_) (fun c172 => ?_)
        · skip
          show Goes p.tables e below (T.setTop (mkF m 179 #[.val (.int p0), .val (.int p1), .val (.int p2), .val (.int p3), .val (.int p4), .val (.int vn), .val (.ref a), .val (.ref a37), .val (.int v57), .val (.int v58), .val (.int v59), .unset, .unset, .unset, .unset, .unset, .unset] [])) _
          refine g_iconst X9 hx (0 : Int32) (hb hby at_179) rfl ?_
          rw [show v83 = ((0 : Int32)) from by rw [hv83, if_pos c172]] at J
          exact J
        · skip
          show Goes p.tables e below (T.setTop (mkF m 175 #[.val (.int p0), .val (.int p1), .val (.int p2), .val (.int p3), .val (.int p4), .val (.int vn), .val (.ref a), .val (.ref a37), .val (.int v57), .val (.int v58), .val (.int v59), .unset, .unset, .unset, .unset, .unset, .unset] [])) _
          refine g_iloadN X9 hx (hb hby at_175) rfl ?_
          show Goes p.tables e below (T.setTop (mkF m 176 #[.val (.int p0), .val (.int p1), .val (.int p2), .val (.int p3), .val (.int p4), .val (.int vn), .val (.ref a), .val (.ref a37), .val (.int v57), .val (.int v58), .val (.int v59), .unset, .unset, .unset, .unset, .unset, .unset] [(.int p1)])) _
          refine g_goto X9 hx (hb hby at_176) (by decide) (pc' := 180) (by decide) ?_
          rw [show v83 = (p1) from by rw [hv83, if_neg c172]] at J
          exact J
      show Goes p.tables e below (T.setTop (mkF m 180 #[.val (.int p0), .val (.int p1), .val (.int p2), .val (.int p3), .val (.int p4), .val (.int vn), .val (.ref a), .val (.ref a37), .val (.int v57), .val (.int v58), .val (.int v59), .unset, .unset, .unset, .unset, .unset, .unset] [(.int v83)])) _
      refine g_iload X9 hx (hb hby at_180) rfl ?_
      show Goes p.tables e below (T.setTop (mkF m 182 #[.val (.int p0), .val (.int p1), .val (.int p2), .val (.int p3), .val (.int p4), .val (.int vn), .val (.ref a), .val (.ref a37), .val (.int v57), .val (.int v58), .val (.int v59), .unset, .unset, .unset, .unset, .unset, .unset] [(.int v58), (.int v83)])) _
      obtain ⟨v84, hv84⟩ : ∃ z : Int32, z = (if v58 = 0 then (0 : Int32) else p2) := ⟨_, rfl⟩
      refine Goes.join (S' := T.setTop (mkF m 190 #[.val (.int p0), .val (.int p1), .val (.int p2), .val (.int p3), .val (.int p4), .val (.int vn), .val (.ref a), .val (.ref a37), .val (.int v57), .val (.int v58), .val (.int v59), .unset, .unset, .unset, .unset, .unset, .unset] [(.int v84), (.int v83)])) (fun J => ?_) ?_
      · skip
        refine g_if_eq X9 hx (hb hby at_182) (by decide) (pc' := 189) (by decide) (fun c182 => ?_) (fun c182 => ?_)
        · skip
          show Goes p.tables e below (T.setTop (mkF m 189 #[.val (.int p0), .val (.int p1), .val (.int p2), .val (.int p3), .val (.int p4), .val (.int vn), .val (.ref a), .val (.ref a37), .val (.int v57), .val (.int v58), .val (.int v59), .unset, .unset, .unset, .unset, .unset, .unset] [(.int v83)])) _
          refine g_iconst X9 hx (0 : Int32) (hb hby at_189) rfl ?_
          rw [show v84 = ((0 : Int32)) from by rw [hv84, if_pos c182]] at J
          exact J
        · skip
          show Goes p.tables e below (T.setTop (mkF m 185 #[.val (.int p0), .val (.int p1), .val (.int p2), .val (.int p3), .val (.int p4), .val (.int vn), .val (.ref a), .val (.ref a37), .val (.int v57), .val (.int v58), .val (.int v59), .unset, .unset, .unset, .unset, .unset, .unset] [(.int v83)])) _
          refine g_iloadN X9 hx (hb hby at_185) rfl ?_
          show Goes p.tables e below (T.setTop (mkF m 186 #[.val (.int p0), .val (.int p1), .val (.int p2), .val (.int p3), .val (.int p4), .val (.int vn), .val (.ref a), .val (.ref a37), .val (.int v57), .val (.int v58), .val (.int v59), .unset, .unset, .unset, .unset, .unset, .unset] [(.int p2), (.int v83)])) _
          refine g_goto X9 hx (hb hby at_186) (by decide) (pc' := 190) (by decide) ?_
          rw [show v84 = (p2) from by rw [hv84, if_neg c182]] at J
          exact J
      show Goes p.tables e below (T.setTop (mkF m 190 #[.val (.int p0), .val (.int p1), .val (.int p2), .val (.int p3), .val (.int p4), .val (.int vn), .val (.ref a), .val (.ref a37), .val (.int v57), .val (.int v58), .val (.int v59), .unset, .unset, .unset, .unset, .unset, .unset] [(.int v84), (.int v83)])) _
      refine g_iadd X9 hx (hb hby at_190) ?_
      show Goes p.tables e below (T.setTop (mkF m 191 #[.val (.int p0), .val (.int p1), .val (.int p2), .val (.int p3), .val (.int p4), .val (.int vn), .val (.ref a), .val (.ref a37), .val (.int v57), .val (.int v58), .val (.int v59), .unset, .unset, .unset, .unset, .unset, .unset] [(.int (v83 + v84))])) _
      refine g_iload X9 hx (hb hby at_191) rfl ?_
      show Goes p.tables e below (T.setTop (mkF m 193 #[.val (.int p0), .val (.int p1), .val (.int p2), .val (.int p3), .val (.int p4), .val (.int vn), .val (.ref a), .val (.ref a37), .val (.int v57), .val (.int v58), .val (.int v59), .unset, .unset, .unset, .unset, .unset, .unset] [(.int v59), (.int (v83 + v84))])) _
      obtain ⟨v85, hv85⟩ : ∃ z : Int32, z = (if v59 = 0 then (0 : Int32) else p3) := ⟨_, rfl⟩
      refine Goes.join (S' := T.setTop (mkF m 201 #[.val (.int p0), .val (.int p1), .val (.int p2), .val (.int p3), .val (.int p4), .val (.int vn), .val (.ref a), .val (.ref a37), .val (.int v57), .val (.int v58), .val (.int v59), .unset, .unset, .unset, .unset, .unset, .unset] [(.int v85), (.int (v83 + v84))])) (fun J => ?_) ?_
      · skip
        refine g_if_eq X9 hx (hb hby at_193) (by decide) (pc' := 200) (by decide) (fun c193 => ?_) (fun c193 => ?_)
        · skip
          show Goes p.tables e below (T.setTop (mkF m 200 #[.val (.int p0), .val (.int p1), .val (.int p2), .val (.int p3), .val (.int p4), .val (.int vn), .val (.ref a), .val (.ref a37), .val (.int v57), .val (.int v58), .val (.int v59), .unset, .unset, .unset, .unset, .unset, .unset] [(.int (v83 + v84))])) _
          refine g_iconst X9 hx (0 : Int32) (hb hby at_200) rfl ?_
          rw [show v85 = ((0 : Int32)) from by rw [hv85, if_pos c193]] at J
          exact J
        · skip
          show Goes p.tables e below (T.setTop (mkF m 196 #[.val (.int p0), .val (.int p1), .val (.int p2), .val (.int p3), .val (.int p4), .val (.int vn), .val (.ref a), .val (.ref a37), .val (.int v57), .val (.int v58), .val (.int v59), .unset, .unset, .unset, .unset, .unset, .unset] [(.int (v83 + v84))])) _
          refine g_iloadN X9 hx (hb hby at_196) rfl ?_
          show Goes p.tables e below (T.setTop (mkF m 197 #[.val (.int p0), .val (.int p1), .val (.int p2), .val (.int p3), .val (.int p4), .val (.int vn), .val (.ref a), .val (.ref a37), .val (.int v57), .val (.int v58), .val (.int v59), .unset, .unset, .unset, .unset, .unset, .unset] [(.int p3), (.int (v83 + v84))])) _
          refine g_goto X9 hx (hb hby at_197) (by decide) (pc' := 201) (by decide) ?_
          rw [show v85 = (p3) from by rw [hv85, if_neg c193]] at J
          exact J
      show Goes p.tables e below (T.setTop (mkF m 201 #[.val (.int p0), .val (.int p1), .val (.int p2), .val (.int p3), .val (.int p4), .val (.int vn), .val (.ref a), .val (.ref a37), .val (.int v57), .val (.int v58), .val (.int v59), .unset, .unset, .unset, .unset, .unset, .unset] [(.int v85), (.int (v83 + v84))])) _
      refine g_iadd X9 hx (hb hby at_201) ?_
      show Goes p.tables e below (T.setTop (mkF m 202 #[.val (.int p0), .val (.int p1), .val (.int p2), .val (.int p3), .val (.int p4), .val (.int vn), .val (.ref a), .val (.ref a37), .val (.int v57), .val (.int v58), .val (.int v59), .unset, .unset, .unset, .unset, .unset, .unset] [(.int ((v83 + v84) + v85))])) _
      obtain ⟨vt, hvt⟩ : ∃ z : Int32, z = ((v83 + v84) + v85) := ⟨_, rfl⟩
      refine g_nameI hvt ?_
      show Goes p.tables e below (T.setTop (mkF m 202 #[.val (.int p0), .val (.int p1), .val (.int p2), .val (.int p3), .val (.int p4), .val (.int vn), .val (.ref a), .val (.ref a37), .val (.int v57), .val (.int v58), .val (.int v59), .unset, .unset, .unset, .unset, .unset, .unset] [(.int vt)])) _
      refine g_istore X9 hx (hb hby at_202) (l' := #[.val (.int p0), .val (.int p1), .val (.int p2), .val (.int p3), .val (.int p4), .val (.int vn), .val (.ref a), .val (.ref a37), .val (.int v57), .val (.int v58), .val (.int v59), .val (.int vt), .unset, .unset, .unset, .unset, .unset]) rfl ?_
      show Goes p.tables e below (T.setTop (mkF m 204 #[.val (.int p0), .val (.int p1), .val (.int p2), .val (.int p3), .val (.int p4), .val (.int vn), .val (.ref a), .val (.ref a37), .val (.int v57), .val (.int v58), .val (.int v59), .val (.int vt), .unset, .unset, .unset, .unset, .unset] [])) _
      refine g_aload X9 hx (hb hby at_204) rfl rfl ?_
      show Goes p.tables e below (T.setTop (mkF m 206 #[.val (.int p0), .val (.int p1), .val (.int p2), .val (.int p3), .val (.int p4), .val (.int vn), .val (.ref a), .val (.ref a37), .val (.int v57), .val (.int v58), .val (.int v59), .val (.int vt), .unset, .unset, .unset, .unset, .unset] [(.ref a37)])) _
      refine g_callV X9 hx hZ hown (by rw [hml]; rfl) e9 (K := "com/example/delvedeck/delvedeck/solo/SkillBoard") (hw _ (List.mem_of_getElem? (i := 81) rfl)) (hw _ (List.mem_of_getElem? (i := 82) rfl)) (hw _ (List.mem_of_getElem? (i := 84) rfl)) (hw _ (List.mem_of_getElem? (i := 83) rfl)) (hw _ (List.mem_of_getElem? (i := 28) rfl)) (hw _ (List.mem_of_getElem? (i := 85) rfl)) Eo (rmCd l Z a0 hw a37 h h0.size Z9 ch (cl n (if v57 = 0 then (0 : Int32) else p1) (if v58 = 0 then (0 : Int32) else p2) (if v59 = 0 then (0 : Int32) else p3)) Fo Ao (by rw [own_cllen _ _ _ hn3]; exact hn4)) [] rfl [] rfl (lenOf pd_11 rfl) (hb hby at_206) (by decide) 0 (by decide) (by decide) (by first | decide | exact Nat.le_refl _) (by decide) (by decide) (fun v T86 L86 X86 hQ86 => ?_)
      obtain ⟨rfl, e86, rfl⟩ := hQ86
      have N87 := Fr.app N9 (Fr.nil h0.size)
      show Goes p.tables e below (T86.setTop (mkF m 209 #[.val (.int p0), .val (.int p1), .val (.int p2), .val (.int p3), .val (.int p4), .val (.int vn), .val (.ref a), .val (.ref a37), .val (.int v57), .val (.int v58), .val (.int v59), .val (.int vt), .unset, .unset, .unset, .unset, .unset] [(.int (sumL (cl n (if v57 = 0 then (0 : Int32) else p1) (if v58 = 0 then (0 : Int32) else p2) (if v59 = 0 then (0 : Int32) else p3))))])) _
      refine g_iload X86 hx (hb hby at_209) rfl ?_
      have c211 : (sumL (cl n (if v57 = 0 then (0 : Int32) else p1) (if v58 = 0 then (0 : Int32) else p2) (if v59 = 0 then (0 : Int32) else p3))) = vt := (by rw [own_sum3 hn3 (fun q => by rw [hz0 q, if_pos rfl]) (fun q => by rw [hz1 q, if_pos rfl]) (fun q => by rw [hz2 q, if_pos rfl]), hvt, hv83, hv84, hv85])
      refine g_icmp_eq X86 hx (hb hby at_211) (by decide) (pc' := 216) (by decide) (fun _ => ?_) (fun q => absurd c211 q)
      show Goes p.tables e below (T86.setTop (mkF m 216 #[.val (.int p0), .val (.int p1), .val (.int p2), .val (.int p3), .val (.int p4), .val (.int vn), .val (.ref a), .val (.ref a37), .val (.int v57), .val (.int v58), .val (.int v59), .val (.int vt), .unset, .unset, .unset, .unset, .unset] [])) _
      refine g_iload X86 hx (hb hby at_216) rfl ?_
      show Goes p.tables e below (T86.setTop (mkF m 218 #[.val (.int p0), .val (.int p1), .val (.int p2), .val (.int p3), .val (.int p4), .val (.int vn), .val (.ref a), .val (.ref a37), .val (.int v57), .val (.int v58), .val (.int v59), .val (.int vt), .unset, .unset, .unset, .unset, .unset] [(.int p4)])) _
      refine g_bipush X86 hx (64 : Int32) (hb hby at_218) (by decide) ?_
      show Goes p.tables e below (T86.setTop (mkF m 220 #[.val (.int p0), .val (.int p1), .val (.int p2), .val (.int p3), .val (.int p4), .val (.int vn), .val (.ref a), .val (.ref a37), .val (.int v57), .val (.int v58), .val (.int v59), .val (.int vt), .unset, .unset, .unset, .unset, .unset] [(.int (64 : Int32)), (.int p4)])) _
      refine g_iand X86 hx (hb hby at_220) ?_
      show Goes p.tables e below (T86.setTop (mkF m 221 #[.val (.int p0), .val (.int p1), .val (.int p2), .val (.int p3), .val (.int p4), .val (.int vn), .val (.ref a), .val (.ref a37), .val (.int v57), .val (.int v58), .val (.int v59), .val (.int vt), .unset, .unset, .unset, .unset, .unset] [(.int (p4 &&& (64 : Int32)))])) _
      obtain ⟨v88, hv88⟩ : ∃ z : Int32, z = (if (p4 &&& (64 : Int32)) = 0 then (0 : Int32) else (1 : Int32)) := ⟨_, rfl⟩
      refine Goes.join (S' := T86.setTop (mkF m 229 #[.val (.int p0), .val (.int p1), .val (.int p2), .val (.int p3), .val (.int p4), .val (.int vn), .val (.ref a), .val (.ref a37), .val (.int v57), .val (.int v58), .val (.int v59), .val (.int vt), .unset, .unset, .unset, .unset, .unset] [(.int v88)])) (fun J => ?_) ?_
      · skip
        refine g_if_eq X86 hx (hb hby at_221) (by decide) (pc' := 228) (by decide) (fun c221 => ?_) (fun c221 => ?_)
        · skip
          show Goes p.tables e below (T86.setTop (mkF m 228 #[.val (.int p0), .val (.int p1), .val (.int p2), .val (.int p3), .val (.int p4), .val (.int vn), .val (.ref a), .val (.ref a37), .val (.int v57), .val (.int v58), .val (.int v59), .val (.int vt), .unset, .unset, .unset, .unset, .unset] [])) _
          refine g_iconst X86 hx (0 : Int32) (hb hby at_228) rfl ?_
          rw [show v88 = ((0 : Int32)) from by rw [hv88, if_pos c221]] at J
          exact J
        · skip
          show Goes p.tables e below (T86.setTop (mkF m 224 #[.val (.int p0), .val (.int p1), .val (.int p2), .val (.int p3), .val (.int p4), .val (.int vn), .val (.ref a), .val (.ref a37), .val (.int v57), .val (.int v58), .val (.int v59), .val (.int vt), .unset, .unset, .unset, .unset, .unset] [])) _
          refine g_iconst X86 hx (1 : Int32) (hb hby at_224) rfl ?_
          show Goes p.tables e below (T86.setTop (mkF m 225 #[.val (.int p0), .val (.int p1), .val (.int p2), .val (.int p3), .val (.int p4), .val (.int vn), .val (.ref a), .val (.ref a37), .val (.int v57), .val (.int v58), .val (.int v59), .val (.int vt), .unset, .unset, .unset, .unset, .unset] [(.int (1 : Int32))])) _
          refine g_goto X86 hx (hb hby at_225) (by decide) (pc' := 229) (by decide) ?_
          rw [show v88 = ((1 : Int32)) from by rw [hv88, if_neg c221]] at J
          exact J
      show Goes p.tables e below (T86.setTop (mkF m 229 #[.val (.int p0), .val (.int p1), .val (.int p2), .val (.int p3), .val (.int p4), .val (.int vn), .val (.ref a), .val (.ref a37), .val (.int v57), .val (.int v58), .val (.int v59), .val (.int vt), .unset, .unset, .unset, .unset, .unset] [(.int v88)])) _
      refine g_istore X86 hx (hb hby at_229) (l' := #[.val (.int p0), .val (.int p1), .val (.int p2), .val (.int p3), .val (.int p4), .val (.int vn), .val (.ref a), .val (.ref a37), .val (.int v57), .val (.int v58), .val (.int v59), .val (.int vt), .val (.int v88), .unset, .unset, .unset, .unset]) rfl ?_
      show Goes p.tables e below (T86.setTop (mkF m 231 #[.val (.int p0), .val (.int p1), .val (.int p2), .val (.int p3), .val (.int p4), .val (.int vn), .val (.ref a), .val (.ref a37), .val (.int v57), .val (.int v58), .val (.int v59), .val (.int vt), .val (.int v88), .unset, .unset, .unset, .unset] [])) _
      refine g_iload X86 hx (hb hby at_231) rfl ?_
      show Goes p.tables e below (T86.setTop (mkF m 233 #[.val (.int p0), .val (.int p1), .val (.int p2), .val (.int p3), .val (.int p4), .val (.int vn), .val (.ref a), .val (.ref a37), .val (.int v57), .val (.int v58), .val (.int v59), .val (.int vt), .val (.int v88), .unset, .unset, .unset, .unset] [(.int vn)])) _
      obtain ⟨v89, hv89⟩ : ∃ z : Int32, z = (if 0 < vn then (if (p4 &&& (8 : Int32)) = 0 then (0 : Int32) else (1 : Int32)) else (0 : Int32)) := ⟨_, rfl⟩
      refine Goes.join (S' := T86.setTop (mkF m 249 #[.val (.int p0), .val (.int p1), .val (.int p2), .val (.int p3), .val (.int p4), .val (.int vn), .val (.ref a), .val (.ref a37), .val (.int v57), .val (.int v58), .val (.int v59), .val (.int vt), .val (.int v88), .unset, .unset, .unset, .unset] [(.int v89)])) (fun J => ?_) ?_
      · skip
        refine g_if_le X86 hx (hb hby at_233) (by decide) (pc' := 248) (by decide) (fun c233 => ?_) (fun c233 => ?_)
        · skip
          show Goes p.tables e below (T86.setTop (mkF m 248 #[.val (.int p0), .val (.int p1), .val (.int p2), .val (.int p3), .val (.int p4), .val (.int vn), .val (.ref a), .val (.ref a37), .val (.int v57), .val (.int v58), .val (.int v59), .val (.int vt), .val (.int v88), .unset, .unset, .unset, .unset] [])) _
          refine g_iconst X86 hx (0 : Int32) (hb hby at_248) rfl ?_
          rw [show v89 = ((0 : Int32)) from by rw [hv89, if_neg c233]] at J
          exact J
        · skip
          show Goes p.tables e below (T86.setTop (mkF m 236 #[.val (.int p0), .val (.int p1), .val (.int p2), .val (.int p3), .val (.int p4), .val (.int vn), .val (.ref a), .val (.ref a37), .val (.int v57), .val (.int v58), .val (.int v59), .val (.int vt), .val (.int v88), .unset, .unset, .unset, .unset] [])) _
          refine g_iload X86 hx (hb hby at_236) rfl ?_
          show Goes p.tables e below (T86.setTop (mkF m 238 #[.val (.int p0), .val (.int p1), .val (.int p2), .val (.int p3), .val (.int p4), .val (.int vn), .val (.ref a), .val (.ref a37), .val (.int v57), .val (.int v58), .val (.int v59), .val (.int vt), .val (.int v88), .unset, .unset, .unset, .unset] [(.int p4)])) _
          refine g_bipush X86 hx (8 : Int32) (hb hby at_238) (by decide) ?_
          show Goes p.tables e below (T86.setTop (mkF m 240 #[.val (.int p0), .val (.int p1), .val (.int p2), .val (.int p3), .val (.int p4), .val (.int vn), .val (.ref a), .val (.ref a37), .val (.int v57), .val (.int v58), .val (.int v59), .val (.int vt), .val (.int v88), .unset, .unset, .unset, .unset] [(.int (8 : Int32)), (.int p4)])) _
          refine g_iand X86 hx (hb hby at_240) ?_
          show Goes p.tables e below (T86.setTop (mkF m 241 #[.val (.int p0), .val (.int p1), .val (.int p2), .val (.int p3), .val (.int p4), .val (.int vn), .val (.ref a), .val (.ref a37), .val (.int v57), .val (.int v58), .val (.int v59), .val (.int vt), .val (.int v88), .unset, .unset, .unset, .unset] [(.int (p4 &&& (8 : Int32)))])) _
          refine g_if_eq X86 hx (hb hby at_241) (by decide) (pc' := 248) (by decide) (fun c241 => ?_) (fun c241 => ?_)
          · skip
            show Goes p.tables e below (T86.setTop (mkF m 248 #[.val (.int p0), .val (.int p1), .val (.int p2), .val (.int p3), .val (.int p4), .val (.int vn), .val (.ref a), .val (.ref a37), .val (.int v57), .val (.int v58), .val (.int v59), .val (.int vt), .val (.int v88), .unset, .unset, .unset, .unset] [])) _
            refine g_iconst X86 hx (0 : Int32) (hb hby at_248) rfl ?_
            rw [show v89 = ((0 : Int32)) from by rw [hv89, if_pos c233, if_pos c241]] at J
            exact J
          · skip
            show Goes p.tables e below (T86.setTop (mkF m 244 #[.val (.int p0), .val (.int p1), .val (.int p2), .val (.int p3), .val (.int p4), .val (.int vn), .val (.ref a), .val (.ref a37), .val (.int v57), .val (.int v58), .val (.int v59), .val (.int vt), .val (.int v88), .unset, .unset, .unset, .unset] [])) _
            refine g_iconst X86 hx (1 : Int32) (hb hby at_244) rfl ?_
            show Goes p.tables e below (T86.setTop (mkF m 245 #[.val (.int p0), .val (.int p1), .val (.int p2), .val (.int p3), .val (.int p4), .val (.int vn), .val (.ref a), .val (.ref a37), .val (.int v57), .val (.int v58), .val (.int v59), .val (.int vt), .val (.int v88), .unset, .unset, .unset, .unset] [(.int (1 : Int32))])) _
            refine g_goto X86 hx (hb hby at_245) (by decide) (pc' := 249) (by decide) ?_
            rw [show v89 = ((1 : Int32)) from by rw [hv89, if_pos c233, if_neg c241]] at J
            exact J
      show Goes p.tables e below (T86.setTop (mkF m 249 #[.val (.int p0), .val (.int p1), .val (.int p2), .val (.int p3), .val (.int p4), .val (.int vn), .val (.ref a), .val (.ref a37), .val (.int v57), .val (.int v58), .val (.int v59), .val (.int vt), .val (.int v88), .unset, .unset, .unset, .unset] [(.int v89)])) _
      refine g_istore X86 hx (hb hby at_249) (l' := #[.val (.int p0), .val (.int p1), .val (.int p2), .val (.int p3), .val (.int p4), .val (.int vn), .val (.ref a), .val (.ref a37), .val (.int v57), .val (.int v58), .val (.int v59), .val (.int vt), .val (.int v88), .val (.int v89), .unset, .unset, .unset]) rfl ?_
      show Goes p.tables e below (T86.setTop (mkF m 251 #[.val (.int p0), .val (.int p1), .val (.int p2), .val (.int p3), .val (.int p4), .val (.int vn), .val (.ref a), .val (.ref a37), .val (.int v57), .val (.int v58), .val (.int v59), .val (.int vt), .val (.int v88), .val (.int v89), .unset, .unset, .unset] [])) _
      refine g_iload X86 hx (hb hby at_251) rfl ?_
      show Goes p.tables e below (T86.setTop (mkF m 253 #[.val (.int p0), .val (.int p1), .val (.int p2), .val (.int p3), .val (.int p4), .val (.int vn), .val (.ref a), .val (.ref a37), .val (.int v57), .val (.int v58), .val (.int v59), .val (.int vt), .val (.int v88), .val (.int v89), .unset, .unset, .unset] [(.int vn)])) _
      refine g_iconst X86 hx (1 : Int32) (hb hby at_253) rfl ?_
      show Goes p.tables e below (T86.setTop (mkF m 254 #[.val (.int p0), .val (.int p1), .val (.int p2), .val (.int p3), .val (.int p4), .val (.int vn), .val (.ref a), .val (.ref a37), .val (.int v57), .val (.int v58), .val (.int v59), .val (.int vt), .val (.int v88), .val (.int v89), .unset, .unset, .unset] [(.int (1 : Int32)), (.int vn)])) _
      obtain ⟨v90, hv90⟩ : ∃ z : Int32, z = (if (1 : Int32) < vn then (if (p4 &&& (16 : Int32)) = 0 then (0 : Int32) else (1 : Int32)) else (0 : Int32)) := ⟨_, rfl⟩
      refine Goes.join (S' := T86.setTop (mkF m 270 #[.val (.int p0), .val (.int p1), .val (.int p2), .val (.int p3), .val (.int p4), .val (.int vn), .val (.ref a), .val (.ref a37), .val (.int v57), .val (.int v58), .val (.int v59), .val (.int vt), .val (.int v88), .val (.int v89), .unset, .unset, .unset] [(.int v90)])) (fun J => ?_) ?_
      · skip
        refine g_icmp_le X86 hx (hb hby at_254) (by decide) (pc' := 269) (by decide) (fun c254 => ?_) (fun c254 => ?_)
        · skip
          show Goes p.tables e below (T86.setTop (mkF m 269 #[.val (.int p0), .val (.int p1), .val (.int p2), .val (.int p3), .val (.int p4), .val (.int vn), .val (.ref a), .val (.ref a37), .val (.int v57), .val (.int v58), .val (.int v59), .val (.int vt), .val (.int v88), .val (.int v89), .unset, .unset, .unset] [])) _
          refine g_iconst X86 hx (0 : Int32) (hb hby at_269) rfl ?_
          rw [show v90 = ((0 : Int32)) from by rw [hv90, if_neg c254]] at J
          exact J
        · skip
          show Goes p.tables e below (T86.setTop (mkF m 257 #[.val (.int p0), .val (.int p1), .val (.int p2), .val (.int p3), .val (.int p4), .val (.int vn), .val (.ref a), .val (.ref a37), .val (.int v57), .val (.int v58), .val (.int v59), .val (.int vt), .val (.int v88), .val (.int v89), .unset, .unset, .unset] [])) _
          refine g_iload X86 hx (hb hby at_257) rfl ?_
          show Goes p.tables e below (T86.setTop (mkF m 259 #[.val (.int p0), .val (.int p1), .val (.int p2), .val (.int p3), .val (.int p4), .val (.int vn), .val (.ref a), .val (.ref a37), .val (.int v57), .val (.int v58), .val (.int v59), .val (.int vt), .val (.int v88), .val (.int v89), .unset, .unset, .unset] [(.int p4)])) _
          refine g_bipush X86 hx (16 : Int32) (hb hby at_259) (by decide) ?_
          show Goes p.tables e below (T86.setTop (mkF m 261 #[.val (.int p0), .val (.int p1), .val (.int p2), .val (.int p3), .val (.int p4), .val (.int vn), .val (.ref a), .val (.ref a37), .val (.int v57), .val (.int v58), .val (.int v59), .val (.int vt), .val (.int v88), .val (.int v89), .unset, .unset, .unset] [(.int (16 : Int32)), (.int p4)])) _
          refine g_iand X86 hx (hb hby at_261) ?_
          show Goes p.tables e below (T86.setTop (mkF m 262 #[.val (.int p0), .val (.int p1), .val (.int p2), .val (.int p3), .val (.int p4), .val (.int vn), .val (.ref a), .val (.ref a37), .val (.int v57), .val (.int v58), .val (.int v59), .val (.int vt), .val (.int v88), .val (.int v89), .unset, .unset, .unset] [(.int (p4 &&& (16 : Int32)))])) _
          refine g_if_eq X86 hx (hb hby at_262) (by decide) (pc' := 269) (by decide) (fun c262 => ?_) (fun c262 => ?_)
          · skip
            show Goes p.tables e below (T86.setTop (mkF m 269 #[.val (.int p0), .val (.int p1), .val (.int p2), .val (.int p3), .val (.int p4), .val (.int vn), .val (.ref a), .val (.ref a37), .val (.int v57), .val (.int v58), .val (.int v59), .val (.int vt), .val (.int v88), .val (.int v89), .unset, .unset, .unset] [])) _
            refine g_iconst X86 hx (0 : Int32) (hb hby at_269) rfl ?_
            rw [show v90 = ((0 : Int32)) from by rw [hv90, if_pos c254, if_pos c262]] at J
            exact J
          · skip
            show Goes p.tables e below (T86.setTop (mkF m 265 #[.val (.int p0), .val (.int p1), .val (.int p2), .val (.int p3), .val (.int p4), .val (.int vn), .val (.ref a), .val (.ref a37), .val (.int v57), .val (.int v58), .val (.int v59), .val (.int vt), .val (.int v88), .val (.int v89), .unset, .unset, .unset] [])) _
            refine g_iconst X86 hx (1 : Int32) (hb hby at_265) rfl ?_
            show Goes p.tables e below (T86.setTop (mkF m 266 #[.val (.int p0), .val (.int p1), .val (.int p2), .val (.int p3), .val (.int p4), .val (.int vn), .val (.ref a), .val (.ref a37), .val (.int v57), .val (.int v58), .val (.int v59), .val (.int vt), .val (.int v88), .val (.int v89), .unset, .unset, .unset] [(.int (1 : Int32))])) _
            refine g_goto X86 hx (hb hby at_266) (by decide) (pc' := 270) (by decide) ?_
            rw [show v90 = ((1 : Int32)) from by rw [hv90, if_pos c254, if_neg c262]] at J
            exact J
      show Goes p.tables e below (T86.setTop (mkF m 270 #[.val (.int p0), .val (.int p1), .val (.int p2), .val (.int p3), .val (.int p4), .val (.int vn), .val (.ref a), .val (.ref a37), .val (.int v57), .val (.int v58), .val (.int v59), .val (.int vt), .val (.int v88), .val (.int v89), .unset, .unset, .unset] [(.int v90)])) _
      refine g_istore X86 hx (hb hby at_270) (l' := #[.val (.int p0), .val (.int p1), .val (.int p2), .val (.int p3), .val (.int p4), .val (.int vn), .val (.ref a), .val (.ref a37), .val (.int v57), .val (.int v58), .val (.int v59), .val (.int vt), .val (.int v88), .val (.int v89), .val (.int v90), .unset, .unset]) rfl ?_
      show Goes p.tables e below (T86.setTop (mkF m 272 #[.val (.int p0), .val (.int p1), .val (.int p2), .val (.int p3), .val (.int p4), .val (.int vn), .val (.ref a), .val (.ref a37), .val (.int v57), .val (.int v58), .val (.int v59), .val (.int vt), .val (.int v88), .val (.int v89), .val (.int v90), .unset, .unset] [])) _
      refine g_iload X86 hx (hb hby at_272) rfl ?_
      show Goes p.tables e below (T86.setTop (mkF m 274 #[.val (.int p0), .val (.int p1), .val (.int p2), .val (.int p3), .val (.int p4), .val (.int vn), .val (.ref a), .val (.ref a37), .val (.int v57), .val (.int v58), .val (.int v59), .val (.int vt), .val (.int v88), .val (.int v89), .val (.int v90), .unset, .unset] [(.int vn)])) _
      refine g_iconst X86 hx (2 : Int32) (hb hby at_274) rfl ?_
      show Goes p.tables e below (T86.setTop (mkF m 275 #[.val (.int p0), .val (.int p1), .val (.int p2), .val (.int p3), .val (.int p4), .val (.int vn), .val (.ref a), .val (.ref a37), .val (.int v57), .val (.int v58), .val (.int v59), .val (.int vt), .val (.int v88), .val (.int v89), .val (.int v90), .unset, .unset] [(.int (2 : Int32)), (.int vn)])) _
      obtain ⟨v91, hv91⟩ : ∃ z : Int32, z = (if (2 : Int32) < vn then (if (p4 &&& (32 : Int32)) = 0 then (0 : Int32) else (1 : Int32)) else (0 : Int32)) := ⟨_, rfl⟩
      refine Goes.join (S' := T86.setTop (mkF m 291 #[.val (.int p0), .val (.int p1), .val (.int p2), .val (.int p3), .val (.int p4), .val (.int vn), .val (.ref a), .val (.ref a37), .val (.int v57), .val (.int v58), .val (.int v59), .val (.int vt), .val (.int v88), .val (.int v89), .val (.int v90), .unset, .unset] [(.int v91)])) (fun J => ?_) ?_
      · skip
        refine g_icmp_le X86 hx (hb hby at_275) (by decide) (pc' := 290) (by decide) (fun c275 => ?_) (fun c275 => ?_)
        · skip
          show Goes p.tables e below (T86.setTop (mkF m 290 #[.val (.int p0), .val (.int p1), .val (.int p2), .val (.int p3), .val (.int p4), .val (.int vn), .val (.ref a), .val (.ref a37), .val (.int v57), .val (.int v58), .val (.int v59), .val (.int vt), .val (.int v88), .val (.int v89), .val (.int v90), .unset, .unset] [])) _
          refine g_iconst X86 hx (0 : Int32) (hb hby at_290) rfl ?_
          rw [show v91 = ((0 : Int32)) from by rw [hv91, if_neg c275]] at J
          exact J
        · skip
          show Goes p.tables e below (T86.setTop (mkF m 278 #[.val (.int p0), .val (.int p1), .val (.int p2), .val (.int p3), .val (.int p4), .val (.int vn), .val (.ref a), .val (.ref a37), .val (.int v57), .val (.int v58), .val (.int v59), .val (.int vt), .val (.int v88), .val (.int v89), .val (.int v90), .unset, .unset] [])) _
          refine g_iload X86 hx (hb hby at_278) rfl ?_
          show Goes p.tables e below (T86.setTop (mkF m 280 #[.val (.int p0), .val (.int p1), .val (.int p2), .val (.int p3), .val (.int p4), .val (.int vn), .val (.ref a), .val (.ref a37), .val (.int v57), .val (.int v58), .val (.int v59), .val (.int vt), .val (.int v88), .val (.int v89), .val (.int v90), .unset, .unset] [(.int p4)])) _
          refine g_bipush X86 hx (32 : Int32) (hb hby at_280) (by decide) ?_
          show Goes p.tables e below (T86.setTop (mkF m 282 #[.val (.int p0), .val (.int p1), .val (.int p2), .val (.int p3), .val (.int p4), .val (.int vn), .val (.ref a), .val (.ref a37), .val (.int v57), .val (.int v58), .val (.int v59), .val (.int vt), .val (.int v88), .val (.int v89), .val (.int v90), .unset, .unset] [(.int (32 : Int32)), (.int p4)])) _
          refine g_iand X86 hx (hb hby at_282) ?_
          show Goes p.tables e below (T86.setTop (mkF m 283 #[.val (.int p0), .val (.int p1), .val (.int p2), .val (.int p3), .val (.int p4), .val (.int vn), .val (.ref a), .val (.ref a37), .val (.int v57), .val (.int v58), .val (.int v59), .val (.int vt), .val (.int v88), .val (.int v89), .val (.int v90), .unset, .unset] [(.int (p4 &&& (32 : Int32)))])) _
          refine g_if_eq X86 hx (hb hby at_283) (by decide) (pc' := 290) (by decide) (fun c283 => ?_) (fun c283 => ?_)
          · skip
            show Goes p.tables e below (T86.setTop (mkF m 290 #[.val (.int p0), .val (.int p1), .val (.int p2), .val (.int p3), .val (.int p4), .val (.int vn), .val (.ref a), .val (.ref a37), .val (.int v57), .val (.int v58), .val (.int v59), .val (.int vt), .val (.int v88), .val (.int v89), .val (.int v90), .unset, .unset] [])) _
            refine g_iconst X86 hx (0 : Int32) (hb hby at_290) rfl ?_
            rw [show v91 = ((0 : Int32)) from by rw [hv91, if_pos c275, if_pos c283]] at J
            exact J
          · skip
            show Goes p.tables e below (T86.setTop (mkF m 286 #[.val (.int p0), .val (.int p1), .val (.int p2), .val (.int p3), .val (.int p4), .val (.int vn), .val (.ref a), .val (.ref a37), .val (.int v57), .val (.int v58), .val (.int v59), .val (.int vt), .val (.int v88), .val (.int v89), .val (.int v90), .unset, .unset] [])) _
            refine g_iconst X86 hx (1 : Int32) (hb hby at_286) rfl ?_
            show Goes p.tables e below (T86.setTop (mkF m 287 #[.val (.int p0), .val (.int p1), .val (.int p2), .val (.int p3), .val (.int p4), .val (.int vn), .val (.ref a), .val (.ref a37), .val (.int v57), .val (.int v58), .val (.int v59), .val (.int vt), .val (.int v88), .val (.int v89), .val (.int v90), .unset, .unset] [(.int (1 : Int32))])) _
            refine g_goto X86 hx (hb hby at_287) (by decide) (pc' := 291) (by decide) ?_
            rw [show v91 = ((1 : Int32)) from by rw [hv91, if_pos c275, if_neg c283]] at J
            exact J
      show Goes p.tables e below (T86.setTop (mkF m 291 #[.val (.int p0), .val (.int p1), .val (.int p2), .val (.int p3), .val (.int p4), .val (.int vn), .val (.ref a), .val (.ref a37), .val (.int v57), .val (.int v58), .val (.int v59), .val (.int vt), .val (.int v88), .val (.int v89), .val (.int v90), .unset, .unset] [(.int v91)])) _
      refine g_istore X86 hx (hb hby at_291) (l' := #[.val (.int p0), .val (.int p1), .val (.int p2), .val (.int p3), .val (.int p4), .val (.int vn), .val (.ref a), .val (.ref a37), .val (.int v57), .val (.int v58), .val (.int v59), .val (.int vt), .val (.int v88), .val (.int v89), .val (.int v90), .val (.int v91), .unset]) rfl ?_
      have y0 : n ≤ 0 → v89 = 0 := fun q => by rw [hv89, if_neg (own_nl0 hvn3 hn3 q)]
      have y1 : n ≤ 1 → v90 = 0 := fun q => by rw [hv90, if_neg (own_nl1 hvn3 hn3 q)]
      have y2 : n ≤ 2 → v91 = 0 := fun q => by rw [hv91, if_neg (own_nl2 hvn3 hn3 q)]
      exact J293 vt v88 v89 v90 v91 es _ _ _ y0 y1 y2 hes X86 e86 N87 Z9 Eo Fd Fo Ao Af
    have J158 : ∀ (es : List Value) (T : State) (locs : List Loc) (h : Heap), es.length = n → Stand p l e room_1 s m #[(.int p0), (.int p1), (.int p2), (.int p3), (.int p4)] below meth c T locs (2 + 1 + 6) (13 + 4 + 22) → T.heap = h → Fr h0.size locs → h0.size ≤ h.size → Exa Z h a37 "com/example/delvedeck/delvedeck/solo/SkillBoard" → Fld Z h a37 "com/example/delvedeck/delvedeck/solo/SkillBoard" "faceDown" "[Z" (.ref fd) → Fld Z h a37 "com/example/delvedeck/delvedeck/solo/SkillBoard" "charges" "[I" (.ref ch) → Ar Z h ch .int ((cl n (if v57 = 0 then (0 : Int32) else p1) (if v58 = 0 then (0 : Int32) else p2) (0 : Int32)).map Value.int) → Ar Z h fd .boolean es → Goes p.tables e below (T.setTop (mkF m 158 #[.val (.int p0), .val (.int p1), .val (.int p2), .val (.int p3), .val (.int p4), .val (.int vn), .val (.ref a), .val (.ref a37), .val (.int v57), .val (.int v58), .val (.int v59), .unset, .unset, .unset, .unset, .unset, .unset] [])) (Fin s 32 192 (fun v h L => v = some (.int 1) ∧ Fr h0.size L)) := by
      intro es T locs h hes X9 e9 N9 Z9 Eo Fd Fo Ao Af
      show Goes p.tables e below (T.setTop (mkF m 158 #[.val (.int p0), .val (.int p1), .val (.int p2), .val (.int p3), .val (.int p4), .val (.int vn), .val (.ref a), .val (.ref a37), .val (.int v57), .val (.int v58), .val (.int v59), .unset, .unset, .unset, .unset, .unset, .unset] [])) _
      refine g_iload X9 hx (hb hby at_158) rfl ?_
      refine g_if_eq X9 hx (hb hby at_160) (by decide) (pc' := 170) (by decide) (fun c160 => ?_) (fun c160 => ?_)
      · skip
        show Goes p.tables e below (T.setTop (mkF m 170 #[.val (.int p0), .val (.int p1), .val (.int p2), .val (.int p3), .val (.int p4), .val (.int vn), .val (.ref a), .val (.ref a37), .val (.int v57), .val (.int v58), .val (.int v59), .unset, .unset, .unset, .unset, .unset, .unset] [])) _
        have A8 := Ao
        rw [show cl n (if v57 = 0 then (0 : Int32) else p1) (if v58 = 0 then (0 : Int32) else p2) (0 : Int32) = cl n (if v57 = 0 then (0 : Int32) else p1) (if v58 = 0 then (0 : Int32) else p2) (if v59 = 0 then (0 : Int32) else p3) from by rw [if_pos c160]] at A8
        exact J170 es _ _ _ hes X9 e9 N9 Z9 Eo Fd Fo A8 Af
      · skip
        show Goes p.tables e below (T.setTop (mkF m 163 #[.val (.int p0), .val (.int p1), .val (.int p2), .val (.int p3), .val (.int p4), .val (.int vn), .val (.ref a), .val (.ref a37), .val (.int v57), .val (.int v58), .val (.int v59), .unset, .unset, .unset, .unset, .unset, .unset] [])) _
        have hlt : 2 < n := by rcases Nat.lt_or_ge 2 n with q | q; exact q; exact absurd (hz2 q) c160
        refine g_aload X9 hx (hb hby at_163) rfl rfl ?_
        show Goes p.tables e below (T.setTop (mkF m 165 #[.val (.int p0), .val (.int p1), .val (.int p2), .val (.int p3), .val (.int p4), .val (.int vn), .val (.ref a), .val (.ref a37), .val (.int v57), .val (.int v58), .val (.int v59), .unset, .unset, .unset, .unset, .unset, .unset] [(.ref a37)])) _
        refine g_iconst X9 hx (2 : Int32) (hb hby at_165) rfl ?_
        show Goes p.tables e below (T.setTop (mkF m 166 #[.val (.int p0), .val (.int p1), .val (.int p2), .val (.int p3), .val (.int p4), .val (.int vn), .val (.ref a), .val (.ref a37), .val (.int v57), .val (.int v58), .val (.int v59), .unset, .unset, .unset, .unset, .unset, .unset] [(.int (2 : Int32)), (.ref a37)])) _
        refine g_iloadN X9 hx (hb hby at_166) rfl ?_
        show Goes p.tables e below (T.setTop (mkF m 167 #[.val (.int p0), .val (.int p1), .val (.int p2), .val (.int p3), .val (.int p4), .val (.int vn), .val (.ref a), .val (.ref a37), .val (.int v57), .val (.int v58), .val (.int v59), .unset, .unset, .unset, .unset, .unset, .unset] [(.int p3), (.int (2 : Int32)), (.ref a37)])) _
        refine g_callV X9 hx hZ hown (by rw [hml]; rfl) e9 (K := "com/example/delvedeck/delvedeck/solo/SkillBoard") (hw _ (List.mem_of_getElem? (i := 190) rfl)) (hw _ (List.mem_of_getElem? (i := 191) rfl)) (hw _ (List.mem_of_getElem? (i := 193) rfl)) (hw _ (List.mem_of_getElem? (i := 192) rfl)) (hw _ (List.mem_of_getElem? (i := 28) rfl)) (hw _ (List.mem_of_getElem? (i := 194) rfl)) Eo (rmCh l Z a0 hw a37 (2 : Int32) p3 h h0.size Z9 ch ((cl n (if v57 = 0 then (0 : Int32) else p1) (if v58 = 0 then (0 : Int32) else p2) (0 : Int32)).map Value.int) 2 (by decide) (by rw [List.length_map, own_cllen _ _ _ hn3]; exact hlt) Fo Ao gch noch) [(.int (2 : Int32)), (.int p3)] rfl [] rfl (lenOf pd_27 rfl) (hb hby at_167) (by decide) 0 (by decide) (by decide) (by first | decide | exact Nat.le_refl _) (by decide) (by decide) (fun v T92 L92 X92 hQ92 => ?_)
        obtain ⟨rfl, Nc92, Kc92, Ac92⟩ := hQ92
        have fx93 : Exa Z T92.heap a37 "com/example/delvedeck/delvedeck/solo/SkillBoard" := Exa.keep Eo Kc92
        have fx94 : Fld Z T92.heap a37 "com/example/delvedeck/delvedeck/solo/SkillBoard" "faceDown" "[Z" (.ref fd) := Fld.keep Fd Kc92 (ninS noch nin0)
        have fx95 : Fld Z T92.heap a37 "com/example/delvedeck/delvedeck/solo/SkillBoard" "charges" "[I" (.ref ch) := Fld.keep Fo Kc92 (ninS noch nin0)
        have fx96 : Ar Z T92.heap fd .boolean es := Ar.keep Af Kc92 (ninS nfc nin0)
        have N97 := Fr.app N9 Nc92
        have Z98 : h0.size ≤ T92.heap.size := Nat.le_trans Z9 Kc92.1
        rw [own_setmap (own_cls2 _ _ _ _ _)] at Ac92
        have A8 := Ac92
        rw [show cl n (if v57 = 0 then (0 : Int32) else p1) (if v58 = 0 then (0 : Int32) else p2) p3 = cl n (if v57 = 0 then (0 : Int32) else p1) (if v58 = 0 then (0 : Int32) else p2) (if v59 = 0 then (0 : Int32) else p3) from by rw [if_neg c160]] at A8
        exact J170 es _ _ _ hes X92 rfl N97 Z98 fx93 fx94 fx95 A8 fx96
    have J146 : ∀ (es : List Value) (T : State) (locs : List Loc) (h : Heap), es.length = n → Stand p l e room_1 s m #[(.int p0), (.int p1), (.int p2), (.int p3), (.int p4)] below meth c T locs (2 + 1 + 6) (13 + 4 + 22) → T.heap = h → Fr h0.size locs → h0.size ≤ h.size → Exa Z h a37 "com/example/delvedeck/delvedeck/solo/SkillBoard" → Fld Z h a37 "com/example/delvedeck/delvedeck/solo/SkillBoard" "faceDown" "[Z" (.ref fd) → Fld Z h a37 "com/example/delvedeck/delvedeck/solo/SkillBoard" "charges" "[I" (.ref ch) → Ar Z h ch .int ((cl n (if v57 = 0 then (0 : Int32) else p1) (0 : Int32) (0 : Int32)).map Value.int) → Ar Z h fd .boolean es → Goes p.tables e below (T.setTop (mkF m 146 #[.val (.int p0), .val (.int p1), .val (.int p2), .val (.int p3), .val (.int p4), .val (.int vn), .val (.ref a), .val (.ref a37), .val (.int v57), .val (.int v58), .val (.int v59), .unset, .unset, .unset, .unset, .unset, .unset] [])) (Fin s 32 192 (fun v h L => v = some (.int 1) ∧ Fr h0.size L)) := by
      intro es T locs h hes X9 e9 N9 Z9 Eo Fd Fo Ao Af
      show Goes p.tables e below (T.setTop (mkF m 146 #[.val (.int p0), .val (.int p1), .val (.int p2), .val (.int p3), .val (.int p4), .val (.int vn), .val (.ref a), .val (.ref a37), .val (.int v57), .val (.int v58), .val (.int v59), .unset, .unset, .unset, .unset, .unset, .unset] [])) _
      refine g_iload X9 hx (hb hby at_146) rfl ?_
      refine g_if_eq X9 hx (hb hby at_148) (by decide) (pc' := 158) (by decide) (fun c148 => ?_) (fun c148 => ?_)
      · skip
        show Goes p.tables e below (T.setTop (mkF m 158 #[.val (.int p0), .val (.int p1), .val (.int p2), .val (.int p3), .val (.int p4), .val (.int vn), .val (.ref a), .val (.ref a37), .val (.int v57), .val (.int v58), .val (.int v59), .unset, .unset, .unset, .unset, .unset, .unset] [])) _
        have A8 := Ao
        rw [show cl n (if v57 = 0 then (0 : Int32) else p1) (0 : Int32) (0 : Int32) = cl n (if v57 = 0 then (0 : Int32) else p1) (if v58 = 0 then (0 : Int32) else p2) (0 : Int32) from by rw [if_pos c148]] at A8
        exact J158 es _ _ _ hes X9 e9 N9 Z9 Eo Fd Fo A8 Af
      · skip
        show Goes p.tables e below (T.setTop (mkF m 151 #[.val (.int p0), .val (.int p1), .val (.int p2), .val (.int p3), .val (.int p4), .val (.int vn), .val (.ref a), .val (.ref a37), .val (.int v57), .val (.int v58), .val (.int v59), .unset, .unset, .unset, .unset, .unset, .unset] [])) _
        have hlt : 1 < n := by rcases Nat.lt_or_ge 1 n with q | q; exact q; exact absurd (hz1 q) c148
        refine g_aload X9 hx (hb hby at_151) rfl rfl ?_
        show Goes p.tables e below (T.setTop (mkF m 153 #[.val (.int p0), .val (.int p1), .val (.int p2), .val (.int p3), .val (.int p4), .val (.int vn), .val (.ref a), .val (.ref a37), .val (.int v57), .val (.int v58), .val (.int v59), .unset, .unset, .unset, .unset, .unset, .unset] [(.ref a37)])) _
        refine g_iconst X9 hx (1 : Int32) (hb hby at_153) rfl ?_
        show Goes p.tables e below (T.setTop (mkF m 154 #[.val (.int p0), .val (.int p1), .val (.int p2), .val (.int p3), .val (.int p4), .val (.int vn), .val (.ref a), .val (.ref a37), .val (.int v57), .val (.int v58), .val (.int v59), .unset, .unset, .unset, .unset, .unset, .unset] [(.int (1 : Int32)), (.ref a37)])) _
        refine g_iloadN X9 hx (hb hby at_154) rfl ?_
        show Goes p.tables e below (T.setTop (mkF m 155 #[.val (.int p0), .val (.int p1), .val (.int p2), .val (.int p3), .val (.int p4), .val (.int vn), .val (.ref a), .val (.ref a37), .val (.int v57), .val (.int v58), .val (.int v59), .unset, .unset, .unset, .unset, .unset, .unset] [(.int p2), (.int (1 : Int32)), (.ref a37)])) _
        refine g_callV X9 hx hZ hown (by rw [hml]; rfl) e9 (K := "com/example/delvedeck/delvedeck/solo/SkillBoard") (hw _ (List.mem_of_getElem? (i := 190) rfl)) (hw _ (List.mem_of_getElem? (i := 191) rfl)) (hw _ (List.mem_of_getElem? (i := 193) rfl)) (hw _ (List.mem_of_getElem? (i := 192) rfl)) (hw _ (List.mem_of_getElem? (i := 28) rfl)) (hw _ (List.mem_of_getElem? (i := 194) rfl)) Eo (rmCh l Z a0 hw a37 (1 : Int32) p2 h h0.size Z9 ch ((cl n (if v57 = 0 then (0 : Int32) else p1) (0 : Int32) (0 : Int32)).map Value.int) 1 (by decide) (by rw [List.length_map, own_cllen _ _ _ hn3]; exact hlt) Fo Ao gch noch) [(.int (1 : Int32)), (.int p2)] rfl [] rfl (lenOf pd_27 rfl) (hb hby at_155) (by decide) 0 (by decide) (by decide) (by first | decide | exact Nat.le_refl _) (by decide) (by decide) (fun v T99 L99 X99 hQ99 => ?_)
        obtain ⟨rfl, Nc99, Kc99, Ac99⟩ := hQ99
        have fx100 : Exa Z T99.heap a37 "com/example/delvedeck/delvedeck/solo/SkillBoard" := Exa.keep Eo Kc99
        have fx101 : Fld Z T99.heap a37 "com/example/delvedeck/delvedeck/solo/SkillBoard" "faceDown" "[Z" (.ref fd) := Fld.keep Fd Kc99 (ninS noch nin0)
        have fx102 : Fld Z T99.heap a37 "com/example/delvedeck/delvedeck/solo/SkillBoard" "charges" "[I" (.ref ch) := Fld.keep Fo Kc99 (ninS noch nin0)
        have fx103 : Ar Z T99.heap fd .boolean es := Ar.keep Af Kc99 (ninS nfc nin0)
        have N104 := Fr.app N9 Nc99
        have Z105 : h0.size ≤ T99.heap.size := Nat.le_trans Z9 Kc99.1
        rw [own_setmap (own_cls1 _ _ _ _ _)] at Ac99
        have A8 := Ac99
        rw [show cl n (if v57 = 0 then (0 : Int32) else p1) p2 (0 : Int32) = cl n (if v57 = 0 then (0 : Int32) else p1) (if v58 = 0 then (0 : Int32) else p2) (0 : Int32) from by rw [if_neg c148]] at A8
        exact J158 es _ _ _ hes X99 rfl N104 Z105 fx100 fx101 fx102 A8 fx103
    have A7 := A2
    rw [own_cl0 hn3] at A7
    obtain ⟨es, hese⟩ : ∃ z : List Value, z = (List.replicate n (.int (0 : Int32))) := ⟨_, rfl⟩
    have hes : es.length = n := by rw [hese, List.length_replicate]
    have A6 := A1
    rw [← hese] at A6
    show Goes p.tables e below (T53.setTop (mkF m 134 #[.val (.int p0), .val (.int p1), .val (.int p2), .val (.int p3), .val (.int p4), .val (.int vn), .val (.ref a), .val (.ref a37), .val (.int v57), .val (.int v58), .val (.int v59), .unset, .unset, .unset, .unset, .unset, .unset] [])) _
    refine g_iload X53 hx (hb hby at_134) rfl ?_
    refine g_if_eq X53 hx (hb hby at_136) (by decide) (pc' := 146) (by decide) (fun c136 => ?_) (fun c136 => ?_)
    · skip
      show Goes p.tables e below (T53.setTop (mkF m 146 #[.val (.int p0), .val (.int p1), .val (.int p2), .val (.int p3), .val (.int p4), .val (.int vn), .val (.ref a), .val (.ref a37), .val (.int v57), .val (.int v58), .val (.int v59), .unset, .unset, .unset, .unset, .unset, .unset] [])) _
      have A8 := A7
      rw [show cl n (0 : Int32) (0 : Int32) (0 : Int32) = cl n (if v57 = 0 then (0 : Int32) else p1) (0 : Int32) (0 : Int32) from by rw [if_pos c136]] at A8
      exact J146 es _ _ _ hes X53 rfl N55 Z56 fx54 fF fC A8 A6
    · skip
      show Goes p.tables e below (T53.setTop (mkF m 139 #[.val (.int p0), .val (.int p1), .val (.int p2), .val (.int p3), .val (.int p4), .val (.int vn), .val (.ref a), .val (.ref a37), .val (.int v57), .val (.int v58), .val (.int v59), .unset, .unset, .unset, .unset, .unset, .unset] [])) _
      have hlt : 0 < n := by rcases Nat.lt_or_ge 0 n with q | q; exact q; exact absurd (hz0 q) c136
      refine g_aload X53 hx (hb hby at_139) rfl rfl ?_
      show Goes p.tables e below (T53.setTop (mkF m 141 #[.val (.int p0), .val (.int p1), .val (.int p2), .val (.int p3), .val (.int p4), .val (.int vn), .val (.ref a), .val (.ref a37), .val (.int v57), .val (.int v58), .val (.int v59), .unset, .unset, .unset, .unset, .unset, .unset] [(.ref a37)])) _
      refine g_iconst X53 hx (0 : Int32) (hb hby at_141) rfl ?_
      show Goes p.tables e below (T53.setTop (mkF m 142 #[.val (.int p0), .val (.int p1), .val (.int p2), .val (.int p3), .val (.int p4), .val (.int vn), .val (.ref a), .val (.ref a37), .val (.int v57), .val (.int v58), .val (.int v59), .unset, .unset, .unset, .unset, .unset, .unset] [(.int (0 : Int32)), (.ref a37)])) _
      refine g_iloadN X53 hx (hb hby at_142) rfl ?_
      show Goes p.tables e below (T53.setTop (mkF m 143 #[.val (.int p0), .val (.int p1), .val (.int p2), .val (.int p3), .val (.int p4), .val (.int vn), .val (.ref a), .val (.ref a37), .val (.int v57), .val (.int v58), .val (.int v59), .unset, .unset, .unset, .unset, .unset, .unset] [(.int p1), (.int (0 : Int32)), (.ref a37)])) _
      refine g_callV X53 hx hZ hown (by rw [hml]; rfl) rfl (K := "com/example/delvedeck/delvedeck/solo/SkillBoard") (hw _ (List.mem_of_getElem? (i := 190) rfl)) (hw _ (List.mem_of_getElem? (i := 191) rfl)) (hw _ (List.mem_of_getElem? (i := 193) rfl)) (hw _ (List.mem_of_getElem? (i := 192) rfl)) (hw _ (List.mem_of_getElem? (i := 28) rfl)) (hw _ (List.mem_of_getElem? (i := 194) rfl)) fx54 (rmCh l Z a0 hw a37 (0 : Int32) p1 T53.heap h0.size Z56 ch ((cl n (0 : Int32) (0 : Int32) (0 : Int32)).map Value.int) 0 (by decide) (by rw [List.length_map, own_cllen _ _ _ hn3]; exact hlt) fC A7 gch noch) [(.int (0 : Int32)), (.int p1)] rfl [] rfl (lenOf pd_27 rfl) (hb hby at_143) (by decide) 0 (by decide) (by decide) (by first | decide | exact Nat.le_refl _) (by decide) (by decide) (fun v T106 L106 X106 hQ106 => ?_)
      obtain ⟨rfl, Nc106, Kc106, Ac106⟩ := hQ106
      have fx107 : Exa Z T106.heap a37 "com/example/delvedeck/delvedeck/solo/SkillBoard" := Exa.keep fx54 Kc106
      have fx108 : Fld Z T106.heap a37 "com/example/delvedeck/delvedeck/solo/SkillBoard" "faceDown" "[Z" (.ref fd) := Fld.keep fF Kc106 (ninS noch nin0)
      have fx109 : Fld Z T106.heap a37 "com/example/delvedeck/delvedeck/solo/SkillBoard" "charges" "[I" (.ref ch) := Fld.keep fC Kc106 (ninS noch nin0)
      have fx110 : Ar Z T106.heap fd .boolean es := Ar.keep A6 Kc106 (ninS nfc nin0)
      have N111 := Fr.app N55 Nc106
      have Z112 : h0.size ≤ T106.heap.size := Nat.le_trans Z56 Kc106.1
      rw [own_setmap (own_cls0 _ _ _ _ _)] at Ac106
      have A8 := Ac106
      rw [show cl n p1 (0 : Int32) (0 : Int32) = cl n (if v57 = 0 then (0 : Int32) else p1) (0 : Int32) (0 : Int32) from by rw [if_neg c136]] at A8
      exact J146 es _ _ _ hes X106 rfl N111 Z112 fx107 fx108 fx109 A8 fx110
  have h5 : n = 0 ∨ n = 1 ∨ n = 2 ∨ n = 3 := by omega
  rcases h5 with rfl | rfl | rfl | rfl
  · skip
    subst hvn2
    show Goes p.tables e below (T22.setTop (mkF m 14 #[.val (.int p0), .val (.int p1), .val (.int p2), .val (.int p3), .val (.int p4), .val (.int (0 : Int32)), .val (.ref a1), .unset, .unset, .unset, .unset, .unset, .unset, .unset, .unset, .unset, .unset] [])) _
    refine g_iload X22 hx (hb hby at_14) rfl ?_
    show Goes p.tables e below (T22.setTop (mkF m 16 #[.val (.int p0), .val (.int p1), .val (.int p2), .val (.int p3), .val (.int p4), .val (.int (0 : Int32)), .val (.ref a1), .unset, .unset, .unset, .unset, .unset, .unset, .unset, .unset, .unset, .unset] [(.int (0 : Int32))])) _
    refine g_if_le X22 hx (hb hby at_16) (by decide) (pc' := 30) (by decide) (fun _ => ?_) (fun q => absurd q (by decide))
    show Goes p.tables e below (T22.setTop (mkF m 30 #[.val (.int p0), .val (.int p1), .val (.int p2), .val (.int p3), .val (.int p4), .val (.int (0 : Int32)), .val (.ref a1), .unset, .unset, .unset, .unset, .unset, .unset, .unset, .unset, .unset, .unset] [])) _
    refine g_iload X22 hx (hb hby at_30) rfl ?_
    show Goes p.tables e below (T22.setTop (mkF m 32 #[.val (.int p0), .val (.int p1), .val (.int p2), .val (.int p3), .val (.int p4), .val (.int (0 : Int32)), .val (.ref a1), .unset, .unset, .unset, .unset, .unset, .unset, .unset, .unset, .unset, .unset] [(.int (0 : Int32))])) _
    refine g_iconst X22 hx (1 : Int32) (hb hby at_32) rfl ?_
    show Goes p.tables e below (T22.setTop (mkF m 33 #[.val (.int p0), .val (.int p1), .val (.int p2), .val (.int p3), .val (.int p4), .val (.int (0 : Int32)), .val (.ref a1), .unset, .unset, .unset, .unset, .unset, .unset, .unset, .unset, .unset, .unset] [(.int (1 : Int32)), (.int (0 : Int32))])) _
    refine g_icmp_le X22 hx (hb hby at_33) (by decide) (pc' := 47) (by decide) (fun _ => ?_) (fun q => absurd q (by decide))
    show Goes p.tables e below (T22.setTop (mkF m 47 #[.val (.int p0), .val (.int p1), .val (.int p2), .val (.int p3), .val (.int p4), .val (.int (0 : Int32)), .val (.ref a1), .unset, .unset, .unset, .unset, .unset, .unset, .unset, .unset, .unset, .unset] [])) _
    refine g_iload X22 hx (hb hby at_47) rfl ?_
    show Goes p.tables e below (T22.setTop (mkF m 49 #[.val (.int p0), .val (.int p1), .val (.int p2), .val (.int p3), .val (.int p4), .val (.int (0 : Int32)), .val (.ref a1), .unset, .unset, .unset, .unset, .unset, .unset, .unset, .unset, .unset, .unset] [(.int (0 : Int32))])) _
    refine g_iconst X22 hx (2 : Int32) (hb hby at_49) rfl ?_
    show Goes p.tables e below (T22.setTop (mkF m 50 #[.val (.int p0), .val (.int p1), .val (.int p2), .val (.int p3), .val (.int p4), .val (.int (0 : Int32)), .val (.ref a1), .unset, .unset, .unset, .unset, .unset, .unset, .unset, .unset, .unset, .unset] [(.int (2 : Int32)), (.int (0 : Int32))])) _
    refine g_icmp_le X22 hx (hb hby at_50) (by decide) (pc' := 64) (by decide) (fun _ => ?_) (fun q => absurd q (by decide))
    have hI : ∀ v ∈ List.take 0 [], ∃ x, v = Value.ref x ∧ Ins Z T22.heap x "java/lang/Object" true := own_all0
    exact JB 0 a1 de (0 : Int32) [] _ _ _ rfl (by decide) (by decide) (by simp) (own_up X22 (by decide) (by decide)) rfl N35 Z36 fx30 fx31 fa22 fb22 fx34 fx33 fx32 hI ne5
  · skip
    subst hvn2
    show Goes p.tables e below (T22.setTop (mkF m 14 #[.val (.int p0), .val (.int p1), .val (.int p2), .val (.int p3), .val (.int p4), .val (.int (1 : Int32)), .val (.ref a1), .unset, .unset, .unset, .unset, .unset, .unset, .unset, .unset, .unset, .unset] [])) _
    refine g_iload X22 hx (hb hby at_14) rfl ?_
    show Goes p.tables e below (T22.setTop (mkF m 16 #[.val (.int p0), .val (.int p1), .val (.int p2), .val (.int p3), .val (.int p4), .val (.int (1 : Int32)), .val (.ref a1), .unset, .unset, .unset, .unset, .unset, .unset, .unset, .unset, .unset, .unset] [(.int (1 : Int32))])) _
    refine g_if_le X22 hx (hb hby at_16) (by decide) (pc' := 30) (by decide) (fun q => absurd (by decide) q) (fun _ => ?_)
    show Goes p.tables e below (T22.setTop (mkF m 19 #[.val (.int p0), .val (.int p1), .val (.int p2), .val (.int p3), .val (.int p4), .val (.int (1 : Int32)), .val (.ref a1), .unset, .unset, .unset, .unset, .unset, .unset, .unset, .unset, .unset, .unset] [])) _
    refine g_aload X22 hx (hb hby at_19) rfl rfl ?_
    show Goes p.tables e below (T22.setTop (mkF m 21 #[.val (.int p0), .val (.int p1), .val (.int p2), .val (.int p3), .val (.int p4), .val (.int (1 : Int32)), .val (.ref a1), .unset, .unset, .unset, .unset, .unset, .unset, .unset, .unset, .unset, .unset] [(.ref a1)])) _
    refine g_getS X22 hx hZ hown rfl (host := "") (Or.inl (hw _ (List.mem_of_getElem? (i := 86) rfl))) fx23 (hb hby at_21) (fun T113 X113 e113 => ?_)
    show Goes p.tables e below (T113.setTop (mkF m 24 #[.val (.int p0), .val (.int p1), .val (.int p2), .val (.int p3), .val (.int p4), .val (.int (1 : Int32)), .val (.ref a1), .unset, .unset, .unset, .unset, .unset, .unset, .unset, .unset, .unset, .unset] [(.ref b0), (.ref a1)])) _
    have lt24 := fx34.lt
    refine g_callF X113 hx hZ hown (by rw [hml]; rfl) e113 (hw _ (List.mem_of_getElem? (i := 89) rfl)) (hw _ (List.mem_of_getElem? (i := 90) rfl)) (hw _ (List.mem_of_getElem? (i := 91) rfl)) (hw _ (List.mem_of_getElem? (i := 92) rfl)) (hw _ (List.mem_of_getElem? (i := 93) rfl)) (hw _ (List.mem_of_getElem? (i := 94) rfl)) (hw _ (List.mem_of_getElem? (i := 95) rfl)) (hw _ (List.mem_of_getElem? (i := 71) rfl)) (hw _ (List.mem_of_getElem? (i := 2) rfl)) (hw _ (List.mem_of_getElem? (i := 96) rfl)) fx34 (rmAG l Z a0 hw a1 b0 T22.heap h0.size Z36 de (0 : Int32) fa22 fb22 fc22 fx34 ge6 fx29 fx33 ne5 (Ins.of_exa fx24 (hw _ (List.mem_of_getElem? (i := 120) rfl)))) [(.ref b0)] rfl [] rfl (lenOf pd_12 rfl) (hb hby at_24) (by decide) 0 (by decide) (by decide) (by first | decide | exact Nat.le_refl _) (by decide) (by decide) (fun v T114 L114 X114 hQ114 => ?_)
    obtain ⟨Kc114, b114, gb114, hb114, rfl, Nc114, fa114, fb114, fc114, Ab114, Eb114, Ob114, E1114⟩ := hQ114
    have fx115 : Sta Z T114.heap "com/example/delvedeck/delvedeck/solo/Skill" "ATTACK" "Lcom/example/delvedeck/delvedeck/solo/Skill;" (.ref b0) := own_stakeep fx23 Kc114 (allS (own_nst fx34) all0)
    have fx116 : Exa Z T114.heap b0 "com/example/delvedeck/delvedeck/solo/Skill" := Exa.keep fx24 Kc114
    have fx117 : Sta Z T114.heap "com/example/delvedeck/delvedeck/solo/Skill" "QUEST" "Lcom/example/delvedeck/delvedeck/solo/Skill;" (.ref b1) := own_stakeep fx25 Kc114 (allS (own_nst fx34) all0)
    have fx118 : Exa Z T114.heap b1 "com/example/delvedeck/delvedeck/solo/Skill" := Exa.keep fx26 Kc114
    have fx119 : Sta Z T114.heap "com/example/delvedeck/delvedeck/solo/Skill" "REST" "Lcom/example/delvedeck/delvedeck/solo/Skill;" (.ref b2) := own_stakeep fx27 Kc114 (allS (own_nst fx34) all0)
    have fx120 : Exa Z T114.heap b2 "com/example/delvedeck/delvedeck/solo/Skill" := Exa.keep fx28 Kc114
    have fx121 : Sta Z T114.heap "java/util/ArrayList" "DEFAULTCAPACITY_EMPTY_ELEMENTDATA" "[Ljava/lang/Object;" (.ref de) := own_stakeep fx29 Kc114 (allS (own_nst fx34) all0)
    have fx122 : Sta Z T114.heap "java/util/ImmutableCollections" "EMPTY_LIST" "Ljava/util/ImmutableCollections$ListN;" (.ref el) := own_stakeep fx30 Kc114 (allS (own_nst fx34) all0)
    have fx123 : Sta Z T114.heap "java/util/ImmutableCollections" "EMPTY" "Ljava/lang/Object;" (.ref em) := own_stakeep fx31 Kc114 (allS (own_nst fx34) all0)
    have fx124 : Exa Z T114.heap a1 "java/util/ArrayList" := Exa.keep fx34 Kc114
    have N125 := Fr.app N35 Nc114
    have Z126 : h0.size ≤ T114.heap.size := Nat.le_trans Z36 Kc114.1
    have ne127 : b114 ≠ a1 := Nat.ne_of_gt (Nat.lt_of_lt_of_le lt24 hb114)
    show Goes p.tables e below (T114.setTop (mkF m 29 #[.val (.int p0), .val (.int p1), .val (.int p2), .val (.int p3), .val (.int p4), .val (.int (1 : Int32)), .val (.ref a1), .unset, .unset, .unset, .unset, .unset, .unset, .unset, .unset, .unset, .unset] [(.int (1 : Int32))])) _
    refine g_pop X114 hx (hb hby at_29) rfl ?_
    show Goes p.tables e below (T114.setTop (mkF m 30 #[.val (.int p0), .val (.int p1), .val (.int p2), .val (.int p3), .val (.int p4), .val (.int (1 : Int32)), .val (.ref a1), .unset, .unset, .unset, .unset, .unset, .unset, .unset, .unset, .unset, .unset] [])) _
    refine g_iload X114 hx (hb hby at_30) rfl ?_
    show Goes p.tables e below (T114.setTop (mkF m 32 #[.val (.int p0), .val (.int p1), .val (.int p2), .val (.int p3), .val (.int p4), .val (.int (1 : Int32)), .val (.ref a1), .unset, .unset, .unset, .unset, .unset, .unset, .unset, .unset, .unset, .unset] [(.int (1 : Int32))])) _
    refine g_iconst X114 hx (1 : Int32) (hb hby at_32) rfl ?_
    show Goes p.tables e below (T114.setTop (mkF m 33 #[.val (.int p0), .val (.int p1), .val (.int p2), .val (.int p3), .val (.int p4), .val (.int (1 : Int32)), .val (.ref a1), .unset, .unset, .unset, .unset, .unset, .unset, .unset, .unset, .unset, .unset] [(.int (1 : Int32)), (.int (1 : Int32))])) _
    refine g_icmp_le X114 hx (hb hby at_33) (by decide) (pc' := 47) (by decide) (fun _ => ?_) (fun q => absurd q (by decide))
    show Goes p.tables e below (T114.setTop (mkF m 47 #[.val (.int p0), .val (.int p1), .val (.int p2), .val (.int p3), .val (.int p4), .val (.int (1 : Int32)), .val (.ref a1), .unset, .unset, .unset, .unset, .unset, .unset, .unset, .unset, .unset, .unset] [])) _
    refine g_iload X114 hx (hb hby at_47) rfl ?_
    show Goes p.tables e below (T114.setTop (mkF m 49 #[.val (.int p0), .val (.int p1), .val (.int p2), .val (.int p3), .val (.int p4), .val (.int (1 : Int32)), .val (.ref a1), .unset, .unset, .unset, .unset, .unset, .unset, .unset, .unset, .unset, .unset] [(.int (1 : Int32))])) _
    refine g_iconst X114 hx (2 : Int32) (hb hby at_49) rfl ?_
    show Goes p.tables e below (T114.setTop (mkF m 50 #[.val (.int p0), .val (.int p1), .val (.int p2), .val (.int p3), .val (.int p4), .val (.int (1 : Int32)), .val (.ref a1), .unset, .unset, .unset, .unset, .unset, .unset, .unset, .unset, .unset, .unset] [(.int (2 : Int32)), (.int (1 : Int32))])) _
    refine g_icmp_le X114 hx (hb hby at_50) (by decide) (pc' := 64) (by decide) (fun _ => ?_) (fun q => absurd q (by decide))
    have hI : ∀ v ∈ List.take 1 (List.set (List.replicate 10 Value.null) 0 (.ref b0)), ∃ x, v = Value.ref x ∧ Ins Z T114.heap x "java/lang/Object" true := (own_allS (P := fun v => ∃ x, v = Value.ref x ∧ Ins Z T114.heap x "java/lang/Object" true) ⟨b0, rfl, Ins.of_exa fx116 (hw _ (List.mem_of_getElem? (i := 120) rfl))⟩ own_all0)
    exact JB 1 a1 b114 ((0 : Int32) + 1) (List.set (List.replicate 10 Value.null) 0 (.ref b0)) _ _ _ rfl (by decide) (by decide) (by simp) (own_up X114 (by decide) (by decide)) rfl N125 Z126 fx122 fx123 fa114 fb114 fx124 Ab114 Eb114 hI ne127
  · skip
    subst hvn2
    show Goes p.tables e below (T22.setTop (mkF m 14 #[.val (.int p0), .val (.int p1), .val (.int p2), .val (.int p3), .val (.int p4), .val (.int (2 : Int32)), .val (.ref a1), .unset, .unset, .unset, .unset, .unset, .unset, .unset, .unset, .unset, .unset] [])) _
    refine g_iload X22 hx (hb hby at_14) rfl ?_
    show Goes p.tables e below (T22.setTop (mkF m 16 #[.val (.int p0), .val (.int p1), .val (.int p2), .val (.int p3), .val (.int p4), .val (.int (2 : Int32)), .val (.ref a1), .unset, .unset, .unset, .unset, .unset, .unset, .unset, .unset, .unset, .unset] [(.int (2 : Int32))])) _
    refine g_if_le X22 hx (hb hby at_16) (by decide) (pc' := 30) (by decide) (fun q => absurd (by decide) q) (fun _ => ?_)
    show Goes p.tables e below (T22.setTop (mkF m 19 #[.val (.int p0), .val (.int p1), .val (.int p2), .val (.int p3), .val (.int p4), .val (.int (2 : Int32)), .val (.ref a1), .unset, .unset, .unset, .unset, .unset, .unset, .unset, .unset, .unset, .unset] [])) _
    refine g_aload X22 hx (hb hby at_19) rfl rfl ?_
    show Goes p.tables e below (T22.setTop (mkF m 21 #[.val (.int p0), .val (.int p1), .val (.int p2), .val (.int p3), .val (.int p4), .val (.int (2 : Int32)), .val (.ref a1), .unset, .unset, .unset, .unset, .unset, .unset, .unset, .unset, .unset, .unset] [(.ref a1)])) _
    refine g_getS X22 hx hZ hown rfl (host := "") (Or.inl (hw _ (List.mem_of_getElem? (i := 86) rfl))) fx23 (hb hby at_21) (fun T128 X128 e128 => ?_)
    show Goes p.tables e below (T128.setTop (mkF m 24 #[.val (.int p0), .val (.int p1), .val (.int p2), .val (.int p3), .val (.int p4), .val (.int (2 : Int32)), .val (.ref a1), .unset, .unset, .unset, .unset, .unset, .unset, .unset, .unset, .unset, .unset] [(.ref b0), (.ref a1)])) _
    have lt24 := fx34.lt
    refine g_callF X128 hx hZ hown (by rw [hml]; rfl) e128 (hw _ (List.mem_of_getElem? (i := 89) rfl)) (hw _ (List.mem_of_getElem? (i := 90) rfl)) (hw _ (List.mem_of_getElem? (i := 91) rfl)) (hw _ (List.mem_of_getElem? (i := 92) rfl)) (hw _ (List.mem_of_getElem? (i := 93) rfl)) (hw _ (List.mem_of_getElem? (i := 94) rfl)) (hw _ (List.mem_of_getElem? (i := 95) rfl)) (hw _ (List.mem_of_getElem? (i := 71) rfl)) (hw _ (List.mem_of_getElem? (i := 2) rfl)) (hw _ (List.mem_of_getElem? (i := 96) rfl)) fx34 (rmAG l Z a0 hw a1 b0 T22.heap h0.size Z36 de (0 : Int32) fa22 fb22 fc22 fx34 ge6 fx29 fx33 ne5 (Ins.of_exa fx24 (hw _ (List.mem_of_getElem? (i := 120) rfl)))) [(.ref b0)] rfl [] rfl (lenOf pd_12 rfl) (hb hby at_24) (by decide) 0 (by decide) (by decide) (by first | decide | exact Nat.le_refl _) (by decide) (by decide) (fun v T129 L129 X129 hQ129 => ?_)
    obtain ⟨Kc129, b129, gb129, hb129, rfl, Nc129, fa129, fb129, fc129, Ab129, Eb129, Ob129, E1129⟩ := hQ129
    have fx130 : Sta Z T129.heap "com/example/delvedeck/delvedeck/solo/Skill" "ATTACK" "Lcom/example/delvedeck/delvedeck/solo/Skill;" (.ref b0) := own_stakeep fx23 Kc129 (allS (own_nst fx34) all0)
    have fx131 : Exa Z T129.heap b0 "com/example/delvedeck/delvedeck/solo/Skill" := Exa.keep fx24 Kc129
    have fx132 : Sta Z T129.heap "com/example/delvedeck/delvedeck/solo/Skill" "QUEST" "Lcom/example/delvedeck/delvedeck/solo/Skill;" (.ref b1) := own_stakeep fx25 Kc129 (allS (own_nst fx34) all0)
    have fx133 : Exa Z T129.heap b1 "com/example/delvedeck/delvedeck/solo/Skill" := Exa.keep fx26 Kc129
    have fx134 : Sta Z T129.heap "com/example/delvedeck/delvedeck/solo/Skill" "REST" "Lcom/example/delvedeck/delvedeck/solo/Skill;" (.ref b2) := own_stakeep fx27 Kc129 (allS (own_nst fx34) all0)
    have fx135 : Exa Z T129.heap b2 "com/example/delvedeck/delvedeck/solo/Skill" := Exa.keep fx28 Kc129
    have fx136 : Sta Z T129.heap "java/util/ArrayList" "DEFAULTCAPACITY_EMPTY_ELEMENTDATA" "[Ljava/lang/Object;" (.ref de) := own_stakeep fx29 Kc129 (allS (own_nst fx34) all0)
    have fx137 : Sta Z T129.heap "java/util/ImmutableCollections" "EMPTY_LIST" "Ljava/util/ImmutableCollections$ListN;" (.ref el) := own_stakeep fx30 Kc129 (allS (own_nst fx34) all0)
    have fx138 : Sta Z T129.heap "java/util/ImmutableCollections" "EMPTY" "Ljava/lang/Object;" (.ref em) := own_stakeep fx31 Kc129 (allS (own_nst fx34) all0)
    have fx139 : Exa Z T129.heap a1 "java/util/ArrayList" := Exa.keep fx34 Kc129
    have N140 := Fr.app N35 Nc129
    have Z141 : h0.size ≤ T129.heap.size := Nat.le_trans Z36 Kc129.1
    have ne142 : b129 ≠ a1 := Nat.ne_of_gt (Nat.lt_of_lt_of_le lt24 hb129)
    show Goes p.tables e below (T129.setTop (mkF m 29 #[.val (.int p0), .val (.int p1), .val (.int p2), .val (.int p3), .val (.int p4), .val (.int (2 : Int32)), .val (.ref a1), .unset, .unset, .unset, .unset, .unset, .unset, .unset, .unset, .unset, .unset] [(.int (1 : Int32))])) _
    refine g_pop X129 hx (hb hby at_29) rfl ?_
    show Goes p.tables e below (T129.setTop (mkF m 30 #[.val (.int p0), .val (.int p1), .val (.int p2), .val (.int p3), .val (.int p4), .val (.int (2 : Int32)), .val (.ref a1), .unset, .unset, .unset, .unset, .unset, .unset, .unset, .unset, .unset, .unset] [])) _
    refine g_iload X129 hx (hb hby at_30) rfl ?_
    show Goes p.tables e below (T129.setTop (mkF m 32 #[.val (.int p0), .val (.int p1), .val (.int p2), .val (.int p3), .val (.int p4), .val (.int (2 : Int32)), .val (.ref a1), .unset, .unset, .unset, .unset, .unset, .unset, .unset, .unset, .unset, .unset] [(.int (2 : Int32))])) _
    refine g_iconst X129 hx (1 : Int32) (hb hby at_32) rfl ?_
    show Goes p.tables e below (T129.setTop (mkF m 33 #[.val (.int p0), .val (.int p1), .val (.int p2), .val (.int p3), .val (.int p4), .val (.int (2 : Int32)), .val (.ref a1), .unset, .unset, .unset, .unset, .unset, .unset, .unset, .unset, .unset, .unset] [(.int (1 : Int32)), (.int (2 : Int32))])) _
    refine g_icmp_le X129 hx (hb hby at_33) (by decide) (pc' := 47) (by decide) (fun q => absurd (by decide) q) (fun _ => ?_)
    show Goes p.tables e below (T129.setTop (mkF m 36 #[.val (.int p0), .val (.int p1), .val (.int p2), .val (.int p3), .val (.int p4), .val (.int (2 : Int32)), .val (.ref a1), .unset, .unset, .unset, .unset, .unset, .unset, .unset, .unset, .unset, .unset] [])) _
    refine g_aload X129 hx (hb hby at_36) rfl rfl ?_
    show Goes p.tables e below (T129.setTop (mkF m 38 #[.val (.int p0), .val (.int p1), .val (.int p2), .val (.int p3), .val (.int p4), .val (.int (2 : Int32)), .val (.ref a1), .unset, .unset, .unset, .unset, .unset, .unset, .unset, .unset, .unset, .unset] [(.ref a1)])) _
    refine g_getS X129 hx hZ hown rfl (host := "") (Or.inl (hw _ (List.mem_of_getElem? (i := 121) rfl))) fx132 (hb hby at_38) (fun T143 X143 e143 => ?_)
    show Goes p.tables e below (T143.setTop (mkF m 41 #[.val (.int p0), .val (.int p1), .val (.int p2), .val (.int p3), .val (.int p4), .val (.int (2 : Int32)), .val (.ref a1), .unset, .unset, .unset, .unset, .unset, .unset, .unset, .unset, .unset, .unset] [(.ref b1), (.ref a1)])) _
    refine g_callF X143 hx hZ hown (by rw [hml]; rfl) e143 (hw _ (List.mem_of_getElem? (i := 89) rfl)) (hw _ (List.mem_of_getElem? (i := 90) rfl)) (hw _ (List.mem_of_getElem? (i := 91) rfl)) (hw _ (List.mem_of_getElem? (i := 92) rfl)) (hw _ (List.mem_of_getElem? (i := 93) rfl)) (hw _ (List.mem_of_getElem? (i := 94) rfl)) (hw _ (List.mem_of_getElem? (i := 95) rfl)) (hw _ (List.mem_of_getElem? (i := 71) rfl)) (hw _ (List.mem_of_getElem? (i := 2) rfl)) (hw _ (List.mem_of_getElem? (i := 96) rfl)) fx139 (rmAR l Z a0 hw a1 b1 T129.heap h0.size Z141 b129 ((0 : Int32) + 1) ((0 : Int32) + 1) (List.set (List.replicate 10 Value.null) 0 (.ref b0)) 1 (by decide) (by decide) rfl fa129 fb129 fc129 fx139 ge6 gb129 Ab129 Eb129 Ob129 ne142 (Ins.of_exa fx133 (hw _ (List.mem_of_getElem? (i := 120) rfl)))) [(.ref b1)] rfl [] rfl (lenOf pd_12 rfl) (hb hby at_41) (by decide) 0 (by decide) (by decide) (by first | decide | exact Nat.le_refl _) (by decide) (by decide) (fun v T144 L144 X144 hQ144 => ?_)
    obtain ⟨Kc144, rfl, Nc144, fa144, fb144, fc144, Ab144, Eb144, Ob144, E1144⟩ := hQ144
    have fx145 : Sta Z T144.heap "com/example/delvedeck/delvedeck/solo/Skill" "ATTACK" "Lcom/example/delvedeck/delvedeck/solo/Skill;" (.ref b0) := own_stakeep fx130 Kc144 (allS (own_nst fx139) (allS (own_nst Eb129) all0))
    have fx146 : Exa Z T144.heap b0 "com/example/delvedeck/delvedeck/solo/Skill" := Exa.keep fx131 Kc144
    have fx147 : Sta Z T144.heap "com/example/delvedeck/delvedeck/solo/Skill" "QUEST" "Lcom/example/delvedeck/delvedeck/solo/Skill;" (.ref b1) := own_stakeep fx132 Kc144 (allS (own_nst fx139) (allS (own_nst Eb129) all0))
    have fx148 : Exa Z T144.heap b1 "com/example/delvedeck/delvedeck/solo/Skill" := Exa.keep fx133 Kc144
    have fx149 : Sta Z T144.heap "com/example/delvedeck/delvedeck/solo/Skill" "REST" "Lcom/example/delvedeck/delvedeck/solo/Skill;" (.ref b2) := own_stakeep fx134 Kc144 (allS (own_nst fx139) (allS (own_nst Eb129) all0))
    have fx150 : Exa Z T144.heap b2 "com/example/delvedeck/delvedeck/solo/Skill" := Exa.keep fx135 Kc144
    have fx151 : Sta Z T144.heap "java/util/ArrayList" "DEFAULTCAPACITY_EMPTY_ELEMENTDATA" "[Ljava/lang/Object;" (.ref de) := own_stakeep fx136 Kc144 (allS (own_nst fx139) (allS (own_nst Eb129) all0))
    have fx152 : Sta Z T144.heap "java/util/ImmutableCollections" "EMPTY_LIST" "Ljava/util/ImmutableCollections$ListN;" (.ref el) := own_stakeep fx137 Kc144 (allS (own_nst fx139) (allS (own_nst Eb129) all0))
    have fx153 : Sta Z T144.heap "java/util/ImmutableCollections" "EMPTY" "Ljava/lang/Object;" (.ref em) := own_stakeep fx138 Kc144 (allS (own_nst fx139) (allS (own_nst Eb129) all0))
    have fx154 : Exa Z T144.heap a1 "java/util/ArrayList" := Exa.keep fx139 Kc144
    have fx155 : Exa Z T144.heap b129 "[Ljava/lang/Object;" := Exa.keep Eb129 Kc144
    have fx156 : Ovc Z T144.heap b129 "java/lang/Object" := Ovc.keep Ob129 Kc144
    have N157 := Fr.app N140 Nc144
    have Z158 : h0.size ≤ T144.heap.size := Nat.le_trans Z141 Kc144.1
    show Goes p.tables e below (T144.setTop (mkF m 46 #[.val (.int p0), .val (.int p1), .val (.int p2), .val (.int p3), .val (.int p4), .val (.int (2 : Int32)), .val (.ref a1), .unset, .unset, .unset, .unset, .unset, .unset, .unset, .unset, .unset, .unset] [(.int (1 : Int32))])) _
    refine g_pop X144 hx (hb hby at_46) rfl ?_
    show Goes p.tables e below (T144.setTop (mkF m 47 #[.val (.int p0), .val (.int p1), .val (.int p2), .val (.int p3), .val (.int p4), .val (.int (2 : Int32)), .val (.ref a1), .unset, .unset, .unset, .unset, .unset, .unset, .unset, .unset, .unset, .unset] [])) _
    refine g_iload X144 hx (hb hby at_47) rfl ?_
    show Goes p.tables e below (T144.setTop (mkF m 49 #[.val (.int p0), .val (.int p1), .val (.int p2), .val (.int p3), .val (.int p4), .val (.int (2 : Int32)), .val (.ref a1), .unset, .unset, .unset, .unset, .unset, .unset, .unset, .unset, .unset, .unset] [(.int (2 : Int32))])) _
    refine g_iconst X144 hx (2 : Int32) (hb hby at_49) rfl ?_
    show Goes p.tables e below (T144.setTop (mkF m 50 #[.val (.int p0), .val (.int p1), .val (.int p2), .val (.int p3), .val (.int p4), .val (.int (2 : Int32)), .val (.ref a1), .unset, .unset, .unset, .unset, .unset, .unset, .unset, .unset, .unset, .unset] [(.int (2 : Int32)), (.int (2 : Int32))])) _
    refine g_icmp_le X144 hx (hb hby at_50) (by decide) (pc' := 64) (by decide) (fun _ => ?_) (fun q => absurd q (by decide))
    have hI : ∀ v ∈ List.take 2 (List.set (List.set (List.replicate 10 Value.null) 0 (.ref b0)) 1 (.ref b1)), ∃ x, v = Value.ref x ∧ Ins Z T144.heap x "java/lang/Object" true := (own_allS (P := fun v => ∃ x, v = Value.ref x ∧ Ins Z T144.heap x "java/lang/Object" true) ⟨b0, rfl, Ins.of_exa fx146 (hw _ (List.mem_of_getElem? (i := 120) rfl))⟩ (own_allS (P := fun v => ∃ x, v = Value.ref x ∧ Ins Z T144.heap x "java/lang/Object" true) ⟨b1, rfl, Ins.of_exa fx148 (hw _ (List.mem_of_getElem? (i := 120) rfl))⟩ own_all0))
    exact JB 2 a1 b129 (((0 : Int32) + 1) + 1) (List.set (List.set (List.replicate 10 Value.null) 0 (.ref b0)) 1 (.ref b1)) _ _ _ rfl (by decide) (by decide) (by simp) (own_up X144 (by decide) (by decide)) rfl N157 Z158 fx152 fx153 fa144 fb144 fx154 Ab144 Eb144 hI ne142
  · skip
    subst hvn2
    show Goes p.tables e below (T22.setTop (mkF m 14 #[.val (.int p0), .val (.int p1), .val (.int p2), .val (.int p3), .val (.int p4), .val (.int (3 : Int32)), .val (.ref a1), .unset, .unset, .unset, .unset, .unset, .unset, .unset, .unset, .unset, .unset] [])) _
    refine g_iload X22 hx (hb hby at_14) rfl ?_
    show Goes p.tables e below (T22.setTop (mkF m 16 #[.val (.int p0), .val (.int p1), .val (.int p2), .val (.int p3), .val (.int p4), .val (.int (3 : Int32)), .val (.ref a1), .unset, .unset, .unset, .unset, .unset, .unset, .unset, .unset, .unset, .unset] [(.int (3 : Int32))])) _
    refine g_if_le X22 hx (hb hby at_16) (by decide) (pc' := 30) (by decide) (fun q => absurd (by decide) q) (fun _ => ?_)
    show Goes p.tables e below (T22.setTop (mkF m 19 #[.val (.int p0), .val (.int p1), .val (.int p2), .val (.int p3), .val (.int p4), .val (.int (3 : Int32)), .val (.ref a1), .unset, .unset, .unset, .unset, .unset, .unset, .unset, .unset, .unset, .unset] [])) _
    refine g_aload X22 hx (hb hby at_19) rfl rfl ?_
    show Goes p.tables e below (T22.setTop (mkF m 21 #[.val (.int p0), .val (.int p1), .val (.int p2), .val (.int p3), .val (.int p4), .val (.int (3 : Int32)), .val (.ref a1), .unset, .unset, .unset, .unset, .unset, .unset, .unset, .unset, .unset, .unset] [(.ref a1)])) _
    refine g_getS X22 hx hZ hown rfl (host := "") (Or.inl (hw _ (List.mem_of_getElem? (i := 86) rfl))) fx23 (hb hby at_21) (fun T159 X159 e159 => ?_)
    show Goes p.tables e below (T159.setTop (mkF m 24 #[.val (.int p0), .val (.int p1), .val (.int p2), .val (.int p3), .val (.int p4), .val (.int (3 : Int32)), .val (.ref a1), .unset, .unset, .unset, .unset, .unset, .unset, .unset, .unset, .unset, .unset] [(.ref b0), (.ref a1)])) _
    have lt24 := fx34.lt
    refine g_callF X159 hx hZ hown (by rw [hml]; rfl) e159 (hw _ (List.mem_of_getElem? (i := 89) rfl)) (hw _ (List.mem_of_getElem? (i := 90) rfl)) (hw _ (List.mem_of_getElem? (i := 91) rfl)) (hw _ (List.mem_of_getElem? (i := 92) rfl)) (hw _ (List.mem_of_getElem? (i := 93) rfl)) (hw _ (List.mem_of_getElem? (i := 94) rfl)) (hw _ (List.mem_of_getElem? (i := 95) rfl)) (hw _ (List.mem_of_getElem? (i := 71) rfl)) (hw _ (List.mem_of_getElem? (i := 2) rfl)) (hw _ (List.mem_of_getElem? (i := 96) rfl)) fx34 (rmAG l Z a0 hw a1 b0 T22.heap h0.size Z36 de (0 : Int32) fa22 fb22 fc22 fx34 ge6 fx29 fx33 ne5 (Ins.of_exa fx24 (hw _ (List.mem_of_getElem? (i := 120) rfl)))) [(.ref b0)] rfl [] rfl (lenOf pd_12 rfl) (hb hby at_24) (by decide) 0 (by decide) (by decide) (by first | decide | exact Nat.le_refl _) (by decide) (by decide) (fun v T160 L160 X160 hQ160 => ?_)
    obtain ⟨Kc160, b160, gb160, hb160, rfl, Nc160, fa160, fb160, fc160, Ab160, Eb160, Ob160, E1160⟩ := hQ160
    have fx161 : Sta Z T160.heap "com/example/delvedeck/delvedeck/solo/Skill" "ATTACK" "Lcom/example/delvedeck/delvedeck/solo/Skill;" (.ref b0) := own_stakeep fx23 Kc160 (allS (own_nst fx34) all0)
    have fx162 : Exa Z T160.heap b0 "com/example/delvedeck/delvedeck/solo/Skill" := Exa.keep fx24 Kc160
    have fx163 : Sta Z T160.heap "com/example/delvedeck/delvedeck/solo/Skill" "QUEST" "Lcom/example/delvedeck/delvedeck/solo/Skill;" (.ref b1) := own_stakeep fx25 Kc160 (allS (own_nst fx34) all0)
    have fx164 : Exa Z T160.heap b1 "com/example/delvedeck/delvedeck/solo/Skill" := Exa.keep fx26 Kc160
    have fx165 : Sta Z T160.heap "com/example/delvedeck/delvedeck/solo/Skill" "REST" "Lcom/example/delvedeck/delvedeck/solo/Skill;" (.ref b2) := own_stakeep fx27 Kc160 (allS (own_nst fx34) all0)
    have fx166 : Exa Z T160.heap b2 "com/example/delvedeck/delvedeck/solo/Skill" := Exa.keep fx28 Kc160
    have fx167 : Sta Z T160.heap "java/util/ArrayList" "DEFAULTCAPACITY_EMPTY_ELEMENTDATA" "[Ljava/lang/Object;" (.ref de) := own_stakeep fx29 Kc160 (allS (own_nst fx34) all0)
    have fx168 : Sta Z T160.heap "java/util/ImmutableCollections" "EMPTY_LIST" "Ljava/util/ImmutableCollections$ListN;" (.ref el) := own_stakeep fx30 Kc160 (allS (own_nst fx34) all0)
    have fx169 : Sta Z T160.heap "java/util/ImmutableCollections" "EMPTY" "Ljava/lang/Object;" (.ref em) := own_stakeep fx31 Kc160 (allS (own_nst fx34) all0)
    have fx170 : Exa Z T160.heap a1 "java/util/ArrayList" := Exa.keep fx34 Kc160
    have N171 := Fr.app N35 Nc160
    have Z172 : h0.size ≤ T160.heap.size := Nat.le_trans Z36 Kc160.1
    have ne173 : b160 ≠ a1 := Nat.ne_of_gt (Nat.lt_of_lt_of_le lt24 hb160)
    show Goes p.tables e below (T160.setTop (mkF m 29 #[.val (.int p0), .val (.int p1), .val (.int p2), .val (.int p3), .val (.int p4), .val (.int (3 : Int32)), .val (.ref a1), .unset, .unset, .unset, .unset, .unset, .unset, .unset, .unset, .unset, .unset] [(.int (1 : Int32))])) _
    refine g_pop X160 hx (hb hby at_29) rfl ?_
    show Goes p.tables e below (T160.setTop (mkF m 30 #[.val (.int p0), .val (.int p1), .val (.int p2), .val (.int p3), .val (.int p4), .val (.int (3 : Int32)), .val (.ref a1), .unset, .unset, .unset, .unset, .unset, .unset, .unset, .unset, .unset, .unset] [])) _
    refine g_iload X160 hx (hb hby at_30) rfl ?_
    show Goes p.tables e below (T160.setTop (mkF m 32 #[.val (.int p0), .val (.int p1), .val (.int p2), .val (.int p3), .val (.int p4), .val (.int (3 : Int32)), .val (.ref a1), .unset, .unset, .unset, .unset, .unset, .unset, .unset, .unset, .unset, .unset] [(.int (3 : Int32))])) _
    refine g_iconst X160 hx (1 : Int32) (hb hby at_32) rfl ?_
    show Goes p.tables e below (T160.setTop (mkF m 33 #[.val (.int p0), .val (.int p1), .val (.int p2), .val (.int p3), .val (.int p4), .val (.int (3 : Int32)), .val (.ref a1), .unset, .unset, .unset, .unset, .unset, .unset, .unset, .unset, .unset, .unset] [(.int (1 : Int32)), (.int (3 : Int32))])) _
    refine g_icmp_le X160 hx (hb hby at_33) (by decide) (pc' := 47) (by decide) (fun q => absurd (by decide) q) (fun _ => ?_)
    show Goes p.tables e below (T160.setTop (mkF m 36 #[.val (.int p0), .val (.int p1), .val (.int p2), .val (.int p3), .val (.int p4), .val (.int (3 : Int32)), .val (.ref a1), .unset, .unset, .unset, .unset, .unset, .unset, .unset, .unset, .unset, .unset] [])) _
    refine g_aload X160 hx (hb hby at_36) rfl rfl ?_
    show Goes p.tables e below (T160.setTop (mkF m 38 #[.val (.int p0), .val (.int p1), .val (.int p2), .val (.int p3), .val (.int p4), .val (.int (3 : Int32)), .val (.ref a1), .unset, .unset, .unset, .unset, .unset, .unset, .unset, .unset, .unset, .unset] [(.ref a1)])) _
    refine g_getS X160 hx hZ hown rfl (host := "") (Or.inl (hw _ (List.mem_of_getElem? (i := 121) rfl))) fx163 (hb hby at_38) (fun T174 X174 e174 => ?_)
    show Goes p.tables e below (T174.setTop (mkF m 41 #[.val (.int p0), .val (.int p1), .val (.int p2), .val (.int p3), .val (.int p4), .val (.int (3 : Int32)), .val (.ref a1), .unset, .unset, .unset, .unset, .unset, .unset, .unset, .unset, .unset, .unset] [(.ref b1), (.ref a1)])) _
    refine g_callF X174 hx hZ hown (by rw [hml]; rfl) e174 (hw _ (List.mem_of_getElem? (i := 89) rfl)) (hw _ (List.mem_of_getElem? (i := 90) rfl)) (hw _ (List.mem_of_getElem? (i := 91) rfl)) (hw _ (List.mem_of_getElem? (i := 92) rfl)) (hw _ (List.mem_of_getElem? (i := 93) rfl)) (hw _ (List.mem_of_getElem? (i := 94) rfl)) (hw _ (List.mem_of_getElem? (i := 95) rfl)) (hw _ (List.mem_of_getElem? (i := 71) rfl)) (hw _ (List.mem_of_getElem? (i := 2) rfl)) (hw _ (List.mem_of_getElem? (i := 96) rfl)) fx170 (rmAR l Z a0 hw a1 b1 T160.heap h0.size Z172 b160 ((0 : Int32) + 1) ((0 : Int32) + 1) (List.set (List.replicate 10 Value.null) 0 (.ref b0)) 1 (by decide) (by decide) rfl fa160 fb160 fc160 fx170 ge6 gb160 Ab160 Eb160 Ob160 ne173 (Ins.of_exa fx164 (hw _ (List.mem_of_getElem? (i := 120) rfl)))) [(.ref b1)] rfl [] rfl (lenOf pd_12 rfl) (hb hby at_41) (by decide) 0 (by decide) (by decide) (by first | decide | exact Nat.le_refl _) (by decide) (by decide) (fun v T175 L175 X175 hQ175 => ?_)
    obtain ⟨Kc175, rfl, Nc175, fa175, fb175, fc175, Ab175, Eb175, Ob175, E1175⟩ := hQ175
    have fx176 : Sta Z T175.heap "com/example/delvedeck/delvedeck/solo/Skill" "ATTACK" "Lcom/example/delvedeck/delvedeck/solo/Skill;" (.ref b0) := own_stakeep fx161 Kc175 (allS (own_nst fx170) (allS (own_nst Eb160) all0))
    have fx177 : Exa Z T175.heap b0 "com/example/delvedeck/delvedeck/solo/Skill" := Exa.keep fx162 Kc175
    have fx178 : Sta Z T175.heap "com/example/delvedeck/delvedeck/solo/Skill" "QUEST" "Lcom/example/delvedeck/delvedeck/solo/Skill;" (.ref b1) := own_stakeep fx163 Kc175 (allS (own_nst fx170) (allS (own_nst Eb160) all0))
    have fx179 : Exa Z T175.heap b1 "com/example/delvedeck/delvedeck/solo/Skill" := Exa.keep fx164 Kc175
    have fx180 : Sta Z T175.heap "com/example/delvedeck/delvedeck/solo/Skill" "REST" "Lcom/example/delvedeck/delvedeck/solo/Skill;" (.ref b2) := own_stakeep fx165 Kc175 (allS (own_nst fx170) (allS (own_nst Eb160) all0))
    have fx181 : Exa Z T175.heap b2 "com/example/delvedeck/delvedeck/solo/Skill" := Exa.keep fx166 Kc175
    have fx182 : Sta Z T175.heap "java/util/ArrayList" "DEFAULTCAPACITY_EMPTY_ELEMENTDATA" "[Ljava/lang/Object;" (.ref de) := own_stakeep fx167 Kc175 (allS (own_nst fx170) (allS (own_nst Eb160) all0))
    have fx183 : Sta Z T175.heap "java/util/ImmutableCollections" "EMPTY_LIST" "Ljava/util/ImmutableCollections$ListN;" (.ref el) := own_stakeep fx168 Kc175 (allS (own_nst fx170) (allS (own_nst Eb160) all0))
    have fx184 : Sta Z T175.heap "java/util/ImmutableCollections" "EMPTY" "Ljava/lang/Object;" (.ref em) := own_stakeep fx169 Kc175 (allS (own_nst fx170) (allS (own_nst Eb160) all0))
    have fx185 : Exa Z T175.heap a1 "java/util/ArrayList" := Exa.keep fx170 Kc175
    have fx186 : Exa Z T175.heap b160 "[Ljava/lang/Object;" := Exa.keep Eb160 Kc175
    have fx187 : Ovc Z T175.heap b160 "java/lang/Object" := Ovc.keep Ob160 Kc175
    have N188 := Fr.app N171 Nc175
    have Z189 : h0.size ≤ T175.heap.size := Nat.le_trans Z172 Kc175.1
    show Goes p.tables e below (T175.setTop (mkF m 46 #[.val (.int p0), .val (.int p1), .val (.int p2), .val (.int p3), .val (.int p4), .val (.int (3 : Int32)), .val (.ref a1), .unset, .unset, .unset, .unset, .unset, .unset, .unset, .unset, .unset, .unset] [(.int (1 : Int32))])) _
    refine g_pop X175 hx (hb hby at_46) rfl ?_
    show Goes p.tables e below (T175.setTop (mkF m 47 #[.val (.int p0), .val (.int p1), .val (.int p2), .val (.int p3), .val (.int p4), .val (.int (3 : Int32)), .val (.ref a1), .unset, .unset, .unset, .unset, .unset, .unset, .unset, .unset, .unset, .unset] [])) _
    refine g_iload X175 hx (hb hby at_47) rfl ?_
    show Goes p.tables e below (T175.setTop (mkF m 49 #[.val (.int p0), .val (.int p1), .val (.int p2), .val (.int p3), .val (.int p4), .val (.int (3 : Int32)), .val (.ref a1), .unset, .unset, .unset, .unset, .unset, .unset, .unset, .unset, .unset, .unset] [(.int (3 : Int32))])) _
    refine g_iconst X175 hx (2 : Int32) (hb hby at_49) rfl ?_
    show Goes p.tables e below (T175.setTop (mkF m 50 #[.val (.int p0), .val (.int p1), .val (.int p2), .val (.int p3), .val (.int p4), .val (.int (3 : Int32)), .val (.ref a1), .unset, .unset, .unset, .unset, .unset, .unset, .unset, .unset, .unset, .unset] [(.int (2 : Int32)), (.int (3 : Int32))])) _
    refine g_icmp_le X175 hx (hb hby at_50) (by decide) (pc' := 64) (by decide) (fun q => absurd (by decide) q) (fun _ => ?_)
    show Goes p.tables e below (T175.setTop (mkF m 53 #[.val (.int p0), .val (.int p1), .val (.int p2), .val (.int p3), .val (.int p4), .val (.int (3 : Int32)), .val (.ref a1), .unset, .unset, .unset, .unset, .unset, .unset, .unset, .unset, .unset, .unset] [])) _
    refine g_aload X175 hx (hb hby at_53) rfl rfl ?_
    show Goes p.tables e below (T175.setTop (mkF m 55 #[.val (.int p0), .val (.int p1), .val (.int p2), .val (.int p3), .val (.int p4), .val (.int (3 : Int32)), .val (.ref a1), .unset, .unset, .unset, .unset, .unset, .unset, .unset, .unset, .unset, .unset] [(.ref a1)])) _
    refine g_getS X175 hx hZ hown rfl (host := "") (Or.inl (hw _ (List.mem_of_getElem? (i := 123) rfl))) fx180 (hb hby at_55) (fun T190 X190 e190 => ?_)
    show Goes p.tables e below (T190.setTop (mkF m 58 #[.val (.int p0), .val (.int p1), .val (.int p2), .val (.int p3), .val (.int p4), .val (.int (3 : Int32)), .val (.ref a1), .unset, .unset, .unset, .unset, .unset, .unset, .unset, .unset, .unset, .unset] [(.ref b2), (.ref a1)])) _
    refine g_callF X190 hx hZ hown (by rw [hml]; rfl) e190 (hw _ (List.mem_of_getElem? (i := 89) rfl)) (hw _ (List.mem_of_getElem? (i := 90) rfl)) (hw _ (List.mem_of_getElem? (i := 91) rfl)) (hw _ (List.mem_of_getElem? (i := 92) rfl)) (hw _ (List.mem_of_getElem? (i := 93) rfl)) (hw _ (List.mem_of_getElem? (i := 94) rfl)) (hw _ (List.mem_of_getElem? (i := 95) rfl)) (hw _ (List.mem_of_getElem? (i := 71) rfl)) (hw _ (List.mem_of_getElem? (i := 2) rfl)) (hw _ (List.mem_of_getElem? (i := 96) rfl)) fx185 (rmAR l Z a0 hw a1 b2 T175.heap h0.size Z189 b160 (((0 : Int32) + 1) + 1) (((0 : Int32) + 1) + 1) (List.set (List.set (List.replicate 10 Value.null) 0 (.ref b0)) 1 (.ref b1)) 2 (by decide) (by decide) rfl fa175 fb175 fc175 fx185 ge6 gb160 Ab175 Eb175 Ob175 ne173 (Ins.of_exa fx181 (hw _ (List.mem_of_getElem? (i := 120) rfl)))) [(.ref b2)] rfl [] rfl (lenOf pd_12 rfl) (hb hby at_58) (by decide) 0 (by decide) (by decide) (by first | decide | exact Nat.le_refl _) (by decide) (by decide) (fun v T191 L191 X191 hQ191 => ?_)
    obtain ⟨Kc191, rfl, Nc191, fa191, fb191, fc191, Ab191, Eb191, Ob191, E1191⟩ := hQ191
    have fx192 : Sta Z T191.heap "com/example/delvedeck/delvedeck/solo/Skill" "ATTACK" "Lcom/example/delvedeck/delvedeck/solo/Skill;" (.ref b0) := own_stakeep fx176 Kc191 (allS (own_nst fx185) (allS (own_nst Eb175) all0))
    have fx193 : Exa Z T191.heap b0 "com/example/delvedeck/delvedeck/solo/Skill" := Exa.keep fx177 Kc191
    have fx194 : Sta Z T191.heap "com/example/delvedeck/delvedeck/solo/Skill" "QUEST" "Lcom/example/delvedeck/delvedeck/solo/Skill;" (.ref b1) := own_stakeep fx178 Kc191 (allS (own_nst fx185) (allS (own_nst Eb175) all0))
    have fx195 : Exa Z T191.heap b1 "com/example/delvedeck/delvedeck/solo/Skill" := Exa.keep fx179 Kc191
    have fx196 : Sta Z T191.heap "com/example/delvedeck/delvedeck/solo/Skill" "REST" "Lcom/example/delvedeck/delvedeck/solo/Skill;" (.ref b2) := own_stakeep fx180 Kc191 (allS (own_nst fx185) (allS (own_nst Eb175) all0))
    have fx197 : Exa Z T191.heap b2 "com/example/delvedeck/delvedeck/solo/Skill" := Exa.keep fx181 Kc191
    have fx198 : Sta Z T191.heap "java/util/ArrayList" "DEFAULTCAPACITY_EMPTY_ELEMENTDATA" "[Ljava/lang/Object;" (.ref de) := own_stakeep fx182 Kc191 (allS (own_nst fx185) (allS (own_nst Eb175) all0))
    have fx199 : Sta Z T191.heap "java/util/ImmutableCollections" "EMPTY_LIST" "Ljava/util/ImmutableCollections$ListN;" (.ref el) := own_stakeep fx183 Kc191 (allS (own_nst fx185) (allS (own_nst Eb175) all0))
    have fx200 : Sta Z T191.heap "java/util/ImmutableCollections" "EMPTY" "Ljava/lang/Object;" (.ref em) := own_stakeep fx184 Kc191 (allS (own_nst fx185) (allS (own_nst Eb175) all0))
    have fx201 : Exa Z T191.heap a1 "java/util/ArrayList" := Exa.keep fx185 Kc191
    have fx202 : Exa Z T191.heap b160 "[Ljava/lang/Object;" := Exa.keep Eb175 Kc191
    have fx203 : Ovc Z T191.heap b160 "java/lang/Object" := Ovc.keep Ob175 Kc191
    have N204 := Fr.app N188 Nc191
    have Z205 : h0.size ≤ T191.heap.size := Nat.le_trans Z189 Kc191.1
    show Goes p.tables e below (T191.setTop (mkF m 63 #[.val (.int p0), .val (.int p1), .val (.int p2), .val (.int p3), .val (.int p4), .val (.int (3 : Int32)), .val (.ref a1), .unset, .unset, .unset, .unset, .unset, .unset, .unset, .unset, .unset, .unset] [(.int (1 : Int32))])) _
    refine g_pop X191 hx (hb hby at_63) rfl ?_
    have hI : ∀ v ∈ List.take 3 (List.set (List.set (List.set (List.replicate 10 Value.null) 0 (.ref b0)) 1 (.ref b1)) 2 (.ref b2)), ∃ x, v = Value.ref x ∧ Ins Z T191.heap x "java/lang/Object" true := (own_allS (P := fun v => ∃ x, v = Value.ref x ∧ Ins Z T191.heap x "java/lang/Object" true) ⟨b0, rfl, Ins.of_exa fx193 (hw _ (List.mem_of_getElem? (i := 120) rfl))⟩ (own_allS (P := fun v => ∃ x, v = Value.ref x ∧ Ins Z T191.heap x "java/lang/Object" true) ⟨b1, rfl, Ins.of_exa fx195 (hw _ (List.mem_of_getElem? (i := 120) rfl))⟩ (own_allS (P := fun v => ∃ x, v = Value.ref x ∧ Ins Z T191.heap x "java/lang/Object" true) ⟨b2, rfl, Ins.of_exa fx197 (hw _ (List.mem_of_getElem? (i := 120) rfl))⟩ own_all0)))
    exact JB 3 a1 b160 ((((0 : Int32) + 1) + 1) + 1) (List.set (List.set (List.set (List.replicate 10 Value.null) 0 (.ref b0)) 1 (.ref b1)) 2 (.ref b2)) _ _ _ rfl (by decide) (by decide) (by simp) (own_up X191 (by decide) (by decide)) rfl N204 Z205 fx199 fx200 fa191 fb191 fx201 Ab191 Eb191 hI ne173
set_option maxRecDepth 65536 in
set_option maxHeartbeats 40000000 in
theorem comes_1 {Post : Tables → Env → Array Value → State → Outcome → State → Prop} (hpost : ∀ tb e args s v u, (limb_1_1.after args s (.returned v) u = true ∧ limb_1_2.after args s (.returned v) u = true ∧ True) → FrameEnd s (.returned v) u (Jvm.fieldLocs frame_1_writes args s ++ Jvm.arrayLocs frame_1_arrays args s ++ Jvm.staticLocs frame_1_statics s) 32 192 → Post tb e args s (.returned v) u) :
    ArmFor flags0 classFile x code maxLocals ret World_1 tables_1 room_1 Calls_1 rest_1 Pre_1 Post := by
  intro l hfl _ _ p e ha hc hk s m args below hf hA hF happ hP
  obtain ⟨hcalls, hrest, hpre⟩ := hP
  obtain ⟨-, -, -, hnamed, -, -, -, hat⟩ := (Spec.applies_iff hf).mp happ
  obtain ⟨hg, hn⟩ := and_e (Cond.before_iff.mp (show (Jvm.Cond.and given_1 narrow_1).before args s = true from hpre))
  obtain ⟨h1, hg1⟩ := and_e hg
  obtain ⟨w0, w1, w2, w3, w4, rfl⟩ : ∃ w0 w1 w2 w3 w4 : Value, args = #[w0, w1, w2, w3, w4] := by
    have hs : args.size = 5 := by simpa [Cond.value, given_1] using h1
    obtain ⟨L⟩ := args
    match L, hs with
    | [w0, w1, w2, w3, w4], _ => exact ⟨w0, w1, w2, w3, w4, rfl⟩
  have hw := fun d (hd : d ∈ tables_1) => atoms_spec (ws := Jvm.Cond.code x code maxLocals ret :: tables_1) hat d (List.mem_cons_of_mem _ hd)
  obtain ⟨ha0, hg2⟩ := and_e hg1
  obtain ⟨i0, ei0⟩ := is_v ha0
  obtain rfl : w0 = (.int i0) := Option.some.inj ei0
  obtain ⟨ha1, hg3⟩ := and_e hg2
  obtain ⟨i1, ei1⟩ := is_v ha1
  obtain rfl : w1 = (.int i1) := Option.some.inj ei1
  obtain ⟨ha2, hg4⟩ := and_e hg3
  obtain ⟨i2, ei2⟩ := is_v ha2
  obtain rfl : w2 = (.int i2) := Option.some.inj ei2
  obtain ⟨ha3, hg5⟩ := and_e hg4
  obtain ⟨i3, ei3⟩ := is_v ha3
  obtain rfl : w3 = (.int i3) := Option.some.inj ei3
  obtain ⟨i4, ei4⟩ := is_v hg5
  obtain rfl : w4 = (.int i4) := Option.some.inj ei4
  obtain ⟨n0, hn0⟩ := and_e hn
  obtain ⟨b0, eb0⟩ := exa_v n0
  have Sb0 := Sta.start eb0 (Or.inr ⟨(hw _ (List.mem_of_getElem? (i := 87) rfl)), (hw _ (List.mem_of_getElem? (i := 88) rfl))⟩)
  have Eb0 := Exa.start eb0 n0
  obtain ⟨n1, hn1⟩ := and_e hn0
  obtain ⟨b1, eb1⟩ := exa_v n1
  have Sb1 := Sta.start eb1 (Or.inr ⟨(hw _ (List.mem_of_getElem? (i := 87) rfl)), (hw _ (List.mem_of_getElem? (i := 122) rfl))⟩)
  have Eb1 := Exa.start eb1 n1
  obtain ⟨b2, eb2⟩ := exa_v hn1
  have Sb2 := Sta.start eb2 (Or.inr ⟨(hw _ (List.mem_of_getElem? (i := 87) rfl)), (hw _ (List.mem_of_getElem? (i := 124) rfl))⟩)
  have Eb2 := Exa.start eb2 hn1
  have hr0 := Cond.before_iff.mp (show rest_1_c.before _ s = true from hrest)
  obtain ⟨r0, rr0⟩ := and_e hr0
  obtain ⟨r1, rr1⟩ := and_e rr0
  obtain ⟨r2, rr2⟩ := and_e rr1
  obtain ⟨r3, rr3⟩ := and_e rr2
  obtain ⟨r4, rr4⟩ := and_e rr3
  obtain ⟨r5, rr5⟩ := and_e rr4
  obtain ⟨r6, rr6⟩ := and_e rr5
  obtain ⟨r7, rr7⟩ := and_e rr6
  obtain ⟨r8, rr8⟩ := and_e rr7
  obtain ⟨r9, rr9⟩ := and_e rr8
  obtain ⟨r10, rr10⟩ := and_e rr9
  obtain ⟨r11, rr11⟩ := and_e rr10
  obtain ⟨r12, rr12⟩ := and_e rr11
  obtain ⟨r13, rr13⟩ := and_e rr12
  obtain ⟨r14, rr14⟩ := and_e rr13
  obtain ⟨r15, rr15⟩ := and_e rr14
  obtain ⟨r16, rr16⟩ := and_e rr15
  obtain ⟨r17, rr17⟩ := and_e rr16
  obtain ⟨r18, rr18⟩ := and_e rr17
  obtain ⟨r19, rr19⟩ := and_e rr18
  obtain ⟨r20, rr20⟩ := and_e rr19
  obtain ⟨r21, rr21⟩ := and_e rr20
  obtain ⟨r22, rr22⟩ := and_e rr21
  obtain ⟨r23, rr23⟩ := and_e rr22
  obtain ⟨r24, rr24⟩ := and_e rr23
  obtain ⟨de, ede⟩ := exa_v r7
  have Sde := Sta.start ede (Or.inr ⟨(hw _ (List.mem_of_getElem? (i := 2) rfl)), Cond.before_iff.mpr r2⟩)
  obtain ⟨el, eel⟩ := exa_v r11
  have Sel := Sta.start eel (Or.inr ⟨(hw _ (List.mem_of_getElem? (i := 39) rfl)), Cond.before_iff.mpr r9⟩)
  obtain ⟨em, eem⟩ := exa_v r18
  have Sem := Sta.start eem (Or.inr ⟨(hw _ (List.mem_of_getElem? (i := 39) rfl)), Cond.before_iff.mpr r16⟩)
  have Ede := Exa.start ede r7
  have Ade := own_emp ede r6 r8
  obtain ⟨mc0, mk0, mr, hm1, hm2, hm3, -⟩ := hcalls.1
  obtain ⟨n, o, h1, h2, h3, _, L, rfl, ⟨rfl, N⟩, hq⟩ := law l s _ hw tables_1 i0 i1 i2 i3 i4 s.heap b0 Sb0 Eb0 b1 Sb1 Eb1 b2 Sb2 Eb2 de Sde el Sel em Sem Ede Ade mr ⟨mc0, mk0, hm1, hm2, hm3⟩ p e ha hc hk s m _ below hf ((Spec.applies_iff_loose hf).mp happ).1 ⟨rfl, State.Warmed39.refl s, rfl⟩ trivial
  refine ⟨n, _, h1, h2, h3, hpost _ _ _ _ _ _ ⟨Cond.after_iff.mpr rfl, Cond.after_iff.mpr (eq_i res_at (Term.int_eval (1)) rfl), trivial⟩ ⟨hq.1, hq.2.1, (hq.2.2.sift fun y hy => Or.inr (N y hy)).mono (by decide) (by decide)⟩⟩
theorem main_1_1 : Claimed_1_1 := comes_1 fun _ _ _ _ _ _ h hF => ⟨h.1, hF⟩
theorem main_1_2 : Claimed_1_2 := comes_1 fun _ _ _ _ _ _ h hF => ⟨h.2.1, hF⟩
end Jvm.Pilot.@@N@@
namespace Jvm.Pilot.@@N@@
open Jvm Jvm.ClassFile Sem Op Lib Jvm.Free Jvm.Stand Jvm.Pilot.@@N@@.Jvm.D
/-! MADE BY PROGRAM (witnessworld.py) out of the Statement's table words and the real class files: 32 classes; the members and pool entries that the words name. The judged class is class 1, her method 2. -/
namespace start1
open Jvm.ClassFile
def u (s : String) : CpInfo := .utf8 (stringToUtf16 s)
/-- a pool by its gaps: so many unusable entries, then the entry; so many at the end -/
def gap : Nat → List CpInfo → List CpInfo
  | 0, r => r
  | n + 1, r => .unusable :: gap n r
def poolList (es : List (Nat × CpInfo)) (last : Nat) : List CpInfo := es.foldr (fun e r => gap e.1 (e.2 :: r)) (gap last [])
def pool (es : List (Nat × CpInfo)) (last : Nat) : Array CpInfo := ⟨poolList es last⟩
def fileOf (pool : Array CpInfo) (this : Nat) (attrs : Array Attribute := #[]) (ms : Array MethodInfo := #[]) (fl : Nat := 33) (sup : Nat := 0) (ifs : Array Nat := #[]) (fds : Array FieldInfo := #[]) : ClassFile where
  minorVersion := 0
  majorVersion := 65
  constantPool := pool
  accessFlags := fl
  thisClass := this
  superClass := sup
  interfaces := ifs
  fields := fds
  methods := ms
  attributes := attrs
def plain (name : String) (sup : Option ClassId) : Class where
  name := name
  kind := .ordinary
  loader := none
  accessFlags := 33
  super := sup
  interfaces := #[]
  cf := none
  fields := #[]
  methods := #[]
  instanceTypes := #[]
  staticTypes := #[]
  resolved := #[]
  callSites := []
  init := .initialized
  statics := none
  mirror := none

def pool0 : Array CpInfo := pool [(5, u "<init>"), (0, u "()V"), (1, .class_ 10), (1, u "java/lang/Object"), (0, u "getClass"), (0, u "()Ljava/lang/Class;")] 111

def k0c0 : Code := { maxStack := 0, maxLocals := 1, code := object_method_1_code, exceptionTable := #[], attributes := #[] }
def k0m0 : Method := { name := "<init>", desc := "()V", sig := { parameters := [], returnType := none }, accessFlags := 1, code := some k0c0 }
def k0m1 : Method := { name := "getClass", desc := "()Ljava/lang/Class;", sig := { parameters := [], returnType := some (.object "java/lang/Class") }, accessFlags := 273, code := none }
/-- java/lang/Object -/
def k0 : Class := { plain "java/lang/Object" none with
  accessFlags := 33
  interfaces := #[]
  cf := some (fileOf pool0 8 #[] #[{ accessFlags := 1, nameIndex := 5, descriptorIndex := 6, attributes := #[] }, { accessFlags := 273, nameIndex := 11, descriptorIndex := 12, attributes := #[] }] 33 0 #[] #[])
  fields := #[]
  methods := #[k0m0, k0m1]
  instanceTypes := #[]
  staticTypes := #[]
  resolved := Array.replicate 124 none
  statics := none }

def pool1 : Array CpInfo := pool [(2, .class_ 4), (0, .nameAndType 5 6), (0, u "java/lang/Object"), (0, u "<init>"), (0, u "()V"), (0, .methodref 8 9), (0, .class_ 10), (0, .nameAndType 11 12), (0, u "com/example/delvedeck/delvedeck/solo/SkillBoard"), (0, u "turnDown"), (0, u "(I)V"), (0, .methodref 8 14), (0, .nameAndType 15 16), (0, u "spend"), (0, u "(I)I"), (0, .class_ 18), (0, u "java/util/ArrayList"), (0, .methodref 17 3), (0, .fieldref 21 22), (0, .class_ 23), (0, .nameAndType 24 25), (0, u "com/example/delvedeck/delvedeck/solo/Skill"), (0, u "ATTACK"), (0, u "Lcom/example/delvedeck/delvedeck/solo/Skill;"), (0, .interfaceMethodref 27 28), (0, .class_ 29), (0, .nameAndType 30 31), (0, u "java/util/List"), (0, u "add"), (0, u "(Ljava/lang/Object;)Z"), (0, .fieldref 21 33), (0, .nameAndType 34 25), (0, u "QUEST"), (0, .fieldref 21 36), (0, .nameAndType 37 25), (0, u "REST"), (0, .methodref 8 39), (0, .nameAndType 5 40), (0, u "(Ljava/util/List;)V"), (0, .methodref 8 42), (0, .nameAndType 43 44), (0, u "charge"), (0, u "(II)V"), (0, .methodref 8 46), (0, .nameAndType 47 48), (0, u "charged"), (0, u "()I"), (0, .methodref 50 51), (0, .class_ 52), (0, .nameAndType 53 54), (0, u "com/example/delvedeck/delvedeck/solo/SkillBoardChargedPinLaw"), (0, u "remove"), (0, u "(Lcom/example/delvedeck/delvedeck/solo/SkillBoard;IZ)V"), (3, u "law"), (0, u "(IIIII)Z")] 2

def k1m0 : Method := { name := "<init>", desc := "()V", sig := { parameters := [], returnType := none }, accessFlags := 1, code := none }
def k1c1 : Code := { maxStack := 2, maxLocals := 3, code := method_2_code, exceptionTable := #[], attributes := #[] }
def k1m1 : Method := { name := "remove", desc := "(Lcom/example/delvedeck/delvedeck/solo/SkillBoard;IZ)V", sig := { parameters := [(.object "com/example/delvedeck/delvedeck/solo/SkillBoard"), .int, .boolean], returnType := none }, accessFlags := 10, code := some k1c1 }
def k1c2 : Code := { maxStack := 3, maxLocals := 17, code := code, exceptionTable := #[], attributes := #[] }
def k1m2 : Method := { name := "law", desc := "(IIIII)Z", sig := { parameters := [.int, .int, .int, .int, .int], returnType := some .boolean }, accessFlags := 9, code := some k1c2 }
/-- com/example/delvedeck/delvedeck/solo/SkillBoardChargedPinLaw -/
def k1 : Class := { plain "com/example/delvedeck/delvedeck/solo/SkillBoardChargedPinLaw" (some 0) with
  accessFlags := 49
  interfaces := #[]
  cf := some (fileOf pool1 50 #[] #[{ accessFlags := 1, nameIndex := 5, descriptorIndex := 6, attributes := #[] }, { accessFlags := 10, nameIndex := 53, descriptorIndex := 54, attributes := #[] }, { accessFlags := 9, nameIndex := 58, descriptorIndex := 59, attributes := #[] }] 49 2 #[] #[])
  fields := #[]
  methods := #[k1m0, k1m1, k1m2]
  instanceTypes := #[]
  staticTypes := #[]
  resolved := Array.replicate 62 none
  statics := none }

def pool2 : Array CpInfo := pool [(8, .class_ 10), (1, u "java/lang/Iterable"), (24, .class_ 36), (0, u "java/lang/Object")] 25

/-- java/lang/Iterable -/
def k2 : Class := { plain "java/lang/Iterable" (some 0) with
  accessFlags := 1537
  interfaces := #[]
  cf := some (fileOf pool2 8 #[] #[] 1537 35 #[] #[])
  fields := #[]
  methods := #[]
  instanceTypes := #[]
  staticTypes := #[]
  resolved := Array.replicate 62 none
  statics := none }

def pool3 : Array CpInfo := pool [(10, .class_ 12), (1, u "java/util/Collection"), (0, u "toArray"), (16, u "()Z"), (29, .class_ 61), (0, u "java/lang/Object"), (0, .class_ 63), (0, u "java/lang/Iterable"), (2, u "isEmpty"), (3, u "()[Ljava/lang/Object;")] 44

def k3m0 : Method := { name := "isEmpty", desc := "()Z", sig := { parameters := [], returnType := some .boolean }, accessFlags := 1025, code := none }
def k3m1 : Method := { name := "toArray", desc := "()[Ljava/lang/Object;", sig := { parameters := [], returnType := some (.array (.object "java/lang/Object")) }, accessFlags := 1025, code := none }
/-- java/util/Collection -/
def k3 : Class := { plain "java/util/Collection" (some 0) with
  accessFlags := 1537
  interfaces := #[2]
  cf := some (fileOf pool3 10 #[] #[{ accessFlags := 1025, nameIndex := 66, descriptorIndex := 30, attributes := #[] }, { accessFlags := 1025, nameIndex := 13, descriptorIndex := 70, attributes := #[] }] 1537 60 #[62] #[])
  fields := #[]
  methods := #[k3m0, k3m1]
  instanceTypes := #[]
  staticTypes := #[]
  resolved := Array.replicate 115 none
  statics := none }

def pool4 : Array CpInfo := pool [(1, .methodref 2 3), (0, .class_ 4), (0, .nameAndType 5 6), (0, u "java/lang/Object"), (0, u "<init>"), (0, u "()V"), (1, .class_ 10), (1, u "java/util/AbstractCollection"), (66, .class_ 78), (0, u "java/util/Collection")] 81

def k4c0 : Code := { maxStack := 1, maxLocals := 1, code := jdk_22_method_1_code, exceptionTable := #[], attributes := #[] }
def k4m0 : Method := { name := "<init>", desc := "()V", sig := { parameters := [], returnType := none }, accessFlags := 4, code := some k4c0 }
/-- java/util/AbstractCollection -/
def k4 : Class := { plain "java/util/AbstractCollection" (some 0) with
  accessFlags := 1057
  interfaces := #[3]
  cf := some (fileOf pool4 8 #[] #[{ accessFlags := 4, nameIndex := 5, descriptorIndex := 6, attributes := #[] }] 1057 2 #[77] #[])
  fields := #[]
  methods := #[k4m0]
  instanceTypes := #[]
  staticTypes := #[]
  resolved := Array.replicate 160 none
  statics := none }

def pool5 : Array CpInfo := pool [(8, .class_ 10), (1, u "java/util/SequencedCollection"), (15, .class_ 27), (0, u "java/lang/Object"), (0, .class_ 29), (0, u "java/util/Collection")] 27

/-- java/util/SequencedCollection -/
def k5 : Class := { plain "java/util/SequencedCollection" (some 0) with
  accessFlags := 1537
  interfaces := #[3]
  cf := some (fileOf pool5 8 #[] #[] 1537 26 #[28] #[])
  fields := #[]
  methods := #[]
  instanceTypes := #[]
  staticTypes := #[]
  resolved := Array.replicate 57 none
  statics := none }

def pool6 : Array CpInfo := pool [(8, .class_ 10), (1, u "java/util/List"), (20, u "(Ljava/lang/Object;)V"), (16, u "<init>"), (11, u "add"), (3, u "(Ljava/lang/Object;)Z"), (14, u "size"), (0, u "()I"), (7, u "of"), (1, .fieldref 91 92), (0, .class_ 93), (0, .nameAndType 94 95), (0, u "java/util/ImmutableCollections"), (0, u "EMPTY_LIST"), (0, u "Ljava/util/ImmutableCollections$ListN;"), (0, .class_ 97), (0, u "java/util/ImmutableCollections$List12"), (0, .methodref 96 99), (0, .nameAndType 48 31), (0, .methodref 96 101), (0, .nameAndType 48 102), (0, u "(Ljava/lang/Object;Ljava/lang/Object;)V"), (0, .class_ 104), (0, u "java/lang/Object"), (3, u "([Ljava/lang/Object;)Ljava/util/List;"), (0, .methodref 91 110), (0, .nameAndType 111 108), (0, u "listFromArray"), (0, .methodref 91 113), (0, .nameAndType 114 115), (0, u "listCopy"), (0, u "(Ljava/util/Collection;)Ljava/util/List;"), (3, u "()Ljava/util/List;"), (0, .class_ 121), (0, u "java/util/SequencedCollection"), (112, u "copyOf")] 16

def k6m0 : Method := { name := "size", desc := "()I", sig := { parameters := [], returnType := some .int }, accessFlags := 1025, code := none }
def k6m1 : Method := { name := "add", desc := "(Ljava/lang/Object;)Z", sig := { parameters := [(.object "java/lang/Object")], returnType := some .boolean }, accessFlags := 1025, code := none }
def k6c2 : Code := { maxStack := 1, maxLocals := 0, code := jdk_40_method_36_code, exceptionTable := #[], attributes := #[] }
def k6m2 : Method := { name := "of", desc := "()Ljava/util/List;", sig := { parameters := [], returnType := some (.object "java/util/List") }, accessFlags := 9, code := some k6c2 }
def k6c3 : Code := { maxStack := 5, maxLocals := 2, code := jdk_40_method_47_code, exceptionTable := #[], attributes := #[] }
def k6m3 : Method := { name := "of", desc := "([Ljava/lang/Object;)Ljava/util/List;", sig := { parameters := [(.array (.object "java/lang/Object"))], returnType := some (.object "java/util/List") }, accessFlags := 137, code := some k6c3 }
def k6c4 : Code := { maxStack := 1, maxLocals := 1, code := jdk_40_method_48_code, exceptionTable := #[], attributes := #[] }
def k6m4 : Method := { name := "copyOf", desc := "(Ljava/util/Collection;)Ljava/util/List;", sig := { parameters := [(.object "java/util/Collection")], returnType := some (.object "java/util/List") }, accessFlags := 9, code := some k6c4 }
/-- java/util/List -/
def k6 : Class := { plain "java/util/List" (some 0) with
  accessFlags := 1537
  interfaces := #[5]
  cf := some (fileOf pool6 8 #[] #[{ accessFlags := 1025, nameIndex := 79, descriptorIndex := 80, attributes := #[] }, { accessFlags := 1025, nameIndex := 60, descriptorIndex := 64, attributes := #[] }, { accessFlags := 9, nameIndex := 88, descriptorIndex := 119, attributes := #[] }, { accessFlags := 137, nameIndex := 88, descriptorIndex := 108, attributes := #[] }, { accessFlags := 9, nameIndex := 234, descriptorIndex := 115, attributes := #[] }] 1537 103 #[120] #[])
  fields := #[]
  methods := #[k6m0, k6m1, k6m2, k6m3, k6m4]
  instanceTypes := #[]
  staticTypes := #[]
  resolved := Array.replicate 251 none
  statics := none }

def pool7 : Array CpInfo := pool [(1, .methodref 2 3), (0, .class_ 4), (0, .nameAndType 5 6), (0, u "java/util/AbstractCollection"), (0, u "<init>"), (0, u "()V"), (0, .fieldref 8 9), (0, .class_ 10), (0, .nameAndType 11 12), (0, u "java/util/AbstractList"), (0, u "modCount"), (0, u "I"), (64, .class_ 78), (0, u "java/util/AbstractList$Itr"), (3, .class_ 83), (0, u "java/util/AbstractList$ListItr"), (9, .class_ 94), (0, u "java/util/AbstractList$RandomAccessSubList"), (3, .class_ 99), (0, u "java/util/AbstractList$SubList"), (33, .class_ 134), (0, u "java/util/List"), (73, .class_ 209), (0, u "java/util/AbstractList$SubList$1"), (0, .class_ 211), (0, u "java/util/AbstractList$RandomAccessSpliterator")] 6

def k7c0 : Code := { maxStack := 2, maxLocals := 1, code := jdk_39_method_1_code, exceptionTable := #[], attributes := #[] }
def k7m0 : Method := { name := "<init>", desc := "()V", sig := { parameters := [], returnType := none }, accessFlags := 4, code := some k7c0 }
/-- java/util/AbstractList -/
def k7 : Class := { plain "java/util/AbstractList" (some 4) with
  accessFlags := 1057
  interfaces := #[6]
  cf := some (fileOf pool7 8 #[.nestMembers #[93, 98, 208, 210, 82, 77]] #[{ accessFlags := 4, nameIndex := 5, descriptorIndex := 6, attributes := #[] }] 1057 2 #[133] #[{ accessFlags := 132, nameIndex := 11, descriptorIndex := 12, attributes := #[] }])
  fields := #[{ name := "modCount", type := .int, accessFlags := 132, slot := 0, constantValue := 0 }]
  methods := #[k7m0]
  instanceTypes := #[.int]
  staticTypes := #[]
  resolved := Array.replicate 218 none
  statics := none }

def pool8 : Array CpInfo := pool [(1, .class_ 2), (0, u "java/util/RandomAccess"), (0, .class_ 4), (0, u "java/lang/Object")] 2

/-- java/util/RandomAccess -/
def k8 : Class := { plain "java/util/RandomAccess" (some 0) with
  accessFlags := 1537
  interfaces := #[]
  cf := some (fileOf pool8 1 #[] #[] 1537 3 #[] #[])
  fields := #[]
  methods := #[]
  instanceTypes := #[]
  staticTypes := #[]
  resolved := Array.replicate 7 none
  statics := none }

def pool9 : Array CpInfo := pool [(1, .class_ 2), (0, u "java/lang/Cloneable"), (0, .class_ 4), (0, u "java/lang/Object")] 2

/-- java/lang/Cloneable -/
def k9 : Class := { plain "java/lang/Cloneable" (some 0) with
  accessFlags := 1537
  interfaces := #[]
  cf := some (fileOf pool9 1 #[] #[] 1537 3 #[] #[])
  fields := #[]
  methods := #[]
  instanceTypes := #[]
  staticTypes := #[]
  resolved := Array.replicate 7 none
  statics := none }

def pool10 : Array CpInfo := pool [(1, .class_ 2), (0, u "java/io/Serializable"), (0, .class_ 4), (0, u "java/lang/Object")] 2

/-- java/io/Serializable -/
def k10 : Class := { plain "java/io/Serializable" (some 0) with
  accessFlags := 1537
  interfaces := #[]
  cf := some (fileOf pool10 1 #[] #[] 1537 3 #[] #[])
  fields := #[]
  methods := #[]
  instanceTypes := #[]
  staticTypes := #[]
  resolved := Array.replicate 7 none
  statics := none }

def pool11 : Array CpInfo := pool [(1, .methodref 2 3), (0, .class_ 4), (0, .nameAndType 5 6), (0, u "java/util/AbstractList"), (0, u "<init>"), (0, u "()V"), (0, .class_ 8), (0, u "java/lang/Object"), (0, .fieldref 10 11), (0, .class_ 12), (0, .nameAndType 13 14), (0, u "java/util/ArrayList"), (0, u "elementData"), (0, u "[Ljava/lang/Object;"), (2, u "EMPTY_ELEMENTDATA"), (21, .fieldref 10 40), (0, .nameAndType 41 14), (0, u "DEFAULTCAPACITY_EMPTY_ELEMENTDATA"), (4, u "toArray"), (0, u "()[Ljava/lang/Object;"), (0, .fieldref 10 49), (0, .nameAndType 50 51), (0, u "size"), (0, u "I"), (6, .class_ 60), (1, u "java/util/Arrays"), (0, u "copyOf"), (1, .fieldref 10 64), (0, .nameAndType 65 51), (0, u "modCount"), (0, .methodref 58 67), (0, .nameAndType 61 68), (0, u "([Ljava/lang/Object;I)[Ljava/lang/Object;"), (0, .methodref 10 70), (0, .nameAndType 71 72), (0, u "grow"), (0, u "(I)[Ljava/lang/Object;"), (6, .methodref 80 81), (0, .class_ 82), (0, .nameAndType 83 84), (0, u "java/lang/Math"), (0, u "max"), (0, u "(II)I"), (11, u "(Ljava/lang/Object;)Z"), (32, .methodref 10 130), (0, .nameAndType 71 47), (0, .methodref 10 132), (0, .nameAndType 133 134), (0, u "add"), (0, u "(Ljava/lang/Object;[Ljava/lang/Object;I)V"), (13, .class_ 149), (0, u "java/util/List"), (23, u "()Z"), (12, u "()I"), (75, .class_ 263), (0, u "java/util/ArrayList$ListItr"), (3, .class_ 268), (0, u "java/util/ArrayList$Itr"), (7, .class_ 277), (0, u "java/util/ArrayList$SubList"), (12, .class_ 291), (0, u "java/util/ArrayList$ArrayListSpliterator"), (37, .class_ 330), (0, u "java/util/RandomAccess"), (0, .class_ 332), (0, u "java/lang/Cloneable"), (0, .class_ 334), (0, u "java/io/Serializable"), (0, u "serialVersionUID"), (0, u "J"), (3, u "DEFAULT_CAPACITY"), (22, u "isEmpty"), (136, .class_ 501), (0, u "java/util/ArrayList$SubList$2"), (0, .class_ 503), (0, u "java/util/ArrayList$SubList$1")] 5

def k11c0 : Code := { maxStack := 2, maxLocals := 1, code := jdk_38_method_2_code, exceptionTable := #[], attributes := #[] }
def k11m0 : Method := { name := "<init>", desc := "()V", sig := { parameters := [], returnType := none }, accessFlags := 1, code := some k11c0 }
def k11c1 : Code := { maxStack := 4, maxLocals := 4, code := jdk_38_method_6_code, exceptionTable := #[], attributes := #[] }
def k11m1 : Method := { name := "grow", desc := "(I)[Ljava/lang/Object;", sig := { parameters := [.int], returnType := some (.array (.object "java/lang/Object")) }, accessFlags := 2, code := some k11c1 }
def k11c2 : Code := { maxStack := 3, maxLocals := 1, code := jdk_38_method_7_code, exceptionTable := #[], attributes := #[] }
def k11m2 : Method := { name := "grow", desc := "()[Ljava/lang/Object;", sig := { parameters := [], returnType := some (.array (.object "java/lang/Object")) }, accessFlags := 2, code := some k11c2 }
def k11c3 : Code := { maxStack := 1, maxLocals := 1, code := jdk_38_method_8_code, exceptionTable := #[], attributes := #[] }
def k11m3 : Method := { name := "size", desc := "()I", sig := { parameters := [], returnType := some .int }, accessFlags := 1, code := some k11c3 }
def k11c4 : Code := { maxStack := 1, maxLocals := 1, code := jdk_38_method_9_code, exceptionTable := #[], attributes := #[] }
def k11m4 : Method := { name := "isEmpty", desc := "()Z", sig := { parameters := [], returnType := some .boolean }, accessFlags := 1, code := some k11c4 }
def k11c5 : Code := { maxStack := 2, maxLocals := 1, code := jdk_38_method_16_code, exceptionTable := #[], attributes := #[] }
def k11m5 : Method := { name := "toArray", desc := "()[Ljava/lang/Object;", sig := { parameters := [], returnType := some (.array (.object "java/lang/Object")) }, accessFlags := 1, code := some k11c5 }
def k11c6 : Code := { maxStack := 3, maxLocals := 4, code := jdk_38_method_24_code, exceptionTable := #[], attributes := #[] }
def k11m6 : Method := { name := "add", desc := "(Ljava/lang/Object;[Ljava/lang/Object;I)V", sig := { parameters := [(.object "java/lang/Object"), (.array (.object "java/lang/Object")), .int], returnType := none }, accessFlags := 2, code := some k11c6 }
def k11c7 : Code := { maxStack := 4, maxLocals := 2, code := jdk_38_method_25_code, exceptionTable := #[], attributes := #[] }
def k11m7 : Method := { name := "add", desc := "(Ljava/lang/Object;)Z", sig := { parameters := [(.object "java/lang/Object")], returnType := some .boolean }, accessFlags := 1, code := some k11c7 }
/-- java/util/ArrayList -/
def k11 : Class := { plain "java/util/ArrayList" (some 7) with
  accessFlags := 33
  interfaces := #[6, 8, 9, 10]
  cf := some (fileOf pool11 10 #[.nestMembers #[290, 276, 500, 502, 262, 267]] #[{ accessFlags := 1, nameIndex := 5, descriptorIndex := 6, attributes := #[] }, { accessFlags := 2, nameIndex := 71, descriptorIndex := 72, attributes := #[] }, { accessFlags := 2, nameIndex := 71, descriptorIndex := 47, attributes := #[] }, { accessFlags := 1, nameIndex := 50, descriptorIndex := 186, attributes := #[] }, { accessFlags := 1, nameIndex := 363, descriptorIndex := 173, attributes := #[] }, { accessFlags := 1, nameIndex := 46, descriptorIndex := 47, attributes := #[] }, { accessFlags := 2, nameIndex := 133, descriptorIndex := 134, attributes := #[] }, { accessFlags := 1, nameIndex := 133, descriptorIndex := 96, attributes := #[] }] 33 2 #[148, 329, 331, 333] #[{ accessFlags := 26, nameIndex := 335, descriptorIndex := 336, attributes := #[] }, { accessFlags := 26, nameIndex := 340, descriptorIndex := 51, attributes := #[] }, { accessFlags := 26, nameIndex := 17, descriptorIndex := 14, attributes := #[] }, { accessFlags := 26, nameIndex := 41, descriptorIndex := 14, attributes := #[] }, { accessFlags := 128, nameIndex := 13, descriptorIndex := 14, attributes := #[] }, { accessFlags := 2, nameIndex := 50, descriptorIndex := 51, attributes := #[] }])
  fields := #[{ name := "serialVersionUID", type := .long, accessFlags := 26, slot := 0, constantValue := 0 }, { name := "DEFAULT_CAPACITY", type := .int, accessFlags := 26, slot := 1, constantValue := 0 }, { name := "EMPTY_ELEMENTDATA", type := (.array (.object "java/lang/Object")), accessFlags := 26, slot := 2, constantValue := 0 }, { name := "DEFAULTCAPACITY_EMPTY_ELEMENTDATA", type := (.array (.object "java/lang/Object")), accessFlags := 26, slot := 3, constantValue := 0 }, { name := "elementData", type := (.array (.object "java/lang/Object")), accessFlags := 128, slot := 1, constantValue := 0 }, { name := "size", type := .int, accessFlags := 2, slot := 2, constantValue := 0 }]
  methods := #[k11m0, k11m1, k11m2, k11m3, k11m4, k11m5, k11m6, k11m7]
  instanceTypes := #[.int, (.array (.object "java/lang/Object")), .int]
  staticTypes := #[.long, .int, (.array (.object "java/lang/Object")), (.array (.object "java/lang/Object"))]
  resolved := Array.replicate 509 none
  statics := some 0 }

def pool12 : Array CpInfo := pool [(1, .methodref 2 3), (0, .class_ 4), (0, .nameAndType 5 6), (0, u "java/lang/Object"), (0, u "<init>"), (0, u "()V"), (0, .interfaceMethodref 8 9), (0, .class_ 10), (0, .nameAndType 11 12), (0, u "java/util/List"), (0, u "copyOf"), (0, u "(Ljava/util/Collection;)Ljava/util/List;"), (0, .fieldref 14 15), (0, .class_ 16), (0, .nameAndType 17 18), (0, u "com/example/delvedeck/delvedeck/solo/SkillBoard"), (0, u "skills"), (0, u "Ljava/util/List;"), (0, .interfaceMethodref 8 20), (0, .nameAndType 21 22), (0, u "size"), (0, u "()I"), (0, .fieldref 14 24), (0, .nameAndType 25 26), (0, u "faceDown"), (0, u "[Z"), (0, .fieldref 14 28), (0, .nameAndType 29 30), (0, u "charges"), (0, u "[I"), (0, .fieldref 14 32), (0, .nameAndType 33 26), (0, u "performed"), (57, u "NO_CHARGE"), (0, u "I"), (4, u "(Ljava/util/List;)V"), (9, u "turnDown"), (0, u "(I)V"), (1, u "charge"), (0, u "(I)I"), (0, u "(II)V"), (0, u "spend"), (0, u "charged")] 23

def k12c0 : Code := { maxStack := 2, maxLocals := 2, code := prog_37_method_1_code, exceptionTable := #[], attributes := #[] }
def k12m0 : Method := { name := "<init>", desc := "(Ljava/util/List;)V", sig := { parameters := [(.object "java/util/List")], returnType := none }, accessFlags := 0, code := some k12c0 }
def k12c1 : Code := { maxStack := 3, maxLocals := 2, code := prog_37_method_8_code, exceptionTable := #[], attributes := #[] }
def k12m1 : Method := { name := "turnDown", desc := "(I)V", sig := { parameters := [.int], returnType := none }, accessFlags := 0, code := some k12c1 }
def k12c2 : Code := { maxStack := 3, maxLocals := 3, code := prog_37_method_11_code, exceptionTable := #[], attributes := #[] }
def k12m2 : Method := { name := "charge", desc := "(II)V", sig := { parameters := [.int, .int], returnType := none }, accessFlags := 0, code := some k12c2 }
def k12c3 : Code := { maxStack := 3, maxLocals := 3, code := prog_37_method_12_code, exceptionTable := #[], attributes := #[] }
def k12m3 : Method := { name := "spend", desc := "(I)I", sig := { parameters := [.int], returnType := some .int }, accessFlags := 0, code := some k12c3 }
def k12c4 : Code := { maxStack := 2, maxLocals := 6, code := prog_37_method_13_code, exceptionTable := #[], attributes := #[] }
def k12m4 : Method := { name := "charged", desc := "()I", sig := { parameters := [], returnType := some .int }, accessFlags := 0, code := some k12c4 }
/-- com/example/delvedeck/delvedeck/solo/SkillBoard -/
def k12 : Class := { plain "com/example/delvedeck/delvedeck/solo/SkillBoard" (some 0) with
  accessFlags := 48
  interfaces := #[]
  cf := some (fileOf pool12 14 #[] #[{ accessFlags := 0, nameIndex := 5, descriptorIndex := 97, attributes := #[] }, { accessFlags := 0, nameIndex := 107, descriptorIndex := 108, attributes := #[] }, { accessFlags := 0, nameIndex := 110, descriptorIndex := 112, attributes := #[] }, { accessFlags := 0, nameIndex := 113, descriptorIndex := 111, attributes := #[] }, { accessFlags := 0, nameIndex := 114, descriptorIndex := 22, attributes := #[] }] 48 2 #[] #[{ accessFlags := 24, nameIndex := 91, descriptorIndex := 92, attributes := #[] }, { accessFlags := 18, nameIndex := 17, descriptorIndex := 18, attributes := #[] }, { accessFlags := 18, nameIndex := 25, descriptorIndex := 26, attributes := #[] }, { accessFlags := 18, nameIndex := 29, descriptorIndex := 30, attributes := #[] }, { accessFlags := 18, nameIndex := 33, descriptorIndex := 26, attributes := #[] }])
  fields := #[{ name := "NO_CHARGE", type := .int, accessFlags := 24, slot := 0, constantValue := 0 }, { name := "skills", type := (.object "java/util/List"), accessFlags := 18, slot := 0, constantValue := 0 }, { name := "faceDown", type := (.array .boolean), accessFlags := 18, slot := 1, constantValue := 0 }, { name := "charges", type := (.array .int), accessFlags := 18, slot := 2, constantValue := 0 }, { name := "performed", type := (.array .boolean), accessFlags := 18, slot := 3, constantValue := 0 }]
  methods := #[k12m0, k12m1, k12m2, k12m3, k12m4]
  instanceTypes := #[(.object "java/util/List"), (.array .boolean), (.array .int), (.array .boolean)]
  staticTypes := #[.int]
  resolved := Array.replicate 138 none
  statics := none }

def pool13 : Array CpInfo := pool [(2, .class_ 4), (1, u "java/lang/Object"), (0, u "<init>"), (0, u "()V"), (3, .class_ 11), (0, u "java/util/ImmutableCollections$List12"), (0, .class_ 13), (0, u "java/util/ImmutableCollections$ListN"), (3, u "Z"), (0, .class_ 19), (0, u "java/util/List"), (0, .interfaceMethodref 21 22), (0, .class_ 23), (0, .nameAndType 24 25), (0, u "java/util/Collection"), (0, u "isEmpty"), (0, u "()Z"), (0, .interfaceMethodref 18 27), (0, .nameAndType 28 29), (0, u "of"), (0, u "()Ljava/util/List;"), (0, .interfaceMethodref 21 31), (0, .nameAndType 32 33), (0, u "toArray"), (0, u "()[Ljava/lang/Object;"), (0, .interfaceMethodref 18 35), (0, .nameAndType 28 36), (0, u "([Ljava/lang/Object;)Ljava/util/List;"), (0, .methodref 38 39), (0, .class_ 40), (0, .nameAndType 41 42), (0, u "java/util/Objects"), (0, u "requireNonNull"), (0, u "(Ljava/lang/Object;)Ljava/lang/Object;"), (0, .methodref 12 44), (0, .nameAndType 5 45), (0, u "([Ljava/lang/Object;Z)V"), (1, .class_ 49), (1, u "java/util/ImmutableCollections"), (0, u "$assertionsDisabled"), (5, u "[Ljava/lang/Object;"), (5, u "EMPTY_LIST"), (0, u "Ljava/util/ImmutableCollections$ListN;"), (8, u "EMPTY_LIST_NULLS"), (22, u "SALT32L"), (0, u "J"), (2, u "REVERSE"), (6, u "archivedObjects"), (2, u "EMPTY"), (0, u "Ljava/lang/Object;"), (0, .class_ 112), (0, u "java/util/ImmutableCollections$SetN"), (5, u "EMPTY_SET"), (0, u "Ljava/util/ImmutableCollections$SetN;"), (0, .class_ 121), (0, u "java/util/ImmutableCollections$MapN"), (3, u "EMPTY_MAP"), (0, u "Ljava/util/ImmutableCollections$MapN;"), (4, u "EXPAND_FACTOR"), (0, u "I"), (9, u "listCopy"), (0, u "(Ljava/util/Collection;)Ljava/util/List;"), (7, u "listFromArray"), (17, .class_ 170), (0, u "java/util/ImmutableCollections$MapN$MapNIterator"), (0, .class_ 172), (0, u "java/util/ImmutableCollections$MapN$1"), (0, .class_ 174), (0, u "java/util/ImmutableCollections$Map1"), (0, .class_ 176), (0, u "java/util/ImmutableCollections$AbstractImmutableMap"), (0, .class_ 178), (0, u "java/util/ImmutableCollections$SetN$SetNIterator"), (0, .class_ 180), (0, u "java/util/ImmutableCollections$Set12"), (0, .class_ 182), (0, u "java/util/ImmutableCollections$Set12$1"), (0, .class_ 184), (0, u "java/util/ImmutableCollections$AbstractImmutableSet"), (0, .class_ 186), (0, u "java/util/ImmutableCollections$SubList"), (0, .class_ 188), (0, u "java/util/ImmutableCollections$ListItr"), (0, .class_ 190), (0, u "java/util/ImmutableCollections$AbstractImmutableList"), (0, .class_ 192), (0, u "java/util/ImmutableCollections$AbstractImmutableCollection"), (0, .class_ 194), (0, u "java/util/ImmutableCollections$Access"), (0, .class_ 196), (0, u "java/util/ImmutableCollections$Access$1")] 16

def k13m0 : Method := { name := "<init>", desc := "()V", sig := { parameters := [], returnType := none }, accessFlags := 2, code := none }
def k13c1 : Code := { maxStack := 1, maxLocals := 2, code := jdk_56_method_3_code, exceptionTable := #[], attributes := #[] }
def k13m1 : Method := { name := "listCopy", desc := "(Ljava/util/Collection;)Ljava/util/List;", sig := { parameters := [(.object "java/util/Collection")], returnType := some (.object "java/util/List") }, accessFlags := 8, code := some k13c1 }
def k13c2 : Code := { maxStack := 4, maxLocals := 3, code := jdk_56_method_4_code, exceptionTable := #[], attributes := #[] }
def k13m2 : Method := { name := "listFromArray", desc := "([Ljava/lang/Object;)Ljava/util/List;", sig := { parameters := [(.array (.object "java/lang/Object"))], returnType := some (.object "java/util/List") }, accessFlags := 136, code := some k13c2 }
/-- java/util/ImmutableCollections -/
def k13 : Class := { plain "java/util/ImmutableCollections" (some 0) with
  accessFlags := 32
  interfaces := #[]
  cf := some (fileOf pool13 47 #[.nestMembers #[120, 169, 171, 173, 175, 111, 177, 179, 181, 183, 12, 10, 185, 187, 189, 191, 193, 195]] #[{ accessFlags := 2, nameIndex := 5, descriptorIndex := 6, attributes := #[] }, { accessFlags := 8, nameIndex := 142, descriptorIndex := 143, attributes := #[] }, { accessFlags := 136, nameIndex := 151, descriptorIndex := 36, attributes := #[] }] 32 2 #[] #[{ accessFlags := 26, nameIndex := 95, descriptorIndex := 96, attributes := #[] }, { accessFlags := 26, nameIndex := 99, descriptorIndex := 17, attributes := #[] }, { accessFlags := 10, nameIndex := 106, descriptorIndex := 56, attributes := #[] }, { accessFlags := 26, nameIndex := 109, descriptorIndex := 110, attributes := #[] }, { accessFlags := 24, nameIndex := 62, descriptorIndex := 63, attributes := #[] }, { accessFlags := 24, nameIndex := 72, descriptorIndex := 63, attributes := #[] }, { accessFlags := 24, nameIndex := 118, descriptorIndex := 119, attributes := #[] }, { accessFlags := 24, nameIndex := 125, descriptorIndex := 126, attributes := #[] }, { accessFlags := 24, nameIndex := 131, descriptorIndex := 132, attributes := #[] }, { accessFlags := 4120, nameIndex := 50, descriptorIndex := 17, attributes := #[] }])
  fields := #[{ name := "SALT32L", type := .long, accessFlags := 26, slot := 0, constantValue := 0 }, { name := "REVERSE", type := .boolean, accessFlags := 26, slot := 1, constantValue := 0 }, { name := "archivedObjects", type := (.array (.object "java/lang/Object")), accessFlags := 10, slot := 2, constantValue := 0 }, { name := "EMPTY", type := (.object "java/lang/Object"), accessFlags := 26, slot := 3, constantValue := 0 }, { name := "EMPTY_LIST", type := (.object "java/util/ImmutableCollections$ListN"), accessFlags := 24, slot := 4, constantValue := 0 }, { name := "EMPTY_LIST_NULLS", type := (.object "java/util/ImmutableCollections$ListN"), accessFlags := 24, slot := 5, constantValue := 0 }, { name := "EMPTY_SET", type := (.object "java/util/ImmutableCollections$SetN"), accessFlags := 24, slot := 6, constantValue := 0 }, { name := "EMPTY_MAP", type := (.object "java/util/ImmutableCollections$MapN"), accessFlags := 24, slot := 7, constantValue := 0 }, { name := "EXPAND_FACTOR", type := .int, accessFlags := 24, slot := 8, constantValue := 0 }, { name := "$assertionsDisabled", type := .boolean, accessFlags := 4120, slot := 9, constantValue := 0 }]
  methods := #[k13m0, k13m1, k13m2]
  instanceTypes := #[]
  staticTypes := #[.long, .boolean, (.array (.object "java/lang/Object")), (.object "java/lang/Object"), (.object "java/util/ImmutableCollections$ListN"), (.object "java/util/ImmutableCollections$ListN"), (.object "java/util/ImmutableCollections$SetN"), (.object "java/util/ImmutableCollections$MapN"), .int, .boolean]
  resolved := Array.replicate 213 none
  statics := some 1 }

def pool14 : Array CpInfo := pool [(1, .methodref 2 3), (0, .class_ 4), (0, .nameAndType 5 6), (0, u "java/util/AbstractCollection"), (0, u "<init>"), (0, u "()V"), (1, .class_ 10), (1, u "java/util/ImmutableCollections"), (2, .class_ 14), (0, u "java/util/ImmutableCollections$AbstractImmutableCollection")] 41

def k14c0 : Code := { maxStack := 1, maxLocals := 1, code := jdk_47_method_1_code, exceptionTable := #[], attributes := #[] }
def k14m0 : Method := { name := "<init>", desc := "()V", sig := { parameters := [], returnType := none }, accessFlags := 0, code := some k14c0 }
/-- java/util/ImmutableCollections$AbstractImmutableCollection -/
def k14 : Class := { plain "java/util/ImmutableCollections$AbstractImmutableCollection" (some 4) with
  accessFlags := 1056
  interfaces := #[]
  cf := some (fileOf pool14 13 #[.nestHost 8] #[{ accessFlags := 0, nameIndex := 5, descriptorIndex := 6, attributes := #[] }] 1056 2 #[] #[])
  fields := #[]
  methods := #[k14m0]
  instanceTypes := #[]
  staticTypes := #[]
  resolved := Array.replicate 56 none
  statics := none }

def pool15 : Array CpInfo := pool [(1, .methodref 2 3), (0, .class_ 4), (0, .nameAndType 5 6), (0, u "java/util/ImmutableCollections$AbstractImmutableCollection"), (0, u "<init>"), (0, u "()V"), (1, .class_ 10), (1, u "java/util/ImmutableCollections"), (3, .class_ 16), (1, u "java/util/ImmutableCollections$AbstractImmutableList"), (60, .class_ 78), (0, u "java/util/List"), (45, .class_ 125), (0, u "java/util/RandomAccess")] 70

def k15c0 : Code := { maxStack := 1, maxLocals := 1, code := jdk_46_method_1_code, exceptionTable := #[], attributes := #[] }
def k15m0 : Method := { name := "<init>", desc := "()V", sig := { parameters := [], returnType := none }, accessFlags := 0, code := some k15c0 }
/-- java/util/ImmutableCollections$AbstractImmutableList -/
def k15 : Class := { plain "java/util/ImmutableCollections$AbstractImmutableList" (some 14) with
  accessFlags := 1056
  interfaces := #[6, 8]
  cf := some (fileOf pool15 14 #[.nestHost 8] #[{ accessFlags := 0, nameIndex := 5, descriptorIndex := 6, attributes := #[] }] 1056 2 #[77, 124] #[])
  fields := #[]
  methods := #[k15m0]
  instanceTypes := #[]
  staticTypes := #[]
  resolved := Array.replicate 196 none
  statics := none }

def pool16 : Array CpInfo := pool [(1, .methodref 2 3), (0, .class_ 4), (0, .nameAndType 5 6), (0, u "java/util/ImmutableCollections$AbstractImmutableList"), (0, u "<init>"), (0, u "()V"), (0, .methodref 8 9), (0, .class_ 10), (0, .nameAndType 11 12), (0, u "java/util/Objects"), (0, u "requireNonNull"), (0, u "(Ljava/lang/Object;)Ljava/lang/Object;"), (0, .fieldref 14 15), (0, .class_ 16), (0, .nameAndType 17 18), (0, u "java/util/ImmutableCollections$List12"), (0, u "e0"), (0, u "Ljava/lang/Object;"), (0, .fieldref 20 21), (0, .class_ 22), (0, .nameAndType 23 18), (0, u "java/util/ImmutableCollections"), (0, u "EMPTY"), (0, .fieldref 14 25), (0, .nameAndType 26 18), (0, u "e1"), (43, .class_ 71), (0, u "java/io/Serializable"), (4, u "(Ljava/lang/Object;)V"), (8, u "(Ljava/lang/Object;Ljava/lang/Object;)V")] 39

def k16c0 : Code := { maxStack := 2, maxLocals := 2, code := jdk_44_method_1_code, exceptionTable := #[], attributes := #[] }
def k16m0 : Method := { name := "<init>", desc := "(Ljava/lang/Object;)V", sig := { parameters := [(.object "java/lang/Object")], returnType := none }, accessFlags := 0, code := some k16c0 }
def k16c1 : Code := { maxStack := 2, maxLocals := 3, code := jdk_44_method_2_code, exceptionTable := #[], attributes := #[] }
def k16m1 : Method := { name := "<init>", desc := "(Ljava/lang/Object;Ljava/lang/Object;)V", sig := { parameters := [(.object "java/lang/Object"), (.object "java/lang/Object")], returnType := none }, accessFlags := 0, code := some k16c1 }
/-- java/util/ImmutableCollections$List12 -/
def k16 : Class := { plain "java/util/ImmutableCollections$List12" (some 15) with
  accessFlags := 48
  interfaces := #[10]
  cf := some (fileOf pool16 14 #[.nestHost 20] #[{ accessFlags := 0, nameIndex := 5, descriptorIndex := 76, attributes := #[] }, { accessFlags := 0, nameIndex := 5, descriptorIndex := 85, attributes := #[] }] 48 2 #[70] #[{ accessFlags := 18, nameIndex := 17, descriptorIndex := 18, attributes := #[] }, { accessFlags := 18, nameIndex := 26, descriptorIndex := 18, attributes := #[] }])
  fields := #[{ name := "e0", type := (.object "java/lang/Object"), accessFlags := 18, slot := 0, constantValue := 0 }, { name := "e1", type := (.object "java/lang/Object"), accessFlags := 18, slot := 1, constantValue := 0 }]
  methods := #[k16m0, k16m1]
  instanceTypes := #[(.object "java/lang/Object"), (.object "java/lang/Object")]
  staticTypes := #[]
  resolved := Array.replicate 125 none
  statics := none }

def pool17 : Array CpInfo := pool [(1, .methodref 2 3), (0, .class_ 4), (0, .nameAndType 5 6), (0, u "java/util/ImmutableCollections$AbstractImmutableList"), (0, u "<init>"), (0, u "()V"), (0, .fieldref 8 9), (0, .class_ 10), (0, .nameAndType 11 12), (0, u "java/util/ImmutableCollections$ListN"), (0, u "elements"), (0, u "[Ljava/lang/Object;"), (0, .fieldref 8 14), (0, .nameAndType 15 16), (0, u "allowNulls"), (0, u "Z"), (42, .class_ 60), (0, u "java/io/Serializable"), (4, u "([Ljava/lang/Object;Z)V"), (48, .class_ 115), (0, u "java/util/ImmutableCollections")] 3

def k17c0 : Code := { maxStack := 2, maxLocals := 3, code := jdk_45_method_1_code, exceptionTable := #[], attributes := #[] }
def k17m0 : Method := { name := "<init>", desc := "([Ljava/lang/Object;Z)V", sig := { parameters := [(.array (.object "java/lang/Object")), .boolean], returnType := none }, accessFlags := 2, code := some k17c0 }
/-- java/util/ImmutableCollections$ListN -/
def k17 : Class := { plain "java/util/ImmutableCollections$ListN" (some 15) with
  accessFlags := 48
  interfaces := #[10]
  cf := some (fileOf pool17 8 #[.nestHost 114] #[{ accessFlags := 2, nameIndex := 5, descriptorIndex := 65, attributes := #[] }] 48 2 #[59] #[{ accessFlags := 18, nameIndex := 11, descriptorIndex := 12, attributes := #[] }, { accessFlags := 18, nameIndex := 15, descriptorIndex := 16, attributes := #[] }])
  fields := #[{ name := "elements", type := (.array (.object "java/lang/Object")), accessFlags := 18, slot := 0, constantValue := 0 }, { name := "allowNulls", type := .boolean, accessFlags := 18, slot := 1, constantValue := 0 }]
  methods := #[k17m0]
  instanceTypes := #[(.array (.object "java/lang/Object")), .boolean]
  staticTypes := #[]
  resolved := Array.replicate 119 none
  statics := none }

def pool18 : Array CpInfo := pool [(2, .class_ 4), (1, u "java/lang/Object"), (0, u "<init>"), (0, u "()V"), (0, .class_ 8), (0, u "java/lang/Record")] 13

def k18m0 : Method := { name := "<init>", desc := "()V", sig := { parameters := [], returnType := none }, accessFlags := 4, code := none }
/-- java/lang/Record -/
def k18 : Class := { plain "java/lang/Record" (some 0) with
  accessFlags := 1057
  interfaces := #[]
  cf := some (fileOf pool18 7 #[] #[{ accessFlags := 4, nameIndex := 5, descriptorIndex := 6, attributes := #[] }] 1057 2 #[] #[])
  fields := #[]
  methods := #[k18m0]
  instanceTypes := #[]
  staticTypes := #[]
  resolved := Array.replicate 22 none
  statics := none }

def pool19 : Array CpInfo := pool [(2, .class_ 4), (1, u "java/lang/Record"), (9, .class_ 16), (1, u "com/example/delvedeck/delvedeck/solo/Skill"), (0, u "id"), (0, u "Ljava/lang/String;"), (2, u "actions"), (0, u "Ljava/util/List;"), (43, u "ATTACK"), (9, u "Lcom/example/delvedeck/delvedeck/solo/Skill;"), (4, u "QUEST"), (6, u "ESCAPE"), (6, u "REST"), (7, u "BASIC")] 37

/-- com/example/delvedeck/delvedeck/solo/Skill -/
def k19 : Class := { plain "com/example/delvedeck/delvedeck/solo/Skill" (some 18) with
  accessFlags := 49
  interfaces := #[]
  cf := some (fileOf pool19 14 #[] #[] 49 2 #[] #[{ accessFlags := 18, nameIndex := 17, descriptorIndex := 18, attributes := #[] }, { accessFlags := 18, nameIndex := 21, descriptorIndex := 22, attributes := #[] }, { accessFlags := 25, nameIndex := 66, descriptorIndex := 76, attributes := #[] }, { accessFlags := 25, nameIndex := 81, descriptorIndex := 76, attributes := #[] }, { accessFlags := 25, nameIndex := 88, descriptorIndex := 76, attributes := #[] }, { accessFlags := 25, nameIndex := 95, descriptorIndex := 76, attributes := #[] }, { accessFlags := 25, nameIndex := 103, descriptorIndex := 22, attributes := #[] }])
  fields := #[{ name := "id", type := (.object "java/lang/String"), accessFlags := 18, slot := 0, constantValue := 0 }, { name := "actions", type := (.object "java/util/List"), accessFlags := 18, slot := 1, constantValue := 0 }, { name := "ATTACK", type := (.object "com/example/delvedeck/delvedeck/solo/Skill"), accessFlags := 25, slot := 0, constantValue := 0 }, { name := "QUEST", type := (.object "com/example/delvedeck/delvedeck/solo/Skill"), accessFlags := 25, slot := 1, constantValue := 0 }, { name := "ESCAPE", type := (.object "com/example/delvedeck/delvedeck/solo/Skill"), accessFlags := 25, slot := 2, constantValue := 0 }, { name := "REST", type := (.object "com/example/delvedeck/delvedeck/solo/Skill"), accessFlags := 25, slot := 3, constantValue := 0 }, { name := "BASIC", type := (.object "java/util/List"), accessFlags := 25, slot := 4, constantValue := 0 }]
  methods := #[]
  instanceTypes := #[(.object "java/lang/String"), (.object "java/util/List")]
  staticTypes := #[(.object "com/example/delvedeck/delvedeck/solo/Skill"), (.object "com/example/delvedeck/delvedeck/solo/Skill"), (.object "com/example/delvedeck/delvedeck/solo/Skill"), (.object "com/example/delvedeck/delvedeck/solo/Skill"), (.object "java/util/List")]
  resolved := Array.replicate 141 none
  statics := some 2 }

def pool20 : Array CpInfo := pool [(1, .class_ 2), (0, u "java/lang/Math"), (1, .class_ 6), (1, u "java/lang/Object"), (0, u "<init>"), (0, u "()V"), (89, .class_ 100), (1, u "java/lang/Math$RandomNumberGeneratorHolder"), (71, u "negativeZeroFloatBits"), (0, u "J"), (2, u "negativeZeroDoubleBits"), (21, u "max"), (2, u "min"), (43, u "$assertionsDisabled"), (0, u "Z"), (88, u "(II)I"), (2, u "twoToTheDoubleScaleDown"), (0, u "D"), (4, u "twoToTheDoubleScaleUp"), (9, u "E"), (3, u "PI"), (2, u "TAU"), (2, u "DEGREES_TO_RADIANS"), (0, u "RADIANS_TO_DEGREES")] 94

def k20m0 : Method := { name := "<init>", desc := "()V", sig := { parameters := [], returnType := none }, accessFlags := 2, code := none }
def k20c1 : Code := { maxStack := 2, maxLocals := 2, code := jdk_29_method_65_code, exceptionTable := #[], attributes := #[] }
def k20m1 : Method := { name := "max", desc := "(II)I", sig := { parameters := [.int, .int], returnType := some .int }, accessFlags := 9, code := some k20c1 }
def k20c2 : Code := { maxStack := 2, maxLocals := 2, code := jdk_29_method_69_code, exceptionTable := #[], attributes := #[] }
def k20m2 : Method := { name := "min", desc := "(II)I", sig := { parameters := [.int, .int], returnType := some .int }, accessFlags := 9, code := some k20c2 }
/-- java/lang/Math -/
def k20 : Class := { plain "java/lang/Math" (some 0) with
  accessFlags := 49
  interfaces := #[]
  cf := some (fileOf pool20 1 #[.nestMembers #[98]] #[{ accessFlags := 2, nameIndex := 7, descriptorIndex := 8, attributes := #[] }, { accessFlags := 9, nameIndex := 198, descriptorIndex := 335, attributes := #[] }, { accessFlags := 9, nameIndex := 201, descriptorIndex := 335, attributes := #[] }] 49 4 #[] #[{ accessFlags := 25, nameIndex := 354, descriptorIndex := 339, attributes := #[] }, { accessFlags := 25, nameIndex := 358, descriptorIndex := 339, attributes := #[] }, { accessFlags := 25, nameIndex := 361, descriptorIndex := 339, attributes := #[] }, { accessFlags := 26, nameIndex := 364, descriptorIndex := 339, attributes := #[] }, { accessFlags := 26, nameIndex := 365, descriptorIndex := 339, attributes := #[] }, { accessFlags := 26, nameIndex := 172, descriptorIndex := 173, attributes := #[] }, { accessFlags := 26, nameIndex := 176, descriptorIndex := 173, attributes := #[] }, { accessFlags := 8, nameIndex := 344, descriptorIndex := 339, attributes := #[] }, { accessFlags := 8, nameIndex := 338, descriptorIndex := 339, attributes := #[] }, { accessFlags := 4120, nameIndex := 245, descriptorIndex := 246, attributes := #[] }])
  fields := #[{ name := "E", type := .double, accessFlags := 25, slot := 0, constantValue := 0 }, { name := "PI", type := .double, accessFlags := 25, slot := 1, constantValue := 0 }, { name := "TAU", type := .double, accessFlags := 25, slot := 2, constantValue := 0 }, { name := "DEGREES_TO_RADIANS", type := .double, accessFlags := 26, slot := 3, constantValue := 0 }, { name := "RADIANS_TO_DEGREES", type := .double, accessFlags := 26, slot := 4, constantValue := 0 }, { name := "negativeZeroFloatBits", type := .long, accessFlags := 26, slot := 5, constantValue := 0 }, { name := "negativeZeroDoubleBits", type := .long, accessFlags := 26, slot := 6, constantValue := 0 }, { name := "twoToTheDoubleScaleUp", type := .double, accessFlags := 8, slot := 7, constantValue := 0 }, { name := "twoToTheDoubleScaleDown", type := .double, accessFlags := 8, slot := 8, constantValue := 0 }, { name := "$assertionsDisabled", type := .boolean, accessFlags := 4120, slot := 9, constantValue := 0 }]
  methods := #[k20m0, k20m1, k20m2]
  instanceTypes := #[]
  staticTypes := #[.double, .double, .double, .double, .double, .long, .long, .double, .double, .boolean]
  resolved := Array.replicate 460 none
  statics := none }

def pool21 : Array CpInfo := pool [(2, .class_ 4), (1, u "java/lang/Object"), (0, u "<init>"), (0, u "()V"), (7, .class_ 16), (1, u "java/util/Arrays"), (57, .class_ 76), (1, u "java/util/Arrays$NaturalOrder"), (9, .methodref 2 87), (0, .nameAndType 88 89), (0, u "getClass"), (0, u "()Ljava/lang/Class;"), (20, .class_ 111), (0, u "[Ljava/lang/Object;"), (1, .class_ 115), (1, u "java/util/Arrays$LegacyMergeSort"), (1, u "Z"), (32, .methodref 151 152), (0, .class_ 153), (0, .nameAndType 154 155), (0, u "java/lang/System"), (0, u "arraycopy"), (0, u "(Ljava/lang/Object;ILjava/lang/Object;II)V"), (144, .methodref 14 301), (0, .nameAndType 302 303), (0, u "copyOf"), (0, u "([Ljava/lang/Object;ILjava/lang/Class;)[Ljava/lang/Object;"), (0, .methodref 305 306), (0, .class_ 307), (0, .nameAndType 308 309), (0, u "java/lang/Math"), (0, u "min"), (0, u "(II)I"), (65, .class_ 376), (0, u "java/util/Arrays$ArrayList"), (68, u "$assertionsDisabled"), (269, u "MIN_ARRAY_SORT_GRAN"), (0, u "I"), (2, u "INSERTIONSORT_THRESHOLD"), (140, u "([Ljava/lang/Object;I)[Ljava/lang/Object;"), (114, .class_ 976), (0, u "java/util/Arrays$ArrayItr")] 52

def k21m0 : Method := { name := "<init>", desc := "()V", sig := { parameters := [], returnType := none }, accessFlags := 2, code := none }
def k21c1 : Code := { maxStack := 3, maxLocals := 2, code := jdk_65_method_119_code, exceptionTable := #[], attributes := #[] }
def k21m1 : Method := { name := "copyOf", desc := "([Ljava/lang/Object;I)[Ljava/lang/Object;", sig := { parameters := [(.array (.object "java/lang/Object")), .int], returnType := some (.array (.object "java/lang/Object")) }, accessFlags := 9, code := some k21c1 }
def k21c2 : Code := { maxStack := 6, maxLocals := 4, code := jdk_65_method_120_code, exceptionTable := #[], attributes := #[] }
def k21m2 : Method := { name := "copyOf", desc := "([Ljava/lang/Object;ILjava/lang/Class;)[Ljava/lang/Object;", sig := { parameters := [(.array (.object "java/lang/Object")), .int, (.object "java/lang/Class")], returnType := some (.array (.object "java/lang/Object")) }, accessFlags := 9, code := some k21c2 }
/-- java/util/Arrays -/
def k21 : Class := { plain "java/util/Arrays" (some 0) with
  accessFlags := 49
  interfaces := #[]
  cf := some (fileOf pool21 14 #[.nestMembers #[975, 375, 113, 74]] #[{ accessFlags := 2, nameIndex := 5, descriptorIndex := 6, attributes := #[] }, { accessFlags := 9, nameIndex := 302, descriptorIndex := 860, attributes := #[] }, { accessFlags := 9, nameIndex := 302, descriptorIndex := 303, attributes := #[] }] 49 2 #[] #[{ accessFlags := 26, nameIndex := 715, descriptorIndex := 716, attributes := #[] }, { accessFlags := 26, nameIndex := 719, descriptorIndex := 716, attributes := #[] }, { accessFlags := 4120, nameIndex := 445, descriptorIndex := 117, attributes := #[] }])
  fields := #[{ name := "MIN_ARRAY_SORT_GRAN", type := .int, accessFlags := 26, slot := 0, constantValue := 0 }, { name := "INSERTIONSORT_THRESHOLD", type := .int, accessFlags := 26, slot := 1, constantValue := 0 }, { name := "$assertionsDisabled", type := .boolean, accessFlags := 4120, slot := 2, constantValue := 0 }]
  methods := #[k21m0, k21m1, k21m2]
  instanceTypes := #[]
  staticTypes := #[.int, .int, .boolean]
  resolved := Array.replicate 1029 none
  statics := none }

def pool22 : Array CpInfo := pool [(2, .class_ 4), (1, u "java/lang/Object"), (0, u "<init>"), (0, u "()V"), (1, .class_ 10), (1, u "java/lang/System"), (0, u "allowSecurityManager"), (0, u "I"), (16, u "cons"), (0, u "Ljava/io/Console;"), (77, .class_ 110), (1, u "java/lang/System$CallersHolder"), (43, u "initialErrStream"), (0, u "Ljava/io/PrintStream;"), (19, u "security"), (0, u "Ljava/lang/SecurityManager;"), (31, .class_ 209), (0, u "java/lang/System$1"), (7, u "props"), (0, u "Ljava/util/Properties;"), (2, u "lineSeparator"), (0, u "Ljava/lang/String;"), (96, .class_ 321), (1, u "java/lang/System$LoggerFinder"), (5, .class_ 328), (0, u "java/lang/System$Logger"), (67, u "err"), (2, u "out"), (91, u "notSupportedJnuEncoding"), (15, u "in"), (17, u "initialIn"), (0, u "Ljava/io/InputStream;"), (35, u "bootLayer"), (0, u "Ljava/lang/ModuleLayer;"), (99, .class_ 664), (0, u "java/lang/System$2"), (9, u "NEVER"), (2, u "MAYBE"), (49, u "arraycopy"), (0, u "(Ljava/lang/Object;ILjava/lang/Object;II)V"), (72, .class_ 802), (0, u "java/lang/System$Logger$Level")] 31

def k22m0 : Method := { name := "<init>", desc := "()V", sig := { parameters := [], returnType := none }, accessFlags := 2, code := none }
def k22m1 : Method := { name := "arraycopy", desc := "(Ljava/lang/Object;ILjava/lang/Object;II)V", sig := { parameters := [(.object "java/lang/Object"), .int, (.object "java/lang/Object"), .int, .int], returnType := none }, accessFlags := 265, code := none }
/-- java/lang/System -/
def k22 : Class := { plain "java/lang/System" (some 0) with
  accessFlags := 49
  interfaces := #[]
  cf := some (fileOf pool22 8 #[.nestMembers #[319, 327, 801, 108, 663, 208]] #[{ accessFlags := 2, nameIndex := 5, descriptorIndex := 6, attributes := #[] }, { accessFlags := 265, nameIndex := 727, descriptorIndex := 728, attributes := #[] }] 49 2 #[] #[{ accessFlags := 25, nameIndex := 507, descriptorIndex := 526, attributes := #[] }, { accessFlags := 25, nameIndex := 399, descriptorIndex := 155, attributes := #[] }, { accessFlags := 25, nameIndex := 396, descriptorIndex := 155, attributes := #[] }, { accessFlags := 10, nameIndex := 525, descriptorIndex := 526, attributes := #[] }, { accessFlags := 26, nameIndex := 674, descriptorIndex := 12, attributes := #[] }, { accessFlags := 26, nameIndex := 677, descriptorIndex := 12, attributes := #[] }, { accessFlags := 10, nameIndex := 11, descriptorIndex := 12, attributes := #[] }, { accessFlags := 74, nameIndex := 175, descriptorIndex := 176, attributes := #[] }, { accessFlags := 10, nameIndex := 491, descriptorIndex := 222, attributes := #[] }, { accessFlags := 74, nameIndex := 29, descriptorIndex := 30, attributes := #[] }, { accessFlags := 74, nameIndex := 154, descriptorIndex := 155, attributes := #[] }, { accessFlags := 10, nameIndex := 217, descriptorIndex := 218, attributes := #[] }, { accessFlags := 10, nameIndex := 221, descriptorIndex := 222, attributes := #[] }, { accessFlags := 8, nameIndex := 562, descriptorIndex := 563, attributes := #[] }])
  fields := #[{ name := "in", type := (.object "java/io/InputStream"), accessFlags := 25, slot := 0, constantValue := 0 }, { name := "out", type := (.object "java/io/PrintStream"), accessFlags := 25, slot := 1, constantValue := 0 }, { name := "err", type := (.object "java/io/PrintStream"), accessFlags := 25, slot := 2, constantValue := 0 }, { name := "initialIn", type := (.object "java/io/InputStream"), accessFlags := 10, slot := 3, constantValue := 0 }, { name := "NEVER", type := .int, accessFlags := 26, slot := 4, constantValue := 0 }, { name := "MAYBE", type := .int, accessFlags := 26, slot := 5, constantValue := 0 }, { name := "allowSecurityManager", type := .int, accessFlags := 10, slot := 6, constantValue := 0 }, { name := "security", type := (.object "java/lang/SecurityManager"), accessFlags := 74, slot := 7, constantValue := 0 }, { name := "notSupportedJnuEncoding", type := (.object "java/lang/String"), accessFlags := 10, slot := 8, constantValue := 0 }, { name := "cons", type := (.object "java/io/Console"), accessFlags := 74, slot := 9, constantValue := 0 }, { name := "initialErrStream", type := (.object "java/io/PrintStream"), accessFlags := 74, slot := 10, constantValue := 0 }, { name := "props", type := (.object "java/util/Properties"), accessFlags := 10, slot := 11, constantValue := 0 }, { name := "lineSeparator", type := (.object "java/lang/String"), accessFlags := 10, slot := 12, constantValue := 0 }, { name := "bootLayer", type := (.object "java/lang/ModuleLayer"), accessFlags := 8, slot := 13, constantValue := 0 }]
  methods := #[k22m0, k22m1]
  instanceTypes := #[]
  staticTypes := #[(.object "java/io/InputStream"), (.object "java/io/PrintStream"), (.object "java/io/PrintStream"), (.object "java/io/InputStream"), .int, .int, .int, (.object "java/lang/SecurityManager"), (.object "java/lang/String"), (.object "java/io/Console"), (.object "java/io/PrintStream"), (.object "java/util/Properties"), (.object "java/lang/String"), (.object "java/lang/ModuleLayer")]
  resolved := Array.replicate 834 none
  statics := none }

def pool23 : Array CpInfo := pool [(2, .class_ 4), (1, u "java/lang/Object"), (0, u "<init>"), (0, u "()V"), (35, .class_ 44), (1, u "java/util/Objects"), (0, u "requireNonNull"), (0, u "(Ljava/lang/Object;)Ljava/lang/Object;")] 137

def k23m0 : Method := { name := "<init>", desc := "()V", sig := { parameters := [], returnType := none }, accessFlags := 2, code := none }
def k23c1 : Code := { maxStack := 2, maxLocals := 1, code := jdk_31_method_10_code, exceptionTable := #[], attributes := #[] }
def k23m1 : Method := { name := "requireNonNull", desc := "(Ljava/lang/Object;)Ljava/lang/Object;", sig := { parameters := [(.object "java/lang/Object")], returnType := some (.object "java/lang/Object") }, accessFlags := 9, code := some k23c1 }
/-- java/util/Objects -/
def k23 : Class := { plain "java/util/Objects" (some 0) with
  accessFlags := 49
  interfaces := #[]
  cf := some (fileOf pool23 42 #[] #[{ accessFlags := 2, nameIndex := 5, descriptorIndex := 6, attributes := #[] }, { accessFlags := 9, nameIndex := 45, descriptorIndex := 46, attributes := #[] }] 49 2 #[] #[])
  fields := #[]
  methods := #[k23m0, k23m1]
  instanceTypes := #[]
  staticTypes := #[]
  resolved := Array.replicate 184 none
  statics := none }

def pool24 : Array CpInfo := pool [(1, u "java/lang/Class"), (0, .class_ 1), (0, u "java/lang/Object"), (0, .class_ 3)] 0

/-- java/lang/Class -/
def k24 : Class := { plain "java/lang/Class" (some 0) with
  accessFlags := 49
  interfaces := #[]
  cf := some (fileOf pool24 2 #[] #[] 49 4 #[] #[])
  fields := #[]
  methods := #[]
  instanceTypes := #[]
  staticTypes := #[]
  resolved := Array.replicate 5 none
  statics := none }

/-- the primitive boolean -/
def k25 : Class := { plain "boolean" none with kind := .primitive 'Z', accessFlags := 0x411 }
/-- [Z -/
def k26 : Class := { plain "[Z" (some 0) with kind := .array 25 .boolean, interfaces := #[9, 10], accessFlags := 1041 }

/-- the primitive byte -/
def k27 : Class := { plain "byte" none with kind := .primitive 'B', accessFlags := 0x411 }
/-- [B -/
def k28 : Class := { plain "[B" (some 0) with kind := .array 27 .byte, interfaces := #[9, 10], accessFlags := 1041 }

/-- the primitive int -/
def k29 : Class := { plain "int" none with kind := .primitive 'I', accessFlags := 0x411 }
/-- [I -/
def k30 : Class := { plain "[I" (some 0) with kind := .array 29 .int, interfaces := #[9, 10], accessFlags := 1041 }

/-- [Ljava/lang/Object; -/
def k31 : Class := { plain "[Ljava/lang/Object;" (some 0) with kind := .array 0 (.object "java/lang/Object"), interfaces := #[9, 10], accessFlags := 1041, mirror := some 3 }

def heap : Heap := #[{ cls := 11, slots := #[.long 0, .int 0, .ref 7, .ref 8], vm := .statics 11 },
  { cls := 13, slots := #[.long 0, .int 0, .null, .ref 10, .ref 9, .null, .null, .null, .int 0, .int 1], vm := .statics 13 },
  { cls := 19, slots := #[.ref 4, .ref 5, .null, .ref 6, .null], vm := .statics 19 },
  { cls := 24, slots := #[], vm := .mirror 31 },
  { cls := 19, slots := #[.null, .null], vm := .none },
  { cls := 19, slots := #[.null, .null], vm := .none },
  { cls := 19, slots := #[.null, .null], vm := .none },
  { cls := 31, slots := #[], vm := .none },
  { cls := 31, slots := #[], vm := .none },
  { cls := 17, slots := #[.ref 7, .int 0], vm := .none },
  { cls := 0, slots := #[], vm := .none }]
def classes : Array Class := #[k0, k1, k2, k3, k4, k5, k6, k7, k8, k9, k10, k11, k12, k13, k14, k15, k16, k17, k18, k19, k20, k21, k22, k23, k24, k25, k26, k27, k28, k29, k30, k31]
def interned : List (Array UInt16 × Addr) := []
def slotsUsed : Nat := 27
def theMethod : MethodId := ⟨1, 2⟩
def args0 : Array Value := #[.int 2, .int 7, .int 3, .int 4, .int 9]
def aboutOver (below : List Frame) : State where
  vm := { classes := classes, interned := interned.toArray }
  heap := heap
  slotsUsed := slotsUsed
  threads := #[{ frames := .invoking theMethod args0 :: below }]
def below0 : List Frame := [.native { method := ⟨0, 0⟩, args := #[] }]
def about1 : State := aboutOver below0
def p0 : Program := .bare "" "" ""
def e0 : Env := launch0.env 0 0 0
theorem w_frames : about1.frames = Frame.invoking theMethod args0 :: below0 := rfl
set_option maxRecDepth 65536 in
theorem w_args : argsFit about1.vm theMethod args0 = true := by decide +kernel
set_option maxRecDepth 65536 in
theorem w_heap : heapFits about1 = true := by decide +kernel
set_option maxRecDepth 65536 in
theorem w_runnable : about1.curStatus? = some .runnable := by decide +kernel
set_option maxRecDepth 65536 in
theorem w_alone : about1.alone = true := by decide +kernel
set_option maxRecDepth 65536 in
theorem w_named : about1.methodNamed? x = some theMethod := by decide +kernel
set_option maxRecDepth 65536 in
theorem w_hears : about1.hears theMethod below0 = true := by decide +kernel
set_option maxRecDepth 65536 in
theorem w_ripe : about1.ripe theMethod args0 below0 = true := by decide +kernel
theorem w_running : about1.status = .running := rfl
set_option maxRecDepth 65536 in
theorem w_room : about1.hasRoom e0.platform room_1 = true :=
  launch0.hasRoom_least _ room_1 (by decide +kernel) (by decide +kernel) (by decide +kernel) (by decide +kernel) (by decide +kernel) (by decide +kernel)
theorem allAtoms_all (ts : List Jvm.Cond) (a : Array Jvm.Value) (st : Jvm.State) : (allAtoms ts).before a st = ts.all (fun c => c.before a st) := by
  induction ts with
  | nil => rfl
  | cons c t ih =>
    show (Jvm.Cond.and c (allAtoms t)).before a st = _
    rw [Jvm.Cond.before_and, ih, List.all_cons]
def words1 : List Jvm.Cond := Jvm.Cond.code x code maxLocals ret :: tables_1
/-- a 'code' word, met by the world's own term for the bytes: nothing is compared byte by byte -/
theorem code_word {y : MethodName} {bytes : ByteArray} {mx : Nat} {rt : Option FieldType} {a : Array Value} {s : State} {m : MethodId} {meth : Method} {c : Code} (h1 : s.methodNamed? y = some m) (h2 : s.vm.method? m = some meth) (h3 : meth.code = some c) (h4 : c.code = bytes)
    (h5 : (c.maxLocals == mx && c.exceptionTable.isEmpty && decide (c.maxStack ≤ mostOperands) && decide (meth.sig.returnType = rt) && !meth.locks && decide (parseMethodDescriptor y.desc = some meth.sig)) = true) : (Jvm.Cond.code y bytes mx rt).before a s = true := by
  simp only [Bool.and_eq_true, beq_iff_eq, Bool.not_eq_true', decide_eq_true_eq] at h5
  obtain ⟨⟨⟨⟨⟨g1, g2⟩, g3⟩, g4⟩, g5⟩, g6⟩ := h5
  simp [Cond.before, Cond.holds, Cond.value, h1, h2, h3, h4, g1, g2, g3, g4, g5, g6]
def isCode : Jvm.Cond → Bool
  | .code _ _ _ _ => true
  | _ => false
theorem all_split {L : List Jvm.Cond} {P : Jvm.Cond → Bool} (h1 : L.all (fun c => isCode c || P c) = true) (h2 : ∀ c ∈ L.filter isCode, P c = true) : L.all P = true := by
  refine List.all_eq_true.mpr fun c hc => ?_
  have h := List.all_eq_true.mp h1 c hc
  rcases Bool.eq_false_or_eq_true (isCode c) with hi | hi
  · exact h2 c (List.mem_filter.mpr ⟨hc, hi⟩)
  · simpa [hi] using h
set_option maxRecDepth 65536 in
theorem w_c0 : (Jvm.Cond.code x code maxLocals ret).before args0 about1 = true := code_word (m := ⟨1, 2⟩) (meth := k1m2) (c := k1c2) (by decide +kernel) rfl rfl rfl (by decide +kernel)
set_option maxRecDepth 65536 in
theorem w_c1 : (Jvm.Cond.code ({ cls := "java/util/ArrayList", name := "<init>", desc := "()V" } : Jvm.MethodName) jdk_38_method_2_code (1 : Nat) (Option.none : Option Jvm.ClassFile.FieldType)).before args0 about1 = true := code_word (m := ⟨11, 0⟩) (meth := k11m0) (c := k11c0) (by decide +kernel) rfl rfl rfl (by decide +kernel)
set_option maxRecDepth 65536 in
theorem w_c2 : (Jvm.Cond.code ({ cls := "java/util/AbstractList", name := "<init>", desc := "()V" } : Jvm.MethodName) jdk_39_method_1_code (1 : Nat) (Option.none : Option Jvm.ClassFile.FieldType)).before args0 about1 = true := code_word (m := ⟨7, 0⟩) (meth := k7m0) (c := k7c0) (by decide +kernel) rfl rfl rfl (by decide +kernel)
set_option maxRecDepth 65536 in
theorem w_c3 : (Jvm.Cond.code ({ cls := "java/util/AbstractCollection", name := "<init>", desc := "()V" } : Jvm.MethodName) jdk_22_method_1_code (1 : Nat) (Option.none : Option Jvm.ClassFile.FieldType)).before args0 about1 = true := code_word (m := ⟨4, 0⟩) (meth := k4m0) (c := k4c0) (by decide +kernel) rfl rfl rfl (by decide +kernel)
set_option maxRecDepth 65536 in
theorem w_c4 : (Jvm.Cond.code ({ cls := "java/lang/Object", name := "<init>", desc := "()V" } : Jvm.MethodName) object_method_1_code (1 : Nat) (Option.none : Option Jvm.ClassFile.FieldType)).before args0 about1 = true := code_word (m := ⟨0, 0⟩) (meth := k0m0) (c := k0c0) (by decide +kernel) rfl rfl rfl (by decide +kernel)
set_option maxRecDepth 65536 in
theorem w_c5 : (Jvm.Cond.code ({ cls := "com/example/delvedeck/delvedeck/solo/SkillBoard", name := "<init>", desc := "(Ljava/util/List;)V" } : Jvm.MethodName) prog_37_method_1_code (2 : Nat) (Option.none : Option Jvm.ClassFile.FieldType)).before args0 about1 = true := code_word (m := ⟨12, 0⟩) (meth := k12m0) (c := k12c0) (by decide +kernel) rfl rfl rfl (by decide +kernel)
set_option maxRecDepth 65536 in
theorem w_c6 : (Jvm.Cond.code ({ cls := "java/util/List", name := "copyOf", desc := "(Ljava/util/Collection;)Ljava/util/List;" } : Jvm.MethodName) jdk_40_method_48_code (1 : Nat) (Option.some (Jvm.ClassFile.FieldType.object "java/util/List"))).before args0 about1 = true := code_word (m := ⟨6, 4⟩) (meth := k6m4) (c := k6c4) (by decide +kernel) rfl rfl rfl (by decide +kernel)
set_option maxRecDepth 65536 in
theorem w_c7 : (Jvm.Cond.code ({ cls := "java/util/ImmutableCollections", name := "listCopy", desc := "(Ljava/util/Collection;)Ljava/util/List;" } : Jvm.MethodName) jdk_56_method_3_code (2 : Nat) (Option.some (Jvm.ClassFile.FieldType.object "java/util/List"))).before args0 about1 = true := code_word (m := ⟨13, 1⟩) (meth := k13m1) (c := k13c1) (by decide +kernel) rfl rfl rfl (by decide +kernel)
set_option maxRecDepth 65536 in
theorem w_c8 : (Jvm.Cond.code ({ cls := "java/util/ArrayList", name := "isEmpty", desc := "()Z" } : Jvm.MethodName) jdk_38_method_9_code (1 : Nat) (Option.some Jvm.ClassFile.FieldType.boolean)).before args0 about1 = true := code_word (m := ⟨11, 4⟩) (meth := k11m4) (c := k11c4) (by decide +kernel) rfl rfl rfl (by decide +kernel)
set_option maxRecDepth 65536 in
theorem w_c9 : (Jvm.Cond.code ({ cls := "java/util/List", name := "of", desc := "()Ljava/util/List;" } : Jvm.MethodName) jdk_40_method_36_code (0 : Nat) (Option.some (Jvm.ClassFile.FieldType.object "java/util/List"))).before args0 about1 = true := code_word (m := ⟨6, 2⟩) (meth := k6m2) (c := k6c2) (by decide +kernel) rfl rfl rfl (by decide +kernel)
set_option maxRecDepth 65536 in
theorem w_c10 : (Jvm.Cond.code ({ cls := "java/util/ArrayList", name := "size", desc := "()I" } : Jvm.MethodName) jdk_38_method_8_code (1 : Nat) (Option.some Jvm.ClassFile.FieldType.int)).before args0 about1 = true := code_word (m := ⟨11, 3⟩) (meth := k11m3) (c := k11c3) (by decide +kernel) rfl rfl rfl (by decide +kernel)
set_option maxRecDepth 65536 in
theorem w_c11 : (Jvm.Cond.code ({ cls := "com/example/delvedeck/delvedeck/solo/SkillBoard", name := "charged", desc := "()I" } : Jvm.MethodName) prog_37_method_13_code (6 : Nat) (Option.some Jvm.ClassFile.FieldType.int)).before args0 about1 = true := code_word (m := ⟨12, 4⟩) (meth := k12m4) (c := k12c4) (by decide +kernel) rfl rfl rfl (by decide +kernel)
set_option maxRecDepth 65536 in
theorem w_c12 : (Jvm.Cond.code ({ cls := "java/util/ArrayList", name := "add", desc := "(Ljava/lang/Object;)Z" } : Jvm.MethodName) jdk_38_method_25_code (2 : Nat) (Option.some Jvm.ClassFile.FieldType.boolean)).before args0 about1 = true := code_word (m := ⟨11, 7⟩) (meth := k11m7) (c := k11c7) (by decide +kernel) rfl rfl rfl (by decide +kernel)
set_option maxRecDepth 65536 in
theorem w_c13 : (Jvm.Cond.code ({ cls := "java/util/ArrayList", name := "add", desc := "(Ljava/lang/Object;[Ljava/lang/Object;I)V" } : Jvm.MethodName) jdk_38_method_24_code (4 : Nat) (Option.none : Option Jvm.ClassFile.FieldType)).before args0 about1 = true := code_word (m := ⟨11, 6⟩) (meth := k11m6) (c := k11c6) (by decide +kernel) rfl rfl rfl (by decide +kernel)
set_option maxRecDepth 65536 in
theorem w_c14 : (Jvm.Cond.code ({ cls := "java/util/ArrayList", name := "grow", desc := "()[Ljava/lang/Object;" } : Jvm.MethodName) jdk_38_method_7_code (1 : Nat) (Option.some (Jvm.ClassFile.FieldType.array (Jvm.ClassFile.FieldType.object "java/lang/Object")))).before args0 about1 = true := code_word (m := ⟨11, 2⟩) (meth := k11m2) (c := k11c2) (by decide +kernel) rfl rfl rfl (by decide +kernel)
set_option maxRecDepth 65536 in
theorem w_c15 : (Jvm.Cond.code ({ cls := "java/util/ArrayList", name := "grow", desc := "(I)[Ljava/lang/Object;" } : Jvm.MethodName) jdk_38_method_6_code (4 : Nat) (Option.some (Jvm.ClassFile.FieldType.array (Jvm.ClassFile.FieldType.object "java/lang/Object")))).before args0 about1 = true := code_word (m := ⟨11, 1⟩) (meth := k11m1) (c := k11c1) (by decide +kernel) rfl rfl rfl (by decide +kernel)
set_option maxRecDepth 65536 in
theorem w_c16 : (Jvm.Cond.code ({ cls := "java/lang/Math", name := "max", desc := "(II)I" } : Jvm.MethodName) jdk_29_method_65_code (2 : Nat) (Option.some Jvm.ClassFile.FieldType.int)).before args0 about1 = true := code_word (m := ⟨20, 1⟩) (meth := k20m1) (c := k20c1) (by decide +kernel) rfl rfl rfl (by decide +kernel)
set_option maxRecDepth 65536 in
theorem w_c17 : (Jvm.Cond.code ({ cls := "java/util/ArrayList", name := "toArray", desc := "()[Ljava/lang/Object;" } : Jvm.MethodName) jdk_38_method_16_code (1 : Nat) (Option.some (Jvm.ClassFile.FieldType.array (Jvm.ClassFile.FieldType.object "java/lang/Object")))).before args0 about1 = true := code_word (m := ⟨11, 5⟩) (meth := k11m5) (c := k11c5) (by decide +kernel) rfl rfl rfl (by decide +kernel)
set_option maxRecDepth 65536 in
theorem w_c18 : (Jvm.Cond.code ({ cls := "java/util/Arrays", name := "copyOf", desc := "([Ljava/lang/Object;I)[Ljava/lang/Object;" } : Jvm.MethodName) jdk_65_method_119_code (2 : Nat) (Option.some (Jvm.ClassFile.FieldType.array (Jvm.ClassFile.FieldType.object "java/lang/Object")))).before args0 about1 = true := code_word (m := ⟨21, 1⟩) (meth := k21m1) (c := k21c1) (by decide +kernel) rfl rfl rfl (by decide +kernel)
set_option maxRecDepth 65536 in
theorem w_c19 : (Jvm.Cond.code ({ cls := "java/util/Arrays", name := "copyOf", desc := "([Ljava/lang/Object;ILjava/lang/Class;)[Ljava/lang/Object;" } : Jvm.MethodName) jdk_65_method_120_code (4 : Nat) (Option.some (Jvm.ClassFile.FieldType.array (Jvm.ClassFile.FieldType.object "java/lang/Object")))).before args0 about1 = true := code_word (m := ⟨21, 2⟩) (meth := k21m2) (c := k21c2) (by decide +kernel) rfl rfl rfl (by decide +kernel)
set_option maxRecDepth 65536 in
theorem w_c20 : (Jvm.Cond.code ({ cls := "java/lang/Math", name := "min", desc := "(II)I" } : Jvm.MethodName) jdk_29_method_69_code (2 : Nat) (Option.some Jvm.ClassFile.FieldType.int)).before args0 about1 = true := code_word (m := ⟨20, 2⟩) (meth := k20m2) (c := k20c2) (by decide +kernel) rfl rfl rfl (by decide +kernel)
set_option maxRecDepth 65536 in
theorem w_c21 : (Jvm.Cond.code ({ cls := "java/util/List", name := "of", desc := "([Ljava/lang/Object;)Ljava/util/List;" } : Jvm.MethodName) jdk_40_method_47_code (2 : Nat) (Option.some (Jvm.ClassFile.FieldType.object "java/util/List"))).before args0 about1 = true := code_word (m := ⟨6, 3⟩) (meth := k6m3) (c := k6c3) (by decide +kernel) rfl rfl rfl (by decide +kernel)
set_option maxRecDepth 65536 in
theorem w_c22 : (Jvm.Cond.code ({ cls := "java/util/ImmutableCollections", name := "listFromArray", desc := "([Ljava/lang/Object;)Ljava/util/List;" } : Jvm.MethodName) jdk_56_method_4_code (3 : Nat) (Option.some (Jvm.ClassFile.FieldType.object "java/util/List"))).before args0 about1 = true := code_word (m := ⟨13, 2⟩) (meth := k13m2) (c := k13c2) (by decide +kernel) rfl rfl rfl (by decide +kernel)
set_option maxRecDepth 65536 in
theorem w_c23 : (Jvm.Cond.code ({ cls := "java/util/Objects", name := "requireNonNull", desc := "(Ljava/lang/Object;)Ljava/lang/Object;" } : Jvm.MethodName) jdk_31_method_10_code (1 : Nat) (Option.some (Jvm.ClassFile.FieldType.object "java/lang/Object"))).before args0 about1 = true := code_word (m := ⟨23, 1⟩) (meth := k23m1) (c := k23c1) (by decide +kernel) rfl rfl rfl (by decide +kernel)
set_option maxRecDepth 65536 in
theorem w_c24 : (Jvm.Cond.code ({ cls := "java/util/ImmutableCollections$ListN", name := "<init>", desc := "([Ljava/lang/Object;Z)V" } : Jvm.MethodName) jdk_45_method_1_code (3 : Nat) (Option.none : Option Jvm.ClassFile.FieldType)).before args0 about1 = true := code_word (m := ⟨17, 0⟩) (meth := k17m0) (c := k17c0) (by decide +kernel) rfl rfl rfl (by decide +kernel)
set_option maxRecDepth 65536 in
theorem w_c25 : (Jvm.Cond.code ({ cls := "java/util/ImmutableCollections$AbstractImmutableList", name := "<init>", desc := "()V" } : Jvm.MethodName) jdk_46_method_1_code (1 : Nat) (Option.none : Option Jvm.ClassFile.FieldType)).before args0 about1 = true := code_word (m := ⟨15, 0⟩) (meth := k15m0) (c := k15c0) (by decide +kernel) rfl rfl rfl (by decide +kernel)
set_option maxRecDepth 65536 in
theorem w_c26 : (Jvm.Cond.code ({ cls := "java/util/ImmutableCollections$AbstractImmutableCollection", name := "<init>", desc := "()V" } : Jvm.MethodName) jdk_47_method_1_code (1 : Nat) (Option.none : Option Jvm.ClassFile.FieldType)).before args0 about1 = true := code_word (m := ⟨14, 0⟩) (meth := k14m0) (c := k14c0) (by decide +kernel) rfl rfl rfl (by decide +kernel)
set_option maxRecDepth 65536 in
theorem w_c27 : (Jvm.Cond.code ({ cls := "com/example/delvedeck/delvedeck/solo/SkillBoard", name := "charge", desc := "(II)V" } : Jvm.MethodName) prog_37_method_11_code (3 : Nat) (Option.none : Option Jvm.ClassFile.FieldType)).before args0 about1 = true := code_word (m := ⟨12, 2⟩) (meth := k12m2) (c := k12c2) (by decide +kernel) rfl rfl rfl (by decide +kernel)
set_option maxRecDepth 65536 in
theorem w_c28 : (Jvm.Cond.code ({ cls := "com/example/delvedeck/delvedeck/solo/SkillBoardChargedPinLaw", name := "remove", desc := "(Lcom/example/delvedeck/delvedeck/solo/SkillBoard;IZ)V" } : Jvm.MethodName) method_2_code (3 : Nat) (Option.none : Option Jvm.ClassFile.FieldType)).before args0 about1 = true := code_word (m := ⟨1, 1⟩) (meth := k1m1) (c := k1c1) (by decide +kernel) rfl rfl rfl (by decide +kernel)
set_option maxRecDepth 65536 in
theorem w_c29 : (Jvm.Cond.code ({ cls := "com/example/delvedeck/delvedeck/solo/SkillBoard", name := "turnDown", desc := "(I)V" } : Jvm.MethodName) prog_37_method_8_code (2 : Nat) (Option.none : Option Jvm.ClassFile.FieldType)).before args0 about1 = true := code_word (m := ⟨12, 1⟩) (meth := k12m1) (c := k12c1) (by decide +kernel) rfl rfl rfl (by decide +kernel)
set_option maxRecDepth 65536 in
theorem w_c30 : (Jvm.Cond.code ({ cls := "java/util/ImmutableCollections$List12", name := "<init>", desc := "(Ljava/lang/Object;Ljava/lang/Object;)V" } : Jvm.MethodName) jdk_44_method_2_code (3 : Nat) (Option.none : Option Jvm.ClassFile.FieldType)).before args0 about1 = true := code_word (m := ⟨16, 1⟩) (meth := k16m1) (c := k16c1) (by decide +kernel) rfl rfl rfl (by decide +kernel)
set_option maxRecDepth 65536 in
theorem w_c31 : (Jvm.Cond.code ({ cls := "com/example/delvedeck/delvedeck/solo/SkillBoard", name := "spend", desc := "(I)I" } : Jvm.MethodName) prog_37_method_12_code (3 : Nat) (Option.some Jvm.ClassFile.FieldType.int)).before args0 about1 = true := code_word (m := ⟨12, 3⟩) (meth := k12m3) (c := k12c3) (by decide +kernel) rfl rfl rfl (by decide +kernel)
set_option maxRecDepth 65536 in
theorem w_c32 : (Jvm.Cond.code ({ cls := "java/util/ImmutableCollections$List12", name := "<init>", desc := "(Ljava/lang/Object;)V" } : Jvm.MethodName) jdk_44_method_1_code (2 : Nat) (Option.none : Option Jvm.ClassFile.FieldType)).before args0 about1 = true := code_word (m := ⟨16, 0⟩) (meth := k16m0) (c := k16c0) (by decide +kernel) rfl rfl rfl (by decide +kernel)
def codes1 : List Jvm.Cond := [Jvm.Cond.code x code maxLocals ret, Jvm.Cond.code ({ cls := "java/util/ArrayList", name := "<init>", desc := "()V" } : Jvm.MethodName) jdk_38_method_2_code (1 : Nat) (Option.none : Option Jvm.ClassFile.FieldType), Jvm.Cond.code ({ cls := "java/util/AbstractList", name := "<init>", desc := "()V" } : Jvm.MethodName) jdk_39_method_1_code (1 : Nat) (Option.none : Option Jvm.ClassFile.FieldType), Jvm.Cond.code ({ cls := "java/util/AbstractCollection", name := "<init>", desc := "()V" } : Jvm.MethodName) jdk_22_method_1_code (1 : Nat) (Option.none : Option Jvm.ClassFile.FieldType), Jvm.Cond.code ({ cls := "java/lang/Object", name := "<init>", desc := "()V" } : Jvm.MethodName) object_method_1_code (1 : Nat) (Option.none : Option Jvm.ClassFile.FieldType), Jvm.Cond.code ({ cls := "com/example/delvedeck/delvedeck/solo/SkillBoard", name := "<init>", desc := "(Ljava/util/List;)V" } : Jvm.MethodName) prog_37_method_1_code (2 : Nat) (Option.none : Option Jvm.ClassFile.FieldType), Jvm.Cond.code ({ cls := "java/util/List", name := "copyOf", desc := "(Ljava/util/Collection;)Ljava/util/List;" } : Jvm.MethodName) jdk_40_method_48_code (1 : Nat) (Option.some (Jvm.ClassFile.FieldType.object "java/util/List")), Jvm.Cond.code ({ cls := "java/util/ImmutableCollections", name := "listCopy", desc := "(Ljava/util/Collection;)Ljava/util/List;" } : Jvm.MethodName) jdk_56_method_3_code (2 : Nat) (Option.some (Jvm.ClassFile.FieldType.object "java/util/List")), Jvm.Cond.code ({ cls := "java/util/ArrayList", name := "isEmpty", desc := "()Z" } : Jvm.MethodName) jdk_38_method_9_code (1 : Nat) (Option.some Jvm.ClassFile.FieldType.boolean), Jvm.Cond.code ({ cls := "java/util/List", name := "of", desc := "()Ljava/util/List;" } : Jvm.MethodName) jdk_40_method_36_code (0 : Nat) (Option.some (Jvm.ClassFile.FieldType.object "java/util/List")), Jvm.Cond.code ({ cls := "java/util/ArrayList", name := "size", desc := "()I" } : Jvm.MethodName) jdk_38_method_8_code (1 : Nat) (Option.some Jvm.ClassFile.FieldType.int), Jvm.Cond.code ({ cls := "com/example/delvedeck/delvedeck/solo/SkillBoard", name := "charged", desc := "()I" } : Jvm.MethodName) prog_37_method_13_code (6 : Nat) (Option.some Jvm.ClassFile.FieldType.int), Jvm.Cond.code ({ cls := "java/util/ArrayList", name := "add", desc := "(Ljava/lang/Object;)Z" } : Jvm.MethodName) jdk_38_method_25_code (2 : Nat) (Option.some Jvm.ClassFile.FieldType.boolean), Jvm.Cond.code ({ cls := "java/util/ArrayList", name := "add", desc := "(Ljava/lang/Object;[Ljava/lang/Object;I)V" } : Jvm.MethodName) jdk_38_method_24_code (4 : Nat) (Option.none : Option Jvm.ClassFile.FieldType), Jvm.Cond.code ({ cls := "java/util/ArrayList", name := "grow", desc := "()[Ljava/lang/Object;" } : Jvm.MethodName) jdk_38_method_7_code (1 : Nat) (Option.some (Jvm.ClassFile.FieldType.array (Jvm.ClassFile.FieldType.object "java/lang/Object"))), Jvm.Cond.code ({ cls := "java/util/ArrayList", name := "grow", desc := "(I)[Ljava/lang/Object;" } : Jvm.MethodName) jdk_38_method_6_code (4 : Nat) (Option.some (Jvm.ClassFile.FieldType.array (Jvm.ClassFile.FieldType.object "java/lang/Object"))), Jvm.Cond.code ({ cls := "java/lang/Math", name := "max", desc := "(II)I" } : Jvm.MethodName) jdk_29_method_65_code (2 : Nat) (Option.some Jvm.ClassFile.FieldType.int), Jvm.Cond.code ({ cls := "java/util/ArrayList", name := "toArray", desc := "()[Ljava/lang/Object;" } : Jvm.MethodName) jdk_38_method_16_code (1 : Nat) (Option.some (Jvm.ClassFile.FieldType.array (Jvm.ClassFile.FieldType.object "java/lang/Object"))), Jvm.Cond.code ({ cls := "java/util/Arrays", name := "copyOf", desc := "([Ljava/lang/Object;I)[Ljava/lang/Object;" } : Jvm.MethodName) jdk_65_method_119_code (2 : Nat) (Option.some (Jvm.ClassFile.FieldType.array (Jvm.ClassFile.FieldType.object "java/lang/Object"))), Jvm.Cond.code ({ cls := "java/util/Arrays", name := "copyOf", desc := "([Ljava/lang/Object;ILjava/lang/Class;)[Ljava/lang/Object;" } : Jvm.MethodName) jdk_65_method_120_code (4 : Nat) (Option.some (Jvm.ClassFile.FieldType.array (Jvm.ClassFile.FieldType.object "java/lang/Object"))), Jvm.Cond.code ({ cls := "java/lang/Math", name := "min", desc := "(II)I" } : Jvm.MethodName) jdk_29_method_69_code (2 : Nat) (Option.some Jvm.ClassFile.FieldType.int), Jvm.Cond.code ({ cls := "java/util/List", name := "of", desc := "([Ljava/lang/Object;)Ljava/util/List;" } : Jvm.MethodName) jdk_40_method_47_code (2 : Nat) (Option.some (Jvm.ClassFile.FieldType.object "java/util/List")), Jvm.Cond.code ({ cls := "java/util/ImmutableCollections", name := "listFromArray", desc := "([Ljava/lang/Object;)Ljava/util/List;" } : Jvm.MethodName) jdk_56_method_4_code (3 : Nat) (Option.some (Jvm.ClassFile.FieldType.object "java/util/List")), Jvm.Cond.code ({ cls := "java/util/Objects", name := "requireNonNull", desc := "(Ljava/lang/Object;)Ljava/lang/Object;" } : Jvm.MethodName) jdk_31_method_10_code (1 : Nat) (Option.some (Jvm.ClassFile.FieldType.object "java/lang/Object")), Jvm.Cond.code ({ cls := "java/util/ImmutableCollections$ListN", name := "<init>", desc := "([Ljava/lang/Object;Z)V" } : Jvm.MethodName) jdk_45_method_1_code (3 : Nat) (Option.none : Option Jvm.ClassFile.FieldType), Jvm.Cond.code ({ cls := "java/util/ImmutableCollections$AbstractImmutableList", name := "<init>", desc := "()V" } : Jvm.MethodName) jdk_46_method_1_code (1 : Nat) (Option.none : Option Jvm.ClassFile.FieldType), Jvm.Cond.code ({ cls := "java/util/ImmutableCollections$AbstractImmutableCollection", name := "<init>", desc := "()V" } : Jvm.MethodName) jdk_47_method_1_code (1 : Nat) (Option.none : Option Jvm.ClassFile.FieldType), Jvm.Cond.code ({ cls := "com/example/delvedeck/delvedeck/solo/SkillBoard", name := "charge", desc := "(II)V" } : Jvm.MethodName) prog_37_method_11_code (3 : Nat) (Option.none : Option Jvm.ClassFile.FieldType), Jvm.Cond.code ({ cls := "com/example/delvedeck/delvedeck/solo/SkillBoardChargedPinLaw", name := "remove", desc := "(Lcom/example/delvedeck/delvedeck/solo/SkillBoard;IZ)V" } : Jvm.MethodName) method_2_code (3 : Nat) (Option.none : Option Jvm.ClassFile.FieldType), Jvm.Cond.code ({ cls := "com/example/delvedeck/delvedeck/solo/SkillBoard", name := "turnDown", desc := "(I)V" } : Jvm.MethodName) prog_37_method_8_code (2 : Nat) (Option.none : Option Jvm.ClassFile.FieldType), Jvm.Cond.code ({ cls := "java/util/ImmutableCollections$List12", name := "<init>", desc := "(Ljava/lang/Object;Ljava/lang/Object;)V" } : Jvm.MethodName) jdk_44_method_2_code (3 : Nat) (Option.none : Option Jvm.ClassFile.FieldType), Jvm.Cond.code ({ cls := "com/example/delvedeck/delvedeck/solo/SkillBoard", name := "spend", desc := "(I)I" } : Jvm.MethodName) prog_37_method_12_code (3 : Nat) (Option.some Jvm.ClassFile.FieldType.int), Jvm.Cond.code ({ cls := "java/util/ImmutableCollections$List12", name := "<init>", desc := "(Ljava/lang/Object;)V" } : Jvm.MethodName) jdk_44_method_1_code (2 : Nat) (Option.none : Option Jvm.ClassFile.FieldType)]
set_option maxRecDepth 65536 in
theorem codes_eq : words1.filter isCode = codes1 := rfl
theorem w_codes : ∀ c ∈ words1.filter isCode, c.before args0 about1 = true := by
  rw [codes_eq]
  intro c hc
  simp only [codes1, List.mem_cons, List.not_mem_nil, or_false] at hc
  rcases hc with rfl | rfl | rfl | rfl | rfl | rfl | rfl | rfl | rfl | rfl | rfl | rfl | rfl | rfl | rfl | rfl | rfl | rfl | rfl | rfl | rfl | rfl | rfl | rfl | rfl | rfl | rfl | rfl | rfl | rfl | rfl | rfl | rfl
  · exact w_c0
  · exact w_c1
  · exact w_c2
  · exact w_c3
  · exact w_c4
  · exact w_c5
  · exact w_c6
  · exact w_c7
  · exact w_c8
  · exact w_c9
  · exact w_c10
  · exact w_c11
  · exact w_c12
  · exact w_c13
  · exact w_c14
  · exact w_c15
  · exact w_c16
  · exact w_c17
  · exact w_c18
  · exact w_c19
  · exact w_c20
  · exact w_c21
  · exact w_c22
  · exact w_c23
  · exact w_c24
  · exact w_c25
  · exact w_c26
  · exact w_c27
  · exact w_c28
  · exact w_c29
  · exact w_c30
  · exact w_c31
  · exact w_c32
set_option maxRecDepth 65536 in
theorem w_t1 : (words1.take 24).all (fun c => isCode c || c.before args0 about1) = true := by decide +kernel
set_option maxRecDepth 65536 in
theorem w_t2 : ((words1.drop 24).take 24).all (fun c => isCode c || c.before args0 about1) = true := by decide +kernel
set_option maxRecDepth 65536 in
theorem w_t3 : (((words1.drop 24).drop 24).take 24).all (fun c => isCode c || c.before args0 about1) = true := by decide +kernel
set_option maxRecDepth 65536 in
theorem w_t4 : ((((words1.drop 24).drop 24).drop 24).take 24).all (fun c => isCode c || c.before args0 about1) = true := by decide +kernel
set_option maxRecDepth 65536 in
theorem w_t5 : (((((words1.drop 24).drop 24).drop 24).drop 24).take 24).all (fun c => isCode c || c.before args0 about1) = true := by decide +kernel
set_option maxRecDepth 65536 in
theorem w_t6 : ((((((words1.drop 24).drop 24).drop 24).drop 24).drop 24).take 24).all (fun c => isCode c || c.before args0 about1) = true := by decide +kernel
set_option maxRecDepth 65536 in
theorem w_t7 : (((((((words1.drop 24).drop 24).drop 24).drop 24).drop 24).drop 24).take 24).all (fun c => isCode c || c.before args0 about1) = true := by decide +kernel
set_option maxRecDepth 65536 in
theorem w_t8 : ((((((((words1.drop 24).drop 24).drop 24).drop 24).drop 24).drop 24).drop 24).take 24).all (fun c => isCode c || c.before args0 about1) = true := by decide +kernel
set_option maxRecDepth 65536 in
theorem w_t9 : (((((((((words1.drop 24).drop 24).drop 24).drop 24).drop 24).drop 24).drop 24).drop 24).take 24).all (fun c => isCode c || c.before args0 about1) = true := by decide +kernel
set_option maxRecDepth 65536 in
theorem w_t10 : (((((((((words1.drop 24).drop 24).drop 24).drop 24).drop 24).drop 24).drop 24).drop 24).drop 24).all (fun c => isCode c || c.before args0 about1) = true := by decide +kernel
theorem w_tables : (allAtoms (Jvm.Cond.code x code maxLocals ret :: tables_1)).before args0 about1 = true := by
  rw [allAtoms_all]
  show words1.all (fun c => c.before args0 about1) = true
  refine all_split ?_ w_codes
  rw [← List.take_append_drop 24 words1, List.all_append, w_t1, ← List.take_append_drop 24 (words1.drop 24), List.all_append, w_t2, ← List.take_append_drop 24 ((words1.drop 24).drop 24), List.all_append, w_t3, ← List.take_append_drop 24 (((words1.drop 24).drop 24).drop 24), List.all_append, w_t4, ← List.take_append_drop 24 ((((words1.drop 24).drop 24).drop 24).drop 24), List.all_append, w_t5, ← List.take_append_drop 24 (((((words1.drop 24).drop 24).drop 24).drop 24).drop 24), List.all_append, w_t6, ← List.take_append_drop 24 ((((((words1.drop 24).drop 24).drop 24).drop 24).drop 24).drop 24), List.all_append, w_t7, ← List.take_append_drop 24 (((((((words1.drop 24).drop 24).drop 24).drop 24).drop 24).drop 24).drop 24), List.all_append, w_t8, ← List.take_append_drop 24 ((((((((words1.drop 24).drop 24).drop 24).drop 24).drop 24).drop 24).drop 24).drop 24), List.all_append, w_t9, w_t10]
  rfl
set_option maxRecDepth 65536 in
theorem w_rest : rest_1_c.before args0 about1 = true := by decide +kernel
set_option maxRecDepth 65536 in
theorem w_case : (Jvm.Cond.and given_1 narrow_1).before args0 about1 = true := by decide +kernel
theorem w_applies : (headSpec (Jvm.Cond.code x code maxLocals ret :: tables_1) room_1).applies x e0.platform about1 = true :=
  (Spec.applies_iff w_frames).mpr ⟨w_running, w_runnable, w_alone, w_named, w_hears, w_ripe, w_room, w_tables⟩
theorem atStart : AtStart classFile x code maxLocals ret World_1 tables_1 room_1 Calls_1 rest_1 Pre_1 launch0 p0 e0 about1 theMethod args0 below0 :=
  ⟨lists_1, trivial, launch0.admits_env _ _ _, launch0.least_env, fairChoices_fair.cas, fairChoices_fair.clock, w_frames, w_args, w_heap, w_applies, ⟨⟨31, k31, 3, by decide +kernel, rfl, rfl, _, rfl, rfl⟩, trivial⟩, w_rest, w_case⟩
end start1
theorem witness_1 : WitnessClaimed_1 := ⟨start1.p0, start1.e0, start1.about1, start1.theMethod, start1.args0, start1.below0, start1.atStart⟩
end Jvm.Pilot.@@N@@
