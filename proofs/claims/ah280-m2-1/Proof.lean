import JvmDerived
import JvmDerived.Pilot.@@N@@Statement
import JvmDerived.Pilot.@@N@@Code
set_option linter.unusedVariables false
set_option linter.unusedSimpArgs false
namespace Jvm.OwnW
open Sem ClassFile Op Lib Jvm.Stand Jvm.Free Jvm.LawKit Jvm.RoadKit
/-- from the state S the walk over 'below' comes to an end of which P holds -/
def Goes (tb : Tables) (e : Env) (below : List Frame) (S : State) (P : State → Outcome → Prop) : Prop :=
  ∃ s₂ o, Steps tb e below S s₂ ∧ s₂.status = .running ∧ Ended s₂ below o ∧ P s₂ o
section Walk
variable {p : Program} {l : Launch} {e : Env} {R : Room} {s : State} {m : MethodId} {args : Array Value} {below : List Frame} {meth : Method} {c : Code} {T : State} {locs : List Loc} {cells slots : Nat} {P : State → Outcome → Prop} {pc : Nat} {Ls : Array Slot} {st : List Value} {Z : State} {a0 : Array Value} {h : Heap}
theorem Goes.of {tb : Tables} {S S' : State} (k : Goes tb e below S' P) (h : ∀ t, Steps tb e below S' t → Steps tb e below S t) : Goes tb e below S P := by
  obtain ⟨s₂, o, h1, h2⟩ := k
  exact ⟨s₂, o, h _ h1, h2⟩
theorem Goes.tr {tb : Tables} {S S' : State} (k : Goes tb e below S' P) (h : Steps tb e below S S') : Goes tb e below S P := by
  obtain ⟨s₂, o, h1, h2⟩ := k
  exact ⟨s₂, o, h.trans h1, h2⟩
theorem Goes.join {tb : Tables} {S S' : State} (h1 : Goes tb e below S' P → Goes tb e below S P) (h2 : Goes tb e below S' P) : Goes tb e below S P := h1 h2
theorem Goes.cast {tb : Tables} {g g' : JFrame} (q : g = g') (k : Goes tb e below (T.setTop g') P) : Goes tb e below (T.setTop g) P := q ▸ k
theorem g_nameI {x v : Int32} (q : v = x) (k : Goes p.tables e below (T.setTop (mkF m pc Ls (.int v :: st))) P) : Goes p.tables e below (T.setTop (mkF m pc Ls (.int x :: st))) P := q ▸ k
theorem g_nameL {x v : Int64} (q : v = x) (k : Goes p.tables e below (T.setTop (mkF m pc Ls (.long v :: st))) P) : Goes p.tables e below (T.setTop (mkF m pc Ls (.long x :: st))) P := q ▸ k
theorem g_iloadN (X : Stand p l e R s m args below meth c T locs cells slots) (hx : p.tables.exec = Jvm.exec) {k : Fin 4} {v : Int32} (hd : decode c.code pc = .ok (.iload_n k, 1)) (hl : Ls[k.val]? = some (.val (.int v))) (hr : Goes p.tables e below (T.setTop (mkF m (pc + 1) Ls (.int v :: st))) P) : Goes p.tables e below (T.setTop (mkF m pc Ls st)) P := hr.of fun _ k => XS.iloadN X.here hx rfl hd hl k
theorem g_iload (X : Stand p l e R s m args below meth c T locs cells slots) (hx : p.tables.exec = Jvm.exec) {k : Nat} {v : Int32} (hd : decode c.code pc = .ok (.iload k, 2)) (hl : Ls[k]? = some (.val (.int v))) (hr : Goes p.tables e below (T.setTop (mkF m (pc + 2) Ls (.int v :: st))) P) : Goes p.tables e below (T.setTop (mkF m pc Ls st)) P := hr.of fun _ k => XS.iload X.here hx rfl hd hl k
theorem g_lloadN (X : Stand p l e R s m args below meth c T locs cells slots) (hx : p.tables.exec = Jvm.exec) {k : Fin 4} {v : Int64} (hd : decode c.code pc = .ok (.lload_n k, 1)) (hl : Ls[k.val]? = some (.val (.long v))) (hr : Goes p.tables e below (T.setTop (mkF m (pc + 1) Ls (.long v :: st))) P) : Goes p.tables e below (T.setTop (mkF m pc Ls st)) P := hr.of fun _ k => XT.lloadN X.here hx rfl hd hl k
theorem g_lload (X : Stand p l e R s m args below meth c T locs cells slots) (hx : p.tables.exec = Jvm.exec) {k : Nat} {v : Int64} (hd : decode c.code pc = .ok (.lload k, 2)) (hl : Ls[k]? = some (.val (.long v))) (hr : Goes p.tables e below (T.setTop (mkF m (pc + 2) Ls (.long v :: st))) P) : Goes p.tables e below (T.setTop (mkF m pc Ls st)) P := hr.of fun _ k => XT.lload X.here hx rfl hd hl k
theorem g_aloadN (X : Stand p l e R s m args below meth c T locs cells slots) (hx : p.tables.exec = Jvm.exec) {k : Fin 4} {v : Value} (hd : decode c.code pc = .ok (.aload_n k, 1)) (hl : Ls[k.val]? = some (.val v)) (hv : v.isRef = true) (hr : Goes p.tables e below (T.setTop (mkF m (pc + 1) Ls (v :: st))) P) : Goes p.tables e below (T.setTop (mkF m pc Ls st)) P := hr.of fun _ k => XS.aloadN X.here hx rfl hd hl hv k
theorem g_aload (X : Stand p l e R s m args below meth c T locs cells slots) (hx : p.tables.exec = Jvm.exec) {k : Nat} {v : Value} (hd : decode c.code pc = .ok (.aload k, 2)) (hl : Ls[k]? = some (.val v)) (hv : v.isRef = true) (hr : Goes p.tables e below (T.setTop (mkF m (pc + 2) Ls (v :: st))) P) : Goes p.tables e below (T.setTop (mkF m pc Ls st)) P := hr.of fun _ k => XS.aload X.here hx rfl hd hl hv k
theorem g_istoreN (X : Stand p l e R s m args below meth c T locs cells slots) (hx : p.tables.exec = Jvm.exec) {k : Fin 4} {x : Int32} {l' : Array Slot} (hd : decode c.code pc = .ok (.istore_n k, 1)) (hl : storeLocals Ls k.val (.int x) = some l') (hr : Goes p.tables e below (T.setTop (mkF m (pc + 1) l' st)) P) : Goes p.tables e below (T.setTop (mkF m pc Ls (.int x :: st))) P := hr.of fun _ k => XS.istoreN X.here hx rfl hd rfl hl k
theorem g_istore (X : Stand p l e R s m args below meth c T locs cells slots) (hx : p.tables.exec = Jvm.exec) {k : Nat} {x : Int32} {l' : Array Slot} (hd : decode c.code pc = .ok (.istore k, 2)) (hl : storeLocals Ls k (.int x) = some l') (hr : Goes p.tables e below (T.setTop (mkF m (pc + 2) l' st)) P) : Goes p.tables e below (T.setTop (mkF m pc Ls (.int x :: st))) P := hr.of fun _ k => XS.istore X.here hx rfl hd rfl hl k
theorem g_lstoreN (X : Stand p l e R s m args below meth c T locs cells slots) (hx : p.tables.exec = Jvm.exec) {k : Fin 4} {x : Int64} {l' : Array Slot} (hd : decode c.code pc = .ok (.lstore_n k, 1)) (hl : storeLocals Ls k.val (.long x) = some l') (hr : Goes p.tables e below (T.setTop (mkF m (pc + 1) l' st)) P) : Goes p.tables e below (T.setTop (mkF m pc Ls (.long x :: st))) P := hr.of fun _ k => XT.lstoreN X.here hx rfl hd rfl hl k
theorem g_lstore (X : Stand p l e R s m args below meth c T locs cells slots) (hx : p.tables.exec = Jvm.exec) {k : Nat} {x : Int64} {l' : Array Slot} (hd : decode c.code pc = .ok (.lstore k, 2)) (hl : storeLocals Ls k (.long x) = some l') (hr : Goes p.tables e below (T.setTop (mkF m (pc + 2) l' st)) P) : Goes p.tables e below (T.setTop (mkF m pc Ls (.long x :: st))) P := hr.of fun _ k => XT.lstore X.here hx rfl hd rfl hl k
theorem g_astoreN (X : Stand p l e R s m args below meth c T locs cells slots) (hx : p.tables.exec = Jvm.exec) {k : Fin 4} {x : Value} {l' : Array Slot} (hd : decode c.code pc = .ok (.astore_n k, 1)) (hv : x.isRef = true) (hl : storeLocals Ls k.val x = some l') (hr : Goes p.tables e below (T.setTop (mkF m (pc + 1) l' st)) P) : Goes p.tables e below (T.setTop (mkF m pc Ls (x :: st))) P := hr.of fun _ k => XS.astoreN X.here hx rfl hd rfl hv hl k
theorem g_astore (X : Stand p l e R s m args below meth c T locs cells slots) (hx : p.tables.exec = Jvm.exec) {k : Nat} {x : Value} {l' : Array Slot} (hd : decode c.code pc = .ok (.astore k, 2)) (hv : x.isRef = true) (hl : storeLocals Ls k x = some l') (hr : Goes p.tables e below (T.setTop (mkF m (pc + 2) l' st)) P) : Goes p.tables e below (T.setTop (mkF m pc Ls (x :: st))) P := hr.of fun _ k => XS.astore X.here hx rfl hd rfl hv hl k
theorem g_istoreS (X : Stand p l e R s m args below meth c T locs cells slots) (hx : p.tables.exec = Jvm.exec) {k : Nat} {x : Int32} {o : Slot} (hd : decode c.code pc = .ok (.istore k, 2)) (hold : Ls[k]? = some o) (ho : One o) (hr : Goes p.tables e below (T.setTop (mkF m (pc + 2) (Ls.setIfInBounds k (.val (.int x))) st)) P) : Goes p.tables e below (T.setTop (mkF m pc Ls (.int x :: st))) P := hr.of fun _ k => XS.istoreS X.here hx rfl hd rfl hold ho k
theorem g_istoreNS (X : Stand p l e R s m args below meth c T locs cells slots) (hx : p.tables.exec = Jvm.exec) {k : Fin 4} {x : Int32} {o : Slot} (hd : decode c.code pc = .ok (.istore_n k, 1)) (hold : Ls[k.val]? = some o) (ho : One o) (hr : Goes p.tables e below (T.setTop (mkF m (pc + 1) (Ls.setIfInBounds k.val (.val (.int x))) st)) P) : Goes p.tables e below (T.setTop (mkF m pc Ls (.int x :: st))) P := hr.of fun _ k => XS.istoreNS X.here hx rfl hd rfl hold ho k
theorem g_iconst (X : Stand p l e R s m args below meth c T locs cells slots) (hx : p.tables.exec = Jvm.exec) {i : Int} (v : Int32) (hd : decode c.code pc = .ok (.iconst i, 1)) (hv : Int32.ofInt i = v) (hr : Goes p.tables e below (T.setTop (mkF m (pc + 1) Ls (.int v :: st))) P) : Goes p.tables e below (T.setTop (mkF m pc Ls st)) P := hr.of fun _ k => XT.iconstV X.here hx rfl v hd hv k
theorem g_bipush (X : Stand p l e R s m args below meth c T locs cells slots) (hx : p.tables.exec = Jvm.exec) {i : Int} (v : Int32) (hd : decode c.code pc = .ok (.bipush i, 2)) (hv : (Int8.ofInt i).toInt32 = v) (hr : Goes p.tables e below (T.setTop (mkF m (pc + 2) Ls (.int v :: st))) P) : Goes p.tables e below (T.setTop (mkF m pc Ls st)) P := hr.of fun _ k => XT.bipushV X.here hx rfl v hd hv k
theorem g_sipush (X : Stand p l e R s m args below meth c T locs cells slots) (hx : p.tables.exec = Jvm.exec) {i : Int} (v : Int32) (hd : decode c.code pc = .ok (.sipush i, 3)) (hv : (Int16.ofInt i).toInt32 = v) (hr : Goes p.tables e below (T.setTop (mkF m (pc + 3) Ls (.int v :: st))) P) : Goes p.tables e below (T.setTop (mkF m pc Ls st)) P := hr.of fun _ k => XT.sipushV X.here hx rfl v hd hv k
theorem g_lconst (X : Stand p l e R s m args below meth c T locs cells slots) (hx : p.tables.exec = Jvm.exec) {i : Fin 2} (v : Int64) (hd : decode c.code pc = .ok (.lconst i, 1)) (hv : Int64.ofNat i = v) (hr : Goes p.tables e below (T.setTop (mkF m (pc + 1) Ls (.long v :: st))) P) : Goes p.tables e below (T.setTop (mkF m pc Ls st)) P := hr.of fun _ k => XT.lconstV X.here hx rfl v hd hv k
theorem g_null (X : Stand p l e R s m args below meth c T locs cells slots) (hx : p.tables.exec = Jvm.exec)  (hd : decode c.code pc = .ok (.aconst_null, 1)) (hr : Goes p.tables e below (T.setTop (mkF m (pc + 1) Ls (.null :: st))) P) : Goes p.tables e below (T.setTop (mkF m pc Ls st)) P := hr.of fun _ k => XS.aconstNull X.here hx rfl hd k
theorem g_ldc (X : Stand p l e R s m args below meth c T locs cells slots) (hx : p.tables.exec = Jvm.exec) {own : String} {index : Nat} {v : Int32} (hZ : Z.Warmed39 s.vm) (hown : s.vm.findClass own = some m.cls) (wk : (Jvm.Cond.constant own index v).before a0 Z = true) (hd : decode c.code pc = .ok (.ldc index, 2)) (hr : Goes p.tables e below (T.setTop (mkF m (pc + 2) Ls (.int v :: st))) P) : Goes p.tables e below (T.setTop (mkF m pc Ls st)) P := hr.of fun _ k => X.ldcI hx hown (mvT hZ wk) rfl hd k
theorem g_ldcw (X : Stand p l e R s m args below meth c T locs cells slots) (hx : p.tables.exec = Jvm.exec) {own : String} {index : Nat} {v : Int32} (hZ : Z.Warmed39 s.vm) (hown : s.vm.findClass own = some m.cls) (wk : (Jvm.Cond.constant own index v).before a0 Z = true) (hd : decode c.code pc = .ok (.ldc_w index, 3)) (hr : Goes p.tables e below (T.setTop (mkF m (pc + 3) Ls (.int v :: st))) P) : Goes p.tables e below (T.setTop (mkF m pc Ls st)) P := hr.of fun _ k => X.ldcWI hx hown (mvT hZ wk) rfl hd k
theorem g_ldc2 (X : Stand p l e R s m args below meth c T locs cells slots) (hx : p.tables.exec = Jvm.exec) {own : String} {index : Nat} {v : Int64} (hZ : Z.Warmed39 s.vm) (hown : s.vm.findClass own = some m.cls) (wk : (Jvm.Cond.constantLong own index v).before a0 Z = true) (hd : decode c.code pc = .ok (.ldc2_w index, 3)) (hr : Goes p.tables e below (T.setTop (mkF m (pc + 3) Ls (.long v :: st))) P) : Goes p.tables e below (T.setTop (mkF m pc Ls st)) P := hr.of fun _ k => X.ldc2J hx hown (mvT hZ wk) rfl hd k
theorem g_iadd (X : Stand p l e R s m args below meth c T locs cells slots) (hx : p.tables.exec = Jvm.exec) {x y : Int32} (hd : decode c.code pc = .ok (.iadd, 1)) (hr : Goes p.tables e below (T.setTop (mkF m (pc + 1) Ls (.int (x + y) :: st))) P) : Goes p.tables e below (T.setTop (mkF m pc Ls (.int y :: .int x :: st))) P := hr.of fun _ k => XS.iadd X.here hx rfl hd rfl k
theorem g_isub (X : Stand p l e R s m args below meth c T locs cells slots) (hx : p.tables.exec = Jvm.exec) {x y : Int32} (hd : decode c.code pc = .ok (.isub, 1)) (hr : Goes p.tables e below (T.setTop (mkF m (pc + 1) Ls (.int (x - y) :: st))) P) : Goes p.tables e below (T.setTop (mkF m pc Ls (.int y :: .int x :: st))) P := hr.of fun _ k => XS.isub X.here hx rfl hd rfl k
theorem g_imul (X : Stand p l e R s m args below meth c T locs cells slots) (hx : p.tables.exec = Jvm.exec) {x y : Int32} (hd : decode c.code pc = .ok (.imul, 1)) (hr : Goes p.tables e below (T.setTop (mkF m (pc + 1) Ls (.int (x * y) :: st))) P) : Goes p.tables e below (T.setTop (mkF m pc Ls (.int y :: .int x :: st))) P := hr.of fun _ k => XS.imul X.here hx rfl hd rfl k
theorem g_iand (X : Stand p l e R s m args below meth c T locs cells slots) (hx : p.tables.exec = Jvm.exec) {x y : Int32} (hd : decode c.code pc = .ok (.iand, 1)) (hr : Goes p.tables e below (T.setTop (mkF m (pc + 1) Ls (.int (x &&& y) :: st))) P) : Goes p.tables e below (T.setTop (mkF m pc Ls (.int y :: .int x :: st))) P := hr.of fun _ k => XS.iand X.here hx rfl hd rfl k
theorem g_ior (X : Stand p l e R s m args below meth c T locs cells slots) (hx : p.tables.exec = Jvm.exec) {x y : Int32} (hd : decode c.code pc = .ok (.ior, 1)) (hr : Goes p.tables e below (T.setTop (mkF m (pc + 1) Ls (.int (x ||| y) :: st))) P) : Goes p.tables e below (T.setTop (mkF m pc Ls (.int y :: .int x :: st))) P := hr.of fun _ k => XT.ior X.here hx rfl hd rfl k
theorem g_ixor (X : Stand p l e R s m args below meth c T locs cells slots) (hx : p.tables.exec = Jvm.exec) {x y : Int32} (hd : decode c.code pc = .ok (.ixor, 1)) (hr : Goes p.tables e below (T.setTop (mkF m (pc + 1) Ls (.int (x ^^^ y) :: st))) P) : Goes p.tables e below (T.setTop (mkF m pc Ls (.int y :: .int x :: st))) P := hr.of fun _ k => XT.ixor X.here hx rfl hd rfl k
theorem g_ishl (X : Stand p l e R s m args below meth c T locs cells slots) (hx : p.tables.exec = Jvm.exec) {x y : Int32} (hd : decode c.code pc = .ok (.ishl, 1)) (hr : Goes p.tables e below (T.setTop (mkF m (pc + 1) Ls (.int (x <<< (y &&& 31)) :: st))) P) : Goes p.tables e below (T.setTop (mkF m pc Ls (.int y :: .int x :: st))) P := hr.of fun _ k => XT.ishl X.here hx rfl hd rfl k
theorem g_ishr (X : Stand p l e R s m args below meth c T locs cells slots) (hx : p.tables.exec = Jvm.exec) {x y : Int32} (hd : decode c.code pc = .ok (.ishr, 1)) (hr : Goes p.tables e below (T.setTop (mkF m (pc + 1) Ls (.int (x >>> (y &&& 31)) :: st))) P) : Goes p.tables e below (T.setTop (mkF m pc Ls (.int y :: .int x :: st))) P := hr.of fun _ k => XT.ishr X.here hx rfl hd rfl k
theorem g_iushr (X : Stand p l e R s m args below meth c T locs cells slots) (hx : p.tables.exec = Jvm.exec) {x y : Int32} (hd : decode c.code pc = .ok (.iushr, 1)) (hr : Goes p.tables e below (T.setTop (mkF m (pc + 1) Ls (.int (XT.ushr x y) :: st))) P) : Goes p.tables e below (T.setTop (mkF m pc Ls (.int y :: .int x :: st))) P := hr.of fun _ k => XT.iushr X.here hx rfl hd rfl k
theorem g_ladd (X : Stand p l e R s m args below meth c T locs cells slots) (hx : p.tables.exec = Jvm.exec) {x y : Int64} (hd : decode c.code pc = .ok (.ladd, 1)) (hr : Goes p.tables e below (T.setTop (mkF m (pc + 1) Ls (.long (x + y) :: st))) P) : Goes p.tables e below (T.setTop (mkF m pc Ls (.long y :: .long x :: st))) P := hr.of fun _ k => XT.ladd X.here hx rfl hd rfl k
theorem g_lsub (X : Stand p l e R s m args below meth c T locs cells slots) (hx : p.tables.exec = Jvm.exec) {x y : Int64} (hd : decode c.code pc = .ok (.lsub, 1)) (hr : Goes p.tables e below (T.setTop (mkF m (pc + 1) Ls (.long (x - y) :: st))) P) : Goes p.tables e below (T.setTop (mkF m pc Ls (.long y :: .long x :: st))) P := hr.of fun _ k => XT.lsub X.here hx rfl hd rfl k
theorem g_lmul (X : Stand p l e R s m args below meth c T locs cells slots) (hx : p.tables.exec = Jvm.exec) {x y : Int64} (hd : decode c.code pc = .ok (.lmul, 1)) (hr : Goes p.tables e below (T.setTop (mkF m (pc + 1) Ls (.long (x * y) :: st))) P) : Goes p.tables e below (T.setTop (mkF m pc Ls (.long y :: .long x :: st))) P := hr.of fun _ k => XT.lmul X.here hx rfl hd rfl k
theorem g_land (X : Stand p l e R s m args below meth c T locs cells slots) (hx : p.tables.exec = Jvm.exec) {x y : Int64} (hd : decode c.code pc = .ok (.land, 1)) (hr : Goes p.tables e below (T.setTop (mkF m (pc + 1) Ls (.long (x &&& y) :: st))) P) : Goes p.tables e below (T.setTop (mkF m pc Ls (.long y :: .long x :: st))) P := hr.of fun _ k => XT.land X.here hx rfl hd rfl k
theorem g_lor (X : Stand p l e R s m args below meth c T locs cells slots) (hx : p.tables.exec = Jvm.exec) {x y : Int64} (hd : decode c.code pc = .ok (.lor, 1)) (hr : Goes p.tables e below (T.setTop (mkF m (pc + 1) Ls (.long (x ||| y) :: st))) P) : Goes p.tables e below (T.setTop (mkF m pc Ls (.long y :: .long x :: st))) P := hr.of fun _ k => XT.lor X.here hx rfl hd rfl k
theorem g_lxor (X : Stand p l e R s m args below meth c T locs cells slots) (hx : p.tables.exec = Jvm.exec) {x y : Int64} (hd : decode c.code pc = .ok (.lxor, 1)) (hr : Goes p.tables e below (T.setTop (mkF m (pc + 1) Ls (.long (x ^^^ y) :: st))) P) : Goes p.tables e below (T.setTop (mkF m pc Ls (.long y :: .long x :: st))) P := hr.of fun _ k => XT.lxor X.here hx rfl hd rfl k
theorem g_lshl (X : Stand p l e R s m args below meth c T locs cells slots) (hx : p.tables.exec = Jvm.exec) {x : Int64} {y : Int32} (hd : decode c.code pc = .ok (.lshl, 1)) (hr : Goes p.tables e below (T.setTop (mkF m (pc + 1) Ls (.long (x <<< (y.toInt64 &&& 63)) :: st))) P) : Goes p.tables e below (T.setTop (mkF m pc Ls (.int y :: .long x :: st))) P := hr.of fun _ k => XT.lshl X.here hx rfl hd rfl k
theorem g_lshr (X : Stand p l e R s m args below meth c T locs cells slots) (hx : p.tables.exec = Jvm.exec) {x : Int64} {y : Int32} (hd : decode c.code pc = .ok (.lshr, 1)) (hr : Goes p.tables e below (T.setTop (mkF m (pc + 1) Ls (.long (x >>> (y.toInt64 &&& 63)) :: st))) P) : Goes p.tables e below (T.setTop (mkF m pc Ls (.int y :: .long x :: st))) P := hr.of fun _ k => XT.lshr X.here hx rfl hd rfl k
theorem g_lushr (X : Stand p l e R s m args below meth c T locs cells slots) (hx : p.tables.exec = Jvm.exec) {x : Int64} {y : Int32} (hd : decode c.code pc = .ok (.lushr, 1)) (hr : Goes p.tables e below (T.setTop (mkF m (pc + 1) Ls (.long (XT.ushrL x y) :: st))) P) : Goes p.tables e below (T.setTop (mkF m pc Ls (.int y :: .long x :: st))) P := hr.of fun _ k => XT.lushr X.here hx rfl hd rfl k
theorem g_idiv (X : Stand p l e R s m args below meth c T locs cells slots) (hx : p.tables.exec = Jvm.exec) {x y : Int32} (hd : decode c.code pc = .ok (.idiv, 1)) (hy : y ≠ 0) (hr : Goes p.tables e below (T.setTop (mkF m (pc + 1) Ls (.int (x / y) :: st))) P) : Goes p.tables e below (T.setTop (mkF m pc Ls (.int y :: .int x :: st))) P := hr.of fun _ k => XS.idiv X.here hx rfl hd rfl hy k
theorem g_irem (X : Stand p l e R s m args below meth c T locs cells slots) (hx : p.tables.exec = Jvm.exec) {x y : Int32} (hd : decode c.code pc = .ok (.irem, 1)) (hy : y ≠ 0) (hr : Goes p.tables e below (T.setTop (mkF m (pc + 1) Ls (.int (x % y) :: st))) P) : Goes p.tables e below (T.setTop (mkF m pc Ls (.int y :: .int x :: st))) P := hr.of fun _ k => iremM X hx rfl hd rfl hy k
theorem g_ldiv (X : Stand p l e R s m args below meth c T locs cells slots) (hx : p.tables.exec = Jvm.exec) {x y : Int64} (hd : decode c.code pc = .ok (.ldiv, 1)) (hy : y ≠ 0) (hr : Goes p.tables e below (T.setTop (mkF m (pc + 1) Ls (.long (x / y) :: st))) P) : Goes p.tables e below (T.setTop (mkF m pc Ls (.long y :: .long x :: st))) P := hr.of fun _ k => XT.ldiv X.here hx rfl hd rfl hy k
theorem g_lrem (X : Stand p l e R s m args below meth c T locs cells slots) (hx : p.tables.exec = Jvm.exec) {x y : Int64} (hd : decode c.code pc = .ok (.lrem, 1)) (hy : y ≠ 0) (hr : Goes p.tables e below (T.setTop (mkF m (pc + 1) Ls (.long (x % y) :: st))) P) : Goes p.tables e below (T.setTop (mkF m pc Ls (.long y :: .long x :: st))) P := hr.of fun _ k => XT.lrem X.here hx rfl hd rfl hy (by rw [lrem_mod]; exact k)
theorem g_ineg (X : Stand p l e R s m args below meth c T locs cells slots) (hx : p.tables.exec = Jvm.exec) {x : Int32} (hd : decode c.code pc = .ok (.ineg, 1)) (hr : Goes p.tables e below (T.setTop (mkF m (pc + 1) Ls (.int (-x) :: st))) P) : Goes p.tables e below (T.setTop (mkF m pc Ls (.int x :: st))) P := hr.of fun _ k => XS.ineg X.here hx rfl hd rfl k
theorem g_lneg (X : Stand p l e R s m args below meth c T locs cells slots) (hx : p.tables.exec = Jvm.exec) {x : Int64} (hd : decode c.code pc = .ok (.lneg, 1)) (hr : Goes p.tables e below (T.setTop (mkF m (pc + 1) Ls (.long (-x) :: st))) P) : Goes p.tables e below (T.setTop (mkF m pc Ls (.long x :: st))) P := hr.of fun _ k => XT.lneg X.here hx rfl hd rfl k
theorem g_i2l (X : Stand p l e R s m args below meth c T locs cells slots) (hx : p.tables.exec = Jvm.exec) {x : Int32} (hd : decode c.code pc = .ok (.i2l, 1)) (hr : Goes p.tables e below (T.setTop (mkF m (pc + 1) Ls (.long (x.toInt64) :: st))) P) : Goes p.tables e below (T.setTop (mkF m pc Ls (.int x :: st))) P := hr.of fun _ k => XT.i2l X.here hx rfl hd rfl k
theorem g_l2i (X : Stand p l e R s m args below meth c T locs cells slots) (hx : p.tables.exec = Jvm.exec) {x : Int64} (hd : decode c.code pc = .ok (.l2i, 1)) (hr : Goes p.tables e below (T.setTop (mkF m (pc + 1) Ls (.int (x.toInt32) :: st))) P) : Goes p.tables e below (T.setTop (mkF m pc Ls (.long x :: st))) P := hr.of fun _ k => XT.l2i X.here hx rfl hd rfl k
theorem g_i2b (X : Stand p l e R s m args below meth c T locs cells slots) (hx : p.tables.exec = Jvm.exec) {x : Int32} (hd : decode c.code pc = .ok (.i2b, 1)) (hr : Goes p.tables e below (T.setTop (mkF m (pc + 1) Ls (.int (x.toInt8.toInt32) :: st))) P) : Goes p.tables e below (T.setTop (mkF m pc Ls (.int x :: st))) P := hr.of fun _ k => XT.i2b X.here hx rfl hd rfl k
theorem g_i2c (X : Stand p l e R s m args below meth c T locs cells slots) (hx : p.tables.exec = Jvm.exec) {x : Int32} (hd : decode c.code pc = .ok (.i2c, 1)) (hr : Goes p.tables e below (T.setTop (mkF m (pc + 1) Ls (.int (x.toUInt32.toUInt16.toUInt32.toInt32) :: st))) P) : Goes p.tables e below (T.setTop (mkF m pc Ls (.int x :: st))) P := hr.of fun _ k => XT.i2c X.here hx rfl hd rfl k
theorem g_i2s (X : Stand p l e R s m args below meth c T locs cells slots) (hx : p.tables.exec = Jvm.exec) {x : Int32} (hd : decode c.code pc = .ok (.i2s, 1)) (hr : Goes p.tables e below (T.setTop (mkF m (pc + 1) Ls (.int (x.toInt16.toInt32) :: st))) P) : Goes p.tables e below (T.setTop (mkF m pc Ls (.int x :: st))) P := hr.of fun _ k => XT.i2s X.here hx rfl hd rfl k
theorem g_lcmp (X : Stand p l e R s m args below meth c T locs cells slots) (hx : p.tables.exec = Jvm.exec) {x y : Int64} (hd : decode c.code pc = .ok (.lcmp, 1)) (hr : Goes p.tables e below (T.setTop (mkF m (pc + 1) Ls (.int (XT.cmpL x y) :: st))) P) : Goes p.tables e below (T.setTop (mkF m pc Ls (.long y :: .long x :: st))) P := hr.of fun _ k => XT.lcmp X.here hx rfl hd rfl k
theorem g_dup (X : Stand p l e R s m args below meth c T locs cells slots) (hx : p.tables.exec = Jvm.exec) {x : Value} (hd : decode c.code pc = .ok (.dup, 1)) (hc : x.category = 1) (hr : Goes p.tables e below (T.setTop (mkF m (pc + 1) Ls (x :: x :: st))) P) : Goes p.tables e below (T.setTop (mkF m pc Ls (x :: st))) P := hr.of fun _ k => XS.dup X.here hx rfl hd rfl hc k
theorem g_pop (X : Stand p l e R s m args below meth c T locs cells slots) (hx : p.tables.exec = Jvm.exec) {x : Value} (hd : decode c.code pc = .ok (.pop, 1)) (hc : x.category = 1) (hr : Goes p.tables e below (T.setTop (mkF m (pc + 1) Ls st)) P) : Goes p.tables e below (T.setTop (mkF m pc Ls (x :: st))) P := hr.of fun _ k => XT.pop X.here hx rfl hd rfl hc k
theorem g_dupX1 (X : Stand p l e R s m args below meth c T locs cells slots) (hx : p.tables.exec = Jvm.exec) {x y : Value} (hd : decode c.code pc = .ok (.dup_x1, 1)) (hc : x.category = 1) (hc' : y.category = 1) (hr : Goes p.tables e below (T.setTop (mkF m (pc + 1) Ls (x :: y :: x :: st))) P) : Goes p.tables e below (T.setTop (mkF m pc Ls (x :: y :: st))) P := hr.of fun _ k => XT.dupX1 X.here hx rfl hd rfl hc hc' k
theorem g_dup2 (X : Stand p l e R s m args below meth c T locs cells slots) (hx : p.tables.exec = Jvm.exec) {x y : Value} (hd : decode c.code pc = .ok (.dup2, 1)) (hc : x.category = 1) (hc' : y.category = 1) (hr : Goes p.tables e below (T.setTop (mkF m (pc + 1) Ls (x :: y :: x :: y :: st))) P) : Goes p.tables e below (T.setTop (mkF m pc Ls (x :: y :: st))) P := hr.of fun _ k => XT.dup2 X.here hx rfl hd rfl hc hc' k
theorem g_dup2L (X : Stand p l e R s m args below meth c T locs cells slots) (hx : p.tables.exec = Jvm.exec) {x : Int64} (hd : decode c.code pc = .ok (.dup2, 1)) (hr : Goes p.tables e below (T.setTop (mkF m (pc + 1) Ls (.long x :: .long x :: st))) P) : Goes p.tables e below (T.setTop (mkF m pc Ls (.long x :: st))) P := hr.of fun _ k => XT.dup2L X.here hx rfl hd rfl k
theorem g_iinc (X : Stand p l e R s m args below meth c T locs cells slots) (hx : p.tables.exec = Jvm.exec) {k : Nat} {cst : Int} {x : Int32} {l' : Array Slot} (v : Int32) (hd : decode c.code pc = .ok (.iinc k cst, 3)) (hv : Int32.ofInt cst = v) (hl : Ls[k]? = some (.val (.int x))) (hl' : storeLocals Ls k (.int (x + v)) = some l') (hr : Goes p.tables e below (T.setTop (mkF m (pc + 3) l' st)) P) : Goes p.tables e below (T.setTop (mkF m pc Ls st)) P := hr.of fun _ k => XT.iincV X.here hx rfl v hd hv hl hl' k
theorem g_goto (X : Stand p l e R s m args below meth c T locs cells slots) (hx : p.tables.exec = Jvm.exec) {o : Int} {pc' : Nat} (hd : decode c.code pc = .ok (.goto o, 3)) (ho : 0 ≤ (pc : Int) + o) (hp : ((pc : Int) + o).toNat = pc') (hr : Goes p.tables e below (T.setTop (mkF m pc' Ls st)) P) : Goes p.tables e below (T.setTop (mkF m pc Ls st)) P := hr.of fun _ k => XS.goto X.here hx rfl rfl hd ho hp k
theorem g_icmp_eq (X : Stand p l e R s m args below meth c T locs cells slots) (hx : p.tables.exec = Jvm.exec) {x y : Int32} {o : Int} {pc' : Nat} (hd : decode c.code pc = .ok (.if_icmp .eq o, 3)) (ho : 0 ≤ (pc : Int) + o) (hp : ((pc : Int) + o).toNat = pc') (hT : (x = y) → Goes p.tables e below (T.setTop (mkF m pc' Ls st)) P) (hF : (¬ x = y) → Goes p.tables e below (T.setTop (mkF m (pc + 3) Ls st)) P) : Goes p.tables e below (T.setTop (mkF m pc Ls (.int y :: .int x :: st))) P := by
  by_cases q : x = y
  · exact (hT q).of fun _ k => XS.icmpYes X.here hx rfl rfl hd rfl (XT.ii_eq_t q) ho hp k
  · exact (hF q).of fun _ k => XS.icmpNo X.here hx rfl hd rfl (XT.ii_eq_f q) k
theorem g_if_eq (X : Stand p l e R s m args below meth c T locs cells slots) (hx : p.tables.exec = Jvm.exec) {x : Int32} {o : Int} {pc' : Nat} (hd : decode c.code pc = .ok (.ifCond .eq o, 3)) (ho : 0 ≤ (pc : Int) + o) (hp : ((pc : Int) + o).toNat = pc') (hT : (x = 0) → Goes p.tables e below (T.setTop (mkF m pc' Ls st)) P) (hF : (¬ x = 0) → Goes p.tables e below (T.setTop (mkF m (pc + 3) Ls st)) P) : Goes p.tables e below (T.setTop (mkF m pc Ls (.int x :: st))) P := by
  by_cases q : x = 0
  · exact (hT q).of fun _ k => XS.ifYes X.here hx rfl rfl hd rfl (XT.i0_eq_t q) ho hp k
  · exact (hF q).of fun _ k => XS.ifNo X.here hx rfl hd rfl (XT.i0_eq_f q) k
theorem g_lif_eq (X : Stand p l e R s m args below meth c T locs cells slots) (hx : p.tables.exec = Jvm.exec) {x y : Int64} {o : Int} {pc' : Nat} (hd : decode c.code pc = .ok (.ifCond .eq o, 3)) (ho : 0 ≤ (pc : Int) + o) (hp : ((pc : Int) + o).toNat = pc') (hT : (x = y) → Goes p.tables e below (T.setTop (mkF m pc' Ls st)) P) (hF : (¬ x = y) → Goes p.tables e below (T.setTop (mkF m (pc + 3) Ls st)) P) : Goes p.tables e below (T.setTop (mkF m pc Ls (.int (XT.cmpL x y) :: st))) P := by
  by_cases q : x = y
  · exact (hT q).of fun _ k => XS.ifYes X.here hx rfl rfl hd rfl (XT.ll_eq_t q) ho hp k
  · exact (hF q).of fun _ k => XS.ifNo X.here hx rfl hd rfl (XT.ll_eq_f q) k
theorem g_icmp_ne (X : Stand p l e R s m args below meth c T locs cells slots) (hx : p.tables.exec = Jvm.exec) {x y : Int32} {o : Int} {pc' : Nat} (hd : decode c.code pc = .ok (.if_icmp .ne o, 3)) (ho : 0 ≤ (pc : Int) + o) (hp : ((pc : Int) + o).toNat = pc') (hT : (¬ x = y) → Goes p.tables e below (T.setTop (mkF m pc' Ls st)) P) (hF : (x = y) → Goes p.tables e below (T.setTop (mkF m (pc + 3) Ls st)) P) : Goes p.tables e below (T.setTop (mkF m pc Ls (.int y :: .int x :: st))) P := by
  by_cases q : x = y
  · exact (hF q).of fun _ k => XS.icmpNo X.here hx rfl hd rfl (XT.ii_ne_f q) k
  · exact (hT q).of fun _ k => XS.icmpYes X.here hx rfl rfl hd rfl (XT.ii_ne_t q) ho hp k
theorem g_if_ne (X : Stand p l e R s m args below meth c T locs cells slots) (hx : p.tables.exec = Jvm.exec) {x : Int32} {o : Int} {pc' : Nat} (hd : decode c.code pc = .ok (.ifCond .ne o, 3)) (ho : 0 ≤ (pc : Int) + o) (hp : ((pc : Int) + o).toNat = pc') (hT : (¬ x = 0) → Goes p.tables e below (T.setTop (mkF m pc' Ls st)) P) (hF : (x = 0) → Goes p.tables e below (T.setTop (mkF m (pc + 3) Ls st)) P) : Goes p.tables e below (T.setTop (mkF m pc Ls (.int x :: st))) P := by
  by_cases q : x = 0
  · exact (hF q).of fun _ k => XS.ifNo X.here hx rfl hd rfl (XT.i0_ne_f q) k
  · exact (hT q).of fun _ k => XS.ifYes X.here hx rfl rfl hd rfl (XT.i0_ne_t q) ho hp k
theorem g_lif_ne (X : Stand p l e R s m args below meth c T locs cells slots) (hx : p.tables.exec = Jvm.exec) {x y : Int64} {o : Int} {pc' : Nat} (hd : decode c.code pc = .ok (.ifCond .ne o, 3)) (ho : 0 ≤ (pc : Int) + o) (hp : ((pc : Int) + o).toNat = pc') (hT : (¬ x = y) → Goes p.tables e below (T.setTop (mkF m pc' Ls st)) P) (hF : (x = y) → Goes p.tables e below (T.setTop (mkF m (pc + 3) Ls st)) P) : Goes p.tables e below (T.setTop (mkF m pc Ls (.int (XT.cmpL x y) :: st))) P := by
  by_cases q : x = y
  · exact (hF q).of fun _ k => XS.ifNo X.here hx rfl hd rfl (XT.ll_ne_f q) k
  · exact (hT q).of fun _ k => XS.ifYes X.here hx rfl rfl hd rfl (XT.ll_ne_t q) ho hp k
theorem g_icmp_lt (X : Stand p l e R s m args below meth c T locs cells slots) (hx : p.tables.exec = Jvm.exec) {x y : Int32} {o : Int} {pc' : Nat} (hd : decode c.code pc = .ok (.if_icmp .lt o, 3)) (ho : 0 ≤ (pc : Int) + o) (hp : ((pc : Int) + o).toNat = pc') (hT : (x < y) → Goes p.tables e below (T.setTop (mkF m pc' Ls st)) P) (hF : (¬ x < y) → Goes p.tables e below (T.setTop (mkF m (pc + 3) Ls st)) P) : Goes p.tables e below (T.setTop (mkF m pc Ls (.int y :: .int x :: st))) P := by
  by_cases q : x < y
  · exact (hT q).of fun _ k => XS.icmpYes X.here hx rfl rfl hd rfl (XT.ii_lt_t q) ho hp k
  · exact (hF q).of fun _ k => XS.icmpNo X.here hx rfl hd rfl (XT.ii_lt_f q) k
theorem g_if_lt (X : Stand p l e R s m args below meth c T locs cells slots) (hx : p.tables.exec = Jvm.exec) {x : Int32} {o : Int} {pc' : Nat} (hd : decode c.code pc = .ok (.ifCond .lt o, 3)) (ho : 0 ≤ (pc : Int) + o) (hp : ((pc : Int) + o).toNat = pc') (hT : (x < 0) → Goes p.tables e below (T.setTop (mkF m pc' Ls st)) P) (hF : (¬ x < 0) → Goes p.tables e below (T.setTop (mkF m (pc + 3) Ls st)) P) : Goes p.tables e below (T.setTop (mkF m pc Ls (.int x :: st))) P := by
  by_cases q : x < 0
  · exact (hT q).of fun _ k => XS.ifYes X.here hx rfl rfl hd rfl (XT.i0_lt_t q) ho hp k
  · exact (hF q).of fun _ k => XS.ifNo X.here hx rfl hd rfl (XT.i0_lt_f q) k
theorem g_lif_lt (X : Stand p l e R s m args below meth c T locs cells slots) (hx : p.tables.exec = Jvm.exec) {x y : Int64} {o : Int} {pc' : Nat} (hd : decode c.code pc = .ok (.ifCond .lt o, 3)) (ho : 0 ≤ (pc : Int) + o) (hp : ((pc : Int) + o).toNat = pc') (hT : (x < y) → Goes p.tables e below (T.setTop (mkF m pc' Ls st)) P) (hF : (¬ x < y) → Goes p.tables e below (T.setTop (mkF m (pc + 3) Ls st)) P) : Goes p.tables e below (T.setTop (mkF m pc Ls (.int (XT.cmpL x y) :: st))) P := by
  by_cases q : x < y
  · exact (hT q).of fun _ k => XS.ifYes X.here hx rfl rfl hd rfl (XT.ll_lt_t q) ho hp k
  · exact (hF q).of fun _ k => XS.ifNo X.here hx rfl hd rfl (XT.ll_lt_f q) k
theorem g_icmp_ge (X : Stand p l e R s m args below meth c T locs cells slots) (hx : p.tables.exec = Jvm.exec) {x y : Int32} {o : Int} {pc' : Nat} (hd : decode c.code pc = .ok (.if_icmp .ge o, 3)) (ho : 0 ≤ (pc : Int) + o) (hp : ((pc : Int) + o).toNat = pc') (hT : (¬ x < y) → Goes p.tables e below (T.setTop (mkF m pc' Ls st)) P) (hF : (x < y) → Goes p.tables e below (T.setTop (mkF m (pc + 3) Ls st)) P) : Goes p.tables e below (T.setTop (mkF m pc Ls (.int y :: .int x :: st))) P := by
  by_cases q : x < y
  · exact (hF q).of fun _ k => XS.icmpNo X.here hx rfl hd rfl (XT.ii_ge_f q) k
  · exact (hT q).of fun _ k => XS.icmpYes X.here hx rfl rfl hd rfl (XT.ii_ge_t q) ho hp k
theorem g_if_ge (X : Stand p l e R s m args below meth c T locs cells slots) (hx : p.tables.exec = Jvm.exec) {x : Int32} {o : Int} {pc' : Nat} (hd : decode c.code pc = .ok (.ifCond .ge o, 3)) (ho : 0 ≤ (pc : Int) + o) (hp : ((pc : Int) + o).toNat = pc') (hT : (¬ x < 0) → Goes p.tables e below (T.setTop (mkF m pc' Ls st)) P) (hF : (x < 0) → Goes p.tables e below (T.setTop (mkF m (pc + 3) Ls st)) P) : Goes p.tables e below (T.setTop (mkF m pc Ls (.int x :: st))) P := by
  by_cases q : x < 0
  · exact (hF q).of fun _ k => XS.ifNo X.here hx rfl hd rfl (XT.i0_ge_f q) k
  · exact (hT q).of fun _ k => XS.ifYes X.here hx rfl rfl hd rfl (XT.i0_ge_t q) ho hp k
theorem g_lif_ge (X : Stand p l e R s m args below meth c T locs cells slots) (hx : p.tables.exec = Jvm.exec) {x y : Int64} {o : Int} {pc' : Nat} (hd : decode c.code pc = .ok (.ifCond .ge o, 3)) (ho : 0 ≤ (pc : Int) + o) (hp : ((pc : Int) + o).toNat = pc') (hT : (¬ x < y) → Goes p.tables e below (T.setTop (mkF m pc' Ls st)) P) (hF : (x < y) → Goes p.tables e below (T.setTop (mkF m (pc + 3) Ls st)) P) : Goes p.tables e below (T.setTop (mkF m pc Ls (.int (XT.cmpL x y) :: st))) P := by
  by_cases q : x < y
  · exact (hF q).of fun _ k => XS.ifNo X.here hx rfl hd rfl (XT.ll_ge_f q) k
  · exact (hT q).of fun _ k => XS.ifYes X.here hx rfl rfl hd rfl (XT.ll_ge_t q) ho hp k
theorem g_icmp_gt (X : Stand p l e R s m args below meth c T locs cells slots) (hx : p.tables.exec = Jvm.exec) {x y : Int32} {o : Int} {pc' : Nat} (hd : decode c.code pc = .ok (.if_icmp .gt o, 3)) (ho : 0 ≤ (pc : Int) + o) (hp : ((pc : Int) + o).toNat = pc') (hT : (y < x) → Goes p.tables e below (T.setTop (mkF m pc' Ls st)) P) (hF : (¬ y < x) → Goes p.tables e below (T.setTop (mkF m (pc + 3) Ls st)) P) : Goes p.tables e below (T.setTop (mkF m pc Ls (.int y :: .int x :: st))) P := by
  by_cases q : y < x
  · exact (hT q).of fun _ k => XS.icmpYes X.here hx rfl rfl hd rfl (XT.ii_gt_t q) ho hp k
  · exact (hF q).of fun _ k => XS.icmpNo X.here hx rfl hd rfl (XT.ii_gt_f q) k
theorem g_if_gt (X : Stand p l e R s m args below meth c T locs cells slots) (hx : p.tables.exec = Jvm.exec) {x : Int32} {o : Int} {pc' : Nat} (hd : decode c.code pc = .ok (.ifCond .gt o, 3)) (ho : 0 ≤ (pc : Int) + o) (hp : ((pc : Int) + o).toNat = pc') (hT : (0 < x) → Goes p.tables e below (T.setTop (mkF m pc' Ls st)) P) (hF : (¬ 0 < x) → Goes p.tables e below (T.setTop (mkF m (pc + 3) Ls st)) P) : Goes p.tables e below (T.setTop (mkF m pc Ls (.int x :: st))) P := by
  by_cases q : 0 < x
  · exact (hT q).of fun _ k => XS.ifYes X.here hx rfl rfl hd rfl (XT.i0_gt_t q) ho hp k
  · exact (hF q).of fun _ k => XS.ifNo X.here hx rfl hd rfl (XT.i0_gt_f q) k
theorem g_lif_gt (X : Stand p l e R s m args below meth c T locs cells slots) (hx : p.tables.exec = Jvm.exec) {x y : Int64} {o : Int} {pc' : Nat} (hd : decode c.code pc = .ok (.ifCond .gt o, 3)) (ho : 0 ≤ (pc : Int) + o) (hp : ((pc : Int) + o).toNat = pc') (hT : (y < x) → Goes p.tables e below (T.setTop (mkF m pc' Ls st)) P) (hF : (¬ y < x) → Goes p.tables e below (T.setTop (mkF m (pc + 3) Ls st)) P) : Goes p.tables e below (T.setTop (mkF m pc Ls (.int (XT.cmpL x y) :: st))) P := by
  by_cases q : y < x
  · exact (hT q).of fun _ k => XS.ifYes X.here hx rfl rfl hd rfl (XT.ll_gt_t q) ho hp k
  · exact (hF q).of fun _ k => XS.ifNo X.here hx rfl hd rfl (XT.ll_gt_f q) k
theorem g_icmp_le (X : Stand p l e R s m args below meth c T locs cells slots) (hx : p.tables.exec = Jvm.exec) {x y : Int32} {o : Int} {pc' : Nat} (hd : decode c.code pc = .ok (.if_icmp .le o, 3)) (ho : 0 ≤ (pc : Int) + o) (hp : ((pc : Int) + o).toNat = pc') (hT : (¬ y < x) → Goes p.tables e below (T.setTop (mkF m pc' Ls st)) P) (hF : (y < x) → Goes p.tables e below (T.setTop (mkF m (pc + 3) Ls st)) P) : Goes p.tables e below (T.setTop (mkF m pc Ls (.int y :: .int x :: st))) P := by
  by_cases q : y < x
  · exact (hF q).of fun _ k => XS.icmpNo X.here hx rfl hd rfl (XT.ii_le_f q) k
  · exact (hT q).of fun _ k => XS.icmpYes X.here hx rfl rfl hd rfl (XT.ii_le_t q) ho hp k
theorem g_if_le (X : Stand p l e R s m args below meth c T locs cells slots) (hx : p.tables.exec = Jvm.exec) {x : Int32} {o : Int} {pc' : Nat} (hd : decode c.code pc = .ok (.ifCond .le o, 3)) (ho : 0 ≤ (pc : Int) + o) (hp : ((pc : Int) + o).toNat = pc') (hT : (¬ 0 < x) → Goes p.tables e below (T.setTop (mkF m pc' Ls st)) P) (hF : (0 < x) → Goes p.tables e below (T.setTop (mkF m (pc + 3) Ls st)) P) : Goes p.tables e below (T.setTop (mkF m pc Ls (.int x :: st))) P := by
  by_cases q : 0 < x
  · exact (hF q).of fun _ k => XS.ifNo X.here hx rfl hd rfl (XT.i0_le_f q) k
  · exact (hT q).of fun _ k => XS.ifYes X.here hx rfl rfl hd rfl (XT.i0_le_t q) ho hp k
theorem g_lif_le (X : Stand p l e R s m args below meth c T locs cells slots) (hx : p.tables.exec = Jvm.exec) {x y : Int64} {o : Int} {pc' : Nat} (hd : decode c.code pc = .ok (.ifCond .le o, 3)) (ho : 0 ≤ (pc : Int) + o) (hp : ((pc : Int) + o).toNat = pc') (hT : (¬ y < x) → Goes p.tables e below (T.setTop (mkF m pc' Ls st)) P) (hF : (y < x) → Goes p.tables e below (T.setTop (mkF m (pc + 3) Ls st)) P) : Goes p.tables e below (T.setTop (mkF m pc Ls (.int (XT.cmpL x y) :: st))) P := by
  by_cases q : y < x
  · exact (hF q).of fun _ k => XS.ifNo X.here hx rfl hd rfl (XT.ll_le_f q) k
  · exact (hT q).of fun _ k => XS.ifYes X.here hx rfl rfl hd rfl (XT.ll_le_t q) ho hp k
theorem g_ifnull_ref (X : Stand p l e R s m args below meth c T locs cells slots) (hx : p.tables.exec = Jvm.exec) {b : Addr} {o : Int} (hd : decode c.code pc = .ok (.ifnull o, 3)) (hr : Goes p.tables e below (T.setTop (mkF m (pc + 3) Ls st)) P) : Goes p.tables e below (T.setTop (mkF m pc Ls (.ref b :: st))) P := hr.of fun _ k => XS.ifnullNo X.here hx rfl hd rfl k
theorem g_ifnull_null (X : Stand p l e R s m args below meth c T locs cells slots) (hx : p.tables.exec = Jvm.exec)  {o : Int} {pc' : Nat} (hd : decode c.code pc = .ok (.ifnull o, 3)) (ho : 0 ≤ (pc : Int) + o) (hp : ((pc : Int) + o).toNat = pc') (hr : Goes p.tables e below (T.setTop (mkF m pc' Ls st)) P) : Goes p.tables e below (T.setTop (mkF m pc Ls (.null :: st))) P := hr.of fun _ k => XS.ifnullYes X.here hx rfl rfl hd rfl ho hp k
theorem g_ifnonnull_ref (X : Stand p l e R s m args below meth c T locs cells slots) (hx : p.tables.exec = Jvm.exec) {b : Addr} {o : Int} {pc' : Nat} (hd : decode c.code pc = .ok (.ifnonnull o, 3)) (ho : 0 ≤ (pc : Int) + o) (hp : ((pc : Int) + o).toNat = pc') (hr : Goes p.tables e below (T.setTop (mkF m pc' Ls st)) P) : Goes p.tables e below (T.setTop (mkF m pc Ls (.ref b :: st))) P := hr.of fun _ k => XT.ifnonnullYes X.here hx rfl rfl hd rfl ho hp k
theorem g_ifnonnull_null (X : Stand p l e R s m args below meth c T locs cells slots) (hx : p.tables.exec = Jvm.exec)  {o : Int} (hd : decode c.code pc = .ok (.ifnonnull o, 3)) (hr : Goes p.tables e below (T.setTop (mkF m (pc + 3) Ls st)) P) : Goes p.tables e below (T.setTop (mkF m pc Ls (.null :: st))) P := hr.of fun _ k => XT.ifnonnullNo X.here hx rfl hd rfl k
theorem g_acmp_eq (X : Stand p l e R s m args below meth c T locs cells slots) (hx : p.tables.exec = Jvm.exec) {x y : Value} (hx' : x.isRef = true) (hy' : y.isRef = true) {o : Int} {pc' : Nat} (hd : decode c.code pc = .ok (.if_acmp .eq o, 3)) (ho : 0 ≤ (pc : Int) + o) (hp : ((pc : Int) + o).toNat = pc') (hT : (x = y) → Goes p.tables e below (T.setTop (mkF m pc' Ls st)) P) (hF : (¬ x = y) → Goes p.tables e below (T.setTop (mkF m (pc + 3) Ls st)) P) : Goes p.tables e below (T.setTop (mkF m pc Ls (y :: x :: st))) P := by
  by_cases q : x = y
  · exact (hT q).of fun _ k => XT.acmpYes X.here hx rfl rfl hd rfl hx' hy' (by simp [XT.acmp, q]) ho hp k
  · exact (hF q).of fun _ k => XT.acmpNo X.here hx rfl hd rfl hx' hy' (by simp [XT.acmp, q]) k
theorem g_acmp_ne (X : Stand p l e R s m args below meth c T locs cells slots) (hx : p.tables.exec = Jvm.exec) {x y : Value} (hx' : x.isRef = true) (hy' : y.isRef = true) {o : Int} {pc' : Nat} (hd : decode c.code pc = .ok (.if_acmp .ne o, 3)) (ho : 0 ≤ (pc : Int) + o) (hp : ((pc : Int) + o).toNat = pc') (hT : (¬ x = y) → Goes p.tables e below (T.setTop (mkF m pc' Ls st)) P) (hF : (x = y) → Goes p.tables e below (T.setTop (mkF m (pc + 3) Ls st)) P) : Goes p.tables e below (T.setTop (mkF m pc Ls (y :: x :: st))) P := by
  by_cases q : x = y
  · exact (hF q).of fun _ k => XT.acmpNo X.here hx rfl hd rfl hx' hy' (by simp [XT.acmp, q]) k
  · exact (hT q).of fun _ k => XT.acmpYes X.here hx rfl rfl hd rfl hx' hy' (by simp [XT.acmp, q]) ho hp k
/-- what a body owes at its end: it returned v, Q holds of it, the heap and the places written, within C cells and N slots -/
abbrev Fin (s : State) (C N : Nat) (Q : Option Value → Heap → List Loc → Prop) : State → Outcome → Prop := fun s₂ o => ∃ v L, o = .returned v ∧ Q v s₂.heap L ∧ FrameEnd s o s₂ L C N
variable {C N : Nat} {Q : Option Value → Heap → List Loc → Prop}
theorem g_ret (X : Stand p l e R s m args below meth c T locs cells slots) (hx : p.tables.exec = Jvm.exec) {w : Value} {t : FieldType} {i : Instr} (hret : meth.sig.returnType = some t) (hk : meth.locks = false) (hn : narrow t w = w)
    (hi : (i = .ireturn ∧ (t = .int ∨ t = .boolean ∨ t = .byte ∨ t = .char ∨ t = .short) ∧ ∃ z, w = .int z) ∨ (i = .lreturn ∧ t = .long ∧ ∃ z, w = .long z) ∨ (i = .dreturn ∧ t = .double ∧ ∃ z, w = .double z) ∨ (i = .freturn ∧ t = .float ∧ ∃ z, w = .float z) ∨ (i = .areturn ∧ t.isReference = true ∧ w.isRef = true))
    (hd : decode c.code pc = .ok (i, 1)) (hc : cells ≤ C) (hs : slots ≤ N) (hQ : Q (some w) T.heap locs) : Goes p.tables e below (T.setTop (mkF m pc Ls (w :: st))) (Fin s C N Q) := by
  obtain ⟨fs, hr, hrun, hended, hW, hsame⟩ := X.leave (v := some w) (fun h => by rw [hret] at h; cases h) hk
  exact ⟨_, _, retOut X hx hret hn hi hd hr, hrun, hended, _, _, rfl, hQ, ⟨_, rfl⟩, hW, hsame.mono hc hs⟩
theorem g_retI (X : Stand p l e R s m args below meth c T locs cells slots) (hx : p.tables.exec = Jvm.exec) {z : Int32} (hret : meth.sig.returnType = some .int) (hk : meth.locks = false) (hd : decode c.code pc = .ok (.ireturn, 1)) (hc : cells ≤ C) (hs : slots ≤ N) (hQ : Q (some (.int z)) T.heap locs) :
    Goes p.tables e below (T.setTop (mkF m pc Ls (.int z :: st))) (Fin s C N Q) := g_ret X hx hret hk rfl (Or.inl ⟨rfl, Or.inl rfl, _, rfl⟩) hd hc hs hQ
theorem g_retL (X : Stand p l e R s m args below meth c T locs cells slots) (hx : p.tables.exec = Jvm.exec) {z : Int64} (hret : meth.sig.returnType = some .long) (hk : meth.locks = false) (hd : decode c.code pc = .ok (.lreturn, 1)) (hc : cells ≤ C) (hs : slots ≤ N) (hQ : Q (some (.long z)) T.heap locs) :
    Goes p.tables e below (T.setTop (mkF m pc Ls (.long z :: st))) (Fin s C N Q) := g_ret X hx hret hk rfl (Or.inr (Or.inl ⟨rfl, rfl, _, rfl⟩)) hd hc hs hQ
theorem g_retA (X : Stand p l e R s m args below meth c T locs cells slots) (hx : p.tables.exec = Jvm.exec) {w : Value} {t : FieldType} (hret : meth.sig.returnType = some t) (hk : meth.locks = false) (ht : t.isReference = true) (hw : w.isRef = true) (hd : decode c.code pc = .ok (.areturn, 1)) (hc : cells ≤ C) (hs : slots ≤ N) (hQ : Q (some w) T.heap locs) :
    Goes p.tables e below (T.setTop (mkF m pc Ls (w :: st))) (Fin s C N Q) := g_ret X hx hret hk (by cases t <;> simp [FieldType.isReference] at ht <;> cases w <;> simp [Value.isRef] at hw <;> rfl) (Or.inr (Or.inr (Or.inr (Or.inr ⟨rfl, ht, hw⟩)))) hd hc hs hQ
theorem g_retZ (X : Stand p l e R s m args below meth c T locs cells slots) (hx : p.tables.exec = Jvm.exec) {z : Int32} (hz : z = 0 ∨ z = 1) (hret : meth.sig.returnType = some .boolean) (hk : meth.locks = false) (hd : decode c.code pc = .ok (.ireturn, 1)) (hc : cells ≤ C) (hs : slots ≤ N) (hQ : Q (some (.int z)) T.heap locs) :
    Goes p.tables e below (T.setTop (mkF m pc Ls (.int z :: st))) (Fin s C N Q) := g_ret X hx hret hk (by rcases hz with rfl | rfl <;> rfl) (Or.inl ⟨rfl, Or.inr (Or.inl rfl), _, rfl⟩) hd hc hs hQ
theorem g_retB (X : Stand p l e R s m args below meth c T locs cells slots) (hx : p.tables.exec = Jvm.exec) {z : Int32} (hz : z.toInt8.toInt32 = z) (hret : meth.sig.returnType = some .byte) (hk : meth.locks = false) (hd : decode c.code pc = .ok (.ireturn, 1)) (hc : cells ≤ C) (hs : slots ≤ N) (hQ : Q (some (.int z)) T.heap locs) :
    Goes p.tables e below (T.setTop (mkF m pc Ls (.int z :: st))) (Fin s C N Q) := g_ret X hx hret hk (by show Value.int z.toInt8.toInt32 = _; rw [hz]) (Or.inl ⟨rfl, Or.inr (Or.inr (Or.inl rfl)), _, rfl⟩) hd hc hs hQ
theorem g_ret0 (X : Stand p l e R s m args below meth c T locs cells slots) (hx : p.tables.exec = Jvm.exec) (hret : meth.sig.returnType = none) (hk : meth.locks = false) (hd : decode c.code pc = .ok (.return_, 1)) (hc : cells ≤ C) (hs : slots ≤ N) (hQ : Q none T.heap locs) :
    Goes p.tables e below (T.setTop (mkF m pc Ls [])) (Fin s C N Q) := by
  obtain ⟨fs, hr, hrun, hended, hW, hsame⟩ := X.leave (v := none) (fun _ => rfl) hk
  exact ⟨_, _, X.returnOut hx hret hd hr, hrun, hended, _, _, rfl, hQ, ⟨_, rfl⟩, hW, hsame.mono hc hs⟩
/-- the contract of a body, at these arguments and this heap -/
def Con (l : Launch) (Z : State) (y : MethodName) (bytes : ByteArray) (maxL : Nat) (ret : Option FieldType) (ws : List Jvm.Cond) (rm : Room) (C N : Nat) (as' : Array Value) (h : Heap) (Q : Option Value → Heap → List Loc → Prop) : Prop :=
  MetFree l y (head1 (Jvm.Cond.code y bytes maxL ret :: ws) rm) (fun a U => a = as' ∧ Z.Warmed39 U.vm ∧ U.heap = h) (fun _ _ _ _ _ => True) (fun _ U o U' => ∃ v L, o = .returned v ∧ Q v U'.heap L ∧ FrameEnd U o U' L C N)
theorem Con.body {y : MethodName} {bytes : ByteArray} {maxL : Nat} {ret : Option FieldType} {ws : List Jvm.Cond} {rm : Room} {as' : Array Value} (hp : plainFor y = true)
    (body : ∀ (p : Program) (e : Env) (s : State) (m : MethodId) (below : List Frame) (meth : Method) (c : Code) (T : State), p.tables.exec = Jvm.exec → c.code = bytes → c.maxLocals = maxL → s.vm.findClass y.cls = some m.cls → meth.name = y.name → Z.Warmed39 s.vm → meth.sig.returnType = ret → meth.locks = false →
      Stand p l e rm s m as' below meth c T [] 0 0 → T.heap = h → Goes p.tables e below (T.setTop (entryFrame m as' maxL)) (Fin s C N Q)) : Con l Z y bytes maxL ret ws rm C N as' h Q := by
  refine MetFree.of_bodySF hp hisR ?_
  intro p e s m args below meth c s₁ Bd hml hP hK
  obtain ⟨rfl, hZ, hh⟩ := hP
  exact body p e s m below meth c s₁ Bd.exec Bd.bytes hml (findClass_of_methodNamed Bd.named) (name_of_methodNamed Bd.named Bd.method).1 hZ Bd.returns (BodyLoose.notSynchronized Bd) (Stand.of_body Bd) (by rw [← hh, Bd.state]; rfl)
variable {y : MethodName} {bytes : ByteArray} {maxL : Nat} {ret : Option FieldType} {rm : Room} {as' : Array Value} {own : String} {index W : Nat} {argsL : List Value}
/-- a static call by the callee's contract -/
theorem g_callS (X : Stand p l e R s m args below meth c T locs cells slots) (hx : p.tables.exec = Jvm.exec) (hZ : Z.Warmed39 s.vm) (hown : s.vm.findClass own = some m.cls) (hml : Ls.size = c.maxLocals) (eT : T.heap = h)
    (wl : (Jvm.Cond.methodLink own index y).before a0 Z = true) (wt : (Jvm.Cond.static y).before a0 Z = true) (wz : (Jvm.Cond.initialized y.cls).before a0 Z = true) (wc : (Jvm.Cond.code y bytes maxL ret).before a0 Z = true)
    (hM : Con l Z y bytes maxL ret [] rm rm.cells rm.slots as' h Q) (argsL : List Value) (has : argsL.toArray = as') {S : List Value} (st : List Value) (hS : S = argsL.reverse ++ st) (hlen : ∀ sig, parseMethodDescriptor y.desc = some sig → argsL.length = sig.parameters.length)
    (hd : decode c.code pc = .ok (.invokestatic index, 3)) (hy : y.cls ≠ "java/lang/invoke/MethodHandle" ∧ y.cls ≠ "java/lang/invoke/VarHandle") (W : Nat) (hf : rm.frames + 1 ≤ R.frames) (hl : W + (maxL + 11) + rm.locals ≤ R.locals) (hW : (st.map fun v => v.category).sum ≤ W) (hc : cells + rm.cells ≤ R.cells) (hs : slots + rm.slots ≤ R.slots)
    (k : ∀ v T' L, Stand p l e R s m args below meth c T' (locs ++ L) (cells + rm.cells) (slots + rm.slots) → Q v T'.heap L → Goes p.tables e below (T'.setTop (mkF m (pc + 3) Ls (v.toList ++ st))) P) :
    Goes p.tables e below (T.setTop (mkF m pc Ls S)) P := by
  subst hS
  obtain ⟨v, vm₁, ⟨T', L', k', n'⟩, -, X', ⟨L, hQ, e1, e2, e3⟩, st'⟩ := Jvm.LawKit.callS X hx (y := y) hown (mvT hZ wl) (mvT hZ wt) (mvT hZ wz) (mvT hZ wc) hy (backOf (W := W) hM hZ wc wz hf hl) (g := mkF m pc Ls (argsL.reverse ++ st)) rfl hml (argsL := argsL) (rest := st) hlen rfl (by show 2 * 0 + _ ≤ _; omega) hd (fun _ _ => ⟨has, eT, hc, hs⟩)
  dsimp only [Pt.U, Pt.locs, Pt.cells, Pt.slots] at X' e1 e2 e3 st' hQ
  subst e1 e2 e3
  exact (k v T' L X' hQ).of st'
/-- a constructor by its contract -/
theorem g_callI (X : Stand p l e R s m args below meth c T locs cells slots) (hx : p.tables.exec = Jvm.exec) (hZ : Z.Warmed39 s.vm) (hown : s.vm.findClass own = some m.cls) (hml : Ls.size = c.maxLocals) (eT : T.heap = h) (hn : y.name = "<init>")
    (wl : (Jvm.Cond.methodLink own index y).before a0 Z = true) (wt : (Jvm.Cond.instanceMethod y).before a0 Z = true) (wz : (Jvm.Cond.initialized y.cls).before a0 Z = true) (wc : (Jvm.Cond.code y bytes maxL none).before a0 Z = true)
    (hM : Con l Z y bytes maxL none [] rm rm.cells rm.slots as' h Q) (a : Addr) (argsL : List Value) (has : (.ref a :: argsL).toArray = as') {S : List Value} (st : List Value) (hS : S = argsL.reverse ++ .ref a :: st) (hlen : ∀ sig, parseMethodDescriptor y.desc = some sig → argsL.length = sig.parameters.length)
    (hd : decode c.code pc = .ok (.invokespecial index, 3)) (hy : y.cls ≠ "java/lang/invoke/MethodHandle" ∧ y.cls ≠ "java/lang/invoke/VarHandle") (W : Nat) (hf : rm.frames + 1 ≤ R.frames) (hl : W + (maxL + 11) + rm.locals ≤ R.locals) (hW : (st.map fun v => v.category).sum ≤ W) (hc : cells + rm.cells ≤ R.cells) (hs : slots + rm.slots ≤ R.slots)
    (k : ∀ v T' L, Stand p l e R s m args below meth c T' (locs ++ L) (cells + rm.cells) (slots + rm.slots) → Q v T'.heap L → Goes p.tables e below (T'.setTop (mkF m (pc + 3) Ls (v.toList ++ st))) P) :
    Goes p.tables e below (T.setTop (mkF m pc Ls S)) P := by
  subst hS
  obtain ⟨v, vm₁, ⟨T', L', k', n'⟩, -, X', ⟨L, hQ, e1, e2, e3⟩, st'⟩ := X.specialBack hx (y := y) hn hown (mvT hZ wl) (mvT hZ wt) (mvT hZ wc) hy (backOf (W := W) hM hZ wc wz hf hl) (g := mkF m pc Ls (argsL.reverse ++ .ref a :: st)) rfl hml (Steps.refl _) (a := a) (argsL := argsL) (rest := st) hlen rfl (by show 2 * 0 + _ ≤ _; omega) hd (fun _ _ => ⟨has, eT, hc, hs⟩)
  dsimp only [Pt.U, Pt.locs, Pt.cells, Pt.slots] at X' e1 e2 e3 st' hQ
  subst e1 e2 e3
  exact (k v T' L X' hQ).tr st'
/-- an instance method by its contract -/
theorem g_callV (X : Stand p l e R s m args below meth c T locs cells slots) (hx : p.tables.exec = Jvm.exec) (hZ : Z.Warmed39 s.vm) (hown : s.vm.findClass own = some m.cls) (hml : Ls.size = c.maxLocals) (eT : T.heap = h) {K : String}
    (wl : (Jvm.Cond.methodLink own index y).before a0 Z = true) (wd : (Jvm.Cond.declares y).before a0 Z = true) (wv : (Jvm.Cond.selects K y y).before a0 Z = true) (wt : (Jvm.Cond.instanceMethod y).before a0 Z = true) (wz : (Jvm.Cond.initialized y.cls).before a0 Z = true) (wc : (Jvm.Cond.code y bytes maxL ret).before a0 Z = true)
    {a : Addr} (E : Exa Z h a K) (hM : Con l Z y bytes maxL ret [] rm rm.cells rm.slots as' h Q) (argsL : List Value) (has : (.ref a :: argsL).toArray = as') {S : List Value} (st : List Value) (hS : S = argsL.reverse ++ .ref a :: st) (hlen : ∀ sig, parseMethodDescriptor y.desc = some sig → argsL.length = sig.parameters.length)
    (hd : decode c.code pc = .ok (.invokevirtual index, 3)) (hy : y.cls ≠ "java/lang/invoke/MethodHandle" ∧ y.cls ≠ "java/lang/invoke/VarHandle") (W : Nat) (hf : rm.frames + 1 ≤ R.frames) (hl : W + (maxL + 11) + rm.locals ≤ R.locals) (hW : (st.map fun v => v.category).sum ≤ W) (hc : cells + rm.cells ≤ R.cells) (hs : slots + rm.slots ≤ R.slots)
    (k : ∀ v T' L, Stand p l e R s m args below meth c T' (locs ++ L) (cells + rm.cells) (slots + rm.slots) → Q v T'.heap L → Goes p.tables e below (T'.setTop (mkF m (pc + 3) Ls (v.toList ++ st))) P) :
    Goes p.tables e below (T.setTop (mkF m pc Ls S)) P := by
  subst hS
  obtain ⟨cq, kq, qa, qb, qc⟩ := isOf hZ eT E
  obtain ⟨v, vm₁, ⟨T', L', k', n'⟩, -, X', ⟨L, hQ, e1, e2, e3⟩, st'⟩ := X.virtualBack hx (y := y) (z := y) hown (mvT hZ wl) (mvT hZ wd) (notFace_of_selects (args := #[]) (mvT hZ wv)) (mvT hZ wv) (mvT hZ wt) hy (backOf (W := W) hM hZ wc wz hf hl) qa qc (g := mkF m pc Ls (argsL.reverse ++ .ref a :: st)) rfl hml (Steps.refl _) (argsL := argsL) (rest := st) hlen rfl (by show 2 * 0 + _ ≤ _; omega) hd (fun _ _ => ⟨has, eT, hc, hs⟩)
  dsimp only [Pt.U, Pt.locs, Pt.cells, Pt.slots] at X' e1 e2 e3 st' hQ
  subst e1 e2 e3
  exact (k v T' L X' hQ).tr st'
/-! objects -/
section Objects
variable {own K O R0 nm d host : String} {index kk : Nat} {a : Addr}
theorem g_new (X : Stand p l e R s m args below meth c T locs cells slots) (hx : p.tables.exec = Jvm.exec) (hZ : Z.Warmed39 s.vm) (hown : s.vm.findClass own = some m.cls) (eT : T.heap = h) (w : (Jvm.Cond.classLink own index K).before a0 Z = true) (wi : (Jvm.Cond.instantiable K kk).before a0 Z = true) (wz : (Jvm.Cond.initialized K).before a0 Z = true)
    (hd : decode c.code pc = .ok (.new index, 3)) (hc : cells + 1 ≤ R.cells) (hl : slots + kk ≤ R.slots)
    (k : ∀ T' h' a, a = h.size → Stand p l e R s m args below meth c T' locs (cells + 1) (slots + kk) → T'.heap = h' → Ext h h' → Exa Z h' a K → (∀ {O nm d : String} {ty : FieldType}, Laid Z a0 K O nm d → parseFieldDescriptor d = some ty → Fld Z h' a O nm d (defaultValue ty)) → Goes p.tables e below (T'.setTop (mkF m (pc + 3) Ls (.ref a :: st))) P) :
    Goes p.tables e below (T.setTop (mkF m pc Ls st)) P := by
  obtain ⟨T', h', X', e', E, A, D, -, st'⟩ := newO X hx hZ hown w wi wz eT (g := mkF m pc Ls st) rfl hd hc hl
  exact (k T' h' _ rfl X' e' E A D).of st'
theorem g_init0 (X : Stand p l e R s m args below meth c T locs cells slots) (hx : p.tables.exec = Jvm.exec) (hZ : Z.Warmed39 s.vm) (hown : s.vm.findClass own = some m.cls) (hml : Ls.size = c.maxLocals) (eT : T.heap = h) (w1 : (Jvm.Cond.methodLink own index Lib.objectInit).before a0 Z = true) (w2 : (Jvm.Cond.instanceMethod Lib.objectInit).before a0 Z = true)
    (w3 : (Jvm.Cond.code Lib.objectInit ⟨#[0xb1]⟩ 1 none).before a0 Z = true) (hd : decode c.code pc = .ok (.invokespecial index, 3)) (W : Nat) (hf : 1 ≤ R.frames) (hW : (st.map fun v => v.category).sum ≤ W) (hl : W + 12 ≤ R.locals)
    (k : ∀ T', Stand p l e R s m args below meth c T' locs cells slots → T'.heap = h → Goes p.tables e below (T'.setTop (mkF m (pc + 3) Ls st)) P) : Goes p.tables e below (T.setTop (mkF m pc Ls (.ref a :: st))) P := by
  obtain ⟨T', X', e', st'⟩ := initO X hx hZ hown w1 w2 w3 eT (g := mkF m pc Ls (.ref a :: st)) rfl hml rfl hd hf (W := W) (by show 2 * 0 + _ ≤ _; omega) hl
  exact (k T' X' e').of st'
theorem g_getF (X : Stand p l e R s m args below meth c T locs cells slots) (hx : p.tables.exec = Jvm.exec) (hZ : Z.Warmed39 s.vm) (hown : s.vm.findClass own = some m.cls) (eT : T.heap = h) (w : (Jvm.Cond.fieldLink own index R0 nm d).before a0 Z = true ∨ (Jvm.Cond.fieldLinkNest own index R0 nm d host).before a0 Z = true) (via : Via Z R0 O nm d)
    {v : Value} (F : Fld Z h a O nm d v) (hd : decode c.code pc = .ok (.getfield index, 3))
    (k : ∀ T', Stand p l e R s m args below meth c T' locs cells slots → T'.heap = h → Goes p.tables e below (T'.setTop (mkF m (pc + 3) Ls (v :: st))) P) : Goes p.tables e below (T.setTop (mkF m pc Ls (.ref a :: st))) P := by
  obtain ⟨T', X', e', st'⟩ := getF X hx hZ hown w via eT F (g := mkF m pc Ls (.ref a :: st)) rfl rfl hd
  exact (k T' X' e').of st'
theorem g_getS (X : Stand p l e R s m args below meth c T locs cells slots) (hx : p.tables.exec = Jvm.exec) (hZ : Z.Warmed39 s.vm) (hown : s.vm.findClass own = some m.cls) (eT : T.heap = h) (w : (Jvm.Cond.fieldLink own index O nm d).before a0 Z = true ∨ (Jvm.Cond.fieldLinkNest own index O nm d host).before a0 Z = true)
    {v : Value} (F : Sta Z h O nm d v) (hd : decode c.code pc = .ok (.getstatic index, 3))
    (k : ∀ T', Stand p l e R s m args below meth c T' locs cells slots → T'.heap = h → Goes p.tables e below (T'.setTop (mkF m (pc + 3) Ls (v :: st))) P) : Goes p.tables e below (T.setTop (mkF m pc Ls st)) P := by
  obtain ⟨T', X', e', st'⟩ := getS2 X hx hZ hown w Via.refl eT F (g := mkF m pc Ls st) rfl hd
  exact (k T' X' e').of st'
/-- a field's store; v': what the field then holds -/
theorem g_putF (X : Stand p l e R s m args below meth c T locs cells slots) (hx : p.tables.exec = Jvm.exec) (hZ : Z.Warmed39 s.vm) (hown : s.vm.findClass own = some m.cls) (eT : T.heap = h) (w : (Jvm.Cond.fieldLink own index R0 nm d).before a0 Z = true) (via : Via Z R0 O nm d)
    {v v' old : Value} (F : Fld Z h a O nm d old) (E : Exa Z h a K) (L : (Jvm.Cond.lays K O nm d).before a0 Z = true ∨ ((Jvm.Cond.laysFinal K O nm d).before a0 Z = true ∧ own = O ∧ meth.name = "<init>")) (wi : (Jvm.Cond.instantiable K kk).before a0 Z = true) {ty : FieldType} (hty : parseFieldDescriptor d = some ty) (hn : narrow ty v = v') (hf : fits ty v' = true)
    (hd : decode c.code pc = .ok (.putfield index, 3))
    (k : ∀ T' h', Stand p l e R s m args below meth c T' (locs ++ [⟨a, Jvm.RoadKit.slotOf Z O nm d⟩]) cells slots → T'.heap = h' → Wr h h' a (Jvm.RoadKit.slotOf Z O nm d) v' → Goes p.tables e below (T'.setTop (mkF m (pc + 3) Ls st)) P) : Goes p.tables e below (T.setTop (mkF m pc Ls (v :: .ref a :: st))) P := by
  obtain ⟨T', h', X', e', W', st'⟩ := putFN X hx hZ hown w via eT F E L wi hty hn hf (g := mkF m pc Ls (v :: .ref a :: st)) rfl rfl hd
  exact (k T' h' X' e' W').of st'
end Objects
/-! arrays: the components as a list -/
def Ar (Z : State) (h : Heap) (a : Addr) (ty : FieldType) (vs : List Value) : Prop := ∃ c : Cell, Arr Z h a c ty ∧ c.slots.toList = vs ∧ vs.length < 2 ^ 31 ∧ ∀ v ∈ vs, fits ty v = true
section Arrays
variable {a b : Addr} {ty : FieldType} {vs : List Value} {h' : Heap} {ws : List Addr}
theorem Ar.lt (F : Ar Z h a ty vs) : a < h.size := by obtain ⟨c, A, -⟩ := F; exact A.lt
theorem Ar.ext (F : Ar Z h a ty vs) (E : Ext h h') : Ar Z h' a ty vs := by obtain ⟨c, A, r⟩ := F; exact ⟨c, A.ext E, r⟩
theorem Ar.other (F : Ar Z h b ty vs) {sl : Nat} {v : Value} (W : Wr h h' a sl v) (q : b ≠ a) : Ar Z h' b ty vs := by obtain ⟨c, A, r⟩ := F; exact ⟨c, A.other W q, r⟩
theorem Ar.keep (F : Ar Z h a ty vs) (K : Keep h h' ws) (q : a ∉ ws) : Ar Z h' a ty vs := by obtain ⟨c, A, r⟩ := F; exact ⟨c, ⟨K.2.1 a c A.1 q, A.2⟩, r⟩
theorem own_nat {j : Int32} {i : Nat} (hj : j.toInt = i) : j.toNatClampNeg = i ∧ ¬ j < 0 := by
  have q : ¬ j < 0 := fun q => by have := Int32.lt_iff_toInt_lt.mp q; rw [show (0 : Int32).toInt = 0 from rfl] at this; omega
  have e := nat_of q
  exact ⟨by omega, q⟩
theorem own_in {j : Int32} {i : Nat} (hj : j.toInt = i) {c : Cell} (hs : c.slots.toList = vs) (hi : i < vs.length) : ¬ (j < 0 ∨ c.slots.size ≤ j.toNatClampNeg) := by
  obtain ⟨e, q⟩ := own_nat hj
  rintro (r | r)
  · exact q r
  · rw [← Array.length_toList, hs] at r; omega
theorem own_at {j : Int32} {i : Nat} (hj : j.toInt = i) {c : Cell} (hs : c.slots.toList = vs) {v : Value} (hv : vs[i]? = some v) : c.slots[j.toNatClampNeg]? = some v := by
  rw [(own_nat hj).1, ← Array.getElem?_toList, hs]; exact hv
theorem own_lt {i : Nat} {v : Value} (hv : vs[i]? = some v) : i < vs.length := (List.getElem?_eq_some_iff.mp hv).1
theorem Ar.set {j : Nat} {v : Value} (F : Ar Z h a ty vs) (W : Wr h h' a j v) (hf : fits ty v = true) : Ar Z h' a ty (vs.set j v) := by
  obtain ⟨c, A, hs, hl, hv⟩ := F
  refine ⟨c.setSlot j v, A.same W, by rw [← hs]; simp [Cell.setSlot], by rw [List.length_set]; exact hl, fun w hw => ?_⟩
  rcases List.mem_or_eq_of_mem_set hw with q | q
  · exact hv w q
  · rw [q]; exact hf
theorem g_iaload (X : Stand p l e R s m args below meth c T locs cells slots) (hx : p.tables.exec = Jvm.exec) (hZ : Z.Warmed39 s.vm) (eT : T.heap = h) (A : Ar Z h a .int vs) {j : Int32} {i : Nat} {v : Value} (hj : j.toInt = i) (hv : vs[i]? = some v) (hd : decode c.code pc = .ok (.iaload, 1))
    (hr : Goes p.tables e below (T.setTop (mkF m (pc + 1) Ls (v :: st))) P) : Goes p.tables e below (T.setTop (mkF m pc Ls (.int j :: .ref a :: st))) P := by
  obtain ⟨cl, A, hs, hl, -⟩ := A
  exact hr.of fun _ k => X.iaload hx (by rw [eT]; exact A.1) (State.isArrayOf_alike hZ.alike A.2.1) A.2.2 (own_in hj hs (own_lt hv)) (own_at hj hs hv) (g := mkF m pc Ls (.int j :: .ref a :: st)) rfl rfl hd _ k
theorem g_laload (X : Stand p l e R s m args below meth c T locs cells slots) (hx : p.tables.exec = Jvm.exec) (hZ : Z.Warmed39 s.vm) (eT : T.heap = h) (A : Ar Z h a .long vs) {j : Int32} {i : Nat} {v : Value} (hj : j.toInt = i) (hv : vs[i]? = some v) (hd : decode c.code pc = .ok (.laload, 1))
    (hr : Goes p.tables e below (T.setTop (mkF m (pc + 1) Ls (v :: st))) P) : Goes p.tables e below (T.setTop (mkF m pc Ls (.int j :: .ref a :: st))) P := by
  obtain ⟨cl, A, hs, hl, -⟩ := A
  exact hr.of fun _ k => X.laload hx (by rw [eT]; exact A.1) (State.isArrayOf_alike hZ.alike A.2.1) A.2.2 (own_in hj hs (own_lt hv)) (own_at hj hs hv) (g := mkF m pc Ls (.int j :: .ref a :: st)) rfl rfl hd _ k
theorem g_caload (X : Stand p l e R s m args below meth c T locs cells slots) (hx : p.tables.exec = Jvm.exec) (hZ : Z.Warmed39 s.vm) (eT : T.heap = h) (A : Ar Z h a .char vs) {j : Int32} {i : Nat} {v : Value} (hj : j.toInt = i) (hv : vs[i]? = some v) (hd : decode c.code pc = .ok (.caload, 1))
    (hr : Goes p.tables e below (T.setTop (mkF m (pc + 1) Ls (v :: st))) P) : Goes p.tables e below (T.setTop (mkF m pc Ls (.int j :: .ref a :: st))) P := by
  obtain ⟨cl, A, hs, hl, -⟩ := A
  exact hr.of fun _ k => X.caload hx (by rw [eT]; exact A.1) (State.isArrayOf_alike hZ.alike A.2.1) A.2.2 (own_in hj hs (own_lt hv)) (own_at hj hs hv) (g := mkF m pc Ls (.int j :: .ref a :: st)) rfl rfl hd _ k
theorem g_saload (X : Stand p l e R s m args below meth c T locs cells slots) (hx : p.tables.exec = Jvm.exec) (hZ : Z.Warmed39 s.vm) (eT : T.heap = h) (A : Ar Z h a .short vs) {j : Int32} {i : Nat} {v : Value} (hj : j.toInt = i) (hv : vs[i]? = some v) (hd : decode c.code pc = .ok (.saload, 1))
    (hr : Goes p.tables e below (T.setTop (mkF m (pc + 1) Ls (v :: st))) P) : Goes p.tables e below (T.setTop (mkF m pc Ls (.int j :: .ref a :: st))) P := by
  obtain ⟨cl, A, hs, hl, -⟩ := A
  exact hr.of fun _ k => X.saload hx (by rw [eT]; exact A.1) (State.isArrayOf_alike hZ.alike A.2.1) A.2.2 (own_in hj hs (own_lt hv)) (own_at hj hs hv) (g := mkF m pc Ls (.int j :: .ref a :: st)) rfl rfl hd _ k
theorem g_baload (X : Stand p l e R s m args below meth c T locs cells slots) (hx : p.tables.exec = Jvm.exec) (hZ : Z.Warmed39 s.vm) (eT : T.heap = h) (A : Ar Z h a .byte vs) {j : Int32} {i : Nat} {v : Value} (hj : j.toInt = i) (hv : vs[i]? = some v) (hd : decode c.code pc = .ok (.baload, 1))
    (hr : Goes p.tables e below (T.setTop (mkF m (pc + 1) Ls (v :: st))) P) : Goes p.tables e below (T.setTop (mkF m pc Ls (.int j :: .ref a :: st))) P := by
  obtain ⟨cl, A, hs, hl, -⟩ := A
  exact hr.of fun _ k => X.baloadBytes hx (by rw [eT]; exact A.1) (State.isArrayOf_alike hZ.alike A.2.1) A.2.2 (own_in hj hs (own_lt hv)) (own_at hj hs hv) (g := mkF m pc Ls (.int j :: .ref a :: st)) rfl rfl hd _ k
theorem g_zaload (X : Stand p l e R s m args below meth c T locs cells slots) (hx : p.tables.exec = Jvm.exec) (hZ : Z.Warmed39 s.vm) (eT : T.heap = h) (A : Ar Z h a .boolean vs) {j : Int32} {i : Nat} {v : Value} (hj : j.toInt = i) (hv : vs[i]? = some v) (hd : decode c.code pc = .ok (.baload, 1))
    (hr : Goes p.tables e below (T.setTop (mkF m (pc + 1) Ls (v :: st))) P) : Goes p.tables e below (T.setTop (mkF m pc Ls (.int j :: .ref a :: st))) P := by
  obtain ⟨cl, A, hs, hl, -⟩ := A
  exact hr.of fun _ k => X.baloadBooleans hx (by rw [eT]; exact A.1) (State.isArrayOf_alike hZ.alike A.2.1) A.2.2 (own_in hj hs (own_lt hv)) (own_at hj hs hv) (g := mkF m pc Ls (.int j :: .ref a :: st)) rfl rfl hd _ k
theorem g_aaload (X : Stand p l e R s m args below meth c T locs cells slots) (hx : p.tables.exec = Jvm.exec) (hZ : Z.Warmed39 s.vm) (eT : T.heap = h) (A : Ar Z h a ty vs) (hty : ty.isReference = true) {j : Int32} {i : Nat} {v : Value} (hj : j.toInt = i) (hv : vs[i]? = some v) (hd : decode c.code pc = .ok (.aaload, 1))
    (hr : Goes p.tables e below (T.setTop (mkF m (pc + 1) Ls (v :: st))) P) : Goes p.tables e below (T.setTop (mkF m pc Ls (.int j :: .ref a :: st))) P := by
  obtain ⟨cl, A, hs, hl, -⟩ := A
  exact hr.of fun _ k => X.aaload hx (by rw [eT]; exact A.1) (State.isArrayOf_alike hZ.alike A.2.1) hty A.2.2 (own_in hj hs (own_lt hv)) (own_at hj hs hv) (g := mkF m pc Ls (.int j :: .ref a :: st)) rfl rfl hd _ k
theorem g_alen (X : Stand p l e R s m args below meth c T locs cells slots) (hx : p.tables.exec = Jvm.exec) (hZ : Z.Warmed39 s.vm) (eT : T.heap = h) (A : Ar Z h a ty vs) (z : Int32) (hz : z.toInt = vs.length) (hd : decode c.code pc = .ok (.arraylength, 1))
    (hr : Goes p.tables e below (T.setTop (mkF m (pc + 1) Ls (.int z :: st))) P) : Goes p.tables e below (T.setTop (mkF m pc Ls (.ref a :: st))) P := by
  obtain ⟨cl, A, hs, hl, -⟩ := A
  have q : cl.slots.size.toInt32 = z := by
    have e1 : cl.slots.size = vs.length := by rw [← hs, Array.length_toList]
    exact Int32.toInt_inj.mp (by rw [len_toInt (by rw [e1]; exact hl), hz, e1])
  subst q
  exact hr.of fun _ k => X.arraylength hx (cell := cl) (by rw [eT]; exact A.1) (State.isArrayOf_alike hZ.alike A.2.1) (g := mkF m pc Ls (.ref a :: st)) rfl (rest := st) rfl hd _ k
theorem g_newarr (X : Stand p l e R s m args below meth c T locs cells slots) (hx : p.tables.exec = Jvm.exec) (hZ : Z.Warmed39 s.vm) (eT : T.heap = h) {aty : ArrayType} (w : (Jvm.Cond.arrayClass (newarray.typeOf aty)).before a0 Z = true) (hd : decode c.code pc = .ok (.newarray aty, 2)) {z : Int32} {n : Nat} (hz : z.toInt = n) (cap : Nat) (hcap : n ≤ cap) (hb : cap * 8 ≤ 536870912) (hc : cells + 1 ≤ R.cells) (hl : slots + cap ≤ R.slots) {ad : String} (had : "[" ++ (newarray.typeOf aty).toString = ad) (hfit : fits (newarray.typeOf aty) (defaultValue (newarray.typeOf aty)) = true)
    (k : ∀ T' h' a, a = h.size → Stand p l e R s m args below meth c T' locs (cells + 1) (slots + cap) → T'.heap = h' → Ext h h' → Ar Z h' a (newarray.typeOf aty) (List.replicate n (defaultValue (newarray.typeOf aty))) → Exa Z h' a ad → Goes p.tables e below (T'.setTop (mkF m (pc + 2) Ls (.ref a :: st))) P) :
    Goes p.tables e below (T.setTop (mkF m pc Ls (.int z :: st))) P := by
  obtain ⟨e1, q⟩ := own_nat hz
  obtain ⟨T', h', cA, X', e', E, A, F, st'⟩ := newPE X hx hZ w eT (g := mkF m pc Ls (.int z :: st)) rfl hd rfl q (cap := cap) (by rw [e1]; exact hcap) hb hc hl had
  refine (k T' h' _ rfl X' e' E ⟨_, A, ?_, ?_, ?_⟩ F).of st'
  · simp [newA, e1]
  · rw [List.length_replicate]; have := rng32 z; omega
  · intro v hv; rw [(List.mem_replicate.mp hv).2]; exact hfit
theorem g_iastore (X : Stand p l e R s m args below meth c T locs cells slots) (hx : p.tables.exec = Jvm.exec) (hZ : Z.Warmed39 s.vm) (eT : T.heap = h) (A : Ar Z h a .int vs) {j : Int32} {x : Int32} (i : Nat) (hj : j.toInt = i) (hi : i < vs.length) (hd : decode c.code pc = .ok (.iastore, 1))
    (k : ∀ T' h', Stand p l e R s m args below meth c T' (locs ++ [⟨a, i⟩]) cells slots → T'.heap = h' → Wr h h' a i (.int x) → Ar Z h' a .int (vs.set i (.int x)) → Goes p.tables e below (T'.setTop (mkF m (pc + 1) Ls st)) P) : Goes p.tables e below (T.setTop (mkF m pc Ls (.int x :: .int j :: .ref a :: st))) P := by
  have A' := A
  obtain ⟨cl, A, hs, hl, -⟩ := A
  obtain ⟨T', h', X', e', W', st'⟩ := stI X hx hZ eT A (own_in hj hs hi) (g := mkF m pc Ls (.int x :: .int j :: .ref a :: st)) rfl rfl hd
  rw [(own_nat hj).1] at X' W'
  exact (k T' h' X' e' W' (A'.set W' rfl)).of st'
theorem g_lastore (X : Stand p l e R s m args below meth c T locs cells slots) (hx : p.tables.exec = Jvm.exec) (hZ : Z.Warmed39 s.vm) (eT : T.heap = h) (A : Ar Z h a .long vs) {j : Int32} {x : Int64} (i : Nat) (hj : j.toInt = i) (hi : i < vs.length) (hd : decode c.code pc = .ok (.lastore, 1))
    (k : ∀ T' h', Stand p l e R s m args below meth c T' (locs ++ [⟨a, i⟩]) cells slots → T'.heap = h' → Wr h h' a i (.long x) → Ar Z h' a .long (vs.set i (.long x)) → Goes p.tables e below (T'.setTop (mkF m (pc + 1) Ls st)) P) : Goes p.tables e below (T.setTop (mkF m pc Ls (.long x :: .int j :: .ref a :: st))) P := by
  have A' := A
  obtain ⟨cl, A, hs, hl, -⟩ := A
  obtain ⟨T', h', X', e', W', st'⟩ := stJ X hx hZ eT A (own_in hj hs hi) (g := mkF m pc Ls (.long x :: .int j :: .ref a :: st)) rfl rfl hd
  rw [(own_nat hj).1] at X' W'
  exact (k T' h' X' e' W' (A'.set W' rfl)).of st'
theorem g_castore (X : Stand p l e R s m args below meth c T locs cells slots) (hx : p.tables.exec = Jvm.exec) (hZ : Z.Warmed39 s.vm) (eT : T.heap = h) (A : Ar Z h a .char vs) {j x : Int32} (i : Nat) (hj : j.toInt = i) (hi : i < vs.length) (x' : Int32) (hn : nar .char x = x') (hd : decode c.code pc = .ok (.castore, 1))
    (k : ∀ T' h', Stand p l e R s m args below meth c T' (locs ++ [⟨a, i⟩]) cells slots → T'.heap = h' → Wr h h' a i (.int x') → Ar Z h' a .char (vs.set i (.int x')) → Goes p.tables e below (T'.setTop (mkF m (pc + 1) Ls st)) P) : Goes p.tables e below (T.setTop (mkF m pc Ls (.int x :: .int j :: .ref a :: st))) P := by
  have A' := A
  obtain ⟨cl, A, hs, hl, -⟩ := A
  obtain ⟨T', h', X', e', W', st'⟩ := stC X hx hZ eT A (own_in hj hs hi) (g := mkF m pc Ls (.int x :: .int j :: .ref a :: st)) rfl rfl hd
  rw [(own_nat hj).1, hn] at W'
  rw [(own_nat hj).1] at X'
  exact (k T' h' X' e' W' (A'.set W' (by rw [← hn]; exact fits_nar_char x))).of st'
theorem g_bastore (X : Stand p l e R s m args below meth c T locs cells slots) (hx : p.tables.exec = Jvm.exec) (hZ : Z.Warmed39 s.vm) (eT : T.heap = h) (A : Ar Z h a .byte vs) {j x : Int32} (i : Nat) (hj : j.toInt = i) (hi : i < vs.length) (x' : Int32) (hn : nar .byte x = x') (hd : decode c.code pc = .ok (.bastore, 1))
    (k : ∀ T' h', Stand p l e R s m args below meth c T' (locs ++ [⟨a, i⟩]) cells slots → T'.heap = h' → Wr h h' a i (.int x') → Ar Z h' a .byte (vs.set i (.int x')) → Goes p.tables e below (T'.setTop (mkF m (pc + 1) Ls st)) P) : Goes p.tables e below (T.setTop (mkF m pc Ls (.int x :: .int j :: .ref a :: st))) P := by
  have A' := A
  obtain ⟨cl, A, hs, hl, -⟩ := A
  obtain ⟨T', h', X', e', W', st'⟩ := stB X hx hZ eT A (own_in hj hs hi) (g := mkF m pc Ls (.int x :: .int j :: .ref a :: st)) rfl rfl hd
  rw [(own_nat hj).1, hn] at W'
  rw [(own_nat hj).1] at X'
  exact (k T' h' X' e' W' (A'.set W' (by rw [← hn]; exact fits_nar_byte x))).of st'
theorem g_zastore (X : Stand p l e R s m args below meth c T locs cells slots) (hx : p.tables.exec = Jvm.exec) (hZ : Z.Warmed39 s.vm) (eT : T.heap = h) (A : Ar Z h a .boolean vs) {j x : Int32} (i : Nat) (hj : j.toInt = i) (hi : i < vs.length) (x' : Int32) (hn : nar .boolean x = x') (hd : decode c.code pc = .ok (.bastore, 1))
    (k : ∀ T' h', Stand p l e R s m args below meth c T' (locs ++ [⟨a, i⟩]) cells slots → T'.heap = h' → Wr h h' a i (.int x') → Ar Z h' a .boolean (vs.set i (.int x')) → Goes p.tables e below (T'.setTop (mkF m (pc + 1) Ls st)) P) : Goes p.tables e below (T.setTop (mkF m pc Ls (.int x :: .int j :: .ref a :: st))) P := by
  have A' := A
  obtain ⟨cl, A, hs, hl, -⟩ := A
  obtain ⟨T', h', X', e', W', st'⟩ := stZ X hx hZ eT A (own_in hj hs hi) (g := mkF m pc Ls (.int x :: .int j :: .ref a :: st)) rfl rfl hd
  rw [(own_nat hj).1, hn] at W'
  rw [(own_nat hj).1] at X'
  exact (k T' h' X' e' W' (A'.set W' (by rw [← hn]; exact fits_nar_bool x))).of st'
theorem g_clone (X : Stand p l e R s m args below meth c T locs cells slots) (hx : p.tables.exec = Jvm.exec) (hZ : Z.Warmed39 s.vm) {own ad : String} {index : Nat} (hown : s.vm.findClass own = some m.cls) (hml : Ls.size = c.maxLocals) (eT : T.heap = h)
    (w1 : (Jvm.Cond.methodLink own index ⟨ad, "clone", "()Ljava/lang/Object;"⟩).before a0 Z = true) (w2 : (Jvm.Cond.sameMethod ad "java/lang/Object" "clone" "()Ljava/lang/Object;").before a0 Z = true) (w3 : (Jvm.Cond.native ⟨"java/lang/Object", "clone", "()Ljava/lang/Object;"⟩).before a0 Z = true)
    (w4 : (Jvm.Cond.instanceMethod ⟨"java/lang/Object", "clone", "()Ljava/lang/Object;"⟩).before a0 Z = true) (w5 : (Jvm.Cond.selects ad ⟨ad, "clone", "()Ljava/lang/Object;"⟩ ⟨"java/lang/Object", "clone", "()Ljava/lang/Object;"⟩).before a0 Z = true) (w6 : (Jvm.Cond.castable ad "java/lang/Cloneable").before a0 Z = true)
    (A : Ar Z h a ty vs) (E : Exa Z h a ad) (hd : decode c.code pc = .ok (.invokevirtual index, 3)) (W cap : Nat) (hf : 1 ≤ R.frames) (hW : (st.map fun v => v.category).sum ≤ W) (hl : W + 14 ≤ R.locals) (hcap : vs.length ≤ cap) (hc : cells + 1 ≤ R.cells) (hsl : slots + cap ≤ R.slots)
    (k : ∀ T' h' b, b = h.size → Stand p l e R s m args below meth c T' locs (cells + 1) (slots + cap) → T'.heap = h' → Ext h h' → Ar Z h' b ty vs → Exa Z h' b ad → Goes p.tables e below (T'.setTop (mkF m (pc + 3) Ls (.ref b :: st))) P) :
    Goes p.tables e below (T.setTop (mkF m pc Ls (.ref a :: st))) P := by
  obtain ⟨cl, A, hs, hln, hft⟩ := A
  have hsz : cl.slots.size = vs.length := by rw [← hs, Array.length_toList]
  obtain ⟨T', h', X', e', Ex, A', E', st'⟩ := cloneA X hx hZ hown w1 w2 w3 w4 w5 w6 eT A E (fitC_of A (fun i hi v hv => hft v (by rw [← hs]; exact Array.mem_toList_iff.mpr (Array.mem_of_getElem? hv)))) (g := mkF m pc Ls (.ref a :: st)) rfl hml rfl hd hf (W := W) (cap := cap) (by show 2 * 0 + _ ≤ _; omega) hl (by rw [hsz]; exact hcap) hc hsl
  exact (k T' h' _ rfl X' e' Ex ⟨_, A', hs, hln, hft⟩ E').of st'
theorem g_cast (X : Stand p l e R s m args below meth c T locs cells slots) (hx : p.tables.exec = Jvm.exec) (hZ : Z.Warmed39 s.vm) {own K : String} {index : Nat} (hown : s.vm.findClass own = some m.cls) (eT : T.heap = h) (w : (Jvm.Cond.classLink own index K).before a0 Z = true) (F : Ins Z h a K true) (hd : decode c.code pc = .ok (.checkcast index, 3))
    (k : ∀ T', Stand p l e R s m args below meth c T' locs cells slots → T'.heap = h → Goes p.tables e below (T'.setTop (mkF m (pc + 3) Ls (.ref a :: st))) P) : Goes p.tables e below (T.setTop (mkF m pc Ls (.ref a :: st))) P := by
  obtain ⟨T', X', e', st'⟩ := castY X hx hZ hown w eT F (g := mkF m pc Ls (.ref a :: st)) rfl rfl hd
  exact (k T' X' e').of st'
theorem Ar.toV (F : Ar Z h a ty vs) (d : Value) : ∃ k, Arv Z h a k ty (Int32.ofNat vs.length) vs d := by
  obtain ⟨cl, A, hs, hl, hf⟩ := F
  have e1 : cl.slots.size = vs.length := by rw [← hs, Array.length_toList]
  obtain ⟨e2, q⟩ := own_nat (j := Int32.ofNat vs.length) (i := vs.length) (Int32.toInt_ofNat_of_lt (by omega))
  refine ⟨cl.cls, cl, A, rfl, by rw [e2, e1], q, fun i hi => ?_, fun i hi => ?_⟩
  · rw [← Array.getElem?_toList, hs, List.getD_eq_getElem?_getD, List.getElem?_eq_getElem (by omega)]; rfl
  · rw [List.getD_eq_getElem?_getD, List.getElem?_eq_getElem (by omega)]; exact hf _ (List.getElem_mem _)
theorem Ar.ofV {k : ClassId} {z : Int32} {d : Value} (F : Arv Z h a k ty z vs d) (hl : vs.length = z.toNatClampNeg) (hb : vs.length < 2 ^ 31) : Ar Z h a ty vs := by
  obtain ⟨cl, A, -, hs, -, H, G⟩ := F
  have e : cl.slots.toList = vs := by
    apply List.ext_getElem?
    intro i
    by_cases hi : i < cl.slots.size
    · rw [Array.getElem?_toList, H i hi, List.getD_eq_getElem?_getD, List.getElem?_eq_getElem (by omega)]; rfl
    · rw [List.getElem?_eq_none (by rw [Array.length_toList]; omega), List.getElem?_eq_none (by omega)]
  refine ⟨cl, A, e, hb, fun v hv => ?_⟩
  obtain ⟨i, hi, rfl⟩ := List.getElem_of_mem hv
  have q := G i (by omega)
  rwa [List.getD_eq_getElem?_getD, List.getElem?_eq_getElem hi] at q
theorem own_rangeTake (vs : List Value) (d : Value) (n : Nat) (hn : n ≤ vs.length) : (List.range n).map (fun i => vs.getD (0 + i) d) = vs.take n := by
  apply List.ext_getElem
  · simp; omega
  · intro i h1 h2
    simp at h1 h2
    simp [List.getElem?_eq_getElem (show i < vs.length by omega)]
theorem g_acopy (X : Stand p l e R s m args below meth c T locs cells slots) (hx : p.tables.exec = Jvm.exec) (hZ : Z.Warmed39 s.vm) {own : String} {index : Nat} (hown : s.vm.findClass own = some m.cls) (hml : Ls.size = c.maxLocals) (eT : T.heap = h)
    (w1 : (Jvm.Cond.methodLink own index Jvm.Stand.acN).before a0 Z = true) (w2 : (Jvm.Cond.native Jvm.Stand.acN).before a0 Z = true) (w3 : (Jvm.Cond.static Jvm.Stand.acN).before a0 Z = true) (w4 : (Jvm.Cond.initialized "java/lang/System").before a0 Z = true)
    {vd : List Value} (A : Ar Z h a ty vs) (B : Ar Z h b ty vd) (hp : refKind ty = false) {nn : Int32} {n : Nat} (hn : nn.toInt = n) (h1 : n ≤ vs.length) (h2 : n ≤ vd.length) {n0 : Nat} (N : Fr n0 locs) (ge : n0 ≤ b) (hd : decode c.code pc = .ok (.invokestatic index, 3))
    (W : Nat) (hf : 1 ≤ R.frames) (hW : (st.map fun v => v.category).sum ≤ W) (hlo : W + (nativeFrameWords "java/lang/System" "arraycopy" 5 + 11) ≤ R.locals)
    (k : ∀ T' h' L, Stand p l e R s m args below meth c T' L cells slots → T'.heap = h' → Fr n0 L → Keep h h' [b] → Ar Z h' b ty (vs.take n ++ vd.drop n) → Goes p.tables e below (T'.setTop (mkF m (pc + 3) Ls st)) P) :
    Goes p.tables e below (T.setTop (mkF m pc Ls (.int nn :: .int 0 :: .ref b :: .int 0 :: .ref a :: st))) P := by
  obtain ⟨k1, A1⟩ := A.toV .null
  obtain ⟨k2, B1⟩ := B.toV .null
  obtain ⟨en, qn⟩ := own_nat hn
  have lv : vs.length < 2 ^ 31 := by obtain ⟨_, _, _, q, _⟩ := A; exact q
  have ld : vd.length < 2 ^ 31 := by obtain ⟨_, _, _, q, _⟩ := B; exact q
  have ev : (Int32.ofNat vs.length).toNatClampNeg = vs.length := (own_nat (Int32.toInt_ofNat_of_lt (by omega))).1
  have ed : (Int32.ofNat vd.length).toNatClampNeg = vd.length := (own_nat (Int32.toInt_ofNat_of_lt (by omega))).1
  have e0 : (0 : Int32).toNatClampNeg = 0 := rfl
  obtain ⟨T', h', L, X', e', N', K', B', st'⟩ := cpA X hx hZ hown w1 w2 w3 w4 eT A1 B1 (sp := 0) (dp := 0) (nn := nn) (Or.inl ⟨rfl, hp⟩) (by decide) (by decide) qn (by rw [e0, en, ev]; omega) (by rw [e0, en, ed]; omega) rfl (by rw [e0, en]; omega) N ge (g := mkF m pc Ls (.int nn :: .int 0 :: .ref b :: .int 0 :: .ref a :: st)) rfl hml rfl hd hf (W := W) (by show 2 * 0 + _ ≤ _; omega) hlo
  rw [e0, en, own_rangeTake vs _ n h1, List.take_zero, List.nil_append, Nat.zero_add] at B'
  have hlen : (vs.take n ++ vd.drop n).length = vd.length := by rw [List.length_append, List.length_take, List.length_drop]; omega
  exact (k T' h' L X' e' N' K' (Ar.ofV B' (by rw [hlen, ed]) (by rw [hlen]; exact ld))).of st'
end Arrays
theorem own_nst {a : Addr} {K : String} (E : Exa Z h a K) : ∀ c : Cell, h[a]? = some c → c.vm.isStatics = false := fun c hc => by
  obtain ⟨cell, k, h1, -, -, h4, -⟩ := E
  cases h1.symm.trans hc
  exact h4
theorem own_stakeep {h' : Heap} {K n d : String} {v : Value} {ws : List Addr} (F : Sta Z h K n d v) (hK : Keep h h' ws) (q : ∀ x ∈ ws, ∀ c : Cell, h[x]? = some c → c.vm.isStatics = false) : Sta Z h' K n d v := by
  obtain ⟨cf, i, k, f, sa, cell, h1, h2, h3, h4, h5, h6, h7⟩ := F
  exact ⟨cf, i, k, f, sa, cell, h1, h2, h3, h4, hK.2.1 sa cell h5 (fun hm => by rw [q sa hm cell h5] at h6; cases h6), h6, h7⟩
/-! words on statics -/
section Words
variable {first : State} {o : Option Outcome} {idx : List Nat} {ta tb : Term}
theorem own_eqR {y : Addr} (h : (Jvm.Cond.eq ta tb).value args first o s idx = some true) (hb : tb.eval args first o idx s = some (.ref y)) : ta.eval args first o idx s = some (.ref y) := by
  obtain ⟨x, z, ha, hb', k1, k2⟩ := cmp_v (Or.inl h)
  cases hb.symm.trans hb'
  have e := gotT (eq_R ha hb k2.2 rfl) h
  rw [ha, e]
theorem own_eqI {y : Int32} (h : (Jvm.Cond.eq ta tb).value args first o s idx = some true) (hb : tb.eval args first o idx s = some (.int y)) : ta.eval args first o idx s = some (.int y) := by
  obtain ⟨x, z, ha, hb', k1, k2⟩ := cmp_v (Or.inl h)
  cases hb.symm.trans hb'
  obtain ⟨w, rfl⟩ := k2
  simp [Jvm.Cond.value, ha, hb] at h
  rw [ha, h]
end Words
end Walk
end Jvm.OwnW
namespace Jvm.Pilot.@@N@@
open Jvm Jvm.ClassFile Sem Op Lib Jvm.Free Jvm.Stand Jvm.LawKit Jvm.RoadKit Bundle Jvm.OwnW Jvm.Pilot.@@N@@.Jvm.D
theorem d1_0 : decode method_2_code 0 = .ok (.iload_n 0, 1) := by decide +kernel
theorem d1_1 : decode method_2_code 1 = .ok (.ifCond .ne 5, 3) := by decide +kernel
theorem d1_4 : decode method_2_code 4 = .ok (.iconst 1, 1) := by decide +kernel
theorem d1_5 : decode method_2_code 5 = .ok (.ireturn, 1) := by decide +kernel
theorem d1_6 : decode method_2_code 6 = .ok (.iload_n 0, 1) := by decide +kernel
theorem d1_7 : decode method_2_code 7 = .ok (.iconst 1, 1) := by decide +kernel
theorem d1_8 : decode method_2_code 8 = .ok (.if_icmp .ne 5, 3) := by decide +kernel
theorem d1_11 : decode method_2_code 11 = .ok (.iconst 2, 1) := by decide +kernel
theorem d1_12 : decode method_2_code 12 = .ok (.ireturn, 1) := by decide +kernel
theorem d1_13 : decode method_2_code 13 = .ok (.iload_n 0, 1) := by decide +kernel
theorem d1_14 : decode method_2_code 14 = .ok (.iconst 2, 1) := by decide +kernel
theorem d1_15 : decode method_2_code 15 = .ok (.if_icmp .ne 5, 3) := by decide +kernel
theorem d1_18 : decode method_2_code 18 = .ok (.iconst 3, 1) := by decide +kernel
theorem d1_19 : decode method_2_code 19 = .ok (.ireturn, 1) := by decide +kernel
theorem d1_20 : decode method_2_code 20 = .ok (.iload_n 0, 1) := by decide +kernel
theorem d1_21 : decode method_2_code 21 = .ok (.iconst 3, 1) := by decide +kernel
theorem d1_22 : decode method_2_code 22 = .ok (.if_icmp .ne 5, 3) := by decide +kernel
theorem d1_25 : decode method_2_code 25 = .ok (.iconst 4, 1) := by decide +kernel
theorem d1_26 : decode method_2_code 26 = .ok (.ireturn, 1) := by decide +kernel
theorem d1_27 : decode method_2_code 27 = .ok (.iload_n 0, 1) := by decide +kernel
theorem d1_28 : decode method_2_code 28 = .ok (.iconst 4, 1) := by decide +kernel
theorem d1_29 : decode method_2_code 29 = .ok (.if_icmp .ne 6, 3) := by decide +kernel
theorem d1_32 : decode method_2_code 32 = .ok (.bipush 8, 2) := by decide +kernel
theorem d1_34 : decode method_2_code 34 = .ok (.ireturn, 1) := by decide +kernel
theorem d1_35 : decode method_2_code 35 = .ok (.iload_n 0, 1) := by decide +kernel
theorem d1_36 : decode method_2_code 36 = .ok (.iconst 5, 1) := by decide +kernel
theorem d1_37 : decode method_2_code 37 = .ok (.if_icmp .ne 6, 3) := by decide +kernel
theorem d1_40 : decode method_2_code 40 = .ok (.bipush 16, 2) := by decide +kernel
theorem d1_42 : decode method_2_code 42 = .ok (.ireturn, 1) := by decide +kernel
theorem d1_43 : decode method_2_code 43 = .ok (.iload_n 0, 1) := by decide +kernel
theorem d1_44 : decode method_2_code 44 = .ok (.bipush 6, 2) := by decide +kernel
theorem d1_46 : decode method_2_code 46 = .ok (.if_icmp .ne 6, 3) := by decide +kernel
theorem d1_49 : decode method_2_code 49 = .ok (.bipush 32, 2) := by decide +kernel
theorem d1_51 : decode method_2_code 51 = .ok (.ireturn, 1) := by decide +kernel
theorem d1_52 : decode method_2_code 52 = .ok (.bipush 64, 2) := by decide +kernel
theorem d1_54 : decode method_2_code 54 = .ok (.ireturn, 1) := by decide +kernel
theorem pd_1 : parseMethodDescriptor "(I)I" = some ⟨[.int], some .int⟩ := by decide +kernel
theorem ef_1 (m : MethodId) (p0 : Int32) : entryFrame m #[(.int p0)] 1 = mkF m 0 #[.val (.int p0)] [] := by first | (simp [entryFrame, mkF, argsToLocals, Value.category]; done) | rfl
def widthV (p0 : Int32) : Int32 := (if p0 = 0 then (1 : Int32) else (if p0 = (1 : Int32) then (2 : Int32) else (if p0 = (2 : Int32) then (3 : Int32) else (if p0 = (3 : Int32) then (4 : Int32) else (if p0 = (4 : Int32) then (8 : Int32) else (if p0 = (5 : Int32) then (16 : Int32) else (if p0 = (6 : Int32) then (32 : Int32) else (64 : Int32))))))))
set_option maxRecDepth 65536 in
set_option maxHeartbeats 40000000 in
theorem rmW (l : Launch) (Z : State) (a0 : Array Value) (hw : ∀ d ∈ tables_1, d.before a0 Z = true) (p0 : Int32) (h0 : Heap)  :
    Con l Z (⟨"com/example/nest2/nest2/BitArrayZeroFieldsPinLaw", "width", "(I)I"⟩ : MethodName) method_2_code 1 (some .int) [] ({ frames := 0, cells := 0, slots := 0, locals := 0 } : Room) 0 0 #[(.int p0)] h0 (fun v h L => v = some (.int (widthV p0)) ∧ h = h0 ∧ L = []) := by
  refine Con.body (plainFor_of_name (by first | (simp [plainName, overriddenIn]; done) | decide +kernel)) ?_
  intro p e s m below meth c T0 hx hby hml hown hnm hZ hret hk X0 e0
  refine Goes.cast (ef_1 m p0) ?_
  show Goes p.tables e below (T0.setTop (mkF m 0 #[.val (.int p0)] [])) _
  refine g_iloadN X0 hx (hb hby d1_0) rfl ?_
  show Goes p.tables e below (T0.setTop (mkF m 1 #[.val (.int p0)] [(.int p0)])) _
  refine g_if_ne X0 hx (hb hby d1_1) (by decide) (pc' := 6) (by decide) (fun c1 => ?_) (fun c1 => ?_)
  · skip
    show Goes p.tables e below (T0.setTop (mkF m 6 #[.val (.int p0)] [])) _
    refine g_iloadN X0 hx (hb hby d1_6) rfl ?_
    show Goes p.tables e below (T0.setTop (mkF m 7 #[.val (.int p0)] [(.int p0)])) _
    refine g_iconst X0 hx (1 : Int32) (hb hby d1_7) rfl ?_
    show Goes p.tables e below (T0.setTop (mkF m 8 #[.val (.int p0)] [(.int (1 : Int32)), (.int p0)])) _
    refine g_icmp_ne X0 hx (hb hby d1_8) (by decide) (pc' := 13) (by decide) (fun c8 => ?_) (fun c8 => ?_)
    · skip
      show Goes p.tables e below (T0.setTop (mkF m 13 #[.val (.int p0)] [])) _
      refine g_iloadN X0 hx (hb hby d1_13) rfl ?_
      show Goes p.tables e below (T0.setTop (mkF m 14 #[.val (.int p0)] [(.int p0)])) _
      refine g_iconst X0 hx (2 : Int32) (hb hby d1_14) rfl ?_
      show Goes p.tables e below (T0.setTop (mkF m 15 #[.val (.int p0)] [(.int (2 : Int32)), (.int p0)])) _
      refine g_icmp_ne X0 hx (hb hby d1_15) (by decide) (pc' := 20) (by decide) (fun c15 => ?_) (fun c15 => ?_)
      · skip
        show Goes p.tables e below (T0.setTop (mkF m 20 #[.val (.int p0)] [])) _
        refine g_iloadN X0 hx (hb hby d1_20) rfl ?_
        show Goes p.tables e below (T0.setTop (mkF m 21 #[.val (.int p0)] [(.int p0)])) _
        refine g_iconst X0 hx (3 : Int32) (hb hby d1_21) rfl ?_
        show Goes p.tables e below (T0.setTop (mkF m 22 #[.val (.int p0)] [(.int (3 : Int32)), (.int p0)])) _
        refine g_icmp_ne X0 hx (hb hby d1_22) (by decide) (pc' := 27) (by decide) (fun c22 => ?_) (fun c22 => ?_)
        · skip
          show Goes p.tables e below (T0.setTop (mkF m 27 #[.val (.int p0)] [])) _
          refine g_iloadN X0 hx (hb hby d1_27) rfl ?_
          show Goes p.tables e below (T0.setTop (mkF m 28 #[.val (.int p0)] [(.int p0)])) _
          refine g_iconst X0 hx (4 : Int32) (hb hby d1_28) rfl ?_
          show Goes p.tables e below (T0.setTop (mkF m 29 #[.val (.int p0)] [(.int (4 : Int32)), (.int p0)])) _
          refine g_icmp_ne X0 hx (hb hby d1_29) (by decide) (pc' := 35) (by decide) (fun c29 => ?_) (fun c29 => ?_)
          · skip
            show Goes p.tables e below (T0.setTop (mkF m 35 #[.val (.int p0)] [])) _
            refine g_iloadN X0 hx (hb hby d1_35) rfl ?_
            show Goes p.tables e below (T0.setTop (mkF m 36 #[.val (.int p0)] [(.int p0)])) _
            refine g_iconst X0 hx (5 : Int32) (hb hby d1_36) rfl ?_
            show Goes p.tables e below (T0.setTop (mkF m 37 #[.val (.int p0)] [(.int (5 : Int32)), (.int p0)])) _
            refine g_icmp_ne X0 hx (hb hby d1_37) (by decide) (pc' := 43) (by decide) (fun c37 => ?_) (fun c37 => ?_)
            · skip
              show Goes p.tables e below (T0.setTop (mkF m 43 #[.val (.int p0)] [])) _
              refine g_iloadN X0 hx (hb hby d1_43) rfl ?_
              show Goes p.tables e below (T0.setTop (mkF m 44 #[.val (.int p0)] [(.int p0)])) _
              refine g_bipush X0 hx (6 : Int32) (hb hby d1_44) (by decide) ?_
              show Goes p.tables e below (T0.setTop (mkF m 46 #[.val (.int p0)] [(.int (6 : Int32)), (.int p0)])) _
              refine g_icmp_ne X0 hx (hb hby d1_46) (by decide) (pc' := 52) (by decide) (fun c46 => ?_) (fun c46 => ?_)
              · skip
                show Goes p.tables e below (T0.setTop (mkF m 52 #[.val (.int p0)] [])) _
                refine g_bipush X0 hx (64 : Int32) (hb hby d1_52) (by decide) ?_
                show Goes p.tables e below (T0.setTop (mkF m 54 #[.val (.int p0)] [(.int (64 : Int32))])) _
                exact g_retI X0 hx hret hk (hb hby d1_54) (by decide) (by decide) ⟨by rw [widthV, if_neg c1, if_neg c8, if_neg c15, if_neg c22, if_neg c29, if_neg c37, if_neg c46], e0, rfl⟩
              · skip
                show Goes p.tables e below (T0.setTop (mkF m 49 #[.val (.int p0)] [])) _
                refine g_bipush X0 hx (32 : Int32) (hb hby d1_49) (by decide) ?_
                show Goes p.tables e below (T0.setTop (mkF m 51 #[.val (.int p0)] [(.int (32 : Int32))])) _
                exact g_retI X0 hx hret hk (hb hby d1_51) (by decide) (by decide) ⟨by rw [widthV, if_neg c1, if_neg c8, if_neg c15, if_neg c22, if_neg c29, if_neg c37, if_pos c46], e0, rfl⟩
            · skip
              show Goes p.tables e below (T0.setTop (mkF m 40 #[.val (.int p0)] [])) _
              refine g_bipush X0 hx (16 : Int32) (hb hby d1_40) (by decide) ?_
              show Goes p.tables e below (T0.setTop (mkF m 42 #[.val (.int p0)] [(.int (16 : Int32))])) _
              exact g_retI X0 hx hret hk (hb hby d1_42) (by decide) (by decide) ⟨by rw [widthV, if_neg c1, if_neg c8, if_neg c15, if_neg c22, if_neg c29, if_pos c37], e0, rfl⟩
          · skip
            show Goes p.tables e below (T0.setTop (mkF m 32 #[.val (.int p0)] [])) _
            refine g_bipush X0 hx (8 : Int32) (hb hby d1_32) (by decide) ?_
            show Goes p.tables e below (T0.setTop (mkF m 34 #[.val (.int p0)] [(.int (8 : Int32))])) _
            exact g_retI X0 hx hret hk (hb hby d1_34) (by decide) (by decide) ⟨by rw [widthV, if_neg c1, if_neg c8, if_neg c15, if_neg c22, if_pos c29], e0, rfl⟩
        · skip
          show Goes p.tables e below (T0.setTop (mkF m 25 #[.val (.int p0)] [])) _
          refine g_iconst X0 hx (4 : Int32) (hb hby d1_25) rfl ?_
          show Goes p.tables e below (T0.setTop (mkF m 26 #[.val (.int p0)] [(.int (4 : Int32))])) _
          exact g_retI X0 hx hret hk (hb hby d1_26) (by decide) (by decide) ⟨by rw [widthV, if_neg c1, if_neg c8, if_neg c15, if_pos c22], e0, rfl⟩
      · skip
        show Goes p.tables e below (T0.setTop (mkF m 18 #[.val (.int p0)] [])) _
        refine g_iconst X0 hx (3 : Int32) (hb hby d1_18) rfl ?_
        show Goes p.tables e below (T0.setTop (mkF m 19 #[.val (.int p0)] [(.int (3 : Int32))])) _
        exact g_retI X0 hx hret hk (hb hby d1_19) (by decide) (by decide) ⟨by rw [widthV, if_neg c1, if_neg c8, if_pos c15], e0, rfl⟩
    · skip
      show Goes p.tables e below (T0.setTop (mkF m 11 #[.val (.int p0)] [])) _
      refine g_iconst X0 hx (2 : Int32) (hb hby d1_11) rfl ?_
      show Goes p.tables e below (T0.setTop (mkF m 12 #[.val (.int p0)] [(.int (2 : Int32))])) _
      exact g_retI X0 hx hret hk (hb hby d1_12) (by decide) (by decide) ⟨by rw [widthV, if_neg c1, if_pos c8], e0, rfl⟩
  · skip
    show Goes p.tables e below (T0.setTop (mkF m 4 #[.val (.int p0)] [])) _
    refine g_iconst X0 hx (1 : Int32) (hb hby d1_4) rfl ?_
    show Goes p.tables e below (T0.setTop (mkF m 5 #[.val (.int p0)] [(.int (1 : Int32))])) _
    exact g_retI X0 hx hret hk (hb hby d1_5) (by decide) (by decide) ⟨by rw [widthV, if_pos c1], e0, rfl⟩
theorem d2_0 : decode method_3_code 0 = .ok (.iload_n 0, 1) := by decide +kernel
theorem d2_1 : decode method_3_code 1 = .ok (.ifCond .ne 7, 3) := by decide +kernel
theorem d2_4 : decode method_3_code 4 = .ok (.ldc2_w 7, 3) := by decide +kernel
theorem d2_7 : decode method_3_code 7 = .ok (.lreturn, 1) := by decide +kernel
theorem d2_8 : decode method_3_code 8 = .ok (.iload_n 0, 1) := by decide +kernel
theorem d2_9 : decode method_3_code 9 = .ok (.iconst 1, 1) := by decide +kernel
theorem d2_10 : decode method_3_code 10 = .ok (.if_icmp .ne 7, 3) := by decide +kernel
theorem d2_13 : decode method_3_code 13 = .ok (.ldc2_w 9, 3) := by decide +kernel
theorem d2_16 : decode method_3_code 16 = .ok (.lreturn, 1) := by decide +kernel
theorem d2_17 : decode method_3_code 17 = .ok (.iload_n 0, 1) := by decide +kernel
theorem d2_18 : decode method_3_code 18 = .ok (.iconst 2, 1) := by decide +kernel
theorem d2_19 : decode method_3_code 19 = .ok (.if_icmp .ne 7, 3) := by decide +kernel
theorem d2_22 : decode method_3_code 22 = .ok (.ldc2_w 11, 3) := by decide +kernel
theorem d2_25 : decode method_3_code 25 = .ok (.lreturn, 1) := by decide +kernel
theorem d2_26 : decode method_3_code 26 = .ok (.iload_n 0, 1) := by decide +kernel
theorem d2_27 : decode method_3_code 27 = .ok (.iconst 3, 1) := by decide +kernel
theorem d2_28 : decode method_3_code 28 = .ok (.if_icmp .ne 7, 3) := by decide +kernel
theorem d2_31 : decode method_3_code 31 = .ok (.ldc2_w 13, 3) := by decide +kernel
theorem d2_34 : decode method_3_code 34 = .ok (.lreturn, 1) := by decide +kernel
theorem d2_35 : decode method_3_code 35 = .ok (.iload_n 0, 1) := by decide +kernel
theorem d2_36 : decode method_3_code 36 = .ok (.iconst 4, 1) := by decide +kernel
theorem d2_37 : decode method_3_code 37 = .ok (.if_icmp .ne 7, 3) := by decide +kernel
theorem d2_40 : decode method_3_code 40 = .ok (.ldc2_w 15, 3) := by decide +kernel
theorem d2_43 : decode method_3_code 43 = .ok (.lreturn, 1) := by decide +kernel
theorem d2_44 : decode method_3_code 44 = .ok (.iload_n 0, 1) := by decide +kernel
theorem d2_45 : decode method_3_code 45 = .ok (.iconst 5, 1) := by decide +kernel
theorem d2_46 : decode method_3_code 46 = .ok (.if_icmp .ne 7, 3) := by decide +kernel
theorem d2_49 : decode method_3_code 49 = .ok (.ldc2_w 17, 3) := by decide +kernel
theorem d2_52 : decode method_3_code 52 = .ok (.lreturn, 1) := by decide +kernel
theorem d2_53 : decode method_3_code 53 = .ok (.iload_n 0, 1) := by decide +kernel
theorem d2_54 : decode method_3_code 54 = .ok (.bipush 6, 2) := by decide +kernel
theorem d2_56 : decode method_3_code 56 = .ok (.if_icmp .ne 7, 3) := by decide +kernel
theorem d2_59 : decode method_3_code 59 = .ok (.ldc2_w 19, 3) := by decide +kernel
theorem d2_62 : decode method_3_code 62 = .ok (.lreturn, 1) := by decide +kernel
theorem d2_63 : decode method_3_code 63 = .ok (.ldc2_w 21, 3) := by decide +kernel
theorem d2_66 : decode method_3_code 66 = .ok (.lreturn, 1) := by decide +kernel
theorem pd_2 : parseMethodDescriptor "(I)J" = some ⟨[.int], some .long⟩ := by decide +kernel
theorem ef_2 (m : MethodId) (p0 : Int32) : entryFrame m #[(.int p0)] 1 = mkF m 0 #[.val (.int p0)] [] := by first | (simp [entryFrame, mkF, argsToLocals, Value.category]; done) | rfl
def highV (p0 : Int32) : Int64 := (if p0 = 0 then (-1 : Int64) else (if p0 = (1 : Int32) then (-6148914691236517206 : Int64) else (if p0 = (2 : Int32) then (5270498306774157604 : Int64) else (if p0 = (3 : Int32) then (-8608480567731124088 : Int64) else (if p0 = (4 : Int32) then (-9187201950435737472 : Int64) else (if p0 = (5 : Int32) then (-9223231297218904064 : Int64) else (if p0 = (6 : Int32) then (-9223372034707292160 : Int64) else (-9223372036854775808 : Int64))))))))
set_option maxRecDepth 65536 in
set_option maxHeartbeats 40000000 in
theorem rmH (l : Launch) (Z : State) (a0 : Array Value) (hw : ∀ d ∈ tables_1, d.before a0 Z = true) (p0 : Int32) (h0 : Heap)  :
    Con l Z (⟨"com/example/nest2/nest2/BitArrayZeroFieldsPinLaw", "highBits", "(I)J"⟩ : MethodName) method_3_code 1 (some .long) [] ({ frames := 0, cells := 0, slots := 0, locals := 0 } : Room) 0 0 #[(.int p0)] h0 (fun v h L => v = some (.long (highV p0)) ∧ h = h0 ∧ L = []) := by
  refine Con.body (plainFor_of_name (by first | (simp [plainName, overriddenIn]; done) | decide +kernel)) ?_
  intro p e s m below meth c T0 hx hby hml hown hnm hZ hret hk X0 e0
  refine Goes.cast (ef_2 m p0) ?_
  show Goes p.tables e below (T0.setTop (mkF m 0 #[.val (.int p0)] [])) _
  refine g_iloadN X0 hx (hb hby d2_0) rfl ?_
  show Goes p.tables e below (T0.setTop (mkF m 1 #[.val (.int p0)] [(.int p0)])) _
  refine g_if_ne X0 hx (hb hby d2_1) (by decide) (pc' := 8) (by decide) (fun c1 => ?_) (fun c1 => ?_)
  · skip
    show Goes p.tables e below (T0.setTop (mkF m 8 #[.val (.int p0)] [])) _
    refine g_iloadN X0 hx (hb hby d2_8) rfl ?_
    show Goes p.tables e below (T0.setTop (mkF m 9 #[.val (.int p0)] [(.int p0)])) _
    refine g_iconst X0 hx (1 : Int32) (hb hby d2_9) rfl ?_
    show Goes p.tables e below (T0.setTop (mkF m 10 #[.val (.int p0)] [(.int (1 : Int32)), (.int p0)])) _
    refine g_icmp_ne X0 hx (hb hby d2_10) (by decide) (pc' := 17) (by decide) (fun c10 => ?_) (fun c10 => ?_)
    · skip
      show Goes p.tables e below (T0.setTop (mkF m 17 #[.val (.int p0)] [])) _
      refine g_iloadN X0 hx (hb hby d2_17) rfl ?_
      show Goes p.tables e below (T0.setTop (mkF m 18 #[.val (.int p0)] [(.int p0)])) _
      refine g_iconst X0 hx (2 : Int32) (hb hby d2_18) rfl ?_
      show Goes p.tables e below (T0.setTop (mkF m 19 #[.val (.int p0)] [(.int (2 : Int32)), (.int p0)])) _
      refine g_icmp_ne X0 hx (hb hby d2_19) (by decide) (pc' := 26) (by decide) (fun c19 => ?_) (fun c19 => ?_)
      · skip
        show Goes p.tables e below (T0.setTop (mkF m 26 #[.val (.int p0)] [])) _
        refine g_iloadN X0 hx (hb hby d2_26) rfl ?_
        show Goes p.tables e below (T0.setTop (mkF m 27 #[.val (.int p0)] [(.int p0)])) _
        refine g_iconst X0 hx (3 : Int32) (hb hby d2_27) rfl ?_
        show Goes p.tables e below (T0.setTop (mkF m 28 #[.val (.int p0)] [(.int (3 : Int32)), (.int p0)])) _
        refine g_icmp_ne X0 hx (hb hby d2_28) (by decide) (pc' := 35) (by decide) (fun c28 => ?_) (fun c28 => ?_)
        · skip
          show Goes p.tables e below (T0.setTop (mkF m 35 #[.val (.int p0)] [])) _
          refine g_iloadN X0 hx (hb hby d2_35) rfl ?_
          show Goes p.tables e below (T0.setTop (mkF m 36 #[.val (.int p0)] [(.int p0)])) _
          refine g_iconst X0 hx (4 : Int32) (hb hby d2_36) rfl ?_
          show Goes p.tables e below (T0.setTop (mkF m 37 #[.val (.int p0)] [(.int (4 : Int32)), (.int p0)])) _
          refine g_icmp_ne X0 hx (hb hby d2_37) (by decide) (pc' := 44) (by decide) (fun c37 => ?_) (fun c37 => ?_)
          · skip
            show Goes p.tables e below (T0.setTop (mkF m 44 #[.val (.int p0)] [])) _
            refine g_iloadN X0 hx (hb hby d2_44) rfl ?_
            show Goes p.tables e below (T0.setTop (mkF m 45 #[.val (.int p0)] [(.int p0)])) _
            refine g_iconst X0 hx (5 : Int32) (hb hby d2_45) rfl ?_
            show Goes p.tables e below (T0.setTop (mkF m 46 #[.val (.int p0)] [(.int (5 : Int32)), (.int p0)])) _
            refine g_icmp_ne X0 hx (hb hby d2_46) (by decide) (pc' := 53) (by decide) (fun c46 => ?_) (fun c46 => ?_)
            · skip
              show Goes p.tables e below (T0.setTop (mkF m 53 #[.val (.int p0)] [])) _
              refine g_iloadN X0 hx (hb hby d2_53) rfl ?_
              show Goes p.tables e below (T0.setTop (mkF m 54 #[.val (.int p0)] [(.int p0)])) _
              refine g_bipush X0 hx (6 : Int32) (hb hby d2_54) (by decide) ?_
              show Goes p.tables e below (T0.setTop (mkF m 56 #[.val (.int p0)] [(.int (6 : Int32)), (.int p0)])) _
              refine g_icmp_ne X0 hx (hb hby d2_56) (by decide) (pc' := 63) (by decide) (fun c56 => ?_) (fun c56 => ?_)
              · skip
                show Goes p.tables e below (T0.setTop (mkF m 63 #[.val (.int p0)] [])) _
                refine g_ldc2 X0 hx hZ hown (hw _ (List.mem_of_getElem? (i := 15) rfl)) (hb hby d2_63) ?_
                show Goes p.tables e below (T0.setTop (mkF m 66 #[.val (.int p0)] [(.long (-9223372036854775808 : Int64))])) _
                exact g_retL X0 hx hret hk (hb hby d2_66) (by decide) (by decide) ⟨by rw [highV, if_neg c1, if_neg c10, if_neg c19, if_neg c28, if_neg c37, if_neg c46, if_neg c56], e0, rfl⟩
              · skip
                show Goes p.tables e below (T0.setTop (mkF m 59 #[.val (.int p0)] [])) _
                refine g_ldc2 X0 hx hZ hown (hw _ (List.mem_of_getElem? (i := 20) rfl)) (hb hby d2_59) ?_
                show Goes p.tables e below (T0.setTop (mkF m 62 #[.val (.int p0)] [(.long (-9223372034707292160 : Int64))])) _
                exact g_retL X0 hx hret hk (hb hby d2_62) (by decide) (by decide) ⟨by rw [highV, if_neg c1, if_neg c10, if_neg c19, if_neg c28, if_neg c37, if_neg c46, if_pos c56], e0, rfl⟩
            · skip
              show Goes p.tables e below (T0.setTop (mkF m 49 #[.val (.int p0)] [])) _
              refine g_ldc2 X0 hx hZ hown (hw _ (List.mem_of_getElem? (i := 14) rfl)) (hb hby d2_49) ?_
              show Goes p.tables e below (T0.setTop (mkF m 52 #[.val (.int p0)] [(.long (-9223231297218904064 : Int64))])) _
              exact g_retL X0 hx hret hk (hb hby d2_52) (by decide) (by decide) ⟨by rw [highV, if_neg c1, if_neg c10, if_neg c19, if_neg c28, if_neg c37, if_pos c46], e0, rfl⟩
          · skip
            show Goes p.tables e below (T0.setTop (mkF m 40 #[.val (.int p0)] [])) _
            refine g_ldc2 X0 hx hZ hown (hw _ (List.mem_of_getElem? (i := 21) rfl)) (hb hby d2_40) ?_
            show Goes p.tables e below (T0.setTop (mkF m 43 #[.val (.int p0)] [(.long (-9187201950435737472 : Int64))])) _
            exact g_retL X0 hx hret hk (hb hby d2_43) (by decide) (by decide) ⟨by rw [highV, if_neg c1, if_neg c10, if_neg c19, if_neg c28, if_pos c37], e0, rfl⟩
        · skip
          show Goes p.tables e below (T0.setTop (mkF m 31 #[.val (.int p0)] [])) _
          refine g_ldc2 X0 hx hZ hown (hw _ (List.mem_of_getElem? (i := 19) rfl)) (hb hby d2_31) ?_
          show Goes p.tables e below (T0.setTop (mkF m 34 #[.val (.int p0)] [(.long (-8608480567731124088 : Int64))])) _
          exact g_retL X0 hx hret hk (hb hby d2_34) (by decide) (by decide) ⟨by rw [highV, if_neg c1, if_neg c10, if_neg c19, if_pos c28], e0, rfl⟩
      · skip
        show Goes p.tables e below (T0.setTop (mkF m 22 #[.val (.int p0)] [])) _
        refine g_ldc2 X0 hx hZ hown (hw _ (List.mem_of_getElem? (i := 17) rfl)) (hb hby d2_22) ?_
        show Goes p.tables e below (T0.setTop (mkF m 25 #[.val (.int p0)] [(.long (5270498306774157604 : Int64))])) _
        exact g_retL X0 hx hret hk (hb hby d2_25) (by decide) (by decide) ⟨by rw [highV, if_neg c1, if_neg c10, if_pos c19], e0, rfl⟩
    · skip
      show Goes p.tables e below (T0.setTop (mkF m 13 #[.val (.int p0)] [])) _
      refine g_ldc2 X0 hx hZ hown (hw _ (List.mem_of_getElem? (i := 16) rfl)) (hb hby d2_13) ?_
      show Goes p.tables e below (T0.setTop (mkF m 16 #[.val (.int p0)] [(.long (-6148914691236517206 : Int64))])) _
      exact g_retL X0 hx hret hk (hb hby d2_16) (by decide) (by decide) ⟨by rw [highV, if_neg c1, if_pos c10], e0, rfl⟩
  · skip
    show Goes p.tables e below (T0.setTop (mkF m 4 #[.val (.int p0)] [])) _
    refine g_ldc2 X0 hx hZ hown (hw _ (List.mem_of_getElem? (i := 7) rfl)) (hb hby d2_4) ?_
    show Goes p.tables e below (T0.setTop (mkF m 7 #[.val (.int p0)] [(.long (-1 : Int64))])) _
    exact g_retL X0 hx hret hk (hb hby d2_7) (by decide) (by decide) ⟨by rw [highV, if_pos c1], e0, rfl⟩
theorem d3_0 : decode prog_2_method_10_code 0 = .ok (.lload_n 0, 1) := by decide +kernel
theorem d3_1 : decode prog_2_method_10_code 1 = .ok (.lload_n 2, 1) := by decide +kernel
theorem d3_2 : decode prog_2_method_10_code 2 = .ok (.land, 1) := by decide +kernel
theorem d3_3 : decode prog_2_method_10_code 3 = .ok (.lload_n 2, 1) := by decide +kernel
theorem d3_4 : decode prog_2_method_10_code 4 = .ok (.ladd, 1) := by decide +kernel
theorem d3_5 : decode prog_2_method_10_code 5 = .ok (.lload_n 0, 1) := by decide +kernel
theorem d3_6 : decode prog_2_method_10_code 6 = .ok (.lor, 1) := by decide +kernel
theorem d3_7 : decode prog_2_method_10_code 7 = .ok (.lload_n 2, 1) := by decide +kernel
theorem d3_8 : decode prog_2_method_10_code 8 = .ok (.lor, 1) := by decide +kernel
theorem d3_9 : decode prog_2_method_10_code 9 = .ok (.ldc2_w 53, 3) := by decide +kernel
theorem d3_12 : decode prog_2_method_10_code 12 = .ok (.lxor, 1) := by decide +kernel
theorem d3_13 : decode prog_2_method_10_code 13 = .ok (.lload 4, 2) := by decide +kernel
theorem d3_15 : decode prog_2_method_10_code 15 = .ok (.land, 1) := by decide +kernel
theorem d3_16 : decode prog_2_method_10_code 16 = .ok (.lreturn, 1) := by decide +kernel
theorem pd_3 : parseMethodDescriptor "(JJJ)J" = some ⟨[.long, .long, .long], some .long⟩ := by decide +kernel
theorem ef_3 (m : MethodId) (p0 : Int64) (p1 : Int64) (p2 : Int64) : entryFrame m #[(.long p0), (.long p1), (.long p2)] 6 = mkF m 0 #[.val (.long p0), .second, .val (.long p1), .second, .val (.long p2), .second] [] := by first | (simp [entryFrame, mkF, argsToLocals, Value.category]; done) | rfl
def zfV (p0 : Int64) (p1 : Int64) (p2 : Int64) : Int64 := ((((((p0 &&& p1) + p1) ||| p0) ||| p1) ^^^ (-1 : Int64)) &&& p2)
set_option maxRecDepth 65536 in
set_option maxHeartbeats 40000000 in
theorem rmZ (l : Launch) (Z : State) (a0 : Array Value) (hw : ∀ d ∈ tables_1, d.before a0 Z = true) (p0 : Int64) (p1 : Int64) (p2 : Int64) (h0 : Heap)  :
    Con l Z (⟨"com/example/nest2/nest2/BitArray", "zeroFields", "(JJJ)J"⟩ : MethodName) prog_2_method_10_code 6 (some .long) [] ({ frames := 0, cells := 0, slots := 0, locals := 0 } : Room) 0 0 #[(.long p0), (.long p1), (.long p2)] h0 (fun v h L => v = some (.long (zfV p0 p1 p2)) ∧ h = h0 ∧ L = []) := by
  refine Con.body (plainFor_of_name (by first | (simp [plainName, overriddenIn]; done) | decide +kernel)) ?_
  intro p e s m below meth c T0 hx hby hml hown hnm hZ hret hk X0 e0
  refine Goes.cast (ef_3 m p0 p1 p2) ?_
  show Goes p.tables e below (T0.setTop (mkF m 0 #[.val (.long p0), .second, .val (.long p1), .second, .val (.long p2), .second] [])) _
  refine g_lloadN X0 hx (hb hby d3_0) rfl ?_
  show Goes p.tables e below (T0.setTop (mkF m 1 #[.val (.long p0), .second, .val (.long p1), .second, .val (.long p2), .second] [(.long p0)])) _
  refine g_lloadN X0 hx (hb hby d3_1) rfl ?_
  show Goes p.tables e below (T0.setTop (mkF m 2 #[.val (.long p0), .second, .val (.long p1), .second, .val (.long p2), .second] [(.long p1), (.long p0)])) _
  refine g_land X0 hx (hb hby d3_2) ?_
  show Goes p.tables e below (T0.setTop (mkF m 3 #[.val (.long p0), .second, .val (.long p1), .second, .val (.long p2), .second] [(.long (p0 &&& p1))])) _
  refine g_lloadN X0 hx (hb hby d3_3) rfl ?_
  show Goes p.tables e below (T0.setTop (mkF m 4 #[.val (.long p0), .second, .val (.long p1), .second, .val (.long p2), .second] [(.long p1), (.long (p0 &&& p1))])) _
  refine g_ladd X0 hx (hb hby d3_4) ?_
  show Goes p.tables e below (T0.setTop (mkF m 5 #[.val (.long p0), .second, .val (.long p1), .second, .val (.long p2), .second] [(.long ((p0 &&& p1) + p1))])) _
  refine g_lloadN X0 hx (hb hby d3_5) rfl ?_
  show Goes p.tables e below (T0.setTop (mkF m 6 #[.val (.long p0), .second, .val (.long p1), .second, .val (.long p2), .second] [(.long p0), (.long ((p0 &&& p1) + p1))])) _
  refine g_lor X0 hx (hb hby d3_6) ?_
  show Goes p.tables e below (T0.setTop (mkF m 7 #[.val (.long p0), .second, .val (.long p1), .second, .val (.long p2), .second] [(.long (((p0 &&& p1) + p1) ||| p0))])) _
  refine g_lloadN X0 hx (hb hby d3_7) rfl ?_
  show Goes p.tables e below (T0.setTop (mkF m 8 #[.val (.long p0), .second, .val (.long p1), .second, .val (.long p2), .second] [(.long p1), (.long (((p0 &&& p1) + p1) ||| p0))])) _
  refine g_lor X0 hx (hb hby d3_8) ?_
  show Goes p.tables e below (T0.setTop (mkF m 9 #[.val (.long p0), .second, .val (.long p1), .second, .val (.long p2), .second] [(.long ((((p0 &&& p1) + p1) ||| p0) ||| p1))])) _
  refine g_ldc2 X0 hx hZ hown (hw _ (List.mem_of_getElem? (i := 13) rfl)) (hb hby d3_9) ?_
  show Goes p.tables e below (T0.setTop (mkF m 12 #[.val (.long p0), .second, .val (.long p1), .second, .val (.long p2), .second] [(.long (-1 : Int64)), (.long ((((p0 &&& p1) + p1) ||| p0) ||| p1))])) _
  refine g_lxor X0 hx (hb hby d3_12) ?_
  show Goes p.tables e below (T0.setTop (mkF m 13 #[.val (.long p0), .second, .val (.long p1), .second, .val (.long p2), .second] [(.long (((((p0 &&& p1) + p1) ||| p0) ||| p1) ^^^ (-1 : Int64)))])) _
  refine g_lload X0 hx (hb hby d3_13) rfl ?_
  show Goes p.tables e below (T0.setTop (mkF m 15 #[.val (.long p0), .second, .val (.long p1), .second, .val (.long p2), .second] [(.long p2), (.long (((((p0 &&& p1) + p1) ||| p0) ||| p1) ^^^ (-1 : Int64)))])) _
  refine g_land X0 hx (hb hby d3_15) ?_
  show Goes p.tables e below (T0.setTop (mkF m 16 #[.val (.long p0), .second, .val (.long p1), .second, .val (.long p2), .second] [(.long ((((((p0 &&& p1) + p1) ||| p0) ||| p1) ^^^ (-1 : Int64)) &&& p2))])) _
  exact g_retL X0 hx hret hk (hb hby d3_16) (by decide) (by decide) ⟨by rw [zfV], e0, rfl⟩
/-- the highest bit of a field, behind the carry trick: set just where the field isn't zero -/
theorem own_field (W low sh v : Nat) (h1 : low / 2 ^ sh % 2 ^ (v + 1) = 2 ^ v - 1) (h2 : 2 * (low % 2 ^ sh) < 2 ^ sh) :
    ((((W &&& low) + low) ||| W) ||| low).testBit (sh + v) = decide (W / 2 ^ sh % 2 ^ (v + 1) ≠ 0) := by
  have hP : 0 < 2 ^ sh := Nat.two_pow_pos sh
  have hH : 0 < 2 ^ v := Nat.two_pow_pos v
  have e2 : 2 ^ (v + 1) = 2 ^ v * 2 := Nat.pow_succ 2 v
  have tb : ∀ n : Nat, n.testBit (sh + v) = decide (n / 2 ^ sh % 2 ^ (v + 1) / 2 ^ v = 1) := by
    intro n
    rw [Nat.testBit_eq_decide_div_mod_eq, Nat.pow_add, ← Nat.div_div_eq_div_mul, e2, Nat.mod_mul_right_div_self]
  have a1 : (W &&& low) / 2 ^ sh = (W / 2 ^ sh) &&& (low / 2 ^ sh) := Nat.and_div_two_pow
  have a2 : (W &&& low) % 2 ^ sh ≤ low % 2 ^ sh := by rw [Nat.and_mod_two_pow]; exact Nat.and_le_right
  have a3 : (W &&& low) / 2 ^ sh % 2 ^ (v + 1) = W / 2 ^ sh % 2 ^ v := by
    rw [a1, Nat.and_mod_two_pow, h1, Nat.and_two_pow_sub_one_eq_mod, e2, Nat.mod_mul_right_mod]
  have a4 : ((W &&& low) + low) / 2 ^ sh = (W &&& low) / 2 ^ sh + low / 2 ^ sh := by
    rw [Nat.add_div hP, if_neg (by omega), Nat.add_zero]
  have a5 : ((W &&& low) + low) / 2 ^ sh % 2 ^ (v + 1) = W / 2 ^ sh % 2 ^ v + (2 ^ v - 1) := by
    have q := Nat.mod_lt (W / 2 ^ sh) hH
    rw [a4, Nat.add_mod, a3, h1, Nat.mod_eq_of_lt]
    omega
  rw [Nat.testBit_or, Nat.testBit_or, tb, tb, tb, a5, h1]
  generalize W / 2 ^ sh = q
  rw [e2]
  generalize 2 ^ v = H at hH
  have b1 : (H - 1) / H = 0 := Nat.div_eq_of_lt (by omega)
  have b3 : q % (H * 2) = q % H + H * (q / H % 2) := Nat.mod_mul
  have b4 : q % (H * 2) / H = q / H % 2 := Nat.mod_mul_right_div_self q H 2
  have b5 := Nat.mod_lt q hH
  rw [b1, b4, b3]
  by_cases c1 : q % H = 0
  · rw [c1, Nat.zero_add, b1, Nat.zero_add]
    rcases Nat.mod_two_eq_zero_or_one (q / H) with c2 | c2
    · simp [c2]
    · simp [c2]; omega
  · have b6 : (q % H + (H - 1)) / H = 1 := by
      rw [Nat.div_eq_iff hH]; omega
    rw [b6]
    have : q % H + H * (q / H % 2) ≠ 0 := by omega
    simp only [this, ne_eq, not_false_eq_true, decide_true]
    rfl

theorem own_shr (k : Int32) (n : Nat) (h : (k.toInt64.toUInt64 &&& Int64.toUInt64 63) = UInt64.ofNat n) (hn : n < 64) (x : Int64) : (XT.ushrL x k).toBitVec = x.toBitVec >>> n := by
  show (x.toUInt64 >>> (k.toInt64.toUInt64 &&& Int64.toUInt64 63)).toBitVec = _
  rw [h, UInt64.toBitVec_shiftRight]
  have e : ((UInt64.ofNat n).toBitVec % 64#64).toNat = n := by
    simp [UInt64.toBitVec_ofNat', BitVec.toNat_umod]; omega
  show x.toUInt64.toBitVec >>> ((UInt64.ofNat n).toBitVec % 64#64).toNat = _
  rw [e]; rfl
def own_cov (s : Int32) : Int64 := if ((64 : Int32) / widthV s * widthV s) = (64 : Int32) then (-1 : Int64) else (((1 : Int64) <<< (Int32.toInt64 ((64 : Int32) / widthV s * widthV s) &&& 63)) - (1 : Int64))
def own_low (s : Int32) : Int64 := own_cov s &&& (highV s ^^^ (-1 : Int64))
def own_unit (s : Int32) : Int64 := if widthV s = (64 : Int32) then (-1 : Int64) else (((1 : Int64) <<< (Int32.toInt64 (widthV s) &&& 63)) - (1 : Int64))
def own_fm (s k : Int32) : Int64 := own_unit s <<< (Int32.toInt64 (k * widthV s) &&& 63)
def own_sh (s k : Int32) : Nat := (k * widthV s).toInt.toNat
def own_v (s : Int32) : Nat := (widthV s).toInt.toNat - 1
def own_good (s k : Int32) : Bool :=
  decide ((own_low s).toBitVec.toNat / 2 ^ own_sh s k % 2 ^ (own_v s + 1) = 2 ^ own_v s - 1) && decide (2 * ((own_low s).toBitVec.toNat % 2 ^ own_sh s k) < 2 ^ own_sh s k) &&
  decide ((own_fm s k).toBitVec.toNat = (2 ^ (own_v s + 1) - 1) * 2 ^ own_sh s k) && decide (((k * widthV s + widthV s - 1).toInt64.toUInt64 &&& Int64.toUInt64 63) = UInt64.ofNat (own_sh s k + own_v s)) &&
  decide (own_sh s k + own_v s < 64) && (highV s).toBitVec.toNat.testBit (own_sh s k + own_v s) && decide (2 * (own_low s).toBitVec.toNat < 2 ^ 64)
theorem own_tab : ∀ s : Fin 8, ∀ k : Fin 64, ¬ (Int32.ofNat k.val < (64 : Int32) / widthV (Int32.ofNat s.val)) ∨ own_good (Int32.ofNat s.val) (Int32.ofNat k.val) = true := by decide +kernel
theorem own_andmul (W m sh : Nat) : W &&& (m * 2 ^ sh) = (W / 2 ^ sh &&& m) * 2 ^ sh := by
  apply Nat.eq_of_testBit_eq
  intro j
  rw [Nat.testBit_and, Nat.testBit_mul_two_pow, Nat.testBit_mul_two_pow, Nat.testBit_and, Nat.testBit_div_two_pow]
  by_cases h : sh ≤ j
  · rw [Nat.sub_add_cancel h]; simp [h]
  · simp [h]
theorem own_zf (W low high : Int64) (t : Nat) (ht : t < 64) (hl : 2 * low.toBitVec.toNat < 2 ^ 64) :
    (zfV W low high).toBitVec.toNat.testBit t = (!((((W.toBitVec.toNat &&& low.toBitVec.toNat) + low.toBitVec.toNat) ||| W.toBitVec.toNat) ||| low.toBitVec.toNat).testBit t && high.toBitVec.toNat.testBit t) := by
  have e1 : (-1 : Int64).toBitVec.toNat = 2 ^ 64 - 1 := by decide
  unfold zfV
  rw [Int64.toBitVec_and, BitVec.toNat_and, Nat.testBit_and, Int64.toBitVec_xor, BitVec.toNat_xor, e1, Nat.testBit_xor, Nat.testBit_two_pow_sub_one, decide_eq_true ht, Bool.xor_true, Int64.toBitVec_or, BitVec.toNat_or, Int64.toBitVec_or, BitVec.toNat_or, Int64.toBitVec_add, BitVec.toNat_add, Int64.toBitVec_and, BitVec.toNat_and]
  have b : (W.toBitVec.toNat &&& low.toBitVec.toNat) ≤ low.toBitVec.toNat := Nat.and_le_right
  rw [Nat.mod_eq_of_lt (by omega)]
theorem own_hi (x h : Int64) : ((x &&& h) &&& (h ^^^ (-1 : Int64))) = (0 : Int64) := by
  apply Int64.toBitVec_inj.mp
  rw [Int64.toBitVec_and, Int64.toBitVec_and, Int64.toBitVec_xor]
  generalize x.toBitVec = a
  generalize h.toBitVec = b
  have e : (-1 : Int64).toBitVec = BitVec.allOnes 64 := by decide
  have z : (0 : Int64).toBitVec = 0#64 := by decide
  rw [e, z]
  ext i hi
  simp only [BitVec.getElem_and, BitVec.getElem_xor, BitVec.getElem_allOnes, BitVec.getElem_zero]
  cases a[i] <;> cases b[i] <;> rfl
theorem own_final (s k : Int32) (g : own_good s k = true) (W : Int64) (r zero : Int32) (x bit : Int64) (hx : x = zfV W (own_low s) (highV s))
    (hz : zero = (if (W &&& own_fm s k) = (0 : Int64) then (1 : Int32) else (0 : Int32))) (hb : bit = ((XT.ushrL x (k * widthV s + widthV s - 1)) &&& (1 : Int64)))
    (hr : r = (if (x &&& (highV s ^^^ (-1 : Int64))) = (0 : Int64) then (if bit = (1 : Int64) then (if (1 : Int32) = zero then (1 : Int32) else (0 : Int32)) else (if (0 : Int32) = zero then (1 : Int32) else (0 : Int32))) else (0 : Int32))) : r = 1 := by
  simp only [own_good, Bool.and_eq_true, decide_eq_true_eq] at g
  obtain ⟨⟨⟨⟨⟨⟨g1, g2⟩, g3⟩, g4⟩, g5⟩, g6⟩, g7⟩ := g
  have b1 : x.toBitVec.toNat.testBit (own_sh s k + own_v s) = decide (W.toBitVec.toNat / 2 ^ own_sh s k % 2 ^ (own_v s + 1) = 0) := by
    rw [hx, own_zf W _ _ _ g5 g7, own_field _ _ _ _ g1 g2, g6, Bool.and_true]
    by_cases q : W.toBitVec.toNat / 2 ^ own_sh s k % 2 ^ (own_v s + 1) = 0 <;> simp [q]
  have b2 : bit = 1 ↔ W.toBitVec.toNat / 2 ^ own_sh s k % 2 ^ (own_v s + 1) = 0 := by
    have e1 : (1 : Int64).toBitVec.toNat = 1 := by decide
    rw [hb, ← Int64.toBitVec_inj, ← BitVec.toNat_inj, Int64.toBitVec_and, BitVec.toNat_and, own_shr _ _ g4 g5, BitVec.toNat_ushiftRight, Nat.shiftRight_eq_div_pow, e1, Nat.and_one_is_mod]
    rw [Nat.testBit_eq_decide_div_mod_eq] at b1
    exact decide_eq_decide.mp b1
  have b3 : (W &&& own_fm s k) = 0 ↔ W.toBitVec.toNat / 2 ^ own_sh s k % 2 ^ (own_v s + 1) = 0 := by
    have e0 : (0 : Int64).toBitVec.toNat = 0 := by decide
    rw [← Int64.toBitVec_inj, ← BitVec.toNat_inj, Int64.toBitVec_and, BitVec.toNat_and, g3, own_andmul, Nat.and_two_pow_sub_one_eq_mod, e0, Nat.mul_eq_zero]
    have := Nat.two_pow_pos (own_sh s k)
    omega
  have b4 : (x &&& (highV s ^^^ (-1 : Int64))) = (0 : Int64) := by rw [hx]; exact own_hi _ _
  rw [hr, if_pos b4]
  by_cases q : W.toBitVec.toNat / 2 ^ own_sh s k % 2 ^ (own_v s + 1) = 0
  · rw [if_pos (b2.mpr q), hz, if_pos (b3.mpr q), if_pos rfl]
  · rw [if_neg (fun z => q (b2.mp z)), hz, if_neg (fun z => q (b3.mp z)), if_pos rfl]
theorem own_sfin (x : Int32) : ∃ i : Fin 8, x &&& (7 : Int32) = Int32.ofNat i.val := by
  have q := c_mask x 7 3 (by decide) (by decide)
  refine ⟨⟨(x &&& 7).toInt.toNat, by omega⟩, ?_⟩
  apply Int32.toInt_inj.mp
  rw [Int32.toInt_ofNat_of_lt (by simp only; omega)]
  simp only; omega
theorem own_wnz (s : Int32) : widthV s ≠ 0 := by
  unfold widthV
  repeat' split
  all_goals decide
theorem own_w64 (s : Int32) : 0 < ((64 : Int32) / widthV s).toInt ∧ ((64 : Int32) / widthV s).toInt ≤ 64 := by
  unfold widthV
  repeat' split
  all_goals decide
theorem own_kfin (s p : Int32) : ∃ j : Fin 64, (p &&& (2147483647 : Int32)) % ((64 : Int32) / widthV s) = Int32.ofNat j.val ∧ Int32.ofNat j.val < (64 : Int32) / widthV s := by
  have a := (c_and p 2147483647 (by decide)).1
  obtain ⟨n0, n1⟩ := own_w64 s
  have q := (c_irem (p &&& 2147483647) ((64 : Int32) / widthV s) _ rfl).1 a
  have l1 := Int.emod_lt_of_pos (p &&& 2147483647).toInt n0
  have l0 := Int.emod_nonneg (p &&& 2147483647).toInt (show ((64 : Int32) / widthV s).toInt ≠ 0 by omega)
  have e : (p &&& (2147483647 : Int32)) % ((64 : Int32) / widthV s) = Int32.ofNat ((p &&& (2147483647 : Int32)) % ((64 : Int32) / widthV s)).toInt.toNat := by
    apply Int32.toInt_inj.mp
    rw [Int32.toInt_ofNat_of_lt (by omega)]
    omega
  refine ⟨⟨((p &&& (2147483647 : Int32)) % ((64 : Int32) / widthV s)).toInt.toNat, by omega⟩, e, ?_⟩
  show Int32.ofNat ((p &&& (2147483647 : Int32)) % ((64 : Int32) / widthV s)).toInt.toNat < _
  rw [← e, Int32.lt_iff_toInt_lt]
  omega
theorem own_goodOf (x p : Int32) : own_good (x &&& (7 : Int32)) ((p &&& (2147483647 : Int32)) % ((64 : Int32) / widthV (x &&& (7 : Int32)))) = true := by
  obtain ⟨i, ei⟩ := own_sfin x
  rw [ei]
  obtain ⟨j, ej, lj⟩ := own_kfin (Int32.ofNat i.val) p
  rw [ej]
  exact (own_tab i j).resolve_left (fun z => z lj)
theorem own_nnz (s : Int32) : (64 : Int32) / widthV s ≠ 0 := fun e => by have := (own_w64 s).1; rw [e] at this; exact absurd this (by decide)
theorem own_wl (s : Int32) : Int32.toInt64 (widthV s) ≠ 0 := by unfold widthV; repeat' split
                                                                all_goals decide

theorem ef_0 (m : MethodId) (p0 : Int64) (p1 : Int64) (p2 : Int32) (p3 : Int32) : entryFrame m #[(.long p0), (.long p1), (.int p2), (.int p3)] maxLocals = mkF m 0 #[.val (.long p0), .second, .val (.long p1), .second, .val (.int p2), .val (.int p3), .unset, .unset, .unset, .unset, .unset, .unset, .unset, .unset, .unset, .unset, .unset, .unset, .unset, .unset, .unset, .unset, .unset, .unset, .unset, .unset, .unset, .unset, .unset, .unset] [] := by first | (simp [entryFrame, mkF, argsToLocals, Value.category, maxLocals]; done) | rfl
set_option maxRecDepth 65536 in
set_option maxHeartbeats 40000000 in
theorem law (l : Launch) (Z : State) (a0 : Array Value) (hw : ∀ d ∈ tables_1, d.before a0 Z = true) (ws : List Jvm.Cond) (p0 : Int64) (p1 : Int64) (p2 : Int32) (p3 : Int32) (h0 : Heap)  :
    Con l Z x code maxLocals ret ws room_1 0 0 #[(.long p0), (.long p1), (.int p2), (.int p3)] h0 (fun v h L => v = some (.int 1) ∧ Fr h0.size L) := by
  refine Con.body (plainFor_of_name (by first | (simp [plainName, overriddenIn, x]; done) | decide +kernel)) ?_
  intro p e s m below meth c T0 hx hby hml hown hnm hZ hret hk X0 e0
  refine Goes.cast (ef_0 m p0 p1 p2 p3) ?_
  show Goes p.tables e below (T0.setTop (mkF m 0 #[.val (.long p0), .second, .val (.long p1), .second, .val (.int p2), .val (.int p3), .unset, .unset, .unset, .unset, .unset, .unset, .unset, .unset, .unset, .unset, .unset, .unset, .unset, .unset, .unset, .unset, .unset, .unset, .unset, .unset, .unset, .unset, .unset, .unset] [])) _
  refine g_iload X0 hx (hb hby at_0) rfl ?_
  show Goes p.tables e below (T0.setTop (mkF m 2 #[.val (.long p0), .second, .val (.long p1), .second, .val (.int p2), .val (.int p3), .unset, .unset, .unset, .unset, .unset, .unset, .unset, .unset, .unset, .unset, .unset, .unset, .unset, .unset, .unset, .unset, .unset, .unset, .unset, .unset, .unset, .unset, .unset, .unset] [(.int p2)])) _
  refine g_bipush X0 hx (7 : Int32) (hb hby at_2) (by decide) ?_
  show Goes p.tables e below (T0.setTop (mkF m 4 #[.val (.long p0), .second, .val (.long p1), .second, .val (.int p2), .val (.int p3), .unset, .unset, .unset, .unset, .unset, .unset, .unset, .unset, .unset, .unset, .unset, .unset, .unset, .unset, .unset, .unset, .unset, .unset, .unset, .unset, .unset, .unset, .unset, .unset] [(.int (7 : Int32)), (.int p2)])) _
  refine g_iand X0 hx (hb hby at_4) ?_
  show Goes p.tables e below (T0.setTop (mkF m 5 #[.val (.long p0), .second, .val (.long p1), .second, .val (.int p2), .val (.int p3), .unset, .unset, .unset, .unset, .unset, .unset, .unset, .unset, .unset, .unset, .unset, .unset, .unset, .unset, .unset, .unset, .unset, .unset, .unset, .unset, .unset, .unset, .unset, .unset] [(.int (p2 &&& (7 : Int32)))])) _
  obtain ⟨vs, hvs⟩ : ∃ z : Int32, z = (p2 &&& (7 : Int32)) := ⟨_, rfl⟩
  refine g_nameI hvs ?_
  show Goes p.tables e below (T0.setTop (mkF m 5 #[.val (.long p0), .second, .val (.long p1), .second, .val (.int p2), .val (.int p3), .unset, .unset, .unset, .unset, .unset, .unset, .unset, .unset, .unset, .unset, .unset, .unset, .unset, .unset, .unset, .unset, .unset, .unset, .unset, .unset, .unset, .unset, .unset, .unset] [(.int vs)])) _
  refine g_istore X0 hx (hb hby at_5) (l' := #[.val (.long p0), .second, .val (.long p1), .second, .val (.int p2), .val (.int p3), .val (.int vs), .unset, .unset, .unset, .unset, .unset, .unset, .unset, .unset, .unset, .unset, .unset, .unset, .unset, .unset, .unset, .unset, .unset, .unset, .unset, .unset, .unset, .unset, .unset]) rfl ?_
  show Goes p.tables e below (T0.setTop (mkF m 7 #[.val (.long p0), .second, .val (.long p1), .second, .val (.int p2), .val (.int p3), .val (.int vs), .unset, .unset, .unset, .unset, .unset, .unset, .unset, .unset, .unset, .unset, .unset, .unset, .unset, .unset, .unset, .unset, .unset, .unset, .unset, .unset, .unset, .unset, .unset] [])) _
  refine g_iload X0 hx (hb hby at_7) rfl ?_
  show Goes p.tables e below (T0.setTop (mkF m 9 #[.val (.long p0), .second, .val (.long p1), .second, .val (.int p2), .val (.int p3), .val (.int vs), .unset, .unset, .unset, .unset, .unset, .unset, .unset, .unset, .unset, .unset, .unset, .unset, .unset, .unset, .unset, .unset, .unset, .unset, .unset, .unset, .unset, .unset, .unset] [(.int vs)])) _
  refine g_callS X0 hx hZ hown (by rw [hml]; rfl) e0 (hw _ (List.mem_of_getElem? (i := 0) rfl)) (hw _ (List.mem_of_getElem? (i := 1) rfl)) (hw _ (List.mem_of_getElem? (i := 2) rfl)) (hw _ (List.mem_of_getElem? (i := 3) rfl)) (rmW l Z a0 hw vs h0) [(.int vs)] rfl [] rfl (lenOf pd_1 rfl) (hb hby at_9) (by decide) 0 (by decide) (by decide) (by first | decide | exact Nat.le_refl _) (by decide) (by decide) (fun v T1 L1 X1 hQ1 => ?_)
  obtain ⟨rfl, e1, rfl⟩ := hQ1
  show Goes p.tables e below (T1.setTop (mkF m 12 #[.val (.long p0), .second, .val (.long p1), .second, .val (.int p2), .val (.int p3), .val (.int vs), .unset, .unset, .unset, .unset, .unset, .unset, .unset, .unset, .unset, .unset, .unset, .unset, .unset, .unset, .unset, .unset, .unset, .unset, .unset, .unset, .unset, .unset, .unset] [(.int (widthV vs))])) _
  obtain ⟨vw, hvw⟩ : ∃ z : Int32, z = (widthV vs) := ⟨_, rfl⟩
  refine g_nameI hvw ?_
  show Goes p.tables e below (T1.setTop (mkF m 12 #[.val (.long p0), .second, .val (.long p1), .second, .val (.int p2), .val (.int p3), .val (.int vs), .unset, .unset, .unset, .unset, .unset, .unset, .unset, .unset, .unset, .unset, .unset, .unset, .unset, .unset, .unset, .unset, .unset, .unset, .unset, .unset, .unset, .unset, .unset] [(.int vw)])) _
  refine g_istore X1 hx (hb hby at_12) (l' := #[.val (.long p0), .second, .val (.long p1), .second, .val (.int p2), .val (.int p3), .val (.int vs), .val (.int vw), .unset, .unset, .unset, .unset, .unset, .unset, .unset, .unset, .unset, .unset, .unset, .unset, .unset, .unset, .unset, .unset, .unset, .unset, .unset, .unset, .unset, .unset]) rfl ?_
  show Goes p.tables e below (T1.setTop (mkF m 14 #[.val (.long p0), .second, .val (.long p1), .second, .val (.int p2), .val (.int p3), .val (.int vs), .val (.int vw), .unset, .unset, .unset, .unset, .unset, .unset, .unset, .unset, .unset, .unset, .unset, .unset, .unset, .unset, .unset, .unset, .unset, .unset, .unset, .unset, .unset, .unset] [])) _
  refine g_iload X1 hx (hb hby at_14) rfl ?_
  show Goes p.tables e below (T1.setTop (mkF m 16 #[.val (.long p0), .second, .val (.long p1), .second, .val (.int p2), .val (.int p3), .val (.int vs), .val (.int vw), .unset, .unset, .unset, .unset, .unset, .unset, .unset, .unset, .unset, .unset, .unset, .unset, .unset, .unset, .unset, .unset, .unset, .unset, .unset, .unset, .unset, .unset] [(.int vs)])) _
  refine g_callS X1 hx hZ hown (by rw [hml]; rfl) e1 (hw _ (List.mem_of_getElem? (i := 4) rfl)) (hw _ (List.mem_of_getElem? (i := 5) rfl)) (hw _ (List.mem_of_getElem? (i := 2) rfl)) (hw _ (List.mem_of_getElem? (i := 6) rfl)) (rmH l Z a0 hw vs h0) [(.int vs)] rfl [] rfl (lenOf pd_2 rfl) (hb hby at_16) (by decide) 0 (by decide) (by decide) (by first | decide | exact Nat.le_refl _) (by decide) (by decide) (fun v T2 L2 X2 hQ2 => ?_)
  obtain ⟨rfl, e2, rfl⟩ := hQ2
  show Goes p.tables e below (T2.setTop (mkF m 19 #[.val (.long p0), .second, .val (.long p1), .second, .val (.int p2), .val (.int p3), .val (.int vs), .val (.int vw), .unset, .unset, .unset, .unset, .unset, .unset, .unset, .unset, .unset, .unset, .unset, .unset, .unset, .unset, .unset, .unset, .unset, .unset, .unset, .unset, .unset, .unset] [(.long (highV vs))])) _
  obtain ⟨vh, hvh⟩ : ∃ z : Int64, z = (highV vs) := ⟨_, rfl⟩
  refine g_nameL hvh ?_
  show Goes p.tables e below (T2.setTop (mkF m 19 #[.val (.long p0), .second, .val (.long p1), .second, .val (.int p2), .val (.int p3), .val (.int vs), .val (.int vw), .unset, .unset, .unset, .unset, .unset, .unset, .unset, .unset, .unset, .unset, .unset, .unset, .unset, .unset, .unset, .unset, .unset, .unset, .unset, .unset, .unset, .unset] [(.long vh)])) _
  refine g_lstore X2 hx (hb hby at_19) (l' := #[.val (.long p0), .second, .val (.long p1), .second, .val (.int p2), .val (.int p3), .val (.int vs), .val (.int vw), .val (.long vh), .second, .unset, .unset, .unset, .unset, .unset, .unset, .unset, .unset, .unset, .unset, .unset, .unset, .unset, .unset, .unset, .unset, .unset, .unset, .unset, .unset]) rfl ?_
  show Goes p.tables e below (T2.setTop (mkF m 21 #[.val (.long p0), .second, .val (.long p1), .second, .val (.int p2), .val (.int p3), .val (.int vs), .val (.int vw), .val (.long vh), .second, .unset, .unset, .unset, .unset, .unset, .unset, .unset, .unset, .unset, .unset, .unset, .unset, .unset, .unset, .unset, .unset, .unset, .unset, .unset, .unset] [])) _
  refine g_bipush X2 hx (64 : Int32) (hb hby at_21) (by decide) ?_
  show Goes p.tables e below (T2.setTop (mkF m 23 #[.val (.long p0), .second, .val (.long p1), .second, .val (.int p2), .val (.int p3), .val (.int vs), .val (.int vw), .val (.long vh), .second, .unset, .unset, .unset, .unset, .unset, .unset, .unset, .unset, .unset, .unset, .unset, .unset, .unset, .unset, .unset, .unset, .unset, .unset, .unset, .unset] [(.int (64 : Int32))])) _
  refine g_iload X2 hx (hb hby at_23) rfl ?_
  show Goes p.tables e below (T2.setTop (mkF m 25 #[.val (.long p0), .second, .val (.long p1), .second, .val (.int p2), .val (.int p3), .val (.int vs), .val (.int vw), .val (.long vh), .second, .unset, .unset, .unset, .unset, .unset, .unset, .unset, .unset, .unset, .unset, .unset, .unset, .unset, .unset, .unset, .unset, .unset, .unset, .unset, .unset] [(.int vw), (.int (64 : Int32))])) _
  refine g_idiv X2 hx (hb hby at_25) (by rw [hvw]; exact own_wnz _) ?_
  show Goes p.tables e below (T2.setTop (mkF m 26 #[.val (.long p0), .second, .val (.long p1), .second, .val (.int p2), .val (.int p3), .val (.int vs), .val (.int vw), .val (.long vh), .second, .unset, .unset, .unset, .unset, .unset, .unset, .unset, .unset, .unset, .unset, .unset, .unset, .unset, .unset, .unset, .unset, .unset, .unset, .unset, .unset] [(.int ((64 : Int32) / vw))])) _
  obtain ⟨vn, hvn⟩ : ∃ z : Int32, z = ((64 : Int32) / vw) := ⟨_, rfl⟩
  refine g_nameI hvn ?_
  show Goes p.tables e below (T2.setTop (mkF m 26 #[.val (.long p0), .second, .val (.long p1), .second, .val (.int p2), .val (.int p3), .val (.int vs), .val (.int vw), .val (.long vh), .second, .unset, .unset, .unset, .unset, .unset, .unset, .unset, .unset, .unset, .unset, .unset, .unset, .unset, .unset, .unset, .unset, .unset, .unset, .unset, .unset] [(.int vn)])) _
  refine g_istore X2 hx (hb hby at_26) (l' := #[.val (.long p0), .second, .val (.long p1), .second, .val (.int p2), .val (.int p3), .val (.int vs), .val (.int vw), .val (.long vh), .second, .val (.int vn), .unset, .unset, .unset, .unset, .unset, .unset, .unset, .unset, .unset, .unset, .unset, .unset, .unset, .unset, .unset, .unset, .unset, .unset, .unset]) rfl ?_
  show Goes p.tables e below (T2.setTop (mkF m 28 #[.val (.long p0), .second, .val (.long p1), .second, .val (.int p2), .val (.int p3), .val (.int vs), .val (.int vw), .val (.long vh), .second, .val (.int vn), .unset, .unset, .unset, .unset, .unset, .unset, .unset, .unset, .unset, .unset, .unset, .unset, .unset, .unset, .unset, .unset, .unset, .unset, .unset] [])) _
  refine g_iload X2 hx (hb hby at_28) rfl ?_
  show Goes p.tables e below (T2.setTop (mkF m 30 #[.val (.long p0), .second, .val (.long p1), .second, .val (.int p2), .val (.int p3), .val (.int vs), .val (.int vw), .val (.long vh), .second, .val (.int vn), .unset, .unset, .unset, .unset, .unset, .unset, .unset, .unset, .unset, .unset, .unset, .unset, .unset, .unset, .unset, .unset, .unset, .unset, .unset] [(.int vn)])) _
  refine g_iload X2 hx (hb hby at_30) rfl ?_
  show Goes p.tables e below (T2.setTop (mkF m 32 #[.val (.long p0), .second, .val (.long p1), .second, .val (.int p2), .val (.int p3), .val (.int vs), .val (.int vw), .val (.long vh), .second, .val (.int vn), .unset, .unset, .unset, .unset, .unset, .unset, .unset, .unset, .unset, .unset, .unset, .unset, .unset, .unset, .unset, .unset, .unset, .unset, .unset] [(.int vw), (.int vn)])) _
  refine g_imul X2 hx (hb hby at_32) ?_
  show Goes p.tables e below (T2.setTop (mkF m 33 #[.val (.long p0), .second, .val (.long p1), .second, .val (.int p2), .val (.int p3), .val (.int vs), .val (.int vw), .val (.long vh), .second, .val (.int vn), .unset, .unset, .unset, .unset, .unset, .unset, .unset, .unset, .unset, .unset, .unset, .unset, .unset, .unset, .unset, .unset, .unset, .unset, .unset] [(.int (vn * vw))])) _
  obtain ⟨vcd, hvcd⟩ : ∃ z : Int32, z = (vn * vw) := ⟨_, rfl⟩
  refine g_nameI hvcd ?_
  show Goes p.tables e below (T2.setTop (mkF m 33 #[.val (.long p0), .second, .val (.long p1), .second, .val (.int p2), .val (.int p3), .val (.int vs), .val (.int vw), .val (.long vh), .second, .val (.int vn), .unset, .unset, .unset, .unset, .unset, .unset, .unset, .unset, .unset, .unset, .unset, .unset, .unset, .unset, .unset, .unset, .unset, .unset, .unset] [(.int vcd)])) _
  refine g_istore X2 hx (hb hby at_33) (l' := #[.val (.long p0), .second, .val (.long p1), .second, .val (.int p2), .val (.int p3), .val (.int vs), .val (.int vw), .val (.long vh), .second, .val (.int vn), .val (.int vcd), .unset, .unset, .unset, .unset, .unset, .unset, .unset, .unset, .unset, .unset, .unset, .unset, .unset, .unset, .unset, .unset, .unset, .unset]) rfl ?_
  show Goes p.tables e below (T2.setTop (mkF m 35 #[.val (.long p0), .second, .val (.long p1), .second, .val (.int p2), .val (.int p3), .val (.int vs), .val (.int vw), .val (.long vh), .second, .val (.int vn), .val (.int vcd), .unset, .unset, .unset, .unset, .unset, .unset, .unset, .unset, .unset, .unset, .unset, .unset, .unset, .unset, .unset, .unset, .unset, .unset] [])) _
  refine g_iload X2 hx (hb hby at_35) rfl ?_
  show Goes p.tables e below (T2.setTop (mkF m 37 #[.val (.long p0), .second, .val (.long p1), .second, .val (.int p2), .val (.int p3), .val (.int vs), .val (.int vw), .val (.long vh), .second, .val (.int vn), .val (.int vcd), .unset, .unset, .unset, .unset, .unset, .unset, .unset, .unset, .unset, .unset, .unset, .unset, .unset, .unset, .unset, .unset, .unset, .unset] [(.int vcd)])) _
  refine g_bipush X2 hx (64 : Int32) (hb hby at_37) (by decide) ?_
  show Goes p.tables e below (T2.setTop (mkF m 39 #[.val (.long p0), .second, .val (.long p1), .second, .val (.int p2), .val (.int p3), .val (.int vs), .val (.int vw), .val (.long vh), .second, .val (.int vn), .val (.int vcd), .unset, .unset, .unset, .unset, .unset, .unset, .unset, .unset, .unset, .unset, .unset, .unset, .unset, .unset, .unset, .unset, .unset, .unset] [(.int (64 : Int32)), (.int vcd)])) _
  obtain ⟨v3, hv3⟩ : ∃ z : Int64, z = (if vcd = (64 : Int32) then (-1 : Int64) else (((1 : Int64) <<< (Int32.toInt64 vcd &&& 63)) - (1 : Int64))) := ⟨_, rfl⟩
  refine Goes.join (S' := T2.setTop (mkF m 54 #[.val (.long p0), .second, .val (.long p1), .second, .val (.int p2), .val (.int p3), .val (.int vs), .val (.int vw), .val (.long vh), .second, .val (.int vn), .val (.int vcd), .unset, .unset, .unset, .unset, .unset, .unset, .unset, .unset, .unset, .unset, .unset, .unset, .unset, .unset, .unset, .unset, .unset, .unset] [(.long v3)])) (fun J => ?_) ?_
  · skip
    refine g_icmp_ne X2 hx (hb hby at_39) (by decide) (pc' := 48) (by decide) (fun c39 => ?_) (fun c39 => ?_)
    · skip
      show Goes p.tables e below (T2.setTop (mkF m 48 #[.val (.long p0), .second, .val (.long p1), .second, .val (.int p2), .val (.int p3), .val (.int vs), .val (.int vw), .val (.long vh), .second, .val (.int vn), .val (.int vcd), .unset, .unset, .unset, .unset, .unset, .unset, .unset, .unset, .unset, .unset, .unset, .unset, .unset, .unset, .unset, .unset, .unset, .unset] [])) _
      refine g_lconst X2 hx (1 : Int64) (hb hby at_48) rfl ?_
      show Goes p.tables e below (T2.setTop (mkF m 49 #[.val (.long p0), .second, .val (.long p1), .second, .val (.int p2), .val (.int p3), .val (.int vs), .val (.int vw), .val (.long vh), .second, .val (.int vn), .val (.int vcd), .unset, .unset, .unset, .unset, .unset, .unset, .unset, .unset, .unset, .unset, .unset, .unset, .unset, .unset, .unset, .unset, .unset, .unset] [(.long (1 : Int64))])) _
      refine g_iload X2 hx (hb hby at_49) rfl ?_
      show Goes p.tables e below (T2.setTop (mkF m 51 #[.val (.long p0), .second, .val (.long p1), .second, .val (.int p2), .val (.int p3), .val (.int vs), .val (.int vw), .val (.long vh), .second, .val (.int vn), .val (.int vcd), .unset, .unset, .unset, .unset, .unset, .unset, .unset, .unset, .unset, .unset, .unset, .unset, .unset, .unset, .unset, .unset, .unset, .unset] [(.int vcd), (.long (1 : Int64))])) _
      refine g_lshl X2 hx (hb hby at_51) ?_
      show Goes p.tables e below (T2.setTop (mkF m 52 #[.val (.long p0), .second, .val (.long p1), .second, .val (.int p2), .val (.int p3), .val (.int vs), .val (.int vw), .val (.long vh), .second, .val (.int vn), .val (.int vcd), .unset, .unset, .unset, .unset, .unset, .unset, .unset, .unset, .unset, .unset, .unset, .unset, .unset, .unset, .unset, .unset, .unset, .unset] [(.long ((1 : Int64) <<< (Int32.toInt64 vcd &&& 63)))])) _
      refine g_lconst X2 hx (1 : Int64) (hb hby at_52) rfl ?_
      show Goes p.tables e below (T2.setTop (mkF m 53 #[.val (.long p0), .second, .val (.long p1), .second, .val (.int p2), .val (.int p3), .val (.int vs), .val (.int vw), .val (.long vh), .second, .val (.int vn), .val (.int vcd), .unset, .unset, .unset, .unset, .unset, .unset, .unset, .unset, .unset, .unset, .unset, .unset, .unset, .unset, .unset, .unset, .unset, .unset] [(.long (1 : Int64)), (.long ((1 : Int64) <<< (Int32.toInt64 vcd &&& 63)))])) _
      refine g_lsub X2 hx (hb hby at_53) ?_
      rw [show v3 = ((((1 : Int64) <<< (Int32.toInt64 vcd &&& 63)) - (1 : Int64))) from by rw [hv3, if_neg c39]] at J
      exact J
    · skip
      show Goes p.tables e below (T2.setTop (mkF m 42 #[.val (.long p0), .second, .val (.long p1), .second, .val (.int p2), .val (.int p3), .val (.int vs), .val (.int vw), .val (.long vh), .second, .val (.int vn), .val (.int vcd), .unset, .unset, .unset, .unset, .unset, .unset, .unset, .unset, .unset, .unset, .unset, .unset, .unset, .unset, .unset, .unset, .unset, .unset] [])) _
      refine g_ldc2 X2 hx hZ hown (hw _ (List.mem_of_getElem? (i := 7) rfl)) (hb hby at_42) ?_
      show Goes p.tables e below (T2.setTop (mkF m 45 #[.val (.long p0), .second, .val (.long p1), .second, .val (.int p2), .val (.int p3), .val (.int vs), .val (.int vw), .val (.long vh), .second, .val (.int vn), .val (.int vcd), .unset, .unset, .unset, .unset, .unset, .unset, .unset, .unset, .unset, .unset, .unset, .unset, .unset, .unset, .unset, .unset, .unset, .unset] [(.long (-1 : Int64))])) _
      refine g_goto X2 hx (hb hby at_45) (by decide) (pc' := 54) (by decide) ?_
      rw [show v3 = ((-1 : Int64)) from by rw [hv3, if_pos c39]] at J
      exact J
  show Goes p.tables e below (T2.setTop (mkF m 54 #[.val (.long p0), .second, .val (.long p1), .second, .val (.int p2), .val (.int p3), .val (.int vs), .val (.int vw), .val (.long vh), .second, .val (.int vn), .val (.int vcd), .unset, .unset, .unset, .unset, .unset, .unset, .unset, .unset, .unset, .unset, .unset, .unset, .unset, .unset, .unset, .unset, .unset, .unset] [(.long v3)])) _
  show Goes p.tables e below (T2.setTop (mkF m 54 #[.val (.long p0), .second, .val (.long p1), .second, .val (.int p2), .val (.int p3), .val (.int vs), .val (.int vw), .val (.long vh), .second, .val (.int vn), .val (.int vcd), .unset, .unset, .unset, .unset, .unset, .unset, .unset, .unset, .unset, .unset, .unset, .unset, .unset, .unset, .unset, .unset, .unset, .unset] [(.long v3)])) _
  refine g_lstore X2 hx (hb hby at_54) (l' := #[.val (.long p0), .second, .val (.long p1), .second, .val (.int p2), .val (.int p3), .val (.int vs), .val (.int vw), .val (.long vh), .second, .val (.int vn), .val (.int vcd), .val (.long v3), .second, .unset, .unset, .unset, .unset, .unset, .unset, .unset, .unset, .unset, .unset, .unset, .unset, .unset, .unset, .unset, .unset]) rfl ?_
  show Goes p.tables e below (T2.setTop (mkF m 56 #[.val (.long p0), .second, .val (.long p1), .second, .val (.int p2), .val (.int p3), .val (.int vs), .val (.int vw), .val (.long vh), .second, .val (.int vn), .val (.int vcd), .val (.long v3), .second, .unset, .unset, .unset, .unset, .unset, .unset, .unset, .unset, .unset, .unset, .unset, .unset, .unset, .unset, .unset, .unset] [])) _
  refine g_lload X2 hx (hb hby at_56) rfl ?_
  show Goes p.tables e below (T2.setTop (mkF m 58 #[.val (.long p0), .second, .val (.long p1), .second, .val (.int p2), .val (.int p3), .val (.int vs), .val (.int vw), .val (.long vh), .second, .val (.int vn), .val (.int vcd), .val (.long v3), .second, .unset, .unset, .unset, .unset, .unset, .unset, .unset, .unset, .unset, .unset, .unset, .unset, .unset, .unset, .unset, .unset] [(.long v3)])) _
  refine g_lload X2 hx (hb hby at_58) rfl ?_
  show Goes p.tables e below (T2.setTop (mkF m 60 #[.val (.long p0), .second, .val (.long p1), .second, .val (.int p2), .val (.int p3), .val (.int vs), .val (.int vw), .val (.long vh), .second, .val (.int vn), .val (.int vcd), .val (.long v3), .second, .unset, .unset, .unset, .unset, .unset, .unset, .unset, .unset, .unset, .unset, .unset, .unset, .unset, .unset, .unset, .unset] [(.long vh), (.long v3)])) _
  refine g_ldc2 X2 hx hZ hown (hw _ (List.mem_of_getElem? (i := 7) rfl)) (hb hby at_60) ?_
  show Goes p.tables e below (T2.setTop (mkF m 63 #[.val (.long p0), .second, .val (.long p1), .second, .val (.int p2), .val (.int p3), .val (.int vs), .val (.int vw), .val (.long vh), .second, .val (.int vn), .val (.int vcd), .val (.long v3), .second, .unset, .unset, .unset, .unset, .unset, .unset, .unset, .unset, .unset, .unset, .unset, .unset, .unset, .unset, .unset, .unset] [(.long (-1 : Int64)), (.long vh), (.long v3)])) _
  refine g_lxor X2 hx (hb hby at_63) ?_
  show Goes p.tables e below (T2.setTop (mkF m 64 #[.val (.long p0), .second, .val (.long p1), .second, .val (.int p2), .val (.int p3), .val (.int vs), .val (.int vw), .val (.long vh), .second, .val (.int vn), .val (.int vcd), .val (.long v3), .second, .unset, .unset, .unset, .unset, .unset, .unset, .unset, .unset, .unset, .unset, .unset, .unset, .unset, .unset, .unset, .unset] [(.long (vh ^^^ (-1 : Int64))), (.long v3)])) _
  refine g_land X2 hx (hb hby at_64) ?_
  show Goes p.tables e below (T2.setTop (mkF m 65 #[.val (.long p0), .second, .val (.long p1), .second, .val (.int p2), .val (.int p3), .val (.int vs), .val (.int vw), .val (.long vh), .second, .val (.int vn), .val (.int vcd), .val (.long v3), .second, .unset, .unset, .unset, .unset, .unset, .unset, .unset, .unset, .unset, .unset, .unset, .unset, .unset, .unset, .unset, .unset] [(.long (v3 &&& (vh ^^^ (-1 : Int64))))])) _
  obtain ⟨vlow, hvlow⟩ : ∃ z : Int64, z = (v3 &&& (vh ^^^ (-1 : Int64))) := ⟨_, rfl⟩
  refine g_nameL hvlow ?_
  show Goes p.tables e below (T2.setTop (mkF m 65 #[.val (.long p0), .second, .val (.long p1), .second, .val (.int p2), .val (.int p3), .val (.int vs), .val (.int vw), .val (.long vh), .second, .val (.int vn), .val (.int vcd), .val (.long v3), .second, .unset, .unset, .unset, .unset, .unset, .unset, .unset, .unset, .unset, .unset, .unset, .unset, .unset, .unset, .unset, .unset] [(.long vlow)])) _
  refine g_lstore X2 hx (hb hby at_65) (l' := #[.val (.long p0), .second, .val (.long p1), .second, .val (.int p2), .val (.int p3), .val (.int vs), .val (.int vw), .val (.long vh), .second, .val (.int vn), .val (.int vcd), .val (.long v3), .second, .val (.long vlow), .second, .unset, .unset, .unset, .unset, .unset, .unset, .unset, .unset, .unset, .unset, .unset, .unset, .unset, .unset]) rfl ?_
  show Goes p.tables e below (T2.setTop (mkF m 67 #[.val (.long p0), .second, .val (.long p1), .second, .val (.int p2), .val (.int p3), .val (.int vs), .val (.int vw), .val (.long vh), .second, .val (.int vn), .val (.int vcd), .val (.long v3), .second, .val (.long vlow), .second, .unset, .unset, .unset, .unset, .unset, .unset, .unset, .unset, .unset, .unset, .unset, .unset, .unset, .unset] [])) _
  refine g_iload X2 hx (hb hby at_67) rfl ?_
  show Goes p.tables e below (T2.setTop (mkF m 69 #[.val (.long p0), .second, .val (.long p1), .second, .val (.int p2), .val (.int p3), .val (.int vs), .val (.int vw), .val (.long vh), .second, .val (.int vn), .val (.int vcd), .val (.long v3), .second, .val (.long vlow), .second, .unset, .unset, .unset, .unset, .unset, .unset, .unset, .unset, .unset, .unset, .unset, .unset, .unset, .unset] [(.int p3)])) _
  refine g_ldc X2 hx hZ hown (hw _ (List.mem_of_getElem? (i := 8) rfl)) (hb hby at_69) ?_
  show Goes p.tables e below (T2.setTop (mkF m 71 #[.val (.long p0), .second, .val (.long p1), .second, .val (.int p2), .val (.int p3), .val (.int vs), .val (.int vw), .val (.long vh), .second, .val (.int vn), .val (.int vcd), .val (.long v3), .second, .val (.long vlow), .second, .unset, .unset, .unset, .unset, .unset, .unset, .unset, .unset, .unset, .unset, .unset, .unset, .unset, .unset] [(.int (2147483647 : Int32)), (.int p3)])) _
  refine g_iand X2 hx (hb hby at_71) ?_
  show Goes p.tables e below (T2.setTop (mkF m 72 #[.val (.long p0), .second, .val (.long p1), .second, .val (.int p2), .val (.int p3), .val (.int vs), .val (.int vw), .val (.long vh), .second, .val (.int vn), .val (.int vcd), .val (.long v3), .second, .val (.long vlow), .second, .unset, .unset, .unset, .unset, .unset, .unset, .unset, .unset, .unset, .unset, .unset, .unset, .unset, .unset] [(.int (p3 &&& (2147483647 : Int32)))])) _
  refine g_iload X2 hx (hb hby at_72) rfl ?_
  show Goes p.tables e below (T2.setTop (mkF m 74 #[.val (.long p0), .second, .val (.long p1), .second, .val (.int p2), .val (.int p3), .val (.int vs), .val (.int vw), .val (.long vh), .second, .val (.int vn), .val (.int vcd), .val (.long v3), .second, .val (.long vlow), .second, .unset, .unset, .unset, .unset, .unset, .unset, .unset, .unset, .unset, .unset, .unset, .unset, .unset, .unset] [(.int vn), (.int (p3 &&& (2147483647 : Int32)))])) _
  refine g_irem X2 hx (hb hby at_74) (by rw [hvn, hvw]; exact own_nnz _) ?_
  show Goes p.tables e below (T2.setTop (mkF m 75 #[.val (.long p0), .second, .val (.long p1), .second, .val (.int p2), .val (.int p3), .val (.int vs), .val (.int vw), .val (.long vh), .second, .val (.int vn), .val (.int vcd), .val (.long v3), .second, .val (.long vlow), .second, .unset, .unset, .unset, .unset, .unset, .unset, .unset, .unset, .unset, .unset, .unset, .unset, .unset, .unset] [(.int ((p3 &&& (2147483647 : Int32)) % vn))])) _
  obtain ⟨vk, hvk⟩ : ∃ z : Int32, z = ((p3 &&& (2147483647 : Int32)) % vn) := ⟨_, rfl⟩
  refine g_nameI hvk ?_
  show Goes p.tables e below (T2.setTop (mkF m 75 #[.val (.long p0), .second, .val (.long p1), .second, .val (.int p2), .val (.int p3), .val (.int vs), .val (.int vw), .val (.long vh), .second, .val (.int vn), .val (.int vcd), .val (.long v3), .second, .val (.long vlow), .second, .unset, .unset, .unset, .unset, .unset, .unset, .unset, .unset, .unset, .unset, .unset, .unset, .unset, .unset] [(.int vk)])) _
  refine g_istore X2 hx (hb hby at_75) (l' := #[.val (.long p0), .second, .val (.long p1), .second, .val (.int p2), .val (.int p3), .val (.int vs), .val (.int vw), .val (.long vh), .second, .val (.int vn), .val (.int vcd), .val (.long v3), .second, .val (.long vlow), .second, .val (.int vk), .unset, .unset, .unset, .unset, .unset, .unset, .unset, .unset, .unset, .unset, .unset, .unset, .unset]) rfl ?_
  show Goes p.tables e below (T2.setTop (mkF m 77 #[.val (.long p0), .second, .val (.long p1), .second, .val (.int p2), .val (.int p3), .val (.int vs), .val (.int vw), .val (.long vh), .second, .val (.int vn), .val (.int vcd), .val (.long v3), .second, .val (.long vlow), .second, .val (.int vk), .unset, .unset, .unset, .unset, .unset, .unset, .unset, .unset, .unset, .unset, .unset, .unset, .unset] [])) _
  refine g_iload X2 hx (hb hby at_77) rfl ?_
  show Goes p.tables e below (T2.setTop (mkF m 79 #[.val (.long p0), .second, .val (.long p1), .second, .val (.int p2), .val (.int p3), .val (.int vs), .val (.int vw), .val (.long vh), .second, .val (.int vn), .val (.int vcd), .val (.long v3), .second, .val (.long vlow), .second, .val (.int vk), .unset, .unset, .unset, .unset, .unset, .unset, .unset, .unset, .unset, .unset, .unset, .unset, .unset] [(.int vk)])) _
  refine g_iload X2 hx (hb hby at_79) rfl ?_
  show Goes p.tables e below (T2.setTop (mkF m 81 #[.val (.long p0), .second, .val (.long p1), .second, .val (.int p2), .val (.int p3), .val (.int vs), .val (.int vw), .val (.long vh), .second, .val (.int vn), .val (.int vcd), .val (.long v3), .second, .val (.long vlow), .second, .val (.int vk), .unset, .unset, .unset, .unset, .unset, .unset, .unset, .unset, .unset, .unset, .unset, .unset, .unset] [(.int vw), (.int vk)])) _
  refine g_imul X2 hx (hb hby at_81) ?_
  show Goes p.tables e below (T2.setTop (mkF m 82 #[.val (.long p0), .second, .val (.long p1), .second, .val (.int p2), .val (.int p3), .val (.int vs), .val (.int vw), .val (.long vh), .second, .val (.int vn), .val (.int vcd), .val (.long v3), .second, .val (.long vlow), .second, .val (.int vk), .unset, .unset, .unset, .unset, .unset, .unset, .unset, .unset, .unset, .unset, .unset, .unset, .unset] [(.int (vk * vw))])) _
  obtain ⟨vsh, hvsh⟩ : ∃ z : Int32, z = (vk * vw) := ⟨_, rfl⟩
  refine g_nameI hvsh ?_
  show Goes p.tables e below (T2.setTop (mkF m 82 #[.val (.long p0), .second, .val (.long p1), .second, .val (.int p2), .val (.int p3), .val (.int vs), .val (.int vw), .val (.long vh), .second, .val (.int vn), .val (.int vcd), .val (.long v3), .second, .val (.long vlow), .second, .val (.int vk), .unset, .unset, .unset, .unset, .unset, .unset, .unset, .unset, .unset, .unset, .unset, .unset, .unset] [(.int vsh)])) _
  refine g_istore X2 hx (hb hby at_82) (l' := #[.val (.long p0), .second, .val (.long p1), .second, .val (.int p2), .val (.int p3), .val (.int vs), .val (.int vw), .val (.long vh), .second, .val (.int vn), .val (.int vcd), .val (.long v3), .second, .val (.long vlow), .second, .val (.int vk), .val (.int vsh), .unset, .unset, .unset, .unset, .unset, .unset, .unset, .unset, .unset, .unset, .unset, .unset]) rfl ?_
  show Goes p.tables e below (T2.setTop (mkF m 84 #[.val (.long p0), .second, .val (.long p1), .second, .val (.int p2), .val (.int p3), .val (.int vs), .val (.int vw), .val (.long vh), .second, .val (.int vn), .val (.int vcd), .val (.long v3), .second, .val (.long vlow), .second, .val (.int vk), .val (.int vsh), .unset, .unset, .unset, .unset, .unset, .unset, .unset, .unset, .unset, .unset, .unset, .unset] [])) _
  refine g_iload X2 hx (hb hby at_84) rfl ?_
  show Goes p.tables e below (T2.setTop (mkF m 86 #[.val (.long p0), .second, .val (.long p1), .second, .val (.int p2), .val (.int p3), .val (.int vs), .val (.int vw), .val (.long vh), .second, .val (.int vn), .val (.int vcd), .val (.long v3), .second, .val (.long vlow), .second, .val (.int vk), .val (.int vsh), .unset, .unset, .unset, .unset, .unset, .unset, .unset, .unset, .unset, .unset, .unset, .unset] [(.int vw)])) _
  refine g_bipush X2 hx (64 : Int32) (hb hby at_86) (by decide) ?_
  show Goes p.tables e below (T2.setTop (mkF m 88 #[.val (.long p0), .second, .val (.long p1), .second, .val (.int p2), .val (.int p3), .val (.int vs), .val (.int vw), .val (.long vh), .second, .val (.int vn), .val (.int vcd), .val (.long v3), .second, .val (.long vlow), .second, .val (.int vk), .val (.int vsh), .unset, .unset, .unset, .unset, .unset, .unset, .unset, .unset, .unset, .unset, .unset, .unset] [(.int (64 : Int32)), (.int vw)])) _
  obtain ⟨v4, hv4⟩ : ∃ z : Int64, z = (if vw = (64 : Int32) then (-1 : Int64) else (((1 : Int64) <<< (Int32.toInt64 vw &&& 63)) - (1 : Int64))) := ⟨_, rfl⟩
  refine Goes.join (S' := T2.setTop (mkF m 103 #[.val (.long p0), .second, .val (.long p1), .second, .val (.int p2), .val (.int p3), .val (.int vs), .val (.int vw), .val (.long vh), .second, .val (.int vn), .val (.int vcd), .val (.long v3), .second, .val (.long vlow), .second, .val (.int vk), .val (.int vsh), .unset, .unset, .unset, .unset, .unset, .unset, .unset, .unset, .unset, .unset, .unset, .unset] [(.long v4)])) (fun J => ?_) ?_
  · skip
    refine g_icmp_ne X2 hx (hb hby at_88) (by decide) (pc' := 97) (by decide) (fun c88 => ?_) (fun c88 => ?_)
    · skip
      show Goes p.tables e below (T2.setTop (mkF m 97 #[.val (.long p0), .second, .val (.long p1), .second, .val (.int p2), .val (.int p3), .val (.int vs), .val (.int vw), .val (.long vh), .second, .val (.int vn), .val (.int vcd), .val (.long v3), .second, .val (.long vlow), .second, .val (.int vk), .val (.int vsh), .unset, .unset, .unset, .unset, .unset, .unset, .unset, .unset, .unset, .unset, .unset, .unset] [])) _
      refine g_lconst X2 hx (1 : Int64) (hb hby at_97) rfl ?_
      show Goes p.tables e below (T2.setTop (mkF m 98 #[.val (.long p0), .second, .val (.long p1), .second, .val (.int p2), .val (.int p3), .val (.int vs), .val (.int vw), .val (.long vh), .second, .val (.int vn), .val (.int vcd), .val (.long v3), .second, .val (.long vlow), .second, .val (.int vk), .val (.int vsh), .unset, .unset, .unset, .unset, .unset, .unset, .unset, .unset, .unset, .unset, .unset, .unset] [(.long (1 : Int64))])) _
      refine g_iload X2 hx (hb hby at_98) rfl ?_
      show Goes p.tables e below (T2.setTop (mkF m 100 #[.val (.long p0), .second, .val (.long p1), .second, .val (.int p2), .val (.int p3), .val (.int vs), .val (.int vw), .val (.long vh), .second, .val (.int vn), .val (.int vcd), .val (.long v3), .second, .val (.long vlow), .second, .val (.int vk), .val (.int vsh), .unset, .unset, .unset, .unset, .unset, .unset, .unset, .unset, .unset, .unset, .unset, .unset] [(.int vw), (.long (1 : Int64))])) _
      refine g_lshl X2 hx (hb hby at_100) ?_
      show Goes p.tables e below (T2.setTop (mkF m 101 #[.val (.long p0), .second, .val (.long p1), .second, .val (.int p2), .val (.int p3), .val (.int vs), .val (.int vw), .val (.long vh), .second, .val (.int vn), .val (.int vcd), .val (.long v3), .second, .val (.long vlow), .second, .val (.int vk), .val (.int vsh), .unset, .unset, .unset, .unset, .unset, .unset, .unset, .unset, .unset, .unset, .unset, .unset] [(.long ((1 : Int64) <<< (Int32.toInt64 vw &&& 63)))])) _
      refine g_lconst X2 hx (1 : Int64) (hb hby at_101) rfl ?_
      show Goes p.tables e below (T2.setTop (mkF m 102 #[.val (.long p0), .second, .val (.long p1), .second, .val (.int p2), .val (.int p3), .val (.int vs), .val (.int vw), .val (.long vh), .second, .val (.int vn), .val (.int vcd), .val (.long v3), .second, .val (.long vlow), .second, .val (.int vk), .val (.int vsh), .unset, .unset, .unset, .unset, .unset, .unset, .unset, .unset, .unset, .unset, .unset, .unset] [(.long (1 : Int64)), (.long ((1 : Int64) <<< (Int32.toInt64 vw &&& 63)))])) _
      refine g_lsub X2 hx (hb hby at_102) ?_
      rw [show v4 = ((((1 : Int64) <<< (Int32.toInt64 vw &&& 63)) - (1 : Int64))) from by rw [hv4, if_neg c88]] at J
      exact J
    · skip
      show Goes p.tables e below (T2.setTop (mkF m 91 #[.val (.long p0), .second, .val (.long p1), .second, .val (.int p2), .val (.int p3), .val (.int vs), .val (.int vw), .val (.long vh), .second, .val (.int vn), .val (.int vcd), .val (.long v3), .second, .val (.long vlow), .second, .val (.int vk), .val (.int vsh), .unset, .unset, .unset, .unset, .unset, .unset, .unset, .unset, .unset, .unset, .unset, .unset] [])) _
      refine g_ldc2 X2 hx hZ hown (hw _ (List.mem_of_getElem? (i := 7) rfl)) (hb hby at_91) ?_
      show Goes p.tables e below (T2.setTop (mkF m 94 #[.val (.long p0), .second, .val (.long p1), .second, .val (.int p2), .val (.int p3), .val (.int vs), .val (.int vw), .val (.long vh), .second, .val (.int vn), .val (.int vcd), .val (.long v3), .second, .val (.long vlow), .second, .val (.int vk), .val (.int vsh), .unset, .unset, .unset, .unset, .unset, .unset, .unset, .unset, .unset, .unset, .unset, .unset] [(.long (-1 : Int64))])) _
      refine g_goto X2 hx (hb hby at_94) (by decide) (pc' := 103) (by decide) ?_
      rw [show v4 = ((-1 : Int64)) from by rw [hv4, if_pos c88]] at J
      exact J
  show Goes p.tables e below (T2.setTop (mkF m 103 #[.val (.long p0), .second, .val (.long p1), .second, .val (.int p2), .val (.int p3), .val (.int vs), .val (.int vw), .val (.long vh), .second, .val (.int vn), .val (.int vcd), .val (.long v3), .second, .val (.long vlow), .second, .val (.int vk), .val (.int vsh), .unset, .unset, .unset, .unset, .unset, .unset, .unset, .unset, .unset, .unset, .unset, .unset] [(.long v4)])) _
  show Goes p.tables e below (T2.setTop (mkF m 103 #[.val (.long p0), .second, .val (.long p1), .second, .val (.int p2), .val (.int p3), .val (.int vs), .val (.int vw), .val (.long vh), .second, .val (.int vn), .val (.int vcd), .val (.long v3), .second, .val (.long vlow), .second, .val (.int vk), .val (.int vsh), .unset, .unset, .unset, .unset, .unset, .unset, .unset, .unset, .unset, .unset, .unset, .unset] [(.long v4)])) _
  refine g_lstore X2 hx (hb hby at_103) (l' := #[.val (.long p0), .second, .val (.long p1), .second, .val (.int p2), .val (.int p3), .val (.int vs), .val (.int vw), .val (.long vh), .second, .val (.int vn), .val (.int vcd), .val (.long v3), .second, .val (.long vlow), .second, .val (.int vk), .val (.int vsh), .val (.long v4), .second, .unset, .unset, .unset, .unset, .unset, .unset, .unset, .unset, .unset, .unset]) rfl ?_
  show Goes p.tables e below (T2.setTop (mkF m 105 #[.val (.long p0), .second, .val (.long p1), .second, .val (.int p2), .val (.int p3), .val (.int vs), .val (.int vw), .val (.long vh), .second, .val (.int vn), .val (.int vcd), .val (.long v3), .second, .val (.long vlow), .second, .val (.int vk), .val (.int vsh), .val (.long v4), .second, .unset, .unset, .unset, .unset, .unset, .unset, .unset, .unset, .unset, .unset] [])) _
  refine g_lload X2 hx (hb hby at_105) rfl ?_
  show Goes p.tables e below (T2.setTop (mkF m 107 #[.val (.long p0), .second, .val (.long p1), .second, .val (.int p2), .val (.int p3), .val (.int vs), .val (.int vw), .val (.long vh), .second, .val (.int vn), .val (.int vcd), .val (.long v3), .second, .val (.long vlow), .second, .val (.int vk), .val (.int vsh), .val (.long v4), .second, .unset, .unset, .unset, .unset, .unset, .unset, .unset, .unset, .unset, .unset] [(.long v4)])) _
  refine g_iload X2 hx (hb hby at_107) rfl ?_
  show Goes p.tables e below (T2.setTop (mkF m 109 #[.val (.long p0), .second, .val (.long p1), .second, .val (.int p2), .val (.int p3), .val (.int vs), .val (.int vw), .val (.long vh), .second, .val (.int vn), .val (.int vcd), .val (.long v3), .second, .val (.long vlow), .second, .val (.int vk), .val (.int vsh), .val (.long v4), .second, .unset, .unset, .unset, .unset, .unset, .unset, .unset, .unset, .unset, .unset] [(.int vsh), (.long v4)])) _
  refine g_lshl X2 hx (hb hby at_109) ?_
  show Goes p.tables e below (T2.setTop (mkF m 110 #[.val (.long p0), .second, .val (.long p1), .second, .val (.int p2), .val (.int p3), .val (.int vs), .val (.int vw), .val (.long vh), .second, .val (.int vn), .val (.int vcd), .val (.long v3), .second, .val (.long vlow), .second, .val (.int vk), .val (.int vsh), .val (.long v4), .second, .unset, .unset, .unset, .unset, .unset, .unset, .unset, .unset, .unset, .unset] [(.long (v4 <<< (Int32.toInt64 vsh &&& 63)))])) _
  obtain ⟨vfm, hvfm⟩ : ∃ z : Int64, z = (v4 <<< (Int32.toInt64 vsh &&& 63)) := ⟨_, rfl⟩
  refine g_nameL hvfm ?_
  show Goes p.tables e below (T2.setTop (mkF m 110 #[.val (.long p0), .second, .val (.long p1), .second, .val (.int p2), .val (.int p3), .val (.int vs), .val (.int vw), .val (.long vh), .second, .val (.int vn), .val (.int vcd), .val (.long v3), .second, .val (.long vlow), .second, .val (.int vk), .val (.int vsh), .val (.long v4), .second, .unset, .unset, .unset, .unset, .unset, .unset, .unset, .unset, .unset, .unset] [(.long vfm)])) _
  refine g_lstore X2 hx (hb hby at_110) (l' := #[.val (.long p0), .second, .val (.long p1), .second, .val (.int p2), .val (.int p3), .val (.int vs), .val (.int vw), .val (.long vh), .second, .val (.int vn), .val (.int vcd), .val (.long v3), .second, .val (.long vlow), .second, .val (.int vk), .val (.int vsh), .val (.long v4), .second, .val (.long vfm), .second, .unset, .unset, .unset, .unset, .unset, .unset, .unset, .unset]) rfl ?_
  show Goes p.tables e below (T2.setTop (mkF m 112 #[.val (.long p0), .second, .val (.long p1), .second, .val (.int p2), .val (.int p3), .val (.int vs), .val (.int vw), .val (.long vh), .second, .val (.int vn), .val (.int vcd), .val (.long v3), .second, .val (.long vlow), .second, .val (.int vk), .val (.int vsh), .val (.long v4), .second, .val (.long vfm), .second, .unset, .unset, .unset, .unset, .unset, .unset, .unset, .unset] [])) _
  refine g_iload X2 hx (hb hby at_112) rfl ?_
  show Goes p.tables e below (T2.setTop (mkF m 114 #[.val (.long p0), .second, .val (.long p1), .second, .val (.int p2), .val (.int p3), .val (.int vs), .val (.int vw), .val (.long vh), .second, .val (.int vn), .val (.int vcd), .val (.long v3), .second, .val (.long vlow), .second, .val (.int vk), .val (.int vsh), .val (.long v4), .second, .val (.long vfm), .second, .unset, .unset, .unset, .unset, .unset, .unset, .unset, .unset] [(.int p2)])) _
  refine g_iconst X2 hx (3 : Int32) (hb hby at_114) rfl ?_
  show Goes p.tables e below (T2.setTop (mkF m 115 #[.val (.long p0), .second, .val (.long p1), .second, .val (.int p2), .val (.int p3), .val (.int vs), .val (.int vw), .val (.long vh), .second, .val (.int vn), .val (.int vcd), .val (.long v3), .second, .val (.long vlow), .second, .val (.int vk), .val (.int vsh), .val (.long v4), .second, .val (.long vfm), .second, .unset, .unset, .unset, .unset, .unset, .unset, .unset, .unset] [(.int (3 : Int32)), (.int p2)])) _
  refine g_iushr X2 hx (hb hby at_115) ?_
  show Goes p.tables e below (T2.setTop (mkF m 116 #[.val (.long p0), .second, .val (.long p1), .second, .val (.int p2), .val (.int p3), .val (.int vs), .val (.int vw), .val (.long vh), .second, .val (.int vn), .val (.int vcd), .val (.long v3), .second, .val (.long vlow), .second, .val (.int vk), .val (.int vsh), .val (.long v4), .second, .val (.long vfm), .second, .unset, .unset, .unset, .unset, .unset, .unset, .unset, .unset] [(.int (XT.ushr p2 (3 : Int32)))])) _
  refine g_iconst X2 hx (3 : Int32) (hb hby at_116) rfl ?_
  show Goes p.tables e below (T2.setTop (mkF m 117 #[.val (.long p0), .second, .val (.long p1), .second, .val (.int p2), .val (.int p3), .val (.int vs), .val (.int vw), .val (.long vh), .second, .val (.int vn), .val (.int vcd), .val (.long v3), .second, .val (.long vlow), .second, .val (.int vk), .val (.int vsh), .val (.long v4), .second, .val (.long vfm), .second, .unset, .unset, .unset, .unset, .unset, .unset, .unset, .unset] [(.int (3 : Int32)), (.int (XT.ushr p2 (3 : Int32)))])) _
  refine g_iand X2 hx (hb hby at_117) ?_
  show Goes p.tables e below (T2.setTop (mkF m 118 #[.val (.long p0), .second, .val (.long p1), .second, .val (.int p2), .val (.int p3), .val (.int vs), .val (.int vw), .val (.long vh), .second, .val (.int vn), .val (.int vcd), .val (.long v3), .second, .val (.long vlow), .second, .val (.int vk), .val (.int vsh), .val (.long v4), .second, .val (.long vfm), .second, .unset, .unset, .unset, .unset, .unset, .unset, .unset, .unset] [(.int ((XT.ushr p2 (3 : Int32)) &&& (3 : Int32)))])) _
  obtain ⟨vmode, hvmode⟩ : ∃ z : Int32, z = ((XT.ushr p2 (3 : Int32)) &&& (3 : Int32)) := ⟨_, rfl⟩
  refine g_nameI hvmode ?_
  show Goes p.tables e below (T2.setTop (mkF m 118 #[.val (.long p0), .second, .val (.long p1), .second, .val (.int p2), .val (.int p3), .val (.int vs), .val (.int vw), .val (.long vh), .second, .val (.int vn), .val (.int vcd), .val (.long v3), .second, .val (.long vlow), .second, .val (.int vk), .val (.int vsh), .val (.long v4), .second, .val (.long vfm), .second, .unset, .unset, .unset, .unset, .unset, .unset, .unset, .unset] [(.int vmode)])) _
  refine g_istore X2 hx (hb hby at_118) (l' := #[.val (.long p0), .second, .val (.long p1), .second, .val (.int p2), .val (.int p3), .val (.int vs), .val (.int vw), .val (.long vh), .second, .val (.int vn), .val (.int vcd), .val (.long v3), .second, .val (.long vlow), .second, .val (.int vk), .val (.int vsh), .val (.long v4), .second, .val (.long vfm), .second, .val (.int vmode), .unset, .unset, .unset, .unset, .unset, .unset, .unset]) rfl ?_
  show Goes p.tables e below (T2.setTop (mkF m 120 #[.val (.long p0), .second, .val (.long p1), .second, .val (.int p2), .val (.int p3), .val (.int vs), .val (.int vw), .val (.long vh), .second, .val (.int vn), .val (.int vcd), .val (.long v3), .second, .val (.long vlow), .second, .val (.int vk), .val (.int vsh), .val (.long v4), .second, .val (.long vfm), .second, .val (.int vmode), .unset, .unset, .unset, .unset, .unset, .unset, .unset] [])) _
  refine g_iload X2 hx (hb hby at_120) rfl ?_
  show Goes p.tables e below (T2.setTop (mkF m 122 #[.val (.long p0), .second, .val (.long p1), .second, .val (.int p2), .val (.int p3), .val (.int vs), .val (.int vw), .val (.long vh), .second, .val (.int vn), .val (.int vcd), .val (.long v3), .second, .val (.long vlow), .second, .val (.int vk), .val (.int vsh), .val (.long v4), .second, .val (.long vfm), .second, .val (.int vmode), .unset, .unset, .unset, .unset, .unset, .unset, .unset] [(.int vmode)])) _
  refine g_if_ne X2 hx (hb hby at_122) (by decide) (pc' := 131) (by decide) (fun c122 => ?_) (fun c122 => ?_)
  · skip
    show Goes p.tables e below (T2.setTop (mkF m 131 #[.val (.long p0), .second, .val (.long p1), .second, .val (.int p2), .val (.int p3), .val (.int vs), .val (.int vw), .val (.long vh), .second, .val (.int vn), .val (.int vcd), .val (.long v3), .second, .val (.long vlow), .second, .val (.int vk), .val (.int vsh), .val (.long v4), .second, .val (.long vfm), .second, .val (.int vmode), .unset, .unset, .unset, .unset, .unset, .unset, .unset] [])) _
    refine g_iload X2 hx (hb hby at_131) rfl ?_
    show Goes p.tables e below (T2.setTop (mkF m 133 #[.val (.long p0), .second, .val (.long p1), .second, .val (.int p2), .val (.int p3), .val (.int vs), .val (.int vw), .val (.long vh), .second, .val (.int vn), .val (.int vcd), .val (.long v3), .second, .val (.long vlow), .second, .val (.int vk), .val (.int vsh), .val (.long v4), .second, .val (.long vfm), .second, .val (.int vmode), .unset, .unset, .unset, .unset, .unset, .unset, .unset] [(.int vmode)])) _
    refine g_iconst X2 hx (1 : Int32) (hb hby at_133) rfl ?_
    show Goes p.tables e below (T2.setTop (mkF m 134 #[.val (.long p0), .second, .val (.long p1), .second, .val (.int p2), .val (.int p3), .val (.int vs), .val (.int vw), .val (.long vh), .second, .val (.int vn), .val (.int vcd), .val (.long v3), .second, .val (.long vlow), .second, .val (.int vk), .val (.int vsh), .val (.long v4), .second, .val (.long vfm), .second, .val (.int vmode), .unset, .unset, .unset, .unset, .unset, .unset, .unset] [(.int (1 : Int32)), (.int vmode)])) _
    refine g_icmp_ne X2 hx (hb hby at_134) (by decide) (pc' := 150) (by decide) (fun c134 => ?_) (fun c134 => ?_)
    · skip
      show Goes p.tables e below (T2.setTop (mkF m 150 #[.val (.long p0), .second, .val (.long p1), .second, .val (.int p2), .val (.int p3), .val (.int vs), .val (.int vw), .val (.long vh), .second, .val (.int vn), .val (.int vcd), .val (.long v3), .second, .val (.long vlow), .second, .val (.int vk), .val (.int vsh), .val (.long v4), .second, .val (.long vfm), .second, .val (.int vmode), .unset, .unset, .unset, .unset, .unset, .unset, .unset] [])) _
      refine g_iload X2 hx (hb hby at_150) rfl ?_
      show Goes p.tables e below (T2.setTop (mkF m 152 #[.val (.long p0), .second, .val (.long p1), .second, .val (.int p2), .val (.int p3), .val (.int vs), .val (.int vw), .val (.long vh), .second, .val (.int vn), .val (.int vcd), .val (.long v3), .second, .val (.long vlow), .second, .val (.int vk), .val (.int vsh), .val (.long v4), .second, .val (.long vfm), .second, .val (.int vmode), .unset, .unset, .unset, .unset, .unset, .unset, .unset] [(.int vmode)])) _
      refine g_iconst X2 hx (2 : Int32) (hb hby at_152) rfl ?_
      show Goes p.tables e below (T2.setTop (mkF m 153 #[.val (.long p0), .second, .val (.long p1), .second, .val (.int p2), .val (.int p3), .val (.int vs), .val (.int vw), .val (.long vh), .second, .val (.int vn), .val (.int vcd), .val (.long v3), .second, .val (.long vlow), .second, .val (.int vk), .val (.int vsh), .val (.long v4), .second, .val (.long vfm), .second, .val (.int vmode), .unset, .unset, .unset, .unset, .unset, .unset, .unset] [(.int (2 : Int32)), (.int vmode)])) _
      refine g_icmp_ne X2 hx (hb hby at_153) (by decide) (pc' := 189) (by decide) (fun c153 => ?_) (fun c153 => ?_)
      · skip
        show Goes p.tables e below (T2.setTop (mkF m 189 #[.val (.long p0), .second, .val (.long p1), .second, .val (.int p2), .val (.int p3), .val (.int vs), .val (.int vw), .val (.long vh), .second, .val (.int vn), .val (.int vcd), .val (.long v3), .second, .val (.long vlow), .second, .val (.int vk), .val (.int vsh), .val (.long v4), .second, .val (.long vfm), .second, .val (.int vmode), .unset, .unset, .unset, .unset, .unset, .unset, .unset] [])) _
        refine g_lload X2 hx (hb hby at_189) rfl ?_
        show Goes p.tables e below (T2.setTop (mkF m 191 #[.val (.long p0), .second, .val (.long p1), .second, .val (.int p2), .val (.int p3), .val (.int vs), .val (.int vw), .val (.long vh), .second, .val (.int vn), .val (.int vcd), .val (.long v3), .second, .val (.long vlow), .second, .val (.int vk), .val (.int vsh), .val (.long v4), .second, .val (.long vfm), .second, .val (.int vmode), .unset, .unset, .unset, .unset, .unset, .unset, .unset] [(.long vfm)])) _
        refine g_ldc2 X2 hx hZ hown (hw _ (List.mem_of_getElem? (i := 7) rfl)) (hb hby at_191) ?_
        show Goes p.tables e below (T2.setTop (mkF m 194 #[.val (.long p0), .second, .val (.long p1), .second, .val (.int p2), .val (.int p3), .val (.int vs), .val (.int vw), .val (.long vh), .second, .val (.int vn), .val (.int vcd), .val (.long v3), .second, .val (.long vlow), .second, .val (.int vk), .val (.int vsh), .val (.long v4), .second, .val (.long vfm), .second, .val (.int vmode), .unset, .unset, .unset, .unset, .unset, .unset, .unset] [(.long (-1 : Int64)), (.long vfm)])) _
        refine g_lxor X2 hx (hb hby at_194) ?_
        show Goes p.tables e below (T2.setTop (mkF m 195 #[.val (.long p0), .second, .val (.long p1), .second, .val (.int p2), .val (.int p3), .val (.int vs), .val (.int vw), .val (.long vh), .second, .val (.int vn), .val (.int vcd), .val (.long v3), .second, .val (.long vlow), .second, .val (.int vk), .val (.int vsh), .val (.long v4), .second, .val (.long vfm), .second, .val (.int vmode), .unset, .unset, .unset, .unset, .unset, .unset, .unset] [(.long (vfm ^^^ (-1 : Int64)))])) _
        obtain ⟨vwd3, hvwd3⟩ : ∃ z : Int64, z = (vfm ^^^ (-1 : Int64)) := ⟨_, rfl⟩
        refine g_nameL hvwd3 ?_
        show Goes p.tables e below (T2.setTop (mkF m 195 #[.val (.long p0), .second, .val (.long p1), .second, .val (.int p2), .val (.int p3), .val (.int vs), .val (.int vw), .val (.long vh), .second, .val (.int vn), .val (.int vcd), .val (.long v3), .second, .val (.long vlow), .second, .val (.int vk), .val (.int vsh), .val (.long v4), .second, .val (.long vfm), .second, .val (.int vmode), .unset, .unset, .unset, .unset, .unset, .unset, .unset] [(.long vwd3)])) _
        refine g_lstore X2 hx (hb hby at_195) (l' := #[.val (.long p0), .second, .val (.long p1), .second, .val (.int p2), .val (.int p3), .val (.int vs), .val (.int vw), .val (.long vh), .second, .val (.int vn), .val (.int vcd), .val (.long v3), .second, .val (.long vlow), .second, .val (.int vk), .val (.int vsh), .val (.long v4), .second, .val (.long vfm), .second, .val (.int vmode), .val (.long vwd3), .second, .unset, .unset, .unset, .unset, .unset]) rfl ?_
        show Goes p.tables e below (T2.setTop (mkF m 197 #[.val (.long p0), .second, .val (.long p1), .second, .val (.int p2), .val (.int p3), .val (.int vs), .val (.int vw), .val (.long vh), .second, .val (.int vn), .val (.int vcd), .val (.long v3), .second, .val (.long vlow), .second, .val (.int vk), .val (.int vsh), .val (.long v4), .second, .val (.long vfm), .second, .val (.int vmode), .val (.long vwd3), .second, .unset, .unset, .unset, .unset, .unset] [])) _
        refine g_lload X2 hx (hb hby at_197) rfl ?_
        show Goes p.tables e below (T2.setTop (mkF m 199 #[.val (.long p0), .second, .val (.long p1), .second, .val (.int p2), .val (.int p3), .val (.int vs), .val (.int vw), .val (.long vh), .second, .val (.int vn), .val (.int vcd), .val (.long v3), .second, .val (.long vlow), .second, .val (.int vk), .val (.int vsh), .val (.long v4), .second, .val (.long vfm), .second, .val (.int vmode), .val (.long vwd3), .second, .unset, .unset, .unset, .unset, .unset] [(.long vwd3)])) _
        refine g_lload X2 hx (hb hby at_199) rfl ?_
        show Goes p.tables e below (T2.setTop (mkF m 201 #[.val (.long p0), .second, .val (.long p1), .second, .val (.int p2), .val (.int p3), .val (.int vs), .val (.int vw), .val (.long vh), .second, .val (.int vn), .val (.int vcd), .val (.long v3), .second, .val (.long vlow), .second, .val (.int vk), .val (.int vsh), .val (.long v4), .second, .val (.long vfm), .second, .val (.int vmode), .val (.long vwd3), .second, .unset, .unset, .unset, .unset, .unset] [(.long vlow), (.long vwd3)])) _
        refine g_lload X2 hx (hb hby at_201) rfl ?_
        show Goes p.tables e below (T2.setTop (mkF m 203 #[.val (.long p0), .second, .val (.long p1), .second, .val (.int p2), .val (.int p3), .val (.int vs), .val (.int vw), .val (.long vh), .second, .val (.int vn), .val (.int vcd), .val (.long v3), .second, .val (.long vlow), .second, .val (.int vk), .val (.int vsh), .val (.long v4), .second, .val (.long vfm), .second, .val (.int vmode), .val (.long vwd3), .second, .unset, .unset, .unset, .unset, .unset] [(.long vh), (.long vlow), (.long vwd3)])) _
        refine g_callS X2 hx hZ hown (by rw [hml]; rfl) e2 (hw _ (List.mem_of_getElem? (i := 9) rfl)) (hw _ (List.mem_of_getElem? (i := 10) rfl)) (hw _ (List.mem_of_getElem? (i := 11) rfl)) (hw _ (List.mem_of_getElem? (i := 12) rfl)) (rmZ l Z a0 hw vwd3 vlow vh h0) [(.long vwd3), (.long vlow), (.long vh)] rfl [] rfl (lenOf pd_3 rfl) (hb hby at_203) (by decide) 0 (by decide) (by decide) (by first | decide | exact Nat.le_refl _) (by decide) (by decide) (fun v T5 L5 X5 hQ5 => ?_)
        obtain ⟨rfl, e5, rfl⟩ := hQ5
        show Goes p.tables e below (T5.setTop (mkF m 206 #[.val (.long p0), .second, .val (.long p1), .second, .val (.int p2), .val (.int p3), .val (.int vs), .val (.int vw), .val (.long vh), .second, .val (.int vn), .val (.int vcd), .val (.long v3), .second, .val (.long vlow), .second, .val (.int vk), .val (.int vsh), .val (.long v4), .second, .val (.long vfm), .second, .val (.int vmode), .val (.long vwd3), .second, .unset, .unset, .unset, .unset, .unset] [(.long (zfV vwd3 vlow vh))])) _
        obtain ⟨vr, hvr⟩ : ∃ z : Int64, z = (zfV vwd3 vlow vh) := ⟨_, rfl⟩
        refine g_nameL hvr ?_
        show Goes p.tables e below (T5.setTop (mkF m 206 #[.val (.long p0), .second, .val (.long p1), .second, .val (.int p2), .val (.int p3), .val (.int vs), .val (.int vw), .val (.long vh), .second, .val (.int vn), .val (.int vcd), .val (.long v3), .second, .val (.long vlow), .second, .val (.int vk), .val (.int vsh), .val (.long v4), .second, .val (.long vfm), .second, .val (.int vmode), .val (.long vwd3), .second, .unset, .unset, .unset, .unset, .unset] [(.long vr)])) _
        refine g_lstore X5 hx (hb hby at_206) (l' := #[.val (.long p0), .second, .val (.long p1), .second, .val (.int p2), .val (.int p3), .val (.int vs), .val (.int vw), .val (.long vh), .second, .val (.int vn), .val (.int vcd), .val (.long v3), .second, .val (.long vlow), .second, .val (.int vk), .val (.int vsh), .val (.long v4), .second, .val (.long vfm), .second, .val (.int vmode), .val (.long vwd3), .second, .val (.long vr), .second, .unset, .unset, .unset]) rfl ?_
        show Goes p.tables e below (T5.setTop (mkF m 208 #[.val (.long p0), .second, .val (.long p1), .second, .val (.int p2), .val (.int p3), .val (.int vs), .val (.int vw), .val (.long vh), .second, .val (.int vn), .val (.int vcd), .val (.long v3), .second, .val (.long vlow), .second, .val (.int vk), .val (.int vsh), .val (.long v4), .second, .val (.long vfm), .second, .val (.int vmode), .val (.long vwd3), .second, .val (.long vr), .second, .unset, .unset, .unset] [])) _
        refine g_lload X5 hx (hb hby at_208) rfl ?_
        show Goes p.tables e below (T5.setTop (mkF m 210 #[.val (.long p0), .second, .val (.long p1), .second, .val (.int p2), .val (.int p3), .val (.int vs), .val (.int vw), .val (.long vh), .second, .val (.int vn), .val (.int vcd), .val (.long v3), .second, .val (.long vlow), .second, .val (.int vk), .val (.int vsh), .val (.long v4), .second, .val (.long vfm), .second, .val (.int vmode), .val (.long vwd3), .second, .val (.long vr), .second, .unset, .unset, .unset] [(.long vwd3)])) _
        refine g_lload X5 hx (hb hby at_210) rfl ?_
        show Goes p.tables e below (T5.setTop (mkF m 212 #[.val (.long p0), .second, .val (.long p1), .second, .val (.int p2), .val (.int p3), .val (.int vs), .val (.int vw), .val (.long vh), .second, .val (.int vn), .val (.int vcd), .val (.long v3), .second, .val (.long vlow), .second, .val (.int vk), .val (.int vsh), .val (.long v4), .second, .val (.long vfm), .second, .val (.int vmode), .val (.long vwd3), .second, .val (.long vr), .second, .unset, .unset, .unset] [(.long vfm), (.long vwd3)])) _
        refine g_land X5 hx (hb hby at_212) ?_
        show Goes p.tables e below (T5.setTop (mkF m 213 #[.val (.long p0), .second, .val (.long p1), .second, .val (.int p2), .val (.int p3), .val (.int vs), .val (.int vw), .val (.long vh), .second, .val (.int vn), .val (.int vcd), .val (.long v3), .second, .val (.long vlow), .second, .val (.int vk), .val (.int vsh), .val (.long v4), .second, .val (.long vfm), .second, .val (.int vmode), .val (.long vwd3), .second, .val (.long vr), .second, .unset, .unset, .unset] [(.long (vwd3 &&& vfm))])) _
        refine g_lconst X5 hx (0 : Int64) (hb hby at_213) rfl ?_
        show Goes p.tables e below (T5.setTop (mkF m 214 #[.val (.long p0), .second, .val (.long p1), .second, .val (.int p2), .val (.int p3), .val (.int vs), .val (.int vw), .val (.long vh), .second, .val (.int vn), .val (.int vcd), .val (.long v3), .second, .val (.long vlow), .second, .val (.int vk), .val (.int vsh), .val (.long v4), .second, .val (.long vfm), .second, .val (.int vmode), .val (.long vwd3), .second, .val (.long vr), .second, .unset, .unset, .unset] [(.long (0 : Int64)), (.long (vwd3 &&& vfm))])) _
        refine g_lcmp X5 hx (hb hby at_214) ?_
        show Goes p.tables e below (T5.setTop (mkF m 215 #[.val (.long p0), .second, .val (.long p1), .second, .val (.int p2), .val (.int p3), .val (.int vs), .val (.int vw), .val (.long vh), .second, .val (.int vn), .val (.int vcd), .val (.long v3), .second, .val (.long vlow), .second, .val (.int vk), .val (.int vsh), .val (.long v4), .second, .val (.long vfm), .second, .val (.int vmode), .val (.long vwd3), .second, .val (.long vr), .second, .unset, .unset, .unset] [(.int (XT.cmpL (vwd3 &&& vfm) (0 : Int64)))])) _
        obtain ⟨v6, hv6⟩ : ∃ z : Int32, z = (if (vwd3 &&& vfm) = (0 : Int64) then (1 : Int32) else (0 : Int32)) := ⟨_, rfl⟩
        refine Goes.join (S' := T5.setTop (mkF m 223 #[.val (.long p0), .second, .val (.long p1), .second, .val (.int p2), .val (.int p3), .val (.int vs), .val (.int vw), .val (.long vh), .second, .val (.int vn), .val (.int vcd), .val (.long v3), .second, .val (.long vlow), .second, .val (.int vk), .val (.int vsh), .val (.long v4), .second, .val (.long vfm), .second, .val (.int vmode), .val (.long vwd3), .second, .val (.long vr), .second, .unset, .unset, .unset] [(.int v6)])) (fun J => ?_) ?_
        · skip
          refine g_lif_ne X5 hx (hb hby at_215) (by decide) (pc' := 222) (by decide) (fun c215 => ?_) (fun c215 => ?_)
          · skip
            show Goes p.tables e below (T5.setTop (mkF m 222 #[.val (.long p0), .second, .val (.long p1), .second, .val (.int p2), .val (.int p3), .val (.int vs), .val (.int vw), .val (.long vh), .second, .val (.int vn), .val (.int vcd), .val (.long v3), .second, .val (.long vlow), .second, .val (.int vk), .val (.int vsh), .val (.long v4), .second, .val (.long vfm), .second, .val (.int vmode), .val (.long vwd3), .second, .val (.long vr), .second, .unset, .unset, .unset] [])) _
            refine g_iconst X5 hx (0 : Int32) (hb hby at_222) rfl ?_
            rw [show v6 = ((0 : Int32)) from by rw [hv6, if_neg c215]] at J
            exact J
          · skip
            show Goes p.tables e below (T5.setTop (mkF m 218 #[.val (.long p0), .second, .val (.long p1), .second, .val (.int p2), .val (.int p3), .val (.int vs), .val (.int vw), .val (.long vh), .second, .val (.int vn), .val (.int vcd), .val (.long v3), .second, .val (.long vlow), .second, .val (.int vk), .val (.int vsh), .val (.long v4), .second, .val (.long vfm), .second, .val (.int vmode), .val (.long vwd3), .second, .val (.long vr), .second, .unset, .unset, .unset] [])) _
            refine g_iconst X5 hx (1 : Int32) (hb hby at_218) rfl ?_
            show Goes p.tables e below (T5.setTop (mkF m 219 #[.val (.long p0), .second, .val (.long p1), .second, .val (.int p2), .val (.int p3), .val (.int vs), .val (.int vw), .val (.long vh), .second, .val (.int vn), .val (.int vcd), .val (.long v3), .second, .val (.long vlow), .second, .val (.int vk), .val (.int vsh), .val (.long v4), .second, .val (.long vfm), .second, .val (.int vmode), .val (.long vwd3), .second, .val (.long vr), .second, .unset, .unset, .unset] [(.int (1 : Int32))])) _
            refine g_goto X5 hx (hb hby at_219) (by decide) (pc' := 223) (by decide) ?_
            rw [show v6 = ((1 : Int32)) from by rw [hv6, if_pos c215]] at J
            exact J
        show Goes p.tables e below (T5.setTop (mkF m 223 #[.val (.long p0), .second, .val (.long p1), .second, .val (.int p2), .val (.int p3), .val (.int vs), .val (.int vw), .val (.long vh), .second, .val (.int vn), .val (.int vcd), .val (.long v3), .second, .val (.long vlow), .second, .val (.int vk), .val (.int vsh), .val (.long v4), .second, .val (.long vfm), .second, .val (.int vmode), .val (.long vwd3), .second, .val (.long vr), .second, .unset, .unset, .unset] [(.int v6)])) _
        refine g_istore X5 hx (hb hby at_223) (l' := #[.val (.long p0), .second, .val (.long p1), .second, .val (.int p2), .val (.int p3), .val (.int vs), .val (.int vw), .val (.long vh), .second, .val (.int vn), .val (.int vcd), .val (.long v3), .second, .val (.long vlow), .second, .val (.int vk), .val (.int vsh), .val (.long v4), .second, .val (.long vfm), .second, .val (.int vmode), .val (.long vwd3), .second, .val (.long vr), .second, .val (.int v6), .unset, .unset]) rfl ?_
        show Goes p.tables e below (T5.setTop (mkF m 225 #[.val (.long p0), .second, .val (.long p1), .second, .val (.int p2), .val (.int p3), .val (.int vs), .val (.int vw), .val (.long vh), .second, .val (.int vn), .val (.int vcd), .val (.long v3), .second, .val (.long vlow), .second, .val (.int vk), .val (.int vsh), .val (.long v4), .second, .val (.long vfm), .second, .val (.int vmode), .val (.long vwd3), .second, .val (.long vr), .second, .val (.int v6), .unset, .unset] [])) _
        refine g_lload X5 hx (hb hby at_225) rfl ?_
        show Goes p.tables e below (T5.setTop (mkF m 227 #[.val (.long p0), .second, .val (.long p1), .second, .val (.int p2), .val (.int p3), .val (.int vs), .val (.int vw), .val (.long vh), .second, .val (.int vn), .val (.int vcd), .val (.long v3), .second, .val (.long vlow), .second, .val (.int vk), .val (.int vsh), .val (.long v4), .second, .val (.long vfm), .second, .val (.int vmode), .val (.long vwd3), .second, .val (.long vr), .second, .val (.int v6), .unset, .unset] [(.long vr)])) _
        refine g_iload X5 hx (hb hby at_227) rfl ?_
        show Goes p.tables e below (T5.setTop (mkF m 229 #[.val (.long p0), .second, .val (.long p1), .second, .val (.int p2), .val (.int p3), .val (.int vs), .val (.int vw), .val (.long vh), .second, .val (.int vn), .val (.int vcd), .val (.long v3), .second, .val (.long vlow), .second, .val (.int vk), .val (.int vsh), .val (.long v4), .second, .val (.long vfm), .second, .val (.int vmode), .val (.long vwd3), .second, .val (.long vr), .second, .val (.int v6), .unset, .unset] [(.int vsh), (.long vr)])) _
        refine g_iload X5 hx (hb hby at_229) rfl ?_
        show Goes p.tables e below (T5.setTop (mkF m 231 #[.val (.long p0), .second, .val (.long p1), .second, .val (.int p2), .val (.int p3), .val (.int vs), .val (.int vw), .val (.long vh), .second, .val (.int vn), .val (.int vcd), .val (.long v3), .second, .val (.long vlow), .second, .val (.int vk), .val (.int vsh), .val (.long v4), .second, .val (.long vfm), .second, .val (.int vmode), .val (.long vwd3), .second, .val (.long vr), .second, .val (.int v6), .unset, .unset] [(.int vw), (.int vsh), (.long vr)])) _
        refine g_iadd X5 hx (hb hby at_231) ?_
        show Goes p.tables e below (T5.setTop (mkF m 232 #[.val (.long p0), .second, .val (.long p1), .second, .val (.int p2), .val (.int p3), .val (.int vs), .val (.int vw), .val (.long vh), .second, .val (.int vn), .val (.int vcd), .val (.long v3), .second, .val (.long vlow), .second, .val (.int vk), .val (.int vsh), .val (.long v4), .second, .val (.long vfm), .second, .val (.int vmode), .val (.long vwd3), .second, .val (.long vr), .second, .val (.int v6), .unset, .unset] [(.int (vsh + vw)), (.long vr)])) _
        refine g_iconst X5 hx (1 : Int32) (hb hby at_232) rfl ?_
        show Goes p.tables e below (T5.setTop (mkF m 233 #[.val (.long p0), .second, .val (.long p1), .second, .val (.int p2), .val (.int p3), .val (.int vs), .val (.int vw), .val (.long vh), .second, .val (.int vn), .val (.int vcd), .val (.long v3), .second, .val (.long vlow), .second, .val (.int vk), .val (.int vsh), .val (.long v4), .second, .val (.long vfm), .second, .val (.int vmode), .val (.long vwd3), .second, .val (.long vr), .second, .val (.int v6), .unset, .unset] [(.int (1 : Int32)), (.int (vsh + vw)), (.long vr)])) _
        refine g_isub X5 hx (hb hby at_233) ?_
        show Goes p.tables e below (T5.setTop (mkF m 234 #[.val (.long p0), .second, .val (.long p1), .second, .val (.int p2), .val (.int p3), .val (.int vs), .val (.int vw), .val (.long vh), .second, .val (.int vn), .val (.int vcd), .val (.long v3), .second, .val (.long vlow), .second, .val (.int vk), .val (.int vsh), .val (.long v4), .second, .val (.long vfm), .second, .val (.int vmode), .val (.long vwd3), .second, .val (.long vr), .second, .val (.int v6), .unset, .unset] [(.int ((vsh + vw) - (1 : Int32))), (.long vr)])) _
        refine g_lushr X5 hx (hb hby at_234) ?_
        show Goes p.tables e below (T5.setTop (mkF m 235 #[.val (.long p0), .second, .val (.long p1), .second, .val (.int p2), .val (.int p3), .val (.int vs), .val (.int vw), .val (.long vh), .second, .val (.int vn), .val (.int vcd), .val (.long v3), .second, .val (.long vlow), .second, .val (.int vk), .val (.int vsh), .val (.long v4), .second, .val (.long vfm), .second, .val (.int vmode), .val (.long vwd3), .second, .val (.long vr), .second, .val (.int v6), .unset, .unset] [(.long (XT.ushrL vr ((vsh + vw) - (1 : Int32))))])) _
        refine g_lconst X5 hx (1 : Int64) (hb hby at_235) rfl ?_
        show Goes p.tables e below (T5.setTop (mkF m 236 #[.val (.long p0), .second, .val (.long p1), .second, .val (.int p2), .val (.int p3), .val (.int vs), .val (.int vw), .val (.long vh), .second, .val (.int vn), .val (.int vcd), .val (.long v3), .second, .val (.long vlow), .second, .val (.int vk), .val (.int vsh), .val (.long v4), .second, .val (.long vfm), .second, .val (.int vmode), .val (.long vwd3), .second, .val (.long vr), .second, .val (.int v6), .unset, .unset] [(.long (1 : Int64)), (.long (XT.ushrL vr ((vsh + vw) - (1 : Int32))))])) _
        refine g_land X5 hx (hb hby at_236) ?_
        show Goes p.tables e below (T5.setTop (mkF m 237 #[.val (.long p0), .second, .val (.long p1), .second, .val (.int p2), .val (.int p3), .val (.int vs), .val (.int vw), .val (.long vh), .second, .val (.int vn), .val (.int vcd), .val (.long v3), .second, .val (.long vlow), .second, .val (.int vk), .val (.int vsh), .val (.long v4), .second, .val (.long vfm), .second, .val (.int vmode), .val (.long vwd3), .second, .val (.long vr), .second, .val (.int v6), .unset, .unset] [(.long ((XT.ushrL vr ((vsh + vw) - (1 : Int32))) &&& (1 : Int64)))])) _
        obtain ⟨vbit, hvbit⟩ : ∃ z : Int64, z = ((XT.ushrL vr ((vsh + vw) - (1 : Int32))) &&& (1 : Int64)) := ⟨_, rfl⟩
        refine g_nameL hvbit ?_
        show Goes p.tables e below (T5.setTop (mkF m 237 #[.val (.long p0), .second, .val (.long p1), .second, .val (.int p2), .val (.int p3), .val (.int vs), .val (.int vw), .val (.long vh), .second, .val (.int vn), .val (.int vcd), .val (.long v3), .second, .val (.long vlow), .second, .val (.int vk), .val (.int vsh), .val (.long v4), .second, .val (.long vfm), .second, .val (.int vmode), .val (.long vwd3), .second, .val (.long vr), .second, .val (.int v6), .unset, .unset] [(.long vbit)])) _
        refine g_lstore X5 hx (hb hby at_237) (l' := #[.val (.long p0), .second, .val (.long p1), .second, .val (.int p2), .val (.int p3), .val (.int vs), .val (.int vw), .val (.long vh), .second, .val (.int vn), .val (.int vcd), .val (.long v3), .second, .val (.long vlow), .second, .val (.int vk), .val (.int vsh), .val (.long v4), .second, .val (.long vfm), .second, .val (.int vmode), .val (.long vwd3), .second, .val (.long vr), .second, .val (.int v6), .val (.long vbit), .second]) rfl ?_
        show Goes p.tables e below (T5.setTop (mkF m 239 #[.val (.long p0), .second, .val (.long p1), .second, .val (.int p2), .val (.int p3), .val (.int vs), .val (.int vw), .val (.long vh), .second, .val (.int vn), .val (.int vcd), .val (.long v3), .second, .val (.long vlow), .second, .val (.int vk), .val (.int vsh), .val (.long v4), .second, .val (.long vfm), .second, .val (.int vmode), .val (.long vwd3), .second, .val (.long vr), .second, .val (.int v6), .val (.long vbit), .second] [])) _
        refine g_lload X5 hx (hb hby at_239) rfl ?_
        show Goes p.tables e below (T5.setTop (mkF m 241 #[.val (.long p0), .second, .val (.long p1), .second, .val (.int p2), .val (.int p3), .val (.int vs), .val (.int vw), .val (.long vh), .second, .val (.int vn), .val (.int vcd), .val (.long v3), .second, .val (.long vlow), .second, .val (.int vk), .val (.int vsh), .val (.long v4), .second, .val (.long vfm), .second, .val (.int vmode), .val (.long vwd3), .second, .val (.long vr), .second, .val (.int v6), .val (.long vbit), .second] [(.long vr)])) _
        refine g_lload X5 hx (hb hby at_241) rfl ?_
        show Goes p.tables e below (T5.setTop (mkF m 243 #[.val (.long p0), .second, .val (.long p1), .second, .val (.int p2), .val (.int p3), .val (.int vs), .val (.int vw), .val (.long vh), .second, .val (.int vn), .val (.int vcd), .val (.long v3), .second, .val (.long vlow), .second, .val (.int vk), .val (.int vsh), .val (.long v4), .second, .val (.long vfm), .second, .val (.int vmode), .val (.long vwd3), .second, .val (.long vr), .second, .val (.int v6), .val (.long vbit), .second] [(.long vh), (.long vr)])) _
        refine g_ldc2 X5 hx hZ hown (hw _ (List.mem_of_getElem? (i := 7) rfl)) (hb hby at_243) ?_
        show Goes p.tables e below (T5.setTop (mkF m 246 #[.val (.long p0), .second, .val (.long p1), .second, .val (.int p2), .val (.int p3), .val (.int vs), .val (.int vw), .val (.long vh), .second, .val (.int vn), .val (.int vcd), .val (.long v3), .second, .val (.long vlow), .second, .val (.int vk), .val (.int vsh), .val (.long v4), .second, .val (.long vfm), .second, .val (.int vmode), .val (.long vwd3), .second, .val (.long vr), .second, .val (.int v6), .val (.long vbit), .second] [(.long (-1 : Int64)), (.long vh), (.long vr)])) _
        refine g_lxor X5 hx (hb hby at_246) ?_
        show Goes p.tables e below (T5.setTop (mkF m 247 #[.val (.long p0), .second, .val (.long p1), .second, .val (.int p2), .val (.int p3), .val (.int vs), .val (.int vw), .val (.long vh), .second, .val (.int vn), .val (.int vcd), .val (.long v3), .second, .val (.long vlow), .second, .val (.int vk), .val (.int vsh), .val (.long v4), .second, .val (.long vfm), .second, .val (.int vmode), .val (.long vwd3), .second, .val (.long vr), .second, .val (.int v6), .val (.long vbit), .second] [(.long (vh ^^^ (-1 : Int64))), (.long vr)])) _
        refine g_land X5 hx (hb hby at_247) ?_
        show Goes p.tables e below (T5.setTop (mkF m 248 #[.val (.long p0), .second, .val (.long p1), .second, .val (.int p2), .val (.int p3), .val (.int vs), .val (.int vw), .val (.long vh), .second, .val (.int vn), .val (.int vcd), .val (.long v3), .second, .val (.long vlow), .second, .val (.int vk), .val (.int vsh), .val (.long v4), .second, .val (.long vfm), .second, .val (.int vmode), .val (.long vwd3), .second, .val (.long vr), .second, .val (.int v6), .val (.long vbit), .second] [(.long (vr &&& (vh ^^^ (-1 : Int64))))])) _
        refine g_lconst X5 hx (0 : Int64) (hb hby at_248) rfl ?_
        show Goes p.tables e below (T5.setTop (mkF m 249 #[.val (.long p0), .second, .val (.long p1), .second, .val (.int p2), .val (.int p3), .val (.int vs), .val (.int vw), .val (.long vh), .second, .val (.int vn), .val (.int vcd), .val (.long v3), .second, .val (.long vlow), .second, .val (.int vk), .val (.int vsh), .val (.long v4), .second, .val (.long vfm), .second, .val (.int vmode), .val (.long vwd3), .second, .val (.long vr), .second, .val (.int v6), .val (.long vbit), .second] [(.long (0 : Int64)), (.long (vr &&& (vh ^^^ (-1 : Int64))))])) _
        refine g_lcmp X5 hx (hb hby at_249) ?_
        show Goes p.tables e below (T5.setTop (mkF m 250 #[.val (.long p0), .second, .val (.long p1), .second, .val (.int p2), .val (.int p3), .val (.int vs), .val (.int vw), .val (.long vh), .second, .val (.int vn), .val (.int vcd), .val (.long v3), .second, .val (.long vlow), .second, .val (.int vk), .val (.int vsh), .val (.long v4), .second, .val (.long vfm), .second, .val (.int vmode), .val (.long vwd3), .second, .val (.long vr), .second, .val (.int v6), .val (.long vbit), .second] [(.int (XT.cmpL (vr &&& (vh ^^^ (-1 : Int64))) (0 : Int64)))])) _
        obtain ⟨v7, hv7⟩ : ∃ z : Int32, z = (if (vr &&& (vh ^^^ (-1 : Int64))) = (0 : Int64) then (if vbit = (1 : Int64) then (if (1 : Int32) = v6 then (1 : Int32) else (0 : Int32)) else (if (0 : Int32) = v6 then (1 : Int32) else (0 : Int32))) else (0 : Int32)) := ⟨_, rfl⟩
        refine Goes.join (S' := T5.setTop (mkF m 275 #[.val (.long p0), .second, .val (.long p1), .second, .val (.int p2), .val (.int p3), .val (.int vs), .val (.int vw), .val (.long vh), .second, .val (.int vn), .val (.int vcd), .val (.long v3), .second, .val (.long vlow), .second, .val (.int vk), .val (.int vsh), .val (.long v4), .second, .val (.long vfm), .second, .val (.int vmode), .val (.long vwd3), .second, .val (.long vr), .second, .val (.int v6), .val (.long vbit), .second] [(.int v7)])) (fun J => ?_) ?_
        · skip
          refine g_lif_ne X5 hx (hb hby at_250) (by decide) (pc' := 274) (by decide) (fun c250 => ?_) (fun c250 => ?_)
          · skip
            show Goes p.tables e below (T5.setTop (mkF m 274 #[.val (.long p0), .second, .val (.long p1), .second, .val (.int p2), .val (.int p3), .val (.int vs), .val (.int vw), .val (.long vh), .second, .val (.int vn), .val (.int vcd), .val (.long v3), .second, .val (.long vlow), .second, .val (.int vk), .val (.int vsh), .val (.long v4), .second, .val (.long vfm), .second, .val (.int vmode), .val (.long vwd3), .second, .val (.long vr), .second, .val (.int v6), .val (.long vbit), .second] [])) _
            refine g_iconst X5 hx (0 : Int32) (hb hby at_274) rfl ?_
            rw [show v7 = ((0 : Int32)) from by rw [hv7, if_neg c250]] at J
            exact J
          · skip
            show Goes p.tables e below (T5.setTop (mkF m 253 #[.val (.long p0), .second, .val (.long p1), .second, .val (.int p2), .val (.int p3), .val (.int vs), .val (.int vw), .val (.long vh), .second, .val (.int vn), .val (.int vcd), .val (.long v3), .second, .val (.long vlow), .second, .val (.int vk), .val (.int vsh), .val (.long v4), .second, .val (.long vfm), .second, .val (.int vmode), .val (.long vwd3), .second, .val (.long vr), .second, .val (.int v6), .val (.long vbit), .second] [])) _
            refine g_lload X5 hx (hb hby at_253) rfl ?_
            show Goes p.tables e below (T5.setTop (mkF m 255 #[.val (.long p0), .second, .val (.long p1), .second, .val (.int p2), .val (.int p3), .val (.int vs), .val (.int vw), .val (.long vh), .second, .val (.int vn), .val (.int vcd), .val (.long v3), .second, .val (.long vlow), .second, .val (.int vk), .val (.int vsh), .val (.long v4), .second, .val (.long vfm), .second, .val (.int vmode), .val (.long vwd3), .second, .val (.long vr), .second, .val (.int v6), .val (.long vbit), .second] [(.long vbit)])) _
            refine g_lconst X5 hx (1 : Int64) (hb hby at_255) rfl ?_
            show Goes p.tables e below (T5.setTop (mkF m 256 #[.val (.long p0), .second, .val (.long p1), .second, .val (.int p2), .val (.int p3), .val (.int vs), .val (.int vw), .val (.long vh), .second, .val (.int vn), .val (.int vcd), .val (.long v3), .second, .val (.long vlow), .second, .val (.int vk), .val (.int vsh), .val (.long v4), .second, .val (.long vfm), .second, .val (.int vmode), .val (.long vwd3), .second, .val (.long vr), .second, .val (.int v6), .val (.long vbit), .second] [(.long (1 : Int64)), (.long vbit)])) _
            refine g_lcmp X5 hx (hb hby at_256) ?_
            show Goes p.tables e below (T5.setTop (mkF m 257 #[.val (.long p0), .second, .val (.long p1), .second, .val (.int p2), .val (.int p3), .val (.int vs), .val (.int vw), .val (.long vh), .second, .val (.int vn), .val (.int vcd), .val (.long v3), .second, .val (.long vlow), .second, .val (.int vk), .val (.int vsh), .val (.long v4), .second, .val (.long vfm), .second, .val (.int vmode), .val (.long vwd3), .second, .val (.long vr), .second, .val (.int v6), .val (.long vbit), .second] [(.int (XT.cmpL vbit (1 : Int64)))])) _
            refine g_lif_ne X5 hx (hb hby at_257) (by decide) (pc' := 264) (by decide) (fun c257 => ?_) (fun c257 => ?_)
            · skip
              show Goes p.tables e below (T5.setTop (mkF m 264 #[.val (.long p0), .second, .val (.long p1), .second, .val (.int p2), .val (.int p3), .val (.int vs), .val (.int vw), .val (.long vh), .second, .val (.int vn), .val (.int vcd), .val (.long v3), .second, .val (.long vlow), .second, .val (.int vk), .val (.int vsh), .val (.long v4), .second, .val (.long vfm), .second, .val (.int vmode), .val (.long vwd3), .second, .val (.long vr), .second, .val (.int v6), .val (.long vbit), .second] [])) _
              refine g_iconst X5 hx (0 : Int32) (hb hby at_264) rfl ?_
              show Goes p.tables e below (T5.setTop (mkF m 265 #[.val (.long p0), .second, .val (.long p1), .second, .val (.int p2), .val (.int p3), .val (.int vs), .val (.int vw), .val (.long vh), .second, .val (.int vn), .val (.int vcd), .val (.long v3), .second, .val (.long vlow), .second, .val (.int vk), .val (.int vsh), .val (.long v4), .second, .val (.long vfm), .second, .val (.int vmode), .val (.long vwd3), .second, .val (.long vr), .second, .val (.int v6), .val (.long vbit), .second] [(.int (0 : Int32))])) _
              refine g_iload X5 hx (hb hby at_265) rfl ?_
              show Goes p.tables e below (T5.setTop (mkF m 267 #[.val (.long p0), .second, .val (.long p1), .second, .val (.int p2), .val (.int p3), .val (.int vs), .val (.int vw), .val (.long vh), .second, .val (.int vn), .val (.int vcd), .val (.long v3), .second, .val (.long vlow), .second, .val (.int vk), .val (.int vsh), .val (.long v4), .second, .val (.long vfm), .second, .val (.int vmode), .val (.long vwd3), .second, .val (.long vr), .second, .val (.int v6), .val (.long vbit), .second] [(.int v6), (.int (0 : Int32))])) _
              refine g_icmp_ne X5 hx (hb hby at_267) (by decide) (pc' := 274) (by decide) (fun c267 => ?_) (fun c267 => ?_)
              · skip
                show Goes p.tables e below (T5.setTop (mkF m 274 #[.val (.long p0), .second, .val (.long p1), .second, .val (.int p2), .val (.int p3), .val (.int vs), .val (.int vw), .val (.long vh), .second, .val (.int vn), .val (.int vcd), .val (.long v3), .second, .val (.long vlow), .second, .val (.int vk), .val (.int vsh), .val (.long v4), .second, .val (.long vfm), .second, .val (.int vmode), .val (.long vwd3), .second, .val (.long vr), .second, .val (.int v6), .val (.long vbit), .second] [])) _
                refine g_iconst X5 hx (0 : Int32) (hb hby at_274) rfl ?_
                rw [show v7 = ((0 : Int32)) from by rw [hv7, if_pos c250, if_neg c257, if_neg c267]] at J
                exact J
              · skip
                show Goes p.tables e below (T5.setTop (mkF m 270 #[.val (.long p0), .second, .val (.long p1), .second, .val (.int p2), .val (.int p3), .val (.int vs), .val (.int vw), .val (.long vh), .second, .val (.int vn), .val (.int vcd), .val (.long v3), .second, .val (.long vlow), .second, .val (.int vk), .val (.int vsh), .val (.long v4), .second, .val (.long vfm), .second, .val (.int vmode), .val (.long vwd3), .second, .val (.long vr), .second, .val (.int v6), .val (.long vbit), .second] [])) _
                refine g_iconst X5 hx (1 : Int32) (hb hby at_270) rfl ?_
                show Goes p.tables e below (T5.setTop (mkF m 271 #[.val (.long p0), .second, .val (.long p1), .second, .val (.int p2), .val (.int p3), .val (.int vs), .val (.int vw), .val (.long vh), .second, .val (.int vn), .val (.int vcd), .val (.long v3), .second, .val (.long vlow), .second, .val (.int vk), .val (.int vsh), .val (.long v4), .second, .val (.long vfm), .second, .val (.int vmode), .val (.long vwd3), .second, .val (.long vr), .second, .val (.int v6), .val (.long vbit), .second] [(.int (1 : Int32))])) _
                refine g_goto X5 hx (hb hby at_271) (by decide) (pc' := 275) (by decide) ?_
                rw [show v7 = ((1 : Int32)) from by rw [hv7, if_pos c250, if_neg c257, if_pos c267]] at J
                exact J
            · skip
              show Goes p.tables e below (T5.setTop (mkF m 260 #[.val (.long p0), .second, .val (.long p1), .second, .val (.int p2), .val (.int p3), .val (.int vs), .val (.int vw), .val (.long vh), .second, .val (.int vn), .val (.int vcd), .val (.long v3), .second, .val (.long vlow), .second, .val (.int vk), .val (.int vsh), .val (.long v4), .second, .val (.long vfm), .second, .val (.int vmode), .val (.long vwd3), .second, .val (.long vr), .second, .val (.int v6), .val (.long vbit), .second] [])) _
              refine g_iconst X5 hx (1 : Int32) (hb hby at_260) rfl ?_
              show Goes p.tables e below (T5.setTop (mkF m 261 #[.val (.long p0), .second, .val (.long p1), .second, .val (.int p2), .val (.int p3), .val (.int vs), .val (.int vw), .val (.long vh), .second, .val (.int vn), .val (.int vcd), .val (.long v3), .second, .val (.long vlow), .second, .val (.int vk), .val (.int vsh), .val (.long v4), .second, .val (.long vfm), .second, .val (.int vmode), .val (.long vwd3), .second, .val (.long vr), .second, .val (.int v6), .val (.long vbit), .second] [(.int (1 : Int32))])) _
              refine g_goto X5 hx (hb hby at_261) (by decide) (pc' := 265) (by decide) ?_
              show Goes p.tables e below (T5.setTop (mkF m 265 #[.val (.long p0), .second, .val (.long p1), .second, .val (.int p2), .val (.int p3), .val (.int vs), .val (.int vw), .val (.long vh), .second, .val (.int vn), .val (.int vcd), .val (.long v3), .second, .val (.long vlow), .second, .val (.int vk), .val (.int vsh), .val (.long v4), .second, .val (.long vfm), .second, .val (.int vmode), .val (.long vwd3), .second, .val (.long vr), .second, .val (.int v6), .val (.long vbit), .second] [(.int (1 : Int32))])) _
              refine g_iload X5 hx (hb hby at_265) rfl ?_
              show Goes p.tables e below (T5.setTop (mkF m 267 #[.val (.long p0), .second, .val (.long p1), .second, .val (.int p2), .val (.int p3), .val (.int vs), .val (.int vw), .val (.long vh), .second, .val (.int vn), .val (.int vcd), .val (.long v3), .second, .val (.long vlow), .second, .val (.int vk), .val (.int vsh), .val (.long v4), .second, .val (.long vfm), .second, .val (.int vmode), .val (.long vwd3), .second, .val (.long vr), .second, .val (.int v6), .val (.long vbit), .second] [(.int v6), (.int (1 : Int32))])) _
              refine g_icmp_ne X5 hx (hb hby at_267) (by decide) (pc' := 274) (by decide) (fun c267 => ?_) (fun c267 => ?_)
              · skip
                show Goes p.tables e below (T5.setTop (mkF m 274 #[.val (.long p0), .second, .val (.long p1), .second, .val (.int p2), .val (.int p3), .val (.int vs), .val (.int vw), .val (.long vh), .second, .val (.int vn), .val (.int vcd), .val (.long v3), .second, .val (.long vlow), .second, .val (.int vk), .val (.int vsh), .val (.long v4), .second, .val (.long vfm), .second, .val (.int vmode), .val (.long vwd3), .second, .val (.long vr), .second, .val (.int v6), .val (.long vbit), .second] [])) _
                refine g_iconst X5 hx (0 : Int32) (hb hby at_274) rfl ?_
                rw [show v7 = ((0 : Int32)) from by rw [hv7, if_pos c250, if_pos c257, if_neg c267]] at J
                exact J
              · skip
                show Goes p.tables e below (T5.setTop (mkF m 270 #[.val (.long p0), .second, .val (.long p1), .second, .val (.int p2), .val (.int p3), .val (.int vs), .val (.int vw), .val (.long vh), .second, .val (.int vn), .val (.int vcd), .val (.long v3), .second, .val (.long vlow), .second, .val (.int vk), .val (.int vsh), .val (.long v4), .second, .val (.long vfm), .second, .val (.int vmode), .val (.long vwd3), .second, .val (.long vr), .second, .val (.int v6), .val (.long vbit), .second] [])) _
                refine g_iconst X5 hx (1 : Int32) (hb hby at_270) rfl ?_
                show Goes p.tables e below (T5.setTop (mkF m 271 #[.val (.long p0), .second, .val (.long p1), .second, .val (.int p2), .val (.int p3), .val (.int vs), .val (.int vw), .val (.long vh), .second, .val (.int vn), .val (.int vcd), .val (.long v3), .second, .val (.long vlow), .second, .val (.int vk), .val (.int vsh), .val (.long v4), .second, .val (.long vfm), .second, .val (.int vmode), .val (.long vwd3), .second, .val (.long vr), .second, .val (.int v6), .val (.long vbit), .second] [(.int (1 : Int32))])) _
                refine g_goto X5 hx (hb hby at_271) (by decide) (pc' := 275) (by decide) ?_
                rw [show v7 = ((1 : Int32)) from by rw [hv7, if_pos c250, if_pos c257, if_pos c267]] at J
                exact J
        show Goes p.tables e below (T5.setTop (mkF m 275 #[.val (.long p0), .second, .val (.long p1), .second, .val (.int p2), .val (.int p3), .val (.int vs), .val (.int vw), .val (.long vh), .second, .val (.int vn), .val (.int vcd), .val (.long v3), .second, .val (.long vlow), .second, .val (.int vk), .val (.int vsh), .val (.long v4), .second, .val (.long vfm), .second, .val (.int vmode), .val (.long vwd3), .second, .val (.long vr), .second, .val (.int v6), .val (.long vbit), .second] [(.int v7)])) _
        have hlow : vlow = own_low vs := by rw [hvlow, hvh, hv3, hvcd, hvn, hvw]; rfl
        have hfm : vfm = own_fm vs vk := by rw [hvfm, hv4, hvsh, hvw]; rfl
        have hgood : own_good vs vk = true := by rw [hvk, hvn, hvw, hvs]; exact own_goodOf p2 p3
        have hfin : v7 = 1 := own_final vs vk hgood vwd3 v7 v6 vr vbit (by rw [hvr, hlow, hvh]) (by rw [hv6, hfm]) (by rw [hvbit, hvsh, hvw]) (by rw [hv7, hvh])
        exact g_retZ X5 hx (hz := (Or.inr hfin)) hret hk (hb hby at_275) (by decide) (by decide) ⟨by rw [hfin], Fr.nil _⟩
      · skip
        show Goes p.tables e below (T2.setTop (mkF m 156 #[.val (.long p0), .second, .val (.long p1), .second, .val (.int p2), .val (.int p3), .val (.int vs), .val (.int vw), .val (.long vh), .second, .val (.int vn), .val (.int vcd), .val (.long v3), .second, .val (.long vlow), .second, .val (.int vk), .val (.int vsh), .val (.long v4), .second, .val (.long vfm), .second, .val (.int vmode), .unset, .unset, .unset, .unset, .unset, .unset, .unset] [])) _
        refine g_lloadN X2 hx (hb hby at_156) rfl ?_
        show Goes p.tables e below (T2.setTop (mkF m 157 #[.val (.long p0), .second, .val (.long p1), .second, .val (.int p2), .val (.int p3), .val (.int vs), .val (.int vw), .val (.long vh), .second, .val (.int vn), .val (.int vcd), .val (.long v3), .second, .val (.long vlow), .second, .val (.int vk), .val (.int vsh), .val (.long v4), .second, .val (.long vfm), .second, .val (.int vmode), .unset, .unset, .unset, .unset, .unset, .unset, .unset] [(.long p1)])) _
        refine g_ldc2 X2 hx hZ hown (hw _ (List.mem_of_getElem? (i := 18) rfl)) (hb hby at_157) ?_
        show Goes p.tables e below (T2.setTop (mkF m 160 #[.val (.long p0), .second, .val (.long p1), .second, .val (.int p2), .val (.int p3), .val (.int vs), .val (.int vw), .val (.long vh), .second, .val (.int vn), .val (.int vcd), .val (.long v3), .second, .val (.long vlow), .second, .val (.int vk), .val (.int vsh), .val (.long v4), .second, .val (.long vfm), .second, .val (.int vmode), .unset, .unset, .unset, .unset, .unset, .unset, .unset] [(.long (2147483647 : Int64)), (.long p1)])) _
        refine g_land X2 hx (hb hby at_160) ?_
        show Goes p.tables e below (T2.setTop (mkF m 161 #[.val (.long p0), .second, .val (.long p1), .second, .val (.int p2), .val (.int p3), .val (.int vs), .val (.int vw), .val (.long vh), .second, .val (.int vn), .val (.int vcd), .val (.long v3), .second, .val (.long vlow), .second, .val (.int vk), .val (.int vsh), .val (.long v4), .second, .val (.long vfm), .second, .val (.int vmode), .unset, .unset, .unset, .unset, .unset, .unset, .unset] [(.long (p1 &&& (2147483647 : Int64)))])) _
        refine g_iload X2 hx (hb hby at_161) rfl ?_
        show Goes p.tables e below (T2.setTop (mkF m 163 #[.val (.long p0), .second, .val (.long p1), .second, .val (.int p2), .val (.int p3), .val (.int vs), .val (.int vw), .val (.long vh), .second, .val (.int vn), .val (.int vcd), .val (.long v3), .second, .val (.long vlow), .second, .val (.int vk), .val (.int vsh), .val (.long v4), .second, .val (.long vfm), .second, .val (.int vmode), .unset, .unset, .unset, .unset, .unset, .unset, .unset] [(.int vw), (.long (p1 &&& (2147483647 : Int64)))])) _
        refine g_i2l X2 hx (hb hby at_163) ?_
        show Goes p.tables e below (T2.setTop (mkF m 164 #[.val (.long p0), .second, .val (.long p1), .second, .val (.int p2), .val (.int p3), .val (.int vs), .val (.int vw), .val (.long vh), .second, .val (.int vn), .val (.int vcd), .val (.long v3), .second, .val (.long vlow), .second, .val (.int vk), .val (.int vsh), .val (.long v4), .second, .val (.long vfm), .second, .val (.int vmode), .unset, .unset, .unset, .unset, .unset, .unset, .unset] [(.long (Int32.toInt64 vw)), (.long (p1 &&& (2147483647 : Int64)))])) _
        refine g_lrem X2 hx (hb hby at_164) (by rw [hvw]; exact own_wl _) ?_
        show Goes p.tables e below (T2.setTop (mkF m 165 #[.val (.long p0), .second, .val (.long p1), .second, .val (.int p2), .val (.int p3), .val (.int vs), .val (.int vw), .val (.long vh), .second, .val (.int vn), .val (.int vcd), .val (.long v3), .second, .val (.long vlow), .second, .val (.int vk), .val (.int vsh), .val (.long v4), .second, .val (.long vfm), .second, .val (.int vmode), .unset, .unset, .unset, .unset, .unset, .unset, .unset] [(.long ((p1 &&& (2147483647 : Int64)) % (Int32.toInt64 vw)))])) _
        refine g_l2i X2 hx (hb hby at_165) ?_
        show Goes p.tables e below (T2.setTop (mkF m 166 #[.val (.long p0), .second, .val (.long p1), .second, .val (.int p2), .val (.int p3), .val (.int vs), .val (.int vw), .val (.long vh), .second, .val (.int vn), .val (.int vcd), .val (.long v3), .second, .val (.long vlow), .second, .val (.int vk), .val (.int vsh), .val (.long v4), .second, .val (.long vfm), .second, .val (.int vmode), .unset, .unset, .unset, .unset, .unset, .unset, .unset] [(.int (Int64.toInt32 ((p1 &&& (2147483647 : Int64)) % (Int32.toInt64 vw))))])) _
        obtain ⟨vj, hvj⟩ : ∃ z : Int32, z = (Int64.toInt32 ((p1 &&& (2147483647 : Int64)) % (Int32.toInt64 vw))) := ⟨_, rfl⟩
        refine g_nameI hvj ?_
        show Goes p.tables e below (T2.setTop (mkF m 166 #[.val (.long p0), .second, .val (.long p1), .second, .val (.int p2), .val (.int p3), .val (.int vs), .val (.int vw), .val (.long vh), .second, .val (.int vn), .val (.int vcd), .val (.long v3), .second, .val (.long vlow), .second, .val (.int vk), .val (.int vsh), .val (.long v4), .second, .val (.long vfm), .second, .val (.int vmode), .unset, .unset, .unset, .unset, .unset, .unset, .unset] [(.int vj)])) _
        refine g_istore X2 hx (hb hby at_166) (l' := #[.val (.long p0), .second, .val (.long p1), .second, .val (.int p2), .val (.int p3), .val (.int vs), .val (.int vw), .val (.long vh), .second, .val (.int vn), .val (.int vcd), .val (.long v3), .second, .val (.long vlow), .second, .val (.int vk), .val (.int vsh), .val (.long v4), .second, .val (.long vfm), .second, .val (.int vmode), .unset, .unset, .val (.int vj), .unset, .unset, .unset, .unset]) rfl ?_
        show Goes p.tables e below (T2.setTop (mkF m 168 #[.val (.long p0), .second, .val (.long p1), .second, .val (.int p2), .val (.int p3), .val (.int vs), .val (.int vw), .val (.long vh), .second, .val (.int vn), .val (.int vcd), .val (.long v3), .second, .val (.long vlow), .second, .val (.int vk), .val (.int vsh), .val (.long v4), .second, .val (.long vfm), .second, .val (.int vmode), .unset, .unset, .val (.int vj), .unset, .unset, .unset, .unset] [])) _
        refine g_lloadN X2 hx (hb hby at_168) rfl ?_
        show Goes p.tables e below (T2.setTop (mkF m 169 #[.val (.long p0), .second, .val (.long p1), .second, .val (.int p2), .val (.int p3), .val (.int vs), .val (.int vw), .val (.long vh), .second, .val (.int vn), .val (.int vcd), .val (.long v3), .second, .val (.long vlow), .second, .val (.int vk), .val (.int vsh), .val (.long v4), .second, .val (.long vfm), .second, .val (.int vmode), .unset, .unset, .val (.int vj), .unset, .unset, .unset, .unset] [(.long p0)])) _
        refine g_lload X2 hx (hb hby at_169) rfl ?_
        show Goes p.tables e below (T2.setTop (mkF m 171 #[.val (.long p0), .second, .val (.long p1), .second, .val (.int p2), .val (.int p3), .val (.int vs), .val (.int vw), .val (.long vh), .second, .val (.int vn), .val (.int vcd), .val (.long v3), .second, .val (.long vlow), .second, .val (.int vk), .val (.int vsh), .val (.long v4), .second, .val (.long vfm), .second, .val (.int vmode), .unset, .unset, .val (.int vj), .unset, .unset, .unset, .unset] [(.long vfm), (.long p0)])) _
        refine g_ldc2 X2 hx hZ hown (hw _ (List.mem_of_getElem? (i := 7) rfl)) (hb hby at_171) ?_
        show Goes p.tables e below (T2.setTop (mkF m 174 #[.val (.long p0), .second, .val (.long p1), .second, .val (.int p2), .val (.int p3), .val (.int vs), .val (.int vw), .val (.long vh), .second, .val (.int vn), .val (.int vcd), .val (.long v3), .second, .val (.long vlow), .second, .val (.int vk), .val (.int vsh), .val (.long v4), .second, .val (.long vfm), .second, .val (.int vmode), .unset, .unset, .val (.int vj), .unset, .unset, .unset, .unset] [(.long (-1 : Int64)), (.long vfm), (.long p0)])) _
        refine g_lxor X2 hx (hb hby at_174) ?_
        show Goes p.tables e below (T2.setTop (mkF m 175 #[.val (.long p0), .second, .val (.long p1), .second, .val (.int p2), .val (.int p3), .val (.int vs), .val (.int vw), .val (.long vh), .second, .val (.int vn), .val (.int vcd), .val (.long v3), .second, .val (.long vlow), .second, .val (.int vk), .val (.int vsh), .val (.long v4), .second, .val (.long vfm), .second, .val (.int vmode), .unset, .unset, .val (.int vj), .unset, .unset, .unset, .unset] [(.long (vfm ^^^ (-1 : Int64))), (.long p0)])) _
        refine g_land X2 hx (hb hby at_175) ?_
        show Goes p.tables e below (T2.setTop (mkF m 176 #[.val (.long p0), .second, .val (.long p1), .second, .val (.int p2), .val (.int p3), .val (.int vs), .val (.int vw), .val (.long vh), .second, .val (.int vn), .val (.int vcd), .val (.long v3), .second, .val (.long vlow), .second, .val (.int vk), .val (.int vsh), .val (.long v4), .second, .val (.long vfm), .second, .val (.int vmode), .unset, .unset, .val (.int vj), .unset, .unset, .unset, .unset] [(.long (p0 &&& (vfm ^^^ (-1 : Int64))))])) _
        refine g_lconst X2 hx (1 : Int64) (hb hby at_176) rfl ?_
        show Goes p.tables e below (T2.setTop (mkF m 177 #[.val (.long p0), .second, .val (.long p1), .second, .val (.int p2), .val (.int p3), .val (.int vs), .val (.int vw), .val (.long vh), .second, .val (.int vn), .val (.int vcd), .val (.long v3), .second, .val (.long vlow), .second, .val (.int vk), .val (.int vsh), .val (.long v4), .second, .val (.long vfm), .second, .val (.int vmode), .unset, .unset, .val (.int vj), .unset, .unset, .unset, .unset] [(.long (1 : Int64)), (.long (p0 &&& (vfm ^^^ (-1 : Int64))))])) _
        refine g_iload X2 hx (hb hby at_177) rfl ?_
        show Goes p.tables e below (T2.setTop (mkF m 179 #[.val (.long p0), .second, .val (.long p1), .second, .val (.int p2), .val (.int p3), .val (.int vs), .val (.int vw), .val (.long vh), .second, .val (.int vn), .val (.int vcd), .val (.long v3), .second, .val (.long vlow), .second, .val (.int vk), .val (.int vsh), .val (.long v4), .second, .val (.long vfm), .second, .val (.int vmode), .unset, .unset, .val (.int vj), .unset, .unset, .unset, .unset] [(.int vsh), (.long (1 : Int64)), (.long (p0 &&& (vfm ^^^ (-1 : Int64))))])) _
        refine g_iload X2 hx (hb hby at_179) rfl ?_
        show Goes p.tables e below (T2.setTop (mkF m 181 #[.val (.long p0), .second, .val (.long p1), .second, .val (.int p2), .val (.int p3), .val (.int vs), .val (.int vw), .val (.long vh), .second, .val (.int vn), .val (.int vcd), .val (.long v3), .second, .val (.long vlow), .second, .val (.int vk), .val (.int vsh), .val (.long v4), .second, .val (.long vfm), .second, .val (.int vmode), .unset, .unset, .val (.int vj), .unset, .unset, .unset, .unset] [(.int vj), (.int vsh), (.long (1 : Int64)), (.long (p0 &&& (vfm ^^^ (-1 : Int64))))])) _
        refine g_iadd X2 hx (hb hby at_181) ?_
        show Goes p.tables e below (T2.setTop (mkF m 182 #[.val (.long p0), .second, .val (.long p1), .second, .val (.int p2), .val (.int p3), .val (.int vs), .val (.int vw), .val (.long vh), .second, .val (.int vn), .val (.int vcd), .val (.long v3), .second, .val (.long vlow), .second, .val (.int vk), .val (.int vsh), .val (.long v4), .second, .val (.long vfm), .second, .val (.int vmode), .unset, .unset, .val (.int vj), .unset, .unset, .unset, .unset] [(.int (vsh + vj)), (.long (1 : Int64)), (.long (p0 &&& (vfm ^^^ (-1 : Int64))))])) _
        refine g_lshl X2 hx (hb hby at_182) ?_
        show Goes p.tables e below (T2.setTop (mkF m 183 #[.val (.long p0), .second, .val (.long p1), .second, .val (.int p2), .val (.int p3), .val (.int vs), .val (.int vw), .val (.long vh), .second, .val (.int vn), .val (.int vcd), .val (.long v3), .second, .val (.long vlow), .second, .val (.int vk), .val (.int vsh), .val (.long v4), .second, .val (.long vfm), .second, .val (.int vmode), .unset, .unset, .val (.int vj), .unset, .unset, .unset, .unset] [(.long ((1 : Int64) <<< (Int32.toInt64 (vsh + vj) &&& 63))), (.long (p0 &&& (vfm ^^^ (-1 : Int64))))])) _
        refine g_lor X2 hx (hb hby at_183) ?_
        show Goes p.tables e below (T2.setTop (mkF m 184 #[.val (.long p0), .second, .val (.long p1), .second, .val (.int p2), .val (.int p3), .val (.int vs), .val (.int vw), .val (.long vh), .second, .val (.int vn), .val (.int vcd), .val (.long v3), .second, .val (.long vlow), .second, .val (.int vk), .val (.int vsh), .val (.long v4), .second, .val (.long vfm), .second, .val (.int vmode), .unset, .unset, .val (.int vj), .unset, .unset, .unset, .unset] [(.long ((p0 &&& (vfm ^^^ (-1 : Int64))) ||| ((1 : Int64) <<< (Int32.toInt64 (vsh + vj) &&& 63))))])) _
        obtain ⟨vwd2, hvwd2⟩ : ∃ z : Int64, z = ((p0 &&& (vfm ^^^ (-1 : Int64))) ||| ((1 : Int64) <<< (Int32.toInt64 (vsh + vj) &&& 63))) := ⟨_, rfl⟩
        refine g_nameL hvwd2 ?_
        show Goes p.tables e below (T2.setTop (mkF m 184 #[.val (.long p0), .second, .val (.long p1), .second, .val (.int p2), .val (.int p3), .val (.int vs), .val (.int vw), .val (.long vh), .second, .val (.int vn), .val (.int vcd), .val (.long v3), .second, .val (.long vlow), .second, .val (.int vk), .val (.int vsh), .val (.long v4), .second, .val (.long vfm), .second, .val (.int vmode), .unset, .unset, .val (.int vj), .unset, .unset, .unset, .unset] [(.long vwd2)])) _
        refine g_lstore X2 hx (hb hby at_184) (l' := #[.val (.long p0), .second, .val (.long p1), .second, .val (.int p2), .val (.int p3), .val (.int vs), .val (.int vw), .val (.long vh), .second, .val (.int vn), .val (.int vcd), .val (.long v3), .second, .val (.long vlow), .second, .val (.int vk), .val (.int vsh), .val (.long v4), .second, .val (.long vfm), .second, .val (.int vmode), .val (.long vwd2), .second, .val (.int vj), .unset, .unset, .unset, .unset]) rfl ?_
        show Goes p.tables e below (T2.setTop (mkF m 186 #[.val (.long p0), .second, .val (.long p1), .second, .val (.int p2), .val (.int p3), .val (.int vs), .val (.int vw), .val (.long vh), .second, .val (.int vn), .val (.int vcd), .val (.long v3), .second, .val (.long vlow), .second, .val (.int vk), .val (.int vsh), .val (.long v4), .second, .val (.long vfm), .second, .val (.int vmode), .val (.long vwd2), .second, .val (.int vj), .unset, .unset, .unset, .unset] [])) _
        refine g_goto X2 hx (hb hby at_186) (by decide) (pc' := 197) (by decide) ?_
        show Goes p.tables e below (T2.setTop (mkF m 197 #[.val (.long p0), .second, .val (.long p1), .second, .val (.int p2), .val (.int p3), .val (.int vs), .val (.int vw), .val (.long vh), .second, .val (.int vn), .val (.int vcd), .val (.long v3), .second, .val (.long vlow), .second, .val (.int vk), .val (.int vsh), .val (.long v4), .second, .val (.long vfm), .second, .val (.int vmode), .val (.long vwd2), .second, .val (.int vj), .unset, .unset, .unset, .unset] [])) _
        refine g_lload X2 hx (hb hby at_197) rfl ?_
        show Goes p.tables e below (T2.setTop (mkF m 199 #[.val (.long p0), .second, .val (.long p1), .second, .val (.int p2), .val (.int p3), .val (.int vs), .val (.int vw), .val (.long vh), .second, .val (.int vn), .val (.int vcd), .val (.long v3), .second, .val (.long vlow), .second, .val (.int vk), .val (.int vsh), .val (.long v4), .second, .val (.long vfm), .second, .val (.int vmode), .val (.long vwd2), .second, .val (.int vj), .unset, .unset, .unset, .unset] [(.long vwd2)])) _
        refine g_lload X2 hx (hb hby at_199) rfl ?_
        show Goes p.tables e below (T2.setTop (mkF m 201 #[.val (.long p0), .second, .val (.long p1), .second, .val (.int p2), .val (.int p3), .val (.int vs), .val (.int vw), .val (.long vh), .second, .val (.int vn), .val (.int vcd), .val (.long v3), .second, .val (.long vlow), .second, .val (.int vk), .val (.int vsh), .val (.long v4), .second, .val (.long vfm), .second, .val (.int vmode), .val (.long vwd2), .second, .val (.int vj), .unset, .unset, .unset, .unset] [(.long vlow), (.long vwd2)])) _
        refine g_lload X2 hx (hb hby at_201) rfl ?_
        show Goes p.tables e below (T2.setTop (mkF m 203 #[.val (.long p0), .second, .val (.long p1), .second, .val (.int p2), .val (.int p3), .val (.int vs), .val (.int vw), .val (.long vh), .second, .val (.int vn), .val (.int vcd), .val (.long v3), .second, .val (.long vlow), .second, .val (.int vk), .val (.int vsh), .val (.long v4), .second, .val (.long vfm), .second, .val (.int vmode), .val (.long vwd2), .second, .val (.int vj), .unset, .unset, .unset, .unset] [(.long vh), (.long vlow), (.long vwd2)])) _
        refine g_callS X2 hx hZ hown (by rw [hml]; rfl) e2 (hw _ (List.mem_of_getElem? (i := 9) rfl)) (hw _ (List.mem_of_getElem? (i := 10) rfl)) (hw _ (List.mem_of_getElem? (i := 11) rfl)) (hw _ (List.mem_of_getElem? (i := 12) rfl)) (rmZ l Z a0 hw vwd2 vlow vh h0) [(.long vwd2), (.long vlow), (.long vh)] rfl [] rfl (lenOf pd_3 rfl) (hb hby at_203) (by decide) 0 (by decide) (by decide) (by first | decide | exact Nat.le_refl _) (by decide) (by decide) (fun v T8 L8 X8 hQ8 => ?_)
        obtain ⟨rfl, e8, rfl⟩ := hQ8
        show Goes p.tables e below (T8.setTop (mkF m 206 #[.val (.long p0), .second, .val (.long p1), .second, .val (.int p2), .val (.int p3), .val (.int vs), .val (.int vw), .val (.long vh), .second, .val (.int vn), .val (.int vcd), .val (.long v3), .second, .val (.long vlow), .second, .val (.int vk), .val (.int vsh), .val (.long v4), .second, .val (.long vfm), .second, .val (.int vmode), .val (.long vwd2), .second, .val (.int vj), .unset, .unset, .unset, .unset] [(.long (zfV vwd2 vlow vh))])) _
        obtain ⟨vr, hvr⟩ : ∃ z : Int64, z = (zfV vwd2 vlow vh) := ⟨_, rfl⟩
        refine g_nameL hvr ?_
        show Goes p.tables e below (T8.setTop (mkF m 206 #[.val (.long p0), .second, .val (.long p1), .second, .val (.int p2), .val (.int p3), .val (.int vs), .val (.int vw), .val (.long vh), .second, .val (.int vn), .val (.int vcd), .val (.long v3), .second, .val (.long vlow), .second, .val (.int vk), .val (.int vsh), .val (.long v4), .second, .val (.long vfm), .second, .val (.int vmode), .val (.long vwd2), .second, .val (.int vj), .unset, .unset, .unset, .unset] [(.long vr)])) _
        refine g_lstore X8 hx (hb hby at_206) (l' := #[.val (.long p0), .second, .val (.long p1), .second, .val (.int p2), .val (.int p3), .val (.int vs), .val (.int vw), .val (.long vh), .second, .val (.int vn), .val (.int vcd), .val (.long v3), .second, .val (.long vlow), .second, .val (.int vk), .val (.int vsh), .val (.long v4), .second, .val (.long vfm), .second, .val (.int vmode), .val (.long vwd2), .second, .val (.long vr), .second, .unset, .unset, .unset]) rfl ?_
        show Goes p.tables e below (T8.setTop (mkF m 208 #[.val (.long p0), .second, .val (.long p1), .second, .val (.int p2), .val (.int p3), .val (.int vs), .val (.int vw), .val (.long vh), .second, .val (.int vn), .val (.int vcd), .val (.long v3), .second, .val (.long vlow), .second, .val (.int vk), .val (.int vsh), .val (.long v4), .second, .val (.long vfm), .second, .val (.int vmode), .val (.long vwd2), .second, .val (.long vr), .second, .unset, .unset, .unset] [])) _
        refine g_lload X8 hx (hb hby at_208) rfl ?_
        show Goes p.tables e below (T8.setTop (mkF m 210 #[.val (.long p0), .second, .val (.long p1), .second, .val (.int p2), .val (.int p3), .val (.int vs), .val (.int vw), .val (.long vh), .second, .val (.int vn), .val (.int vcd), .val (.long v3), .second, .val (.long vlow), .second, .val (.int vk), .val (.int vsh), .val (.long v4), .second, .val (.long vfm), .second, .val (.int vmode), .val (.long vwd2), .second, .val (.long vr), .second, .unset, .unset, .unset] [(.long vwd2)])) _
        refine g_lload X8 hx (hb hby at_210) rfl ?_
        show Goes p.tables e below (T8.setTop (mkF m 212 #[.val (.long p0), .second, .val (.long p1), .second, .val (.int p2), .val (.int p3), .val (.int vs), .val (.int vw), .val (.long vh), .second, .val (.int vn), .val (.int vcd), .val (.long v3), .second, .val (.long vlow), .second, .val (.int vk), .val (.int vsh), .val (.long v4), .second, .val (.long vfm), .second, .val (.int vmode), .val (.long vwd2), .second, .val (.long vr), .second, .unset, .unset, .unset] [(.long vfm), (.long vwd2)])) _
        refine g_land X8 hx (hb hby at_212) ?_
        show Goes p.tables e below (T8.setTop (mkF m 213 #[.val (.long p0), .second, .val (.long p1), .second, .val (.int p2), .val (.int p3), .val (.int vs), .val (.int vw), .val (.long vh), .second, .val (.int vn), .val (.int vcd), .val (.long v3), .second, .val (.long vlow), .second, .val (.int vk), .val (.int vsh), .val (.long v4), .second, .val (.long vfm), .second, .val (.int vmode), .val (.long vwd2), .second, .val (.long vr), .second, .unset, .unset, .unset] [(.long (vwd2 &&& vfm))])) _
        refine g_lconst X8 hx (0 : Int64) (hb hby at_213) rfl ?_
        show Goes p.tables e below (T8.setTop (mkF m 214 #[.val (.long p0), .second, .val (.long p1), .second, .val (.int p2), .val (.int p3), .val (.int vs), .val (.int vw), .val (.long vh), .second, .val (.int vn), .val (.int vcd), .val (.long v3), .second, .val (.long vlow), .second, .val (.int vk), .val (.int vsh), .val (.long v4), .second, .val (.long vfm), .second, .val (.int vmode), .val (.long vwd2), .second, .val (.long vr), .second, .unset, .unset, .unset] [(.long (0 : Int64)), (.long (vwd2 &&& vfm))])) _
        refine g_lcmp X8 hx (hb hby at_214) ?_
        show Goes p.tables e below (T8.setTop (mkF m 215 #[.val (.long p0), .second, .val (.long p1), .second, .val (.int p2), .val (.int p3), .val (.int vs), .val (.int vw), .val (.long vh), .second, .val (.int vn), .val (.int vcd), .val (.long v3), .second, .val (.long vlow), .second, .val (.int vk), .val (.int vsh), .val (.long v4), .second, .val (.long vfm), .second, .val (.int vmode), .val (.long vwd2), .second, .val (.long vr), .second, .unset, .unset, .unset] [(.int (XT.cmpL (vwd2 &&& vfm) (0 : Int64)))])) _
        obtain ⟨v9, hv9⟩ : ∃ z : Int32, z = (if (vwd2 &&& vfm) = (0 : Int64) then (1 : Int32) else (0 : Int32)) := ⟨_, rfl⟩
        refine Goes.join (S' := T8.setTop (mkF m 223 #[.val (.long p0), .second, .val (.long p1), .second, .val (.int p2), .val (.int p3), .val (.int vs), .val (.int vw), .val (.long vh), .second, .val (.int vn), .val (.int vcd), .val (.long v3), .second, .val (.long vlow), .second, .val (.int vk), .val (.int vsh), .val (.long v4), .second, .val (.long vfm), .second, .val (.int vmode), .val (.long vwd2), .second, .val (.long vr), .second, .unset, .unset, .unset] [(.int v9)])) (fun J => ?_) ?_
        · skip
          refine g_lif_ne X8 hx (hb hby at_215) (by decide) (pc' := 222) (by decide) (fun c215 => ?_) (fun c215 => ?_)
          · skip
            show Goes p.tables e below (T8.setTop (mkF m 222 #[.val (.long p0), .second, .val (.long p1), .second, .val (.int p2), .val (.int p3), .val (.int vs), .val (.int vw), .val (.long vh), .second, .val (.int vn), .val (.int vcd), .val (.long v3), .second, .val (.long vlow), .second, .val (.int vk), .val (.int vsh), .val (.long v4), .second, .val (.long vfm), .second, .val (.int vmode), .val (.long vwd2), .second, .val (.long vr), .second, .unset, .unset, .unset] [])) _
            refine g_iconst X8 hx (0 : Int32) (hb hby at_222) rfl ?_
            rw [show v9 = ((0 : Int32)) from by rw [hv9, if_neg c215]] at J
            exact J
          · skip
            show Goes p.tables e below (T8.setTop (mkF m 218 #[.val (.long p0), .second, .val (.long p1), .second, .val (.int p2), .val (.int p3), .val (.int vs), .val (.int vw), .val (.long vh), .second, .val (.int vn), .val (.int vcd), .val (.long v3), .second, .val (.long vlow), .second, .val (.int vk), .val (.int vsh), .val (.long v4), .second, .val (.long vfm), .second, .val (.int vmode), .val (.long vwd2), .second, .val (.long vr), .second, .unset, .unset, .unset] [])) _
            refine g_iconst X8 hx (1 : Int32) (hb hby at_218) rfl ?_
            show Goes p.tables e below (T8.setTop (mkF m 219 #[.val (.long p0), .second, .val (.long p1), .second, .val (.int p2), .val (.int p3), .val (.int vs), .val (.int vw), .val (.long vh), .second, .val (.int vn), .val (.int vcd), .val (.long v3), .second, .val (.long vlow), .second, .val (.int vk), .val (.int vsh), .val (.long v4), .second, .val (.long vfm), .second, .val (.int vmode), .val (.long vwd2), .second, .val (.long vr), .second, .unset, .unset, .unset] [(.int (1 : Int32))])) _
            refine g_goto X8 hx (hb hby at_219) (by decide) (pc' := 223) (by decide) ?_
            rw [show v9 = ((1 : Int32)) from by rw [hv9, if_pos c215]] at J
            exact J
        show Goes p.tables e below (T8.setTop (mkF m 223 #[.val (.long p0), .second, .val (.long p1), .second, .val (.int p2), .val (.int p3), .val (.int vs), .val (.int vw), .val (.long vh), .second, .val (.int vn), .val (.int vcd), .val (.long v3), .second, .val (.long vlow), .second, .val (.int vk), .val (.int vsh), .val (.long v4), .second, .val (.long vfm), .second, .val (.int vmode), .val (.long vwd2), .second, .val (.long vr), .second, .unset, .unset, .unset] [(.int v9)])) _
        refine g_istore X8 hx (hb hby at_223) (l' := #[.val (.long p0), .second, .val (.long p1), .second, .val (.int p2), .val (.int p3), .val (.int vs), .val (.int vw), .val (.long vh), .second, .val (.int vn), .val (.int vcd), .val (.long v3), .second, .val (.long vlow), .second, .val (.int vk), .val (.int vsh), .val (.long v4), .second, .val (.long vfm), .second, .val (.int vmode), .val (.long vwd2), .second, .val (.long vr), .second, .val (.int v9), .unset, .unset]) rfl ?_
        show Goes p.tables e below (T8.setTop (mkF m 225 #[.val (.long p0), .second, .val (.long p1), .second, .val (.int p2), .val (.int p3), .val (.int vs), .val (.int vw), .val (.long vh), .second, .val (.int vn), .val (.int vcd), .val (.long v3), .second, .val (.long vlow), .second, .val (.int vk), .val (.int vsh), .val (.long v4), .second, .val (.long vfm), .second, .val (.int vmode), .val (.long vwd2), .second, .val (.long vr), .second, .val (.int v9), .unset, .unset] [])) _
        refine g_lload X8 hx (hb hby at_225) rfl ?_
        show Goes p.tables e below (T8.setTop (mkF m 227 #[.val (.long p0), .second, .val (.long p1), .second, .val (.int p2), .val (.int p3), .val (.int vs), .val (.int vw), .val (.long vh), .second, .val (.int vn), .val (.int vcd), .val (.long v3), .second, .val (.long vlow), .second, .val (.int vk), .val (.int vsh), .val (.long v4), .second, .val (.long vfm), .second, .val (.int vmode), .val (.long vwd2), .second, .val (.long vr), .second, .val (.int v9), .unset, .unset] [(.long vr)])) _
        refine g_iload X8 hx (hb hby at_227) rfl ?_
        show Goes p.tables e below (T8.setTop (mkF m 229 #[.val (.long p0), .second, .val (.long p1), .second, .val (.int p2), .val (.int p3), .val (.int vs), .val (.int vw), .val (.long vh), .second, .val (.int vn), .val (.int vcd), .val (.long v3), .second, .val (.long vlow), .second, .val (.int vk), .val (.int vsh), .val (.long v4), .second, .val (.long vfm), .second, .val (.int vmode), .val (.long vwd2), .second, .val (.long vr), .second, .val (.int v9), .unset, .unset] [(.int vsh), (.long vr)])) _
        refine g_iload X8 hx (hb hby at_229) rfl ?_
        show Goes p.tables e below (T8.setTop (mkF m 231 #[.val (.long p0), .second, .val (.long p1), .second, .val (.int p2), .val (.int p3), .val (.int vs), .val (.int vw), .val (.long vh), .second, .val (.int vn), .val (.int vcd), .val (.long v3), .second, .val (.long vlow), .second, .val (.int vk), .val (.int vsh), .val (.long v4), .second, .val (.long vfm), .second, .val (.int vmode), .val (.long vwd2), .second, .val (.long vr), .second, .val (.int v9), .unset, .unset] [(.int vw), (.int vsh), (.long vr)])) _
        refine g_iadd X8 hx (hb hby at_231) ?_
        show Goes p.tables e below (T8.setTop (mkF m 232 #[.val (.long p0), .second, .val (.long p1), .second, .val (.int p2), .val (.int p3), .val (.int vs), .val (.int vw), .val (.long vh), .second, .val (.int vn), .val (.int vcd), .val (.long v3), .second, .val (.long vlow), .second, .val (.int vk), .val (.int vsh), .val (.long v4), .second, .val (.long vfm), .second, .val (.int vmode), .val (.long vwd2), .second, .val (.long vr), .second, .val (.int v9), .unset, .unset] [(.int (vsh + vw)), (.long vr)])) _
        refine g_iconst X8 hx (1 : Int32) (hb hby at_232) rfl ?_
        show Goes p.tables e below (T8.setTop (mkF m 233 #[.val (.long p0), .second, .val (.long p1), .second, .val (.int p2), .val (.int p3), .val (.int vs), .val (.int vw), .val (.long vh), .second, .val (.int vn), .val (.int vcd), .val (.long v3), .second, .val (.long vlow), .second, .val (.int vk), .val (.int vsh), .val (.long v4), .second, .val (.long vfm), .second, .val (.int vmode), .val (.long vwd2), .second, .val (.long vr), .second, .val (.int v9), .unset, .unset] [(.int (1 : Int32)), (.int (vsh + vw)), (.long vr)])) _
        refine g_isub X8 hx (hb hby at_233) ?_
        show Goes p.tables e below (T8.setTop (mkF m 234 #[.val (.long p0), .second, .val (.long p1), .second, .val (.int p2), .val (.int p3), .val (.int vs), .val (.int vw), .val (.long vh), .second, .val (.int vn), .val (.int vcd), .val (.long v3), .second, .val (.long vlow), .second, .val (.int vk), .val (.int vsh), .val (.long v4), .second, .val (.long vfm), .second, .val (.int vmode), .val (.long vwd2), .second, .val (.long vr), .second, .val (.int v9), .unset, .unset] [(.int ((vsh + vw) - (1 : Int32))), (.long vr)])) _
        refine g_lushr X8 hx (hb hby at_234) ?_
        show Goes p.tables e below (T8.setTop (mkF m 235 #[.val (.long p0), .second, .val (.long p1), .second, .val (.int p2), .val (.int p3), .val (.int vs), .val (.int vw), .val (.long vh), .second, .val (.int vn), .val (.int vcd), .val (.long v3), .second, .val (.long vlow), .second, .val (.int vk), .val (.int vsh), .val (.long v4), .second, .val (.long vfm), .second, .val (.int vmode), .val (.long vwd2), .second, .val (.long vr), .second, .val (.int v9), .unset, .unset] [(.long (XT.ushrL vr ((vsh + vw) - (1 : Int32))))])) _
        refine g_lconst X8 hx (1 : Int64) (hb hby at_235) rfl ?_
        show Goes p.tables e below (T8.setTop (mkF m 236 #[.val (.long p0), .second, .val (.long p1), .second, .val (.int p2), .val (.int p3), .val (.int vs), .val (.int vw), .val (.long vh), .second, .val (.int vn), .val (.int vcd), .val (.long v3), .second, .val (.long vlow), .second, .val (.int vk), .val (.int vsh), .val (.long v4), .second, .val (.long vfm), .second, .val (.int vmode), .val (.long vwd2), .second, .val (.long vr), .second, .val (.int v9), .unset, .unset] [(.long (1 : Int64)), (.long (XT.ushrL vr ((vsh + vw) - (1 : Int32))))])) _
        refine g_land X8 hx (hb hby at_236) ?_
        show Goes p.tables e below (T8.setTop (mkF m 237 #[.val (.long p0), .second, .val (.long p1), .second, .val (.int p2), .val (.int p3), .val (.int vs), .val (.int vw), .val (.long vh), .second, .val (.int vn), .val (.int vcd), .val (.long v3), .second, .val (.long vlow), .second, .val (.int vk), .val (.int vsh), .val (.long v4), .second, .val (.long vfm), .second, .val (.int vmode), .val (.long vwd2), .second, .val (.long vr), .second, .val (.int v9), .unset, .unset] [(.long ((XT.ushrL vr ((vsh + vw) - (1 : Int32))) &&& (1 : Int64)))])) _
        obtain ⟨vbit, hvbit⟩ : ∃ z : Int64, z = ((XT.ushrL vr ((vsh + vw) - (1 : Int32))) &&& (1 : Int64)) := ⟨_, rfl⟩
        refine g_nameL hvbit ?_
        show Goes p.tables e below (T8.setTop (mkF m 237 #[.val (.long p0), .second, .val (.long p1), .second, .val (.int p2), .val (.int p3), .val (.int vs), .val (.int vw), .val (.long vh), .second, .val (.int vn), .val (.int vcd), .val (.long v3), .second, .val (.long vlow), .second, .val (.int vk), .val (.int vsh), .val (.long v4), .second, .val (.long vfm), .second, .val (.int vmode), .val (.long vwd2), .second, .val (.long vr), .second, .val (.int v9), .unset, .unset] [(.long vbit)])) _
        refine g_lstore X8 hx (hb hby at_237) (l' := #[.val (.long p0), .second, .val (.long p1), .second, .val (.int p2), .val (.int p3), .val (.int vs), .val (.int vw), .val (.long vh), .second, .val (.int vn), .val (.int vcd), .val (.long v3), .second, .val (.long vlow), .second, .val (.int vk), .val (.int vsh), .val (.long v4), .second, .val (.long vfm), .second, .val (.int vmode), .val (.long vwd2), .second, .val (.long vr), .second, .val (.int v9), .val (.long vbit), .second]) rfl ?_
        show Goes p.tables e below (T8.setTop (mkF m 239 #[.val (.long p0), .second, .val (.long p1), .second, .val (.int p2), .val (.int p3), .val (.int vs), .val (.int vw), .val (.long vh), .second, .val (.int vn), .val (.int vcd), .val (.long v3), .second, .val (.long vlow), .second, .val (.int vk), .val (.int vsh), .val (.long v4), .second, .val (.long vfm), .second, .val (.int vmode), .val (.long vwd2), .second, .val (.long vr), .second, .val (.int v9), .val (.long vbit), .second] [])) _
        refine g_lload X8 hx (hb hby at_239) rfl ?_
        show Goes p.tables e below (T8.setTop (mkF m 241 #[.val (.long p0), .second, .val (.long p1), .second, .val (.int p2), .val (.int p3), .val (.int vs), .val (.int vw), .val (.long vh), .second, .val (.int vn), .val (.int vcd), .val (.long v3), .second, .val (.long vlow), .second, .val (.int vk), .val (.int vsh), .val (.long v4), .second, .val (.long vfm), .second, .val (.int vmode), .val (.long vwd2), .second, .val (.long vr), .second, .val (.int v9), .val (.long vbit), .second] [(.long vr)])) _
        refine g_lload X8 hx (hb hby at_241) rfl ?_
        show Goes p.tables e below (T8.setTop (mkF m 243 #[.val (.long p0), .second, .val (.long p1), .second, .val (.int p2), .val (.int p3), .val (.int vs), .val (.int vw), .val (.long vh), .second, .val (.int vn), .val (.int vcd), .val (.long v3), .second, .val (.long vlow), .second, .val (.int vk), .val (.int vsh), .val (.long v4), .second, .val (.long vfm), .second, .val (.int vmode), .val (.long vwd2), .second, .val (.long vr), .second, .val (.int v9), .val (.long vbit), .second] [(.long vh), (.long vr)])) _
        refine g_ldc2 X8 hx hZ hown (hw _ (List.mem_of_getElem? (i := 7) rfl)) (hb hby at_243) ?_
        show Goes p.tables e below (T8.setTop (mkF m 246 #[.val (.long p0), .second, .val (.long p1), .second, .val (.int p2), .val (.int p3), .val (.int vs), .val (.int vw), .val (.long vh), .second, .val (.int vn), .val (.int vcd), .val (.long v3), .second, .val (.long vlow), .second, .val (.int vk), .val (.int vsh), .val (.long v4), .second, .val (.long vfm), .second, .val (.int vmode), .val (.long vwd2), .second, .val (.long vr), .second, .val (.int v9), .val (.long vbit), .second] [(.long (-1 : Int64)), (.long vh), (.long vr)])) _
        refine g_lxor X8 hx (hb hby at_246) ?_
        show Goes p.tables e below (T8.setTop (mkF m 247 #[.val (.long p0), .second, .val (.long p1), .second, .val (.int p2), .val (.int p3), .val (.int vs), .val (.int vw), .val (.long vh), .second, .val (.int vn), .val (.int vcd), .val (.long v3), .second, .val (.long vlow), .second, .val (.int vk), .val (.int vsh), .val (.long v4), .second, .val (.long vfm), .second, .val (.int vmode), .val (.long vwd2), .second, .val (.long vr), .second, .val (.int v9), .val (.long vbit), .second] [(.long (vh ^^^ (-1 : Int64))), (.long vr)])) _
        refine g_land X8 hx (hb hby at_247) ?_
        show Goes p.tables e below (T8.setTop (mkF m 248 #[.val (.long p0), .second, .val (.long p1), .second, .val (.int p2), .val (.int p3), .val (.int vs), .val (.int vw), .val (.long vh), .second, .val (.int vn), .val (.int vcd), .val (.long v3), .second, .val (.long vlow), .second, .val (.int vk), .val (.int vsh), .val (.long v4), .second, .val (.long vfm), .second, .val (.int vmode), .val (.long vwd2), .second, .val (.long vr), .second, .val (.int v9), .val (.long vbit), .second] [(.long (vr &&& (vh ^^^ (-1 : Int64))))])) _
        refine g_lconst X8 hx (0 : Int64) (hb hby at_248) rfl ?_
        show Goes p.tables e below (T8.setTop (mkF m 249 #[.val (.long p0), .second, .val (.long p1), .second, .val (.int p2), .val (.int p3), .val (.int vs), .val (.int vw), .val (.long vh), .second, .val (.int vn), .val (.int vcd), .val (.long v3), .second, .val (.long vlow), .second, .val (.int vk), .val (.int vsh), .val (.long v4), .second, .val (.long vfm), .second, .val (.int vmode), .val (.long vwd2), .second, .val (.long vr), .second, .val (.int v9), .val (.long vbit), .second] [(.long (0 : Int64)), (.long (vr &&& (vh ^^^ (-1 : Int64))))])) _
        refine g_lcmp X8 hx (hb hby at_249) ?_
        show Goes p.tables e below (T8.setTop (mkF m 250 #[.val (.long p0), .second, .val (.long p1), .second, .val (.int p2), .val (.int p3), .val (.int vs), .val (.int vw), .val (.long vh), .second, .val (.int vn), .val (.int vcd), .val (.long v3), .second, .val (.long vlow), .second, .val (.int vk), .val (.int vsh), .val (.long v4), .second, .val (.long vfm), .second, .val (.int vmode), .val (.long vwd2), .second, .val (.long vr), .second, .val (.int v9), .val (.long vbit), .second] [(.int (XT.cmpL (vr &&& (vh ^^^ (-1 : Int64))) (0 : Int64)))])) _
        obtain ⟨v10, hv10⟩ : ∃ z : Int32, z = (if (vr &&& (vh ^^^ (-1 : Int64))) = (0 : Int64) then (if vbit = (1 : Int64) then (if (1 : Int32) = v9 then (1 : Int32) else (0 : Int32)) else (if (0 : Int32) = v9 then (1 : Int32) else (0 : Int32))) else (0 : Int32)) := ⟨_, rfl⟩
        refine Goes.join (S' := T8.setTop (mkF m 275 #[.val (.long p0), .second, .val (.long p1), .second, .val (.int p2), .val (.int p3), .val (.int vs), .val (.int vw), .val (.long vh), .second, .val (.int vn), .val (.int vcd), .val (.long v3), .second, .val (.long vlow), .second, .val (.int vk), .val (.int vsh), .val (.long v4), .second, .val (.long vfm), .second, .val (.int vmode), .val (.long vwd2), .second, .val (.long vr), .second, .val (.int v9), .val (.long vbit), .second] [(.int v10)])) (fun J => ?_) ?_
        · skip
          refine g_lif_ne X8 hx (hb hby at_250) (by decide) (pc' := 274) (by decide) (fun c250 => ?_) (fun c250 => ?_)
          · skip
            show Goes p.tables e below (T8.setTop (mkF m 274 #[.val (.long p0), .second, .val (.long p1), .second, .val (.int p2), .val (.int p3), .val (.int vs), .val (.int vw), .val (.long vh), .second, .val (.int vn), .val (.int vcd), .val (.long v3), .second, .val (.long vlow), .second, .val (.int vk), .val (.int vsh), .val (.long v4), .second, .val (.long vfm), .second, .val (.int vmode), .val (.long vwd2), .second, .val (.long vr), .second, .val (.int v9), .val (.long vbit), .second] [])) _
            refine g_iconst X8 hx (0 : Int32) (hb hby at_274) rfl ?_
            rw [show v10 = ((0 : Int32)) from by rw [hv10, if_neg c250]] at J
            exact J
          · skip
            show Goes p.tables e below (T8.setTop (mkF m 253 #[.val (.long p0), .second, .val (.long p1), .second, .val (.int p2), .val (.int p3), .val (.int vs), .val (.int vw), .val (.long vh), .second, .val (.int vn), .val (.int vcd), .val (.long v3), .second, .val (.long vlow), .second, .val (.int vk), .val (.int vsh), .val (.long v4), .second, .val (.long vfm), .second, .val (.int vmode), .val (.long vwd2), .second, .val (.long vr), .second, .val (.int v9), .val (.long vbit), .second] [])) _
            refine g_lload X8 hx (hb hby at_253) rfl ?_
            show Goes p.tables e below (T8.setTop (mkF m 255 #[.val (.long p0), .second, .val (.long p1), .second, .val (.int p2), .val (.int p3), .val (.int vs), .val (.int vw), .val (.long vh), .second, .val (.int vn), .val (.int vcd), .val (.long v3), .second, .val (.long vlow), .second, .val (.int vk), .val (.int vsh), .val (.long v4), .second, .val (.long vfm), .second, .val (.int vmode), .val (.long vwd2), .second, .val (.long vr), .second, .val (.int v9), .val (.long vbit), .second] [(.long vbit)])) _
            refine g_lconst X8 hx (1 : Int64) (hb hby at_255) rfl ?_
            show Goes p.tables e below (T8.setTop (mkF m 256 #[.val (.long p0), .second, .val (.long p1), .second, .val (.int p2), .val (.int p3), .val (.int vs), .val (.int vw), .val (.long vh), .second, .val (.int vn), .val (.int vcd), .val (.long v3), .second, .val (.long vlow), .second, .val (.int vk), .val (.int vsh), .val (.long v4), .second, .val (.long vfm), .second, .val (.int vmode), .val (.long vwd2), .second, .val (.long vr), .second, .val (.int v9), .val (.long vbit), .second] [(.long (1 : Int64)), (.long vbit)])) _
            refine g_lcmp X8 hx (hb hby at_256) ?_
            show Goes p.tables e below (T8.setTop (mkF m 257 #[.val (.long p0), .second, .val (.long p1), .second, .val (.int p2), .val (.int p3), .val (.int vs), .val (.int vw), .val (.long vh), .second, .val (.int vn), .val (.int vcd), .val (.long v3), .second, .val (.long vlow), .second, .val (.int vk), .val (.int vsh), .val (.long v4), .second, .val (.long vfm), .second, .val (.int vmode), .val (.long vwd2), .second, .val (.long vr), .second, .val (.int v9), .val (.long vbit), .second] [(.int (XT.cmpL vbit (1 : Int64)))])) _
            refine g_lif_ne X8 hx (hb hby at_257) (by decide) (pc' := 264) (by decide) (fun c257 => ?_) (fun c257 => ?_)
            · skip
              show Goes p.tables e below (T8.setTop (mkF m 264 #[.val (.long p0), .second, .val (.long p1), .second, .val (.int p2), .val (.int p3), .val (.int vs), .val (.int vw), .val (.long vh), .second, .val (.int vn), .val (.int vcd), .val (.long v3), .second, .val (.long vlow), .second, .val (.int vk), .val (.int vsh), .val (.long v4), .second, .val (.long vfm), .second, .val (.int vmode), .val (.long vwd2), .second, .val (.long vr), .second, .val (.int v9), .val (.long vbit), .second] [])) _
              refine g_iconst X8 hx (0 : Int32) (hb hby at_264) rfl ?_
              show Goes p.tables e below (T8.setTop (mkF m 265 #[.val (.long p0), .second, .val (.long p1), .second, .val (.int p2), .val (.int p3), .val (.int vs), .val (.int vw), .val (.long vh), .second, .val (.int vn), .val (.int vcd), .val (.long v3), .second, .val (.long vlow), .second, .val (.int vk), .val (.int vsh), .val (.long v4), .second, .val (.long vfm), .second, .val (.int vmode), .val (.long vwd2), .second, .val (.long vr), .second, .val (.int v9), .val (.long vbit), .second] [(.int (0 : Int32))])) _
              refine g_iload X8 hx (hb hby at_265) rfl ?_
              show Goes p.tables e below (T8.setTop (mkF m 267 #[.val (.long p0), .second, .val (.long p1), .second, .val (.int p2), .val (.int p3), .val (.int vs), .val (.int vw), .val (.long vh), .second, .val (.int vn), .val (.int vcd), .val (.long v3), .second, .val (.long vlow), .second, .val (.int vk), .val (.int vsh), .val (.long v4), .second, .val (.long vfm), .second, .val (.int vmode), .val (.long vwd2), .second, .val (.long vr), .second, .val (.int v9), .val (.long vbit), .second] [(.int v9), (.int (0 : Int32))])) _
              refine g_icmp_ne X8 hx (hb hby at_267) (by decide) (pc' := 274) (by decide) (fun c267 => ?_) (fun c267 => ?_)
              · skip
                show Goes p.tables e below (T8.setTop (mkF m 274 #[.val (.long p0), .second, .val (.long p1), .second, .val (.int p2), .val (.int p3), .val (.int vs), .val (.int vw), .val (.long vh), .second, .val (.int vn), .val (.int vcd), .val (.long v3), .second, .val (.long vlow), .second, .val (.int vk), .val (.int vsh), .val (.long v4), .second, .val (.long vfm), .second, .val (.int vmode), .val (.long vwd2), .second, .val (.long vr), .second, .val (.int v9), .val (.long vbit), .second] [])) _
                refine g_iconst X8 hx (0 : Int32) (hb hby at_274) rfl ?_
                rw [show v10 = ((0 : Int32)) from by rw [hv10, if_pos c250, if_neg c257, if_neg c267]] at J
                exact J
              · skip
                show Goes p.tables e below (T8.setTop (mkF m 270 #[.val (.long p0), .second, .val (.long p1), .second, .val (.int p2), .val (.int p3), .val (.int vs), .val (.int vw), .val (.long vh), .second, .val (.int vn), .val (.int vcd), .val (.long v3), .second, .val (.long vlow), .second, .val (.int vk), .val (.int vsh), .val (.long v4), .second, .val (.long vfm), .second, .val (.int vmode), .val (.long vwd2), .second, .val (.long vr), .second, .val (.int v9), .val (.long vbit), .second] [])) _
                refine g_iconst X8 hx (1 : Int32) (hb hby at_270) rfl ?_
                show Goes p.tables e below (T8.setTop (mkF m 271 #[.val (.long p0), .second, .val (.long p1), .second, .val (.int p2), .val (.int p3), .val (.int vs), .val (.int vw), .val (.long vh), .second, .val (.int vn), .val (.int vcd), .val (.long v3), .second, .val (.long vlow), .second, .val (.int vk), .val (.int vsh), .val (.long v4), .second, .val (.long vfm), .second, .val (.int vmode), .val (.long vwd2), .second, .val (.long vr), .second, .val (.int v9), .val (.long vbit), .second] [(.int (1 : Int32))])) _
                refine g_goto X8 hx (hb hby at_271) (by decide) (pc' := 275) (by decide) ?_
                rw [show v10 = ((1 : Int32)) from by rw [hv10, if_pos c250, if_neg c257, if_pos c267]] at J
                exact J
            · skip
              show Goes p.tables e below (T8.setTop (mkF m 260 #[.val (.long p0), .second, .val (.long p1), .second, .val (.int p2), .val (.int p3), .val (.int vs), .val (.int vw), .val (.long vh), .second, .val (.int vn), .val (.int vcd), .val (.long v3), .second, .val (.long vlow), .second, .val (.int vk), .val (.int vsh), .val (.long v4), .second, .val (.long vfm), .second, .val (.int vmode), .val (.long vwd2), .second, .val (.long vr), .second, .val (.int v9), .val (.long vbit), .second] [])) _
              refine g_iconst X8 hx (1 : Int32) (hb hby at_260) rfl ?_
              show Goes p.tables e below (T8.setTop (mkF m 261 #[.val (.long p0), .second, .val (.long p1), .second, .val (.int p2), .val (.int p3), .val (.int vs), .val (.int vw), .val (.long vh), .second, .val (.int vn), .val (.int vcd), .val (.long v3), .second, .val (.long vlow), .second, .val (.int vk), .val (.int vsh), .val (.long v4), .second, .val (.long vfm), .second, .val (.int vmode), .val (.long vwd2), .second, .val (.long vr), .second, .val (.int v9), .val (.long vbit), .second] [(.int (1 : Int32))])) _
              refine g_goto X8 hx (hb hby at_261) (by decide) (pc' := 265) (by decide) ?_
              show Goes p.tables e below (T8.setTop (mkF m 265 #[.val (.long p0), .second, .val (.long p1), .second, .val (.int p2), .val (.int p3), .val (.int vs), .val (.int vw), .val (.long vh), .second, .val (.int vn), .val (.int vcd), .val (.long v3), .second, .val (.long vlow), .second, .val (.int vk), .val (.int vsh), .val (.long v4), .second, .val (.long vfm), .second, .val (.int vmode), .val (.long vwd2), .second, .val (.long vr), .second, .val (.int v9), .val (.long vbit), .second] [(.int (1 : Int32))])) _
              refine g_iload X8 hx (hb hby at_265) rfl ?_
              show Goes p.tables e below (T8.setTop (mkF m 267 #[.val (.long p0), .second, .val (.long p1), .second, .val (.int p2), .val (.int p3), .val (.int vs), .val (.int vw), .val (.long vh), .second, .val (.int vn), .val (.int vcd), .val (.long v3), .second, .val (.long vlow), .second, .val (.int vk), .val (.int vsh), .val (.long v4), .second, .val (.long vfm), .second, .val (.int vmode), .val (.long vwd2), .second, .val (.long vr), .second, .val (.int v9), .val (.long vbit), .second] [(.int v9), (.int (1 : Int32))])) _
              refine g_icmp_ne X8 hx (hb hby at_267) (by decide) (pc' := 274) (by decide) (fun c267 => ?_) (fun c267 => ?_)
              · skip
                show Goes p.tables e below (T8.setTop (mkF m 274 #[.val (.long p0), .second, .val (.long p1), .second, .val (.int p2), .val (.int p3), .val (.int vs), .val (.int vw), .val (.long vh), .second, .val (.int vn), .val (.int vcd), .val (.long v3), .second, .val (.long vlow), .second, .val (.int vk), .val (.int vsh), .val (.long v4), .second, .val (.long vfm), .second, .val (.int vmode), .val (.long vwd2), .second, .val (.long vr), .second, .val (.int v9), .val (.long vbit), .second] [])) _
                refine g_iconst X8 hx (0 : Int32) (hb hby at_274) rfl ?_
                rw [show v10 = ((0 : Int32)) from by rw [hv10, if_pos c250, if_pos c257, if_neg c267]] at J
                exact J
              · skip
                show Goes p.tables e below (T8.setTop (mkF m 270 #[.val (.long p0), .second, .val (.long p1), .second, .val (.int p2), .val (.int p3), .val (.int vs), .val (.int vw), .val (.long vh), .second, .val (.int vn), .val (.int vcd), .val (.long v3), .second, .val (.long vlow), .second, .val (.int vk), .val (.int vsh), .val (.long v4), .second, .val (.long vfm), .second, .val (.int vmode), .val (.long vwd2), .second, .val (.long vr), .second, .val (.int v9), .val (.long vbit), .second] [])) _
                refine g_iconst X8 hx (1 : Int32) (hb hby at_270) rfl ?_
                show Goes p.tables e below (T8.setTop (mkF m 271 #[.val (.long p0), .second, .val (.long p1), .second, .val (.int p2), .val (.int p3), .val (.int vs), .val (.int vw), .val (.long vh), .second, .val (.int vn), .val (.int vcd), .val (.long v3), .second, .val (.long vlow), .second, .val (.int vk), .val (.int vsh), .val (.long v4), .second, .val (.long vfm), .second, .val (.int vmode), .val (.long vwd2), .second, .val (.long vr), .second, .val (.int v9), .val (.long vbit), .second] [(.int (1 : Int32))])) _
                refine g_goto X8 hx (hb hby at_271) (by decide) (pc' := 275) (by decide) ?_
                rw [show v10 = ((1 : Int32)) from by rw [hv10, if_pos c250, if_pos c257, if_pos c267]] at J
                exact J
        show Goes p.tables e below (T8.setTop (mkF m 275 #[.val (.long p0), .second, .val (.long p1), .second, .val (.int p2), .val (.int p3), .val (.int vs), .val (.int vw), .val (.long vh), .second, .val (.int vn), .val (.int vcd), .val (.long v3), .second, .val (.long vlow), .second, .val (.int vk), .val (.int vsh), .val (.long v4), .second, .val (.long vfm), .second, .val (.int vmode), .val (.long vwd2), .second, .val (.long vr), .second, .val (.int v9), .val (.long vbit), .second] [(.int v10)])) _
        have hlow : vlow = own_low vs := by rw [hvlow, hvh, hv3, hvcd, hvn, hvw]; rfl
        have hfm : vfm = own_fm vs vk := by rw [hvfm, hv4, hvsh, hvw]; rfl
        have hgood : own_good vs vk = true := by rw [hvk, hvn, hvw, hvs]; exact own_goodOf p2 p3
        have hfin : v10 = 1 := own_final vs vk hgood vwd2 v10 v9 vr vbit (by rw [hvr, hlow, hvh]) (by rw [hv9, hfm]) (by rw [hvbit, hvsh, hvw]) (by rw [hv10, hvh])
        exact g_retZ X8 hx (hz := (Or.inr hfin)) hret hk (hb hby at_275) (by decide) (by decide) ⟨by rw [hfin], Fr.nil _⟩
    · skip
      show Goes p.tables e below (T2.setTop (mkF m 137 #[.val (.long p0), .second, .val (.long p1), .second, .val (.int p2), .val (.int p3), .val (.int vs), .val (.int vw), .val (.long vh), .second, .val (.int vn), .val (.int vcd), .val (.long v3), .second, .val (.long vlow), .second, .val (.int vk), .val (.int vsh), .val (.long v4), .second, .val (.long vfm), .second, .val (.int vmode), .unset, .unset, .unset, .unset, .unset, .unset, .unset] [])) _
      refine g_lloadN X2 hx (hb hby at_137) rfl ?_
      show Goes p.tables e below (T2.setTop (mkF m 138 #[.val (.long p0), .second, .val (.long p1), .second, .val (.int p2), .val (.int p3), .val (.int vs), .val (.int vw), .val (.long vh), .second, .val (.int vn), .val (.int vcd), .val (.long v3), .second, .val (.long vlow), .second, .val (.int vk), .val (.int vsh), .val (.long v4), .second, .val (.long vfm), .second, .val (.int vmode), .unset, .unset, .unset, .unset, .unset, .unset, .unset] [(.long p0)])) _
      refine g_lload X2 hx (hb hby at_138) rfl ?_
      show Goes p.tables e below (T2.setTop (mkF m 140 #[.val (.long p0), .second, .val (.long p1), .second, .val (.int p2), .val (.int p3), .val (.int vs), .val (.int vw), .val (.long vh), .second, .val (.int vn), .val (.int vcd), .val (.long v3), .second, .val (.long vlow), .second, .val (.int vk), .val (.int vsh), .val (.long v4), .second, .val (.long vfm), .second, .val (.int vmode), .unset, .unset, .unset, .unset, .unset, .unset, .unset] [(.long vfm), (.long p0)])) _
      refine g_ldc2 X2 hx hZ hown (hw _ (List.mem_of_getElem? (i := 7) rfl)) (hb hby at_140) ?_
      show Goes p.tables e below (T2.setTop (mkF m 143 #[.val (.long p0), .second, .val (.long p1), .second, .val (.int p2), .val (.int p3), .val (.int vs), .val (.int vw), .val (.long vh), .second, .val (.int vn), .val (.int vcd), .val (.long v3), .second, .val (.long vlow), .second, .val (.int vk), .val (.int vsh), .val (.long v4), .second, .val (.long vfm), .second, .val (.int vmode), .unset, .unset, .unset, .unset, .unset, .unset, .unset] [(.long (-1 : Int64)), (.long vfm), (.long p0)])) _
      refine g_lxor X2 hx (hb hby at_143) ?_
      show Goes p.tables e below (T2.setTop (mkF m 144 #[.val (.long p0), .second, .val (.long p1), .second, .val (.int p2), .val (.int p3), .val (.int vs), .val (.int vw), .val (.long vh), .second, .val (.int vn), .val (.int vcd), .val (.long v3), .second, .val (.long vlow), .second, .val (.int vk), .val (.int vsh), .val (.long v4), .second, .val (.long vfm), .second, .val (.int vmode), .unset, .unset, .unset, .unset, .unset, .unset, .unset] [(.long (vfm ^^^ (-1 : Int64))), (.long p0)])) _
      refine g_land X2 hx (hb hby at_144) ?_
      show Goes p.tables e below (T2.setTop (mkF m 145 #[.val (.long p0), .second, .val (.long p1), .second, .val (.int p2), .val (.int p3), .val (.int vs), .val (.int vw), .val (.long vh), .second, .val (.int vn), .val (.int vcd), .val (.long v3), .second, .val (.long vlow), .second, .val (.int vk), .val (.int vsh), .val (.long v4), .second, .val (.long vfm), .second, .val (.int vmode), .unset, .unset, .unset, .unset, .unset, .unset, .unset] [(.long (p0 &&& (vfm ^^^ (-1 : Int64))))])) _
      obtain ⟨vwd1, hvwd1⟩ : ∃ z : Int64, z = (p0 &&& (vfm ^^^ (-1 : Int64))) := ⟨_, rfl⟩
      refine g_nameL hvwd1 ?_
      show Goes p.tables e below (T2.setTop (mkF m 145 #[.val (.long p0), .second, .val (.long p1), .second, .val (.int p2), .val (.int p3), .val (.int vs), .val (.int vw), .val (.long vh), .second, .val (.int vn), .val (.int vcd), .val (.long v3), .second, .val (.long vlow), .second, .val (.int vk), .val (.int vsh), .val (.long v4), .second, .val (.long vfm), .second, .val (.int vmode), .unset, .unset, .unset, .unset, .unset, .unset, .unset] [(.long vwd1)])) _
      refine g_lstore X2 hx (hb hby at_145) (l' := #[.val (.long p0), .second, .val (.long p1), .second, .val (.int p2), .val (.int p3), .val (.int vs), .val (.int vw), .val (.long vh), .second, .val (.int vn), .val (.int vcd), .val (.long v3), .second, .val (.long vlow), .second, .val (.int vk), .val (.int vsh), .val (.long v4), .second, .val (.long vfm), .second, .val (.int vmode), .val (.long vwd1), .second, .unset, .unset, .unset, .unset, .unset]) rfl ?_
      show Goes p.tables e below (T2.setTop (mkF m 147 #[.val (.long p0), .second, .val (.long p1), .second, .val (.int p2), .val (.int p3), .val (.int vs), .val (.int vw), .val (.long vh), .second, .val (.int vn), .val (.int vcd), .val (.long v3), .second, .val (.long vlow), .second, .val (.int vk), .val (.int vsh), .val (.long v4), .second, .val (.long vfm), .second, .val (.int vmode), .val (.long vwd1), .second, .unset, .unset, .unset, .unset, .unset] [])) _
      refine g_goto X2 hx (hb hby at_147) (by decide) (pc' := 197) (by decide) ?_
      show Goes p.tables e below (T2.setTop (mkF m 197 #[.val (.long p0), .second, .val (.long p1), .second, .val (.int p2), .val (.int p3), .val (.int vs), .val (.int vw), .val (.long vh), .second, .val (.int vn), .val (.int vcd), .val (.long v3), .second, .val (.long vlow), .second, .val (.int vk), .val (.int vsh), .val (.long v4), .second, .val (.long vfm), .second, .val (.int vmode), .val (.long vwd1), .second, .unset, .unset, .unset, .unset, .unset] [])) _
      refine g_lload X2 hx (hb hby at_197) rfl ?_
      show Goes p.tables e below (T2.setTop (mkF m 199 #[.val (.long p0), .second, .val (.long p1), .second, .val (.int p2), .val (.int p3), .val (.int vs), .val (.int vw), .val (.long vh), .second, .val (.int vn), .val (.int vcd), .val (.long v3), .second, .val (.long vlow), .second, .val (.int vk), .val (.int vsh), .val (.long v4), .second, .val (.long vfm), .second, .val (.int vmode), .val (.long vwd1), .second, .unset, .unset, .unset, .unset, .unset] [(.long vwd1)])) _
      refine g_lload X2 hx (hb hby at_199) rfl ?_
      show Goes p.tables e below (T2.setTop (mkF m 201 #[.val (.long p0), .second, .val (.long p1), .second, .val (.int p2), .val (.int p3), .val (.int vs), .val (.int vw), .val (.long vh), .second, .val (.int vn), .val (.int vcd), .val (.long v3), .second, .val (.long vlow), .second, .val (.int vk), .val (.int vsh), .val (.long v4), .second, .val (.long vfm), .second, .val (.int vmode), .val (.long vwd1), .second, .unset, .unset, .unset, .unset, .unset] [(.long vlow), (.long vwd1)])) _
      refine g_lload X2 hx (hb hby at_201) rfl ?_
      show Goes p.tables e below (T2.setTop (mkF m 203 #[.val (.long p0), .second, .val (.long p1), .second, .val (.int p2), .val (.int p3), .val (.int vs), .val (.int vw), .val (.long vh), .second, .val (.int vn), .val (.int vcd), .val (.long v3), .second, .val (.long vlow), .second, .val (.int vk), .val (.int vsh), .val (.long v4), .second, .val (.long vfm), .second, .val (.int vmode), .val (.long vwd1), .second, .unset, .unset, .unset, .unset, .unset] [(.long vh), (.long vlow), (.long vwd1)])) _
      refine g_callS X2 hx hZ hown (by rw [hml]; rfl) e2 (hw _ (List.mem_of_getElem? (i := 9) rfl)) (hw _ (List.mem_of_getElem? (i := 10) rfl)) (hw _ (List.mem_of_getElem? (i := 11) rfl)) (hw _ (List.mem_of_getElem? (i := 12) rfl)) (rmZ l Z a0 hw vwd1 vlow vh h0) [(.long vwd1), (.long vlow), (.long vh)] rfl [] rfl (lenOf pd_3 rfl) (hb hby at_203) (by decide) 0 (by decide) (by decide) (by first | decide | exact Nat.le_refl _) (by decide) (by decide) (fun v T11 L11 X11 hQ11 => ?_)
      obtain ⟨rfl, e11, rfl⟩ := hQ11
      show Goes p.tables e below (T11.setTop (mkF m 206 #[.val (.long p0), .second, .val (.long p1), .second, .val (.int p2), .val (.int p3), .val (.int vs), .val (.int vw), .val (.long vh), .second, .val (.int vn), .val (.int vcd), .val (.long v3), .second, .val (.long vlow), .second, .val (.int vk), .val (.int vsh), .val (.long v4), .second, .val (.long vfm), .second, .val (.int vmode), .val (.long vwd1), .second, .unset, .unset, .unset, .unset, .unset] [(.long (zfV vwd1 vlow vh))])) _
      obtain ⟨vr, hvr⟩ : ∃ z : Int64, z = (zfV vwd1 vlow vh) := ⟨_, rfl⟩
      refine g_nameL hvr ?_
      show Goes p.tables e below (T11.setTop (mkF m 206 #[.val (.long p0), .second, .val (.long p1), .second, .val (.int p2), .val (.int p3), .val (.int vs), .val (.int vw), .val (.long vh), .second, .val (.int vn), .val (.int vcd), .val (.long v3), .second, .val (.long vlow), .second, .val (.int vk), .val (.int vsh), .val (.long v4), .second, .val (.long vfm), .second, .val (.int vmode), .val (.long vwd1), .second, .unset, .unset, .unset, .unset, .unset] [(.long vr)])) _
      refine g_lstore X11 hx (hb hby at_206) (l' := #[.val (.long p0), .second, .val (.long p1), .second, .val (.int p2), .val (.int p3), .val (.int vs), .val (.int vw), .val (.long vh), .second, .val (.int vn), .val (.int vcd), .val (.long v3), .second, .val (.long vlow), .second, .val (.int vk), .val (.int vsh), .val (.long v4), .second, .val (.long vfm), .second, .val (.int vmode), .val (.long vwd1), .second, .val (.long vr), .second, .unset, .unset, .unset]) rfl ?_
      show Goes p.tables e below (T11.setTop (mkF m 208 #[.val (.long p0), .second, .val (.long p1), .second, .val (.int p2), .val (.int p3), .val (.int vs), .val (.int vw), .val (.long vh), .second, .val (.int vn), .val (.int vcd), .val (.long v3), .second, .val (.long vlow), .second, .val (.int vk), .val (.int vsh), .val (.long v4), .second, .val (.long vfm), .second, .val (.int vmode), .val (.long vwd1), .second, .val (.long vr), .second, .unset, .unset, .unset] [])) _
      refine g_lload X11 hx (hb hby at_208) rfl ?_
      show Goes p.tables e below (T11.setTop (mkF m 210 #[.val (.long p0), .second, .val (.long p1), .second, .val (.int p2), .val (.int p3), .val (.int vs), .val (.int vw), .val (.long vh), .second, .val (.int vn), .val (.int vcd), .val (.long v3), .second, .val (.long vlow), .second, .val (.int vk), .val (.int vsh), .val (.long v4), .second, .val (.long vfm), .second, .val (.int vmode), .val (.long vwd1), .second, .val (.long vr), .second, .unset, .unset, .unset] [(.long vwd1)])) _
      refine g_lload X11 hx (hb hby at_210) rfl ?_
      show Goes p.tables e below (T11.setTop (mkF m 212 #[.val (.long p0), .second, .val (.long p1), .second, .val (.int p2), .val (.int p3), .val (.int vs), .val (.int vw), .val (.long vh), .second, .val (.int vn), .val (.int vcd), .val (.long v3), .second, .val (.long vlow), .second, .val (.int vk), .val (.int vsh), .val (.long v4), .second, .val (.long vfm), .second, .val (.int vmode), .val (.long vwd1), .second, .val (.long vr), .second, .unset, .unset, .unset] [(.long vfm), (.long vwd1)])) _
      refine g_land X11 hx (hb hby at_212) ?_
      show Goes p.tables e below (T11.setTop (mkF m 213 #[.val (.long p0), .second, .val (.long p1), .second, .val (.int p2), .val (.int p3), .val (.int vs), .val (.int vw), .val (.long vh), .second, .val (.int vn), .val (.int vcd), .val (.long v3), .second, .val (.long vlow), .second, .val (.int vk), .val (.int vsh), .val (.long v4), .second, .val (.long vfm), .second, .val (.int vmode), .val (.long vwd1), .second, .val (.long vr), .second, .unset, .unset, .unset] [(.long (vwd1 &&& vfm))])) _
      refine g_lconst X11 hx (0 : Int64) (hb hby at_213) rfl ?_
      show Goes p.tables e below (T11.setTop (mkF m 214 #[.val (.long p0), .second, .val (.long p1), .second, .val (.int p2), .val (.int p3), .val (.int vs), .val (.int vw), .val (.long vh), .second, .val (.int vn), .val (.int vcd), .val (.long v3), .second, .val (.long vlow), .second, .val (.int vk), .val (.int vsh), .val (.long v4), .second, .val (.long vfm), .second, .val (.int vmode), .val (.long vwd1), .second, .val (.long vr), .second, .unset, .unset, .unset] [(.long (0 : Int64)), (.long (vwd1 &&& vfm))])) _
      refine g_lcmp X11 hx (hb hby at_214) ?_
      show Goes p.tables e below (T11.setTop (mkF m 215 #[.val (.long p0), .second, .val (.long p1), .second, .val (.int p2), .val (.int p3), .val (.int vs), .val (.int vw), .val (.long vh), .second, .val (.int vn), .val (.int vcd), .val (.long v3), .second, .val (.long vlow), .second, .val (.int vk), .val (.int vsh), .val (.long v4), .second, .val (.long vfm), .second, .val (.int vmode), .val (.long vwd1), .second, .val (.long vr), .second, .unset, .unset, .unset] [(.int (XT.cmpL (vwd1 &&& vfm) (0 : Int64)))])) _
      obtain ⟨v12, hv12⟩ : ∃ z : Int32, z = (if (vwd1 &&& vfm) = (0 : Int64) then (1 : Int32) else (0 : Int32)) := ⟨_, rfl⟩
      refine Goes.join (S' := T11.setTop (mkF m 223 #[.val (.long p0), .second, .val (.long p1), .second, .val (.int p2), .val (.int p3), .val (.int vs), .val (.int vw), .val (.long vh), .second, .val (.int vn), .val (.int vcd), .val (.long v3), .second, .val (.long vlow), .second, .val (.int vk), .val (.int vsh), .val (.long v4), .second, .val (.long vfm), .second, .val (.int vmode), .val (.long vwd1), .second, .val (.long vr), .second, .unset, .unset, .unset] [(.int v12)])) (fun J => ?_) ?_
      · skip
        refine g_lif_ne X11 hx (hb hby at_215) (by decide) (pc' := 222) (by decide) (fun c215 => ?_) (fun c215 => ?_)
        · skip
          show Goes p.tables e below (T11.setTop (mkF m 222 #[.val (.long p0), .second, .val (.long p1), .second, .val (.int p2), .val (.int p3), .val (.int vs), .val (.int vw), .val (.long vh), .second, .val (.int vn), .val (.int vcd), .val (.long v3), .second, .val (.long vlow), .second, .val (.int vk), .val (.int vsh), .val (.long v4), .second, .val (.long vfm), .second, .val (.int vmode), .val (.long vwd1), .second, .val (.long vr), .second, .unset, .unset, .unset] [])) _
          refine g_iconst X11 hx (0 : Int32) (hb hby at_222) rfl ?_
          rw [show v12 = ((0 : Int32)) from by rw [hv12, if_neg c215]] at J
          exact J
        · skip
          show Goes p.tables e below (T11.setTop (mkF m 218 #[.val (.long p0), .second, .val (.long p1), .second, .val (.int p2), .val (.int p3), .val (.int vs), .val (.int vw), .val (.long vh), .second, .val (.int vn), .val (.int vcd), .val (.long v3), .second, .val (.long vlow), .second, .val (.int vk), .val (.int vsh), .val (.long v4), .second, .val (.long vfm), .second, .val (.int vmode), .val (.long vwd1), .second, .val (.long vr), .second, .unset, .unset, .unset] [])) _
          refine g_iconst X11 hx (1 : Int32) (hb hby at_218) rfl ?_
          show Goes p.tables e below (T11.setTop (mkF m 219 #[.val (.long p0), .second, .val (.long p1), .second, .val (.int p2), .val (.int p3), .val (.int vs), .val (.int vw), .val (.long vh), .second, .val (.int vn), .val (.int vcd), .val (.long v3), .second, .val (.long vlow), .second, .val (.int vk), .val (.int vsh), .val (.long v4), .second, .val (.long vfm), .second, .val (.int vmode), .val (.long vwd1), .second, .val (.long vr), .second, .unset, .unset, .unset] [(.int (1 : Int32))])) _
          refine g_goto X11 hx (hb hby at_219) (by decide) (pc' := 223) (by decide) ?_
          rw [show v12 = ((1 : Int32)) from by rw [hv12, if_pos c215]] at J
          exact J
      show Goes p.tables e below (T11.setTop (mkF m 223 #[.val (.long p0), .second, .val (.long p1), .second, .val (.int p2), .val (.int p3), .val (.int vs), .val (.int vw), .val (.long vh), .second, .val (.int vn), .val (.int vcd), .val (.long v3), .second, .val (.long vlow), .second, .val (.int vk), .val (.int vsh), .val (.long v4), .second, .val (.long vfm), .second, .val (.int vmode), .val (.long vwd1), .second, .val (.long vr), .second, .unset, .unset, .unset] [(.int v12)])) _
      refine g_istore X11 hx (hb hby at_223) (l' := #[.val (.long p0), .second, .val (.long p1), .second, .val (.int p2), .val (.int p3), .val (.int vs), .val (.int vw), .val (.long vh), .second, .val (.int vn), .val (.int vcd), .val (.long v3), .second, .val (.long vlow), .second, .val (.int vk), .val (.int vsh), .val (.long v4), .second, .val (.long vfm), .second, .val (.int vmode), .val (.long vwd1), .second, .val (.long vr), .second, .val (.int v12), .unset, .unset]) rfl ?_
      show Goes p.tables e below (T11.setTop (mkF m 225 #[.val (.long p0), .second, .val (.long p1), .second, .val (.int p2), .val (.int p3), .val (.int vs), .val (.int vw), .val (.long vh), .second, .val (.int vn), .val (.int vcd), .val (.long v3), .second, .val (.long vlow), .second, .val (.int vk), .val (.int vsh), .val (.long v4), .second, .val (.long vfm), .second, .val (.int vmode), .val (.long vwd1), .second, .val (.long vr), .second, .val (.int v12), .unset, .unset] [])) _
      refine g_lload X11 hx (hb hby at_225) rfl ?_
      show Goes p.tables e below (T11.setTop (mkF m 227 #[.val (.long p0), .second, .val (.long p1), .second, .val (.int p2), .val (.int p3), .val (.int vs), .val (.int vw), .val (.long vh), .second, .val (.int vn), .val (.int vcd), .val (.long v3), .second, .val (.long vlow), .second, .val (.int vk), .val (.int vsh), .val (.long v4), .second, .val (.long vfm), .second, .val (.int vmode), .val (.long vwd1), .second, .val (.long vr), .second, .val (.int v12), .unset, .unset] [(.long vr)])) _
      refine g_iload X11 hx (hb hby at_227) rfl ?_
      show Goes p.tables e below (T11.setTop (mkF m 229 #[.val (.long p0), .second, .val (.long p1), .second, .val (.int p2), .val (.int p3), .val (.int vs), .val (.int vw), .val (.long vh), .second, .val (.int vn), .val (.int vcd), .val (.long v3), .second, .val (.long vlow), .second, .val (.int vk), .val (.int vsh), .val (.long v4), .second, .val (.long vfm), .second, .val (.int vmode), .val (.long vwd1), .second, .val (.long vr), .second, .val (.int v12), .unset, .unset] [(.int vsh), (.long vr)])) _
      refine g_iload X11 hx (hb hby at_229) rfl ?_
      show Goes p.tables e below (T11.setTop (mkF m 231 #[.val (.long p0), .second, .val (.long p1), .second, .val (.int p2), .val (.int p3), .val (.int vs), .val (.int vw), .val (.long vh), .second, .val (.int vn), .val (.int vcd), .val (.long v3), .second, .val (.long vlow), .second, .val (.int vk), .val (.int vsh), .val (.long v4), .second, .val (.long vfm), .second, .val (.int vmode), .val (.long vwd1), .second, .val (.long vr), .second, .val (.int v12), .unset, .unset] [(.int vw), (.int vsh), (.long vr)])) _
      refine g_iadd X11 hx (hb hby at_231) ?_
      show Goes p.tables e below (T11.setTop (mkF m 232 #[.val (.long p0), .second, .val (.long p1), .second, .val (.int p2), .val (.int p3), .val (.int vs), .val (.int vw), .val (.long vh), .second, .val (.int vn), .val (.int vcd), .val (.long v3), .second, .val (.long vlow), .second, .val (.int vk), .val (.int vsh), .val (.long v4), .second, .val (.long vfm), .second, .val (.int vmode), .val (.long vwd1), .second, .val (.long vr), .second, .val (.int v12), .unset, .unset] [(.int (vsh + vw)), (.long vr)])) _
      refine g_iconst X11 hx (1 : Int32) (hb hby at_232) rfl ?_
      show Goes p.tables e below (T11.setTop (mkF m 233 #[.val (.long p0), .second, .val (.long p1), .second, .val (.int p2), .val (.int p3), .val (.int vs), .val (.int vw), .val (.long vh), .second, .val (.int vn), .val (.int vcd), .val (.long v3), .second, .val (.long vlow), .second, .val (.int vk), .val (.int vsh), .val (.long v4), .second, .val (.long vfm), .second, .val (.int vmode), .val (.long vwd1), .second, .val (.long vr), .second, .val (.int v12), .unset, .unset] [(.int (1 : Int32)), (.int (vsh + vw)), (.long vr)])) _
      refine g_isub X11 hx (hb hby at_233) ?_
      show Goes p.tables e below (T11.setTop (mkF m 234 #[.val (.long p0), .second, .val (.long p1), .second, .val (.int p2), .val (.int p3), .val (.int vs), .val (.int vw), .val (.long vh), .second, .val (.int vn), .val (.int vcd), .val (.long v3), .second, .val (.long vlow), .second, .val (.int vk), .val (.int vsh), .val (.long v4), .second, .val (.long vfm), .second, .val (.int vmode), .val (.long vwd1), .second, .val (.long vr), .second, .val (.int v12), .unset, .unset] [(.int ((vsh + vw) - (1 : Int32))), (.long vr)])) _
      refine g_lushr X11 hx (hb hby at_234) ?_
      show Goes p.tables e below (T11.setTop (mkF m 235 #[.val (.long p0), .second, .val (.long p1), .second, .val (.int p2), .val (.int p3), .val (.int vs), .val (.int vw), .val (.long vh), .second, .val (.int vn), .val (.int vcd), .val (.long v3), .second, .val (.long vlow), .second, .val (.int vk), .val (.int vsh), .val (.long v4), .second, .val (.long vfm), .second, .val (.int vmode), .val (.long vwd1), .second, .val (.long vr), .second, .val (.int v12), .unset, .unset] [(.long (XT.ushrL vr ((vsh + vw) - (1 : Int32))))])) _
      refine g_lconst X11 hx (1 : Int64) (hb hby at_235) rfl ?_
      show Goes p.tables e below (T11.setTop (mkF m 236 #[.val (.long p0), .second, .val (.long p1), .second, .val (.int p2), .val (.int p3), .val (.int vs), .val (.int vw), .val (.long vh), .second, .val (.int vn), .val (.int vcd), .val (.long v3), .second, .val (.long vlow), .second, .val (.int vk), .val (.int vsh), .val (.long v4), .second, .val (.long vfm), .second, .val (.int vmode), .val (.long vwd1), .second, .val (.long vr), .second, .val (.int v12), .unset, .unset] [(.long (1 : Int64)), (.long (XT.ushrL vr ((vsh + vw) - (1 : Int32))))])) _
      refine g_land X11 hx (hb hby at_236) ?_
      show Goes p.tables e below (T11.setTop (mkF m 237 #[.val (.long p0), .second, .val (.long p1), .second, .val (.int p2), .val (.int p3), .val (.int vs), .val (.int vw), .val (.long vh), .second, .val (.int vn), .val (.int vcd), .val (.long v3), .second, .val (.long vlow), .second, .val (.int vk), .val (.int vsh), .val (.long v4), .second, .val (.long vfm), .second, .val (.int vmode), .val (.long vwd1), .second, .val (.long vr), .second, .val (.int v12), .unset, .unset] [(.long ((XT.ushrL vr ((vsh + vw) - (1 : Int32))) &&& (1 : Int64)))])) _
      obtain ⟨vbit, hvbit⟩ : ∃ z : Int64, z = ((XT.ushrL vr ((vsh + vw) - (1 : Int32))) &&& (1 : Int64)) := ⟨_, rfl⟩
      refine g_nameL hvbit ?_
      show Goes p.tables e below (T11.setTop (mkF m 237 #[.val (.long p0), .second, .val (.long p1), .second, .val (.int p2), .val (.int p3), .val (.int vs), .val (.int vw), .val (.long vh), .second, .val (.int vn), .val (.int vcd), .val (.long v3), .second, .val (.long vlow), .second, .val (.int vk), .val (.int vsh), .val (.long v4), .second, .val (.long vfm), .second, .val (.int vmode), .val (.long vwd1), .second, .val (.long vr), .second, .val (.int v12), .unset, .unset] [(.long vbit)])) _
      refine g_lstore X11 hx (hb hby at_237) (l' := #[.val (.long p0), .second, .val (.long p1), .second, .val (.int p2), .val (.int p3), .val (.int vs), .val (.int vw), .val (.long vh), .second, .val (.int vn), .val (.int vcd), .val (.long v3), .second, .val (.long vlow), .second, .val (.int vk), .val (.int vsh), .val (.long v4), .second, .val (.long vfm), .second, .val (.int vmode), .val (.long vwd1), .second, .val (.long vr), .second, .val (.int v12), .val (.long vbit), .second]) rfl ?_
      show Goes p.tables e below (T11.setTop (mkF m 239 #[.val (.long p0), .second, .val (.long p1), .second, .val (.int p2), .val (.int p3), .val (.int vs), .val (.int vw), .val (.long vh), .second, .val (.int vn), .val (.int vcd), .val (.long v3), .second, .val (.long vlow), .second, .val (.int vk), .val (.int vsh), .val (.long v4), .second, .val (.long vfm), .second, .val (.int vmode), .val (.long vwd1), .second, .val (.long vr), .second, .val (.int v12), .val (.long vbit), .second] [])) _
      refine g_lload X11 hx (hb hby at_239) rfl ?_
      show Goes p.tables e below (T11.setTop (mkF m 241 #[.val (.long p0), .second, .val (.long p1), .second, .val (.int p2), .val (.int p3), .val (.int vs), .val (.int vw), .val (.long vh), .second, .val (.int vn), .val (.int vcd), .val (.long v3), .second, .val (.long vlow), .second, .val (.int vk), .val (.int vsh), .val (.long v4), .second, .val (.long vfm), .second, .val (.int vmode), .val (.long vwd1), .second, .val (.long vr), .second, .val (.int v12), .val (.long vbit), .second] [(.long vr)])) _
      refine g_lload X11 hx (hb hby at_241) rfl ?_
      show Goes p.tables e below (T11.setTop (mkF m 243 #[.val (.long p0), .second, .val (.long p1), .second, .val (.int p2), .val (.int p3), .val (.int vs), .val (.int vw), .val (.long vh), .second, .val (.int vn), .val (.int vcd), .val (.long v3), .second, .val (.long vlow), .second, .val (.int vk), .val (.int vsh), .val (.long v4), .second, .val (.long vfm), .second, .val (.int vmode), .val (.long vwd1), .second, .val (.long vr), .second, .val (.int v12), .val (.long vbit), .second] [(.long vh), (.long vr)])) _
      refine g_ldc2 X11 hx hZ hown (hw _ (List.mem_of_getElem? (i := 7) rfl)) (hb hby at_243) ?_
      show Goes p.tables e below (T11.setTop (mkF m 246 #[.val (.long p0), .second, .val (.long p1), .second, .val (.int p2), .val (.int p3), .val (.int vs), .val (.int vw), .val (.long vh), .second, .val (.int vn), .val (.int vcd), .val (.long v3), .second, .val (.long vlow), .second, .val (.int vk), .val (.int vsh), .val (.long v4), .second, .val (.long vfm), .second, .val (.int vmode), .val (.long vwd1), .second, .val (.long vr), .second, .val (.int v12), .val (.long vbit), .second] [(.long (-1 : Int64)), (.long vh), (.long vr)])) _
      refine g_lxor X11 hx (hb hby at_246) ?_
      show Goes p.tables e below (T11.setTop (mkF m 247 #[.val (.long p0), .second, .val (.long p1), .second, .val (.int p2), .val (.int p3), .val (.int vs), .val (.int vw), .val (.long vh), .second, .val (.int vn), .val (.int vcd), .val (.long v3), .second, .val (.long vlow), .second, .val (.int vk), .val (.int vsh), .val (.long v4), .second, .val (.long vfm), .second, .val (.int vmode), .val (.long vwd1), .second, .val (.long vr), .second, .val (.int v12), .val (.long vbit), .second] [(.long (vh ^^^ (-1 : Int64))), (.long vr)])) _
      refine g_land X11 hx (hb hby at_247) ?_
      show Goes p.tables e below (T11.setTop (mkF m 248 #[.val (.long p0), .second, .val (.long p1), .second, .val (.int p2), .val (.int p3), .val (.int vs), .val (.int vw), .val (.long vh), .second, .val (.int vn), .val (.int vcd), .val (.long v3), .second, .val (.long vlow), .second, .val (.int vk), .val (.int vsh), .val (.long v4), .second, .val (.long vfm), .second, .val (.int vmode), .val (.long vwd1), .second, .val (.long vr), .second, .val (.int v12), .val (.long vbit), .second] [(.long (vr &&& (vh ^^^ (-1 : Int64))))])) _
      refine g_lconst X11 hx (0 : Int64) (hb hby at_248) rfl ?_
      show Goes p.tables e below (T11.setTop (mkF m 249 #[.val (.long p0), .second, .val (.long p1), .second, .val (.int p2), .val (.int p3), .val (.int vs), .val (.int vw), .val (.long vh), .second, .val (.int vn), .val (.int vcd), .val (.long v3), .second, .val (.long vlow), .second, .val (.int vk), .val (.int vsh), .val (.long v4), .second, .val (.long vfm), .second, .val (.int vmode), .val (.long vwd1), .second, .val (.long vr), .second, .val (.int v12), .val (.long vbit), .second] [(.long (0 : Int64)), (.long (vr &&& (vh ^^^ (-1 : Int64))))])) _
      refine g_lcmp X11 hx (hb hby at_249) ?_
      show Goes p.tables e below (T11.setTop (mkF m 250 #[.val (.long p0), .second, .val (.long p1), .second, .val (.int p2), .val (.int p3), .val (.int vs), .val (.int vw), .val (.long vh), .second, .val (.int vn), .val (.int vcd), .val (.long v3), .second, .val (.long vlow), .second, .val (.int vk), .val (.int vsh), .val (.long v4), .second, .val (.long vfm), .second, .val (.int vmode), .val (.long vwd1), .second, .val (.long vr), .second, .val (.int v12), .val (.long vbit), .second] [(.int (XT.cmpL (vr &&& (vh ^^^ (-1 : Int64))) (0 : Int64)))])) _
      obtain ⟨v13, hv13⟩ : ∃ z : Int32, z = (if (vr &&& (vh ^^^ (-1 : Int64))) = (0 : Int64) then (if vbit = (1 : Int64) then (if (1 : Int32) = v12 then (1 : Int32) else (0 : Int32)) else (if (0 : Int32) = v12 then (1 : Int32) else (0 : Int32))) else (0 : Int32)) := ⟨_, rfl⟩
      refine Goes.join (S' := T11.setTop (mkF m 275 #[.val (.long p0), .second, .val (.long p1), .second, .val (.int p2), .val (.int p3), .val (.int vs), .val (.int vw), .val (.long vh), .second, .val (.int vn), .val (.int vcd), .val (.long v3), .second, .val (.long vlow), .second, .val (.int vk), .val (.int vsh), .val (.long v4), .second, .val (.long vfm), .second, .val (.int vmode), .val (.long vwd1), .second, .val (.long vr), .second, .val (.int v12), .val (.long vbit), .second] [(.int v13)])) (fun J => ?_) ?_
      · skip
        refine g_lif_ne X11 hx (hb hby at_250) (by decide) (pc' := 274) (by decide) (fun c250 => ?_) (fun c250 => ?_)
        · skip
          show Goes p.tables e below (T11.setTop (mkF m 274 #[.val (.long p0), .second, .val (.long p1), .second, .val (.int p2), .val (.int p3), .val (.int vs), .val (.int vw), .val (.long vh), .second, .val (.int vn), .val (.int vcd), .val (.long v3), .second, .val (.long vlow), .second, .val (.int vk), .val (.int vsh), .val (.long v4), .second, .val (.long vfm), .second, .val (.int vmode), .val (.long vwd1), .second, .val (.long vr), .second, .val (.int v12), .val (.long vbit), .second] [])) _
          refine g_iconst X11 hx (0 : Int32) (hb hby at_274) rfl ?_
          rw [show v13 = ((0 : Int32)) from by rw [hv13, if_neg c250]] at J
          exact J
        · skip
          show Goes p.tables e below (T11.setTop (mkF m 253 #[.val (.long p0), .second, .val (.long p1), .second, .val (.int p2), .val (.int p3), .val (.int vs), .val (.int vw), .val (.long vh), .second, .val (.int vn), .val (.int vcd), .val (.long v3), .second, .val (.long vlow), .second, .val (.int vk), .val (.int vsh), .val (.long v4), .second, .val (.long vfm), .second, .val (.int vmode), .val (.long vwd1), .second, .val (.long vr), .second, .val (.int v12), .val (.long vbit), .second] [])) _
          refine g_lload X11 hx (hb hby at_253) rfl ?_
          show Goes p.tables e below (T11.setTop (mkF m 255 #[.val (.long p0), .second, .val (.long p1), .second, .val (.int p2), .val (.int p3), .val (.int vs), .val (.int vw), .val (.long vh), .second, .val (.int vn), .val (.int vcd), .val (.long v3), .second, .val (.long vlow), .second, .val (.int vk), .val (.int vsh), .val (.long v4), .second, .val (.long vfm), .second, .val (.int vmode), .val (.long vwd1), .second, .val (.long vr), .second, .val (.int v12), .val (.long vbit), .second] [(.long vbit)])) _
          refine g_lconst X11 hx (1 : Int64) (hb hby at_255) rfl ?_
          show Goes p.tables e below (T11.setTop (mkF m 256 #[.val (.long p0), .second, .val (.long p1), .second, .val (.int p2), .val (.int p3), .val (.int vs), .val (.int vw), .val (.long vh), .second, .val (.int vn), .val (.int vcd), .val (.long v3), .second, .val (.long vlow), .second, .val (.int vk), .val (.int vsh), .val (.long v4), .second, .val (.long vfm), .second, .val (.int vmode), .val (.long vwd1), .second, .val (.long vr), .second, .val (.int v12), .val (.long vbit), .second] [(.long (1 : Int64)), (.long vbit)])) _
          refine g_lcmp X11 hx (hb hby at_256) ?_
          show Goes p.tables e below (T11.setTop (mkF m 257 #[.val (.long p0), .second, .val (.long p1), .second, .val (.int p2), .val (.int p3), .val (.int vs), .val (.int vw), .val (.long vh), .second, .val (.int vn), .val (.int vcd), .val (.long v3), .second, .val (.long vlow), .second, .val (.int vk), .val (.int vsh), .val (.long v4), .second, .val (.long vfm), .second, .val (.int vmode), .val (.long vwd1), .second, .val (.long vr), .second, .val (.int v12), .val (.long vbit), .second] [(.int (XT.cmpL vbit (1 : Int64)))])) _
          refine g_lif_ne X11 hx (hb hby at_257) (by decide) (pc' := 264) (by decide) (fun c257 => ?_) (fun c257 => ?_)
          · skip
            show Goes p.tables e below (T11.setTop (mkF m 264 #[.val (.long p0), .second, .val (.long p1), .second, .val (.int p2), .val (.int p3), .val (.int vs), .val (.int vw), .val (.long vh), .second, .val (.int vn), .val (.int vcd), .val (.long v3), .second, .val (.long vlow), .second, .val (.int vk), .val (.int vsh), .val (.long v4), .second, .val (.long vfm), .second, .val (.int vmode), .val (.long vwd1), .second, .val (.long vr), .second, .val (.int v12), .val (.long vbit), .second] [])) _
            refine g_iconst X11 hx (0 : Int32) (hb hby at_264) rfl ?_
            show Goes p.tables e below (T11.setTop (mkF m 265 #[.val (.long p0), .second, .val (.long p1), .second, .val (.int p2), .val (.int p3), .val (.int vs), .val (.int vw), .val (.long vh), .second, .val (.int vn), .val (.int vcd), .val (.long v3), .second, .val (.long vlow), .second, .val (.int vk), .val (.int vsh), .val (.long v4), .second, .val (.long vfm), .second, .val (.int vmode), .val (.long vwd1), .second, .val (.long vr), .second, .val (.int v12), .val (.long vbit), .second] [(.int (0 : Int32))])) _
            refine g_iload X11 hx (hb hby at_265) rfl ?_
            show Goes p.tables e below (T11.setTop (mkF m 267 #[.val (.long p0), .second, .val (.long p1), .second, .val (.int p2), .val (.int p3), .val (.int vs), .val (.int vw), .val (.long vh), .second, .val (.int vn), .val (.int vcd), .val (.long v3), .second, .val (.long vlow), .second, .val (.int vk), .val (.int vsh), .val (.long v4), .second, .val (.long vfm), .second, .val (.int vmode), .val (.long vwd1), .second, .val (.long vr), .second, .val (.int v12), .val (.long vbit), .second] [(.int v12), (.int (0 : Int32))])) _
            refine g_icmp_ne X11 hx (hb hby at_267) (by decide) (pc' := 274) (by decide) (fun c267 => ?_) (fun c267 => ?_)
            · skip
              show Goes p.tables e below (T11.setTop (mkF m 274 #[.val (.long p0), .second, .val (.long p1), .second, .val (.int p2), .val (.int p3), .val (.int vs), .val (.int vw), .val (.long vh), .second, .val (.int vn), .val (.int vcd), .val (.long v3), .second, .val (.long vlow), .second, .val (.int vk), .val (.int vsh), .val (.long v4), .second, .val (.long vfm), .second, .val (.int vmode), .val (.long vwd1), .second, .val (.long vr), .second, .val (.int v12), .val (.long vbit), .second] [])) _
              refine g_iconst X11 hx (0 : Int32) (hb hby at_274) rfl ?_
              rw [show v13 = ((0 : Int32)) from by rw [hv13, if_pos c250, if_neg c257, if_neg c267]] at J
              exact J
            · skip
              show Goes p.tables e below (T11.setTop (mkF m 270 #[.val (.long p0), .second, .val (.long p1), .second, .val (.int p2), .val (.int p3), .val (.int vs), .val (.int vw), .val (.long vh), .second, .val (.int vn), .val (.int vcd), .val (.long v3), .second, .val (.long vlow), .second, .val (.int vk), .val (.int vsh), .val (.long v4), .second, .val (.long vfm), .second, .val (.int vmode), .val (.long vwd1), .second, .val (.long vr), .second, .val (.int v12), .val (.long vbit), .second] [])) _
              refine g_iconst X11 hx (1 : Int32) (hb hby at_270) rfl ?_
              show Goes p.tables e below (T11.setTop (mkF m 271 #[.val (.long p0), .second, .val (.long p1), .second, .val (.int p2), .val (.int p3), .val (.int vs), .val (.int vw), .val (.long vh), .second, .val (.int vn), .val (.int vcd), .val (.long v3), .second, .val (.long vlow), .second, .val (.int vk), .val (.int vsh), .val (.long v4), .second, .val (.long vfm), .second, .val (.int vmode), .val (.long vwd1), .second, .val (.long vr), .second, .val (.int v12), .val (.long vbit), .second] [(.int (1 : Int32))])) _
              refine g_goto X11 hx (hb hby at_271) (by decide) (pc' := 275) (by decide) ?_
              rw [show v13 = ((1 : Int32)) from by rw [hv13, if_pos c250, if_neg c257, if_pos c267]] at J
              exact J
          · skip
            show Goes p.tables e below (T11.setTop (mkF m 260 #[.val (.long p0), .second, .val (.long p1), .second, .val (.int p2), .val (.int p3), .val (.int vs), .val (.int vw), .val (.long vh), .second, .val (.int vn), .val (.int vcd), .val (.long v3), .second, .val (.long vlow), .second, .val (.int vk), .val (.int vsh), .val (.long v4), .second, .val (.long vfm), .second, .val (.int vmode), .val (.long vwd1), .second, .val (.long vr), .second, .val (.int v12), .val (.long vbit), .second] [])) _
            refine g_iconst X11 hx (1 : Int32) (hb hby at_260) rfl ?_
            show Goes p.tables e below (T11.setTop (mkF m 261 #[.val (.long p0), .second, .val (.long p1), .second, .val (.int p2), .val (.int p3), .val (.int vs), .val (.int vw), .val (.long vh), .second, .val (.int vn), .val (.int vcd), .val (.long v3), .second, .val (.long vlow), .second, .val (.int vk), .val (.int vsh), .val (.long v4), .second, .val (.long vfm), .second, .val (.int vmode), .val (.long vwd1), .second, .val (.long vr), .second, .val (.int v12), .val (.long vbit), .second] [(.int (1 : Int32))])) _
            refine g_goto X11 hx (hb hby at_261) (by decide) (pc' := 265) (by decide) ?_
            show Goes p.tables e below (T11.setTop (mkF m 265 #[.val (.long p0), .second, .val (.long p1), .second, .val (.int p2), .val (.int p3), .val (.int vs), .val (.int vw), .val (.long vh), .second, .val (.int vn), .val (.int vcd), .val (.long v3), .second, .val (.long vlow), .second, .val (.int vk), .val (.int vsh), .val (.long v4), .second, .val (.long vfm), .second, .val (.int vmode), .val (.long vwd1), .second, .val (.long vr), .second, .val (.int v12), .val (.long vbit), .second] [(.int (1 : Int32))])) _
            refine g_iload X11 hx (hb hby at_265) rfl ?_
            show Goes p.tables e below (T11.setTop (mkF m 267 #[.val (.long p0), .second, .val (.long p1), .second, .val (.int p2), .val (.int p3), .val (.int vs), .val (.int vw), .val (.long vh), .second, .val (.int vn), .val (.int vcd), .val (.long v3), .second, .val (.long vlow), .second, .val (.int vk), .val (.int vsh), .val (.long v4), .second, .val (.long vfm), .second, .val (.int vmode), .val (.long vwd1), .second, .val (.long vr), .second, .val (.int v12), .val (.long vbit), .second] [(.int v12), (.int (1 : Int32))])) _
            refine g_icmp_ne X11 hx (hb hby at_267) (by decide) (pc' := 274) (by decide) (fun c267 => ?_) (fun c267 => ?_)
            · skip
              show Goes p.tables e below (T11.setTop (mkF m 274 #[.val (.long p0), .second, .val (.long p1), .second, .val (.int p2), .val (.int p3), .val (.int vs), .val (.int vw), .val (.long vh), .second, .val (.int vn), .val (.int vcd), .val (.long v3), .second, .val (.long vlow), .second, .val (.int vk), .val (.int vsh), .val (.long v4), .second, .val (.long vfm), .second, .val (.int vmode), .val (.long vwd1), .second, .val (.long vr), .second, .val (.int v12), .val (.long vbit), .second] [])) _
              refine g_iconst X11 hx (0 : Int32) (hb hby at_274) rfl ?_
              rw [show v13 = ((0 : Int32)) from by rw [hv13, if_pos c250, if_pos c257, if_neg c267]] at J
              exact J
            · skip
              show Goes p.tables e below (T11.setTop (mkF m 270 #[.val (.long p0), .second, .val (.long p1), .second, .val (.int p2), .val (.int p3), .val (.int vs), .val (.int vw), .val (.long vh), .second, .val (.int vn), .val (.int vcd), .val (.long v3), .second, .val (.long vlow), .second, .val (.int vk), .val (.int vsh), .val (.long v4), .second, .val (.long vfm), .second, .val (.int vmode), .val (.long vwd1), .second, .val (.long vr), .second, .val (.int v12), .val (.long vbit), .second] [])) _
              refine g_iconst X11 hx (1 : Int32) (hb hby at_270) rfl ?_
              show Goes p.tables e below (T11.setTop (mkF m 271 #[.val (.long p0), .second, .val (.long p1), .second, .val (.int p2), .val (.int p3), .val (.int vs), .val (.int vw), .val (.long vh), .second, .val (.int vn), .val (.int vcd), .val (.long v3), .second, .val (.long vlow), .second, .val (.int vk), .val (.int vsh), .val (.long v4), .second, .val (.long vfm), .second, .val (.int vmode), .val (.long vwd1), .second, .val (.long vr), .second, .val (.int v12), .val (.long vbit), .second] [(.int (1 : Int32))])) _
              refine g_goto X11 hx (hb hby at_271) (by decide) (pc' := 275) (by decide) ?_
              rw [show v13 = ((1 : Int32)) from by rw [hv13, if_pos c250, if_pos c257, if_pos c267]] at J
              exact J
      show Goes p.tables e below (T11.setTop (mkF m 275 #[.val (.long p0), .second, .val (.long p1), .second, .val (.int p2), .val (.int p3), .val (.int vs), .val (.int vw), .val (.long vh), .second, .val (.int vn), .val (.int vcd), .val (.long v3), .second, .val (.long vlow), .second, .val (.int vk), .val (.int vsh), .val (.long v4), .second, .val (.long vfm), .second, .val (.int vmode), .val (.long vwd1), .second, .val (.long vr), .second, .val (.int v12), .val (.long vbit), .second] [(.int v13)])) _
      have hlow : vlow = own_low vs := by rw [hvlow, hvh, hv3, hvcd, hvn, hvw]; rfl
      have hfm : vfm = own_fm vs vk := by rw [hvfm, hv4, hvsh, hvw]; rfl
      have hgood : own_good vs vk = true := by rw [hvk, hvn, hvw, hvs]; exact own_goodOf p2 p3
      have hfin : v13 = 1 := own_final vs vk hgood vwd1 v13 v12 vr vbit (by rw [hvr, hlow, hvh]) (by rw [hv12, hfm]) (by rw [hvbit, hvsh, hvw]) (by rw [hv13, hvh])
      exact g_retZ X11 hx (hz := (Or.inr hfin)) hret hk (hb hby at_275) (by decide) (by decide) ⟨by rw [hfin], Fr.nil _⟩
  · skip
    show Goes p.tables e below (T2.setTop (mkF m 125 #[.val (.long p0), .second, .val (.long p1), .second, .val (.int p2), .val (.int p3), .val (.int vs), .val (.int vw), .val (.long vh), .second, .val (.int vn), .val (.int vcd), .val (.long v3), .second, .val (.long vlow), .second, .val (.int vk), .val (.int vsh), .val (.long v4), .second, .val (.long vfm), .second, .val (.int vmode), .unset, .unset, .unset, .unset, .unset, .unset, .unset] [])) _
    refine g_lloadN X2 hx (hb hby at_125) rfl ?_
    show Goes p.tables e below (T2.setTop (mkF m 126 #[.val (.long p0), .second, .val (.long p1), .second, .val (.int p2), .val (.int p3), .val (.int vs), .val (.int vw), .val (.long vh), .second, .val (.int vn), .val (.int vcd), .val (.long v3), .second, .val (.long vlow), .second, .val (.int vk), .val (.int vsh), .val (.long v4), .second, .val (.long vfm), .second, .val (.int vmode), .unset, .unset, .unset, .unset, .unset, .unset, .unset] [(.long p0)])) _
    refine g_lstore X2 hx (hb hby at_126) (l' := #[.val (.long p0), .second, .val (.long p1), .second, .val (.int p2), .val (.int p3), .val (.int vs), .val (.int vw), .val (.long vh), .second, .val (.int vn), .val (.int vcd), .val (.long v3), .second, .val (.long vlow), .second, .val (.int vk), .val (.int vsh), .val (.long v4), .second, .val (.long vfm), .second, .val (.int vmode), .val (.long p0), .second, .unset, .unset, .unset, .unset, .unset]) rfl ?_
    show Goes p.tables e below (T2.setTop (mkF m 128 #[.val (.long p0), .second, .val (.long p1), .second, .val (.int p2), .val (.int p3), .val (.int vs), .val (.int vw), .val (.long vh), .second, .val (.int vn), .val (.int vcd), .val (.long v3), .second, .val (.long vlow), .second, .val (.int vk), .val (.int vsh), .val (.long v4), .second, .val (.long vfm), .second, .val (.int vmode), .val (.long p0), .second, .unset, .unset, .unset, .unset, .unset] [])) _
    refine g_goto X2 hx (hb hby at_128) (by decide) (pc' := 197) (by decide) ?_
    show Goes p.tables e below (T2.setTop (mkF m 197 #[.val (.long p0), .second, .val (.long p1), .second, .val (.int p2), .val (.int p3), .val (.int vs), .val (.int vw), .val (.long vh), .second, .val (.int vn), .val (.int vcd), .val (.long v3), .second, .val (.long vlow), .second, .val (.int vk), .val (.int vsh), .val (.long v4), .second, .val (.long vfm), .second, .val (.int vmode), .val (.long p0), .second, .unset, .unset, .unset, .unset, .unset] [])) _
    refine g_lload X2 hx (hb hby at_197) rfl ?_
    show Goes p.tables e below (T2.setTop (mkF m 199 #[.val (.long p0), .second, .val (.long p1), .second, .val (.int p2), .val (.int p3), .val (.int vs), .val (.int vw), .val (.long vh), .second, .val (.int vn), .val (.int vcd), .val (.long v3), .second, .val (.long vlow), .second, .val (.int vk), .val (.int vsh), .val (.long v4), .second, .val (.long vfm), .second, .val (.int vmode), .val (.long p0), .second, .unset, .unset, .unset, .unset, .unset] [(.long p0)])) _
    refine g_lload X2 hx (hb hby at_199) rfl ?_
    show Goes p.tables e below (T2.setTop (mkF m 201 #[.val (.long p0), .second, .val (.long p1), .second, .val (.int p2), .val (.int p3), .val (.int vs), .val (.int vw), .val (.long vh), .second, .val (.int vn), .val (.int vcd), .val (.long v3), .second, .val (.long vlow), .second, .val (.int vk), .val (.int vsh), .val (.long v4), .second, .val (.long vfm), .second, .val (.int vmode), .val (.long p0), .second, .unset, .unset, .unset, .unset, .unset] [(.long vlow), (.long p0)])) _
    refine g_lload X2 hx (hb hby at_201) rfl ?_
    show Goes p.tables e below (T2.setTop (mkF m 203 #[.val (.long p0), .second, .val (.long p1), .second, .val (.int p2), .val (.int p3), .val (.int vs), .val (.int vw), .val (.long vh), .second, .val (.int vn), .val (.int vcd), .val (.long v3), .second, .val (.long vlow), .second, .val (.int vk), .val (.int vsh), .val (.long v4), .second, .val (.long vfm), .second, .val (.int vmode), .val (.long p0), .second, .unset, .unset, .unset, .unset, .unset] [(.long vh), (.long vlow), (.long p0)])) _
    refine g_callS X2 hx hZ hown (by rw [hml]; rfl) e2 (hw _ (List.mem_of_getElem? (i := 9) rfl)) (hw _ (List.mem_of_getElem? (i := 10) rfl)) (hw _ (List.mem_of_getElem? (i := 11) rfl)) (hw _ (List.mem_of_getElem? (i := 12) rfl)) (rmZ l Z a0 hw p0 vlow vh h0) [(.long p0), (.long vlow), (.long vh)] rfl [] rfl (lenOf pd_3 rfl) (hb hby at_203) (by decide) 0 (by decide) (by decide) (by first | decide | exact Nat.le_refl _) (by decide) (by decide) (fun v T14 L14 X14 hQ14 => ?_)
    obtain ⟨rfl, e14, rfl⟩ := hQ14
    show Goes p.tables e below (T14.setTop (mkF m 206 #[.val (.long p0), .second, .val (.long p1), .second, .val (.int p2), .val (.int p3), .val (.int vs), .val (.int vw), .val (.long vh), .second, .val (.int vn), .val (.int vcd), .val (.long v3), .second, .val (.long vlow), .second, .val (.int vk), .val (.int vsh), .val (.long v4), .second, .val (.long vfm), .second, .val (.int vmode), .val (.long p0), .second, .unset, .unset, .unset, .unset, .unset] [(.long (zfV p0 vlow vh))])) _
    obtain ⟨vr, hvr⟩ : ∃ z : Int64, z = (zfV p0 vlow vh) := ⟨_, rfl⟩
    refine g_nameL hvr ?_
    show Goes p.tables e below (T14.setTop (mkF m 206 #[.val (.long p0), .second, .val (.long p1), .second, .val (.int p2), .val (.int p3), .val (.int vs), .val (.int vw), .val (.long vh), .second, .val (.int vn), .val (.int vcd), .val (.long v3), .second, .val (.long vlow), .second, .val (.int vk), .val (.int vsh), .val (.long v4), .second, .val (.long vfm), .second, .val (.int vmode), .val (.long p0), .second, .unset, .unset, .unset, .unset, .unset] [(.long vr)])) _
    refine g_lstore X14 hx (hb hby at_206) (l' := #[.val (.long p0), .second, .val (.long p1), .second, .val (.int p2), .val (.int p3), .val (.int vs), .val (.int vw), .val (.long vh), .second, .val (.int vn), .val (.int vcd), .val (.long v3), .second, .val (.long vlow), .second, .val (.int vk), .val (.int vsh), .val (.long v4), .second, .val (.long vfm), .second, .val (.int vmode), .val (.long p0), .second, .val (.long vr), .second, .unset, .unset, .unset]) rfl ?_
    show Goes p.tables e below (T14.setTop (mkF m 208 #[.val (.long p0), .second, .val (.long p1), .second, .val (.int p2), .val (.int p3), .val (.int vs), .val (.int vw), .val (.long vh), .second, .val (.int vn), .val (.int vcd), .val (.long v3), .second, .val (.long vlow), .second, .val (.int vk), .val (.int vsh), .val (.long v4), .second, .val (.long vfm), .second, .val (.int vmode), .val (.long p0), .second, .val (.long vr), .second, .unset, .unset, .unset] [])) _
    refine g_lload X14 hx (hb hby at_208) rfl ?_
    show Goes p.tables e below (T14.setTop (mkF m 210 #[.val (.long p0), .second, .val (.long p1), .second, .val (.int p2), .val (.int p3), .val (.int vs), .val (.int vw), .val (.long vh), .second, .val (.int vn), .val (.int vcd), .val (.long v3), .second, .val (.long vlow), .second, .val (.int vk), .val (.int vsh), .val (.long v4), .second, .val (.long vfm), .second, .val (.int vmode), .val (.long p0), .second, .val (.long vr), .second, .unset, .unset, .unset] [(.long p0)])) _
    refine g_lload X14 hx (hb hby at_210) rfl ?_
    show Goes p.tables e below (T14.setTop (mkF m 212 #[.val (.long p0), .second, .val (.long p1), .second, .val (.int p2), .val (.int p3), .val (.int vs), .val (.int vw), .val (.long vh), .second, .val (.int vn), .val (.int vcd), .val (.long v3), .second, .val (.long vlow), .second, .val (.int vk), .val (.int vsh), .val (.long v4), .second, .val (.long vfm), .second, .val (.int vmode), .val (.long p0), .second, .val (.long vr), .second, .unset, .unset, .unset] [(.long vfm), (.long p0)])) _
    refine g_land X14 hx (hb hby at_212) ?_
    show Goes p.tables e below (T14.setTop (mkF m 213 #[.val (.long p0), .second, .val (.long p1), .second, .val (.int p2), .val (.int p3), .val (.int vs), .val (.int vw), .val (.long vh), .second, .val (.int vn), .val (.int vcd), .val (.long v3), .second, .val (.long vlow), .second, .val (.int vk), .val (.int vsh), .val (.long v4), .second, .val (.long vfm), .second, .val (.int vmode), .val (.long p0), .second, .val (.long vr), .second, .unset, .unset, .unset] [(.long (p0 &&& vfm))])) _
    refine g_lconst X14 hx (0 : Int64) (hb hby at_213) rfl ?_
    show Goes p.tables e below (T14.setTop (mkF m 214 #[.val (.long p0), .second, .val (.long p1), .second, .val (.int p2), .val (.int p3), .val (.int vs), .val (.int vw), .val (.long vh), .second, .val (.int vn), .val (.int vcd), .val (.long v3), .second, .val (.long vlow), .second, .val (.int vk), .val (.int vsh), .val (.long v4), .second, .val (.long vfm), .second, .val (.int vmode), .val (.long p0), .second, .val (.long vr), .second, .unset, .unset, .unset] [(.long (0 : Int64)), (.long (p0 &&& vfm))])) _
    refine g_lcmp X14 hx (hb hby at_214) ?_
    show Goes p.tables e below (T14.setTop (mkF m 215 #[.val (.long p0), .second, .val (.long p1), .second, .val (.int p2), .val (.int p3), .val (.int vs), .val (.int vw), .val (.long vh), .second, .val (.int vn), .val (.int vcd), .val (.long v3), .second, .val (.long vlow), .second, .val (.int vk), .val (.int vsh), .val (.long v4), .second, .val (.long vfm), .second, .val (.int vmode), .val (.long p0), .second, .val (.long vr), .second, .unset, .unset, .unset] [(.int (XT.cmpL (p0 &&& vfm) (0 : Int64)))])) _
    obtain ⟨v15, hv15⟩ : ∃ z : Int32, z = (if (p0 &&& vfm) = (0 : Int64) then (1 : Int32) else (0 : Int32)) := ⟨_, rfl⟩
    refine Goes.join (S' := T14.setTop (mkF m 223 #[.val (.long p0), .second, .val (.long p1), .second, .val (.int p2), .val (.int p3), .val (.int vs), .val (.int vw), .val (.long vh), .second, .val (.int vn), .val (.int vcd), .val (.long v3), .second, .val (.long vlow), .second, .val (.int vk), .val (.int vsh), .val (.long v4), .second, .val (.long vfm), .second, .val (.int vmode), .val (.long p0), .second, .val (.long vr), .second, .unset, .unset, .unset] [(.int v15)])) (fun J => ?_) ?_
    · skip
      refine g_lif_ne X14 hx (hb hby at_215) (by decide) (pc' := 222) (by decide) (fun c215 => ?_) (fun c215 => ?_)
      · skip
        show Goes p.tables e below (T14.setTop (mkF m 222 #[.val (.long p0), .second, .val (.long p1), .second, .val (.int p2), .val (.int p3), .val (.int vs), .val (.int vw), .val (.long vh), .second, .val (.int vn), .val (.int vcd), .val (.long v3), .second, .val (.long vlow), .second, .val (.int vk), .val (.int vsh), .val (.long v4), .second, .val (.long vfm), .second, .val (.int vmode), .val (.long p0), .second, .val (.long vr), .second, .unset, .unset, .unset] [])) _
        refine g_iconst X14 hx (0 : Int32) (hb hby at_222) rfl ?_
        rw [show v15 = ((0 : Int32)) from by rw [hv15, if_neg c215]] at J
        exact J
      · skip
        show Goes p.tables e below (T14.setTop (mkF m 218 #[.val (.long p0), .second, .val (.long p1), .second, .val (.int p2), .val (.int p3), .val (.int vs), .val (.int vw), .val (.long vh), .second, .val (.int vn), .val (.int vcd), .val (.long v3), .second, .val (.long vlow), .second, .val (.int vk), .val (.int vsh), .val (.long v4), .second, .val (.long vfm), .second, .val (.int vmode), .val (.long p0), .second, .val (.long vr), .second, .unset, .unset, .unset] [])) _
        refine g_iconst X14 hx (1 : Int32) (hb hby at_218) rfl ?_
        show Goes p.tables e below (T14.setTop (mkF m 219 #[.val (.long p0), .second, .val (.long p1), .second, .val (.int p2), .val (.int p3), .val (.int vs), .val (.int vw), .val (.long vh), .second, .val (.int vn), .val (.int vcd), .val (.long v3), .second, .val (.long vlow), .second, .val (.int vk), .val (.int vsh), .val (.long v4), .second, .val (.long vfm), .second, .val (.int vmode), .val (.long p0), .second, .val (.long vr), .second, .unset, .unset, .unset] [(.int (1 : Int32))])) _
        refine g_goto X14 hx (hb hby at_219) (by decide) (pc' := 223) (by decide) ?_
        rw [show v15 = ((1 : Int32)) from by rw [hv15, if_pos c215]] at J
        exact J
    show Goes p.tables e below (T14.setTop (mkF m 223 #[.val (.long p0), .second, .val (.long p1), .second, .val (.int p2), .val (.int p3), .val (.int vs), .val (.int vw), .val (.long vh), .second, .val (.int vn), .val (.int vcd), .val (.long v3), .second, .val (.long vlow), .second, .val (.int vk), .val (.int vsh), .val (.long v4), .second, .val (.long vfm), .second, .val (.int vmode), .val (.long p0), .second, .val (.long vr), .second, .unset, .unset, .unset] [(.int v15)])) _
    refine g_istore X14 hx (hb hby at_223) (l' := #[.val (.long p0), .second, .val (.long p1), .second, .val (.int p2), .val (.int p3), .val (.int vs), .val (.int vw), .val (.long vh), .second, .val (.int vn), .val (.int vcd), .val (.long v3), .second, .val (.long vlow), .second, .val (.int vk), .val (.int vsh), .val (.long v4), .second, .val (.long vfm), .second, .val (.int vmode), .val (.long p0), .second, .val (.long vr), .second, .val (.int v15), .unset, .unset]) rfl ?_
    show Goes p.tables e below (T14.setTop (mkF m 225 #[.val (.long p0), .second, .val (.long p1), .second, .val (.int p2), .val (.int p3), .val (.int vs), .val (.int vw), .val (.long vh), .second, .val (.int vn), .val (.int vcd), .val (.long v3), .second, .val (.long vlow), .second, .val (.int vk), .val (.int vsh), .val (.long v4), .second, .val (.long vfm), .second, .val (.int vmode), .val (.long p0), .second, .val (.long vr), .second, .val (.int v15), .unset, .unset] [])) _
    refine g_lload X14 hx (hb hby at_225) rfl ?_
    show Goes p.tables e below (T14.setTop (mkF m 227 #[.val (.long p0), .second, .val (.long p1), .second, .val (.int p2), .val (.int p3), .val (.int vs), .val (.int vw), .val (.long vh), .second, .val (.int vn), .val (.int vcd), .val (.long v3), .second, .val (.long vlow), .second, .val (.int vk), .val (.int vsh), .val (.long v4), .second, .val (.long vfm), .second, .val (.int vmode), .val (.long p0), .second, .val (.long vr), .second, .val (.int v15), .unset, .unset] [(.long vr)])) _
    refine g_iload X14 hx (hb hby at_227) rfl ?_
    show Goes p.tables e below (T14.setTop (mkF m 229 #[.val (.long p0), .second, .val (.long p1), .second, .val (.int p2), .val (.int p3), .val (.int vs), .val (.int vw), .val (.long vh), .second, .val (.int vn), .val (.int vcd), .val (.long v3), .second, .val (.long vlow), .second, .val (.int vk), .val (.int vsh), .val (.long v4), .second, .val (.long vfm), .second, .val (.int vmode), .val (.long p0), .second, .val (.long vr), .second, .val (.int v15), .unset, .unset] [(.int vsh), (.long vr)])) _
    refine g_iload X14 hx (hb hby at_229) rfl ?_
    show Goes p.tables e below (T14.setTop (mkF m 231 #[.val (.long p0), .second, .val (.long p1), .second, .val (.int p2), .val (.int p3), .val (.int vs), .val (.int vw), .val (.long vh), .second, .val (.int vn), .val (.int vcd), .val (.long v3), .second, .val (.long vlow), .second, .val (.int vk), .val (.int vsh), .val (.long v4), .second, .val (.long vfm), .second, .val (.int vmode), .val (.long p0), .second, .val (.long vr), .second, .val (.int v15), .unset, .unset] [(.int vw), (.int vsh), (.long vr)])) _
    refine g_iadd X14 hx (hb hby at_231) ?_
    show Goes p.tables e below (T14.setTop (mkF m 232 #[.val (.long p0), .second, .val (.long p1), .second, .val (.int p2), .val (.int p3), .val (.int vs), .val (.int vw), .val (.long vh), .second, .val (.int vn), .val (.int vcd), .val (.long v3), .second, .val (.long vlow), .second, .val (.int vk), .val (.int vsh), .val (.long v4), .second, .val (.long vfm), .second, .val (.int vmode), .val (.long p0), .second, .val (.long vr), .second, .val (.int v15), .unset, .unset] [(.int (vsh + vw)), (.long vr)])) _
    refine g_iconst X14 hx (1 : Int32) (hb hby at_232) rfl ?_
    show Goes p.tables e below (T14.setTop (mkF m 233 #[.val (.long p0), .second, .val (.long p1), .second, .val (.int p2), .val (.int p3), .val (.int vs), .val (.int vw), .val (.long vh), .second, .val (.int vn), .val (.int vcd), .val (.long v3), .second, .val (.long vlow), .second, .val (.int vk), .val (.int vsh), .val (.long v4), .second, .val (.long vfm), .second, .val (.int vmode), .val (.long p0), .second, .val (.long vr), .second, .val (.int v15), .unset, .unset] [(.int (1 : Int32)), (.int (vsh + vw)), (.long vr)])) _
    refine g_isub X14 hx (hb hby at_233) ?_
    show Goes p.tables e below (T14.setTop (mkF m 234 #[.val (.long p0), .second, .val (.long p1), .second, .val (.int p2), .val (.int p3), .val (.int vs), .val (.int vw), .val (.long vh), .second, .val (.int vn), .val (.int vcd), .val (.long v3), .second, .val (.long vlow), .second, .val (.int vk), .val (.int vsh), .val (.long v4), .second, .val (.long vfm), .second, .val (.int vmode), .val (.long p0), .second, .val (.long vr), .second, .val (.int v15), .unset, .unset] [(.int ((vsh + vw) - (1 : Int32))), (.long vr)])) _
    refine g_lushr X14 hx (hb hby at_234) ?_
    show Goes p.tables e below (T14.setTop (mkF m 235 #[.val (.long p0), .second, .val (.long p1), .second, .val (.int p2), .val (.int p3), .val (.int vs), .val (.int vw), .val (.long vh), .second, .val (.int vn), .val (.int vcd), .val (.long v3), .second, .val (.long vlow), .second, .val (.int vk), .val (.int vsh), .val (.long v4), .second, .val (.long vfm), .second, .val (.int vmode), .val (.long p0), .second, .val (.long vr), .second, .val (.int v15), .unset, .unset] [(.long (XT.ushrL vr ((vsh + vw) - (1 : Int32))))])) _
    refine g_lconst X14 hx (1 : Int64) (hb hby at_235) rfl ?_
    show Goes p.tables e below (T14.setTop (mkF m 236 #[.val (.long p0), .second, .val (.long p1), .second, .val (.int p2), .val (.int p3), .val (.int vs), .val (.int vw), .val (.long vh), .second, .val (.int vn), .val (.int vcd), .val (.long v3), .second, .val (.long vlow), .second, .val (.int vk), .val (.int vsh), .val (.long v4), .second, .val (.long vfm), .second, .val (.int vmode), .val (.long p0), .second, .val (.long vr), .second, .val (.int v15), .unset, .unset] [(.long (1 : Int64)), (.long (XT.ushrL vr ((vsh + vw) - (1 : Int32))))])) _
    refine g_land X14 hx (hb hby at_236) ?_
    show Goes p.tables e below (T14.setTop (mkF m 237 #[.val (.long p0), .second, .val (.long p1), .second, .val (.int p2), .val (.int p3), .val (.int vs), .val (.int vw), .val (.long vh), .second, .val (.int vn), .val (.int vcd), .val (.long v3), .second, .val (.long vlow), .second, .val (.int vk), .val (.int vsh), .val (.long v4), .second, .val (.long vfm), .second, .val (.int vmode), .val (.long p0), .second, .val (.long vr), .second, .val (.int v15), .unset, .unset] [(.long ((XT.ushrL vr ((vsh + vw) - (1 : Int32))) &&& (1 : Int64)))])) _
    obtain ⟨vbit, hvbit⟩ : ∃ z : Int64, z = ((XT.ushrL vr ((vsh + vw) - (1 : Int32))) &&& (1 : Int64)) := ⟨_, rfl⟩
    refine g_nameL hvbit ?_
    show Goes p.tables e below (T14.setTop (mkF m 237 #[.val (.long p0), .second, .val (.long p1), .second, .val (.int p2), .val (.int p3), .val (.int vs), .val (.int vw), .val (.long vh), .second, .val (.int vn), .val (.int vcd), .val (.long v3), .second, .val (.long vlow), .second, .val (.int vk), .val (.int vsh), .val (.long v4), .second, .val (.long vfm), .second, .val (.int vmode), .val (.long p0), .second, .val (.long vr), .second, .val (.int v15), .unset, .unset] [(.long vbit)])) _
    refine g_lstore X14 hx (hb hby at_237) (l' := #[.val (.long p0), .second, .val (.long p1), .second, .val (.int p2), .val (.int p3), .val (.int vs), .val (.int vw), .val (.long vh), .second, .val (.int vn), .val (.int vcd), .val (.long v3), .second, .val (.long vlow), .second, .val (.int vk), .val (.int vsh), .val (.long v4), .second, .val (.long vfm), .second, .val (.int vmode), .val (.long p0), .second, .val (.long vr), .second, .val (.int v15), .val (.long vbit), .second]) rfl ?_
    show Goes p.tables e below (T14.setTop (mkF m 239 #[.val (.long p0), .second, .val (.long p1), .second, .val (.int p2), .val (.int p3), .val (.int vs), .val (.int vw), .val (.long vh), .second, .val (.int vn), .val (.int vcd), .val (.long v3), .second, .val (.long vlow), .second, .val (.int vk), .val (.int vsh), .val (.long v4), .second, .val (.long vfm), .second, .val (.int vmode), .val (.long p0), .second, .val (.long vr), .second, .val (.int v15), .val (.long vbit), .second] [])) _
    refine g_lload X14 hx (hb hby at_239) rfl ?_
    show Goes p.tables e below (T14.setTop (mkF m 241 #[.val (.long p0), .second, .val (.long p1), .second, .val (.int p2), .val (.int p3), .val (.int vs), .val (.int vw), .val (.long vh), .second, .val (.int vn), .val (.int vcd), .val (.long v3), .second, .val (.long vlow), .second, .val (.int vk), .val (.int vsh), .val (.long v4), .second, .val (.long vfm), .second, .val (.int vmode), .val (.long p0), .second, .val (.long vr), .second, .val (.int v15), .val (.long vbit), .second] [(.long vr)])) _
    refine g_lload X14 hx (hb hby at_241) rfl ?_
    show Goes p.tables e below (T14.setTop (mkF m 243 #[.val (.long p0), .second, .val (.long p1), .second, .val (.int p2), .val (.int p3), .val (.int vs), .val (.int vw), .val (.long vh), .second, .val (.int vn), .val (.int vcd), .val (.long v3), .second, .val (.long vlow), .second, .val (.int vk), .val (.int vsh), .val (.long v4), .second, .val (.long vfm), .second, .val (.int vmode), .val (.long p0), .second, .val (.long vr), .second, .val (.int v15), .val (.long vbit), .second] [(.long vh), (.long vr)])) _
    refine g_ldc2 X14 hx hZ hown (hw _ (List.mem_of_getElem? (i := 7) rfl)) (hb hby at_243) ?_
    show Goes p.tables e below (T14.setTop (mkF m 246 #[.val (.long p0), .second, .val (.long p1), .second, .val (.int p2), .val (.int p3), .val (.int vs), .val (.int vw), .val (.long vh), .second, .val (.int vn), .val (.int vcd), .val (.long v3), .second, .val (.long vlow), .second, .val (.int vk), .val (.int vsh), .val (.long v4), .second, .val (.long vfm), .second, .val (.int vmode), .val (.long p0), .second, .val (.long vr), .second, .val (.int v15), .val (.long vbit), .second] [(.long (-1 : Int64)), (.long vh), (.long vr)])) _
    refine g_lxor X14 hx (hb hby at_246) ?_
    show Goes p.tables e below (T14.setTop (mkF m 247 #[.val (.long p0), .second, .val (.long p1), .second, .val (.int p2), .val (.int p3), .val (.int vs), .val (.int vw), .val (.long vh), .second, .val (.int vn), .val (.int vcd), .val (.long v3), .second, .val (.long vlow), .second, .val (.int vk), .val (.int vsh), .val (.long v4), .second, .val (.long vfm), .second, .val (.int vmode), .val (.long p0), .second, .val (.long vr), .second, .val (.int v15), .val (.long vbit), .second] [(.long (vh ^^^ (-1 : Int64))), (.long vr)])) _
    refine g_land X14 hx (hb hby at_247) ?_
    show Goes p.tables e below (T14.setTop (mkF m 248 #[.val (.long p0), .second, .val (.long p1), .second, .val (.int p2), .val (.int p3), .val (.int vs), .val (.int vw), .val (.long vh), .second, .val (.int vn), .val (.int vcd), .val (.long v3), .second, .val (.long vlow), .second, .val (.int vk), .val (.int vsh), .val (.long v4), .second, .val (.long vfm), .second, .val (.int vmode), .val (.long p0), .second, .val (.long vr), .second, .val (.int v15), .val (.long vbit), .second] [(.long (vr &&& (vh ^^^ (-1 : Int64))))])) _
    refine g_lconst X14 hx (0 : Int64) (hb hby at_248) rfl ?_
    show Goes p.tables e below (T14.setTop (mkF m 249 #[.val (.long p0), .second, .val (.long p1), .second, .val (.int p2), .val (.int p3), .val (.int vs), .val (.int vw), .val (.long vh), .second, .val (.int vn), .val (.int vcd), .val (.long v3), .second, .val (.long vlow), .second, .val (.int vk), .val (.int vsh), .val (.long v4), .second, .val (.long vfm), .second, .val (.int vmode), .val (.long p0), .second, .val (.long vr), .second, .val (.int v15), .val (.long vbit), .second] [(.long (0 : Int64)), (.long (vr &&& (vh ^^^ (-1 : Int64))))])) _
    refine g_lcmp X14 hx (hb hby at_249) ?_
    show Goes p.tables e below (T14.setTop (mkF m 250 #[.val (.long p0), .second, .val (.long p1), .second, .val (.int p2), .val (.int p3), .val (.int vs), .val (.int vw), .val (.long vh), .second, .val (.int vn), .val (.int vcd), .val (.long v3), .second, .val (.long vlow), .second, .val (.int vk), .val (.int vsh), .val (.long v4), .second, .val (.long vfm), .second, .val (.int vmode), .val (.long p0), .second, .val (.long vr), .second, .val (.int v15), .val (.long vbit), .second] [(.int (XT.cmpL (vr &&& (vh ^^^ (-1 : Int64))) (0 : Int64)))])) _
    obtain ⟨v16, hv16⟩ : ∃ z : Int32, z = (if (vr &&& (vh ^^^ (-1 : Int64))) = (0 : Int64) then (if vbit = (1 : Int64) then (if (1 : Int32) = v15 then (1 : Int32) else (0 : Int32)) else (if (0 : Int32) = v15 then (1 : Int32) else (0 : Int32))) else (0 : Int32)) := ⟨_, rfl⟩
    refine Goes.join (S' := T14.setTop (mkF m 275 #[.val (.long p0), .second, .val (.long p1), .second, .val (.int p2), .val (.int p3), .val (.int vs), .val (.int vw), .val (.long vh), .second, .val (.int vn), .val (.int vcd), .val (.long v3), .second, .val (.long vlow), .second, .val (.int vk), .val (.int vsh), .val (.long v4), .second, .val (.long vfm), .second, .val (.int vmode), .val (.long p0), .second, .val (.long vr), .second, .val (.int v15), .val (.long vbit), .second] [(.int v16)])) (fun J => ?_) ?_
    · skip
      refine g_lif_ne X14 hx (hb hby at_250) (by decide) (pc' := 274) (by decide) (fun c250 => ?_) (fun c250 => ?_)
      · skip
        show Goes p.tables e below (T14.setTop (mkF m 274 #[.val (.long p0), .second, .val (.long p1), .second, .val (.int p2), .val (.int p3), .val (.int vs), .val (.int vw), .val (.long vh), .second, .val (.int vn), .val (.int vcd), .val (.long v3), .second, .val (.long vlow), .second, .val (.int vk), .val (.int vsh), .val (.long v4), .second, .val (.long vfm), .second, .val (.int vmode), .val (.long p0), .second, .val (.long vr), .second, .val (.int v15), .val (.long vbit), .second] [])) _
        refine g_iconst X14 hx (0 : Int32) (hb hby at_274) rfl ?_
        rw [show v16 = ((0 : Int32)) from by rw [hv16, if_neg c250]] at J
        exact J
      · skip
        show Goes p.tables e below (T14.setTop (mkF m 253 #[.val (.long p0), .second, .val (.long p1), .second, .val (.int p2), .val (.int p3), .val (.int vs), .val (.int vw), .val (.long vh), .second, .val (.int vn), .val (.int vcd), .val (.long v3), .second, .val (.long vlow), .second, .val (.int vk), .val (.int vsh), .val (.long v4), .second, .val (.long vfm), .second, .val (.int vmode), .val (.long p0), .second, .val (.long vr), .second, .val (.int v15), .val (.long vbit), .second] [])) _
        refine g_lload X14 hx (hb hby at_253) rfl ?_
        show Goes p.tables e below (T14.setTop (mkF m 255 #[.val (.long p0), .second, .val (.long p1), .second, .val (.int p2), .val (.int p3), .val (.int vs), .val (.int vw), .val (.long vh), .second, .val (.int vn), .val (.int vcd), .val (.long v3), .second, .val (.long vlow), .second, .val (.int vk), .val (.int vsh), .val (.long v4), .second, .val (.long vfm), .second, .val (.int vmode), .val (.long p0), .second, .val (.long vr), .second, .val (.int v15), .val (.long vbit), .second] [(.long vbit)])) _
        refine g_lconst X14 hx (1 : Int64) (hb hby at_255) rfl ?_
        show Goes p.tables e below (T14.setTop (mkF m 256 #[.val (.long p0), .second, .val (.long p1), .second, .val (.int p2), .val (.int p3), .val (.int vs), .val (.int vw), .val (.long vh), .second, .val (.int vn), .val (.int vcd), .val (.long v3), .second, .val (.long vlow), .second, .val (.int vk), .val (.int vsh), .val (.long v4), .second, .val (.long vfm), .second, .val (.int vmode), .val (.long p0), .second, .val (.long vr), .second, .val (.int v15), .val (.long vbit), .second] [(.long (1 : Int64)), (.long vbit)])) _
        refine g_lcmp X14 hx (hb hby at_256) ?_
        show Goes p.tables e below (T14.setTop (mkF m 257 #[.val (.long p0), .second, .val (.long p1), .second, .val (.int p2), .val (.int p3), .val (.int vs), .val (.int vw), .val (.long vh), .second, .val (.int vn), .val (.int vcd), .val (.long v3), .second, .val (.long vlow), .second, .val (.int vk), .val (.int vsh), .val (.long v4), .second, .val (.long vfm), .second, .val (.int vmode), .val (.long p0), .second, .val (.long vr), .second, .val (.int v15), .val (.long vbit), .second] [(.int (XT.cmpL vbit (1 : Int64)))])) _
        refine g_lif_ne X14 hx (hb hby at_257) (by decide) (pc' := 264) (by decide) (fun c257 => ?_) (fun c257 => ?_)
        · skip
          show Goes p.tables e below (T14.setTop (mkF m 264 #[.val (.long p0), .second, .val (.long p1), .second, .val (.int p2), .val (.int p3), .val (.int vs), .val (.int vw), .val (.long vh), .second, .val (.int vn), .val (.int vcd), .val (.long v3), .second, .val (.long vlow), .second, .val (.int vk), .val (.int vsh), .val (.long v4), .second, .val (.long vfm), .second, .val (.int vmode), .val (.long p0), .second, .val (.long vr), .second, .val (.int v15), .val (.long vbit), .second] [])) _
          refine g_iconst X14 hx (0 : Int32) (hb hby at_264) rfl ?_
          show Goes p.tables e below (T14.setTop (mkF m 265 #[.val (.long p0), .second, .val (.long p1), .second, .val (.int p2), .val (.int p3), .val (.int vs), .val (.int vw), .val (.long vh), .second, .val (.int vn), .val (.int vcd), .val (.long v3), .second, .val (.long vlow), .second, .val (.int vk), .val (.int vsh), .val (.long v4), .second, .val (.long vfm), .second, .val (.int vmode), .val (.long p0), .second, .val (.long vr), .second, .val (.int v15), .val (.long vbit), .second] [(.int (0 : Int32))])) _
          refine g_iload X14 hx (hb hby at_265) rfl ?_
          show Goes p.tables e below (T14.setTop (mkF m 267 #[.val (.long p0), .second, .val (.long p1), .second, .val (.int p2), .val (.int p3), .val (.int vs), .val (.int vw), .val (.long vh), .second, .val (.int vn), .val (.int vcd), .val (.long v3), .second, .val (.long vlow), .second, .val (.int vk), .val (.int vsh), .val (.long v4), .second, .val (.long vfm), .second, .val (.int vmode), .val (.long p0), .second, .val (.long vr), .second, .val (.int v15), .val (.long vbit), .second] [(.int v15), (.int (0 : Int32))])) _
          refine g_icmp_ne X14 hx (hb hby at_267) (by decide) (pc' := 274) (by decide) (fun c267 => ?_) (fun c267 => ?_)
          · skip
            show Goes p.tables e below (T14.setTop (mkF m 274 #[.val (.long p0), .second, .val (.long p1), .second, .val (.int p2), .val (.int p3), .val (.int vs), .val (.int vw), .val (.long vh), .second, .val (.int vn), .val (.int vcd), .val (.long v3), .second, .val (.long vlow), .second, .val (.int vk), .val (.int vsh), .val (.long v4), .second, .val (.long vfm), .second, .val (.int vmode), .val (.long p0), .second, .val (.long vr), .second, .val (.int v15), .val (.long vbit), .second] [])) _
            refine g_iconst X14 hx (0 : Int32) (hb hby at_274) rfl ?_
            rw [show v16 = ((0 : Int32)) from by rw [hv16, if_pos c250, if_neg c257, if_neg c267]] at J
            exact J
          · skip
            show Goes p.tables e below (T14.setTop (mkF m 270 #[.val (.long p0), .second, .val (.long p1), .second, .val (.int p2), .val (.int p3), .val (.int vs), .val (.int vw), .val (.long vh), .second, .val (.int vn), .val (.int vcd), .val (.long v3), .second, .val (.long vlow), .second, .val (.int vk), .val (.int vsh), .val (.long v4), .second, .val (.long vfm), .second, .val (.int vmode), .val (.long p0), .second, .val (.long vr), .second, .val (.int v15), .val (.long vbit), .second] [])) _
            refine g_iconst X14 hx (1 : Int32) (hb hby at_270) rfl ?_
            show Goes p.tables e below (T14.setTop (mkF m 271 #[.val (.long p0), .second, .val (.long p1), .second, .val (.int p2), .val (.int p3), .val (.int vs), .val (.int vw), .val (.long vh), .second, .val (.int vn), .val (.int vcd), .val (.long v3), .second, .val (.long vlow), .second, .val (.int vk), .val (.int vsh), .val (.long v4), .second, .val (.long vfm), .second, .val (.int vmode), .val (.long p0), .second, .val (.long vr), .second, .val (.int v15), .val (.long vbit), .second] [(.int (1 : Int32))])) _
            refine g_goto X14 hx (hb hby at_271) (by decide) (pc' := 275) (by decide) ?_
            rw [show v16 = ((1 : Int32)) from by rw [hv16, if_pos c250, if_neg c257, if_pos c267]] at J
            exact J
        · skip
          show Goes p.tables e below (T14.setTop (mkF m 260 #[.val (.long p0), .second, .val (.long p1), .second, .val (.int p2), .val (.int p3), .val (.int vs), .val (.int vw), .val (.long vh), .second, .val (.int vn), .val (.int vcd), .val (.long v3), .second, .val (.long vlow), .second, .val (.int vk), .val (.int vsh), .val (.long v4), .second, .val (.long vfm), .second, .val (.int vmode), .val (.long p0), .second, .val (.long vr), .second, .val (.int v15), .val (.long vbit), .second] [])) _
          refine g_iconst X14 hx (1 : Int32) (hb hby at_260) rfl ?_
          show Goes p.tables e below (T14.setTop (mkF m 261 #[.val (.long p0), .second, .val (.long p1), .second, .val (.int p2), .val (.int p3), .val (.int vs), .val (.int vw), .val (.long vh), .second, .val (.int vn), .val (.int vcd), .val (.long v3), .second, .val (.long vlow), .second, .val (.int vk), .val (.int vsh), .val (.long v4), .second, .val (.long vfm), .second, .val (.int vmode), .val (.long p0), .second, .val (.long vr), .second, .val (.int v15), .val (.long vbit), .second] [(.int (1 : Int32))])) _
          refine g_goto X14 hx (hb hby at_261) (by decide) (pc' := 265) (by decide) ?_
          show Goes p.tables e below (T14.setTop (mkF m 265 #[.val (.long p0), .second, .val (.long p1), .second, .val (.int p2), .val (.int p3), .val (.int vs), .val (.int vw), .val (.long vh), .second, .val (.int vn), .val (.int vcd), .val (.long v3), .second, .val (.long vlow), .second, .val (.int vk), .val (.int vsh), .val (.long v4), .second, .val (.long vfm), .second, .val (.int vmode), .val (.long p0), .second, .val (.long vr), .second, .val (.int v15), .val (.long vbit), .second] [(.int (1 : Int32))])) _
          refine g_iload X14 hx (hb hby at_265) rfl ?_
          show Goes p.tables e below (T14.setTop (mkF m 267 #[.val (.long p0), .second, .val (.long p1), .second, .val (.int p2), .val (.int p3), .val (.int vs), .val (.int vw), .val (.long vh), .second, .val (.int vn), .val (.int vcd), .val (.long v3), .second, .val (.long vlow), .second, .val (.int vk), .val (.int vsh), .val (.long v4), .second, .val (.long vfm), .second, .val (.int vmode), .val (.long p0), .second, .val (.long vr), .second, .val (.int v15), .val (.long vbit), .second] [(.int v15), (.int (1 : Int32))])) _
          refine g_icmp_ne X14 hx (hb hby at_267) (by decide) (pc' := 274) (by decide) (fun c267 => ?_) (fun c267 => ?_)
          · skip
            show Goes p.tables e below (T14.setTop (mkF m 274 #[.val (.long p0), .second, .val (.long p1), .second, .val (.int p2), .val (.int p3), .val (.int vs), .val (.int vw), .val (.long vh), .second, .val (.int vn), .val (.int vcd), .val (.long v3), .second, .val (.long vlow), .second, .val (.int vk), .val (.int vsh), .val (.long v4), .second, .val (.long vfm), .second, .val (.int vmode), .val (.long p0), .second, .val (.long vr), .second, .val (.int v15), .val (.long vbit), .second] [])) _
            refine g_iconst X14 hx (0 : Int32) (hb hby at_274) rfl ?_
            rw [show v16 = ((0 : Int32)) from by rw [hv16, if_pos c250, if_pos c257, if_neg c267]] at J
            exact J
          · skip
            show Goes p.tables e below (T14.setTop (mkF m 270 #[.val (.long p0), .second, .val (.long p1), .second, .val (.int p2), .val (.int p3), .val (.int vs), .val (.int vw), .val (.long vh), .second, .val (.int vn), .val (.int vcd), .val (.long v3), .second, .val (.long vlow), .second, .val (.int vk), .val (.int vsh), .val (.long v4), .second, .val (.long vfm), .second, .val (.int vmode), .val (.long p0), .second, .val (.long vr), .second, .val (.int v15), .val (.long vbit), .second] [])) _
            refine g_iconst X14 hx (1 : Int32) (hb hby at_270) rfl ?_
            show Goes p.tables e below (T14.setTop (mkF m 271 #[.val (.long p0), .second, .val (.long p1), .second, .val (.int p2), .val (.int p3), .val (.int vs), .val (.int vw), .val (.long vh), .second, .val (.int vn), .val (.int vcd), .val (.long v3), .second, .val (.long vlow), .second, .val (.int vk), .val (.int vsh), .val (.long v4), .second, .val (.long vfm), .second, .val (.int vmode), .val (.long p0), .second, .val (.long vr), .second, .val (.int v15), .val (.long vbit), .second] [(.int (1 : Int32))])) _
            refine g_goto X14 hx (hb hby at_271) (by decide) (pc' := 275) (by decide) ?_
            rw [show v16 = ((1 : Int32)) from by rw [hv16, if_pos c250, if_pos c257, if_pos c267]] at J
            exact J
    show Goes p.tables e below (T14.setTop (mkF m 275 #[.val (.long p0), .second, .val (.long p1), .second, .val (.int p2), .val (.int p3), .val (.int vs), .val (.int vw), .val (.long vh), .second, .val (.int vn), .val (.int vcd), .val (.long v3), .second, .val (.long vlow), .second, .val (.int vk), .val (.int vsh), .val (.long v4), .second, .val (.long vfm), .second, .val (.int vmode), .val (.long p0), .second, .val (.long vr), .second, .val (.int v15), .val (.long vbit), .second] [(.int v16)])) _
    have hlow : vlow = own_low vs := by rw [hvlow, hvh, hv3, hvcd, hvn, hvw]; rfl
    have hfm : vfm = own_fm vs vk := by rw [hvfm, hv4, hvsh, hvw]; rfl
    have hgood : own_good vs vk = true := by rw [hvk, hvn, hvw, hvs]; exact own_goodOf p2 p3
    have hfin : v16 = 1 := own_final vs vk hgood p0 v16 v15 vr vbit (by rw [hvr, hlow, hvh]) (by rw [hv15, hfm]) (by rw [hvbit, hvsh, hvw]) (by rw [hv16, hvh])
    exact g_retZ X14 hx (hz := (Or.inr hfin)) hret hk (hb hby at_275) (by decide) (by decide) ⟨by rw [hfin], Fr.nil _⟩
set_option maxRecDepth 65536 in
set_option maxHeartbeats 40000000 in
theorem comes_1 {Post : Tables → Env → Array Value → State → Outcome → State → Prop} (hpost : ∀ tb e args s v u, (limb_1_1.after args s (.returned v) u = true ∧ limb_1_2.after args s (.returned v) u = true ∧ True) → FrameEnd s (.returned v) u (Jvm.fieldLocs frame_1_writes args s ++ Jvm.arrayLocs frame_1_arrays args s ++ Jvm.staticLocs frame_1_statics s) 0 0 → Post tb e args s (.returned v) u) :
    ArmFor flags0 classFile x code maxLocals ret World_1 tables_1 room_1 Calls_1 rest_1 Pre_1 Post := by
  intro l hfl _ _ p e ha hc hk s m args below hf hA hF happ hP
  obtain ⟨hcalls, hrest, hpre⟩ := hP
  obtain ⟨-, -, -, hnamed, -, -, -, hat⟩ := (Spec.applies_iff hf).mp happ
  obtain ⟨hg, hn⟩ := and_e (Cond.before_iff.mp (show (Jvm.Cond.and given_1 narrow_1).before args s = true from hpre))
  obtain ⟨h1, hg1⟩ := and_e hg
  obtain ⟨w0, w1, w2, w3, rfl⟩ : ∃ w0 w1 w2 w3 : Value, args = #[w0, w1, w2, w3] := by
    have hs : args.size = 4 := by simpa [Cond.value, given_1] using h1
    obtain ⟨L⟩ := args
    match L, hs with
    | [w0, w1, w2, w3], _ => exact ⟨w0, w1, w2, w3, rfl⟩
  have hw := fun d (hd : d ∈ tables_1) => atoms_spec (ws := Jvm.Cond.code x code maxLocals ret :: tables_1) hat d (List.mem_cons_of_mem _ hd)
  obtain ⟨ha0, hg2⟩ := and_e hg1
  obtain ⟨i0, ei0⟩ := isL_v ha0
  obtain rfl : w0 = (.long i0) := Option.some.inj ei0
  obtain ⟨ha1, hg3⟩ := and_e hg2
  obtain ⟨i1, ei1⟩ := isL_v ha1
  obtain rfl : w1 = (.long i1) := Option.some.inj ei1
  obtain ⟨ha2, hg4⟩ := and_e hg3
  obtain ⟨i2, ei2⟩ := is_v ha2
  obtain rfl : w2 = (.int i2) := Option.some.inj ei2
  obtain ⟨i3, ei3⟩ := is_v hg4
  obtain rfl : w3 = (.int i3) := Option.some.inj ei3
  obtain ⟨n, o, h1, h2, h3, _, L, rfl, ⟨rfl, N⟩, hq⟩ := law l s _ hw tables_1 i0 i1 i2 i3 s.heap  p e ha hc hk s m _ below hf ((Spec.applies_iff_loose hf).mp happ).1 ⟨rfl, State.Warmed39.refl s, rfl⟩ trivial
  refine ⟨n, _, h1, h2, h3, hpost _ _ _ _ _ _ ⟨Cond.after_iff.mpr rfl, Cond.after_iff.mpr (eq_i res_at (Term.int_eval (1)) rfl), trivial⟩ ⟨hq.1, hq.2.1, (hq.2.2.sift fun y hy => Or.inr (N y hy)).mono (by decide) (by decide)⟩⟩
theorem main_1_1 : Claimed_1_1 := comes_1 fun _ _ _ _ _ _ h hF => ⟨h.1, hF⟩
theorem main_1_2 : Claimed_1_2 := comes_1 fun _ _ _ _ _ _ h hF => ⟨h.2.1, hF⟩
end Jvm.Pilot.@@N@@
namespace Jvm.Pilot.@@N@@
open Jvm Jvm.ClassFile Sem Op Lib Jvm.Free Jvm.Stand Jvm.Pilot.@@N@@.Jvm.D
/-! MADE BY PROGRAM (witnessworld.py) out of the Statement's table words and the real class files: 9 classes; the members and pool entries that the words name. The judged class is class 1, her method 3. -/
namespace start1
open Jvm.ClassFile
def u (s : String) : CpInfo := .utf8 (stringToUtf16 s)
/-- a pool by its gaps: so many unusable entries, then the entry; so many at the end -/
def gap : Nat → List CpInfo → List CpInfo
  | 0, r => r
  | n + 1, r => .unusable :: gap n r
def poolList (es : List (Nat × CpInfo)) (last : Nat) : List CpInfo := es.foldr (fun e r => gap e.1 (e.2 :: r)) (gap last [])
def pool (es : List (Nat × CpInfo)) (last : Nat) : Array CpInfo := ⟨poolList es last⟩
def fileOf (pool : Array CpInfo) (this : Nat) (attrs : Array Attribute := #[]) (ms : Array MethodInfo := #[]) (fl : Nat := 33) (sup : Nat := 0) (ifs : Array Nat := #[]) (fds : Array FieldInfo := #[]) : ClassFile where
  minorVersion := 0
  majorVersion := 65
  constantPool := pool
  accessFlags := fl
  thisClass := this
  superClass := sup
  interfaces := ifs
  fields := fds
  methods := ms
  attributes := attrs
def plain (name : String) (sup : Option ClassId) : Class where
  name := name
  kind := .ordinary
  loader := none
  accessFlags := 33
  super := sup
  interfaces := #[]
  cf := none
  fields := #[]
  methods := #[]
  instanceTypes := #[]
  staticTypes := #[]
  resolved := #[]
  callSites := []
  init := .initialized
  statics := none
  mirror := none

def pool0 : Array CpInfo := pool [(5, u "<init>"), (0, u "()V"), (1, .class_ 10), (1, u "java/lang/Object")] 113

def k0m0 : Method := { name := "<init>", desc := "()V", sig := { parameters := [], returnType := none }, accessFlags := 1, code := none }
/-- java/lang/Object -/
def k0 : Class := { plain "java/lang/Object" none with
  accessFlags := 33
  interfaces := #[]
  cf := some (fileOf pool0 8 #[] #[{ accessFlags := 1, nameIndex := 5, descriptorIndex := 6, attributes := #[] }] 33 0 #[] #[])
  fields := #[]
  methods := #[k0m0]
  instanceTypes := #[]
  staticTypes := #[]
  resolved := Array.replicate 124 none
  statics := none }

def pool1 : Array CpInfo := pool [(2, .class_ 4), (1, u "java/lang/Object"), (0, u "<init>"), (0, u "()V"), (0, .long 18446744073709551615), (1, .long 12297829382473034410), (1, .long 5270498306774157604), (1, .long 9838263505978427528), (1, .long 9259542123273814144), (1, .long 9223512776490647552), (1, .long 9223372039002259456), (1, .long 9223372036854775808), (1, .methodref 24 25), (0, .class_ 26), (0, .nameAndType 27 28), (0, u "com/example/nest2/nest2/BitArrayZeroFieldsPinLaw"), (0, u "width"), (0, u "(I)I"), (0, .methodref 24 30), (0, .nameAndType 31 32), (0, u "highBits"), (0, u "(I)J"), (0, .integer 2147483647), (0, .long 2147483647), (1, .methodref 37 38), (0, .class_ 39), (0, .nameAndType 40 41), (0, u "com/example/nest2/nest2/BitArray"), (0, u "zeroFields"), (0, u "(JJJ)J"), (3, u "law"), (0, u "(JJII)Z")] 2

def k1m0 : Method := { name := "<init>", desc := "()V", sig := { parameters := [], returnType := none }, accessFlags := 1, code := none }
def k1c1 : Code := { maxStack := 2, maxLocals := 1, code := method_2_code, exceptionTable := #[], attributes := #[] }
def k1m1 : Method := { name := "width", desc := "(I)I", sig := { parameters := [.int], returnType := some .int }, accessFlags := 10, code := some k1c1 }
def k1c2 : Code := { maxStack := 2, maxLocals := 1, code := method_3_code, exceptionTable := #[], attributes := #[] }
def k1m2 : Method := { name := "highBits", desc := "(I)J", sig := { parameters := [.int], returnType := some .long }, accessFlags := 10, code := some k1c2 }
def k1c3 : Code := { maxStack := 6, maxLocals := 30, code := code, exceptionTable := #[], attributes := #[] }
def k1m3 : Method := { name := "law", desc := "(JJII)Z", sig := { parameters := [.long, .long, .int, .int], returnType := some .boolean }, accessFlags := 9, code := some k1c3 }
/-- com/example/nest2/nest2/BitArrayZeroFieldsPinLaw -/
def k1 : Class := { plain "com/example/nest2/nest2/BitArrayZeroFieldsPinLaw" (some 0) with
  accessFlags := 49
  interfaces := #[]
  cf := some (fileOf pool1 24 #[] #[{ accessFlags := 1, nameIndex := 5, descriptorIndex := 6, attributes := #[] }, { accessFlags := 10, nameIndex := 27, descriptorIndex := 28, attributes := #[] }, { accessFlags := 10, nameIndex := 31, descriptorIndex := 32, attributes := #[] }, { accessFlags := 9, nameIndex := 45, descriptorIndex := 46, attributes := #[] }] 49 2 #[] #[])
  fields := #[]
  methods := #[k1m0, k1m1, k1m2, k1m3]
  instanceTypes := #[]
  staticTypes := #[]
  resolved := Array.replicate 49 none
  statics := none }

def pool2 : Array CpInfo := pool [(6, .class_ 8), (1, u "java/lang/Object"), (2, .class_ 12), (0, u "com/example/nest2/nest2/BitArray"), (13, u "size"), (0, u "J"), (4, u "words"), (0, u "[J"), (2, u "setCount"), (16, .long 18446744073709551615), (18, u "(JJJ)J"), (0, u "MAX_SIZE"), (1, u "WORD_SHIFT"), (0, u "I"), (11, u "zeroFields")] 21

def k2c0 : Code := { maxStack := 4, maxLocals := 6, code := prog_2_method_10_code, exceptionTable := #[], attributes := #[] }
def k2m0 : Method := { name := "zeroFields", desc := "(JJJ)J", sig := { parameters := [.long, .long, .long], returnType := some .long }, accessFlags := 8, code := some k2c0 }
/-- com/example/nest2/nest2/BitArray -/
def k2 : Class := { plain "com/example/nest2/nest2/BitArray" (some 0) with
  accessFlags := 32
  interfaces := #[]
  cf := some (fileOf pool2 11 #[] #[{ accessFlags := 8, nameIndex := 88, descriptorIndex := 72, attributes := #[] }] 32 6 #[] #[{ accessFlags := 24, nameIndex := 73, descriptorIndex := 27, attributes := #[] }, { accessFlags := 26, nameIndex := 75, descriptorIndex := 76, attributes := #[] }, { accessFlags := 18, nameIndex := 26, descriptorIndex := 27, attributes := #[] }, { accessFlags := 18, nameIndex := 32, descriptorIndex := 33, attributes := #[] }, { accessFlags := 2, nameIndex := 36, descriptorIndex := 27, attributes := #[] }])
  fields := #[{ name := "MAX_SIZE", type := .long, accessFlags := 24, slot := 0, constantValue := 0 }, { name := "WORD_SHIFT", type := .int, accessFlags := 26, slot := 1, constantValue := 0 }, { name := "size", type := .long, accessFlags := 18, slot := 0, constantValue := 0 }, { name := "words", type := (.array .long), accessFlags := 18, slot := 1, constantValue := 0 }, { name := "setCount", type := .long, accessFlags := 2, slot := 2, constantValue := 0 }]
  methods := #[k2m0]
  instanceTypes := #[.long, (.array .long), .long]
  staticTypes := #[.long, .int]
  resolved := Array.replicate 110 none
  statics := none }

def pool3 : Array CpInfo := pool [(1, u "java/lang/Cloneable"), (0, .class_ 1), (0, u "java/lang/Object"), (0, .class_ 3)] 3

/-- java/lang/Cloneable -/
def k3 : Class := { plain "java/lang/Cloneable" (some 0) with
  accessFlags := 1537
  interfaces := #[]
  cf := some (fileOf pool3 2 #[] #[] 1537 4 #[] #[])
  fields := #[]
  methods := #[]
  instanceTypes := #[]
  staticTypes := #[]
  resolved := Array.replicate 8 none
  statics := none }

def pool4 : Array CpInfo := pool [(1, u "java/io/Serializable"), (0, .class_ 1), (0, u "java/lang/Object"), (0, .class_ 3)] 3

/-- java/io/Serializable -/
def k4 : Class := { plain "java/io/Serializable" (some 0) with
  accessFlags := 1537
  interfaces := #[]
  cf := some (fileOf pool4 2 #[] #[] 1537 4 #[] #[])
  fields := #[]
  methods := #[]
  instanceTypes := #[]
  staticTypes := #[]
  resolved := Array.replicate 8 none
  statics := none }

/-- the primitive byte -/
def k5 : Class := { plain "byte" none with kind := .primitive 'B', accessFlags := 0x411 }
/-- [B -/
def k6 : Class := { plain "[B" (some 0) with kind := .array 5 .byte, interfaces := #[3, 4], accessFlags := 1041 }

/-- the primitive int -/
def k7 : Class := { plain "int" none with kind := .primitive 'I', accessFlags := 0x411 }
/-- [I -/
def k8 : Class := { plain "[I" (some 0) with kind := .array 7 .int, interfaces := #[3, 4], accessFlags := 1041 }

def heap : Heap := #[]
def classes : Array Class := #[k0, k1, k2, k3, k4, k5, k6, k7, k8]
def interned : List (Array UInt16 × Addr) := []
def slotsUsed : Nat := 0
def theMethod : MethodId := ⟨1, 3⟩
def args0 : Array Value := #[.long 5, .long 7, .int 3, .int 9]
def aboutOver (below : List Frame) : State where
  vm := { classes := classes, interned := interned.toArray }
  heap := heap
  slotsUsed := slotsUsed
  threads := #[{ frames := .invoking theMethod args0 :: below }]
def below0 : List Frame := [.native { method := ⟨0, 0⟩, args := #[] }]
def about1 : State := aboutOver below0
def p0 : Program := .bare "" "" ""
def e0 : Env := launch0.env 0 0 0
theorem w_frames : about1.frames = Frame.invoking theMethod args0 :: below0 := rfl
set_option maxRecDepth 65536 in
theorem w_args : argsFit about1.vm theMethod args0 = true := by decide +kernel
set_option maxRecDepth 65536 in
theorem w_heap : heapFits about1 = true := by decide +kernel
set_option maxRecDepth 65536 in
theorem w_runnable : about1.curStatus? = some .runnable := by decide +kernel
set_option maxRecDepth 65536 in
theorem w_alone : about1.alone = true := by decide +kernel
set_option maxRecDepth 65536 in
theorem w_named : about1.methodNamed? x = some theMethod := by decide +kernel
set_option maxRecDepth 65536 in
theorem w_hears : about1.hears theMethod below0 = true := by decide +kernel
set_option maxRecDepth 65536 in
theorem w_ripe : about1.ripe theMethod args0 below0 = true := by decide +kernel
theorem w_running : about1.status = .running := rfl
set_option maxRecDepth 65536 in
theorem w_room : about1.hasRoom e0.platform room_1 = true :=
  launch0.hasRoom_least _ room_1 (by decide +kernel) (by decide +kernel) (by decide +kernel) (by decide +kernel) (by decide +kernel) (by decide +kernel)
theorem allAtoms_all (ts : List Jvm.Cond) (a : Array Jvm.Value) (st : Jvm.State) : (allAtoms ts).before a st = ts.all (fun c => c.before a st) := by
  induction ts with
  | nil => rfl
  | cons c t ih =>
    show (Jvm.Cond.and c (allAtoms t)).before a st = _
    rw [Jvm.Cond.before_and, ih, List.all_cons]
def words1 : List Jvm.Cond := Jvm.Cond.code x code maxLocals ret :: tables_1
/-- a 'code' word, met by the world's own term for the bytes: nothing is compared byte by byte -/
theorem code_word {y : MethodName} {bytes : ByteArray} {mx : Nat} {rt : Option FieldType} {a : Array Value} {s : State} {m : MethodId} {meth : Method} {c : Code} (h1 : s.methodNamed? y = some m) (h2 : s.vm.method? m = some meth) (h3 : meth.code = some c) (h4 : c.code = bytes)
    (h5 : (c.maxLocals == mx && c.exceptionTable.isEmpty && decide (c.maxStack ≤ mostOperands) && decide (meth.sig.returnType = rt) && !meth.locks && decide (parseMethodDescriptor y.desc = some meth.sig)) = true) : (Jvm.Cond.code y bytes mx rt).before a s = true := by
  simp only [Bool.and_eq_true, beq_iff_eq, Bool.not_eq_true', decide_eq_true_eq] at h5
  obtain ⟨⟨⟨⟨⟨g1, g2⟩, g3⟩, g4⟩, g5⟩, g6⟩ := h5
  simp [Cond.before, Cond.holds, Cond.value, h1, h2, h3, h4, g1, g2, g3, g4, g5, g6]
def isCode : Jvm.Cond → Bool
  | .code _ _ _ _ => true
  | _ => false
theorem all_split {L : List Jvm.Cond} {P : Jvm.Cond → Bool} (h1 : L.all (fun c => isCode c || P c) = true) (h2 : ∀ c ∈ L.filter isCode, P c = true) : L.all P = true := by
  refine List.all_eq_true.mpr fun c hc => ?_
  have h := List.all_eq_true.mp h1 c hc
  rcases Bool.eq_false_or_eq_true (isCode c) with hi | hi
  · exact h2 c (List.mem_filter.mpr ⟨hc, hi⟩)
  · simpa [hi] using h
set_option maxRecDepth 65536 in
theorem w_c0 : (Jvm.Cond.code x code maxLocals ret).before args0 about1 = true := code_word (m := ⟨1, 3⟩) (meth := k1m3) (c := k1c3) (by decide +kernel) rfl rfl rfl (by decide +kernel)
set_option maxRecDepth 65536 in
theorem w_c1 : (Jvm.Cond.code ({ cls := "com/example/nest2/nest2/BitArrayZeroFieldsPinLaw", name := "width", desc := "(I)I" } : Jvm.MethodName) method_2_code (1 : Nat) (Option.some Jvm.ClassFile.FieldType.int)).before args0 about1 = true := code_word (m := ⟨1, 1⟩) (meth := k1m1) (c := k1c1) (by decide +kernel) rfl rfl rfl (by decide +kernel)
set_option maxRecDepth 65536 in
theorem w_c2 : (Jvm.Cond.code ({ cls := "com/example/nest2/nest2/BitArrayZeroFieldsPinLaw", name := "highBits", desc := "(I)J" } : Jvm.MethodName) method_3_code (1 : Nat) (Option.some Jvm.ClassFile.FieldType.long)).before args0 about1 = true := code_word (m := ⟨1, 2⟩) (meth := k1m2) (c := k1c2) (by decide +kernel) rfl rfl rfl (by decide +kernel)
set_option maxRecDepth 65536 in
theorem w_c3 : (Jvm.Cond.code ({ cls := "com/example/nest2/nest2/BitArray", name := "zeroFields", desc := "(JJJ)J" } : Jvm.MethodName) prog_2_method_10_code (6 : Nat) (Option.some Jvm.ClassFile.FieldType.long)).before args0 about1 = true := code_word (m := ⟨2, 0⟩) (meth := k2m0) (c := k2c0) (by decide +kernel) rfl rfl rfl (by decide +kernel)
def codes1 : List Jvm.Cond := [Jvm.Cond.code x code maxLocals ret, Jvm.Cond.code ({ cls := "com/example/nest2/nest2/BitArrayZeroFieldsPinLaw", name := "width", desc := "(I)I" } : Jvm.MethodName) method_2_code (1 : Nat) (Option.some Jvm.ClassFile.FieldType.int), Jvm.Cond.code ({ cls := "com/example/nest2/nest2/BitArrayZeroFieldsPinLaw", name := "highBits", desc := "(I)J" } : Jvm.MethodName) method_3_code (1 : Nat) (Option.some Jvm.ClassFile.FieldType.long), Jvm.Cond.code ({ cls := "com/example/nest2/nest2/BitArray", name := "zeroFields", desc := "(JJJ)J" } : Jvm.MethodName) prog_2_method_10_code (6 : Nat) (Option.some Jvm.ClassFile.FieldType.long)]
set_option maxRecDepth 65536 in
theorem codes_eq : words1.filter isCode = codes1 := rfl
theorem w_codes : ∀ c ∈ words1.filter isCode, c.before args0 about1 = true := by
  rw [codes_eq]
  intro c hc
  simp only [codes1, List.mem_cons, List.not_mem_nil, or_false] at hc
  rcases hc with rfl | rfl | rfl | rfl
  · exact w_c0
  · exact w_c1
  · exact w_c2
  · exact w_c3
set_option maxRecDepth 65536 in
theorem w_t1 : words1.all (fun c => isCode c || c.before args0 about1) = true := by decide +kernel
theorem w_tables : (allAtoms (Jvm.Cond.code x code maxLocals ret :: tables_1)).before args0 about1 = true := by
  rw [allAtoms_all]
  show words1.all (fun c => c.before args0 about1) = true
  refine all_split ?_ w_codes
  rw [w_t1]
set_option maxRecDepth 65536 in
theorem w_case : (Jvm.Cond.and given_1 narrow_1).before args0 about1 = true := by decide +kernel
theorem w_applies : (headSpec (Jvm.Cond.code x code maxLocals ret :: tables_1) room_1).applies x e0.platform about1 = true :=
  (Spec.applies_iff w_frames).mpr ⟨w_running, w_runnable, w_alone, w_named, w_hears, w_ripe, w_room, w_tables⟩
theorem atStart : AtStart classFile x code maxLocals ret World_1 tables_1 room_1 Calls_1 rest_1 Pre_1 launch0 p0 e0 about1 theMethod args0 below0 :=
  ⟨lists_1, trivial, launch0.admits_env _ _ _, launch0.least_env, fairChoices_fair.cas, fairChoices_fair.clock, w_frames, w_args, w_heap, w_applies, trivial, trivial, w_case⟩
end start1
theorem witness_1 : WitnessClaimed_1 := ⟨start1.p0, start1.e0, start1.about1, start1.theMethod, start1.args0, start1.below0, start1.atStart⟩
end Jvm.Pilot.@@N@@
