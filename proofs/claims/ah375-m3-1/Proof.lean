import JvmDerived
import JvmDerived.Pilot.@@N@@Statement
import JvmDerived.Pilot.@@N@@Code
set_option linter.unusedVariables false
set_option linter.unusedSimpArgs false
namespace Jvm.OwnW
open Sem ClassFile Op Lib Jvm.Stand Jvm.Free Jvm.LawKit Jvm.RoadKit
/-- from the state S the walk over 'below' comes to an end of which P holds -/
def Goes (tb : Tables) (e : Env) (below : List Frame) (S : State) (P : State → Outcome → Prop) : Prop :=
  ∃ s₂ o, Steps tb e below S s₂ ∧ s₂.status = .running ∧ Ended s₂ below o ∧ P s₂ o
section Walk
variable {p : Program} {l : Launch} {e : Env} {R : Room} {s : State} {m : MethodId} {args : Array Value} {below : List Frame} {meth : Method} {c : Code} {T : State} {locs : List Loc} {cells slots : Nat} {P : State → Outcome → Prop} {pc : Nat} {Ls : Array Slot} {st : List Value} {Z : State} {a0 : Array Value} {h : Heap}
theorem Goes.of {tb : Tables} {S S' : State} (k : Goes tb e below S' P) (h : ∀ t, Steps tb e below S' t → Steps tb e below S t) : Goes tb e below S P := by
  obtain ⟨s₂, o, h1, h2⟩ := k
  exact ⟨s₂, o, h _ h1, h2⟩
theorem Goes.tr {tb : Tables} {S S' : State} (k : Goes tb e below S' P) (h : Steps tb e below S S') : Goes tb e below S P := by
  obtain ⟨s₂, o, h1, h2⟩ := k
  exact ⟨s₂, o, h.trans h1, h2⟩
theorem Goes.join {tb : Tables} {S S' : State} (h1 : Goes tb e below S' P → Goes tb e below S P) (h2 : Goes tb e below S' P) : Goes tb e below S P := h1 h2
theorem Goes.cast {tb : Tables} {g g' : JFrame} (q : g = g') (k : Goes tb e below (T.setTop g') P) : Goes tb e below (T.setTop g) P := q ▸ k
theorem g_nameI {x v : Int32} (q : v = x) (k : Goes p.tables e below (T.setTop (mkF m pc Ls (.int v :: st))) P) : Goes p.tables e below (T.setTop (mkF m pc Ls (.int x :: st))) P := q ▸ k
theorem g_nameL {x v : Int64} (q : v = x) (k : Goes p.tables e below (T.setTop (mkF m pc Ls (.long v :: st))) P) : Goes p.tables e below (T.setTop (mkF m pc Ls (.long x :: st))) P := q ▸ k
theorem g_iloadN (X : Stand p l e R s m args below meth c T locs cells slots) (hx : p.tables.exec = Jvm.exec) {k : Fin 4} {v : Int32} (hd : decode c.code pc = .ok (.iload_n k, 1)) (hl : Ls[k.val]? = some (.val (.int v))) (hr : Goes p.tables e below (T.setTop (mkF m (pc + 1) Ls (.int v :: st))) P) : Goes p.tables e below (T.setTop (mkF m pc Ls st)) P := hr.of fun _ k => XS.iloadN X.here hx rfl hd hl k
theorem g_iload (X : Stand p l e R s m args below meth c T locs cells slots) (hx : p.tables.exec = Jvm.exec) {k : Nat} {v : Int32} (hd : decode c.code pc = .ok (.iload k, 2)) (hl : Ls[k]? = some (.val (.int v))) (hr : Goes p.tables e below (T.setTop (mkF m (pc + 2) Ls (.int v :: st))) P) : Goes p.tables e below (T.setTop (mkF m pc Ls st)) P := hr.of fun _ k => XS.iload X.here hx rfl hd hl k
theorem g_lloadN (X : Stand p l e R s m args below meth c T locs cells slots) (hx : p.tables.exec = Jvm.exec) {k : Fin 4} {v : Int64} (hd : decode c.code pc = .ok (.lload_n k, 1)) (hl : Ls[k.val]? = some (.val (.long v))) (hr : Goes p.tables e below (T.setTop (mkF m (pc + 1) Ls (.long v :: st))) P) : Goes p.tables e below (T.setTop (mkF m pc Ls st)) P := hr.of fun _ k => XT.lloadN X.here hx rfl hd hl k
theorem g_lload (X : Stand p l e R s m args below meth c T locs cells slots) (hx : p.tables.exec = Jvm.exec) {k : Nat} {v : Int64} (hd : decode c.code pc = .ok (.lload k, 2)) (hl : Ls[k]? = some (.val (.long v))) (hr : Goes p.tables e below (T.setTop (mkF m (pc + 2) Ls (.long v :: st))) P) : Goes p.tables e below (T.setTop (mkF m pc Ls st)) P := hr.of fun _ k => XT.lload X.here hx rfl hd hl k
theorem g_aloadN (X : Stand p l e R s m args below meth c T locs cells slots) (hx : p.tables.exec = Jvm.exec) {k : Fin 4} {v : Value} (hd : decode c.code pc = .ok (.aload_n k, 1)) (hl : Ls[k.val]? = some (.val v)) (hv : v.isRef = true) (hr : Goes p.tables e below (T.setTop (mkF m (pc + 1) Ls (v :: st))) P) : Goes p.tables e below (T.setTop (mkF m pc Ls st)) P := hr.of fun _ k => XS.aloadN X.here hx rfl hd hl hv k
theorem g_aload (X : Stand p l e R s m args below meth c T locs cells slots) (hx : p.tables.exec = Jvm.exec) {k : Nat} {v : Value} (hd : decode c.code pc = .ok (.aload k, 2)) (hl : Ls[k]? = some (.val v)) (hv : v.isRef = true) (hr : Goes p.tables e below (T.setTop (mkF m (pc + 2) Ls (v :: st))) P) : Goes p.tables e below (T.setTop (mkF m pc Ls st)) P := hr.of fun _ k => XS.aload X.here hx rfl hd hl hv k
theorem g_istoreN (X : Stand p l e R s m args below meth c T locs cells slots) (hx : p.tables.exec = Jvm.exec) {k : Fin 4} {x : Int32} {l' : Array Slot} (hd : decode c.code pc = .ok (.istore_n k, 1)) (hl : storeLocals Ls k.val (.int x) = some l') (hr : Goes p.tables e below (T.setTop (mkF m (pc + 1) l' st)) P) : Goes p.tables e below (T.setTop (mkF m pc Ls (.int x :: st))) P := hr.of fun _ k => XS.istoreN X.here hx rfl hd rfl hl k
theorem g_istore (X : Stand p l e R s m args below meth c T locs cells slots) (hx : p.tables.exec = Jvm.exec) {k : Nat} {x : Int32} {l' : Array Slot} (hd : decode c.code pc = .ok (.istore k, 2)) (hl : storeLocals Ls k (.int x) = some l') (hr : Goes p.tables e below (T.setTop (mkF m (pc + 2) l' st)) P) : Goes p.tables e below (T.setTop (mkF m pc Ls (.int x :: st))) P := hr.of fun _ k => XS.istore X.here hx rfl hd rfl hl k
theorem g_lstoreN (X : Stand p l e R s m args below meth c T locs cells slots) (hx : p.tables.exec = Jvm.exec) {k : Fin 4} {x : Int64} {l' : Array Slot} (hd : decode c.code pc = .ok (.lstore_n k, 1)) (hl : storeLocals Ls k.val (.long x) = some l') (hr : Goes p.tables e below (T.setTop (mkF m (pc + 1) l' st)) P) : Goes p.tables e below (T.setTop (mkF m pc Ls (.long x :: st))) P := hr.of fun _ k => XT.lstoreN X.here hx rfl hd rfl hl k
theorem g_lstore (X : Stand p l e R s m args below meth c T locs cells slots) (hx : p.tables.exec = Jvm.exec) {k : Nat} {x : Int64} {l' : Array Slot} (hd : decode c.code pc = .ok (.lstore k, 2)) (hl : storeLocals Ls k (.long x) = some l') (hr : Goes p.tables e below (T.setTop (mkF m (pc + 2) l' st)) P) : Goes p.tables e below (T.setTop (mkF m pc Ls (.long x :: st))) P := hr.of fun _ k => XT.lstore X.here hx rfl hd rfl hl k
theorem g_astoreN (X : Stand p l e R s m args below meth c T locs cells slots) (hx : p.tables.exec = Jvm.exec) {k : Fin 4} {x : Value} {l' : Array Slot} (hd : decode c.code pc = .ok (.astore_n k, 1)) (hv : x.isRef = true) (hl : storeLocals Ls k.val x = some l') (hr : Goes p.tables e below (T.setTop (mkF m (pc + 1) l' st)) P) : Goes p.tables e below (T.setTop (mkF m pc Ls (x :: st))) P := hr.of fun _ k => XS.astoreN X.here hx rfl hd rfl hv hl k
theorem g_astore (X : Stand p l e R s m args below meth c T locs cells slots) (hx : p.tables.exec = Jvm.exec) {k : Nat} {x : Value} {l' : Array Slot} (hd : decode c.code pc = .ok (.astore k, 2)) (hv : x.isRef = true) (hl : storeLocals Ls k x = some l') (hr : Goes p.tables e below (T.setTop (mkF m (pc + 2) l' st)) P) : Goes p.tables e below (T.setTop (mkF m pc Ls (x :: st))) P := hr.of fun _ k => XS.astore X.here hx rfl hd rfl hv hl k
theorem g_istoreS (X : Stand p l e R s m args below meth c T locs cells slots) (hx : p.tables.exec = Jvm.exec) {k : Nat} {x : Int32} {o : Slot} (hd : decode c.code pc = .ok (.istore k, 2)) (hold : Ls[k]? = some o) (ho : One o) (hr : Goes p.tables e below (T.setTop (mkF m (pc + 2) (Ls.setIfInBounds k (.val (.int x))) st)) P) : Goes p.tables e below (T.setTop (mkF m pc Ls (.int x :: st))) P := hr.of fun _ k => XS.istoreS X.here hx rfl hd rfl hold ho k
theorem g_istoreNS (X : Stand p l e R s m args below meth c T locs cells slots) (hx : p.tables.exec = Jvm.exec) {k : Fin 4} {x : Int32} {o : Slot} (hd : decode c.code pc = .ok (.istore_n k, 1)) (hold : Ls[k.val]? = some o) (ho : One o) (hr : Goes p.tables e below (T.setTop (mkF m (pc + 1) (Ls.setIfInBounds k.val (.val (.int x))) st)) P) : Goes p.tables e below (T.setTop (mkF m pc Ls (.int x :: st))) P := hr.of fun _ k => XS.istoreNS X.here hx rfl hd rfl hold ho k
theorem g_iconst (X : Stand p l e R s m args below meth c T locs cells slots) (hx : p.tables.exec = Jvm.exec) {i : Int} (v : Int32) (hd : decode c.code pc = .ok (.iconst i, 1)) (hv : Int32.ofInt i = v) (hr : Goes p.tables e below (T.setTop (mkF m (pc + 1) Ls (.int v :: st))) P) : Goes p.tables e below (T.setTop (mkF m pc Ls st)) P := hr.of fun _ k => XT.iconstV X.here hx rfl v hd hv k
theorem g_bipush (X : Stand p l e R s m args below meth c T locs cells slots) (hx : p.tables.exec = Jvm.exec) {i : Int} (v : Int32) (hd : decode c.code pc = .ok (.bipush i, 2)) (hv : (Int8.ofInt i).toInt32 = v) (hr : Goes p.tables e below (T.setTop (mkF m (pc + 2) Ls (.int v :: st))) P) : Goes p.tables e below (T.setTop (mkF m pc Ls st)) P := hr.of fun _ k => XT.bipushV X.here hx rfl v hd hv k
theorem g_sipush (X : Stand p l e R s m args below meth c T locs cells slots) (hx : p.tables.exec = Jvm.exec) {i : Int} (v : Int32) (hd : decode c.code pc = .ok (.sipush i, 3)) (hv : (Int16.ofInt i).toInt32 = v) (hr : Goes p.tables e below (T.setTop (mkF m (pc + 3) Ls (.int v :: st))) P) : Goes p.tables e below (T.setTop (mkF m pc Ls st)) P := hr.of fun _ k => XT.sipushV X.here hx rfl v hd hv k
theorem g_lconst (X : Stand p l e R s m args below meth c T locs cells slots) (hx : p.tables.exec = Jvm.exec) {i : Fin 2} (v : Int64) (hd : decode c.code pc = .ok (.lconst i, 1)) (hv : Int64.ofNat i = v) (hr : Goes p.tables e below (T.setTop (mkF m (pc + 1) Ls (.long v :: st))) P) : Goes p.tables e below (T.setTop (mkF m pc Ls st)) P := hr.of fun _ k => XT.lconstV X.here hx rfl v hd hv k
theorem g_null (X : Stand p l e R s m args below meth c T locs cells slots) (hx : p.tables.exec = Jvm.exec)  (hd : decode c.code pc = .ok (.aconst_null, 1)) (hr : Goes p.tables e below (T.setTop (mkF m (pc + 1) Ls (.null :: st))) P) : Goes p.tables e below (T.setTop (mkF m pc Ls st)) P := hr.of fun _ k => XS.aconstNull X.here hx rfl hd k
theorem g_ldc (X : Stand p l e R s m args below meth c T locs cells slots) (hx : p.tables.exec = Jvm.exec) {own : String} {index : Nat} {v : Int32} (hZ : Z.Warmed39 s.vm) (hown : s.vm.findClass own = some m.cls) (wk : (Jvm.Cond.constant own index v).before a0 Z = true) (hd : decode c.code pc = .ok (.ldc index, 2)) (hr : Goes p.tables e below (T.setTop (mkF m (pc + 2) Ls (.int v :: st))) P) : Goes p.tables e below (T.setTop (mkF m pc Ls st)) P := hr.of fun _ k => X.ldcI hx hown (mvT hZ wk) rfl hd k
theorem g_ldcw (X : Stand p l e R s m args below meth c T locs cells slots) (hx : p.tables.exec = Jvm.exec) {own : String} {index : Nat} {v : Int32} (hZ : Z.Warmed39 s.vm) (hown : s.vm.findClass own = some m.cls) (wk : (Jvm.Cond.constant own index v).before a0 Z = true) (hd : decode c.code pc = .ok (.ldc_w index, 3)) (hr : Goes p.tables e below (T.setTop (mkF m (pc + 3) Ls (.int v :: st))) P) : Goes p.tables e below (T.setTop (mkF m pc Ls st)) P := hr.of fun _ k => X.ldcWI hx hown (mvT hZ wk) rfl hd k
theorem g_ldc2 (X : Stand p l e R s m args below meth c T locs cells slots) (hx : p.tables.exec = Jvm.exec) {own : String} {index : Nat} {v : Int64} (hZ : Z.Warmed39 s.vm) (hown : s.vm.findClass own = some m.cls) (wk : (Jvm.Cond.constantLong own index v).before a0 Z = true) (hd : decode c.code pc = .ok (.ldc2_w index, 3)) (hr : Goes p.tables e below (T.setTop (mkF m (pc + 3) Ls (.long v :: st))) P) : Goes p.tables e below (T.setTop (mkF m pc Ls st)) P := hr.of fun _ k => X.ldc2J hx hown (mvT hZ wk) rfl hd k
theorem g_iadd (X : Stand p l e R s m args below meth c T locs cells slots) (hx : p.tables.exec = Jvm.exec) {x y : Int32} (hd : decode c.code pc = .ok (.iadd, 1)) (hr : Goes p.tables e below (T.setTop (mkF m (pc + 1) Ls (.int (x + y) :: st))) P) : Goes p.tables e below (T.setTop (mkF m pc Ls (.int y :: .int x :: st))) P := hr.of fun _ k => XS.iadd X.here hx rfl hd rfl k
theorem g_isub (X : Stand p l e R s m args below meth c T locs cells slots) (hx : p.tables.exec = Jvm.exec) {x y : Int32} (hd : decode c.code pc = .ok (.isub, 1)) (hr : Goes p.tables e below (T.setTop (mkF m (pc + 1) Ls (.int (x - y) :: st))) P) : Goes p.tables e below (T.setTop (mkF m pc Ls (.int y :: .int x :: st))) P := hr.of fun _ k => XS.isub X.here hx rfl hd rfl k
theorem g_imul (X : Stand p l e R s m args below meth c T locs cells slots) (hx : p.tables.exec = Jvm.exec) {x y : Int32} (hd : decode c.code pc = .ok (.imul, 1)) (hr : Goes p.tables e below (T.setTop (mkF m (pc + 1) Ls (.int (x * y) :: st))) P) : Goes p.tables e below (T.setTop (mkF m pc Ls (.int y :: .int x :: st))) P := hr.of fun _ k => XS.imul X.here hx rfl hd rfl k
theorem g_iand (X : Stand p l e R s m args below meth c T locs cells slots) (hx : p.tables.exec = Jvm.exec) {x y : Int32} (hd : decode c.code pc = .ok (.iand, 1)) (hr : Goes p.tables e below (T.setTop (mkF m (pc + 1) Ls (.int (x &&& y) :: st))) P) : Goes p.tables e below (T.setTop (mkF m pc Ls (.int y :: .int x :: st))) P := hr.of fun _ k => XS.iand X.here hx rfl hd rfl k
theorem g_ior (X : Stand p l e R s m args below meth c T locs cells slots) (hx : p.tables.exec = Jvm.exec) {x y : Int32} (hd : decode c.code pc = .ok (.ior, 1)) (hr : Goes p.tables e below (T.setTop (mkF m (pc + 1) Ls (.int (x ||| y) :: st))) P) : Goes p.tables e below (T.setTop (mkF m pc Ls (.int y :: .int x :: st))) P := hr.of fun _ k => XT.ior X.here hx rfl hd rfl k
theorem g_ixor (X : Stand p l e R s m args below meth c T locs cells slots) (hx : p.tables.exec = Jvm.exec) {x y : Int32} (hd : decode c.code pc = .ok (.ixor, 1)) (hr : Goes p.tables e below (T.setTop (mkF m (pc + 1) Ls (.int (x ^^^ y) :: st))) P) : Goes p.tables e below (T.setTop (mkF m pc Ls (.int y :: .int x :: st))) P := hr.of fun _ k => XT.ixor X.here hx rfl hd rfl k
theorem g_ishl (X : Stand p l e R s m args below meth c T locs cells slots) (hx : p.tables.exec = Jvm.exec) {x y : Int32} (hd : decode c.code pc = .ok (.ishl, 1)) (hr : Goes p.tables e below (T.setTop (mkF m (pc + 1) Ls (.int (x <<< (y &&& 31)) :: st))) P) : Goes p.tables e below (T.setTop (mkF m pc Ls (.int y :: .int x :: st))) P := hr.of fun _ k => XT.ishl X.here hx rfl hd rfl k
theorem g_ishr (X : Stand p l e R s m args below meth c T locs cells slots) (hx : p.tables.exec = Jvm.exec) {x y : Int32} (hd : decode c.code pc = .ok (.ishr, 1)) (hr : Goes p.tables e below (T.setTop (mkF m (pc + 1) Ls (.int (x >>> (y &&& 31)) :: st))) P) : Goes p.tables e below (T.setTop (mkF m pc Ls (.int y :: .int x :: st))) P := hr.of fun _ k => XT.ishr X.here hx rfl hd rfl k
theorem g_iushr (X : Stand p l e R s m args below meth c T locs cells slots) (hx : p.tables.exec = Jvm.exec) {x y : Int32} (hd : decode c.code pc = .ok (.iushr, 1)) (hr : Goes p.tables e below (T.setTop (mkF m (pc + 1) Ls (.int (XT.ushr x y) :: st))) P) : Goes p.tables e below (T.setTop (mkF m pc Ls (.int y :: .int x :: st))) P := hr.of fun _ k => XT.iushr X.here hx rfl hd rfl k
theorem g_ladd (X : Stand p l e R s m args below meth c T locs cells slots) (hx : p.tables.exec = Jvm.exec) {x y : Int64} (hd : decode c.code pc = .ok (.ladd, 1)) (hr : Goes p.tables e below (T.setTop (mkF m (pc + 1) Ls (.long (x + y) :: st))) P) : Goes p.tables e below (T.setTop (mkF m pc Ls (.long y :: .long x :: st))) P := hr.of fun _ k => XT.ladd X.here hx rfl hd rfl k
theorem g_lsub (X : Stand p l e R s m args below meth c T locs cells slots) (hx : p.tables.exec = Jvm.exec) {x y : Int64} (hd : decode c.code pc = .ok (.lsub, 1)) (hr : Goes p.tables e below (T.setTop (mkF m (pc + 1) Ls (.long (x - y) :: st))) P) : Goes p.tables e below (T.setTop (mkF m pc Ls (.long y :: .long x :: st))) P := hr.of fun _ k => XT.lsub X.here hx rfl hd rfl k
theorem g_lmul (X : Stand p l e R s m args below meth c T locs cells slots) (hx : p.tables.exec = Jvm.exec) {x y : Int64} (hd : decode c.code pc = .ok (.lmul, 1)) (hr : Goes p.tables e below (T.setTop (mkF m (pc + 1) Ls (.long (x * y) :: st))) P) : Goes p.tables e below (T.setTop (mkF m pc Ls (.long y :: .long x :: st))) P := hr.of fun _ k => XT.lmul X.here hx rfl hd rfl k
theorem g_land (X : Stand p l e R s m args below meth c T locs cells slots) (hx : p.tables.exec = Jvm.exec) {x y : Int64} (hd : decode c.code pc = .ok (.land, 1)) (hr : Goes p.tables e below (T.setTop (mkF m (pc + 1) Ls (.long (x &&& y) :: st))) P) : Goes p.tables e below (T.setTop (mkF m pc Ls (.long y :: .long x :: st))) P := hr.of fun _ k => XT.land X.here hx rfl hd rfl k
theorem g_lor (X : Stand p l e R s m args below meth c T locs cells slots) (hx : p.tables.exec = Jvm.exec) {x y : Int64} (hd : decode c.code pc = .ok (.lor, 1)) (hr : Goes p.tables e below (T.setTop (mkF m (pc + 1) Ls (.long (x ||| y) :: st))) P) : Goes p.tables e below (T.setTop (mkF m pc Ls (.long y :: .long x :: st))) P := hr.of fun _ k => XT.lor X.here hx rfl hd rfl k
theorem g_lxor (X : Stand p l e R s m args below meth c T locs cells slots) (hx : p.tables.exec = Jvm.exec) {x y : Int64} (hd : decode c.code pc = .ok (.lxor, 1)) (hr : Goes p.tables e below (T.setTop (mkF m (pc + 1) Ls (.long (x ^^^ y) :: st))) P) : Goes p.tables e below (T.setTop (mkF m pc Ls (.long y :: .long x :: st))) P := hr.of fun _ k => XT.lxor X.here hx rfl hd rfl k
theorem g_lshl (X : Stand p l e R s m args below meth c T locs cells slots) (hx : p.tables.exec = Jvm.exec) {x : Int64} {y : Int32} (hd : decode c.code pc = .ok (.lshl, 1)) (hr : Goes p.tables e below (T.setTop (mkF m (pc + 1) Ls (.long (x <<< (y.toInt64 &&& 63)) :: st))) P) : Goes p.tables e below (T.setTop (mkF m pc Ls (.int y :: .long x :: st))) P := hr.of fun _ k => XT.lshl X.here hx rfl hd rfl k
theorem g_lshr (X : Stand p l e R s m args below meth c T locs cells slots) (hx : p.tables.exec = Jvm.exec) {x : Int64} {y : Int32} (hd : decode c.code pc = .ok (.lshr, 1)) (hr : Goes p.tables e below (T.setTop (mkF m (pc + 1) Ls (.long (x >>> (y.toInt64 &&& 63)) :: st))) P) : Goes p.tables e below (T.setTop (mkF m pc Ls (.int y :: .long x :: st))) P := hr.of fun _ k => XT.lshr X.here hx rfl hd rfl k
theorem g_lushr (X : Stand p l e R s m args below meth c T locs cells slots) (hx : p.tables.exec = Jvm.exec) {x : Int64} {y : Int32} (hd : decode c.code pc = .ok (.lushr, 1)) (hr : Goes p.tables e below (T.setTop (mkF m (pc + 1) Ls (.long (XT.ushrL x y) :: st))) P) : Goes p.tables e below (T.setTop (mkF m pc Ls (.int y :: .long x :: st))) P := hr.of fun _ k => XT.lushr X.here hx rfl hd rfl k
theorem g_idiv (X : Stand p l e R s m args below meth c T locs cells slots) (hx : p.tables.exec = Jvm.exec) {x y : Int32} (hd : decode c.code pc = .ok (.idiv, 1)) (hy : y ≠ 0) (hr : Goes p.tables e below (T.setTop (mkF m (pc + 1) Ls (.int (x / y) :: st))) P) : Goes p.tables e below (T.setTop (mkF m pc Ls (.int y :: .int x :: st))) P := hr.of fun _ k => XS.idiv X.here hx rfl hd rfl hy k
theorem g_irem (X : Stand p l e R s m args below meth c T locs cells slots) (hx : p.tables.exec = Jvm.exec) {x y : Int32} (hd : decode c.code pc = .ok (.irem, 1)) (hy : y ≠ 0) (hr : Goes p.tables e below (T.setTop (mkF m (pc + 1) Ls (.int (x % y) :: st))) P) : Goes p.tables e below (T.setTop (mkF m pc Ls (.int y :: .int x :: st))) P := hr.of fun _ k => iremM X hx rfl hd rfl hy k
theorem g_ldiv (X : Stand p l e R s m args below meth c T locs cells slots) (hx : p.tables.exec = Jvm.exec) {x y : Int64} (hd : decode c.code pc = .ok (.ldiv, 1)) (hy : y ≠ 0) (hr : Goes p.tables e below (T.setTop (mkF m (pc + 1) Ls (.long (x / y) :: st))) P) : Goes p.tables e below (T.setTop (mkF m pc Ls (.long y :: .long x :: st))) P := hr.of fun _ k => XT.ldiv X.here hx rfl hd rfl hy k
theorem g_lrem (X : Stand p l e R s m args below meth c T locs cells slots) (hx : p.tables.exec = Jvm.exec) {x y : Int64} (hd : decode c.code pc = .ok (.lrem, 1)) (hy : y ≠ 0) (hr : Goes p.tables e below (T.setTop (mkF m (pc + 1) Ls (.long (x % y) :: st))) P) : Goes p.tables e below (T.setTop (mkF m pc Ls (.long y :: .long x :: st))) P := hr.of fun _ k => XT.lrem X.here hx rfl hd rfl hy (by rw [lrem_mod]; exact k)
theorem g_ineg (X : Stand p l e R s m args below meth c T locs cells slots) (hx : p.tables.exec = Jvm.exec) {x : Int32} (hd : decode c.code pc = .ok (.ineg, 1)) (hr : Goes p.tables e below (T.setTop (mkF m (pc + 1) Ls (.int (-x) :: st))) P) : Goes p.tables e below (T.setTop (mkF m pc Ls (.int x :: st))) P := hr.of fun _ k => XS.ineg X.here hx rfl hd rfl k
theorem g_lneg (X : Stand p l e R s m args below meth c T locs cells slots) (hx : p.tables.exec = Jvm.exec) {x : Int64} (hd : decode c.code pc = .ok (.lneg, 1)) (hr : Goes p.tables e below (T.setTop (mkF m (pc + 1) Ls (.long (-x) :: st))) P) : Goes p.tables e below (T.setTop (mkF m pc Ls (.long x :: st))) P := hr.of fun _ k => XT.lneg X.here hx rfl hd rfl k
theorem g_i2l (X : Stand p l e R s m args below meth c T locs cells slots) (hx : p.tables.exec = Jvm.exec) {x : Int32} (hd : decode c.code pc = .ok (.i2l, 1)) (hr : Goes p.tables e below (T.setTop (mkF m (pc + 1) Ls (.long (x.toInt64) :: st))) P) : Goes p.tables e below (T.setTop (mkF m pc Ls (.int x :: st))) P := hr.of fun _ k => XT.i2l X.here hx rfl hd rfl k
theorem g_l2i (X : Stand p l e R s m args below meth c T locs cells slots) (hx : p.tables.exec = Jvm.exec) {x : Int64} (hd : decode c.code pc = .ok (.l2i, 1)) (hr : Goes p.tables e below (T.setTop (mkF m (pc + 1) Ls (.int (x.toInt32) :: st))) P) : Goes p.tables e below (T.setTop (mkF m pc Ls (.long x :: st))) P := hr.of fun _ k => XT.l2i X.here hx rfl hd rfl k
theorem g_i2b (X : Stand p l e R s m args below meth c T locs cells slots) (hx : p.tables.exec = Jvm.exec) {x : Int32} (hd : decode c.code pc = .ok (.i2b, 1)) (hr : Goes p.tables e below (T.setTop (mkF m (pc + 1) Ls (.int (x.toInt8.toInt32) :: st))) P) : Goes p.tables e below (T.setTop (mkF m pc Ls (.int x :: st))) P := hr.of fun _ k => XT.i2b X.here hx rfl hd rfl k
theorem g_i2c (X : Stand p l e R s m args below meth c T locs cells slots) (hx : p.tables.exec = Jvm.exec) {x : Int32} (hd : decode c.code pc = .ok (.i2c, 1)) (hr : Goes p.tables e below (T.setTop (mkF m (pc + 1) Ls (.int (x.toUInt32.toUInt16.toUInt32.toInt32) :: st))) P) : Goes p.tables e below (T.setTop (mkF m pc Ls (.int x :: st))) P := hr.of fun _ k => XT.i2c X.here hx rfl hd rfl k
theorem g_i2s (X : Stand p l e R s m args below meth c T locs cells slots) (hx : p.tables.exec = Jvm.exec) {x : Int32} (hd : decode c.code pc = .ok (.i2s, 1)) (hr : Goes p.tables e below (T.setTop (mkF m (pc + 1) Ls (.int (x.toInt16.toInt32) :: st))) P) : Goes p.tables e below (T.setTop (mkF m pc Ls (.int x :: st))) P := hr.of fun _ k => XT.i2s X.here hx rfl hd rfl k
theorem g_lcmp (X : Stand p l e R s m args below meth c T locs cells slots) (hx : p.tables.exec = Jvm.exec) {x y : Int64} (hd : decode c.code pc = .ok (.lcmp, 1)) (hr : Goes p.tables e below (T.setTop (mkF m (pc + 1) Ls (.int (XT.cmpL x y) :: st))) P) : Goes p.tables e below (T.setTop (mkF m pc Ls (.long y :: .long x :: st))) P := hr.of fun _ k => XT.lcmp X.here hx rfl hd rfl k
theorem g_dup (X : Stand p l e R s m args below meth c T locs cells slots) (hx : p.tables.exec = Jvm.exec) {x : Value} (hd : decode c.code pc = .ok (.dup, 1)) (hc : x.category = 1) (hr : Goes p.tables e below (T.setTop (mkF m (pc + 1) Ls (x :: x :: st))) P) : Goes p.tables e below (T.setTop (mkF m pc Ls (x :: st))) P := hr.of fun _ k => XS.dup X.here hx rfl hd rfl hc k
theorem g_pop (X : Stand p l e R s m args below meth c T locs cells slots) (hx : p.tables.exec = Jvm.exec) {x : Value} (hd : decode c.code pc = .ok (.pop, 1)) (hc : x.category = 1) (hr : Goes p.tables e below (T.setTop (mkF m (pc + 1) Ls st)) P) : Goes p.tables e below (T.setTop (mkF m pc Ls (x :: st))) P := hr.of fun _ k => XT.pop X.here hx rfl hd rfl hc k
theorem g_dupX1 (X : Stand p l e R s m args below meth c T locs cells slots) (hx : p.tables.exec = Jvm.exec) {x y : Value} (hd : decode c.code pc = .ok (.dup_x1, 1)) (hc : x.category = 1) (hc' : y.category = 1) (hr : Goes p.tables e below (T.setTop (mkF m (pc + 1) Ls (x :: y :: x :: st))) P) : Goes p.tables e below (T.setTop (mkF m pc Ls (x :: y :: st))) P := hr.of fun _ k => XT.dupX1 X.here hx rfl hd rfl hc hc' k
theorem g_dup2 (X : Stand p l e R s m args below meth c T locs cells slots) (hx : p.tables.exec = Jvm.exec) {x y : Value} (hd : decode c.code pc = .ok (.dup2, 1)) (hc : x.category = 1) (hc' : y.category = 1) (hr : Goes p.tables e below (T.setTop (mkF m (pc + 1) Ls (x :: y :: x :: y :: st))) P) : Goes p.tables e below (T.setTop (mkF m pc Ls (x :: y :: st))) P := hr.of fun _ k => XT.dup2 X.here hx rfl hd rfl hc hc' k
theorem g_dup2L (X : Stand p l e R s m args below meth c T locs cells slots) (hx : p.tables.exec = Jvm.exec) {x : Int64} (hd : decode c.code pc = .ok (.dup2, 1)) (hr : Goes p.tables e below (T.setTop (mkF m (pc + 1) Ls (.long x :: .long x :: st))) P) : Goes p.tables e below (T.setTop (mkF m pc Ls (.long x :: st))) P := hr.of fun _ k => XT.dup2L X.here hx rfl hd rfl k
theorem g_iinc (X : Stand p l e R s m args below meth c T locs cells slots) (hx : p.tables.exec = Jvm.exec) {k : Nat} {cst : Int} {x : Int32} {l' : Array Slot} (v : Int32) (hd : decode c.code pc = .ok (.iinc k cst, 3)) (hv : Int32.ofInt cst = v) (hl : Ls[k]? = some (.val (.int x))) (hl' : storeLocals Ls k (.int (x + v)) = some l') (hr : Goes p.tables e below (T.setTop (mkF m (pc + 3) l' st)) P) : Goes p.tables e below (T.setTop (mkF m pc Ls st)) P := hr.of fun _ k => XT.iincV X.here hx rfl v hd hv hl hl' k
theorem g_goto (X : Stand p l e R s m args below meth c T locs cells slots) (hx : p.tables.exec = Jvm.exec) {o : Int} {pc' : Nat} (hd : decode c.code pc = .ok (.goto o, 3)) (ho : 0 ≤ (pc : Int) + o) (hp : ((pc : Int) + o).toNat = pc') (hr : Goes p.tables e below (T.setTop (mkF m pc' Ls st)) P) : Goes p.tables e below (T.setTop (mkF m pc Ls st)) P := hr.of fun _ k => XS.goto X.here hx rfl rfl hd ho hp k
theorem g_icmp_eq (X : Stand p l e R s m args below meth c T locs cells slots) (hx : p.tables.exec = Jvm.exec) {x y : Int32} {o : Int} {pc' : Nat} (hd : decode c.code pc = .ok (.if_icmp .eq o, 3)) (ho : 0 ≤ (pc : Int) + o) (hp : ((pc : Int) + o).toNat = pc') (hT : (x = y) → Goes p.tables e below (T.setTop (mkF m pc' Ls st)) P) (hF : (¬ x = y) → Goes p.tables e below (T.setTop (mkF m (pc + 3) Ls st)) P) : Goes p.tables e below (T.setTop (mkF m pc Ls (.int y :: .int x :: st))) P := by
  by_cases q : x = y
  · exact (hT q).of fun _ k => XS.icmpYes X.here hx rfl rfl hd rfl (XT.ii_eq_t q) ho hp k
  · exact (hF q).of fun _ k => XS.icmpNo X.here hx rfl hd rfl (XT.ii_eq_f q) k
theorem g_if_eq (X : Stand p l e R s m args below meth c T locs cells slots) (hx : p.tables.exec = Jvm.exec) {x : Int32} {o : Int} {pc' : Nat} (hd : decode c.code pc = .ok (.ifCond .eq o, 3)) (ho : 0 ≤ (pc : Int) + o) (hp : ((pc : Int) + o).toNat = pc') (hT : (x = 0) → Goes p.tables e below (T.setTop (mkF m pc' Ls st)) P) (hF : (¬ x = 0) → Goes p.tables e below (T.setTop (mkF m (pc + 3) Ls st)) P) : Goes p.tables e below (T.setTop (mkF m pc Ls (.int x :: st))) P := by
  by_cases q : x = 0
  · exact (hT q).of fun _ k => XS.ifYes X.here hx rfl rfl hd rfl (XT.i0_eq_t q) ho hp k
  · exact (hF q).of fun _ k => XS.ifNo X.here hx rfl hd rfl (XT.i0_eq_f q) k
theorem g_lif_eq (X : Stand p l e R s m args below meth c T locs cells slots) (hx : p.tables.exec = Jvm.exec) {x y : Int64} {o : Int} {pc' : Nat} (hd : decode c.code pc = .ok (.ifCond .eq o, 3)) (ho : 0 ≤ (pc : Int) + o) (hp : ((pc : Int) + o).toNat = pc') (hT : (x = y) → Goes p.tables e below (T.setTop (mkF m pc' Ls st)) P) (hF : (¬ x = y) → Goes p.tables e below (T.setTop (mkF m (pc + 3) Ls st)) P) : Goes p.tables e below (T.setTop (mkF m pc Ls (.int (XT.cmpL x y) :: st))) P := by
  by_cases q : x = y
  · exact (hT q).of fun _ k => XS.ifYes X.here hx rfl rfl hd rfl (XT.ll_eq_t q) ho hp k
  · exact (hF q).of fun _ k => XS.ifNo X.here hx rfl hd rfl (XT.ll_eq_f q) k
theorem g_icmp_ne (X : Stand p l e R s m args below meth c T locs cells slots) (hx : p.tables.exec = Jvm.exec) {x y : Int32} {o : Int} {pc' : Nat} (hd : decode c.code pc = .ok (.if_icmp .ne o, 3)) (ho : 0 ≤ (pc : Int) + o) (hp : ((pc : Int) + o).toNat = pc') (hT : (¬ x = y) → Goes p.tables e below (T.setTop (mkF m pc' Ls st)) P) (hF : (x = y) → Goes p.tables e below (T.setTop (mkF m (pc + 3) Ls st)) P) : Goes p.tables e below (T.setTop (mkF m pc Ls (.int y :: .int x :: st))) P := by
  by_cases q : x = y
  · exact (hF q).of fun _ k => XS.icmpNo X.here hx rfl hd rfl (XT.ii_ne_f q) k
  · exact (hT q).of fun _ k => XS.icmpYes X.here hx rfl rfl hd rfl (XT.ii_ne_t q) ho hp k
theorem g_if_ne (X : Stand p l e R s m args below meth c T locs cells slots) (hx : p.tables.exec = Jvm.exec) {x : Int32} {o : Int} {pc' : Nat} (hd : decode c.code pc = .ok (.ifCond .ne o, 3)) (ho : 0 ≤ (pc : Int) + o) (hp : ((pc : Int) + o).toNat = pc') (hT : (¬ x = 0) → Goes p.tables e below (T.setTop (mkF m pc' Ls st)) P) (hF : (x = 0) → Goes p.tables e below (T.setTop (mkF m (pc + 3) Ls st)) P) : Goes p.tables e below (T.setTop (mkF m pc Ls (.int x :: st))) P := by
  by_cases q : x = 0
  · exact (hF q).of fun _ k => XS.ifNo X.here hx rfl hd rfl (XT.i0_ne_f q) k
  · exact (hT q).of fun _ k => XS.ifYes X.here hx rfl rfl hd rfl (XT.i0_ne_t q) ho hp k
theorem g_lif_ne (X : Stand p l e R s m args below meth c T locs cells slots) (hx : p.tables.exec = Jvm.exec) {x y : Int64} {o : Int} {pc' : Nat} (hd : decode c.code pc = .ok (.ifCond .ne o, 3)) (ho : 0 ≤ (pc : Int) + o) (hp : ((pc : Int) + o).toNat = pc') (hT : (¬ x = y) → Goes p.tables e below (T.setTop (mkF m pc' Ls st)) P) (hF : (x = y) → Goes p.tables e below (T.setTop (mkF m (pc + 3) Ls st)) P) : Goes p.tables e below (T.setTop (mkF m pc Ls (.int (XT.cmpL x y) :: st))) P := by
  by_cases q : x = y
  · exact (hF q).of fun _ k => XS.ifNo X.here hx rfl hd rfl (XT.ll_ne_f q) k
  · exact (hT q).of fun _ k => XS.ifYes X.here hx rfl rfl hd rfl (XT.ll_ne_t q) ho hp k
theorem g_icmp_lt (X : Stand p l e R s m args below meth c T locs cells slots) (hx : p.tables.exec = Jvm.exec) {x y : Int32} {o : Int} {pc' : Nat} (hd : decode c.code pc = .ok (.if_icmp .lt o, 3)) (ho : 0 ≤ (pc : Int) + o) (hp : ((pc : Int) + o).toNat = pc') (hT : (x < y) → Goes p.tables e below (T.setTop (mkF m pc' Ls st)) P) (hF : (¬ x < y) → Goes p.tables e below (T.setTop (mkF m (pc + 3) Ls st)) P) : Goes p.tables e below (T.setTop (mkF m pc Ls (.int y :: .int x :: st))) P := by
  by_cases q : x < y
  · exact (hT q).of fun _ k => XS.icmpYes X.here hx rfl rfl hd rfl (XT.ii_lt_t q) ho hp k
  · exact (hF q).of fun _ k => XS.icmpNo X.here hx rfl hd rfl (XT.ii_lt_f q) k
theorem g_if_lt (X : Stand p l e R s m args below meth c T locs cells slots) (hx : p.tables.exec = Jvm.exec) {x : Int32} {o : Int} {pc' : Nat} (hd : decode c.code pc = .ok (.ifCond .lt o, 3)) (ho : 0 ≤ (pc : Int) + o) (hp : ((pc : Int) + o).toNat = pc') (hT : (x < 0) → Goes p.tables e below (T.setTop (mkF m pc' Ls st)) P) (hF : (¬ x < 0) → Goes p.tables e below (T.setTop (mkF m (pc + 3) Ls st)) P) : Goes p.tables e below (T.setTop (mkF m pc Ls (.int x :: st))) P := by
  by_cases q : x < 0
  · exact (hT q).of fun _ k => XS.ifYes X.here hx rfl rfl hd rfl (XT.i0_lt_t q) ho hp k
  · exact (hF q).of fun _ k => XS.ifNo X.here hx rfl hd rfl (XT.i0_lt_f q) k
theorem g_lif_lt (X : Stand p l e R s m args below meth c T locs cells slots) (hx : p.tables.exec = Jvm.exec) {x y : Int64} {o : Int} {pc' : Nat} (hd : decode c.code pc = .ok (.ifCond .lt o, 3)) (ho : 0 ≤ (pc : Int) + o) (hp : ((pc : Int) + o).toNat = pc') (hT : (x < y) → Goes p.tables e below (T.setTop (mkF m pc' Ls st)) P) (hF : (¬ x < y) → Goes p.tables e below (T.setTop (mkF m (pc + 3) Ls st)) P) : Goes p.tables e below (T.setTop (mkF m pc Ls (.int (XT.cmpL x y) :: st))) P := by
  by_cases q : x < y
  · exact (hT q).of fun _ k => XS.ifYes X.here hx rfl rfl hd rfl (XT.ll_lt_t q) ho hp k
  · exact (hF q).of fun _ k => XS.ifNo X.here hx rfl hd rfl (XT.ll_lt_f q) k
theorem g_icmp_ge (X : Stand p l e R s m args below meth c T locs cells slots) (hx : p.tables.exec = Jvm.exec) {x y : Int32} {o : Int} {pc' : Nat} (hd : decode c.code pc = .ok (.if_icmp .ge o, 3)) (ho : 0 ≤ (pc : Int) + o) (hp : ((pc : Int) + o).toNat = pc') (hT : (¬ x < y) → Goes p.tables e below (T.setTop (mkF m pc' Ls st)) P) (hF : (x < y) → Goes p.tables e below (T.setTop (mkF m (pc + 3) Ls st)) P) : Goes p.tables e below (T.setTop (mkF m pc Ls (.int y :: .int x :: st))) P := by
  by_cases q : x < y
  · exact (hF q).of fun _ k => XS.icmpNo X.here hx rfl hd rfl (XT.ii_ge_f q) k
  · exact (hT q).of fun _ k => XS.icmpYes X.here hx rfl rfl hd rfl (XT.ii_ge_t q) ho hp k
theorem g_if_ge (X : Stand p l e R s m args below meth c T locs cells slots) (hx : p.tables.exec = Jvm.exec) {x : Int32} {o : Int} {pc' : Nat} (hd : decode c.code pc = .ok (.ifCond .ge o, 3)) (ho : 0 ≤ (pc : Int) + o) (hp : ((pc : Int) + o).toNat = pc') (hT : (¬ x < 0) → Goes p.tables e below (T.setTop (mkF m pc' Ls st)) P) (hF : (x < 0) → Goes p.tables e below (T.setTop (mkF m (pc + 3) Ls st)) P) : Goes p.tables e below (T.setTop (mkF m pc Ls (.int x :: st))) P := by
  by_cases q : x < 0
  · exact (hF q).of fun _ k => XS.ifNo X.here hx rfl hd rfl (XT.i0_ge_f q) k
  · exact (hT q).of fun _ k => XS.ifYes X.here hx rfl rfl hd rfl (XT.i0_ge_t q) ho hp k
theorem g_lif_ge (X : Stand p l e R s m args below meth c T locs cells slots) (hx : p.tables.exec = Jvm.exec) {x y : Int64} {o : Int} {pc' : Nat} (hd : decode c.code pc = .ok (.ifCond .ge o, 3)) (ho : 0 ≤ (pc : Int) + o) (hp : ((pc : Int) + o).toNat = pc') (hT : (¬ x < y) → Goes p.tables e below (T.setTop (mkF m pc' Ls st)) P) (hF : (x < y) → Goes p.tables e below (T.setTop (mkF m (pc + 3) Ls st)) P) : Goes p.tables e below (T.setTop (mkF m pc Ls (.int (XT.cmpL x y) :: st))) P := by
  by_cases q : x < y
  · exact (hF q).of fun _ k => XS.ifNo X.here hx rfl hd rfl (XT.ll_ge_f q) k
  · exact (hT q).of fun _ k => XS.ifYes X.here hx rfl rfl hd rfl (XT.ll_ge_t q) ho hp k
theorem g_icmp_gt (X : Stand p l e R s m args below meth c T locs cells slots) (hx : p.tables.exec = Jvm.exec) {x y : Int32} {o : Int} {pc' : Nat} (hd : decode c.code pc = .ok (.if_icmp .gt o, 3)) (ho : 0 ≤ (pc : Int) + o) (hp : ((pc : Int) + o).toNat = pc') (hT : (y < x) → Goes p.tables e below (T.setTop (mkF m pc' Ls st)) P) (hF : (¬ y < x) → Goes p.tables e below (T.setTop (mkF m (pc + 3) Ls st)) P) : Goes p.tables e below (T.setTop (mkF m pc Ls (.int y :: .int x :: st))) P := by
  by_cases q : y < x
  · exact (hT q).of fun _ k => XS.icmpYes X.here hx rfl rfl hd rfl (XT.ii_gt_t q) ho hp k
  · exact (hF q).of fun _ k => XS.icmpNo X.here hx rfl hd rfl (XT.ii_gt_f q) k
theorem g_if_gt (X : Stand p l e R s m args below meth c T locs cells slots) (hx : p.tables.exec = Jvm.exec) {x : Int32} {o : Int} {pc' : Nat} (hd : decode c.code pc = .ok (.ifCond .gt o, 3)) (ho : 0 ≤ (pc : Int) + o) (hp : ((pc : Int) + o).toNat = pc') (hT : (0 < x) → Goes p.tables e below (T.setTop (mkF m pc' Ls st)) P) (hF : (¬ 0 < x) → Goes p.tables e below (T.setTop (mkF m (pc + 3) Ls st)) P) : Goes p.tables e below (T.setTop (mkF m pc Ls (.int x :: st))) P := by
  by_cases q : 0 < x
  · exact (hT q).of fun _ k => XS.ifYes X.here hx rfl rfl hd rfl (XT.i0_gt_t q) ho hp k
  · exact (hF q).of fun _ k => XS.ifNo X.here hx rfl hd rfl (XT.i0_gt_f q) k
theorem g_lif_gt (X : Stand p l e R s m args below meth c T locs cells slots) (hx : p.tables.exec = Jvm.exec) {x y : Int64} {o : Int} {pc' : Nat} (hd : decode c.code pc = .ok (.ifCond .gt o, 3)) (ho : 0 ≤ (pc : Int) + o) (hp : ((pc : Int) + o).toNat = pc') (hT : (y < x) → Goes p.tables e below (T.setTop (mkF m pc' Ls st)) P) (hF : (¬ y < x) → Goes p.tables e below (T.setTop (mkF m (pc + 3) Ls st)) P) : Goes p.tables e below (T.setTop (mkF m pc Ls (.int (XT.cmpL x y) :: st))) P := by
  by_cases q : y < x
  · exact (hT q).of fun _ k => XS.ifYes X.here hx rfl rfl hd rfl (XT.ll_gt_t q) ho hp k
  · exact (hF q).of fun _ k => XS.ifNo X.here hx rfl hd rfl (XT.ll_gt_f q) k
theorem g_icmp_le (X : Stand p l e R s m args below meth c T locs cells slots) (hx : p.tables.exec = Jvm.exec) {x y : Int32} {o : Int} {pc' : Nat} (hd : decode c.code pc = .ok (.if_icmp .le o, 3)) (ho : 0 ≤ (pc : Int) + o) (hp : ((pc : Int) + o).toNat = pc') (hT : (¬ y < x) → Goes p.tables e below (T.setTop (mkF m pc' Ls st)) P) (hF : (y < x) → Goes p.tables e below (T.setTop (mkF m (pc + 3) Ls st)) P) : Goes p.tables e below (T.setTop (mkF m pc Ls (.int y :: .int x :: st))) P := by
  by_cases q : y < x
  · exact (hF q).of fun _ k => XS.icmpNo X.here hx rfl hd rfl (XT.ii_le_f q) k
  · exact (hT q).of fun _ k => XS.icmpYes X.here hx rfl rfl hd rfl (XT.ii_le_t q) ho hp k
theorem g_if_le (X : Stand p l e R s m args below meth c T locs cells slots) (hx : p.tables.exec = Jvm.exec) {x : Int32} {o : Int} {pc' : Nat} (hd : decode c.code pc = .ok (.ifCond .le o, 3)) (ho : 0 ≤ (pc : Int) + o) (hp : ((pc : Int) + o).toNat = pc') (hT : (¬ 0 < x) → Goes p.tables e below (T.setTop (mkF m pc' Ls st)) P) (hF : (0 < x) → Goes p.tables e below (T.setTop (mkF m (pc + 3) Ls st)) P) : Goes p.tables e below (T.setTop (mkF m pc Ls (.int x :: st))) P := by
  by_cases q : 0 < x
  · exact (hF q).of fun _ k => XS.ifNo X.here hx rfl hd rfl (XT.i0_le_f q) k
  · exact (hT q).of fun _ k => XS.ifYes X.here hx rfl rfl hd rfl (XT.i0_le_t q) ho hp k
theorem g_lif_le (X : Stand p l e R s m args below meth c T locs cells slots) (hx : p.tables.exec = Jvm.exec) {x y : Int64} {o : Int} {pc' : Nat} (hd : decode c.code pc = .ok (.ifCond .le o, 3)) (ho : 0 ≤ (pc : Int) + o) (hp : ((pc : Int) + o).toNat = pc') (hT : (¬ y < x) → Goes p.tables e below (T.setTop (mkF m pc' Ls st)) P) (hF : (y < x) → Goes p.tables e below (T.setTop (mkF m (pc + 3) Ls st)) P) : Goes p.tables e below (T.setTop (mkF m pc Ls (.int (XT.cmpL x y) :: st))) P := by
  by_cases q : y < x
  · exact (hF q).of fun _ k => XS.ifNo X.here hx rfl hd rfl (XT.ll_le_f q) k
  · exact (hT q).of fun _ k => XS.ifYes X.here hx rfl rfl hd rfl (XT.ll_le_t q) ho hp k
theorem g_ifnull_ref (X : Stand p l e R s m args below meth c T locs cells slots) (hx : p.tables.exec = Jvm.exec) {b : Addr} {o : Int} (hd : decode c.code pc = .ok (.ifnull o, 3)) (hr : Goes p.tables e below (T.setTop (mkF m (pc + 3) Ls st)) P) : Goes p.tables e below (T.setTop (mkF m pc Ls (.ref b :: st))) P := hr.of fun _ k => XS.ifnullNo X.here hx rfl hd rfl k
theorem g_ifnull_null (X : Stand p l e R s m args below meth c T locs cells slots) (hx : p.tables.exec = Jvm.exec)  {o : Int} {pc' : Nat} (hd : decode c.code pc = .ok (.ifnull o, 3)) (ho : 0 ≤ (pc : Int) + o) (hp : ((pc : Int) + o).toNat = pc') (hr : Goes p.tables e below (T.setTop (mkF m pc' Ls st)) P) : Goes p.tables e below (T.setTop (mkF m pc Ls (.null :: st))) P := hr.of fun _ k => XS.ifnullYes X.here hx rfl rfl hd rfl ho hp k
theorem g_ifnonnull_ref (X : Stand p l e R s m args below meth c T locs cells slots) (hx : p.tables.exec = Jvm.exec) {b : Addr} {o : Int} {pc' : Nat} (hd : decode c.code pc = .ok (.ifnonnull o, 3)) (ho : 0 ≤ (pc : Int) + o) (hp : ((pc : Int) + o).toNat = pc') (hr : Goes p.tables e below (T.setTop (mkF m pc' Ls st)) P) : Goes p.tables e below (T.setTop (mkF m pc Ls (.ref b :: st))) P := hr.of fun _ k => XT.ifnonnullYes X.here hx rfl rfl hd rfl ho hp k
theorem g_ifnonnull_null (X : Stand p l e R s m args below meth c T locs cells slots) (hx : p.tables.exec = Jvm.exec)  {o : Int} (hd : decode c.code pc = .ok (.ifnonnull o, 3)) (hr : Goes p.tables e below (T.setTop (mkF m (pc + 3) Ls st)) P) : Goes p.tables e below (T.setTop (mkF m pc Ls (.null :: st))) P := hr.of fun _ k => XT.ifnonnullNo X.here hx rfl hd rfl k
theorem g_acmp_eq (X : Stand p l e R s m args below meth c T locs cells slots) (hx : p.tables.exec = Jvm.exec) {x y : Value} (hx' : x.isRef = true) (hy' : y.isRef = true) {o : Int} {pc' : Nat} (hd : decode c.code pc = .ok (.if_acmp .eq o, 3)) (ho : 0 ≤ (pc : Int) + o) (hp : ((pc : Int) + o).toNat = pc') (hT : (x = y) → Goes p.tables e below (T.setTop (mkF m pc' Ls st)) P) (hF : (¬ x = y) → Goes p.tables e below (T.setTop (mkF m (pc + 3) Ls st)) P) : Goes p.tables e below (T.setTop (mkF m pc Ls (y :: x :: st))) P := by
  by_cases q : x = y
  · exact (hT q).of fun _ k => XT.acmpYes X.here hx rfl rfl hd rfl hx' hy' (by simp [XT.acmp, q]) ho hp k
  · exact (hF q).of fun _ k => XT.acmpNo X.here hx rfl hd rfl hx' hy' (by simp [XT.acmp, q]) k
theorem g_acmp_ne (X : Stand p l e R s m args below meth c T locs cells slots) (hx : p.tables.exec = Jvm.exec) {x y : Value} (hx' : x.isRef = true) (hy' : y.isRef = true) {o : Int} {pc' : Nat} (hd : decode c.code pc = .ok (.if_acmp .ne o, 3)) (ho : 0 ≤ (pc : Int) + o) (hp : ((pc : Int) + o).toNat = pc') (hT : (¬ x = y) → Goes p.tables e below (T.setTop (mkF m pc' Ls st)) P) (hF : (x = y) → Goes p.tables e below (T.setTop (mkF m (pc + 3) Ls st)) P) : Goes p.tables e below (T.setTop (mkF m pc Ls (y :: x :: st))) P := by
  by_cases q : x = y
  · exact (hF q).of fun _ k => XT.acmpNo X.here hx rfl hd rfl hx' hy' (by simp [XT.acmp, q]) k
  · exact (hT q).of fun _ k => XT.acmpYes X.here hx rfl rfl hd rfl hx' hy' (by simp [XT.acmp, q]) ho hp k
/-- what a body owes at its end: it returned v, Q holds of it, the heap and the places written, within C cells and N slots -/
abbrev Fin (s : State) (C N : Nat) (Q : Option Value → Heap → List Loc → Prop) : State → Outcome → Prop := fun s₂ o => ∃ v L, o = .returned v ∧ Q v s₂.heap L ∧ FrameEnd s o s₂ L C N
variable {C N : Nat} {Q : Option Value → Heap → List Loc → Prop}
theorem g_ret (X : Stand p l e R s m args below meth c T locs cells slots) (hx : p.tables.exec = Jvm.exec) {w : Value} {t : FieldType} {i : Instr} (hret : meth.sig.returnType = some t) (hk : meth.locks = false) (hn : narrow t w = w)
    (hi : (i = .ireturn ∧ (t = .int ∨ t = .boolean ∨ t = .byte ∨ t = .char ∨ t = .short) ∧ ∃ z, w = .int z) ∨ (i = .lreturn ∧ t = .long ∧ ∃ z, w = .long z) ∨ (i = .dreturn ∧ t = .double ∧ ∃ z, w = .double z) ∨ (i = .freturn ∧ t = .float ∧ ∃ z, w = .float z) ∨ (i = .areturn ∧ t.isReference = true ∧ w.isRef = true))
    (hd : decode c.code pc = .ok (i, 1)) (hc : cells ≤ C) (hs : slots ≤ N) (hQ : Q (some w) T.heap locs) : Goes p.tables e below (T.setTop (mkF m pc Ls (w :: st))) (Fin s C N Q) := by
  obtain ⟨fs, hr, hrun, hended, hW, hsame⟩ := X.leave (v := some w) (fun h => by rw [hret] at h; cases h) hk
  exact ⟨_, _, retOut X hx hret hn hi hd hr, hrun, hended, _, _, rfl, hQ, ⟨_, rfl⟩, hW, hsame.mono hc hs⟩
theorem g_retI (X : Stand p l e R s m args below meth c T locs cells slots) (hx : p.tables.exec = Jvm.exec) {z : Int32} (hret : meth.sig.returnType = some .int) (hk : meth.locks = false) (hd : decode c.code pc = .ok (.ireturn, 1)) (hc : cells ≤ C) (hs : slots ≤ N) (hQ : Q (some (.int z)) T.heap locs) :
    Goes p.tables e below (T.setTop (mkF m pc Ls (.int z :: st))) (Fin s C N Q) := g_ret X hx hret hk rfl (Or.inl ⟨rfl, Or.inl rfl, _, rfl⟩) hd hc hs hQ
theorem g_retL (X : Stand p l e R s m args below meth c T locs cells slots) (hx : p.tables.exec = Jvm.exec) {z : Int64} (hret : meth.sig.returnType = some .long) (hk : meth.locks = false) (hd : decode c.code pc = .ok (.lreturn, 1)) (hc : cells ≤ C) (hs : slots ≤ N) (hQ : Q (some (.long z)) T.heap locs) :
    Goes p.tables e below (T.setTop (mkF m pc Ls (.long z :: st))) (Fin s C N Q) := g_ret X hx hret hk rfl (Or.inr (Or.inl ⟨rfl, rfl, _, rfl⟩)) hd hc hs hQ
theorem g_retA (X : Stand p l e R s m args below meth c T locs cells slots) (hx : p.tables.exec = Jvm.exec) {w : Value} {t : FieldType} (hret : meth.sig.returnType = some t) (hk : meth.locks = false) (ht : t.isReference = true) (hw : w.isRef = true) (hd : decode c.code pc = .ok (.areturn, 1)) (hc : cells ≤ C) (hs : slots ≤ N) (hQ : Q (some w) T.heap locs) :
    Goes p.tables e below (T.setTop (mkF m pc Ls (w :: st))) (Fin s C N Q) := g_ret X hx hret hk (by cases t <;> simp [FieldType.isReference] at ht <;> cases w <;> simp [Value.isRef] at hw <;> rfl) (Or.inr (Or.inr (Or.inr (Or.inr ⟨rfl, ht, hw⟩)))) hd hc hs hQ
theorem g_retZ (X : Stand p l e R s m args below meth c T locs cells slots) (hx : p.tables.exec = Jvm.exec) {z : Int32} (hz : z = 0 ∨ z = 1) (hret : meth.sig.returnType = some .boolean) (hk : meth.locks = false) (hd : decode c.code pc = .ok (.ireturn, 1)) (hc : cells ≤ C) (hs : slots ≤ N) (hQ : Q (some (.int z)) T.heap locs) :
    Goes p.tables e below (T.setTop (mkF m pc Ls (.int z :: st))) (Fin s C N Q) := g_ret X hx hret hk (by rcases hz with rfl | rfl <;> rfl) (Or.inl ⟨rfl, Or.inr (Or.inl rfl), _, rfl⟩) hd hc hs hQ
theorem g_retB (X : Stand p l e R s m args below meth c T locs cells slots) (hx : p.tables.exec = Jvm.exec) {z : Int32} (hz : z.toInt8.toInt32 = z) (hret : meth.sig.returnType = some .byte) (hk : meth.locks = false) (hd : decode c.code pc = .ok (.ireturn, 1)) (hc : cells ≤ C) (hs : slots ≤ N) (hQ : Q (some (.int z)) T.heap locs) :
    Goes p.tables e below (T.setTop (mkF m pc Ls (.int z :: st))) (Fin s C N Q) := g_ret X hx hret hk (by show Value.int z.toInt8.toInt32 = _; rw [hz]) (Or.inl ⟨rfl, Or.inr (Or.inr (Or.inl rfl)), _, rfl⟩) hd hc hs hQ
theorem g_ret0 (X : Stand p l e R s m args below meth c T locs cells slots) (hx : p.tables.exec = Jvm.exec) (hret : meth.sig.returnType = none) (hk : meth.locks = false) (hd : decode c.code pc = .ok (.return_, 1)) (hc : cells ≤ C) (hs : slots ≤ N) (hQ : Q none T.heap locs) :
    Goes p.tables e below (T.setTop (mkF m pc Ls [])) (Fin s C N Q) := by
  obtain ⟨fs, hr, hrun, hended, hW, hsame⟩ := X.leave (v := none) (fun _ => rfl) hk
  exact ⟨_, _, X.returnOut hx hret hd hr, hrun, hended, _, _, rfl, hQ, ⟨_, rfl⟩, hW, hsame.mono hc hs⟩
/-- the contract of a body, at these arguments and this heap -/
def Con (l : Launch) (Z : State) (y : MethodName) (bytes : ByteArray) (maxL : Nat) (ret : Option FieldType) (ws : List Jvm.Cond) (rm : Room) (C N : Nat) (as' : Array Value) (h : Heap) (Q : Option Value → Heap → List Loc → Prop) : Prop :=
  MetFree l y (head1 (Jvm.Cond.code y bytes maxL ret :: ws) rm) (fun a U => a = as' ∧ Z.Warmed39 U.vm ∧ U.heap = h) (fun _ _ _ _ _ => True) (fun _ U o U' => ∃ v L, o = .returned v ∧ Q v U'.heap L ∧ FrameEnd U o U' L C N)
theorem Con.body {y : MethodName} {bytes : ByteArray} {maxL : Nat} {ret : Option FieldType} {ws : List Jvm.Cond} {rm : Room} {as' : Array Value} (hp : plainFor y = true)
    (body : ∀ (p : Program) (e : Env) (s : State) (m : MethodId) (below : List Frame) (meth : Method) (c : Code) (T : State), p.tables.exec = Jvm.exec → c.code = bytes → c.maxLocals = maxL → s.vm.findClass y.cls = some m.cls → meth.name = y.name → Z.Warmed39 s.vm → meth.sig.returnType = ret → meth.locks = false →
      Stand p l e rm s m as' below meth c T [] 0 0 → T.heap = h → Goes p.tables e below (T.setTop (entryFrame m as' maxL)) (Fin s C N Q)) : Con l Z y bytes maxL ret ws rm C N as' h Q := by
  refine MetFree.of_bodySF hp hisR ?_
  intro p e s m args below meth c s₁ Bd hml hP hK
  obtain ⟨rfl, hZ, hh⟩ := hP
  exact body p e s m below meth c s₁ Bd.exec Bd.bytes hml (findClass_of_methodNamed Bd.named) (name_of_methodNamed Bd.named Bd.method).1 hZ Bd.returns (BodyLoose.notSynchronized Bd) (Stand.of_body Bd) (by rw [← hh, Bd.state]; rfl)
variable {y : MethodName} {bytes : ByteArray} {maxL : Nat} {ret : Option FieldType} {rm : Room} {as' : Array Value} {own : String} {index W : Nat} {argsL : List Value}
/-- a static call by the callee's contract -/
theorem g_callS (X : Stand p l e R s m args below meth c T locs cells slots) (hx : p.tables.exec = Jvm.exec) (hZ : Z.Warmed39 s.vm) (hown : s.vm.findClass own = some m.cls) (hml : Ls.size = c.maxLocals) (eT : T.heap = h)
    (wl : (Jvm.Cond.methodLink own index y).before a0 Z = true) (wt : (Jvm.Cond.static y).before a0 Z = true) (wz : (Jvm.Cond.initialized y.cls).before a0 Z = true) (wc : (Jvm.Cond.code y bytes maxL ret).before a0 Z = true)
    (hM : Con l Z y bytes maxL ret [] rm rm.cells rm.slots as' h Q) (argsL : List Value) (has : argsL.toArray = as') {S : List Value} (st : List Value) (hS : S = argsL.reverse ++ st) (hlen : ∀ sig, parseMethodDescriptor y.desc = some sig → argsL.length = sig.parameters.length)
    (hd : decode c.code pc = .ok (.invokestatic index, 3)) (hy : y.cls ≠ "java/lang/invoke/MethodHandle" ∧ y.cls ≠ "java/lang/invoke/VarHandle") (W : Nat) (hf : rm.frames + 1 ≤ R.frames) (hl : W + (maxL + 11) + rm.locals ≤ R.locals) (hW : (st.map fun v => v.category).sum ≤ W) (hc : cells + rm.cells ≤ R.cells) (hs : slots + rm.slots ≤ R.slots)
    (k : ∀ v T' L, Stand p l e R s m args below meth c T' (locs ++ L) (cells + rm.cells) (slots + rm.slots) → Q v T'.heap L → Goes p.tables e below (T'.setTop (mkF m (pc + 3) Ls (v.toList ++ st))) P) :
    Goes p.tables e below (T.setTop (mkF m pc Ls S)) P := by
  subst hS
  obtain ⟨v, vm₁, ⟨T', L', k', n'⟩, -, X', ⟨L, hQ, e1, e2, e3⟩, st'⟩ := Jvm.LawKit.callS X hx (y := y) hown (mvT hZ wl) (mvT hZ wt) (mvT hZ wz) (mvT hZ wc) hy (backOf (W := W) hM hZ wc wz hf hl) (g := mkF m pc Ls (argsL.reverse ++ st)) rfl hml (argsL := argsL) (rest := st) hlen rfl (by show 2 * 0 + _ ≤ _; omega) hd (fun _ _ => ⟨has, eT, hc, hs⟩)
  dsimp only [Pt.U, Pt.locs, Pt.cells, Pt.slots] at X' e1 e2 e3 st' hQ
  subst e1 e2 e3
  exact (k v T' L X' hQ).of st'
/-- a constructor by its contract -/
theorem g_callI (X : Stand p l e R s m args below meth c T locs cells slots) (hx : p.tables.exec = Jvm.exec) (hZ : Z.Warmed39 s.vm) (hown : s.vm.findClass own = some m.cls) (hml : Ls.size = c.maxLocals) (eT : T.heap = h) (hn : y.name = "<init>")
    (wl : (Jvm.Cond.methodLink own index y).before a0 Z = true) (wt : (Jvm.Cond.instanceMethod y).before a0 Z = true) (wz : (Jvm.Cond.initialized y.cls).before a0 Z = true) (wc : (Jvm.Cond.code y bytes maxL none).before a0 Z = true)
    (hM : Con l Z y bytes maxL none [] rm rm.cells rm.slots as' h Q) (a : Addr) (argsL : List Value) (has : (.ref a :: argsL).toArray = as') {S : List Value} (st : List Value) (hS : S = argsL.reverse ++ .ref a :: st) (hlen : ∀ sig, parseMethodDescriptor y.desc = some sig → argsL.length = sig.parameters.length)
    (hd : decode c.code pc = .ok (.invokespecial index, 3)) (hy : y.cls ≠ "java/lang/invoke/MethodHandle" ∧ y.cls ≠ "java/lang/invoke/VarHandle") (W : Nat) (hf : rm.frames + 1 ≤ R.frames) (hl : W + (maxL + 11) + rm.locals ≤ R.locals) (hW : (st.map fun v => v.category).sum ≤ W) (hc : cells + rm.cells ≤ R.cells) (hs : slots + rm.slots ≤ R.slots)
    (k : ∀ v T' L, Stand p l e R s m args below meth c T' (locs ++ L) (cells + rm.cells) (slots + rm.slots) → Q v T'.heap L → Goes p.tables e below (T'.setTop (mkF m (pc + 3) Ls (v.toList ++ st))) P) :
    Goes p.tables e below (T.setTop (mkF m pc Ls S)) P := by
  subst hS
  obtain ⟨v, vm₁, ⟨T', L', k', n'⟩, -, X', ⟨L, hQ, e1, e2, e3⟩, st'⟩ := X.specialBack hx (y := y) hn hown (mvT hZ wl) (mvT hZ wt) (mvT hZ wc) hy (backOf (W := W) hM hZ wc wz hf hl) (g := mkF m pc Ls (argsL.reverse ++ .ref a :: st)) rfl hml (Steps.refl _) (a := a) (argsL := argsL) (rest := st) hlen rfl (by show 2 * 0 + _ ≤ _; omega) hd (fun _ _ => ⟨has, eT, hc, hs⟩)
  dsimp only [Pt.U, Pt.locs, Pt.cells, Pt.slots] at X' e1 e2 e3 st' hQ
  subst e1 e2 e3
  exact (k v T' L X' hQ).tr st'
/-- an instance method by its contract -/
theorem g_callV (X : Stand p l e R s m args below meth c T locs cells slots) (hx : p.tables.exec = Jvm.exec) (hZ : Z.Warmed39 s.vm) (hown : s.vm.findClass own = some m.cls) (hml : Ls.size = c.maxLocals) (eT : T.heap = h) {K : String}
    (wl : (Jvm.Cond.methodLink own index y).before a0 Z = true) (wd : (Jvm.Cond.declares y).before a0 Z = true) (wv : (Jvm.Cond.selects K y y).before a0 Z = true) (wt : (Jvm.Cond.instanceMethod y).before a0 Z = true) (wz : (Jvm.Cond.initialized y.cls).before a0 Z = true) (wc : (Jvm.Cond.code y bytes maxL ret).before a0 Z = true)
    {a : Addr} (E : Exa Z h a K) (hM : Con l Z y bytes maxL ret [] rm rm.cells rm.slots as' h Q) (argsL : List Value) (has : (.ref a :: argsL).toArray = as') {S : List Value} (st : List Value) (hS : S = argsL.reverse ++ .ref a :: st) (hlen : ∀ sig, parseMethodDescriptor y.desc = some sig → argsL.length = sig.parameters.length)
    (hd : decode c.code pc = .ok (.invokevirtual index, 3)) (hy : y.cls ≠ "java/lang/invoke/MethodHandle" ∧ y.cls ≠ "java/lang/invoke/VarHandle") (W : Nat) (hf : rm.frames + 1 ≤ R.frames) (hl : W + (maxL + 11) + rm.locals ≤ R.locals) (hW : (st.map fun v => v.category).sum ≤ W) (hc : cells + rm.cells ≤ R.cells) (hs : slots + rm.slots ≤ R.slots)
    (k : ∀ v T' L, Stand p l e R s m args below meth c T' (locs ++ L) (cells + rm.cells) (slots + rm.slots) → Q v T'.heap L → Goes p.tables e below (T'.setTop (mkF m (pc + 3) Ls (v.toList ++ st))) P) :
    Goes p.tables e below (T.setTop (mkF m pc Ls S)) P := by
  subst hS
  obtain ⟨cq, kq, qa, qb, qc⟩ := isOf hZ eT E
  obtain ⟨v, vm₁, ⟨T', L', k', n'⟩, -, X', ⟨L, hQ, e1, e2, e3⟩, st'⟩ := X.virtualBack hx (y := y) (z := y) hown (mvT hZ wl) (mvT hZ wd) (notFace_of_selects (args := #[]) (mvT hZ wv)) (mvT hZ wv) (mvT hZ wt) hy (backOf (W := W) hM hZ wc wz hf hl) qa qc (g := mkF m pc Ls (argsL.reverse ++ .ref a :: st)) rfl hml (Steps.refl _) (argsL := argsL) (rest := st) hlen rfl (by show 2 * 0 + _ ≤ _; omega) hd (fun _ _ => ⟨has, eT, hc, hs⟩)
  dsimp only [Pt.U, Pt.locs, Pt.cells, Pt.slots] at X' e1 e2 e3 st' hQ
  subst e1 e2 e3
  exact (k v T' L X' hQ).tr st'
/-! objects -/
section Objects
variable {own K O R0 nm d host : String} {index kk : Nat} {a : Addr}
theorem g_new (X : Stand p l e R s m args below meth c T locs cells slots) (hx : p.tables.exec = Jvm.exec) (hZ : Z.Warmed39 s.vm) (hown : s.vm.findClass own = some m.cls) (eT : T.heap = h) (w : (Jvm.Cond.classLink own index K).before a0 Z = true) (wi : (Jvm.Cond.instantiable K kk).before a0 Z = true) (wz : (Jvm.Cond.initialized K).before a0 Z = true)
    (hd : decode c.code pc = .ok (.new index, 3)) (hc : cells + 1 ≤ R.cells) (hl : slots + kk ≤ R.slots)
    (k : ∀ T' h' a, a = h.size → Stand p l e R s m args below meth c T' locs (cells + 1) (slots + kk) → T'.heap = h' → Ext h h' → Exa Z h' a K → (∀ {O nm d : String} {ty : FieldType}, Laid Z a0 K O nm d → parseFieldDescriptor d = some ty → Fld Z h' a O nm d (defaultValue ty)) → Goes p.tables e below (T'.setTop (mkF m (pc + 3) Ls (.ref a :: st))) P) :
    Goes p.tables e below (T.setTop (mkF m pc Ls st)) P := by
  obtain ⟨T', h', X', e', E, A, D, -, st'⟩ := newO X hx hZ hown w wi wz eT (g := mkF m pc Ls st) rfl hd hc hl
  exact (k T' h' _ rfl X' e' E A D).of st'
theorem g_init0 (X : Stand p l e R s m args below meth c T locs cells slots) (hx : p.tables.exec = Jvm.exec) (hZ : Z.Warmed39 s.vm) (hown : s.vm.findClass own = some m.cls) (hml : Ls.size = c.maxLocals) (eT : T.heap = h) (w1 : (Jvm.Cond.methodLink own index Lib.objectInit).before a0 Z = true) (w2 : (Jvm.Cond.instanceMethod Lib.objectInit).before a0 Z = true)
    (w3 : (Jvm.Cond.code Lib.objectInit ⟨#[0xb1]⟩ 1 none).before a0 Z = true) (hd : decode c.code pc = .ok (.invokespecial index, 3)) (W : Nat) (hf : 1 ≤ R.frames) (hW : (st.map fun v => v.category).sum ≤ W) (hl : W + 12 ≤ R.locals)
    (k : ∀ T', Stand p l e R s m args below meth c T' locs cells slots → T'.heap = h → Goes p.tables e below (T'.setTop (mkF m (pc + 3) Ls st)) P) : Goes p.tables e below (T.setTop (mkF m pc Ls (.ref a :: st))) P := by
  obtain ⟨T', X', e', st'⟩ := initO X hx hZ hown w1 w2 w3 eT (g := mkF m pc Ls (.ref a :: st)) rfl hml rfl hd hf (W := W) (by show 2 * 0 + _ ≤ _; omega) hl
  exact (k T' X' e').of st'
theorem g_getF (X : Stand p l e R s m args below meth c T locs cells slots) (hx : p.tables.exec = Jvm.exec) (hZ : Z.Warmed39 s.vm) (hown : s.vm.findClass own = some m.cls) (eT : T.heap = h) (w : (Jvm.Cond.fieldLink own index R0 nm d).before a0 Z = true ∨ (Jvm.Cond.fieldLinkNest own index R0 nm d host).before a0 Z = true) (via : Via Z R0 O nm d)
    {v : Value} (F : Fld Z h a O nm d v) (hd : decode c.code pc = .ok (.getfield index, 3))
    (k : ∀ T', Stand p l e R s m args below meth c T' locs cells slots → T'.heap = h → Goes p.tables e below (T'.setTop (mkF m (pc + 3) Ls (v :: st))) P) : Goes p.tables e below (T.setTop (mkF m pc Ls (.ref a :: st))) P := by
  obtain ⟨T', X', e', st'⟩ := getF X hx hZ hown w via eT F (g := mkF m pc Ls (.ref a :: st)) rfl rfl hd
  exact (k T' X' e').of st'
theorem g_getS (X : Stand p l e R s m args below meth c T locs cells slots) (hx : p.tables.exec = Jvm.exec) (hZ : Z.Warmed39 s.vm) (hown : s.vm.findClass own = some m.cls) (eT : T.heap = h) (w : (Jvm.Cond.fieldLink own index O nm d).before a0 Z = true ∨ (Jvm.Cond.fieldLinkNest own index O nm d host).before a0 Z = true)
    {v : Value} (F : Sta Z h O nm d v) (hd : decode c.code pc = .ok (.getstatic index, 3))
    (k : ∀ T', Stand p l e R s m args below meth c T' locs cells slots → T'.heap = h → Goes p.tables e below (T'.setTop (mkF m (pc + 3) Ls (v :: st))) P) : Goes p.tables e below (T.setTop (mkF m pc Ls st)) P := by
  obtain ⟨T', X', e', st'⟩ := getS2 X hx hZ hown w Via.refl eT F (g := mkF m pc Ls st) rfl hd
  exact (k T' X' e').of st'
/-- a field's store; v': what the field then holds -/
theorem g_putF (X : Stand p l e R s m args below meth c T locs cells slots) (hx : p.tables.exec = Jvm.exec) (hZ : Z.Warmed39 s.vm) (hown : s.vm.findClass own = some m.cls) (eT : T.heap = h) (w : (Jvm.Cond.fieldLink own index R0 nm d).before a0 Z = true) (via : Via Z R0 O nm d)
    {v v' old : Value} (F : Fld Z h a O nm d old) (E : Exa Z h a K) (L : (Jvm.Cond.lays K O nm d).before a0 Z = true ∨ ((Jvm.Cond.laysFinal K O nm d).before a0 Z = true ∧ own = O ∧ meth.name = "<init>")) (wi : (Jvm.Cond.instantiable K kk).before a0 Z = true) {ty : FieldType} (hty : parseFieldDescriptor d = some ty) (hn : narrow ty v = v') (hf : fits ty v' = true)
    (hd : decode c.code pc = .ok (.putfield index, 3))
    (k : ∀ T' h', Stand p l e R s m args below meth c T' (locs ++ [⟨a, Jvm.RoadKit.slotOf Z O nm d⟩]) cells slots → T'.heap = h' → Wr h h' a (Jvm.RoadKit.slotOf Z O nm d) v' → Goes p.tables e below (T'.setTop (mkF m (pc + 3) Ls st)) P) : Goes p.tables e below (T.setTop (mkF m pc Ls (v :: .ref a :: st))) P := by
  obtain ⟨T', h', X', e', W', st'⟩ := putFN X hx hZ hown w via eT F E L wi hty hn hf (g := mkF m pc Ls (v :: .ref a :: st)) rfl rfl hd
  exact (k T' h' X' e' W').of st'
end Objects
/-! arrays: the components as a list -/
def Ar (Z : State) (h : Heap) (a : Addr) (ty : FieldType) (vs : List Value) : Prop := ∃ c : Cell, Arr Z h a c ty ∧ c.slots.toList = vs ∧ vs.length < 2 ^ 31 ∧ ∀ v ∈ vs, fits ty v = true
section Arrays
variable {a b : Addr} {ty : FieldType} {vs : List Value} {h' : Heap} {ws : List Addr}
theorem Ar.lt (F : Ar Z h a ty vs) : a < h.size := by obtain ⟨c, A, -⟩ := F; exact A.lt
theorem Ar.ext (F : Ar Z h a ty vs) (E : Ext h h') : Ar Z h' a ty vs := by obtain ⟨c, A, r⟩ := F; exact ⟨c, A.ext E, r⟩
theorem Ar.other (F : Ar Z h b ty vs) {sl : Nat} {v : Value} (W : Wr h h' a sl v) (q : b ≠ a) : Ar Z h' b ty vs := by obtain ⟨c, A, r⟩ := F; exact ⟨c, A.other W q, r⟩
theorem Ar.keep (F : Ar Z h a ty vs) (K : Keep h h' ws) (q : a ∉ ws) : Ar Z h' a ty vs := by obtain ⟨c, A, r⟩ := F; exact ⟨c, ⟨K.2.1 a c A.1 q, A.2⟩, r⟩
theorem own_nat {j : Int32} {i : Nat} (hj : j.toInt = i) : j.toNatClampNeg = i ∧ ¬ j < 0 := by
  have q : ¬ j < 0 := fun q => by have := Int32.lt_iff_toInt_lt.mp q; rw [show (0 : Int32).toInt = 0 from rfl] at this; omega
  have e := nat_of q
  exact ⟨by omega, q⟩
theorem own_in {j : Int32} {i : Nat} (hj : j.toInt = i) {c : Cell} (hs : c.slots.toList = vs) (hi : i < vs.length) : ¬ (j < 0 ∨ c.slots.size ≤ j.toNatClampNeg) := by
  obtain ⟨e, q⟩ := own_nat hj
  rintro (r | r)
  · exact q r
  · rw [← Array.length_toList, hs] at r; omega
theorem own_at {j : Int32} {i : Nat} (hj : j.toInt = i) {c : Cell} (hs : c.slots.toList = vs) {v : Value} (hv : vs[i]? = some v) : c.slots[j.toNatClampNeg]? = some v := by
  rw [(own_nat hj).1, ← Array.getElem?_toList, hs]; exact hv
theorem own_lt {i : Nat} {v : Value} (hv : vs[i]? = some v) : i < vs.length := (List.getElem?_eq_some_iff.mp hv).1
theorem Ar.set {j : Nat} {v : Value} (F : Ar Z h a ty vs) (W : Wr h h' a j v) (hf : fits ty v = true) : Ar Z h' a ty (vs.set j v) := by
  obtain ⟨c, A, hs, hl, hv⟩ := F
  refine ⟨c.setSlot j v, A.same W, by rw [← hs]; simp [Cell.setSlot], by rw [List.length_set]; exact hl, fun w hw => ?_⟩
  rcases List.mem_or_eq_of_mem_set hw with q | q
  · exact hv w q
  · rw [q]; exact hf
theorem g_iaload (X : Stand p l e R s m args below meth c T locs cells slots) (hx : p.tables.exec = Jvm.exec) (hZ : Z.Warmed39 s.vm) (eT : T.heap = h) (A : Ar Z h a .int vs) {j : Int32} {i : Nat} {v : Value} (hj : j.toInt = i) (hv : vs[i]? = some v) (hd : decode c.code pc = .ok (.iaload, 1))
    (hr : Goes p.tables e below (T.setTop (mkF m (pc + 1) Ls (v :: st))) P) : Goes p.tables e below (T.setTop (mkF m pc Ls (.int j :: .ref a :: st))) P := by
  obtain ⟨cl, A, hs, hl, -⟩ := A
  exact hr.of fun _ k => X.iaload hx (by rw [eT]; exact A.1) (State.isArrayOf_alike hZ.alike A.2.1) A.2.2 (own_in hj hs (own_lt hv)) (own_at hj hs hv) (g := mkF m pc Ls (.int j :: .ref a :: st)) rfl rfl hd _ k
theorem g_laload (X : Stand p l e R s m args below meth c T locs cells slots) (hx : p.tables.exec = Jvm.exec) (hZ : Z.Warmed39 s.vm) (eT : T.heap = h) (A : Ar Z h a .long vs) {j : Int32} {i : Nat} {v : Value} (hj : j.toInt = i) (hv : vs[i]? = some v) (hd : decode c.code pc = .ok (.laload, 1))
    (hr : Goes p.tables e below (T.setTop (mkF m (pc + 1) Ls (v :: st))) P) : Goes p.tables e below (T.setTop (mkF m pc Ls (.int j :: .ref a :: st))) P := by
  obtain ⟨cl, A, hs, hl, -⟩ := A
  exact hr.of fun _ k => X.laload hx (by rw [eT]; exact A.1) (State.isArrayOf_alike hZ.alike A.2.1) A.2.2 (own_in hj hs (own_lt hv)) (own_at hj hs hv) (g := mkF m pc Ls (.int j :: .ref a :: st)) rfl rfl hd _ k
theorem g_caload (X : Stand p l e R s m args below meth c T locs cells slots) (hx : p.tables.exec = Jvm.exec) (hZ : Z.Warmed39 s.vm) (eT : T.heap = h) (A : Ar Z h a .char vs) {j : Int32} {i : Nat} {v : Value} (hj : j.toInt = i) (hv : vs[i]? = some v) (hd : decode c.code pc = .ok (.caload, 1))
    (hr : Goes p.tables e below (T.setTop (mkF m (pc + 1) Ls (v :: st))) P) : Goes p.tables e below (T.setTop (mkF m pc Ls (.int j :: .ref a :: st))) P := by
  obtain ⟨cl, A, hs, hl, -⟩ := A
  exact hr.of fun _ k => X.caload hx (by rw [eT]; exact A.1) (State.isArrayOf_alike hZ.alike A.2.1) A.2.2 (own_in hj hs (own_lt hv)) (own_at hj hs hv) (g := mkF m pc Ls (.int j :: .ref a :: st)) rfl rfl hd _ k
theorem g_saload (X : Stand p l e R s m args below meth c T locs cells slots) (hx : p.tables.exec = Jvm.exec) (hZ : Z.Warmed39 s.vm) (eT : T.heap = h) (A : Ar Z h a .short vs) {j : Int32} {i : Nat} {v : Value} (hj : j.toInt = i) (hv : vs[i]? = some v) (hd : decode c.code pc = .ok (.saload, 1))
    (hr : Goes p.tables e below (T.setTop (mkF m (pc + 1) Ls (v :: st))) P) : Goes p.tables e below (T.setTop (mkF m pc Ls (.int j :: .ref a :: st))) P := by
  obtain ⟨cl, A, hs, hl, -⟩ := A
  exact hr.of fun _ k => X.saload hx (by rw [eT]; exact A.1) (State.isArrayOf_alike hZ.alike A.2.1) A.2.2 (own_in hj hs (own_lt hv)) (own_at hj hs hv) (g := mkF m pc Ls (.int j :: .ref a :: st)) rfl rfl hd _ k
theorem g_baload (X : Stand p l e R s m args below meth c T locs cells slots) (hx : p.tables.exec = Jvm.exec) (hZ : Z.Warmed39 s.vm) (eT : T.heap = h) (A : Ar Z h a .byte vs) {j : Int32} {i : Nat} {v : Value} (hj : j.toInt = i) (hv : vs[i]? = some v) (hd : decode c.code pc = .ok (.baload, 1))
    (hr : Goes p.tables e below (T.setTop (mkF m (pc + 1) Ls (v :: st))) P) : Goes p.tables e below (T.setTop (mkF m pc Ls (.int j :: .ref a :: st))) P := by
  obtain ⟨cl, A, hs, hl, -⟩ := A
  exact hr.of fun _ k => X.baloadBytes hx (by rw [eT]; exact A.1) (State.isArrayOf_alike hZ.alike A.2.1) A.2.2 (own_in hj hs (own_lt hv)) (own_at hj hs hv) (g := mkF m pc Ls (.int j :: .ref a :: st)) rfl rfl hd _ k
theorem g_zaload (X : Stand p l e R s m args below meth c T locs cells slots) (hx : p.tables.exec = Jvm.exec) (hZ : Z.Warmed39 s.vm) (eT : T.heap = h) (A : Ar Z h a .boolean vs) {j : Int32} {i : Nat} {v : Value} (hj : j.toInt = i) (hv : vs[i]? = some v) (hd : decode c.code pc = .ok (.baload, 1))
    (hr : Goes p.tables e below (T.setTop (mkF m (pc + 1) Ls (v :: st))) P) : Goes p.tables e below (T.setTop (mkF m pc Ls (.int j :: .ref a :: st))) P := by
  obtain ⟨cl, A, hs, hl, -⟩ := A
  exact hr.of fun _ k => X.baloadBooleans hx (by rw [eT]; exact A.1) (State.isArrayOf_alike hZ.alike A.2.1) A.2.2 (own_in hj hs (own_lt hv)) (own_at hj hs hv) (g := mkF m pc Ls (.int j :: .ref a :: st)) rfl rfl hd _ k
theorem g_aaload (X : Stand p l e R s m args below meth c T locs cells slots) (hx : p.tables.exec = Jvm.exec) (hZ : Z.Warmed39 s.vm) (eT : T.heap = h) (A : Ar Z h a ty vs) (hty : ty.isReference = true) {j : Int32} {i : Nat} {v : Value} (hj : j.toInt = i) (hv : vs[i]? = some v) (hd : decode c.code pc = .ok (.aaload, 1))
    (hr : Goes p.tables e below (T.setTop (mkF m (pc + 1) Ls (v :: st))) P) : Goes p.tables e below (T.setTop (mkF m pc Ls (.int j :: .ref a :: st))) P := by
  obtain ⟨cl, A, hs, hl, -⟩ := A
  exact hr.of fun _ k => X.aaload hx (by rw [eT]; exact A.1) (State.isArrayOf_alike hZ.alike A.2.1) hty A.2.2 (own_in hj hs (own_lt hv)) (own_at hj hs hv) (g := mkF m pc Ls (.int j :: .ref a :: st)) rfl rfl hd _ k
theorem g_alen (X : Stand p l e R s m args below meth c T locs cells slots) (hx : p.tables.exec = Jvm.exec) (hZ : Z.Warmed39 s.vm) (eT : T.heap = h) (A : Ar Z h a ty vs) (z : Int32) (hz : z.toInt = vs.length) (hd : decode c.code pc = .ok (.arraylength, 1))
    (hr : Goes p.tables e below (T.setTop (mkF m (pc + 1) Ls (.int z :: st))) P) : Goes p.tables e below (T.setTop (mkF m pc Ls (.ref a :: st))) P := by
  obtain ⟨cl, A, hs, hl, -⟩ := A
  have q : cl.slots.size.toInt32 = z := by
    have e1 : cl.slots.size = vs.length := by rw [← hs, Array.length_toList]
    exact Int32.toInt_inj.mp (by rw [len_toInt (by rw [e1]; exact hl), hz, e1])
  subst q
  exact hr.of fun _ k => X.arraylength hx (cell := cl) (by rw [eT]; exact A.1) (State.isArrayOf_alike hZ.alike A.2.1) (g := mkF m pc Ls (.ref a :: st)) rfl (rest := st) rfl hd _ k
theorem g_newarr (X : Stand p l e R s m args below meth c T locs cells slots) (hx : p.tables.exec = Jvm.exec) (hZ : Z.Warmed39 s.vm) (eT : T.heap = h) {aty : ArrayType} (w : (Jvm.Cond.arrayClass (newarray.typeOf aty)).before a0 Z = true) (hd : decode c.code pc = .ok (.newarray aty, 2)) {z : Int32} {n : Nat} (hz : z.toInt = n) (cap : Nat) (hcap : n ≤ cap) (hb : cap * 8 ≤ 536870912) (hc : cells + 1 ≤ R.cells) (hl : slots + cap ≤ R.slots) {ad : String} (had : "[" ++ (newarray.typeOf aty).toString = ad) (hfit : fits (newarray.typeOf aty) (defaultValue (newarray.typeOf aty)) = true)
    (k : ∀ T' h' a, a = h.size → Stand p l e R s m args below meth c T' locs (cells + 1) (slots + cap) → T'.heap = h' → Ext h h' → Ar Z h' a (newarray.typeOf aty) (List.replicate n (defaultValue (newarray.typeOf aty))) → Exa Z h' a ad → Goes p.tables e below (T'.setTop (mkF m (pc + 2) Ls (.ref a :: st))) P) :
    Goes p.tables e below (T.setTop (mkF m pc Ls (.int z :: st))) P := by
  obtain ⟨e1, q⟩ := own_nat hz
  obtain ⟨T', h', cA, X', e', E, A, F, st'⟩ := newPE X hx hZ w eT (g := mkF m pc Ls (.int z :: st)) rfl hd rfl q (cap := cap) (by rw [e1]; exact hcap) hb hc hl had
  refine (k T' h' _ rfl X' e' E ⟨_, A, ?_, ?_, ?_⟩ F).of st'
  · simp [newA, e1]
  · rw [List.length_replicate]; have := rng32 z; omega
  · intro v hv; rw [(List.mem_replicate.mp hv).2]; exact hfit
theorem g_iastore (X : Stand p l e R s m args below meth c T locs cells slots) (hx : p.tables.exec = Jvm.exec) (hZ : Z.Warmed39 s.vm) (eT : T.heap = h) (A : Ar Z h a .int vs) {j : Int32} {x : Int32} (i : Nat) (hj : j.toInt = i) (hi : i < vs.length) (hd : decode c.code pc = .ok (.iastore, 1))
    (k : ∀ T' h', Stand p l e R s m args below meth c T' (locs ++ [⟨a, i⟩]) cells slots → T'.heap = h' → Wr h h' a i (.int x) → Ar Z h' a .int (vs.set i (.int x)) → Goes p.tables e below (T'.setTop (mkF m (pc + 1) Ls st)) P) : Goes p.tables e below (T.setTop (mkF m pc Ls (.int x :: .int j :: .ref a :: st))) P := by
  have A' := A
  obtain ⟨cl, A, hs, hl, -⟩ := A
  obtain ⟨T', h', X', e', W', st'⟩ := stI X hx hZ eT A (own_in hj hs hi) (g := mkF m pc Ls (.int x :: .int j :: .ref a :: st)) rfl rfl hd
  rw [(own_nat hj).1] at X' W'
  exact (k T' h' X' e' W' (A'.set W' rfl)).of st'
theorem g_lastore (X : Stand p l e R s m args below meth c T locs cells slots) (hx : p.tables.exec = Jvm.exec) (hZ : Z.Warmed39 s.vm) (eT : T.heap = h) (A : Ar Z h a .long vs) {j : Int32} {x : Int64} (i : Nat) (hj : j.toInt = i) (hi : i < vs.length) (hd : decode c.code pc = .ok (.lastore, 1))
    (k : ∀ T' h', Stand p l e R s m args below meth c T' (locs ++ [⟨a, i⟩]) cells slots → T'.heap = h' → Wr h h' a i (.long x) → Ar Z h' a .long (vs.set i (.long x)) → Goes p.tables e below (T'.setTop (mkF m (pc + 1) Ls st)) P) : Goes p.tables e below (T.setTop (mkF m pc Ls (.long x :: .int j :: .ref a :: st))) P := by
  have A' := A
  obtain ⟨cl, A, hs, hl, -⟩ := A
  obtain ⟨T', h', X', e', W', st'⟩ := stJ X hx hZ eT A (own_in hj hs hi) (g := mkF m pc Ls (.long x :: .int j :: .ref a :: st)) rfl rfl hd
  rw [(own_nat hj).1] at X' W'
  exact (k T' h' X' e' W' (A'.set W' rfl)).of st'
theorem g_castore (X : Stand p l e R s m args below meth c T locs cells slots) (hx : p.tables.exec = Jvm.exec) (hZ : Z.Warmed39 s.vm) (eT : T.heap = h) (A : Ar Z h a .char vs) {j x : Int32} (i : Nat) (hj : j.toInt = i) (hi : i < vs.length) (x' : Int32) (hn : nar .char x = x') (hd : decode c.code pc = .ok (.castore, 1))
    (k : ∀ T' h', Stand p l e R s m args below meth c T' (locs ++ [⟨a, i⟩]) cells slots → T'.heap = h' → Wr h h' a i (.int x') → Ar Z h' a .char (vs.set i (.int x')) → Goes p.tables e below (T'.setTop (mkF m (pc + 1) Ls st)) P) : Goes p.tables e below (T.setTop (mkF m pc Ls (.int x :: .int j :: .ref a :: st))) P := by
  have A' := A
  obtain ⟨cl, A, hs, hl, -⟩ := A
  obtain ⟨T', h', X', e', W', st'⟩ := stC X hx hZ eT A (own_in hj hs hi) (g := mkF m pc Ls (.int x :: .int j :: .ref a :: st)) rfl rfl hd
  rw [(own_nat hj).1, hn] at W'
  rw [(own_nat hj).1] at X'
  exact (k T' h' X' e' W' (A'.set W' (by rw [← hn]; exact fits_nar_char x))).of st'
theorem g_bastore (X : Stand p l e R s m args below meth c T locs cells slots) (hx : p.tables.exec = Jvm.exec) (hZ : Z.Warmed39 s.vm) (eT : T.heap = h) (A : Ar Z h a .byte vs) {j x : Int32} (i : Nat) (hj : j.toInt = i) (hi : i < vs.length) (x' : Int32) (hn : nar .byte x = x') (hd : decode c.code pc = .ok (.bastore, 1))
    (k : ∀ T' h', Stand p l e R s m args below meth c T' (locs ++ [⟨a, i⟩]) cells slots → T'.heap = h' → Wr h h' a i (.int x') → Ar Z h' a .byte (vs.set i (.int x')) → Goes p.tables e below (T'.setTop (mkF m (pc + 1) Ls st)) P) : Goes p.tables e below (T.setTop (mkF m pc Ls (.int x :: .int j :: .ref a :: st))) P := by
  have A' := A
  obtain ⟨cl, A, hs, hl, -⟩ := A
  obtain ⟨T', h', X', e', W', st'⟩ := stB X hx hZ eT A (own_in hj hs hi) (g := mkF m pc Ls (.int x :: .int j :: .ref a :: st)) rfl rfl hd
  rw [(own_nat hj).1, hn] at W'
  rw [(own_nat hj).1] at X'
  exact (k T' h' X' e' W' (A'.set W' (by rw [← hn]; exact fits_nar_byte x))).of st'
theorem g_zastore (X : Stand p l e R s m args below meth c T locs cells slots) (hx : p.tables.exec = Jvm.exec) (hZ : Z.Warmed39 s.vm) (eT : T.heap = h) (A : Ar Z h a .boolean vs) {j x : Int32} (i : Nat) (hj : j.toInt = i) (hi : i < vs.length) (x' : Int32) (hn : nar .boolean x = x') (hd : decode c.code pc = .ok (.bastore, 1))
    (k : ∀ T' h', Stand p l e R s m args below meth c T' (locs ++ [⟨a, i⟩]) cells slots → T'.heap = h' → Wr h h' a i (.int x') → Ar Z h' a .boolean (vs.set i (.int x')) → Goes p.tables e below (T'.setTop (mkF m (pc + 1) Ls st)) P) : Goes p.tables e below (T.setTop (mkF m pc Ls (.int x :: .int j :: .ref a :: st))) P := by
  have A' := A
  obtain ⟨cl, A, hs, hl, -⟩ := A
  obtain ⟨T', h', X', e', W', st'⟩ := stZ X hx hZ eT A (own_in hj hs hi) (g := mkF m pc Ls (.int x :: .int j :: .ref a :: st)) rfl rfl hd
  rw [(own_nat hj).1, hn] at W'
  rw [(own_nat hj).1] at X'
  exact (k T' h' X' e' W' (A'.set W' (by rw [← hn]; exact fits_nar_bool x))).of st'
theorem g_clone (X : Stand p l e R s m args below meth c T locs cells slots) (hx : p.tables.exec = Jvm.exec) (hZ : Z.Warmed39 s.vm) {own ad : String} {index : Nat} (hown : s.vm.findClass own = some m.cls) (hml : Ls.size = c.maxLocals) (eT : T.heap = h)
    (w1 : (Jvm.Cond.methodLink own index ⟨ad, "clone", "()Ljava/lang/Object;"⟩).before a0 Z = true) (w2 : (Jvm.Cond.sameMethod ad "java/lang/Object" "clone" "()Ljava/lang/Object;").before a0 Z = true) (w3 : (Jvm.Cond.native ⟨"java/lang/Object", "clone", "()Ljava/lang/Object;"⟩).before a0 Z = true)
    (w4 : (Jvm.Cond.instanceMethod ⟨"java/lang/Object", "clone", "()Ljava/lang/Object;"⟩).before a0 Z = true) (w5 : (Jvm.Cond.selects ad ⟨ad, "clone", "()Ljava/lang/Object;"⟩ ⟨"java/lang/Object", "clone", "()Ljava/lang/Object;"⟩).before a0 Z = true) (w6 : (Jvm.Cond.castable ad "java/lang/Cloneable").before a0 Z = true)
    (A : Ar Z h a ty vs) (E : Exa Z h a ad) (hd : decode c.code pc = .ok (.invokevirtual index, 3)) (W cap : Nat) (hf : 1 ≤ R.frames) (hW : (st.map fun v => v.category).sum ≤ W) (hl : W + 14 ≤ R.locals) (hcap : vs.length ≤ cap) (hc : cells + 1 ≤ R.cells) (hsl : slots + cap ≤ R.slots)
    (k : ∀ T' h' b, b = h.size → Stand p l e R s m args below meth c T' locs (cells + 1) (slots + cap) → T'.heap = h' → Ext h h' → Ar Z h' b ty vs → Exa Z h' b ad → Goes p.tables e below (T'.setTop (mkF m (pc + 3) Ls (.ref b :: st))) P) :
    Goes p.tables e below (T.setTop (mkF m pc Ls (.ref a :: st))) P := by
  obtain ⟨cl, A, hs, hln, hft⟩ := A
  have hsz : cl.slots.size = vs.length := by rw [← hs, Array.length_toList]
  obtain ⟨T', h', X', e', Ex, A', E', st'⟩ := cloneA X hx hZ hown w1 w2 w3 w4 w5 w6 eT A E (fitC_of A (fun i hi v hv => hft v (by rw [← hs]; exact Array.mem_toList_iff.mpr (Array.mem_of_getElem? hv)))) (g := mkF m pc Ls (.ref a :: st)) rfl hml rfl hd hf (W := W) (cap := cap) (by show 2 * 0 + _ ≤ _; omega) hl (by rw [hsz]; exact hcap) hc hsl
  exact (k T' h' _ rfl X' e' Ex ⟨_, A', hs, hln, hft⟩ E').of st'
theorem g_cast (X : Stand p l e R s m args below meth c T locs cells slots) (hx : p.tables.exec = Jvm.exec) (hZ : Z.Warmed39 s.vm) {own K : String} {index : Nat} (hown : s.vm.findClass own = some m.cls) (eT : T.heap = h) (w : (Jvm.Cond.classLink own index K).before a0 Z = true) (F : Ins Z h a K true) (hd : decode c.code pc = .ok (.checkcast index, 3))
    (k : ∀ T', Stand p l e R s m args below meth c T' locs cells slots → T'.heap = h → Goes p.tables e below (T'.setTop (mkF m (pc + 3) Ls (.ref a :: st))) P) : Goes p.tables e below (T.setTop (mkF m pc Ls (.ref a :: st))) P := by
  obtain ⟨T', X', e', st'⟩ := castY X hx hZ hown w eT F (g := mkF m pc Ls (.ref a :: st)) rfl rfl hd
  exact (k T' X' e').of st'
theorem Ar.toV (F : Ar Z h a ty vs) (d : Value) : ∃ k, Arv Z h a k ty (Int32.ofNat vs.length) vs d := by
  obtain ⟨cl, A, hs, hl, hf⟩ := F
  have e1 : cl.slots.size = vs.length := by rw [← hs, Array.length_toList]
  obtain ⟨e2, q⟩ := own_nat (j := Int32.ofNat vs.length) (i := vs.length) (Int32.toInt_ofNat_of_lt (by omega))
  refine ⟨cl.cls, cl, A, rfl, by rw [e2, e1], q, fun i hi => ?_, fun i hi => ?_⟩
  · rw [← Array.getElem?_toList, hs, List.getD_eq_getElem?_getD, List.getElem?_eq_getElem (by omega)]; rfl
  · rw [List.getD_eq_getElem?_getD, List.getElem?_eq_getElem (by omega)]; exact hf _ (List.getElem_mem _)
theorem Ar.ofV {k : ClassId} {z : Int32} {d : Value} (F : Arv Z h a k ty z vs d) (hl : vs.length = z.toNatClampNeg) (hb : vs.length < 2 ^ 31) : Ar Z h a ty vs := by
  obtain ⟨cl, A, -, hs, -, H, G⟩ := F
  have e : cl.slots.toList = vs := by
    apply List.ext_getElem?
    intro i
    by_cases hi : i < cl.slots.size
    · rw [Array.getElem?_toList, H i hi, List.getD_eq_getElem?_getD, List.getElem?_eq_getElem (by omega)]; rfl
    · rw [List.getElem?_eq_none (by rw [Array.length_toList]; omega), List.getElem?_eq_none (by omega)]
  refine ⟨cl, A, e, hb, fun v hv => ?_⟩
  obtain ⟨i, hi, rfl⟩ := List.getElem_of_mem hv
  have q := G i (by omega)
  rwa [List.getD_eq_getElem?_getD, List.getElem?_eq_getElem hi] at q
theorem own_rangeTake (vs : List Value) (d : Value) (n : Nat) (hn : n ≤ vs.length) : (List.range n).map (fun i => vs.getD (0 + i) d) = vs.take n := by
  apply List.ext_getElem
  · simp; omega
  · intro i h1 h2
    simp at h1 h2
    simp [List.getElem?_eq_getElem (show i < vs.length by omega)]
theorem g_acopy (X : Stand p l e R s m args below meth c T locs cells slots) (hx : p.tables.exec = Jvm.exec) (hZ : Z.Warmed39 s.vm) {own : String} {index : Nat} (hown : s.vm.findClass own = some m.cls) (hml : Ls.size = c.maxLocals) (eT : T.heap = h)
    (w1 : (Jvm.Cond.methodLink own index Jvm.Stand.acN).before a0 Z = true) (w2 : (Jvm.Cond.native Jvm.Stand.acN).before a0 Z = true) (w3 : (Jvm.Cond.static Jvm.Stand.acN).before a0 Z = true) (w4 : (Jvm.Cond.initialized "java/lang/System").before a0 Z = true)
    {vd : List Value} (A : Ar Z h a ty vs) (B : Ar Z h b ty vd) (hp : refKind ty = false) {nn : Int32} {n : Nat} (hn : nn.toInt = n) (h1 : n ≤ vs.length) (h2 : n ≤ vd.length) {n0 : Nat} (N : Fr n0 locs) (ge : n0 ≤ b) (hd : decode c.code pc = .ok (.invokestatic index, 3))
    (W : Nat) (hf : 1 ≤ R.frames) (hW : (st.map fun v => v.category).sum ≤ W) (hlo : W + (nativeFrameWords "java/lang/System" "arraycopy" 5 + 11) ≤ R.locals)
    (k : ∀ T' h' L, Stand p l e R s m args below meth c T' L cells slots → T'.heap = h' → Fr n0 L → Keep h h' [b] → Ar Z h' b ty (vs.take n ++ vd.drop n) → Goes p.tables e below (T'.setTop (mkF m (pc + 3) Ls st)) P) :
    Goes p.tables e below (T.setTop (mkF m pc Ls (.int nn :: .int 0 :: .ref b :: .int 0 :: .ref a :: st))) P := by
  obtain ⟨k1, A1⟩ := A.toV .null
  obtain ⟨k2, B1⟩ := B.toV .null
  obtain ⟨en, qn⟩ := own_nat hn
  have lv : vs.length < 2 ^ 31 := by obtain ⟨_, _, _, q, _⟩ := A; exact q
  have ld : vd.length < 2 ^ 31 := by obtain ⟨_, _, _, q, _⟩ := B; exact q
  have ev : (Int32.ofNat vs.length).toNatClampNeg = vs.length := (own_nat (Int32.toInt_ofNat_of_lt (by omega))).1
  have ed : (Int32.ofNat vd.length).toNatClampNeg = vd.length := (own_nat (Int32.toInt_ofNat_of_lt (by omega))).1
  have e0 : (0 : Int32).toNatClampNeg = 0 := rfl
  obtain ⟨T', h', L, X', e', N', K', B', st'⟩ := cpA X hx hZ hown w1 w2 w3 w4 eT A1 B1 (sp := 0) (dp := 0) (nn := nn) (Or.inl ⟨rfl, hp⟩) (by decide) (by decide) qn (by rw [e0, en, ev]; omega) (by rw [e0, en, ed]; omega) rfl (by rw [e0, en]; omega) N ge (g := mkF m pc Ls (.int nn :: .int 0 :: .ref b :: .int 0 :: .ref a :: st)) rfl hml rfl hd hf (W := W) (by show 2 * 0 + _ ≤ _; omega) hlo
  rw [e0, en, own_rangeTake vs _ n h1, List.take_zero, List.nil_append, Nat.zero_add] at B'
  have hlen : (vs.take n ++ vd.drop n).length = vd.length := by rw [List.length_append, List.length_take, List.length_drop]; omega
  exact (k T' h' L X' e' N' K' (Ar.ofV B' (by rw [hlen, ed]) (by rw [hlen]; exact ld))).of st'
end Arrays
theorem own_nst {a : Addr} {K : String} (E : Exa Z h a K) : ∀ c : Cell, h[a]? = some c → c.vm.isStatics = false := fun c hc => by
  obtain ⟨cell, k, h1, -, -, h4, -⟩ := E
  cases h1.symm.trans hc
  exact h4
theorem own_stakeep {h' : Heap} {K n d : String} {v : Value} {ws : List Addr} (F : Sta Z h K n d v) (hK : Keep h h' ws) (q : ∀ x ∈ ws, ∀ c : Cell, h[x]? = some c → c.vm.isStatics = false) : Sta Z h' K n d v := by
  obtain ⟨cf, i, k, f, sa, cell, h1, h2, h3, h4, h5, h6, h7⟩ := F
  exact ⟨cf, i, k, f, sa, cell, h1, h2, h3, h4, hK.2.1 sa cell h5 (fun hm => by rw [q sa hm cell h5] at h6; cases h6), h6, h7⟩
/-! words on statics -/
section Words
variable {first : State} {o : Option Outcome} {idx : List Nat} {ta tb : Term}
theorem own_eqR {y : Addr} (h : (Jvm.Cond.eq ta tb).value args first o s idx = some true) (hb : tb.eval args first o idx s = some (.ref y)) : ta.eval args first o idx s = some (.ref y) := by
  obtain ⟨x, z, ha, hb', k1, k2⟩ := cmp_v (Or.inl h)
  cases hb.symm.trans hb'
  have e := gotT (eq_R ha hb k2.2 rfl) h
  rw [ha, e]
theorem own_eqI {y : Int32} (h : (Jvm.Cond.eq ta tb).value args first o s idx = some true) (hb : tb.eval args first o idx s = some (.int y)) : ta.eval args first o idx s = some (.int y) := by
  obtain ⟨x, z, ha, hb', k1, k2⟩ := cmp_v (Or.inl h)
  cases hb.symm.trans hb'
  obtain ⟨w, rfl⟩ := k2
  simp [Jvm.Cond.value, ha, hb] at h
  rw [ha, h]
end Words
end Walk
end Jvm.OwnW
namespace Jvm.Pilot.@@N@@
open Jvm Jvm.ClassFile Sem Op Lib Jvm.Free Jvm.Stand Jvm.LawKit Jvm.RoadKit Bundle Jvm.OwnW Jvm.Pilot.@@N@@.Jvm.D
theorem d6_0 : decode jdk_29_method_59_code 0 = .ok (.iload_n 0, 1) := by decide +kernel
theorem d6_1 : decode jdk_29_method_59_code 1 = .ok (.ifCond .ge 8, 3) := by decide +kernel
theorem d6_4 : decode jdk_29_method_59_code 4 = .ok (.iload_n 0, 1) := by decide +kernel
theorem d6_5 : decode jdk_29_method_59_code 5 = .ok (.ineg, 1) := by decide +kernel
theorem d6_6 : decode jdk_29_method_59_code 6 = .ok (.goto 4, 3) := by decide +kernel
theorem d6_9 : decode jdk_29_method_59_code 9 = .ok (.iload_n 0, 1) := by decide +kernel
theorem d6_10 : decode jdk_29_method_59_code 10 = .ok (.ireturn, 1) := by decide +kernel
theorem pd_6 : parseMethodDescriptor "(I)I" = some ⟨[.int], some .int⟩ := by decide +kernel
theorem ef_6 (m : MethodId) (p0 : Int32) : entryFrame m #[(.int p0)] 1 = mkF m 0 #[.val (.int p0)] [] := by first | (simp [entryFrame, mkF, argsToLocals, Value.category]; done) | rfl
def absV (p0 : Int32) : Int32 := (if p0 < 0 then (-p0) else p0)
set_option maxRecDepth 65536 in
set_option maxHeartbeats 40000000 in
theorem rmAbs (l : Launch) (Z : State) (a0 : Array Value) (hw : ∀ d ∈ tables_1, d.before a0 Z = true) (p0 : Int32) (h0 : Heap)  :
    Con l Z (⟨"java/lang/Math", "abs", "(I)I"⟩ : MethodName) jdk_29_method_59_code 1 (some .int) [] ({ frames := 0, cells := 0, slots := 0, locals := 0 } : Room) 0 0 #[(.int p0)] h0 (fun v h L => v = some (.int (absV p0)) ∧ h = h0 ∧ L = []) := by
  refine Con.body (Jvm.Free.JP.mathPlain rfl (by decide +kernel)) ?_
  intro p e s m below meth c T0 hx hby hml hown hnm hZ hret hlk X0 e0
  refine Goes.cast (ef_6 m p0) ?_
  show Goes p.tables e below (T0.setTop (mkF m 0 #[.val (.int p0)] [])) _
  refine g_iloadN X0 hx (hb hby d6_0) rfl ?_
  show Goes p.tables e below (T0.setTop (mkF m 1 #[.val (.int p0)] [(.int p0)])) _
  refine g_if_ge X0 hx (hb hby d6_1) (by decide) (pc' := 9) (by decide) (fun c1 => ?_) (fun c1 => ?_)
  · skip
    show Goes p.tables e below (T0.setTop (mkF m 9 #[.val (.int p0)] [])) _
    refine g_iloadN X0 hx (hb hby d6_9) rfl ?_
    show Goes p.tables e below (T0.setTop (mkF m 10 #[.val (.int p0)] [(.int p0)])) _
    exact g_retI X0 hx hret hlk (hb hby d6_10) (by decide) (by decide) ⟨by rw [absV, if_neg c1], e0, rfl⟩
  · skip
    show Goes p.tables e below (T0.setTop (mkF m 4 #[.val (.int p0)] [])) _
    refine g_iloadN X0 hx (hb hby d6_4) rfl ?_
    show Goes p.tables e below (T0.setTop (mkF m 5 #[.val (.int p0)] [(.int p0)])) _
    refine g_ineg X0 hx (hb hby d6_5) ?_
    show Goes p.tables e below (T0.setTop (mkF m 6 #[.val (.int p0)] [(.int (-p0))])) _
    refine g_goto X0 hx (hb hby d6_6) (by decide) (pc' := 10) (by decide) ?_
    show Goes p.tables e below (T0.setTop (mkF m 10 #[.val (.int p0)] [(.int (-p0))])) _
    exact g_retI X0 hx hret hlk (hb hby d6_10) (by decide) (by decide) ⟨by rw [absV, if_pos c1], e0, rfl⟩
theorem d5_0 : decode prog_34_method_4_code 0 = .ok (.iload_n 1, 1) := by decide +kernel
theorem d5_1 : decode prog_34_method_4_code 1 = .ok (.ifCond .ne 11, 3) := by decide +kernel
theorem d5_4 : decode prog_34_method_4_code 4 = .ok (.iload_n 0, 1) := by decide +kernel
theorem d5_5 : decode prog_34_method_4_code 5 = .ok (.iload_n 0, 1) := by decide +kernel
theorem d5_6 : decode prog_34_method_4_code 6 = .ok (.imul, 1) := by decide +kernel
theorem d5_7 : decode prog_34_method_4_code 7 = .ok (.iconst 1, 1) := by decide +kernel
theorem d5_8 : decode prog_34_method_4_code 8 = .ok (.isub, 1) := by decide +kernel
theorem d5_9 : decode prog_34_method_4_code 9 = .ok (.goto 6, 3) := by decide +kernel
theorem d5_12 : decode prog_34_method_4_code 12 = .ok (.iload_n 1, 1) := by decide +kernel
theorem d5_13 : decode prog_34_method_4_code 13 = .ok (.iconst 1, 1) := by decide +kernel
theorem d5_14 : decode prog_34_method_4_code 14 = .ok (.isub, 1) := by decide +kernel
theorem d5_15 : decode prog_34_method_4_code 15 = .ok (.ireturn, 1) := by decide +kernel
theorem pd_5 : parseMethodDescriptor "(II)I" = some ⟨[.int, .int], some .int⟩ := by decide +kernel
theorem ef_5 (m : MethodId) (p0 : Int32) (p1 : Int32) : entryFrame m #[(.int p0), (.int p1)] 2 = mkF m 0 #[.val (.int p0), .val (.int p1)] [] := by first | (simp [entryFrame, mkF, argsToLocals, Value.category]; done) | rfl
def goalV (p0 : Int32) (p1 : Int32) : Int32 := (if p1 = 0 then ((p0 * p0) - (1 : Int32)) else (p1 - (1 : Int32)))
set_option maxRecDepth 65536 in
set_option maxHeartbeats 40000000 in
theorem rmGo (l : Launch) (Z : State) (a0 : Array Value) (hw : ∀ d ∈ tables_1, d.before a0 Z = true) (p0 : Int32) (p1 : Int32) (h0 : Heap)  :
    Con l Z (⟨"com/example/slidewise/slidewise/model/Puzzle", "goalCell", "(II)I"⟩ : MethodName) prog_34_method_4_code 2 (some .int) [] ({ frames := 0, cells := 0, slots := 0, locals := 0 } : Room) 0 0 #[(.int p0), (.int p1)] h0 (fun v h L => v = some (.int (goalV p0 p1)) ∧ h = h0 ∧ L = []) := by
  refine Con.body (plainFor_of_name (by first | (simp [plainName, overriddenIn]; done) | decide +kernel)) ?_
  intro p e s m below meth c T0 hx hby hml hown hnm hZ hret hlk X0 e0
  refine Goes.cast (ef_5 m p0 p1) ?_
  show Goes p.tables e below (T0.setTop (mkF m 0 #[.val (.int p0), .val (.int p1)] [])) _
  refine g_iloadN X0 hx (hb hby d5_0) rfl ?_
  show Goes p.tables e below (T0.setTop (mkF m 1 #[.val (.int p0), .val (.int p1)] [(.int p1)])) _
  refine g_if_ne X0 hx (hb hby d5_1) (by decide) (pc' := 12) (by decide) (fun c1 => ?_) (fun c1 => ?_)
  · skip
    show Goes p.tables e below (T0.setTop (mkF m 12 #[.val (.int p0), .val (.int p1)] [])) _
    refine g_iloadN X0 hx (hb hby d5_12) rfl ?_
    show Goes p.tables e below (T0.setTop (mkF m 13 #[.val (.int p0), .val (.int p1)] [(.int p1)])) _
    refine g_iconst X0 hx (1 : Int32) (hb hby d5_13) rfl ?_
    show Goes p.tables e below (T0.setTop (mkF m 14 #[.val (.int p0), .val (.int p1)] [(.int (1 : Int32)), (.int p1)])) _
    refine g_isub X0 hx (hb hby d5_14) ?_
    show Goes p.tables e below (T0.setTop (mkF m 15 #[.val (.int p0), .val (.int p1)] [(.int (p1 - (1 : Int32)))])) _
    exact g_retI X0 hx hret hlk (hb hby d5_15) (by decide) (by decide) ⟨by rw [goalV, if_neg c1], e0, rfl⟩
  · skip
    show Goes p.tables e below (T0.setTop (mkF m 4 #[.val (.int p0), .val (.int p1)] [])) _
    refine g_iloadN X0 hx (hb hby d5_4) rfl ?_
    show Goes p.tables e below (T0.setTop (mkF m 5 #[.val (.int p0), .val (.int p1)] [(.int p0)])) _
    refine g_iloadN X0 hx (hb hby d5_5) rfl ?_
    show Goes p.tables e below (T0.setTop (mkF m 6 #[.val (.int p0), .val (.int p1)] [(.int p0), (.int p0)])) _
    refine g_imul X0 hx (hb hby d5_6) ?_
    show Goes p.tables e below (T0.setTop (mkF m 7 #[.val (.int p0), .val (.int p1)] [(.int (p0 * p0))])) _
    refine g_iconst X0 hx (1 : Int32) (hb hby d5_7) rfl ?_
    show Goes p.tables e below (T0.setTop (mkF m 8 #[.val (.int p0), .val (.int p1)] [(.int (1 : Int32)), (.int (p0 * p0))])) _
    refine g_isub X0 hx (hb hby d5_8) ?_
    show Goes p.tables e below (T0.setTop (mkF m 9 #[.val (.int p0), .val (.int p1)] [(.int ((p0 * p0) - (1 : Int32)))])) _
    refine g_goto X0 hx (hb hby d5_9) (by decide) (pc' := 15) (by decide) ?_
    show Goes p.tables e below (T0.setTop (mkF m 15 #[.val (.int p0), .val (.int p1)] [(.int ((p0 * p0) - (1 : Int32)))])) _
    exact g_retI X0 hx hret hlk (hb hby d5_15) (by decide) (by decide) ⟨by rw [goalV, if_pos c1], e0, rfl⟩
theorem d4_0 : decode prog_34_method_5_code 0 = .ok (.iload_n 0, 1) := by decide +kernel
theorem d4_1 : decode prog_34_method_5_code 1 = .ok (.iload_n 1, 1) := by decide +kernel
theorem d4_2 : decode prog_34_method_5_code 2 = .ok (.invokestatic 44, 3) := by decide +kernel
theorem d4_5 : decode prog_34_method_5_code 5 = .ok (.istore_n 3, 1) := by decide +kernel
theorem d4_6 : decode prog_34_method_5_code 6 = .ok (.iload_n 3, 1) := by decide +kernel
theorem d4_7 : decode prog_34_method_5_code 7 = .ok (.iload_n 0, 1) := by decide +kernel
theorem d4_8 : decode prog_34_method_5_code 8 = .ok (.idiv, 1) := by decide +kernel
theorem d4_9 : decode prog_34_method_5_code 9 = .ok (.iload_n 2, 1) := by decide +kernel
theorem d4_10 : decode prog_34_method_5_code 10 = .ok (.iload_n 0, 1) := by decide +kernel
theorem d4_11 : decode prog_34_method_5_code 11 = .ok (.idiv, 1) := by decide +kernel
theorem d4_12 : decode prog_34_method_5_code 12 = .ok (.isub, 1) := by decide +kernel
theorem d4_13 : decode prog_34_method_5_code 13 = .ok (.invokestatic 52, 3) := by decide +kernel
theorem d4_16 : decode prog_34_method_5_code 16 = .ok (.iload_n 3, 1) := by decide +kernel
theorem d4_17 : decode prog_34_method_5_code 17 = .ok (.iload_n 0, 1) := by decide +kernel
theorem d4_18 : decode prog_34_method_5_code 18 = .ok (.irem, 1) := by decide +kernel
theorem d4_19 : decode prog_34_method_5_code 19 = .ok (.iload_n 2, 1) := by decide +kernel
theorem d4_20 : decode prog_34_method_5_code 20 = .ok (.iload_n 0, 1) := by decide +kernel
theorem d4_21 : decode prog_34_method_5_code 21 = .ok (.irem, 1) := by decide +kernel
theorem d4_22 : decode prog_34_method_5_code 22 = .ok (.isub, 1) := by decide +kernel
theorem d4_23 : decode prog_34_method_5_code 23 = .ok (.invokestatic 52, 3) := by decide +kernel
theorem d4_26 : decode prog_34_method_5_code 26 = .ok (.iadd, 1) := by decide +kernel
theorem d4_27 : decode prog_34_method_5_code 27 = .ok (.ireturn, 1) := by decide +kernel
theorem pd_4 : parseMethodDescriptor "(III)I" = some ⟨[.int, .int, .int], some .int⟩ := by decide +kernel
theorem ef_4 (m : MethodId) (p0 : Int32) (p1 : Int32) (p2 : Int32) : entryFrame m #[(.int p0), (.int p1), (.int p2)] 4 = mkF m 0 #[.val (.int p0), .val (.int p1), .val (.int p2), .unset] [] := by first | (simp [entryFrame, mkF, argsToLocals, Value.category]; done) | rfl
def distV (s n c : Int32) : Int32 := absV (goalV s n / s - c / s) + absV (goalV s n % s - c % s)
set_option maxRecDepth 65536 in
set_option maxHeartbeats 40000000 in
theorem rmDi (l : Launch) (Z : State) (a0 : Array Value) (hw : ∀ d ∈ tables_1, d.before a0 Z = true) (p0 : Int32) (p1 : Int32) (p2 : Int32) (h0 : Heap) (hs : p0 ≠ 0) :
    Con l Z (⟨"com/example/slidewise/slidewise/model/Puzzle", "distance", "(III)I"⟩ : MethodName) prog_34_method_5_code 4 (some .int) [] ({ frames := 1, cells := 0, slots := 0, locals := 13 } : Room) 0 0 #[(.int p0), (.int p1), (.int p2)] h0 (fun v h L => v = some (.int (distV p0 p1 p2)) ∧ h = h0 ∧ L = []) := by
  refine Con.body (plainFor_of_name (by first | (simp [plainName, overriddenIn]; done) | decide +kernel)) ?_
  intro p e s m below meth c T0 hx hby hml hown hnm hZ hret hlk X0 e0
  refine Goes.cast (ef_4 m p0 p1 p2) ?_
  show Goes p.tables e below (T0.setTop (mkF m 0 #[.val (.int p0), .val (.int p1), .val (.int p2), .unset] [])) _
  refine g_iloadN X0 hx (hb hby d4_0) rfl ?_
  show Goes p.tables e below (T0.setTop (mkF m 1 #[.val (.int p0), .val (.int p1), .val (.int p2), .unset] [(.int p0)])) _
  refine g_iloadN X0 hx (hb hby d4_1) rfl ?_
  show Goes p.tables e below (T0.setTop (mkF m 2 #[.val (.int p0), .val (.int p1), .val (.int p2), .unset] [(.int p1), (.int p0)])) _
  refine g_callS X0 hx hZ hown (by rw [hml]; rfl) e0 (hw _ (List.mem_of_getElem? (i := 24) rfl)) (hw _ (List.mem_of_getElem? (i := 25) rfl)) (hw _ (List.mem_of_getElem? (i := 22) rfl)) (hw _ (List.mem_of_getElem? (i := 26) rfl)) (rmGo l Z a0 hw p0 p1 h0) [(.int p0), (.int p1)] rfl [] rfl (lenOf pd_5 rfl) (hb hby d4_2) (by decide) 0 (by decide) (by decide) (by first | decide | exact Nat.le_refl _) (by decide) (by decide) (fun v T1 L1 X1 hQ1 => ?_)
  obtain ⟨rfl, e1, rfl⟩ := hQ1
  show Goes p.tables e below (T1.setTop (mkF m 5 #[.val (.int p0), .val (.int p1), .val (.int p2), .unset] [(.int (goalV p0 p1))])) _
  obtain ⟨v2, hv2⟩ : ∃ z : Int32, z = (goalV p0 p1) := ⟨_, rfl⟩
  refine g_nameI hv2 ?_
  show Goes p.tables e below (T1.setTop (mkF m 5 #[.val (.int p0), .val (.int p1), .val (.int p2), .unset] [(.int v2)])) _
  refine g_istoreN X1 hx (hb hby d4_5) (l' := #[.val (.int p0), .val (.int p1), .val (.int p2), .val (.int v2)]) rfl ?_
  show Goes p.tables e below (T1.setTop (mkF m 6 #[.val (.int p0), .val (.int p1), .val (.int p2), .val (.int v2)] [])) _
  refine g_iloadN X1 hx (hb hby d4_6) rfl ?_
  show Goes p.tables e below (T1.setTop (mkF m 7 #[.val (.int p0), .val (.int p1), .val (.int p2), .val (.int v2)] [(.int v2)])) _
  refine g_iloadN X1 hx (hb hby d4_7) rfl ?_
  show Goes p.tables e below (T1.setTop (mkF m 8 #[.val (.int p0), .val (.int p1), .val (.int p2), .val (.int v2)] [(.int p0), (.int v2)])) _
  refine g_idiv X1 hx (hb hby d4_8) hs ?_
  show Goes p.tables e below (T1.setTop (mkF m 9 #[.val (.int p0), .val (.int p1), .val (.int p2), .val (.int v2)] [(.int (v2 / p0))])) _
  refine g_iloadN X1 hx (hb hby d4_9) rfl ?_
  show Goes p.tables e below (T1.setTop (mkF m 10 #[.val (.int p0), .val (.int p1), .val (.int p2), .val (.int v2)] [(.int p2), (.int (v2 / p0))])) _
  refine g_iloadN X1 hx (hb hby d4_10) rfl ?_
  show Goes p.tables e below (T1.setTop (mkF m 11 #[.val (.int p0), .val (.int p1), .val (.int p2), .val (.int v2)] [(.int p0), (.int p2), (.int (v2 / p0))])) _
  refine g_idiv X1 hx (hb hby d4_11) hs ?_
  show Goes p.tables e below (T1.setTop (mkF m 12 #[.val (.int p0), .val (.int p1), .val (.int p2), .val (.int v2)] [(.int (p2 / p0)), (.int (v2 / p0))])) _
  refine g_isub X1 hx (hb hby d4_12) ?_
  show Goes p.tables e below (T1.setTop (mkF m 13 #[.val (.int p0), .val (.int p1), .val (.int p2), .val (.int v2)] [(.int ((v2 / p0) - (p2 / p0)))])) _
  refine g_callS X1 hx hZ hown (by rw [hml]; rfl) e1 (hw _ (List.mem_of_getElem? (i := 27) rfl)) (hw _ (List.mem_of_getElem? (i := 28) rfl)) (hw _ (List.mem_of_getElem? (i := 29) rfl)) (hw _ (List.mem_of_getElem? (i := 30) rfl)) (rmAbs l Z a0 hw ((v2 / p0) - (p2 / p0)) h0) [(.int ((v2 / p0) - (p2 / p0)))] rfl [] rfl (lenOf pd_6 rfl) (hb hby d4_13) (by decide) 0 (by decide) (by decide) (by first | decide | exact Nat.le_refl _) (by decide) (by decide) (fun v T3 L3 X3 hQ3 => ?_)
  obtain ⟨rfl, e3, rfl⟩ := hQ3
  show Goes p.tables e below (T3.setTop (mkF m 16 #[.val (.int p0), .val (.int p1), .val (.int p2), .val (.int v2)] [(.int (absV ((v2 / p0) - (p2 / p0))))])) _
  refine g_iloadN X3 hx (hb hby d4_16) rfl ?_
  show Goes p.tables e below (T3.setTop (mkF m 17 #[.val (.int p0), .val (.int p1), .val (.int p2), .val (.int v2)] [(.int v2), (.int (absV ((v2 / p0) - (p2 / p0))))])) _
  refine g_iloadN X3 hx (hb hby d4_17) rfl ?_
  show Goes p.tables e below (T3.setTop (mkF m 18 #[.val (.int p0), .val (.int p1), .val (.int p2), .val (.int v2)] [(.int p0), (.int v2), (.int (absV ((v2 / p0) - (p2 / p0))))])) _
  refine g_irem X3 hx (hb hby d4_18) hs ?_
  show Goes p.tables e below (T3.setTop (mkF m 19 #[.val (.int p0), .val (.int p1), .val (.int p2), .val (.int v2)] [(.int (v2 % p0)), (.int (absV ((v2 / p0) - (p2 / p0))))])) _
  refine g_iloadN X3 hx (hb hby d4_19) rfl ?_
  show Goes p.tables e below (T3.setTop (mkF m 20 #[.val (.int p0), .val (.int p1), .val (.int p2), .val (.int v2)] [(.int p2), (.int (v2 % p0)), (.int (absV ((v2 / p0) - (p2 / p0))))])) _
  refine g_iloadN X3 hx (hb hby d4_20) rfl ?_
  show Goes p.tables e below (T3.setTop (mkF m 21 #[.val (.int p0), .val (.int p1), .val (.int p2), .val (.int v2)] [(.int p0), (.int p2), (.int (v2 % p0)), (.int (absV ((v2 / p0) - (p2 / p0))))])) _
  refine g_irem X3 hx (hb hby d4_21) hs ?_
  show Goes p.tables e below (T3.setTop (mkF m 22 #[.val (.int p0), .val (.int p1), .val (.int p2), .val (.int v2)] [(.int (p2 % p0)), (.int (v2 % p0)), (.int (absV ((v2 / p0) - (p2 / p0))))])) _
  refine g_isub X3 hx (hb hby d4_22) ?_
  show Goes p.tables e below (T3.setTop (mkF m 23 #[.val (.int p0), .val (.int p1), .val (.int p2), .val (.int v2)] [(.int ((v2 % p0) - (p2 % p0))), (.int (absV ((v2 / p0) - (p2 / p0))))])) _
  refine g_callS X3 hx hZ hown (by rw [hml]; rfl) e3 (hw _ (List.mem_of_getElem? (i := 27) rfl)) (hw _ (List.mem_of_getElem? (i := 28) rfl)) (hw _ (List.mem_of_getElem? (i := 29) rfl)) (hw _ (List.mem_of_getElem? (i := 30) rfl)) (rmAbs l Z a0 hw ((v2 % p0) - (p2 % p0)) h0) [(.int ((v2 % p0) - (p2 % p0)))] rfl [(.int (absV ((v2 / p0) - (p2 / p0))))] rfl (lenOf pd_6 rfl) (hb hby d4_23) (by decide) 1 (by decide) (by decide) (by first | decide | exact Nat.le_refl _) (by decide) (by decide) (fun v T4 L4 X4 hQ4 => ?_)
  obtain ⟨rfl, e4, rfl⟩ := hQ4
  show Goes p.tables e below (T4.setTop (mkF m 26 #[.val (.int p0), .val (.int p1), .val (.int p2), .val (.int v2)] [(.int (absV ((v2 % p0) - (p2 % p0)))), (.int (absV ((v2 / p0) - (p2 / p0))))])) _
  refine g_iadd X4 hx (hb hby d4_26) ?_
  show Goes p.tables e below (T4.setTop (mkF m 27 #[.val (.int p0), .val (.int p1), .val (.int p2), .val (.int v2)] [(.int ((absV ((v2 / p0) - (p2 / p0))) + (absV ((v2 % p0) - (p2 % p0)))))])) _
  exact g_retI X4 hx hret hlk (hb hby d4_27) (by decide) (by decide) ⟨by subst_vars; rfl, e4, rfl⟩
def dt (side : Int32) (i j : Nat) : Int32 := if i = 0 then 0 else distV side (Int32.ofNat i) (Int32.ofNat j)
def sumV (f : Nat → Int32) : Nat → Int32
  | 0 => 0
  | k + 1 => sumV f k + f k
theorem own_of {n : Nat} (h : n < 2147483648) : (Int32.ofNat n).toInt = n := Int32.toInt_ofNat_of_lt (by omega)
theorem own_succ (n : Nat) : Int32.ofNat n + (1 : Int32) = Int32.ofNat (n + 1) := by
  rw [show (1 : Int32) = Int32.ofNat 1 from rfl, ← Int32.ofNat_add]
theorem own_lin {x y z : Int32} {a b d : Nat} (hx : x.toInt = a) (hy : y.toInt = b) (hz : z.toInt = d) (ba : a ≤ 100) (bb : b ≤ 100) (bd : d ≤ 100) : (x * y + z).toInt = (a * b + d : Nat) := by
  have m := c_imul x y
  have s := c_iadd (x * y) z
  have r1 := rng32 (x * y)
  have r2 := rng32 (x * y + z)
  have pb : a * b ≤ 100 * 100 := Nat.mul_le_mul ba bb
  rw [hx, hy, ← Int.natCast_mul] at m
  generalize a * b = q at *
  omega
theorem own_mul {x y : Int32} {a b : Nat} (hx : x.toInt = a) (hy : y.toInt = b) (ba : a ≤ 100) (bb : b ≤ 100) : (x * y).toInt = (a * b : Nat) := by
  have m := c_imul x y
  have r1 := rng32 (x * y)
  have pb : a * b ≤ 100 * 100 := Nat.mul_le_mul ba bb
  rw [hx, hy, ← Int.natCast_mul] at m
  generalize a * b = q at *
  omega
theorem own_idx {i j n c s : Nat} (hj : j < s) (hc : c < s) (h : i * s + j = n * s + c) : i = n ∧ j = c := by
  have hs : 0 < s := by omega
  have e1 : (i * s + j) / s = i := by rw [Nat.mul_comm, Nat.mul_add_div hs, Nat.div_eq_of_lt hj, Nat.add_zero]
  have e2 : (n * s + c) / s = n := by rw [Nat.mul_comm, Nat.mul_add_div hs, Nat.div_eq_of_lt hc, Nat.add_zero]
  have e3 : i = n := by rw [← e1, ← e2, h]
  subst e3
  exact ⟨rfl, by omega⟩
theorem own_inb {i j s : Nat} (hi : i < s) (hj : j < s) : i * s + j < s * s := by
  have : (i + 1) * s ≤ s * s := Nat.mul_le_mul_right s hi
  rw [Nat.add_mul, Nat.one_mul] at this
  omega
/-- the table up to row n, cell c -/
def TI (side : Int32) (S n c : Nat) (ds : List Value) : Prop := ds.length = S * S ∧ ∀ i j, i < S → j < S → (i < n ∨ (i = n ∧ j < c)) → ds[i * S + j]? = some (.int (dt side i j))
theorem TI.set {side : Int32} {S n c : Nat} {ds : List Value} (h : TI side S n c ds) (hn : n < S) (hc : c < S) (h1 : 1 ≤ n) {v : Int32} (hv : v = distV side (Int32.ofNat n) (Int32.ofNat c)) : TI side S n (c + 1) (ds.set (n * S + c) (.int v)) := by
  refine ⟨by rw [List.length_set]; exact h.1, fun i j hi hj q => ?_⟩
  by_cases e : i * S + j = n * S + c
  · obtain ⟨rfl, rfl⟩ := own_idx hj hc e
    rw [List.getElem?_set_self (by rw [h.1]; exact own_inb hi hj), hv, dt, if_neg (by omega)]
  · rw [List.getElem?_set_ne (fun z => e z.symm)]
    refine h.2 i j hi hj ?_
    rcases q with q | ⟨q, r⟩
    · exact Or.inl q
    · right
      refine ⟨q, ?_⟩
      subst q
      have : j ≠ c := fun z => e (by rw [z])
      omega
theorem TI.row {side : Int32} {S n : Nat} {ds : List Value} (h : TI side S n S ds) : TI side S (n + 1) 0 ds := by
  refine ⟨h.1, fun i j hi hj q => h.2 i j hi hj ?_⟩
  rcases q with q | q <;> omega
theorem TI.first (side : Int32) (S : Nat) : TI side S 1 0 (List.replicate (S * S) (.int 0)) := by
  refine ⟨List.length_replicate, fun i j hi hj q => ?_⟩
  have e : i = 0 := by omega
  subst e
  rw [List.getElem?_replicate, if_pos (own_inb hi hj), dt, if_pos rfl]

theorem d2_0 : decode prog_52_method_1_code 0 = .ok (.aload_n 0, 1) := by decide +kernel
theorem d2_1 : decode prog_52_method_1_code 1 = .ok (.invokespecial 1, 3) := by decide +kernel
theorem d2_4 : decode prog_52_method_1_code 4 = .ok (.aload_n 0, 1) := by decide +kernel
theorem d2_5 : decode prog_52_method_1_code 5 = .ok (.iload_n 1, 1) := by decide +kernel
theorem d2_6 : decode prog_52_method_1_code 6 = .ok (.iload_n 1, 1) := by decide +kernel
theorem d2_7 : decode prog_52_method_1_code 7 = .ok (.imul, 1) := by decide +kernel
theorem d2_8 : decode prog_52_method_1_code 8 = .ok (.putfield 7, 3) := by decide +kernel
theorem d2_11 : decode prog_52_method_1_code 11 = .ok (.aload_n 0, 1) := by decide +kernel
theorem d2_12 : decode prog_52_method_1_code 12 = .ok (.aload_n 0, 1) := by decide +kernel
theorem d2_13 : decode prog_52_method_1_code 13 = .ok (.getfield 7, 3) := by decide +kernel
theorem d2_16 : decode prog_52_method_1_code 16 = .ok (.aload_n 0, 1) := by decide +kernel
theorem d2_17 : decode prog_52_method_1_code 17 = .ok (.getfield 7, 3) := by decide +kernel
theorem d2_20 : decode prog_52_method_1_code 20 = .ok (.imul, 1) := by decide +kernel
theorem d2_21 : decode prog_52_method_1_code 21 = .ok (.newarray .int, 2) := by decide +kernel
theorem d2_23 : decode prog_52_method_1_code 23 = .ok (.putfield 13, 3) := by decide +kernel
theorem d2_26 : decode prog_52_method_1_code 26 = .ok (.iconst 1, 1) := by decide +kernel
theorem d2_27 : decode prog_52_method_1_code 27 = .ok (.istore_n 3, 1) := by decide +kernel
theorem d2_28 : decode prog_52_method_1_code 28 = .ok (.iload_n 3, 1) := by decide +kernel
theorem d2_29 : decode prog_52_method_1_code 29 = .ok (.aload_n 0, 1) := by decide +kernel
theorem d2_30 : decode prog_52_method_1_code 30 = .ok (.getfield 7, 3) := by decide +kernel
theorem d2_33 : decode prog_52_method_1_code 33 = .ok (.if_icmp .ge 48, 3) := by decide +kernel
theorem d2_36 : decode prog_52_method_1_code 36 = .ok (.iconst 0, 1) := by decide +kernel
theorem d2_37 : decode prog_52_method_1_code 37 = .ok (.istore 4, 2) := by decide +kernel
theorem d2_39 : decode prog_52_method_1_code 39 = .ok (.iload 4, 2) := by decide +kernel
theorem d2_41 : decode prog_52_method_1_code 41 = .ok (.aload_n 0, 1) := by decide +kernel
theorem d2_42 : decode prog_52_method_1_code 42 = .ok (.getfield 7, 3) := by decide +kernel
theorem d2_45 : decode prog_52_method_1_code 45 = .ok (.if_icmp .ge 30, 3) := by decide +kernel
theorem d2_48 : decode prog_52_method_1_code 48 = .ok (.aload_n 0, 1) := by decide +kernel
theorem d2_49 : decode prog_52_method_1_code 49 = .ok (.getfield 13, 3) := by decide +kernel
theorem d2_52 : decode prog_52_method_1_code 52 = .ok (.iload_n 3, 1) := by decide +kernel
theorem d2_53 : decode prog_52_method_1_code 53 = .ok (.aload_n 0, 1) := by decide +kernel
theorem d2_54 : decode prog_52_method_1_code 54 = .ok (.getfield 7, 3) := by decide +kernel
theorem d2_57 : decode prog_52_method_1_code 57 = .ok (.imul, 1) := by decide +kernel
theorem d2_58 : decode prog_52_method_1_code 58 = .ok (.iload 4, 2) := by decide +kernel
theorem d2_60 : decode prog_52_method_1_code 60 = .ok (.iadd, 1) := by decide +kernel
theorem d2_61 : decode prog_52_method_1_code 61 = .ok (.iload_n 1, 1) := by decide +kernel
theorem d2_62 : decode prog_52_method_1_code 62 = .ok (.iload_n 3, 1) := by decide +kernel
theorem d2_63 : decode prog_52_method_1_code 63 = .ok (.iload 4, 2) := by decide +kernel
theorem d2_65 : decode prog_52_method_1_code 65 = .ok (.invokestatic 17, 3) := by decide +kernel
theorem d2_68 : decode prog_52_method_1_code 68 = .ok (.iastore, 1) := by decide +kernel
theorem d2_69 : decode prog_52_method_1_code 69 = .ok (.iinc 4 1, 3) := by decide +kernel
theorem d2_72 : decode prog_52_method_1_code 72 = .ok (.goto (-33), 3) := by decide +kernel
theorem d2_75 : decode prog_52_method_1_code 75 = .ok (.iinc 3 1, 3) := by decide +kernel
theorem d2_78 : decode prog_52_method_1_code 78 = .ok (.goto (-50), 3) := by decide +kernel
theorem d2_81 : decode prog_52_method_1_code 81 = .ok (.iconst 0, 1) := by decide +kernel
theorem d2_82 : decode prog_52_method_1_code 82 = .ok (.istore_n 3, 1) := by decide +kernel
theorem d2_83 : decode prog_52_method_1_code 83 = .ok (.iload_n 3, 1) := by decide +kernel
theorem d2_84 : decode prog_52_method_1_code 84 = .ok (.aload_n 0, 1) := by decide +kernel
theorem d2_85 : decode prog_52_method_1_code 85 = .ok (.getfield 7, 3) := by decide +kernel
theorem d2_88 : decode prog_52_method_1_code 88 = .ok (.if_icmp .ge 33, 3) := by decide +kernel
theorem d2_91 : decode prog_52_method_1_code 91 = .ok (.aload_n 0, 1) := by decide +kernel
theorem d2_92 : decode prog_52_method_1_code 92 = .ok (.dup, 1) := by decide +kernel
theorem d2_93 : decode prog_52_method_1_code 93 = .ok (.getfield 23, 3) := by decide +kernel
theorem d2_96 : decode prog_52_method_1_code 96 = .ok (.aload_n 0, 1) := by decide +kernel
theorem d2_97 : decode prog_52_method_1_code 97 = .ok (.getfield 13, 3) := by decide +kernel
theorem d2_100 : decode prog_52_method_1_code 100 = .ok (.aload_n 2, 1) := by decide +kernel
theorem d2_101 : decode prog_52_method_1_code 101 = .ok (.iload_n 3, 1) := by decide +kernel
theorem d2_102 : decode prog_52_method_1_code 102 = .ok (.baload, 1) := by decide +kernel
theorem d2_103 : decode prog_52_method_1_code 103 = .ok (.aload_n 0, 1) := by decide +kernel
theorem d2_104 : decode prog_52_method_1_code 104 = .ok (.getfield 7, 3) := by decide +kernel
theorem d2_107 : decode prog_52_method_1_code 107 = .ok (.imul, 1) := by decide +kernel
theorem d2_108 : decode prog_52_method_1_code 108 = .ok (.iload_n 3, 1) := by decide +kernel
theorem d2_109 : decode prog_52_method_1_code 109 = .ok (.iadd, 1) := by decide +kernel
theorem d2_110 : decode prog_52_method_1_code 110 = .ok (.iaload, 1) := by decide +kernel
theorem d2_111 : decode prog_52_method_1_code 111 = .ok (.iadd, 1) := by decide +kernel
theorem d2_112 : decode prog_52_method_1_code 112 = .ok (.putfield 23, 3) := by decide +kernel
theorem d2_115 : decode prog_52_method_1_code 115 = .ok (.iinc 3 1, 3) := by decide +kernel
theorem d2_118 : decode prog_52_method_1_code 118 = .ok (.goto (-35), 3) := by decide +kernel
theorem d2_121 : decode prog_52_method_1_code 121 = .ok (.return_, 1) := by decide +kernel
theorem pd_2 : parseMethodDescriptor "(I[B)V" = some ⟨[.int, (.array .byte)], none⟩ := by decide +kernel
theorem ef_2 (m : MethodId) (p0 : Addr) (p1 : Int32) (p2 : Addr) : entryFrame m #[(.ref p0), (.int p1), (.ref p2)] 5 = mkF m 0 #[.val (.ref p0), .val (.int p1), .val (.ref p2), .unset, .unset] [] := by first | (simp [entryFrame, mkF, argsToLocals, Value.category]; done) | rfl
set_option maxRecDepth 65536 in
set_option maxHeartbeats 40000000 in
theorem rmIni (l : Launch) (Z : State) (a0 : Array Value) (hw : ∀ d ∈ tables_1, d.before a0 Z = true) (p0 : Addr) (p1 : Int32) (p2 : Addr) (h0 : Heap) (n0 : Nat) (Z0 : n0 ≤ h0.size) (sd S : Nat) (hsd : p1.toInt = sd) (hS : S = sd * sd) (h1d : 1 ≤ sd) (h4d : sd ≤ 4) (ns : List Value) (bs : Nat → Int32) (hns : ∀ c, c < S → ns[c]? = some (.int (bs c)) ∧ 0 ≤ (bs c).toInt ∧ (bs c).toInt < S) (f1 : Fld Z h0 p0 "com/example/slidewise/slidewise/search/ManhattanTracker" "squares" "I" (.int (0 : Int32))) (f2 : Fld Z h0 p0 "com/example/slidewise/slidewise/search/ManhattanTracker" "distances" "[I" .null) (f3 : Fld Z h0 p0 "com/example/slidewise/slidewise/search/ManhattanTracker" "value" "I" (.int (0 : Int32))) (E0 : Exa Z h0 p0 "com/example/slidewise/slidewise/search/ManhattanTracker") (B0 : Ar Z h0 p2 .byte ns) (ga : n0 ≤ p0) (nbp : p2 ≠ p0) :
    Con l Z (⟨"com/example/slidewise/slidewise/search/ManhattanTracker", "<init>", "(I[B)V"⟩ : MethodName) prog_52_method_1_code 5 none [] ({ frames := 2, cells := 1, slots := 256, locals := 30 } : Room) 1 256 #[(.ref p0), (.int p1), (.ref p2)] h0 (fun v h L => v = none ∧ Fr n0 L ∧ Keep h0 h [p0] ∧ ∃ d ds, n0 ≤ d ∧ h0.size ≤ d ∧ Fld Z h p0 "com/example/slidewise/slidewise/search/ManhattanTracker" "squares" "I" (.int (p1 * p1)) ∧ Fld Z h p0 "com/example/slidewise/slidewise/search/ManhattanTracker" "distances" "[I" (.ref d) ∧ Fld Z h p0 "com/example/slidewise/slidewise/search/ManhattanTracker" "value" "I" (.int (sumV (fun c => dt p1 (bs c).toInt.toNat c) S)) ∧ Ar Z h d .int ds ∧ TI p1 S S 0 ds) := by
  refine Con.body (plainFor_of_name (by first | (simp [plainName, overriddenIn]; done) | decide +kernel)) ?_
  intro p e s m below meth c T0 hx hby hml hown hnm hZ hret hlk X0 e0
  refine Goes.cast (ef_2 m p0 p1 p2) ?_
  have N0 := Fr.nil n0
  have K0 : Keep h0 h0 [p0] := Keep.refl _ _
  have hside : p1 ≠ 0 := fun z => by rw [z] at hsd; have : (0 : Int32).toInt = 0 := rfl; omega
  have hS16 : S ≤ 16 := by rw [hS]; exact Nat.mul_le_mul h4d h4d
  have hS1 : 1 ≤ S := by rw [hS]; exact Nat.mul_le_mul h1d h1d
  have hsq : (p1 * p1).toInt = (S : Nat) := by rw [hS]; exact own_mul hsd hsd (by omega) (by omega)
  show Goes p.tables e below (T0.setTop (mkF m 0 #[.val (.ref p0), .val (.int p1), .val (.ref p2), .unset, .unset] [])) _
  refine g_aloadN X0 hx (hb hby d2_0) rfl rfl ?_
  show Goes p.tables e below (T0.setTop (mkF m 1 #[.val (.ref p0), .val (.int p1), .val (.ref p2), .unset, .unset] [(.ref p0)])) _
  refine g_init0 X0 hx hZ hown (by rw [hml]; rfl) e0 (hw _ (List.mem_of_getElem? (i := 12) rfl)) (hw _ (List.mem_of_getElem? (i := 13) rfl)) (hw _ (List.mem_of_getElem? (i := 14) rfl)) (hb hby d2_1) 0 (by decide) (by first | decide | exact Nat.le_refl _) (by first | decide | exact Nat.le_refl _) (fun T1 X1 e1 => ?_)
  show Goes p.tables e below (T1.setTop (mkF m 4 #[.val (.ref p0), .val (.int p1), .val (.ref p2), .unset, .unset] [])) _
  refine g_aloadN X1 hx (hb hby d2_4) rfl rfl ?_
  show Goes p.tables e below (T1.setTop (mkF m 5 #[.val (.ref p0), .val (.int p1), .val (.ref p2), .unset, .unset] [(.ref p0)])) _
  refine g_iloadN X1 hx (hb hby d2_5) rfl ?_
  show Goes p.tables e below (T1.setTop (mkF m 6 #[.val (.ref p0), .val (.int p1), .val (.ref p2), .unset, .unset] [(.int p1), (.ref p0)])) _
  refine g_iloadN X1 hx (hb hby d2_6) rfl ?_
  show Goes p.tables e below (T1.setTop (mkF m 7 #[.val (.ref p0), .val (.int p1), .val (.ref p2), .unset, .unset] [(.int p1), (.int p1), (.ref p0)])) _
  refine g_imul X1 hx (hb hby d2_7) ?_
  show Goes p.tables e below (T1.setTop (mkF m 8 #[.val (.ref p0), .val (.int p1), .val (.ref p2), .unset, .unset] [(.int (p1 * p1)), (.ref p0)])) _
  refine g_putF X1 hx hZ hown e1 (hw _ (List.mem_of_getElem? (i := 15) rfl)) Via.refl (v' := (.int (p1 * p1))) f1 E0 (Or.inr ⟨(hw _ (List.mem_of_getElem? (i := 16) rfl)), rfl, hnm⟩) (hw _ (List.mem_of_getElem? (i := 7) rfl)) (ty := .int) (by decide) rfl rfl (hb hby d2_8) (fun T2 h2 X2 e2 W2 => ?_)
  have fx3 : Fld Z h2 p0 "com/example/slidewise/slidewise/search/ManhattanTracker" "distances" "[I" .null := Fld.other W2 f2 (Or.inr (slot_ne (t := (.array .int)) (t' := .int) (Or.inr (hw _ (List.mem_of_getElem? (i := 19) rfl))) (Or.inr (hw _ (List.mem_of_getElem? (i := 16) rfl))) (by decide) (by decide) (by decide)))
  have fx4 : Fld Z h2 p0 "com/example/slidewise/slidewise/search/ManhattanTracker" "value" "I" (.int (0 : Int32)) := Fld.other W2 f3 (Or.inr (slot_ne (t := .int) (t' := .int) (Or.inl (hw _ (List.mem_of_getElem? (i := 32) rfl))) (Or.inr (hw _ (List.mem_of_getElem? (i := 16) rfl))) (by decide) (by decide) (by decide)))
  have fx5 : Exa Z h2 p0 "com/example/slidewise/slidewise/search/ManhattanTracker" := Exa.wr W2 E0
  have fx6 : Ar Z h2 p2 .byte ns := Ar.other B0 W2 nbp
  have fx7 : Fld Z h2 p0 "com/example/slidewise/slidewise/search/ManhattanTracker" "squares" "I" (.int (p1 * p1)) := Fld.same W2 f1
  have N8 := Fr.snoc X2 N0 ga
  have Z9 : n0 ≤ h2.size := by rw [W2.size]; exact Z0
  have K10 : Keep h0 h2 [p0] := Keep.wr K0 W2 (Or.inl (List.mem_of_getElem? (i := 0) rfl))
  show Goes p.tables e below (T2.setTop (mkF m 11 #[.val (.ref p0), .val (.int p1), .val (.ref p2), .unset, .unset] [])) _
  refine g_aloadN X2 hx (hb hby d2_11) rfl rfl ?_
  show Goes p.tables e below (T2.setTop (mkF m 12 #[.val (.ref p0), .val (.int p1), .val (.ref p2), .unset, .unset] [(.ref p0)])) _
  refine g_aloadN X2 hx (hb hby d2_12) rfl rfl ?_
  show Goes p.tables e below (T2.setTop (mkF m 13 #[.val (.ref p0), .val (.int p1), .val (.ref p2), .unset, .unset] [(.ref p0), (.ref p0)])) _
  refine g_getF X2 hx hZ hown e2 (host := "") (Or.inl (hw _ (List.mem_of_getElem? (i := 15) rfl))) Via.refl fx7 (hb hby d2_13) (fun T11 X11 e11 => ?_)
  show Goes p.tables e below (T11.setTop (mkF m 16 #[.val (.ref p0), .val (.int p1), .val (.ref p2), .unset, .unset] [(.int (p1 * p1)), (.ref p0)])) _
  refine g_aloadN X11 hx (hb hby d2_16) rfl rfl ?_
  show Goes p.tables e below (T11.setTop (mkF m 17 #[.val (.ref p0), .val (.int p1), .val (.ref p2), .unset, .unset] [(.ref p0), (.int (p1 * p1)), (.ref p0)])) _
  refine g_getF X11 hx hZ hown e11 (host := "") (Or.inl (hw _ (List.mem_of_getElem? (i := 15) rfl))) Via.refl fx7 (hb hby d2_17) (fun T12 X12 e12 => ?_)
  show Goes p.tables e below (T12.setTop (mkF m 20 #[.val (.ref p0), .val (.int p1), .val (.ref p2), .unset, .unset] [(.int (p1 * p1)), (.int (p1 * p1)), (.ref p0)])) _
  refine g_imul X12 hx (hb hby d2_20) ?_
  show Goes p.tables e below (T12.setTop (mkF m 21 #[.val (.ref p0), .val (.int p1), .val (.ref p2), .unset, .unset] [(.int ((p1 * p1) * (p1 * p1))), (.ref p0)])) _
  have hSS : S * S ≤ 256 := Nat.mul_le_mul hS16 hS16
  show Goes p.tables e below (T12.setTop (mkF m 21 #[.val (.ref p0), .val (.int p1), .val (.ref p2), .unset, .unset] [(.int ((p1 * p1) * (p1 * p1))), (.ref p0)])) _
  refine g_newarr X12 hx hZ e12 (hw _ (List.mem_of_getElem? (i := 17) rfl)) (hb hby d2_21) (n := (S * S)) (own_mul hsq hsq (by omega) (by omega)) 256 (by omega) (by decide) (by decide) (by decide) (ad := "[I") (by decide) rfl (fun T13 h13 a13 ga13 X13 e13 Ex13 Aa13 Ea13 => ?_)
  have ne14 : p0 ≠ a13 := Nat.ne_of_lt (by rw [ga13]; exact fx3.lt)
  have ne15 : p2 ≠ a13 := Nat.ne_of_lt (by rw [ga13]; exact fx6.lt)
  have ge16 : n0 ≤ a13 := by rw [ga13]; exact Z9
  have ge17 : h0.size ≤ a13 := by rw [ga13]; exact K10.1
  have fx18 : Fld Z h13 p0 "com/example/slidewise/slidewise/search/ManhattanTracker" "distances" "[I" .null := Fld.ext Ex13 fx3
  have fx19 : Fld Z h13 p0 "com/example/slidewise/slidewise/search/ManhattanTracker" "value" "I" (.int (0 : Int32)) := Fld.ext Ex13 fx4
  have fx20 : Exa Z h13 p0 "com/example/slidewise/slidewise/search/ManhattanTracker" := Exa.ext Ex13 fx5
  have fx21 : Ar Z h13 p2 .byte ns := Ar.ext fx6 Ex13
  have fx22 : Fld Z h13 p0 "com/example/slidewise/slidewise/search/ManhattanTracker" "squares" "I" (.int (p1 * p1)) := Fld.ext Ex13 fx7
  have Z23 : n0 ≤ h13.size := Nat.le_trans Z9 Ex13.1
  have K24 : Keep h0 h13 [p0] := Keep.ext K10 Ex13
  have fx25 : Ar Z h13 a13 .int (List.replicate (S * S) (.int (0 : Int32))) := Aa13
  show Goes p.tables e below (T13.setTop (mkF m 23 #[.val (.ref p0), .val (.int p1), .val (.ref p2), .unset, .unset] [(.ref a13), (.ref p0)])) _
  refine g_putF X13 hx hZ hown e13 (hw _ (List.mem_of_getElem? (i := 18) rfl)) Via.refl (v' := (.ref a13)) fx18 fx20 (Or.inr ⟨(hw _ (List.mem_of_getElem? (i := 19) rfl)), rfl, hnm⟩) (hw _ (List.mem_of_getElem? (i := 7) rfl)) (ty := (.array .int)) (by decide) rfl rfl (hb hby d2_23) (fun T26 h26 X26 e26 W26 => ?_)
  have fx27 : Fld Z h26 p0 "com/example/slidewise/slidewise/search/ManhattanTracker" "value" "I" (.int (0 : Int32)) := Fld.other W26 fx19 (Or.inr (slot_ne (t := .int) (t' := (.array .int)) (Or.inl (hw _ (List.mem_of_getElem? (i := 32) rfl))) (Or.inr (hw _ (List.mem_of_getElem? (i := 19) rfl))) (by decide) (by decide) (by decide)))
  have fx28 : Exa Z h26 p0 "com/example/slidewise/slidewise/search/ManhattanTracker" := Exa.wr W26 fx20
  have fx29 : Ar Z h26 p2 .byte ns := Ar.other fx21 W26 nbp
  have fx30 : Fld Z h26 p0 "com/example/slidewise/slidewise/search/ManhattanTracker" "squares" "I" (.int (p1 * p1)) := Fld.other W26 fx22 (Or.inr (slot_ne (t := .int) (t' := (.array .int)) (Or.inr (hw _ (List.mem_of_getElem? (i := 16) rfl))) (Or.inr (hw _ (List.mem_of_getElem? (i := 19) rfl))) (by decide) (by decide) (by decide)))
  have fx31 : Ar Z h26 a13 .int (List.replicate (S * S) (.int (0 : Int32))) := Ar.other fx25 W26 (Ne.symm ne14)
  have fx32 : Exa Z h26 a13 "[I" := Exa.wr W26 Ea13
  have fx33 : Fld Z h26 p0 "com/example/slidewise/slidewise/search/ManhattanTracker" "distances" "[I" (.ref a13) := Fld.same W26 fx18
  have N34 := Fr.snoc X26 N8 ga
  have Z35 : n0 ≤ h26.size := by rw [W26.size]; exact Z23
  have K36 : Keep h0 h26 [p0] := Keep.wr K24 W26 (Or.inl (List.mem_of_getElem? (i := 0) rfl))
  show Goes p.tables e below (T26.setTop (mkF m 26 #[.val (.ref p0), .val (.int p1), .val (.ref p2), .unset, .unset] [])) _
  refine g_iconst X26 hx (1 : Int32) (hb hby d2_26) rfl ?_
  show Goes p.tables e below (T26.setTop (mkF m 27 #[.val (.ref p0), .val (.int p1), .val (.ref p2), .unset, .unset] [(.int (1 : Int32))])) _
  refine g_istoreN X26 hx (hb hby d2_27) (l' := #[.val (.ref p0), .val (.int p1), .val (.ref p2), .val (.int (1 : Int32)), .unset]) rfl ?_
  have nbd : p2 ≠ a13 := ne15
  have npd : p0 ≠ a13 := ne14
  have gd : n0 ≤ a13 := ge16
  have g0d : h0.size ≤ a13 := ge17
  have loop3 : ∀ k c9 : Nat, ∀ (sl : Slot), S - c9 = k → c9 ≤ S → ∀ (T : State) (locs : List Loc) (h : Heap) (ds : List Value), Stand p l e ({ frames := 2, cells := 1, slots := 256, locals := 30 } : Room) s m #[(.ref p0), (.int p1), (.ref p2)] below meth c T locs (0 + 1) (0 + 256) → T.heap = h → Fr n0 locs → n0 ≤ h.size → Keep h0 h [p0] → Exa Z h p0 "com/example/slidewise/slidewise/search/ManhattanTracker" ∧ Fld Z h p0 "com/example/slidewise/slidewise/search/ManhattanTracker" "squares" "I" (.int (p1 * p1)) ∧ Fld Z h p0 "com/example/slidewise/slidewise/search/ManhattanTracker" "distances" "[I" (.ref a13) ∧ Fld Z h p0 "com/example/slidewise/slidewise/search/ManhattanTracker" "value" "I" (.int (sumV (fun c => dt p1 (bs c).toInt.toNat c) c9)) ∧ Ar Z h a13 .int ds ∧ Ar Z h p2 .byte ns → TI p1 S S 0 ds → Goes p.tables e below (T.setTop (mkF m 83 #[.val (.ref p0), .val (.int p1), .val (.ref p2), .val (.int (Int32.ofNat c9)), sl] [])) (Fin s 1 256 (fun v h L => v = none ∧ Fr n0 L ∧ Keep h0 h [p0] ∧ ∃ d ds, n0 ≤ d ∧ h0.size ≤ d ∧ Fld Z h p0 "com/example/slidewise/slidewise/search/ManhattanTracker" "squares" "I" (.int (p1 * p1)) ∧ Fld Z h p0 "com/example/slidewise/slidewise/search/ManhattanTracker" "distances" "[I" (.ref d) ∧ Fld Z h p0 "com/example/slidewise/slidewise/search/ManhattanTracker" "value" "I" (.int (sumV (fun c => dt p1 (bs c).toInt.toNat c) S)) ∧ Ar Z h d .int ds ∧ TI p1 S S 0 ds)) := by
    intro k
    induction k using Nat.strongRecOn with
    | _ k ih =>
      intro c9 sl hk hc9 T locs h ds X9 e9 N9 Z9 K9 hts hti
      obtain ⟨E9, fS, fD, fV, A9, B9⟩ := hts
      show Goes p.tables e below (T.setTop (mkF m 83 #[.val (.ref p0), .val (.int p1), .val (.ref p2), .val (.int (Int32.ofNat c9)), sl] [])) _
      refine g_iloadN X9 hx (hb hby d2_83) rfl ?_
      show Goes p.tables e below (T.setTop (mkF m 84 #[.val (.ref p0), .val (.int p1), .val (.ref p2), .val (.int (Int32.ofNat c9)), sl] [(.int (Int32.ofNat c9))])) _
      refine g_aloadN X9 hx (hb hby d2_84) rfl rfl ?_
      show Goes p.tables e below (T.setTop (mkF m 85 #[.val (.ref p0), .val (.int p1), .val (.ref p2), .val (.int (Int32.ofNat c9)), sl] [(.ref p0), (.int (Int32.ofNat c9))])) _
      refine g_getF X9 hx hZ hown e9 (host := "") (Or.inl (hw _ (List.mem_of_getElem? (i := 15) rfl))) Via.refl fS (hb hby d2_85) (fun T37 X37 e37 => ?_)
      show Goes p.tables e below (T37.setTop (mkF m 88 #[.val (.ref p0), .val (.int p1), .val (.ref p2), .val (.int (Int32.ofNat c9)), sl] [(.int (p1 * p1)), (.int (Int32.ofNat c9))])) _
      refine g_icmp_ge X37 hx (hb hby d2_88) (by decide) (pc' := 121) (by decide) (fun c88 => ?_) (fun c88 => ?_)
      · skip
        show Goes p.tables e below (T37.setTop (mkF m 121 #[.val (.ref p0), .val (.int p1), .val (.ref p2), .val (.int (Int32.ofNat c9)), sl] [])) _
        exact g_ret0 X37 hx hret hlk (hb hby d2_121) (by decide) (by decide) (by rw [e37]; exact ⟨rfl, N9, K9, a13, ds, gd, g0d, fS, fD, (by rw [show S = c9 from by have q : ¬ _ < _ := fun z => c88 (Int32.lt_iff_toInt_lt.mpr z); rw [own_of (by omega), hsq] at q; omega]; exact fV), A9, hti⟩)
      · skip
        show Goes p.tables e below (T37.setTop (mkF m 91 #[.val (.ref p0), .val (.int p1), .val (.ref p2), .val (.int (Int32.ofNat c9)), sl] [])) _
        have hlt : c9 < S := (by have q := Int32.lt_iff_toInt_lt.mp c88; rw [own_of (by omega), hsq] at q; omega)
        obtain ⟨hn1, hn2, hn3⟩ := hns c9 hlt
        have hbn : (bs c9).toInt = ((bs c9).toInt.toNat : Nat) := by omega
        show Goes p.tables e below (T37.setTop (mkF m 91 #[.val (.ref p0), .val (.int p1), .val (.ref p2), .val (.int (Int32.ofNat c9)), sl] [])) _
        refine g_aloadN X37 hx (hb hby d2_91) rfl rfl ?_
        show Goes p.tables e below (T37.setTop (mkF m 92 #[.val (.ref p0), .val (.int p1), .val (.ref p2), .val (.int (Int32.ofNat c9)), sl] [(.ref p0)])) _
        refine g_dup X37 hx (hb hby d2_92) rfl ?_
        show Goes p.tables e below (T37.setTop (mkF m 93 #[.val (.ref p0), .val (.int p1), .val (.ref p2), .val (.int (Int32.ofNat c9)), sl] [(.ref p0), (.ref p0)])) _
        refine g_getF X37 hx hZ hown e37 (host := "") (Or.inl (hw _ (List.mem_of_getElem? (i := 31) rfl))) Via.refl fV (hb hby d2_93) (fun T38 X38 e38 => ?_)
        show Goes p.tables e below (T38.setTop (mkF m 96 #[.val (.ref p0), .val (.int p1), .val (.ref p2), .val (.int (Int32.ofNat c9)), sl] [(.int (sumV (fun c => dt p1 (bs c).toInt.toNat c) c9)), (.ref p0)])) _
        refine g_aloadN X38 hx (hb hby d2_96) rfl rfl ?_
        show Goes p.tables e below (T38.setTop (mkF m 97 #[.val (.ref p0), .val (.int p1), .val (.ref p2), .val (.int (Int32.ofNat c9)), sl] [(.ref p0), (.int (sumV (fun c => dt p1 (bs c).toInt.toNat c) c9)), (.ref p0)])) _
        refine g_getF X38 hx hZ hown e38 (host := "") (Or.inl (hw _ (List.mem_of_getElem? (i := 18) rfl))) Via.refl fD (hb hby d2_97) (fun T39 X39 e39 => ?_)
        show Goes p.tables e below (T39.setTop (mkF m 100 #[.val (.ref p0), .val (.int p1), .val (.ref p2), .val (.int (Int32.ofNat c9)), sl] [(.ref a13), (.int (sumV (fun c => dt p1 (bs c).toInt.toNat c) c9)), (.ref p0)])) _
        refine g_aloadN X39 hx (hb hby d2_100) rfl rfl ?_
        show Goes p.tables e below (T39.setTop (mkF m 101 #[.val (.ref p0), .val (.int p1), .val (.ref p2), .val (.int (Int32.ofNat c9)), sl] [(.ref p2), (.ref a13), (.int (sumV (fun c => dt p1 (bs c).toInt.toNat c) c9)), (.ref p0)])) _
        refine g_iloadN X39 hx (hb hby d2_101) rfl ?_
        show Goes p.tables e below (T39.setTop (mkF m 102 #[.val (.ref p0), .val (.int p1), .val (.ref p2), .val (.int (Int32.ofNat c9)), sl] [(.int (Int32.ofNat c9)), (.ref p2), (.ref a13), (.int (sumV (fun c => dt p1 (bs c).toInt.toNat c) c9)), (.ref p0)])) _
        refine g_baload X39 hx hZ e39 B9 (i := c9) (v := (.int (bs c9))) (own_of (by omega)) hn1 (hb hby d2_102) ?_
        show Goes p.tables e below (T39.setTop (mkF m 103 #[.val (.ref p0), .val (.int p1), .val (.ref p2), .val (.int (Int32.ofNat c9)), sl] [(.int (bs c9)), (.ref a13), (.int (sumV (fun c => dt p1 (bs c).toInt.toNat c) c9)), (.ref p0)])) _
        refine g_aloadN X39 hx (hb hby d2_103) rfl rfl ?_
        show Goes p.tables e below (T39.setTop (mkF m 104 #[.val (.ref p0), .val (.int p1), .val (.ref p2), .val (.int (Int32.ofNat c9)), sl] [(.ref p0), (.int (bs c9)), (.ref a13), (.int (sumV (fun c => dt p1 (bs c).toInt.toNat c) c9)), (.ref p0)])) _
        refine g_getF X39 hx hZ hown e39 (host := "") (Or.inl (hw _ (List.mem_of_getElem? (i := 15) rfl))) Via.refl fS (hb hby d2_104) (fun T40 X40 e40 => ?_)
        show Goes p.tables e below (T40.setTop (mkF m 107 #[.val (.ref p0), .val (.int p1), .val (.ref p2), .val (.int (Int32.ofNat c9)), sl] [(.int (p1 * p1)), (.int (bs c9)), (.ref a13), (.int (sumV (fun c => dt p1 (bs c).toInt.toNat c) c9)), (.ref p0)])) _
        refine g_imul X40 hx (hb hby d2_107) ?_
        show Goes p.tables e below (T40.setTop (mkF m 108 #[.val (.ref p0), .val (.int p1), .val (.ref p2), .val (.int (Int32.ofNat c9)), sl] [(.int ((bs c9) * (p1 * p1))), (.ref a13), (.int (sumV (fun c => dt p1 (bs c).toInt.toNat c) c9)), (.ref p0)])) _
        refine g_iloadN X40 hx (hb hby d2_108) rfl ?_
        show Goes p.tables e below (T40.setTop (mkF m 109 #[.val (.ref p0), .val (.int p1), .val (.ref p2), .val (.int (Int32.ofNat c9)), sl] [(.int (Int32.ofNat c9)), (.int ((bs c9) * (p1 * p1))), (.ref a13), (.int (sumV (fun c => dt p1 (bs c).toInt.toNat c) c9)), (.ref p0)])) _
        refine g_iadd X40 hx (hb hby d2_109) ?_
        show Goes p.tables e below (T40.setTop (mkF m 110 #[.val (.ref p0), .val (.int p1), .val (.ref p2), .val (.int (Int32.ofNat c9)), sl] [(.int (((bs c9) * (p1 * p1)) + (Int32.ofNat c9))), (.ref a13), (.int (sumV (fun c => dt p1 (bs c).toInt.toNat c) c9)), (.ref p0)])) _
        refine g_iaload X40 hx hZ e40 A9 (i := ((bs c9).toInt.toNat * S + c9)) (v := (.int (dt p1 (bs c9).toInt.toNat c9))) (own_lin hbn hsq (own_of (by omega)) (by omega) (by omega) (by omega)) (hti.2 _ _ (by omega) hlt (Or.inl (by omega))) (hb hby d2_110) ?_
        show Goes p.tables e below (T40.setTop (mkF m 111 #[.val (.ref p0), .val (.int p1), .val (.ref p2), .val (.int (Int32.ofNat c9)), sl] [(.int (dt p1 (bs c9).toInt.toNat c9)), (.int (sumV (fun c => dt p1 (bs c).toInt.toNat c) c9)), (.ref p0)])) _
        refine g_iadd X40 hx (hb hby d2_111) ?_
        show Goes p.tables e below (T40.setTop (mkF m 112 #[.val (.ref p0), .val (.int p1), .val (.ref p2), .val (.int (Int32.ofNat c9)), sl] [(.int ((sumV (fun c => dt p1 (bs c).toInt.toNat c) c9) + (dt p1 (bs c9).toInt.toNat c9))), (.ref p0)])) _
        refine g_putF X40 hx hZ hown e40 (hw _ (List.mem_of_getElem? (i := 31) rfl)) Via.refl (v' := (.int ((sumV (fun c => dt p1 (bs c).toInt.toNat c) c9) + (dt p1 (bs c9).toInt.toNat c9)))) fV E9 (Or.inl (hw _ (List.mem_of_getElem? (i := 32) rfl))) (hw _ (List.mem_of_getElem? (i := 7) rfl)) (ty := .int) (by decide) rfl rfl (hb hby d2_112) (fun T41 h41 X41 e41 W41 => ?_)
        have fx42 : Fld Z h41 p0 "com/example/slidewise/slidewise/search/ManhattanTracker" "squares" "I" (.int (p1 * p1)) := Fld.other W41 fS (Or.inr (slot_ne (t := .int) (t' := .int) (Or.inr (hw _ (List.mem_of_getElem? (i := 16) rfl))) (Or.inl (hw _ (List.mem_of_getElem? (i := 32) rfl))) (by decide) (by decide) (by decide)))
        have fx43 : Fld Z h41 p0 "com/example/slidewise/slidewise/search/ManhattanTracker" "distances" "[I" (.ref a13) := Fld.other W41 fD (Or.inr (slot_ne (t := (.array .int)) (t' := .int) (Or.inr (hw _ (List.mem_of_getElem? (i := 19) rfl))) (Or.inl (hw _ (List.mem_of_getElem? (i := 32) rfl))) (by decide) (by decide) (by decide)))
        have fx44 : Exa Z h41 p0 "com/example/slidewise/slidewise/search/ManhattanTracker" := Exa.wr W41 E9
        have fx45 : Ar Z h41 p2 .byte ns := Ar.other B9 W41 nbp
        have fx46 : Ar Z h41 a13 .int ds := Ar.other A9 W41 (Ne.symm npd)
        have fx47 : Fld Z h41 p0 "com/example/slidewise/slidewise/search/ManhattanTracker" "value" "I" (.int ((sumV (fun c => dt p1 (bs c).toInt.toNat c) c9) + (dt p1 (bs c9).toInt.toNat c9))) := Fld.same W41 fV
        have N48 := Fr.snoc X41 N9 ga
        have Z49 : n0 ≤ h41.size := by rw [W41.size]; exact Z9
        have K50 : Keep h0 h41 [p0] := Keep.wr K9 W41 (Or.inl (List.mem_of_getElem? (i := 0) rfl))
        show Goes p.tables e below (T41.setTop (mkF m 115 #[.val (.ref p0), .val (.int p1), .val (.ref p2), .val (.int (Int32.ofNat c9)), sl] [])) _
        refine g_iinc X41 hx (1 : Int32) (hb hby d2_115) rfl rfl (l' := #[.val (.ref p0), .val (.int p1), .val (.ref p2), .val (.int ((Int32.ofNat c9) + (1 : Int32))), sl]) rfl ?_
        show Goes p.tables e below (T41.setTop (mkF m 118 #[.val (.ref p0), .val (.int p1), .val (.ref p2), .val (.int ((Int32.ofNat c9) + (1 : Int32))), sl] [])) _
        refine g_goto X41 hx (hb hby d2_118) (by decide) (pc' := 83) (by decide) ?_
        rw [own_succ]
        exact ih (S - (c9 + 1)) (by omega) (c9 + 1) sl rfl (by omega) _ _ _ _ X41 e41 N48 Z49 K50 ⟨fx44, fx42, fx43, fx47, fx46, fx45⟩ hti
  have loop1 : ∀ k n9 : Nat, ∀ (sl : Slot), One sl → S - n9 = k → 1 ≤ n9 → n9 ≤ S → ∀ (T : State) (locs : List Loc) (h : Heap) (ds : List Value), Stand p l e ({ frames := 2, cells := 1, slots := 256, locals := 30 } : Room) s m #[(.ref p0), (.int p1), (.ref p2)] below meth c T locs (0 + 1) (0 + 256) → T.heap = h → Fr n0 locs → n0 ≤ h.size → Keep h0 h [p0] → Exa Z h p0 "com/example/slidewise/slidewise/search/ManhattanTracker" ∧ Fld Z h p0 "com/example/slidewise/slidewise/search/ManhattanTracker" "squares" "I" (.int (p1 * p1)) ∧ Fld Z h p0 "com/example/slidewise/slidewise/search/ManhattanTracker" "distances" "[I" (.ref a13) ∧ Fld Z h p0 "com/example/slidewise/slidewise/search/ManhattanTracker" "value" "I" (.int (0 : Int32)) ∧ Ar Z h a13 .int ds ∧ Ar Z h p2 .byte ns → TI p1 S n9 0 ds → Goes p.tables e below (T.setTop (mkF m 28 #[.val (.ref p0), .val (.int p1), .val (.ref p2), .val (.int (Int32.ofNat n9)), sl] [])) (Fin s 1 256 (fun v h L => v = none ∧ Fr n0 L ∧ Keep h0 h [p0] ∧ ∃ d ds, n0 ≤ d ∧ h0.size ≤ d ∧ Fld Z h p0 "com/example/slidewise/slidewise/search/ManhattanTracker" "squares" "I" (.int (p1 * p1)) ∧ Fld Z h p0 "com/example/slidewise/slidewise/search/ManhattanTracker" "distances" "[I" (.ref d) ∧ Fld Z h p0 "com/example/slidewise/slidewise/search/ManhattanTracker" "value" "I" (.int (sumV (fun c => dt p1 (bs c).toInt.toNat c) S)) ∧ Ar Z h d .int ds ∧ TI p1 S S 0 ds)) := by
    intro k
    induction k using Nat.strongRecOn with
    | _ k ih =>
      intro n9 sl hsl hk h1n hn9 T locs h ds X9 e9 N9 Z9 K9 hts hti
      obtain ⟨E9, fS, fD, fV, A9, B9⟩ := hts
      show Goes p.tables e below (T.setTop (mkF m 28 #[.val (.ref p0), .val (.int p1), .val (.ref p2), .val (.int (Int32.ofNat n9)), sl] [])) _
      refine g_iloadN X9 hx (hb hby d2_28) rfl ?_
      show Goes p.tables e below (T.setTop (mkF m 29 #[.val (.ref p0), .val (.int p1), .val (.ref p2), .val (.int (Int32.ofNat n9)), sl] [(.int (Int32.ofNat n9))])) _
      refine g_aloadN X9 hx (hb hby d2_29) rfl rfl ?_
      show Goes p.tables e below (T.setTop (mkF m 30 #[.val (.ref p0), .val (.int p1), .val (.ref p2), .val (.int (Int32.ofNat n9)), sl] [(.ref p0), (.int (Int32.ofNat n9))])) _
      refine g_getF X9 hx hZ hown e9 (host := "") (Or.inl (hw _ (List.mem_of_getElem? (i := 15) rfl))) Via.refl fS (hb hby d2_30) (fun T51 X51 e51 => ?_)
      refine g_icmp_ge X51 hx (hb hby d2_33) (by decide) (pc' := 81) (by decide) (fun c33 => ?_) (fun c33 => ?_)
      · skip
        show Goes p.tables e below (T51.setTop (mkF m 81 #[.val (.ref p0), .val (.int p1), .val (.ref p2), .val (.int (Int32.ofNat n9)), sl] [])) _
        refine g_iconst X51 hx (0 : Int32) (hb hby d2_81) rfl ?_
        show Goes p.tables e below (T51.setTop (mkF m 82 #[.val (.ref p0), .val (.int p1), .val (.ref p2), .val (.int (Int32.ofNat n9)), sl] [(.int (0 : Int32))])) _
        refine g_istoreN X51 hx (hb hby d2_82) (l' := #[.val (.ref p0), .val (.int p1), .val (.ref p2), .val (.int (0 : Int32)), sl]) rfl ?_
        have en : n9 = S := (by have q : ¬ _ < _ := fun z => c33 (Int32.lt_iff_toInt_lt.mpr z); rw [own_of (by omega), hsq] at q; omega)
        subst en
        exact loop3 _ 0 sl rfl (Nat.zero_le _) _ _ _ _ X51 e51 N9 Z9 K9 ⟨E9, fS, fD, fV, A9, B9⟩ hti
      · skip
        show Goes p.tables e below (T51.setTop (mkF m 36 #[.val (.ref p0), .val (.int p1), .val (.ref p2), .val (.int (Int32.ofNat n9)), sl] [])) _
        have hlt : n9 < S := (by have q := Int32.lt_iff_toInt_lt.mp c33; rw [own_of (by omega), hsq] at q; omega)
        have inner : ∀ k2 c9 : Nat, S - c9 = k2 → c9 ≤ S → ∀ (T : State) (locs : List Loc) (h : Heap) (ds : List Value), Stand p l e ({ frames := 2, cells := 1, slots := 256, locals := 30 } : Room) s m #[(.ref p0), (.int p1), (.ref p2)] below meth c T locs (0 + 1) (0 + 256) → T.heap = h → Fr n0 locs → n0 ≤ h.size → Keep h0 h [p0] → Exa Z h p0 "com/example/slidewise/slidewise/search/ManhattanTracker" ∧ Fld Z h p0 "com/example/slidewise/slidewise/search/ManhattanTracker" "squares" "I" (.int (p1 * p1)) ∧ Fld Z h p0 "com/example/slidewise/slidewise/search/ManhattanTracker" "distances" "[I" (.ref a13) ∧ Fld Z h p0 "com/example/slidewise/slidewise/search/ManhattanTracker" "value" "I" (.int (0 : Int32)) ∧ Ar Z h a13 .int ds ∧ Ar Z h p2 .byte ns → TI p1 S n9 c9 ds → Goes p.tables e below (T.setTop (mkF m 39 #[.val (.ref p0), .val (.int p1), .val (.ref p2), .val (.int (Int32.ofNat n9)), .val (.int (Int32.ofNat c9))] [])) (Fin s 1 256 (fun v h L => v = none ∧ Fr n0 L ∧ Keep h0 h [p0] ∧ ∃ d ds, n0 ≤ d ∧ h0.size ≤ d ∧ Fld Z h p0 "com/example/slidewise/slidewise/search/ManhattanTracker" "squares" "I" (.int (p1 * p1)) ∧ Fld Z h p0 "com/example/slidewise/slidewise/search/ManhattanTracker" "distances" "[I" (.ref d) ∧ Fld Z h p0 "com/example/slidewise/slidewise/search/ManhattanTracker" "value" "I" (.int (sumV (fun c => dt p1 (bs c).toInt.toNat c) S)) ∧ Ar Z h d .int ds ∧ TI p1 S S 0 ds)) := by
          intro k2
          induction k2 using Nat.strongRecOn with
          | _ k2 ih2 =>
            intro c9 hk2 hc9 T locs h ds X9 e9 N9 Z9 K9 hts hti
            obtain ⟨E9, fS, fD, fV, A9, B9⟩ := hts
            show Goes p.tables e below (T.setTop (mkF m 39 #[.val (.ref p0), .val (.int p1), .val (.ref p2), .val (.int (Int32.ofNat n9)), .val (.int (Int32.ofNat c9))] [])) _
            refine g_iload X9 hx (hb hby d2_39) rfl ?_
            show Goes p.tables e below (T.setTop (mkF m 41 #[.val (.ref p0), .val (.int p1), .val (.ref p2), .val (.int (Int32.ofNat n9)), .val (.int (Int32.ofNat c9))] [(.int (Int32.ofNat c9))])) _
            refine g_aloadN X9 hx (hb hby d2_41) rfl rfl ?_
            show Goes p.tables e below (T.setTop (mkF m 42 #[.val (.ref p0), .val (.int p1), .val (.ref p2), .val (.int (Int32.ofNat n9)), .val (.int (Int32.ofNat c9))] [(.ref p0), (.int (Int32.ofNat c9))])) _
            refine g_getF X9 hx hZ hown e9 (host := "") (Or.inl (hw _ (List.mem_of_getElem? (i := 15) rfl))) Via.refl fS (hb hby d2_42) (fun T52 X52 e52 => ?_)
            refine g_icmp_ge X52 hx (hb hby d2_45) (by decide) (pc' := 75) (by decide) (fun c45 => ?_) (fun c45 => ?_)
            · skip
              show Goes p.tables e below (T52.setTop (mkF m 75 #[.val (.ref p0), .val (.int p1), .val (.ref p2), .val (.int (Int32.ofNat n9)), .val (.int (Int32.ofNat c9))] [])) _
              refine g_iinc X52 hx (1 : Int32) (hb hby d2_75) rfl rfl (l' := #[.val (.ref p0), .val (.int p1), .val (.ref p2), .val (.int ((Int32.ofNat n9) + (1 : Int32))), .val (.int (Int32.ofNat c9))]) rfl ?_
              show Goes p.tables e below (T52.setTop (mkF m 78 #[.val (.ref p0), .val (.int p1), .val (.ref p2), .val (.int ((Int32.ofNat n9) + (1 : Int32))), .val (.int (Int32.ofNat c9))] [])) _
              refine g_goto X52 hx (hb hby d2_78) (by decide) (pc' := 28) (by decide) ?_
              have ec : c9 = S := (by have q : ¬ _ < _ := fun z => c45 (Int32.lt_iff_toInt_lt.mpr z); rw [own_of (by omega), hsq] at q; omega)
              subst ec
              rw [own_succ]
              exact ih (c9 - (n9 + 1)) (by omega) (n9 + 1) _ (One.val rfl) rfl (by omega) (by omega) _ _ _ _ X52 e52 N9 Z9 K9 ⟨E9, fS, fD, fV, A9, B9⟩ hti.row
            · skip
              show Goes p.tables e below (T52.setTop (mkF m 48 #[.val (.ref p0), .val (.int p1), .val (.ref p2), .val (.int (Int32.ofNat n9)), .val (.int (Int32.ofNat c9))] [])) _
              have hlc : c9 < S := (by have q := Int32.lt_iff_toInt_lt.mp c45; rw [own_of (by omega), hsq] at q; omega)
              refine g_aloadN X52 hx (hb hby d2_48) rfl rfl ?_
              show Goes p.tables e below (T52.setTop (mkF m 49 #[.val (.ref p0), .val (.int p1), .val (.ref p2), .val (.int (Int32.ofNat n9)), .val (.int (Int32.ofNat c9))] [(.ref p0)])) _
              refine g_getF X52 hx hZ hown e52 (host := "") (Or.inl (hw _ (List.mem_of_getElem? (i := 18) rfl))) Via.refl fD (hb hby d2_49) (fun T53 X53 e53 => ?_)
              show Goes p.tables e below (T53.setTop (mkF m 52 #[.val (.ref p0), .val (.int p1), .val (.ref p2), .val (.int (Int32.ofNat n9)), .val (.int (Int32.ofNat c9))] [(.ref a13)])) _
              refine g_iloadN X53 hx (hb hby d2_52) rfl ?_
              show Goes p.tables e below (T53.setTop (mkF m 53 #[.val (.ref p0), .val (.int p1), .val (.ref p2), .val (.int (Int32.ofNat n9)), .val (.int (Int32.ofNat c9))] [(.int (Int32.ofNat n9)), (.ref a13)])) _
              refine g_aloadN X53 hx (hb hby d2_53) rfl rfl ?_
              show Goes p.tables e below (T53.setTop (mkF m 54 #[.val (.ref p0), .val (.int p1), .val (.ref p2), .val (.int (Int32.ofNat n9)), .val (.int (Int32.ofNat c9))] [(.ref p0), (.int (Int32.ofNat n9)), (.ref a13)])) _
              refine g_getF X53 hx hZ hown e53 (host := "") (Or.inl (hw _ (List.mem_of_getElem? (i := 15) rfl))) Via.refl fS (hb hby d2_54) (fun T54 X54 e54 => ?_)
              show Goes p.tables e below (T54.setTop (mkF m 57 #[.val (.ref p0), .val (.int p1), .val (.ref p2), .val (.int (Int32.ofNat n9)), .val (.int (Int32.ofNat c9))] [(.int (p1 * p1)), (.int (Int32.ofNat n9)), (.ref a13)])) _
              refine g_imul X54 hx (hb hby d2_57) ?_
              show Goes p.tables e below (T54.setTop (mkF m 58 #[.val (.ref p0), .val (.int p1), .val (.ref p2), .val (.int (Int32.ofNat n9)), .val (.int (Int32.ofNat c9))] [(.int ((Int32.ofNat n9) * (p1 * p1))), (.ref a13)])) _
              refine g_iload X54 hx (hb hby d2_58) rfl ?_
              show Goes p.tables e below (T54.setTop (mkF m 60 #[.val (.ref p0), .val (.int p1), .val (.ref p2), .val (.int (Int32.ofNat n9)), .val (.int (Int32.ofNat c9))] [(.int (Int32.ofNat c9)), (.int ((Int32.ofNat n9) * (p1 * p1))), (.ref a13)])) _
              refine g_iadd X54 hx (hb hby d2_60) ?_
              show Goes p.tables e below (T54.setTop (mkF m 61 #[.val (.ref p0), .val (.int p1), .val (.ref p2), .val (.int (Int32.ofNat n9)), .val (.int (Int32.ofNat c9))] [(.int (((Int32.ofNat n9) * (p1 * p1)) + (Int32.ofNat c9))), (.ref a13)])) _
              refine g_iloadN X54 hx (hb hby d2_61) rfl ?_
              show Goes p.tables e below (T54.setTop (mkF m 62 #[.val (.ref p0), .val (.int p1), .val (.ref p2), .val (.int (Int32.ofNat n9)), .val (.int (Int32.ofNat c9))] [(.int p1), (.int (((Int32.ofNat n9) * (p1 * p1)) + (Int32.ofNat c9))), (.ref a13)])) _
              refine g_iloadN X54 hx (hb hby d2_62) rfl ?_
              show Goes p.tables e below (T54.setTop (mkF m 63 #[.val (.ref p0), .val (.int p1), .val (.ref p2), .val (.int (Int32.ofNat n9)), .val (.int (Int32.ofNat c9))] [(.int (Int32.ofNat n9)), (.int p1), (.int (((Int32.ofNat n9) * (p1 * p1)) + (Int32.ofNat c9))), (.ref a13)])) _
              refine g_iload X54 hx (hb hby d2_63) rfl ?_
              show Goes p.tables e below (T54.setTop (mkF m 65 #[.val (.ref p0), .val (.int p1), .val (.ref p2), .val (.int (Int32.ofNat n9)), .val (.int (Int32.ofNat c9))] [(.int (Int32.ofNat c9)), (.int (Int32.ofNat n9)), (.int p1), (.int (((Int32.ofNat n9) * (p1 * p1)) + (Int32.ofNat c9))), (.ref a13)])) _
              refine g_callS X54 hx hZ hown (by rw [hml]; rfl) e54 (hw _ (List.mem_of_getElem? (i := 20) rfl)) (hw _ (List.mem_of_getElem? (i := 21) rfl)) (hw _ (List.mem_of_getElem? (i := 22) rfl)) (hw _ (List.mem_of_getElem? (i := 23) rfl)) (rmDi l Z a0 hw p1 (Int32.ofNat n9) (Int32.ofNat c9) h hside) [(.int p1), (.int (Int32.ofNat n9)), (.int (Int32.ofNat c9))] rfl [(.int (((Int32.ofNat n9) * (p1 * p1)) + (Int32.ofNat c9))), (.ref a13)] rfl (lenOf pd_4 rfl) (hb hby d2_65) (by decide) 2 (by decide) (by decide) (by first | decide | exact Nat.le_refl _) (by decide) (by decide) (fun v T55 L55 X55 hQ55 => ?_)
              obtain ⟨rfl, e55, rfl⟩ := hQ55
              have N56 := Fr.app N9 (Fr.nil n0)
              show Goes p.tables e below (T55.setTop (mkF m 68 #[.val (.ref p0), .val (.int p1), .val (.ref p2), .val (.int (Int32.ofNat n9)), .val (.int (Int32.ofNat c9))] [(.int (distV p1 (Int32.ofNat n9) (Int32.ofNat c9))), (.int (((Int32.ofNat n9) * (p1 * p1)) + (Int32.ofNat c9))), (.ref a13)])) _
              refine g_iastore X55 hx hZ e55 A9 (n9 * S + c9) (own_lin (own_of (by omega)) hsq (own_of (by omega)) (by omega) (by omega) (by omega)) (by rw [hti.1]; exact own_inb hlt hlc) (hb hby d2_68) (fun T57 h57 X57 e57 W57 A57 => ?_)
              have fx58 : Fld Z h57 p0 "com/example/slidewise/slidewise/search/ManhattanTracker" "squares" "I" (.int (p1 * p1)) := Fld.other W57 fS (Or.inl npd)
              have fx59 : Fld Z h57 p0 "com/example/slidewise/slidewise/search/ManhattanTracker" "distances" "[I" (.ref a13) := Fld.other W57 fD (Or.inl npd)
              have fx60 : Fld Z h57 p0 "com/example/slidewise/slidewise/search/ManhattanTracker" "value" "I" (.int (0 : Int32)) := Fld.other W57 fV (Or.inl npd)
              have fx61 : Exa Z h57 p0 "com/example/slidewise/slidewise/search/ManhattanTracker" := Exa.wr W57 E9
              have fx62 : Ar Z h57 p2 .byte ns := Ar.other B9 W57 nbd
              have fx63 : Ar Z h57 a13 .int (List.set ds (n9 * S + c9) (.int (distV p1 (Int32.ofNat n9) (Int32.ofNat c9)))) := A57
              have N64 := Fr.snoc X57 N56 gd
              have Z65 : n0 ≤ h57.size := by rw [W57.size]; exact Z9
              have K66 : Keep h0 h57 [p0] := Keep.wr K9 W57 (Or.inr g0d)
              show Goes p.tables e below (T57.setTop (mkF m 69 #[.val (.ref p0), .val (.int p1), .val (.ref p2), .val (.int (Int32.ofNat n9)), .val (.int (Int32.ofNat c9))] [])) _
              refine g_iinc X57 hx (1 : Int32) (hb hby d2_69) rfl rfl (l' := #[.val (.ref p0), .val (.int p1), .val (.ref p2), .val (.int (Int32.ofNat n9)), .val (.int ((Int32.ofNat c9) + (1 : Int32)))]) rfl ?_
              show Goes p.tables e below (T57.setTop (mkF m 72 #[.val (.ref p0), .val (.int p1), .val (.ref p2), .val (.int (Int32.ofNat n9)), .val (.int ((Int32.ofNat c9) + (1 : Int32)))] [])) _
              refine g_goto X57 hx (hb hby d2_72) (by decide) (pc' := 39) (by decide) ?_
              rw [own_succ]
              exact ih2 (S - (c9 + 1)) (by omega) (c9 + 1) rfl (by omega) _ _ _ _ X57 e57 N64 Z65 K66 ⟨fx61, fx58, fx59, fx60, fx63, fx62⟩ (hti.set hlt hlc h1n rfl)
        show Goes p.tables e below (T51.setTop (mkF m 36 #[.val (.ref p0), .val (.int p1), .val (.ref p2), .val (.int (Int32.ofNat n9)), sl] [])) _
        refine g_iconst X51 hx (0 : Int32) (hb hby d2_36) rfl ?_
        show Goes p.tables e below (T51.setTop (mkF m 37 #[.val (.ref p0), .val (.int p1), .val (.ref p2), .val (.int (Int32.ofNat n9)), sl] [(.int (0 : Int32))])) _
        refine g_istoreS X51 hx (hb hby d2_37) rfl hsl ?_
        exact inner _ 0 rfl (Nat.zero_le _) _ _ _ _ X51 e51 N9 Z9 K9 ⟨E9, fS, fD, fV, A9, B9⟩ hti
  exact loop1 _ 1 .unset One.u rfl (Nat.le_refl _) hS1 _ _ _ _ X26 e26 N34 Z35 K36 ⟨fx28, fx30, fx33, fx27, fx31, fx29⟩ (TI.first p1 S)
theorem d7_0 : decode prog_52_method_2_code 0 = .ok (.aload_n 0, 1) := by decide +kernel
theorem d7_1 : decode prog_52_method_2_code 1 = .ok (.getfield 23, 3) := by decide +kernel
theorem d7_4 : decode prog_52_method_2_code 4 = .ok (.ireturn, 1) := by decide +kernel
theorem pd_7 : parseMethodDescriptor "()I" = some ⟨[], some .int⟩ := by decide +kernel
theorem ef_7 (m : MethodId) (p0 : Addr) : entryFrame m #[(.ref p0)] 1 = mkF m 0 #[.val (.ref p0)] [] := by first | (simp [entryFrame, mkF, argsToLocals, Value.category]; done) | rfl
set_option maxRecDepth 65536 in
set_option maxHeartbeats 40000000 in
theorem rmVal (l : Launch) (Z : State) (a0 : Array Value) (hw : ∀ d ∈ tables_1, d.before a0 Z = true) (p0 : Addr) (h0 : Heap) (n0 : Nat) (Z0 : n0 ≤ h0.size) (x : Int32) (f1 : Fld Z h0 p0 "com/example/slidewise/slidewise/search/ManhattanTracker" "value" "I" (.int x)) :
    Con l Z (⟨"com/example/slidewise/slidewise/search/ManhattanTracker", "value", "()I"⟩ : MethodName) prog_52_method_2_code 1 (some .int) [] ({ frames := 0, cells := 0, slots := 0, locals := 0 } : Room) 0 0 #[(.ref p0)] h0 (fun v h L => v = some (.int x) ∧ h = h0 ∧ L = []) := by
  refine Con.body (plainFor_of_name (by first | (simp [plainName, overriddenIn]; done) | decide +kernel)) ?_
  intro p e s m below meth c T0 hx hby hml hown hnm hZ hret hlk X0 e0
  refine Goes.cast (ef_7 m p0) ?_
  have N0 := Fr.nil n0
  show Goes p.tables e below (T0.setTop (mkF m 0 #[.val (.ref p0)] [])) _
  refine g_aloadN X0 hx (hb hby d7_0) rfl rfl ?_
  show Goes p.tables e below (T0.setTop (mkF m 1 #[.val (.ref p0)] [(.ref p0)])) _
  refine g_getF X0 hx hZ hown e0 (host := "") (Or.inl (hw _ (List.mem_of_getElem? (i := 31) rfl))) Via.refl f1 (hb hby d7_1) (fun T1 X1 e1 => ?_)
  show Goes p.tables e below (T1.setTop (mkF m 4 #[.val (.ref p0)] [(.int x)])) _
  exact g_retI X1 hx hret hlk (hb hby d7_4) (by decide) (by decide) ⟨rfl, e1, rfl⟩
theorem d8_0 : decode prog_52_method_3_code 0 = .ok (.aload_n 0, 1) := by decide +kernel
theorem d8_1 : decode prog_52_method_3_code 1 = .ok (.dup, 1) := by decide +kernel
theorem d8_2 : decode prog_52_method_3_code 2 = .ok (.getfield 23, 3) := by decide +kernel
theorem d8_5 : decode prog_52_method_3_code 5 = .ok (.aload_n 0, 1) := by decide +kernel
theorem d8_6 : decode prog_52_method_3_code 6 = .ok (.getfield 13, 3) := by decide +kernel
theorem d8_9 : decode prog_52_method_3_code 9 = .ok (.iload_n 1, 1) := by decide +kernel
theorem d8_10 : decode prog_52_method_3_code 10 = .ok (.aload_n 0, 1) := by decide +kernel
theorem d8_11 : decode prog_52_method_3_code 11 = .ok (.getfield 7, 3) := by decide +kernel
theorem d8_14 : decode prog_52_method_3_code 14 = .ok (.imul, 1) := by decide +kernel
theorem d8_15 : decode prog_52_method_3_code 15 = .ok (.iload_n 3, 1) := by decide +kernel
theorem d8_16 : decode prog_52_method_3_code 16 = .ok (.iadd, 1) := by decide +kernel
theorem d8_17 : decode prog_52_method_3_code 17 = .ok (.iaload, 1) := by decide +kernel
theorem d8_18 : decode prog_52_method_3_code 18 = .ok (.aload_n 0, 1) := by decide +kernel
theorem d8_19 : decode prog_52_method_3_code 19 = .ok (.getfield 13, 3) := by decide +kernel
theorem d8_22 : decode prog_52_method_3_code 22 = .ok (.iload_n 1, 1) := by decide +kernel
theorem d8_23 : decode prog_52_method_3_code 23 = .ok (.aload_n 0, 1) := by decide +kernel
theorem d8_24 : decode prog_52_method_3_code 24 = .ok (.getfield 7, 3) := by decide +kernel
theorem d8_27 : decode prog_52_method_3_code 27 = .ok (.imul, 1) := by decide +kernel
theorem d8_28 : decode prog_52_method_3_code 28 = .ok (.iload_n 2, 1) := by decide +kernel
theorem d8_29 : decode prog_52_method_3_code 29 = .ok (.iadd, 1) := by decide +kernel
theorem d8_30 : decode prog_52_method_3_code 30 = .ok (.iaload, 1) := by decide +kernel
theorem d8_31 : decode prog_52_method_3_code 31 = .ok (.isub, 1) := by decide +kernel
theorem d8_32 : decode prog_52_method_3_code 32 = .ok (.iadd, 1) := by decide +kernel
theorem d8_33 : decode prog_52_method_3_code 33 = .ok (.putfield 23, 3) := by decide +kernel
theorem d8_36 : decode prog_52_method_3_code 36 = .ok (.return_, 1) := by decide +kernel
theorem pd_8 : parseMethodDescriptor "(III)V" = some ⟨[.int, .int, .int], none⟩ := by decide +kernel
theorem ef_8 (m : MethodId) (p0 : Addr) (p1 : Int32) (p2 : Int32) (p3 : Int32) : entryFrame m #[(.ref p0), (.int p1), (.int p2), (.int p3)] 4 = mkF m 0 #[.val (.ref p0), .val (.int p1), .val (.int p2), .val (.int p3)] [] := by first | (simp [entryFrame, mkF, argsToLocals, Value.category]; done) | rfl
set_option maxRecDepth 65536 in
set_option maxHeartbeats 40000000 in
theorem rmSl (l : Launch) (Z : State) (a0 : Array Value) (hw : ∀ d ∈ tables_1, d.before a0 Z = true) (p0 : Addr) (p1 : Int32) (p2 : Int32) (p3 : Int32) (h0 : Heap) (n0 : Nat) (Z0 : n0 ≤ h0.size) (d : Addr) (ds : List Value) (sd sq y : Int32) (S : Nat) (hsq : sq.toInt = S) (hS16 : S ≤ 16) (hti : TI sd S S 0 ds) (t1 : 0 ≤ p1.toInt ∧ p1.toInt < S) (t2 : 0 ≤ p2.toInt ∧ p2.toInt < S) (t3 : 0 ≤ p3.toInt ∧ p3.toInt < S) (f1 : Fld Z h0 p0 "com/example/slidewise/slidewise/search/ManhattanTracker" "squares" "I" (.int sq)) (f2 : Fld Z h0 p0 "com/example/slidewise/slidewise/search/ManhattanTracker" "distances" "[I" (.ref d)) (f3 : Fld Z h0 p0 "com/example/slidewise/slidewise/search/ManhattanTracker" "value" "I" (.int y)) (E0 : Exa Z h0 p0 "com/example/slidewise/slidewise/search/ManhattanTracker") (A0 : Ar Z h0 d .int ds) (ga : n0 ≤ p0) (nd : d ≠ p0) :
    Con l Z (⟨"com/example/slidewise/slidewise/search/ManhattanTracker", "slide", "(III)V"⟩ : MethodName) prog_52_method_3_code 4 none [] ({ frames := 0, cells := 0, slots := 0, locals := 0 } : Room) 0 0 #[(.ref p0), (.int p1), (.int p2), (.int p3)] h0 (fun v h L => v = none ∧ Fr n0 L ∧ Keep h0 h [p0] ∧ Fld Z h p0 "com/example/slidewise/slidewise/search/ManhattanTracker" "squares" "I" (.int sq) ∧ Fld Z h p0 "com/example/slidewise/slidewise/search/ManhattanTracker" "distances" "[I" (.ref d) ∧ Fld Z h p0 "com/example/slidewise/slidewise/search/ManhattanTracker" "value" "I" (.int (y + (dt sd (p1.toInt.toNat) (p3.toInt.toNat) - dt sd (p1.toInt.toNat) (p2.toInt.toNat)))) ∧ Ar Z h d .int ds) := by
  refine Con.body (plainFor_of_name (by first | (simp [plainName, overriddenIn]; done) | decide +kernel)) ?_
  intro p e s m below meth c T0 hx hby hml hown hnm hZ hret hlk X0 e0
  refine Goes.cast (ef_8 m p0 p1 p2 p3) ?_
  have N0 := Fr.nil n0
  have K0 : Keep h0 h0 [p0] := Keep.refl _ _
  show Goes p.tables e below (T0.setTop (mkF m 0 #[.val (.ref p0), .val (.int p1), .val (.int p2), .val (.int p3)] [])) _
  refine g_aloadN X0 hx (hb hby d8_0) rfl rfl ?_
  show Goes p.tables e below (T0.setTop (mkF m 1 #[.val (.ref p0), .val (.int p1), .val (.int p2), .val (.int p3)] [(.ref p0)])) _
  refine g_dup X0 hx (hb hby d8_1) rfl ?_
  show Goes p.tables e below (T0.setTop (mkF m 2 #[.val (.ref p0), .val (.int p1), .val (.int p2), .val (.int p3)] [(.ref p0), (.ref p0)])) _
  refine g_getF X0 hx hZ hown e0 (host := "") (Or.inl (hw _ (List.mem_of_getElem? (i := 31) rfl))) Via.refl f3 (hb hby d8_2) (fun T1 X1 e1 => ?_)
  show Goes p.tables e below (T1.setTop (mkF m 5 #[.val (.ref p0), .val (.int p1), .val (.int p2), .val (.int p3)] [(.int y), (.ref p0)])) _
  refine g_aloadN X1 hx (hb hby d8_5) rfl rfl ?_
  show Goes p.tables e below (T1.setTop (mkF m 6 #[.val (.ref p0), .val (.int p1), .val (.int p2), .val (.int p3)] [(.ref p0), (.int y), (.ref p0)])) _
  refine g_getF X1 hx hZ hown e1 (host := "") (Or.inl (hw _ (List.mem_of_getElem? (i := 18) rfl))) Via.refl f2 (hb hby d8_6) (fun T2 X2 e2 => ?_)
  show Goes p.tables e below (T2.setTop (mkF m 9 #[.val (.ref p0), .val (.int p1), .val (.int p2), .val (.int p3)] [(.ref d), (.int y), (.ref p0)])) _
  refine g_iloadN X2 hx (hb hby d8_9) rfl ?_
  show Goes p.tables e below (T2.setTop (mkF m 10 #[.val (.ref p0), .val (.int p1), .val (.int p2), .val (.int p3)] [(.int p1), (.ref d), (.int y), (.ref p0)])) _
  refine g_aloadN X2 hx (hb hby d8_10) rfl rfl ?_
  show Goes p.tables e below (T2.setTop (mkF m 11 #[.val (.ref p0), .val (.int p1), .val (.int p2), .val (.int p3)] [(.ref p0), (.int p1), (.ref d), (.int y), (.ref p0)])) _
  refine g_getF X2 hx hZ hown e2 (host := "") (Or.inl (hw _ (List.mem_of_getElem? (i := 15) rfl))) Via.refl f1 (hb hby d8_11) (fun T3 X3 e3 => ?_)
  show Goes p.tables e below (T3.setTop (mkF m 14 #[.val (.ref p0), .val (.int p1), .val (.int p2), .val (.int p3)] [(.int sq), (.int p1), (.ref d), (.int y), (.ref p0)])) _
  refine g_imul X3 hx (hb hby d8_14) ?_
  show Goes p.tables e below (T3.setTop (mkF m 15 #[.val (.ref p0), .val (.int p1), .val (.int p2), .val (.int p3)] [(.int (p1 * sq)), (.ref d), (.int y), (.ref p0)])) _
  refine g_iloadN X3 hx (hb hby d8_15) rfl ?_
  show Goes p.tables e below (T3.setTop (mkF m 16 #[.val (.ref p0), .val (.int p1), .val (.int p2), .val (.int p3)] [(.int p3), (.int (p1 * sq)), (.ref d), (.int y), (.ref p0)])) _
  refine g_iadd X3 hx (hb hby d8_16) ?_
  show Goes p.tables e below (T3.setTop (mkF m 17 #[.val (.ref p0), .val (.int p1), .val (.int p2), .val (.int p3)] [(.int ((p1 * sq) + p3)), (.ref d), (.int y), (.ref p0)])) _
  refine g_iaload X3 hx hZ e3 A0 (i := (p1.toInt.toNat * S + p3.toInt.toNat)) (v := (.int (dt sd (p1.toInt.toNat) (p3.toInt.toNat)))) (own_lin (show p1.toInt = (p1.toInt.toNat : Nat) by omega) hsq (show p3.toInt = (p3.toInt.toNat : Nat) by omega) (by omega) (by omega) (by omega)) (hti.2 _ _ (by omega) (by omega) (Or.inl (by omega))) (hb hby d8_17) ?_
  show Goes p.tables e below (T3.setTop (mkF m 18 #[.val (.ref p0), .val (.int p1), .val (.int p2), .val (.int p3)] [(.int (dt sd (p1.toInt.toNat) (p3.toInt.toNat))), (.int y), (.ref p0)])) _
  refine g_aloadN X3 hx (hb hby d8_18) rfl rfl ?_
  show Goes p.tables e below (T3.setTop (mkF m 19 #[.val (.ref p0), .val (.int p1), .val (.int p2), .val (.int p3)] [(.ref p0), (.int (dt sd (p1.toInt.toNat) (p3.toInt.toNat))), (.int y), (.ref p0)])) _
  refine g_getF X3 hx hZ hown e3 (host := "") (Or.inl (hw _ (List.mem_of_getElem? (i := 18) rfl))) Via.refl f2 (hb hby d8_19) (fun T4 X4 e4 => ?_)
  show Goes p.tables e below (T4.setTop (mkF m 22 #[.val (.ref p0), .val (.int p1), .val (.int p2), .val (.int p3)] [(.ref d), (.int (dt sd (p1.toInt.toNat) (p3.toInt.toNat))), (.int y), (.ref p0)])) _
  refine g_iloadN X4 hx (hb hby d8_22) rfl ?_
  show Goes p.tables e below (T4.setTop (mkF m 23 #[.val (.ref p0), .val (.int p1), .val (.int p2), .val (.int p3)] [(.int p1), (.ref d), (.int (dt sd (p1.toInt.toNat) (p3.toInt.toNat))), (.int y), (.ref p0)])) _
  refine g_aloadN X4 hx (hb hby d8_23) rfl rfl ?_
  show Goes p.tables e below (T4.setTop (mkF m 24 #[.val (.ref p0), .val (.int p1), .val (.int p2), .val (.int p3)] [(.ref p0), (.int p1), (.ref d), (.int (dt sd (p1.toInt.toNat) (p3.toInt.toNat))), (.int y), (.ref p0)])) _
  refine g_getF X4 hx hZ hown e4 (host := "") (Or.inl (hw _ (List.mem_of_getElem? (i := 15) rfl))) Via.refl f1 (hb hby d8_24) (fun T5 X5 e5 => ?_)
  show Goes p.tables e below (T5.setTop (mkF m 27 #[.val (.ref p0), .val (.int p1), .val (.int p2), .val (.int p3)] [(.int sq), (.int p1), (.ref d), (.int (dt sd (p1.toInt.toNat) (p3.toInt.toNat))), (.int y), (.ref p0)])) _
  refine g_imul X5 hx (hb hby d8_27) ?_
  show Goes p.tables e below (T5.setTop (mkF m 28 #[.val (.ref p0), .val (.int p1), .val (.int p2), .val (.int p3)] [(.int (p1 * sq)), (.ref d), (.int (dt sd (p1.toInt.toNat) (p3.toInt.toNat))), (.int y), (.ref p0)])) _
  refine g_iloadN X5 hx (hb hby d8_28) rfl ?_
  show Goes p.tables e below (T5.setTop (mkF m 29 #[.val (.ref p0), .val (.int p1), .val (.int p2), .val (.int p3)] [(.int p2), (.int (p1 * sq)), (.ref d), (.int (dt sd (p1.toInt.toNat) (p3.toInt.toNat))), (.int y), (.ref p0)])) _
  refine g_iadd X5 hx (hb hby d8_29) ?_
  show Goes p.tables e below (T5.setTop (mkF m 30 #[.val (.ref p0), .val (.int p1), .val (.int p2), .val (.int p3)] [(.int ((p1 * sq) + p2)), (.ref d), (.int (dt sd (p1.toInt.toNat) (p3.toInt.toNat))), (.int y), (.ref p0)])) _
  refine g_iaload X5 hx hZ e5 A0 (i := (p1.toInt.toNat * S + p2.toInt.toNat)) (v := (.int (dt sd (p1.toInt.toNat) (p2.toInt.toNat)))) (own_lin (show p1.toInt = (p1.toInt.toNat : Nat) by omega) hsq (show p2.toInt = (p2.toInt.toNat : Nat) by omega) (by omega) (by omega) (by omega)) (hti.2 _ _ (by omega) (by omega) (Or.inl (by omega))) (hb hby d8_30) ?_
  show Goes p.tables e below (T5.setTop (mkF m 31 #[.val (.ref p0), .val (.int p1), .val (.int p2), .val (.int p3)] [(.int (dt sd (p1.toInt.toNat) (p2.toInt.toNat))), (.int (dt sd (p1.toInt.toNat) (p3.toInt.toNat))), (.int y), (.ref p0)])) _
  refine g_isub X5 hx (hb hby d8_31) ?_
  show Goes p.tables e below (T5.setTop (mkF m 32 #[.val (.ref p0), .val (.int p1), .val (.int p2), .val (.int p3)] [(.int ((dt sd (p1.toInt.toNat) (p3.toInt.toNat)) - (dt sd (p1.toInt.toNat) (p2.toInt.toNat)))), (.int y), (.ref p0)])) _
  refine g_iadd X5 hx (hb hby d8_32) ?_
  show Goes p.tables e below (T5.setTop (mkF m 33 #[.val (.ref p0), .val (.int p1), .val (.int p2), .val (.int p3)] [(.int (y + ((dt sd (p1.toInt.toNat) (p3.toInt.toNat)) - (dt sd (p1.toInt.toNat) (p2.toInt.toNat))))), (.ref p0)])) _
  refine g_putF X5 hx hZ hown e5 (hw _ (List.mem_of_getElem? (i := 31) rfl)) Via.refl (v' := (.int (y + ((dt sd (p1.toInt.toNat) (p3.toInt.toNat)) - (dt sd (p1.toInt.toNat) (p2.toInt.toNat)))))) f3 E0 (Or.inl (hw _ (List.mem_of_getElem? (i := 32) rfl))) (hw _ (List.mem_of_getElem? (i := 7) rfl)) (ty := .int) (by decide) rfl rfl (hb hby d8_33) (fun T6 h6 X6 e6 W6 => ?_)
  have fx7 : Fld Z h6 p0 "com/example/slidewise/slidewise/search/ManhattanTracker" "squares" "I" (.int sq) := Fld.other W6 f1 (Or.inr (slot_ne (t := .int) (t' := .int) (Or.inr (hw _ (List.mem_of_getElem? (i := 16) rfl))) (Or.inl (hw _ (List.mem_of_getElem? (i := 32) rfl))) (by decide) (by decide) (by decide)))
  have fx8 : Fld Z h6 p0 "com/example/slidewise/slidewise/search/ManhattanTracker" "distances" "[I" (.ref d) := Fld.other W6 f2 (Or.inr (slot_ne (t := (.array .int)) (t' := .int) (Or.inr (hw _ (List.mem_of_getElem? (i := 19) rfl))) (Or.inl (hw _ (List.mem_of_getElem? (i := 32) rfl))) (by decide) (by decide) (by decide)))
  have fx9 : Exa Z h6 p0 "com/example/slidewise/slidewise/search/ManhattanTracker" := Exa.wr W6 E0
  have fx10 : Ar Z h6 d .int ds := Ar.other A0 W6 nd
  have fx11 : Fld Z h6 p0 "com/example/slidewise/slidewise/search/ManhattanTracker" "value" "I" (.int (y + ((dt sd (p1.toInt.toNat) (p3.toInt.toNat)) - (dt sd (p1.toInt.toNat) (p2.toInt.toNat))))) := Fld.same W6 f3
  have N12 := Fr.snoc X6 N0 ga
  have Z13 : n0 ≤ h6.size := by rw [W6.size]; exact Z0
  have K14 : Keep h0 h6 [p0] := Keep.wr K0 W6 (Or.inl (List.mem_of_getElem? (i := 0) rfl))
  show Goes p.tables e below (T6.setTop (mkF m 36 #[.val (.ref p0), .val (.int p1), .val (.int p2), .val (.int p3)] [])) _
  exact g_ret0 X6 hx hret hlk (hb hby d8_36) (by decide) (by decide) (by rw [e6]; exact ⟨rfl, N12, K14, fx7, fx8, fx11, fx10⟩)
theorem d9_0 : decode prog_52_method_4_code 0 = .ok (.aload_n 0, 1) := by decide +kernel
theorem d9_1 : decode prog_52_method_4_code 1 = .ok (.dup, 1) := by decide +kernel
theorem d9_2 : decode prog_52_method_4_code 2 = .ok (.getfield 23, 3) := by decide +kernel
theorem d9_5 : decode prog_52_method_4_code 5 = .ok (.aload_n 0, 1) := by decide +kernel
theorem d9_6 : decode prog_52_method_4_code 6 = .ok (.getfield 13, 3) := by decide +kernel
theorem d9_9 : decode prog_52_method_4_code 9 = .ok (.iload_n 1, 1) := by decide +kernel
theorem d9_10 : decode prog_52_method_4_code 10 = .ok (.aload_n 0, 1) := by decide +kernel
theorem d9_11 : decode prog_52_method_4_code 11 = .ok (.getfield 7, 3) := by decide +kernel
theorem d9_14 : decode prog_52_method_4_code 14 = .ok (.imul, 1) := by decide +kernel
theorem d9_15 : decode prog_52_method_4_code 15 = .ok (.iload_n 2, 1) := by decide +kernel
theorem d9_16 : decode prog_52_method_4_code 16 = .ok (.iadd, 1) := by decide +kernel
theorem d9_17 : decode prog_52_method_4_code 17 = .ok (.iaload, 1) := by decide +kernel
theorem d9_18 : decode prog_52_method_4_code 18 = .ok (.aload_n 0, 1) := by decide +kernel
theorem d9_19 : decode prog_52_method_4_code 19 = .ok (.getfield 13, 3) := by decide +kernel
theorem d9_22 : decode prog_52_method_4_code 22 = .ok (.iload_n 1, 1) := by decide +kernel
theorem d9_23 : decode prog_52_method_4_code 23 = .ok (.aload_n 0, 1) := by decide +kernel
theorem d9_24 : decode prog_52_method_4_code 24 = .ok (.getfield 7, 3) := by decide +kernel
theorem d9_27 : decode prog_52_method_4_code 27 = .ok (.imul, 1) := by decide +kernel
theorem d9_28 : decode prog_52_method_4_code 28 = .ok (.iload_n 3, 1) := by decide +kernel
theorem d9_29 : decode prog_52_method_4_code 29 = .ok (.iadd, 1) := by decide +kernel
theorem d9_30 : decode prog_52_method_4_code 30 = .ok (.iaload, 1) := by decide +kernel
theorem d9_31 : decode prog_52_method_4_code 31 = .ok (.isub, 1) := by decide +kernel
theorem d9_32 : decode prog_52_method_4_code 32 = .ok (.iadd, 1) := by decide +kernel
theorem d9_33 : decode prog_52_method_4_code 33 = .ok (.putfield 23, 3) := by decide +kernel
theorem d9_36 : decode prog_52_method_4_code 36 = .ok (.return_, 1) := by decide +kernel
theorem pd_9 : parseMethodDescriptor "(III)V" = some ⟨[.int, .int, .int], none⟩ := by decide +kernel
theorem ef_9 (m : MethodId) (p0 : Addr) (p1 : Int32) (p2 : Int32) (p3 : Int32) : entryFrame m #[(.ref p0), (.int p1), (.int p2), (.int p3)] 4 = mkF m 0 #[.val (.ref p0), .val (.int p1), .val (.int p2), .val (.int p3)] [] := by first | (simp [entryFrame, mkF, argsToLocals, Value.category]; done) | rfl
set_option maxRecDepth 65536 in
set_option maxHeartbeats 40000000 in
theorem rmSb (l : Launch) (Z : State) (a0 : Array Value) (hw : ∀ d ∈ tables_1, d.before a0 Z = true) (p0 : Addr) (p1 : Int32) (p2 : Int32) (p3 : Int32) (h0 : Heap) (n0 : Nat) (Z0 : n0 ≤ h0.size) (d : Addr) (ds : List Value) (sd sq y : Int32) (S : Nat) (hsq : sq.toInt = S) (hS16 : S ≤ 16) (hti : TI sd S S 0 ds) (t1 : 0 ≤ p1.toInt ∧ p1.toInt < S) (t2 : 0 ≤ p2.toInt ∧ p2.toInt < S) (t3 : 0 ≤ p3.toInt ∧ p3.toInt < S) (f1 : Fld Z h0 p0 "com/example/slidewise/slidewise/search/ManhattanTracker" "squares" "I" (.int sq)) (f2 : Fld Z h0 p0 "com/example/slidewise/slidewise/search/ManhattanTracker" "distances" "[I" (.ref d)) (f3 : Fld Z h0 p0 "com/example/slidewise/slidewise/search/ManhattanTracker" "value" "I" (.int y)) (E0 : Exa Z h0 p0 "com/example/slidewise/slidewise/search/ManhattanTracker") (A0 : Ar Z h0 d .int ds) (ga : n0 ≤ p0) (nd : d ≠ p0) :
    Con l Z (⟨"com/example/slidewise/slidewise/search/ManhattanTracker", "slideBack", "(III)V"⟩ : MethodName) prog_52_method_4_code 4 none [] ({ frames := 0, cells := 0, slots := 0, locals := 0 } : Room) 0 0 #[(.ref p0), (.int p1), (.int p2), (.int p3)] h0 (fun v h L => v = none ∧ Fr n0 L ∧ Keep h0 h [p0] ∧ Fld Z h p0 "com/example/slidewise/slidewise/search/ManhattanTracker" "squares" "I" (.int sq) ∧ Fld Z h p0 "com/example/slidewise/slidewise/search/ManhattanTracker" "distances" "[I" (.ref d) ∧ Fld Z h p0 "com/example/slidewise/slidewise/search/ManhattanTracker" "value" "I" (.int (y + (dt sd (p1.toInt.toNat) (p2.toInt.toNat) - dt sd (p1.toInt.toNat) (p3.toInt.toNat)))) ∧ Ar Z h d .int ds) := by
  refine Con.body (plainFor_of_name (by first | (simp [plainName, overriddenIn]; done) | decide +kernel)) ?_
  intro p e s m below meth c T0 hx hby hml hown hnm hZ hret hlk X0 e0
  refine Goes.cast (ef_9 m p0 p1 p2 p3) ?_
  have N0 := Fr.nil n0
  have K0 : Keep h0 h0 [p0] := Keep.refl _ _
  show Goes p.tables e below (T0.setTop (mkF m 0 #[.val (.ref p0), .val (.int p1), .val (.int p2), .val (.int p3)] [])) _
  refine g_aloadN X0 hx (hb hby d9_0) rfl rfl ?_
  show Goes p.tables e below (T0.setTop (mkF m 1 #[.val (.ref p0), .val (.int p1), .val (.int p2), .val (.int p3)] [(.ref p0)])) _
  refine g_dup X0 hx (hb hby d9_1) rfl ?_
  show Goes p.tables e below (T0.setTop (mkF m 2 #[.val (.ref p0), .val (.int p1), .val (.int p2), .val (.int p3)] [(.ref p0), (.ref p0)])) _
  refine g_getF X0 hx hZ hown e0 (host := "") (Or.inl (hw _ (List.mem_of_getElem? (i := 31) rfl))) Via.refl f3 (hb hby d9_2) (fun T1 X1 e1 => ?_)
  show Goes p.tables e below (T1.setTop (mkF m 5 #[.val (.ref p0), .val (.int p1), .val (.int p2), .val (.int p3)] [(.int y), (.ref p0)])) _
  refine g_aloadN X1 hx (hb hby d9_5) rfl rfl ?_
  show Goes p.tables e below (T1.setTop (mkF m 6 #[.val (.ref p0), .val (.int p1), .val (.int p2), .val (.int p3)] [(.ref p0), (.int y), (.ref p0)])) _
  refine g_getF X1 hx hZ hown e1 (host := "") (Or.inl (hw _ (List.mem_of_getElem? (i := 18) rfl))) Via.refl f2 (hb hby d9_6) (fun T2 X2 e2 => ?_)
  show Goes p.tables e below (T2.setTop (mkF m 9 #[.val (.ref p0), .val (.int p1), .val (.int p2), .val (.int p3)] [(.ref d), (.int y), (.ref p0)])) _
  refine g_iloadN X2 hx (hb hby d9_9) rfl ?_
  show Goes p.tables e below (T2.setTop (mkF m 10 #[.val (.ref p0), .val (.int p1), .val (.int p2), .val (.int p3)] [(.int p1), (.ref d), (.int y), (.ref p0)])) _
  refine g_aloadN X2 hx (hb hby d9_10) rfl rfl ?_
  show Goes p.tables e below (T2.setTop (mkF m 11 #[.val (.ref p0), .val (.int p1), .val (.int p2), .val (.int p3)] [(.ref p0), (.int p1), (.ref d), (.int y), (.ref p0)])) _
  refine g_getF X2 hx hZ hown e2 (host := "") (Or.inl (hw _ (List.mem_of_getElem? (i := 15) rfl))) Via.refl f1 (hb hby d9_11) (fun T3 X3 e3 => ?_)
  show Goes p.tables e below (T3.setTop (mkF m 14 #[.val (.ref p0), .val (.int p1), .val (.int p2), .val (.int p3)] [(.int sq), (.int p1), (.ref d), (.int y), (.ref p0)])) _
  refine g_imul X3 hx (hb hby d9_14) ?_
  show Goes p.tables e below (T3.setTop (mkF m 15 #[.val (.ref p0), .val (.int p1), .val (.int p2), .val (.int p3)] [(.int (p1 * sq)), (.ref d), (.int y), (.ref p0)])) _
  refine g_iloadN X3 hx (hb hby d9_15) rfl ?_
  show Goes p.tables e below (T3.setTop (mkF m 16 #[.val (.ref p0), .val (.int p1), .val (.int p2), .val (.int p3)] [(.int p2), (.int (p1 * sq)), (.ref d), (.int y), (.ref p0)])) _
  refine g_iadd X3 hx (hb hby d9_16) ?_
  show Goes p.tables e below (T3.setTop (mkF m 17 #[.val (.ref p0), .val (.int p1), .val (.int p2), .val (.int p3)] [(.int ((p1 * sq) + p2)), (.ref d), (.int y), (.ref p0)])) _
  refine g_iaload X3 hx hZ e3 A0 (i := (p1.toInt.toNat * S + p2.toInt.toNat)) (v := (.int (dt sd (p1.toInt.toNat) (p2.toInt.toNat)))) (own_lin (show p1.toInt = (p1.toInt.toNat : Nat) by omega) hsq (show p2.toInt = (p2.toInt.toNat : Nat) by omega) (by omega) (by omega) (by omega)) (hti.2 _ _ (by omega) (by omega) (Or.inl (by omega))) (hb hby d9_17) ?_
  show Goes p.tables e below (T3.setTop (mkF m 18 #[.val (.ref p0), .val (.int p1), .val (.int p2), .val (.int p3)] [(.int (dt sd (p1.toInt.toNat) (p2.toInt.toNat))), (.int y), (.ref p0)])) _
  refine g_aloadN X3 hx (hb hby d9_18) rfl rfl ?_
  show Goes p.tables e below (T3.setTop (mkF m 19 #[.val (.ref p0), .val (.int p1), .val (.int p2), .val (.int p3)] [(.ref p0), (.int (dt sd (p1.toInt.toNat) (p2.toInt.toNat))), (.int y), (.ref p0)])) _
  refine g_getF X3 hx hZ hown e3 (host := "") (Or.inl (hw _ (List.mem_of_getElem? (i := 18) rfl))) Via.refl f2 (hb hby d9_19) (fun T4 X4 e4 => ?_)
  show Goes p.tables e below (T4.setTop (mkF m 22 #[.val (.ref p0), .val (.int p1), .val (.int p2), .val (.int p3)] [(.ref d), (.int (dt sd (p1.toInt.toNat) (p2.toInt.toNat))), (.int y), (.ref p0)])) _
  refine g_iloadN X4 hx (hb hby d9_22) rfl ?_
  show Goes p.tables e below (T4.setTop (mkF m 23 #[.val (.ref p0), .val (.int p1), .val (.int p2), .val (.int p3)] [(.int p1), (.ref d), (.int (dt sd (p1.toInt.toNat) (p2.toInt.toNat))), (.int y), (.ref p0)])) _
  refine g_aloadN X4 hx (hb hby d9_23) rfl rfl ?_
  show Goes p.tables e below (T4.setTop (mkF m 24 #[.val (.ref p0), .val (.int p1), .val (.int p2), .val (.int p3)] [(.ref p0), (.int p1), (.ref d), (.int (dt sd (p1.toInt.toNat) (p2.toInt.toNat))), (.int y), (.ref p0)])) _
  refine g_getF X4 hx hZ hown e4 (host := "") (Or.inl (hw _ (List.mem_of_getElem? (i := 15) rfl))) Via.refl f1 (hb hby d9_24) (fun T5 X5 e5 => ?_)
  show Goes p.tables e below (T5.setTop (mkF m 27 #[.val (.ref p0), .val (.int p1), .val (.int p2), .val (.int p3)] [(.int sq), (.int p1), (.ref d), (.int (dt sd (p1.toInt.toNat) (p2.toInt.toNat))), (.int y), (.ref p0)])) _
  refine g_imul X5 hx (hb hby d9_27) ?_
  show Goes p.tables e below (T5.setTop (mkF m 28 #[.val (.ref p0), .val (.int p1), .val (.int p2), .val (.int p3)] [(.int (p1 * sq)), (.ref d), (.int (dt sd (p1.toInt.toNat) (p2.toInt.toNat))), (.int y), (.ref p0)])) _
  refine g_iloadN X5 hx (hb hby d9_28) rfl ?_
  show Goes p.tables e below (T5.setTop (mkF m 29 #[.val (.ref p0), .val (.int p1), .val (.int p2), .val (.int p3)] [(.int p3), (.int (p1 * sq)), (.ref d), (.int (dt sd (p1.toInt.toNat) (p2.toInt.toNat))), (.int y), (.ref p0)])) _
  refine g_iadd X5 hx (hb hby d9_29) ?_
  show Goes p.tables e below (T5.setTop (mkF m 30 #[.val (.ref p0), .val (.int p1), .val (.int p2), .val (.int p3)] [(.int ((p1 * sq) + p3)), (.ref d), (.int (dt sd (p1.toInt.toNat) (p2.toInt.toNat))), (.int y), (.ref p0)])) _
  refine g_iaload X5 hx hZ e5 A0 (i := (p1.toInt.toNat * S + p3.toInt.toNat)) (v := (.int (dt sd (p1.toInt.toNat) (p3.toInt.toNat)))) (own_lin (show p1.toInt = (p1.toInt.toNat : Nat) by omega) hsq (show p3.toInt = (p3.toInt.toNat : Nat) by omega) (by omega) (by omega) (by omega)) (hti.2 _ _ (by omega) (by omega) (Or.inl (by omega))) (hb hby d9_30) ?_
  show Goes p.tables e below (T5.setTop (mkF m 31 #[.val (.ref p0), .val (.int p1), .val (.int p2), .val (.int p3)] [(.int (dt sd (p1.toInt.toNat) (p3.toInt.toNat))), (.int (dt sd (p1.toInt.toNat) (p2.toInt.toNat))), (.int y), (.ref p0)])) _
  refine g_isub X5 hx (hb hby d9_31) ?_
  show Goes p.tables e below (T5.setTop (mkF m 32 #[.val (.ref p0), .val (.int p1), .val (.int p2), .val (.int p3)] [(.int ((dt sd (p1.toInt.toNat) (p2.toInt.toNat)) - (dt sd (p1.toInt.toNat) (p3.toInt.toNat)))), (.int y), (.ref p0)])) _
  refine g_iadd X5 hx (hb hby d9_32) ?_
  show Goes p.tables e below (T5.setTop (mkF m 33 #[.val (.ref p0), .val (.int p1), .val (.int p2), .val (.int p3)] [(.int (y + ((dt sd (p1.toInt.toNat) (p2.toInt.toNat)) - (dt sd (p1.toInt.toNat) (p3.toInt.toNat))))), (.ref p0)])) _
  refine g_putF X5 hx hZ hown e5 (hw _ (List.mem_of_getElem? (i := 31) rfl)) Via.refl (v' := (.int (y + ((dt sd (p1.toInt.toNat) (p2.toInt.toNat)) - (dt sd (p1.toInt.toNat) (p3.toInt.toNat)))))) f3 E0 (Or.inl (hw _ (List.mem_of_getElem? (i := 32) rfl))) (hw _ (List.mem_of_getElem? (i := 7) rfl)) (ty := .int) (by decide) rfl rfl (hb hby d9_33) (fun T6 h6 X6 e6 W6 => ?_)
  have fx7 : Fld Z h6 p0 "com/example/slidewise/slidewise/search/ManhattanTracker" "squares" "I" (.int sq) := Fld.other W6 f1 (Or.inr (slot_ne (t := .int) (t' := .int) (Or.inr (hw _ (List.mem_of_getElem? (i := 16) rfl))) (Or.inl (hw _ (List.mem_of_getElem? (i := 32) rfl))) (by decide) (by decide) (by decide)))
  have fx8 : Fld Z h6 p0 "com/example/slidewise/slidewise/search/ManhattanTracker" "distances" "[I" (.ref d) := Fld.other W6 f2 (Or.inr (slot_ne (t := (.array .int)) (t' := .int) (Or.inr (hw _ (List.mem_of_getElem? (i := 19) rfl))) (Or.inl (hw _ (List.mem_of_getElem? (i := 32) rfl))) (by decide) (by decide) (by decide)))
  have fx9 : Exa Z h6 p0 "com/example/slidewise/slidewise/search/ManhattanTracker" := Exa.wr W6 E0
  have fx10 : Ar Z h6 d .int ds := Ar.other A0 W6 nd
  have fx11 : Fld Z h6 p0 "com/example/slidewise/slidewise/search/ManhattanTracker" "value" "I" (.int (y + ((dt sd (p1.toInt.toNat) (p2.toInt.toNat)) - (dt sd (p1.toInt.toNat) (p3.toInt.toNat))))) := Fld.same W6 f3
  have N12 := Fr.snoc X6 N0 ga
  have Z13 : n0 ≤ h6.size := by rw [W6.size]; exact Z0
  have K14 : Keep h0 h6 [p0] := Keep.wr K0 W6 (Or.inl (List.mem_of_getElem? (i := 0) rfl))
  show Goes p.tables e below (T6.setTop (mkF m 36 #[.val (.ref p0), .val (.int p1), .val (.int p2), .val (.int p3)] [])) _
  exact g_ret0 X6 hx hret hlk (hb hby d9_36) (by decide) (by decide) (by rw [e6]; exact ⟨rfl, N12, K14, fx7, fx8, fx11, fx10⟩)
theorem d1_0 : decode method_3_code 0 = .ok (.iload_n 0, 1) := by decide +kernel
theorem d1_1 : decode method_3_code 1 = .ok (.iload_n 1, 1) := by decide +kernel
theorem d1_2 : decode method_3_code 2 = .ok (.iadd, 1) := by decide +kernel
theorem d1_3 : decode method_3_code 3 = .ok (.iload_n 2, 1) := by decide +kernel
theorem d1_4 : decode method_3_code 4 = .ok (.irem, 1) := by decide +kernel
theorem d1_5 : decode method_3_code 5 = .ok (.i2b, 1) := by decide +kernel
theorem d1_6 : decode method_3_code 6 = .ok (.ireturn, 1) := by decide +kernel
theorem pd_1 : parseMethodDescriptor "(III)B" = some ⟨[.int, .int, .int], some .byte⟩ := by decide +kernel
theorem ef_1 (m : MethodId) (p0 : Int32) (p1 : Int32) (p2 : Int32) : entryFrame m #[(.int p0), (.int p1), (.int p2)] 3 = mkF m 0 #[.val (.int p0), .val (.int p1), .val (.int p2)] [] := by first | (simp [entryFrame, mkF, argsToLocals, Value.category]; done) | rfl
def rotV (p0 : Int32) (p1 : Int32) (p2 : Int32) : Int32 := (Int8.toInt32 (Int32.toInt8 ((p0 + p1) % p2)))
set_option maxRecDepth 65536 in
set_option maxHeartbeats 40000000 in
theorem rmRot (l : Launch) (Z : State) (a0 : Array Value) (hw : ∀ d ∈ tables_1, d.before a0 Z = true) (p0 : Int32) (p1 : Int32) (p2 : Int32) (h0 : Heap) (hp2 : p2 ≠ 0) :
    Con l Z (⟨"com/example/slidewise/slidewise/search/ManhattanTrackerSlideBackPinLaw", "rot", "(III)B"⟩ : MethodName) method_3_code 3 (some .byte) [] ({ frames := 0, cells := 0, slots := 0, locals := 0 } : Room) 0 0 #[(.int p0), (.int p1), (.int p2)] h0 (fun v h L => v = some (.int (rotV p0 p1 p2)) ∧ h = h0 ∧ L = []) := by
  refine Con.body (plainFor_of_name (by first | (simp [plainName, overriddenIn]; done) | decide +kernel)) ?_
  intro p e s m below meth c T0 hx hby hml hown hnm hZ hret hlk X0 e0
  refine Goes.cast (ef_1 m p0 p1 p2) ?_
  show Goes p.tables e below (T0.setTop (mkF m 0 #[.val (.int p0), .val (.int p1), .val (.int p2)] [])) _
  refine g_iloadN X0 hx (hb hby d1_0) rfl ?_
  show Goes p.tables e below (T0.setTop (mkF m 1 #[.val (.int p0), .val (.int p1), .val (.int p2)] [(.int p0)])) _
  refine g_iloadN X0 hx (hb hby d1_1) rfl ?_
  show Goes p.tables e below (T0.setTop (mkF m 2 #[.val (.int p0), .val (.int p1), .val (.int p2)] [(.int p1), (.int p0)])) _
  refine g_iadd X0 hx (hb hby d1_2) ?_
  show Goes p.tables e below (T0.setTop (mkF m 3 #[.val (.int p0), .val (.int p1), .val (.int p2)] [(.int (p0 + p1))])) _
  refine g_iloadN X0 hx (hb hby d1_3) rfl ?_
  show Goes p.tables e below (T0.setTop (mkF m 4 #[.val (.int p0), .val (.int p1), .val (.int p2)] [(.int p2), (.int (p0 + p1))])) _
  refine g_irem X0 hx (hb hby d1_4) hp2 ?_
  show Goes p.tables e below (T0.setTop (mkF m 5 #[.val (.int p0), .val (.int p1), .val (.int p2)] [(.int ((p0 + p1) % p2))])) _
  refine g_i2b X0 hx (hb hby d1_5) ?_
  show Goes p.tables e below (T0.setTop (mkF m 6 #[.val (.int p0), .val (.int p1), .val (.int p2)] [(.int (Int8.toInt32 (Int32.toInt8 ((p0 + p1) % p2))))])) _
  exact g_retB X0 hx (hz := (by simp)) hret hlk (hb hby d1_6) (by decide) (by decide) ⟨by rw [rotV], e0, rfl⟩
theorem d10_0 : decode method_2_code 0 = .ok (.iload_n 1, 1) := by decide +kernel
theorem d10_1 : decode method_2_code 1 = .ok (.iconst 1, 1) := by decide +kernel
theorem d10_2 : decode method_2_code 2 = .ok (.isub, 1) := by decide +kernel
theorem d10_3 : decode method_2_code 3 = .ok (.istore_n 3, 1) := by decide +kernel
theorem d10_4 : decode method_2_code 4 = .ok (.iload_n 3, 1) := by decide +kernel
theorem d10_5 : decode method_2_code 5 = .ok (.iload_n 0, 1) := by decide +kernel
theorem d10_6 : decode method_2_code 6 = .ok (.idiv, 1) := by decide +kernel
theorem d10_7 : decode method_2_code 7 = .ok (.iload_n 2, 1) := by decide +kernel
theorem d10_8 : decode method_2_code 8 = .ok (.iload_n 0, 1) := by decide +kernel
theorem d10_9 : decode method_2_code 9 = .ok (.idiv, 1) := by decide +kernel
theorem d10_10 : decode method_2_code 10 = .ok (.isub, 1) := by decide +kernel
theorem d10_11 : decode method_2_code 11 = .ok (.invokestatic 7, 3) := by decide +kernel
theorem d10_14 : decode method_2_code 14 = .ok (.istore 4, 2) := by decide +kernel
theorem d10_16 : decode method_2_code 16 = .ok (.iload_n 3, 1) := by decide +kernel
theorem d10_17 : decode method_2_code 17 = .ok (.iload_n 0, 1) := by decide +kernel
theorem d10_18 : decode method_2_code 18 = .ok (.irem, 1) := by decide +kernel
theorem d10_19 : decode method_2_code 19 = .ok (.iload_n 2, 1) := by decide +kernel
theorem d10_20 : decode method_2_code 20 = .ok (.iload_n 0, 1) := by decide +kernel
theorem d10_21 : decode method_2_code 21 = .ok (.irem, 1) := by decide +kernel
theorem d10_22 : decode method_2_code 22 = .ok (.isub, 1) := by decide +kernel
theorem d10_23 : decode method_2_code 23 = .ok (.invokestatic 7, 3) := by decide +kernel
theorem d10_26 : decode method_2_code 26 = .ok (.istore 5, 2) := by decide +kernel
theorem d10_28 : decode method_2_code 28 = .ok (.iload 4, 2) := by decide +kernel
theorem d10_30 : decode method_2_code 30 = .ok (.iload 5, 2) := by decide +kernel
theorem d10_32 : decode method_2_code 32 = .ok (.iadd, 1) := by decide +kernel
theorem d10_33 : decode method_2_code 33 = .ok (.ireturn, 1) := by decide +kernel
theorem pd_10 : parseMethodDescriptor "(III)I" = some ⟨[.int, .int, .int], some .int⟩ := by decide +kernel
theorem ef_10 (m : MethodId) (p0 : Int32) (p1 : Int32) (p2 : Int32) : entryFrame m #[(.int p0), (.int p1), (.int p2)] 6 = mkF m 0 #[.val (.int p0), .val (.int p1), .val (.int p2), .unset, .unset, .unset] [] := by first | (simp [entryFrame, mkF, argsToLocals, Value.category]; done) | rfl
def dsV (s n c : Int32) : Int32 := absV ((n - 1) / s - c / s) + absV ((n - 1) % s - c % s)
set_option maxRecDepth 65536 in
set_option maxHeartbeats 40000000 in
theorem rmDist (l : Launch) (Z : State) (a0 : Array Value) (hw : ∀ d ∈ tables_1, d.before a0 Z = true) (p0 : Int32) (p1 : Int32) (p2 : Int32) (h0 : Heap) (hs : p0 ≠ 0) :
    Con l Z (⟨"com/example/slidewise/slidewise/search/ManhattanTrackerSlideBackPinLaw", "dist", "(III)I"⟩ : MethodName) method_2_code 6 (some .int) [] ({ frames := 1, cells := 0, slots := 0, locals := 13 } : Room) 0 0 #[(.int p0), (.int p1), (.int p2)] h0 (fun v h L => v = some (.int (dsV p0 p1 p2)) ∧ h = h0 ∧ L = []) := by
  refine Con.body (plainFor_of_name (by first | (simp [plainName, overriddenIn]; done) | decide +kernel)) ?_
  intro p e s m below meth c T0 hx hby hml hown hnm hZ hret hlk X0 e0
  refine Goes.cast (ef_10 m p0 p1 p2) ?_
  show Goes p.tables e below (T0.setTop (mkF m 0 #[.val (.int p0), .val (.int p1), .val (.int p2), .unset, .unset, .unset] [])) _
  refine g_iloadN X0 hx (hb hby d10_0) rfl ?_
  show Goes p.tables e below (T0.setTop (mkF m 1 #[.val (.int p0), .val (.int p1), .val (.int p2), .unset, .unset, .unset] [(.int p1)])) _
  refine g_iconst X0 hx (1 : Int32) (hb hby d10_1) rfl ?_
  show Goes p.tables e below (T0.setTop (mkF m 2 #[.val (.int p0), .val (.int p1), .val (.int p2), .unset, .unset, .unset] [(.int (1 : Int32)), (.int p1)])) _
  refine g_isub X0 hx (hb hby d10_2) ?_
  show Goes p.tables e below (T0.setTop (mkF m 3 #[.val (.int p0), .val (.int p1), .val (.int p2), .unset, .unset, .unset] [(.int (p1 - (1 : Int32)))])) _
  obtain ⟨v1, hv1⟩ : ∃ z : Int32, z = (p1 - (1 : Int32)) := ⟨_, rfl⟩
  refine g_nameI hv1 ?_
  show Goes p.tables e below (T0.setTop (mkF m 3 #[.val (.int p0), .val (.int p1), .val (.int p2), .unset, .unset, .unset] [(.int v1)])) _
  refine g_istoreN X0 hx (hb hby d10_3) (l' := #[.val (.int p0), .val (.int p1), .val (.int p2), .val (.int v1), .unset, .unset]) rfl ?_
  show Goes p.tables e below (T0.setTop (mkF m 4 #[.val (.int p0), .val (.int p1), .val (.int p2), .val (.int v1), .unset, .unset] [])) _
  refine g_iloadN X0 hx (hb hby d10_4) rfl ?_
  show Goes p.tables e below (T0.setTop (mkF m 5 #[.val (.int p0), .val (.int p1), .val (.int p2), .val (.int v1), .unset, .unset] [(.int v1)])) _
  refine g_iloadN X0 hx (hb hby d10_5) rfl ?_
  show Goes p.tables e below (T0.setTop (mkF m 6 #[.val (.int p0), .val (.int p1), .val (.int p2), .val (.int v1), .unset, .unset] [(.int p0), (.int v1)])) _
  refine g_idiv X0 hx (hb hby d10_6) hs ?_
  show Goes p.tables e below (T0.setTop (mkF m 7 #[.val (.int p0), .val (.int p1), .val (.int p2), .val (.int v1), .unset, .unset] [(.int (v1 / p0))])) _
  refine g_iloadN X0 hx (hb hby d10_7) rfl ?_
  show Goes p.tables e below (T0.setTop (mkF m 8 #[.val (.int p0), .val (.int p1), .val (.int p2), .val (.int v1), .unset, .unset] [(.int p2), (.int (v1 / p0))])) _
  refine g_iloadN X0 hx (hb hby d10_8) rfl ?_
  show Goes p.tables e below (T0.setTop (mkF m 9 #[.val (.int p0), .val (.int p1), .val (.int p2), .val (.int v1), .unset, .unset] [(.int p0), (.int p2), (.int (v1 / p0))])) _
  refine g_idiv X0 hx (hb hby d10_9) hs ?_
  show Goes p.tables e below (T0.setTop (mkF m 10 #[.val (.int p0), .val (.int p1), .val (.int p2), .val (.int v1), .unset, .unset] [(.int (p2 / p0)), (.int (v1 / p0))])) _
  refine g_isub X0 hx (hb hby d10_10) ?_
  show Goes p.tables e below (T0.setTop (mkF m 11 #[.val (.int p0), .val (.int p1), .val (.int p2), .val (.int v1), .unset, .unset] [(.int ((v1 / p0) - (p2 / p0)))])) _
  refine g_callS X0 hx hZ hown (by rw [hml]; rfl) e0 (hw _ (List.mem_of_getElem? (i := 51) rfl)) (hw _ (List.mem_of_getElem? (i := 28) rfl)) (hw _ (List.mem_of_getElem? (i := 29) rfl)) (hw _ (List.mem_of_getElem? (i := 30) rfl)) (rmAbs l Z a0 hw ((v1 / p0) - (p2 / p0)) h0) [(.int ((v1 / p0) - (p2 / p0)))] rfl [] rfl (lenOf pd_6 rfl) (hb hby d10_11) (by decide) 0 (by decide) (by decide) (by first | decide | exact Nat.le_refl _) (by decide) (by decide) (fun v T2 L2 X2 hQ2 => ?_)
  obtain ⟨rfl, e2, rfl⟩ := hQ2
  show Goes p.tables e below (T2.setTop (mkF m 14 #[.val (.int p0), .val (.int p1), .val (.int p2), .val (.int v1), .unset, .unset] [(.int (absV ((v1 / p0) - (p2 / p0))))])) _
  obtain ⟨v3, hv3⟩ : ∃ z : Int32, z = (absV ((v1 / p0) - (p2 / p0))) := ⟨_, rfl⟩
  refine g_nameI hv3 ?_
  show Goes p.tables e below (T2.setTop (mkF m 14 #[.val (.int p0), .val (.int p1), .val (.int p2), .val (.int v1), .unset, .unset] [(.int v3)])) _
  refine g_istore X2 hx (hb hby d10_14) (l' := #[.val (.int p0), .val (.int p1), .val (.int p2), .val (.int v1), .val (.int v3), .unset]) rfl ?_
  show Goes p.tables e below (T2.setTop (mkF m 16 #[.val (.int p0), .val (.int p1), .val (.int p2), .val (.int v1), .val (.int v3), .unset] [])) _
  refine g_iloadN X2 hx (hb hby d10_16) rfl ?_
  show Goes p.tables e below (T2.setTop (mkF m 17 #[.val (.int p0), .val (.int p1), .val (.int p2), .val (.int v1), .val (.int v3), .unset] [(.int v1)])) _
  refine g_iloadN X2 hx (hb hby d10_17) rfl ?_
  show Goes p.tables e below (T2.setTop (mkF m 18 #[.val (.int p0), .val (.int p1), .val (.int p2), .val (.int v1), .val (.int v3), .unset] [(.int p0), (.int v1)])) _
  refine g_irem X2 hx (hb hby d10_18) hs ?_
  show Goes p.tables e below (T2.setTop (mkF m 19 #[.val (.int p0), .val (.int p1), .val (.int p2), .val (.int v1), .val (.int v3), .unset] [(.int (v1 % p0))])) _
  refine g_iloadN X2 hx (hb hby d10_19) rfl ?_
  show Goes p.tables e below (T2.setTop (mkF m 20 #[.val (.int p0), .val (.int p1), .val (.int p2), .val (.int v1), .val (.int v3), .unset] [(.int p2), (.int (v1 % p0))])) _
  refine g_iloadN X2 hx (hb hby d10_20) rfl ?_
  show Goes p.tables e below (T2.setTop (mkF m 21 #[.val (.int p0), .val (.int p1), .val (.int p2), .val (.int v1), .val (.int v3), .unset] [(.int p0), (.int p2), (.int (v1 % p0))])) _
  refine g_irem X2 hx (hb hby d10_21) hs ?_
  show Goes p.tables e below (T2.setTop (mkF m 22 #[.val (.int p0), .val (.int p1), .val (.int p2), .val (.int v1), .val (.int v3), .unset] [(.int (p2 % p0)), (.int (v1 % p0))])) _
  refine g_isub X2 hx (hb hby d10_22) ?_
  show Goes p.tables e below (T2.setTop (mkF m 23 #[.val (.int p0), .val (.int p1), .val (.int p2), .val (.int v1), .val (.int v3), .unset] [(.int ((v1 % p0) - (p2 % p0)))])) _
  refine g_callS X2 hx hZ hown (by rw [hml]; rfl) e2 (hw _ (List.mem_of_getElem? (i := 51) rfl)) (hw _ (List.mem_of_getElem? (i := 28) rfl)) (hw _ (List.mem_of_getElem? (i := 29) rfl)) (hw _ (List.mem_of_getElem? (i := 30) rfl)) (rmAbs l Z a0 hw ((v1 % p0) - (p2 % p0)) h0) [(.int ((v1 % p0) - (p2 % p0)))] rfl [] rfl (lenOf pd_6 rfl) (hb hby d10_23) (by decide) 0 (by decide) (by decide) (by first | decide | exact Nat.le_refl _) (by decide) (by decide) (fun v T4 L4 X4 hQ4 => ?_)
  obtain ⟨rfl, e4, rfl⟩ := hQ4
  show Goes p.tables e below (T4.setTop (mkF m 26 #[.val (.int p0), .val (.int p1), .val (.int p2), .val (.int v1), .val (.int v3), .unset] [(.int (absV ((v1 % p0) - (p2 % p0))))])) _
  obtain ⟨v5, hv5⟩ : ∃ z : Int32, z = (absV ((v1 % p0) - (p2 % p0))) := ⟨_, rfl⟩
  refine g_nameI hv5 ?_
  show Goes p.tables e below (T4.setTop (mkF m 26 #[.val (.int p0), .val (.int p1), .val (.int p2), .val (.int v1), .val (.int v3), .unset] [(.int v5)])) _
  refine g_istore X4 hx (hb hby d10_26) (l' := #[.val (.int p0), .val (.int p1), .val (.int p2), .val (.int v1), .val (.int v3), .val (.int v5)]) rfl ?_
  show Goes p.tables e below (T4.setTop (mkF m 28 #[.val (.int p0), .val (.int p1), .val (.int p2), .val (.int v1), .val (.int v3), .val (.int v5)] [])) _
  refine g_iload X4 hx (hb hby d10_28) rfl ?_
  show Goes p.tables e below (T4.setTop (mkF m 30 #[.val (.int p0), .val (.int p1), .val (.int p2), .val (.int v1), .val (.int v3), .val (.int v5)] [(.int v3)])) _
  refine g_iload X4 hx (hb hby d10_30) rfl ?_
  show Goes p.tables e below (T4.setTop (mkF m 32 #[.val (.int p0), .val (.int p1), .val (.int p2), .val (.int v1), .val (.int v3), .val (.int v5)] [(.int v5), (.int v3)])) _
  refine g_iadd X4 hx (hb hby d10_32) ?_
  show Goes p.tables e below (T4.setTop (mkF m 33 #[.val (.int p0), .val (.int p1), .val (.int p2), .val (.int v1), .val (.int v3), .val (.int v5)] [(.int (v3 + v5))])) _
  exact g_retI X4 hx hret hlk (hb hby d10_33) (by decide) (by decide) ⟨by subst_vars; rfl, e4, rfl⟩
theorem own_side {k v : Int32} (hv : v = ((2 : Int32) + ((k &&& (2147483647 : Int32)) % (3 : Int32)))) : ∃ sd : Nat, v.toInt = sd ∧ 2 ≤ sd ∧ sd ≤ 4 := by
  have a := (c_and k 2147483647 (by decide)).1
  have q := (c_irem (k &&& 2147483647) 3 3 (by decide)).1 a
  have b := c_iadd 2 ((k &&& 2147483647) % 3)
  have o : (2 : Int32).toInt = 2 := by decide
  have r := rng32 (2 + (k &&& 2147483647) % 3)
  rw [o] at b
  exact ⟨v.toInt.toNat, by rw [hv]; omega, by rw [hv]; omega, by rw [hv]; omega⟩
theorem own_mod {k s v : Int32} {S : Nat} (hs : s.toInt = S) (h0 : 1 ≤ S) (hv : v = ((k &&& (2147483647 : Int32)) % s)) : 0 ≤ v.toInt ∧ v.toInt < S := by
  have a := (c_and k 2147483647 (by decide)).1
  have q := (c_irem (k &&& 2147483647) s _ hs).1 a
  have l1 := Int.emod_lt_of_pos (k &&& 2147483647).toInt (show (0 : Int) < S by omega)
  have l0 := Int.emod_nonneg (k &&& 2147483647).toInt (show (S : Int) ≠ 0 by omega)
  rw [hv, q]
  exact ⟨l0, l1⟩
theorem own_tile {k s v : Int32} {S : Nat} (hs : s.toInt = S) (h0 : 2 ≤ S) (h1 : S ≤ 16) (hv : v = ((1 : Int32) + ((k &&& (2147483647 : Int32)) % (s - (1 : Int32))))) : 1 ≤ v.toInt ∧ v.toInt < S := by
  have e := c_isub s 1
  have o : (1 : Int32).toInt = 1 := by decide
  have r := rng32 (s - 1)
  rw [o] at e
  have es : (s - 1).toInt = (S - 1 : Nat) := by omega
  have m := own_mod es (by omega) (v := (k &&& (2147483647 : Int32)) % (s - 1)) rfl
  have b := c_iadd 1 ((k &&& 2147483647) % (s - 1))
  have r2 := rng32 (1 + (k &&& 2147483647) % (s - 1))
  rw [o] at b
  rw [hv]
  omega
theorem own_nz {s : Int32} {S : Nat} (hs : s.toInt = S) (h0 : 1 ≤ S) : s ≠ 0 := fun e => by rw [e] at hs; have : (0 : Int32).toInt = 0 := rfl; omega
theorem own_nz1 {s : Int32} {S : Nat} (hs : s.toInt = S) (h0 : 2 ≤ S) (h1 : S ≤ 16) : s - 1 ≠ 0 := fun e => by
  have q := c_isub s 1
  have o : (1 : Int32).toInt = 1 := by decide
  have z : (0 : Int32).toInt = 0 := rfl
  rw [e, o] at q
  omega
theorem own_rotnar (a b c : Int32) : nar .byte (rotV a b c) = rotV a b c := by simp [nar, rotV]
theorem own_rot {c r s : Int32} {S cn : Nat} (hs : s.toInt = S) (h0 : 1 ≤ S) (h1 : S ≤ 16) (hc : c.toInt = cn) (hcn : cn < 16) (hr : 0 ≤ r.toInt ∧ r.toInt < S) : 0 ≤ (rotV c r s).toInt ∧ (rotV c r s).toInt < S := by
  have b := c_iadd c r
  have r2 := rng32 (c + r)
  have e : (c + r).toInt = c.toInt + r.toInt := by omega
  have q := (c_irem (c + r) s _ hs).1 (by omega)
  have l1 := Int.emod_lt_of_pos (c + r).toInt (show (0 : Int) < S by omega)
  have l0 := Int.emod_nonneg (c + r).toInt (show (S : Int) ≠ 0 by omega)
  have k := c_i2b ((c + r) % s)
  unfold rotV
  omega
theorem own_dsdt {s t c : Int32} {S : Nat} (ht : 1 ≤ t.toInt ∧ t.toInt < S) (hc : 0 ≤ c.toInt ∧ c.toInt < S) : dt s t.toInt.toNat c.toInt.toNat = dsV s t c := by
  have e1 : Int32.ofNat t.toInt.toNat = t := by
    apply Int32.toInt_inj.mp
    have := rng32 t
    rw [Int32.toInt_ofNat_of_lt (by omega)]
    omega
  have e2 : Int32.ofNat c.toInt.toNat = c := by
    apply Int32.toInt_inj.mp
    have := rng32 c
    rw [Int32.toInt_ofNat_of_lt (by omega)]
    omega
  have n0 : ¬ t = 0 := fun e => by rw [e] at ht; exact absurd ht.1 (by decide)
  rw [dt, if_neg (by omega), e1, e2, distV, dsV, goalV, if_neg n0]
theorem own_back (y a b : Int32) : (y + (b - a)) + (a - b) - (y + (b - a)) = a - b ∧ (y + (b - a)) + (a - b) = y := by
  constructor
  · rw [Int32.add_comm (y + (b - a)), Int32.add_sub_cancel]
  · rw [Int32.add_assoc, Int32.sub_eq_add_neg, Int32.sub_eq_add_neg, Int32.add_assoc, ← Int32.add_assoc (-a) a, Int32.add_left_neg, Int32.zero_add, Int32.add_right_neg, Int32.add_zero]
theorem ef_0 (m : MethodId) (p0 : Int32) (p1 : Int32) (p2 : Int32) (p3 : Int32) (p4 : Int32) : entryFrame m #[(.int p0), (.int p1), (.int p2), (.int p3), (.int p4)] maxLocals = mkF m 0 #[.val (.int p0), .val (.int p1), .val (.int p2), .val (.int p3), .val (.int p4), .unset, .unset, .unset, .unset, .unset, .unset, .unset, .unset, .unset, .unset, .unset, .unset] [] := by first | (simp [entryFrame, mkF, argsToLocals, Value.category, maxLocals]; done) | rfl
set_option maxRecDepth 65536 in
set_option maxHeartbeats 40000000 in
theorem law (l : Launch) (Z : State) (a0 : Array Value) (hw : ∀ d ∈ tables_1, d.before a0 Z = true) (ws : List Jvm.Cond) (p0 : Int32) (p1 : Int32) (p2 : Int32) (p3 : Int32) (p4 : Int32) (h0 : Heap)  :
    Con l Z x code maxLocals ret ws room_1 16 640 #[(.int p0), (.int p1), (.int p2), (.int p3), (.int p4)] h0 (fun v h L => v = some (.int 1) ∧ Fr h0.size L) := by
  refine Con.body (plainFor_of_name (by first | (simp [plainName, overriddenIn, x]; done) | decide +kernel)) ?_
  intro p e s m below meth c T0 hx hby hml hown hnm hZ hret hlk X0 e0
  refine Goes.cast (ef_0 m p0 p1 p2 p3 p4) ?_
  have N0 := Fr.nil h0.size
  have Z0 : h0.size ≤ h0.size := Nat.le_refl _
  show Goes p.tables e below (T0.setTop (mkF m 0 #[.val (.int p0), .val (.int p1), .val (.int p2), .val (.int p3), .val (.int p4), .unset, .unset, .unset, .unset, .unset, .unset, .unset, .unset, .unset, .unset, .unset, .unset] [])) _
  refine g_iconst X0 hx (2 : Int32) (hb hby at_0) rfl ?_
  show Goes p.tables e below (T0.setTop (mkF m 1 #[.val (.int p0), .val (.int p1), .val (.int p2), .val (.int p3), .val (.int p4), .unset, .unset, .unset, .unset, .unset, .unset, .unset, .unset, .unset, .unset, .unset, .unset] [(.int (2 : Int32))])) _
  refine g_iloadN X0 hx (hb hby at_1) rfl ?_
  show Goes p.tables e below (T0.setTop (mkF m 2 #[.val (.int p0), .val (.int p1), .val (.int p2), .val (.int p3), .val (.int p4), .unset, .unset, .unset, .unset, .unset, .unset, .unset, .unset, .unset, .unset, .unset, .unset] [(.int p0), (.int (2 : Int32))])) _
  refine g_ldc X0 hx hZ hown (hw _ (List.mem_of_getElem? (i := 0) rfl)) (hb hby at_2) ?_
  show Goes p.tables e below (T0.setTop (mkF m 4 #[.val (.int p0), .val (.int p1), .val (.int p2), .val (.int p3), .val (.int p4), .unset, .unset, .unset, .unset, .unset, .unset, .unset, .unset, .unset, .unset, .unset, .unset] [(.int (2147483647 : Int32)), (.int p0), (.int (2 : Int32))])) _
  refine g_iand X0 hx (hb hby at_4) ?_
  show Goes p.tables e below (T0.setTop (mkF m 5 #[.val (.int p0), .val (.int p1), .val (.int p2), .val (.int p3), .val (.int p4), .unset, .unset, .unset, .unset, .unset, .unset, .unset, .unset, .unset, .unset, .unset, .unset] [(.int (p0 &&& (2147483647 : Int32))), (.int (2 : Int32))])) _
  refine g_iconst X0 hx (3 : Int32) (hb hby at_5) rfl ?_
  show Goes p.tables e below (T0.setTop (mkF m 6 #[.val (.int p0), .val (.int p1), .val (.int p2), .val (.int p3), .val (.int p4), .unset, .unset, .unset, .unset, .unset, .unset, .unset, .unset, .unset, .unset, .unset, .unset] [(.int (3 : Int32)), (.int (p0 &&& (2147483647 : Int32))), (.int (2 : Int32))])) _
  refine g_irem X0 hx (hb hby at_6) (by decide) ?_
  show Goes p.tables e below (T0.setTop (mkF m 7 #[.val (.int p0), .val (.int p1), .val (.int p2), .val (.int p3), .val (.int p4), .unset, .unset, .unset, .unset, .unset, .unset, .unset, .unset, .unset, .unset, .unset, .unset] [(.int ((p0 &&& (2147483647 : Int32)) % (3 : Int32))), (.int (2 : Int32))])) _
  refine g_iadd X0 hx (hb hby at_7) ?_
  show Goes p.tables e below (T0.setTop (mkF m 8 #[.val (.int p0), .val (.int p1), .val (.int p2), .val (.int p3), .val (.int p4), .unset, .unset, .unset, .unset, .unset, .unset, .unset, .unset, .unset, .unset, .unset, .unset] [(.int ((2 : Int32) + ((p0 &&& (2147483647 : Int32)) % (3 : Int32))))])) _
  obtain ⟨vsd, hvsd⟩ : ∃ z : Int32, z = ((2 : Int32) + ((p0 &&& (2147483647 : Int32)) % (3 : Int32))) := ⟨_, rfl⟩
  refine g_nameI hvsd ?_
  show Goes p.tables e below (T0.setTop (mkF m 8 #[.val (.int p0), .val (.int p1), .val (.int p2), .val (.int p3), .val (.int p4), .unset, .unset, .unset, .unset, .unset, .unset, .unset, .unset, .unset, .unset, .unset, .unset] [(.int vsd)])) _
  refine g_istore X0 hx (hb hby at_8) (l' := #[.val (.int p0), .val (.int p1), .val (.int p2), .val (.int p3), .val (.int p4), .val (.int vsd), .unset, .unset, .unset, .unset, .unset, .unset, .unset, .unset, .unset, .unset, .unset]) rfl ?_
  show Goes p.tables e below (T0.setTop (mkF m 10 #[.val (.int p0), .val (.int p1), .val (.int p2), .val (.int p3), .val (.int p4), .val (.int vsd), .unset, .unset, .unset, .unset, .unset, .unset, .unset, .unset, .unset, .unset, .unset] [])) _
  refine g_iload X0 hx (hb hby at_10) rfl ?_
  show Goes p.tables e below (T0.setTop (mkF m 12 #[.val (.int p0), .val (.int p1), .val (.int p2), .val (.int p3), .val (.int p4), .val (.int vsd), .unset, .unset, .unset, .unset, .unset, .unset, .unset, .unset, .unset, .unset, .unset] [(.int vsd)])) _
  refine g_iload X0 hx (hb hby at_12) rfl ?_
  show Goes p.tables e below (T0.setTop (mkF m 14 #[.val (.int p0), .val (.int p1), .val (.int p2), .val (.int p3), .val (.int p4), .val (.int vsd), .unset, .unset, .unset, .unset, .unset, .unset, .unset, .unset, .unset, .unset, .unset] [(.int vsd), (.int vsd)])) _
  refine g_imul X0 hx (hb hby at_14) ?_
  show Goes p.tables e below (T0.setTop (mkF m 15 #[.val (.int p0), .val (.int p1), .val (.int p2), .val (.int p3), .val (.int p4), .val (.int vsd), .unset, .unset, .unset, .unset, .unset, .unset, .unset, .unset, .unset, .unset, .unset] [(.int (vsd * vsd))])) _
  obtain ⟨vq, hvq⟩ : ∃ z : Int32, z = (vsd * vsd) := ⟨_, rfl⟩
  refine g_nameI hvq ?_
  show Goes p.tables e below (T0.setTop (mkF m 15 #[.val (.int p0), .val (.int p1), .val (.int p2), .val (.int p3), .val (.int p4), .val (.int vsd), .unset, .unset, .unset, .unset, .unset, .unset, .unset, .unset, .unset, .unset, .unset] [(.int vq)])) _
  refine g_istore X0 hx (hb hby at_15) (l' := #[.val (.int p0), .val (.int p1), .val (.int p2), .val (.int p3), .val (.int p4), .val (.int vsd), .val (.int vq), .unset, .unset, .unset, .unset, .unset, .unset, .unset, .unset, .unset, .unset]) rfl ?_
  show Goes p.tables e below (T0.setTop (mkF m 17 #[.val (.int p0), .val (.int p1), .val (.int p2), .val (.int p3), .val (.int p4), .val (.int vsd), .val (.int vq), .unset, .unset, .unset, .unset, .unset, .unset, .unset, .unset, .unset, .unset] [])) _
  obtain ⟨sd, hsd, hsd2, hsd4⟩ := own_side hvsd
  obtain ⟨S, hS⟩ : ∃ S : Nat, S = sd * sd := ⟨_, rfl⟩
  have hS16 : S ≤ 16 := by rw [hS]; exact Nat.mul_le_mul hsd4 hsd4
  have hS4 : 4 ≤ S := by rw [hS]; exact Nat.mul_le_mul hsd2 hsd2
  have hsq : vq.toInt = (S : Nat) := by rw [hvq, hS]; exact own_mul hsd hsd (by omega) (by omega)
  have hnz : vq ≠ 0 := own_nz hsq (by omega)
  have hsd0 : vsd ≠ 0 := own_nz hsd (by omega)
  show Goes p.tables e below (T0.setTop (mkF m 17 #[.val (.int p0), .val (.int p1), .val (.int p2), .val (.int p3), .val (.int p4), .val (.int vsd), .val (.int vq), .unset, .unset, .unset, .unset, .unset, .unset, .unset, .unset, .unset, .unset] [])) _
  refine g_iloadN X0 hx (hb hby at_17) rfl ?_
  show Goes p.tables e below (T0.setTop (mkF m 18 #[.val (.int p0), .val (.int p1), .val (.int p2), .val (.int p3), .val (.int p4), .val (.int vsd), .val (.int vq), .unset, .unset, .unset, .unset, .unset, .unset, .unset, .unset, .unset, .unset] [(.int p1)])) _
  refine g_ldc X0 hx hZ hown (hw _ (List.mem_of_getElem? (i := 0) rfl)) (hb hby at_18) ?_
  show Goes p.tables e below (T0.setTop (mkF m 20 #[.val (.int p0), .val (.int p1), .val (.int p2), .val (.int p3), .val (.int p4), .val (.int vsd), .val (.int vq), .unset, .unset, .unset, .unset, .unset, .unset, .unset, .unset, .unset, .unset] [(.int (2147483647 : Int32)), (.int p1)])) _
  refine g_iand X0 hx (hb hby at_20) ?_
  show Goes p.tables e below (T0.setTop (mkF m 21 #[.val (.int p0), .val (.int p1), .val (.int p2), .val (.int p3), .val (.int p4), .val (.int vsd), .val (.int vq), .unset, .unset, .unset, .unset, .unset, .unset, .unset, .unset, .unset, .unset] [(.int (p1 &&& (2147483647 : Int32)))])) _
  refine g_iload X0 hx (hb hby at_21) rfl ?_
  show Goes p.tables e below (T0.setTop (mkF m 23 #[.val (.int p0), .val (.int p1), .val (.int p2), .val (.int p3), .val (.int p4), .val (.int vsd), .val (.int vq), .unset, .unset, .unset, .unset, .unset, .unset, .unset, .unset, .unset, .unset] [(.int vq), (.int (p1 &&& (2147483647 : Int32)))])) _
  refine g_irem X0 hx (hb hby at_23) hnz ?_
  show Goes p.tables e below (T0.setTop (mkF m 24 #[.val (.int p0), .val (.int p1), .val (.int p2), .val (.int p3), .val (.int p4), .val (.int vsd), .val (.int vq), .unset, .unset, .unset, .unset, .unset, .unset, .unset, .unset, .unset, .unset] [(.int ((p1 &&& (2147483647 : Int32)) % vq))])) _
  obtain ⟨vr, hvr⟩ : ∃ z : Int32, z = ((p1 &&& (2147483647 : Int32)) % vq) := ⟨_, rfl⟩
  refine g_nameI hvr ?_
  show Goes p.tables e below (T0.setTop (mkF m 24 #[.val (.int p0), .val (.int p1), .val (.int p2), .val (.int p3), .val (.int p4), .val (.int vsd), .val (.int vq), .unset, .unset, .unset, .unset, .unset, .unset, .unset, .unset, .unset, .unset] [(.int vr)])) _
  refine g_istore X0 hx (hb hby at_24) (l' := #[.val (.int p0), .val (.int p1), .val (.int p2), .val (.int p3), .val (.int p4), .val (.int vsd), .val (.int vq), .val (.int vr), .unset, .unset, .unset, .unset, .unset, .unset, .unset, .unset, .unset]) rfl ?_
  show Goes p.tables e below (T0.setTop (mkF m 26 #[.val (.int p0), .val (.int p1), .val (.int p2), .val (.int p3), .val (.int p4), .val (.int vsd), .val (.int vq), .val (.int vr), .unset, .unset, .unset, .unset, .unset, .unset, .unset, .unset, .unset] [])) _
  refine g_iconst X0 hx (1 : Int32) (hb hby at_26) rfl ?_
  show Goes p.tables e below (T0.setTop (mkF m 27 #[.val (.int p0), .val (.int p1), .val (.int p2), .val (.int p3), .val (.int p4), .val (.int vsd), .val (.int vq), .val (.int vr), .unset, .unset, .unset, .unset, .unset, .unset, .unset, .unset, .unset] [(.int (1 : Int32))])) _
  refine g_iloadN X0 hx (hb hby at_27) rfl ?_
  show Goes p.tables e below (T0.setTop (mkF m 28 #[.val (.int p0), .val (.int p1), .val (.int p2), .val (.int p3), .val (.int p4), .val (.int vsd), .val (.int vq), .val (.int vr), .unset, .unset, .unset, .unset, .unset, .unset, .unset, .unset, .unset] [(.int p2), (.int (1 : Int32))])) _
  refine g_ldc X0 hx hZ hown (hw _ (List.mem_of_getElem? (i := 0) rfl)) (hb hby at_28) ?_
  show Goes p.tables e below (T0.setTop (mkF m 30 #[.val (.int p0), .val (.int p1), .val (.int p2), .val (.int p3), .val (.int p4), .val (.int vsd), .val (.int vq), .val (.int vr), .unset, .unset, .unset, .unset, .unset, .unset, .unset, .unset, .unset] [(.int (2147483647 : Int32)), (.int p2), (.int (1 : Int32))])) _
  refine g_iand X0 hx (hb hby at_30) ?_
  show Goes p.tables e below (T0.setTop (mkF m 31 #[.val (.int p0), .val (.int p1), .val (.int p2), .val (.int p3), .val (.int p4), .val (.int vsd), .val (.int vq), .val (.int vr), .unset, .unset, .unset, .unset, .unset, .unset, .unset, .unset, .unset] [(.int (p2 &&& (2147483647 : Int32))), (.int (1 : Int32))])) _
  refine g_iload X0 hx (hb hby at_31) rfl ?_
  show Goes p.tables e below (T0.setTop (mkF m 33 #[.val (.int p0), .val (.int p1), .val (.int p2), .val (.int p3), .val (.int p4), .val (.int vsd), .val (.int vq), .val (.int vr), .unset, .unset, .unset, .unset, .unset, .unset, .unset, .unset, .unset] [(.int vq), (.int (p2 &&& (2147483647 : Int32))), (.int (1 : Int32))])) _
  refine g_iconst X0 hx (1 : Int32) (hb hby at_33) rfl ?_
  show Goes p.tables e below (T0.setTop (mkF m 34 #[.val (.int p0), .val (.int p1), .val (.int p2), .val (.int p3), .val (.int p4), .val (.int vsd), .val (.int vq), .val (.int vr), .unset, .unset, .unset, .unset, .unset, .unset, .unset, .unset, .unset] [(.int (1 : Int32)), (.int vq), (.int (p2 &&& (2147483647 : Int32))), (.int (1 : Int32))])) _
  refine g_isub X0 hx (hb hby at_34) ?_
  show Goes p.tables e below (T0.setTop (mkF m 35 #[.val (.int p0), .val (.int p1), .val (.int p2), .val (.int p3), .val (.int p4), .val (.int vsd), .val (.int vq), .val (.int vr), .unset, .unset, .unset, .unset, .unset, .unset, .unset, .unset, .unset] [(.int (vq - (1 : Int32))), (.int (p2 &&& (2147483647 : Int32))), (.int (1 : Int32))])) _
  refine g_irem X0 hx (hb hby at_35) (own_nz1 hsq (by omega) hS16) ?_
  show Goes p.tables e below (T0.setTop (mkF m 36 #[.val (.int p0), .val (.int p1), .val (.int p2), .val (.int p3), .val (.int p4), .val (.int vsd), .val (.int vq), .val (.int vr), .unset, .unset, .unset, .unset, .unset, .unset, .unset, .unset, .unset] [(.int ((p2 &&& (2147483647 : Int32)) % (vq - (1 : Int32)))), (.int (1 : Int32))])) _
  refine g_iadd X0 hx (hb hby at_36) ?_
  show Goes p.tables e below (T0.setTop (mkF m 37 #[.val (.int p0), .val (.int p1), .val (.int p2), .val (.int p3), .val (.int p4), .val (.int vsd), .val (.int vq), .val (.int vr), .unset, .unset, .unset, .unset, .unset, .unset, .unset, .unset, .unset] [(.int ((1 : Int32) + ((p2 &&& (2147483647 : Int32)) % (vq - (1 : Int32)))))])) _
  obtain ⟨vt, hvt⟩ : ∃ z : Int32, z = ((1 : Int32) + ((p2 &&& (2147483647 : Int32)) % (vq - (1 : Int32)))) := ⟨_, rfl⟩
  refine g_nameI hvt ?_
  show Goes p.tables e below (T0.setTop (mkF m 37 #[.val (.int p0), .val (.int p1), .val (.int p2), .val (.int p3), .val (.int p4), .val (.int vsd), .val (.int vq), .val (.int vr), .unset, .unset, .unset, .unset, .unset, .unset, .unset, .unset, .unset] [(.int vt)])) _
  refine g_istore X0 hx (hb hby at_37) (l' := #[.val (.int p0), .val (.int p1), .val (.int p2), .val (.int p3), .val (.int p4), .val (.int vsd), .val (.int vq), .val (.int vr), .val (.int vt), .unset, .unset, .unset, .unset, .unset, .unset, .unset, .unset]) rfl ?_
  show Goes p.tables e below (T0.setTop (mkF m 39 #[.val (.int p0), .val (.int p1), .val (.int p2), .val (.int p3), .val (.int p4), .val (.int vsd), .val (.int vq), .val (.int vr), .val (.int vt), .unset, .unset, .unset, .unset, .unset, .unset, .unset, .unset] [])) _
  refine g_iloadN X0 hx (hb hby at_39) rfl ?_
  show Goes p.tables e below (T0.setTop (mkF m 40 #[.val (.int p0), .val (.int p1), .val (.int p2), .val (.int p3), .val (.int p4), .val (.int vsd), .val (.int vq), .val (.int vr), .val (.int vt), .unset, .unset, .unset, .unset, .unset, .unset, .unset, .unset] [(.int p3)])) _
  refine g_ldc X0 hx hZ hown (hw _ (List.mem_of_getElem? (i := 0) rfl)) (hb hby at_40) ?_
  show Goes p.tables e below (T0.setTop (mkF m 42 #[.val (.int p0), .val (.int p1), .val (.int p2), .val (.int p3), .val (.int p4), .val (.int vsd), .val (.int vq), .val (.int vr), .val (.int vt), .unset, .unset, .unset, .unset, .unset, .unset, .unset, .unset] [(.int (2147483647 : Int32)), (.int p3)])) _
  refine g_iand X0 hx (hb hby at_42) ?_
  show Goes p.tables e below (T0.setTop (mkF m 43 #[.val (.int p0), .val (.int p1), .val (.int p2), .val (.int p3), .val (.int p4), .val (.int vsd), .val (.int vq), .val (.int vr), .val (.int vt), .unset, .unset, .unset, .unset, .unset, .unset, .unset, .unset] [(.int (p3 &&& (2147483647 : Int32)))])) _
  refine g_iload X0 hx (hb hby at_43) rfl ?_
  show Goes p.tables e below (T0.setTop (mkF m 45 #[.val (.int p0), .val (.int p1), .val (.int p2), .val (.int p3), .val (.int p4), .val (.int vsd), .val (.int vq), .val (.int vr), .val (.int vt), .unset, .unset, .unset, .unset, .unset, .unset, .unset, .unset] [(.int vq), (.int (p3 &&& (2147483647 : Int32)))])) _
  refine g_irem X0 hx (hb hby at_45) hnz ?_
  show Goes p.tables e below (T0.setTop (mkF m 46 #[.val (.int p0), .val (.int p1), .val (.int p2), .val (.int p3), .val (.int p4), .val (.int vsd), .val (.int vq), .val (.int vr), .val (.int vt), .unset, .unset, .unset, .unset, .unset, .unset, .unset, .unset] [(.int ((p3 &&& (2147483647 : Int32)) % vq))])) _
  obtain ⟨vf, hvf⟩ : ∃ z : Int32, z = ((p3 &&& (2147483647 : Int32)) % vq) := ⟨_, rfl⟩
  refine g_nameI hvf ?_
  show Goes p.tables e below (T0.setTop (mkF m 46 #[.val (.int p0), .val (.int p1), .val (.int p2), .val (.int p3), .val (.int p4), .val (.int vsd), .val (.int vq), .val (.int vr), .val (.int vt), .unset, .unset, .unset, .unset, .unset, .unset, .unset, .unset] [(.int vf)])) _
  refine g_istore X0 hx (hb hby at_46) (l' := #[.val (.int p0), .val (.int p1), .val (.int p2), .val (.int p3), .val (.int p4), .val (.int vsd), .val (.int vq), .val (.int vr), .val (.int vt), .val (.int vf), .unset, .unset, .unset, .unset, .unset, .unset, .unset]) rfl ?_
  show Goes p.tables e below (T0.setTop (mkF m 48 #[.val (.int p0), .val (.int p1), .val (.int p2), .val (.int p3), .val (.int p4), .val (.int vsd), .val (.int vq), .val (.int vr), .val (.int vt), .val (.int vf), .unset, .unset, .unset, .unset, .unset, .unset, .unset] [])) _
  refine g_iload X0 hx (hb hby at_48) rfl ?_
  show Goes p.tables e below (T0.setTop (mkF m 50 #[.val (.int p0), .val (.int p1), .val (.int p2), .val (.int p3), .val (.int p4), .val (.int vsd), .val (.int vq), .val (.int vr), .val (.int vt), .val (.int vf), .unset, .unset, .unset, .unset, .unset, .unset, .unset] [(.int p4)])) _
  refine g_ldc X0 hx hZ hown (hw _ (List.mem_of_getElem? (i := 0) rfl)) (hb hby at_50) ?_
  show Goes p.tables e below (T0.setTop (mkF m 52 #[.val (.int p0), .val (.int p1), .val (.int p2), .val (.int p3), .val (.int p4), .val (.int vsd), .val (.int vq), .val (.int vr), .val (.int vt), .val (.int vf), .unset, .unset, .unset, .unset, .unset, .unset, .unset] [(.int (2147483647 : Int32)), (.int p4)])) _
  refine g_iand X0 hx (hb hby at_52) ?_
  show Goes p.tables e below (T0.setTop (mkF m 53 #[.val (.int p0), .val (.int p1), .val (.int p2), .val (.int p3), .val (.int p4), .val (.int vsd), .val (.int vq), .val (.int vr), .val (.int vt), .val (.int vf), .unset, .unset, .unset, .unset, .unset, .unset, .unset] [(.int (p4 &&& (2147483647 : Int32)))])) _
  refine g_iload X0 hx (hb hby at_53) rfl ?_
  show Goes p.tables e below (T0.setTop (mkF m 55 #[.val (.int p0), .val (.int p1), .val (.int p2), .val (.int p3), .val (.int p4), .val (.int vsd), .val (.int vq), .val (.int vr), .val (.int vt), .val (.int vf), .unset, .unset, .unset, .unset, .unset, .unset, .unset] [(.int vq), (.int (p4 &&& (2147483647 : Int32)))])) _
  refine g_irem X0 hx (hb hby at_55) hnz ?_
  show Goes p.tables e below (T0.setTop (mkF m 56 #[.val (.int p0), .val (.int p1), .val (.int p2), .val (.int p3), .val (.int p4), .val (.int vsd), .val (.int vq), .val (.int vr), .val (.int vt), .val (.int vf), .unset, .unset, .unset, .unset, .unset, .unset, .unset] [(.int ((p4 &&& (2147483647 : Int32)) % vq))])) _
  obtain ⟨vg, hvg⟩ : ∃ z : Int32, z = ((p4 &&& (2147483647 : Int32)) % vq) := ⟨_, rfl⟩
  refine g_nameI hvg ?_
  show Goes p.tables e below (T0.setTop (mkF m 56 #[.val (.int p0), .val (.int p1), .val (.int p2), .val (.int p3), .val (.int p4), .val (.int vsd), .val (.int vq), .val (.int vr), .val (.int vt), .val (.int vf), .unset, .unset, .unset, .unset, .unset, .unset, .unset] [(.int vg)])) _
  refine g_istore X0 hx (hb hby at_56) (l' := #[.val (.int p0), .val (.int p1), .val (.int p2), .val (.int p3), .val (.int p4), .val (.int vsd), .val (.int vq), .val (.int vr), .val (.int vt), .val (.int vf), .val (.int vg), .unset, .unset, .unset, .unset, .unset, .unset]) rfl ?_
  show Goes p.tables e below (T0.setTop (mkF m 58 #[.val (.int p0), .val (.int p1), .val (.int p2), .val (.int p3), .val (.int p4), .val (.int vsd), .val (.int vq), .val (.int vr), .val (.int vt), .val (.int vf), .val (.int vg), .unset, .unset, .unset, .unset, .unset, .unset] [])) _
  have hrr := own_mod hsq (by omega) hvr
  have ht := own_tile hsq (by omega) hS16 hvt
  have hfr := own_mod hsq (by omega) hvf
  have hto := own_mod hsq (by omega) hvg
  show Goes p.tables e below (T0.setTop (mkF m 58 #[.val (.int p0), .val (.int p1), .val (.int p2), .val (.int p3), .val (.int p4), .val (.int vsd), .val (.int vq), .val (.int vr), .val (.int vt), .val (.int vf), .val (.int vg), .unset, .unset, .unset, .unset, .unset, .unset] [])) _
  refine g_bipush X0 hx (16 : Int32) (hb hby at_58) (by decide) ?_
  show Goes p.tables e below (T0.setTop (mkF m 60 #[.val (.int p0), .val (.int p1), .val (.int p2), .val (.int p3), .val (.int p4), .val (.int vsd), .val (.int vq), .val (.int vr), .val (.int vt), .val (.int vf), .val (.int vg), .unset, .unset, .unset, .unset, .unset, .unset] [(.int (16 : Int32))])) _
  refine g_newarr X0 hx hZ e0 (hw _ (List.mem_of_getElem? (i := 1) rfl)) (hb hby at_60) (n := 16) (by decide) 16 (by omega) (by decide) (by decide) (by decide) (ad := "[B") (by decide) rfl (fun T1 h1 a1 ga1 X1 e1 Ex1 Aa1 Ea1 => ?_)
  have ge2 : h0.size ≤ a1 := by rw [ga1]; exact Z0
  have Z3 : h0.size ≤ h1.size := Nat.le_trans Z0 Ex1.1
  have fx4 : Ar Z h1 a1 .byte [(.int (0 : Int32)), (.int (0 : Int32)), (.int (0 : Int32)), (.int (0 : Int32)), (.int (0 : Int32)), (.int (0 : Int32)), (.int (0 : Int32)), (.int (0 : Int32)), (.int (0 : Int32)), (.int (0 : Int32)), (.int (0 : Int32)), (.int (0 : Int32)), (.int (0 : Int32)), (.int (0 : Int32)), (.int (0 : Int32)), (.int (0 : Int32))] := Aa1
  show Goes p.tables e below (T1.setTop (mkF m 62 #[.val (.int p0), .val (.int p1), .val (.int p2), .val (.int p3), .val (.int p4), .val (.int vsd), .val (.int vq), .val (.int vr), .val (.int vt), .val (.int vf), .val (.int vg), .unset, .unset, .unset, .unset, .unset, .unset] [(.ref a1)])) _
  refine g_astore X1 hx (hb hby at_62) rfl (l' := #[.val (.int p0), .val (.int p1), .val (.int p2), .val (.int p3), .val (.int p4), .val (.int vsd), .val (.int vq), .val (.int vr), .val (.int vt), .val (.int vf), .val (.int vg), .val (.ref a1), .unset, .unset, .unset, .unset, .unset]) rfl ?_
  show Goes p.tables e below (T1.setTop (mkF m 64 #[.val (.int p0), .val (.int p1), .val (.int p2), .val (.int p3), .val (.int p4), .val (.int vsd), .val (.int vq), .val (.int vr), .val (.int vt), .val (.int vf), .val (.int vg), .val (.ref a1), .unset, .unset, .unset, .unset, .unset] [])) _
  refine g_aload X1 hx (hb hby at_64) rfl rfl ?_
  show Goes p.tables e below (T1.setTop (mkF m 66 #[.val (.int p0), .val (.int p1), .val (.int p2), .val (.int p3), .val (.int p4), .val (.int vsd), .val (.int vq), .val (.int vr), .val (.int vt), .val (.int vf), .val (.int vg), .val (.ref a1), .unset, .unset, .unset, .unset, .unset] [(.ref a1)])) _
  refine g_iconst X1 hx (0 : Int32) (hb hby at_66) rfl ?_
  show Goes p.tables e below (T1.setTop (mkF m 67 #[.val (.int p0), .val (.int p1), .val (.int p2), .val (.int p3), .val (.int p4), .val (.int vsd), .val (.int vq), .val (.int vr), .val (.int vt), .val (.int vf), .val (.int vg), .val (.ref a1), .unset, .unset, .unset, .unset, .unset] [(.int (0 : Int32)), (.ref a1)])) _
  refine g_iconst X1 hx (0 : Int32) (hb hby at_67) rfl ?_
  show Goes p.tables e below (T1.setTop (mkF m 68 #[.val (.int p0), .val (.int p1), .val (.int p2), .val (.int p3), .val (.int p4), .val (.int vsd), .val (.int vq), .val (.int vr), .val (.int vt), .val (.int vf), .val (.int vg), .val (.ref a1), .unset, .unset, .unset, .unset, .unset] [(.int (0 : Int32)), (.int (0 : Int32)), (.ref a1)])) _
  refine g_iload X1 hx (hb hby at_68) rfl ?_
  show Goes p.tables e below (T1.setTop (mkF m 70 #[.val (.int p0), .val (.int p1), .val (.int p2), .val (.int p3), .val (.int p4), .val (.int vsd), .val (.int vq), .val (.int vr), .val (.int vt), .val (.int vf), .val (.int vg), .val (.ref a1), .unset, .unset, .unset, .unset, .unset] [(.int vr), (.int (0 : Int32)), (.int (0 : Int32)), (.ref a1)])) _
  refine g_iload X1 hx (hb hby at_70) rfl ?_
  show Goes p.tables e below (T1.setTop (mkF m 72 #[.val (.int p0), .val (.int p1), .val (.int p2), .val (.int p3), .val (.int p4), .val (.int vsd), .val (.int vq), .val (.int vr), .val (.int vt), .val (.int vf), .val (.int vg), .val (.ref a1), .unset, .unset, .unset, .unset, .unset] [(.int vq), (.int vr), (.int (0 : Int32)), (.int (0 : Int32)), (.ref a1)])) _
  refine g_callS X1 hx hZ hown (by rw [hml]; rfl) e1 (hw _ (List.mem_of_getElem? (i := 2) rfl)) (hw _ (List.mem_of_getElem? (i := 3) rfl)) (hw _ (List.mem_of_getElem? (i := 4) rfl)) (hw _ (List.mem_of_getElem? (i := 5) rfl)) (rmRot l Z a0 hw (0 : Int32) vr vq h1 hnz) [(.int (0 : Int32)), (.int vr), (.int vq)] rfl [(.int (0 : Int32)), (.ref a1)] rfl (lenOf pd_1 rfl) (hb hby at_72) (by decide) 2 (by decide) (by decide) (by first | decide | exact Nat.le_refl _) (by decide) (by decide) (fun v T5 L5 X5 hQ5 => ?_)
  obtain ⟨rfl, e5, rfl⟩ := hQ5
  have N6 := Fr.app N0 (Fr.nil h0.size)
  show Goes p.tables e below (T5.setTop (mkF m 75 #[.val (.int p0), .val (.int p1), .val (.int p2), .val (.int p3), .val (.int p4), .val (.int vsd), .val (.int vq), .val (.int vr), .val (.int vt), .val (.int vf), .val (.int vg), .val (.ref a1), .unset, .unset, .unset, .unset, .unset] [(.int (rotV (0 : Int32) vr vq)), (.int (0 : Int32)), (.ref a1)])) _
  refine g_bastore X5 hx hZ e5 fx4 0 (by decide) (by show 0 < 16; decide) (rotV (0 : Int32) vr vq) (own_rotnar _ _ _) (hb hby at_75) (fun T7 h7 X7 e7 W7 A7 => ?_)
  have fx8 : Exa Z h7 a1 "[B" := Exa.wr W7 Ea1
  have fx9 : Ar Z h7 a1 .byte [(.int (rotV (0 : Int32) vr vq)), (.int (0 : Int32)), (.int (0 : Int32)), (.int (0 : Int32)), (.int (0 : Int32)), (.int (0 : Int32)), (.int (0 : Int32)), (.int (0 : Int32)), (.int (0 : Int32)), (.int (0 : Int32)), (.int (0 : Int32)), (.int (0 : Int32)), (.int (0 : Int32)), (.int (0 : Int32)), (.int (0 : Int32)), (.int (0 : Int32))] := A7
  have N10 := Fr.snoc X7 N6 ge2
  have Z11 : h0.size ≤ h7.size := by rw [W7.size]; exact Z3
  show Goes p.tables e below (T7.setTop (mkF m 76 #[.val (.int p0), .val (.int p1), .val (.int p2), .val (.int p3), .val (.int p4), .val (.int vsd), .val (.int vq), .val (.int vr), .val (.int vt), .val (.int vf), .val (.int vg), .val (.ref a1), .unset, .unset, .unset, .unset, .unset] [])) _
  refine g_aload X7 hx (hb hby at_76) rfl rfl ?_
  show Goes p.tables e below (T7.setTop (mkF m 78 #[.val (.int p0), .val (.int p1), .val (.int p2), .val (.int p3), .val (.int p4), .val (.int vsd), .val (.int vq), .val (.int vr), .val (.int vt), .val (.int vf), .val (.int vg), .val (.ref a1), .unset, .unset, .unset, .unset, .unset] [(.ref a1)])) _
  refine g_iconst X7 hx (1 : Int32) (hb hby at_78) rfl ?_
  show Goes p.tables e below (T7.setTop (mkF m 79 #[.val (.int p0), .val (.int p1), .val (.int p2), .val (.int p3), .val (.int p4), .val (.int vsd), .val (.int vq), .val (.int vr), .val (.int vt), .val (.int vf), .val (.int vg), .val (.ref a1), .unset, .unset, .unset, .unset, .unset] [(.int (1 : Int32)), (.ref a1)])) _
  refine g_iconst X7 hx (1 : Int32) (hb hby at_79) rfl ?_
  show Goes p.tables e below (T7.setTop (mkF m 80 #[.val (.int p0), .val (.int p1), .val (.int p2), .val (.int p3), .val (.int p4), .val (.int vsd), .val (.int vq), .val (.int vr), .val (.int vt), .val (.int vf), .val (.int vg), .val (.ref a1), .unset, .unset, .unset, .unset, .unset] [(.int (1 : Int32)), (.int (1 : Int32)), (.ref a1)])) _
  refine g_iload X7 hx (hb hby at_80) rfl ?_
  show Goes p.tables e below (T7.setTop (mkF m 82 #[.val (.int p0), .val (.int p1), .val (.int p2), .val (.int p3), .val (.int p4), .val (.int vsd), .val (.int vq), .val (.int vr), .val (.int vt), .val (.int vf), .val (.int vg), .val (.ref a1), .unset, .unset, .unset, .unset, .unset] [(.int vr), (.int (1 : Int32)), (.int (1 : Int32)), (.ref a1)])) _
  refine g_iload X7 hx (hb hby at_82) rfl ?_
  show Goes p.tables e below (T7.setTop (mkF m 84 #[.val (.int p0), .val (.int p1), .val (.int p2), .val (.int p3), .val (.int p4), .val (.int vsd), .val (.int vq), .val (.int vr), .val (.int vt), .val (.int vf), .val (.int vg), .val (.ref a1), .unset, .unset, .unset, .unset, .unset] [(.int vq), (.int vr), (.int (1 : Int32)), (.int (1 : Int32)), (.ref a1)])) _
  refine g_callS X7 hx hZ hown (by rw [hml]; rfl) e7 (hw _ (List.mem_of_getElem? (i := 2) rfl)) (hw _ (List.mem_of_getElem? (i := 3) rfl)) (hw _ (List.mem_of_getElem? (i := 4) rfl)) (hw _ (List.mem_of_getElem? (i := 5) rfl)) (rmRot l Z a0 hw (1 : Int32) vr vq h7 hnz) [(.int (1 : Int32)), (.int vr), (.int vq)] rfl [(.int (1 : Int32)), (.ref a1)] rfl (lenOf pd_1 rfl) (hb hby at_84) (by decide) 2 (by decide) (by decide) (by first | decide | exact Nat.le_refl _) (by decide) (by decide) (fun v T12 L12 X12 hQ12 => ?_)
  obtain ⟨rfl, e12, rfl⟩ := hQ12
  have N13 := Fr.app N10 (Fr.nil h0.size)
  show Goes p.tables e below (T12.setTop (mkF m 87 #[.val (.int p0), .val (.int p1), .val (.int p2), .val (.int p3), .val (.int p4), .val (.int vsd), .val (.int vq), .val (.int vr), .val (.int vt), .val (.int vf), .val (.int vg), .val (.ref a1), .unset, .unset, .unset, .unset, .unset] [(.int (rotV (1 : Int32) vr vq)), (.int (1 : Int32)), (.ref a1)])) _
  refine g_bastore X12 hx hZ e12 fx9 1 (by decide) (by show 1 < 16; decide) (rotV (1 : Int32) vr vq) (own_rotnar _ _ _) (hb hby at_87) (fun T14 h14 X14 e14 W14 A14 => ?_)
  have fx15 : Exa Z h14 a1 "[B" := Exa.wr W14 fx8
  have fx16 : Ar Z h14 a1 .byte [(.int (rotV (0 : Int32) vr vq)), (.int (rotV (1 : Int32) vr vq)), (.int (0 : Int32)), (.int (0 : Int32)), (.int (0 : Int32)), (.int (0 : Int32)), (.int (0 : Int32)), (.int (0 : Int32)), (.int (0 : Int32)), (.int (0 : Int32)), (.int (0 : Int32)), (.int (0 : Int32)), (.int (0 : Int32)), (.int (0 : Int32)), (.int (0 : Int32)), (.int (0 : Int32))] := A14
  have N17 := Fr.snoc X14 N13 ge2
  have Z18 : h0.size ≤ h14.size := by rw [W14.size]; exact Z11
  show Goes p.tables e below (T14.setTop (mkF m 88 #[.val (.int p0), .val (.int p1), .val (.int p2), .val (.int p3), .val (.int p4), .val (.int vsd), .val (.int vq), .val (.int vr), .val (.int vt), .val (.int vf), .val (.int vg), .val (.ref a1), .unset, .unset, .unset, .unset, .unset] [])) _
  refine g_aload X14 hx (hb hby at_88) rfl rfl ?_
  show Goes p.tables e below (T14.setTop (mkF m 90 #[.val (.int p0), .val (.int p1), .val (.int p2), .val (.int p3), .val (.int p4), .val (.int vsd), .val (.int vq), .val (.int vr), .val (.int vt), .val (.int vf), .val (.int vg), .val (.ref a1), .unset, .unset, .unset, .unset, .unset] [(.ref a1)])) _
  refine g_iconst X14 hx (2 : Int32) (hb hby at_90) rfl ?_
  show Goes p.tables e below (T14.setTop (mkF m 91 #[.val (.int p0), .val (.int p1), .val (.int p2), .val (.int p3), .val (.int p4), .val (.int vsd), .val (.int vq), .val (.int vr), .val (.int vt), .val (.int vf), .val (.int vg), .val (.ref a1), .unset, .unset, .unset, .unset, .unset] [(.int (2 : Int32)), (.ref a1)])) _
  refine g_iconst X14 hx (2 : Int32) (hb hby at_91) rfl ?_
  show Goes p.tables e below (T14.setTop (mkF m 92 #[.val (.int p0), .val (.int p1), .val (.int p2), .val (.int p3), .val (.int p4), .val (.int vsd), .val (.int vq), .val (.int vr), .val (.int vt), .val (.int vf), .val (.int vg), .val (.ref a1), .unset, .unset, .unset, .unset, .unset] [(.int (2 : Int32)), (.int (2 : Int32)), (.ref a1)])) _
  refine g_iload X14 hx (hb hby at_92) rfl ?_
  show Goes p.tables e below (T14.setTop (mkF m 94 #[.val (.int p0), .val (.int p1), .val (.int p2), .val (.int p3), .val (.int p4), .val (.int vsd), .val (.int vq), .val (.int vr), .val (.int vt), .val (.int vf), .val (.int vg), .val (.ref a1), .unset, .unset, .unset, .unset, .unset] [(.int vr), (.int (2 : Int32)), (.int (2 : Int32)), (.ref a1)])) _
  refine g_iload X14 hx (hb hby at_94) rfl ?_
  show Goes p.tables e below (T14.setTop (mkF m 96 #[.val (.int p0), .val (.int p1), .val (.int p2), .val (.int p3), .val (.int p4), .val (.int vsd), .val (.int vq), .val (.int vr), .val (.int vt), .val (.int vf), .val (.int vg), .val (.ref a1), .unset, .unset, .unset, .unset, .unset] [(.int vq), (.int vr), (.int (2 : Int32)), (.int (2 : Int32)), (.ref a1)])) _
  refine g_callS X14 hx hZ hown (by rw [hml]; rfl) e14 (hw _ (List.mem_of_getElem? (i := 2) rfl)) (hw _ (List.mem_of_getElem? (i := 3) rfl)) (hw _ (List.mem_of_getElem? (i := 4) rfl)) (hw _ (List.mem_of_getElem? (i := 5) rfl)) (rmRot l Z a0 hw (2 : Int32) vr vq h14 hnz) [(.int (2 : Int32)), (.int vr), (.int vq)] rfl [(.int (2 : Int32)), (.ref a1)] rfl (lenOf pd_1 rfl) (hb hby at_96) (by decide) 2 (by decide) (by decide) (by first | decide | exact Nat.le_refl _) (by decide) (by decide) (fun v T19 L19 X19 hQ19 => ?_)
  obtain ⟨rfl, e19, rfl⟩ := hQ19
  have N20 := Fr.app N17 (Fr.nil h0.size)
  show Goes p.tables e below (T19.setTop (mkF m 99 #[.val (.int p0), .val (.int p1), .val (.int p2), .val (.int p3), .val (.int p4), .val (.int vsd), .val (.int vq), .val (.int vr), .val (.int vt), .val (.int vf), .val (.int vg), .val (.ref a1), .unset, .unset, .unset, .unset, .unset] [(.int (rotV (2 : Int32) vr vq)), (.int (2 : Int32)), (.ref a1)])) _
  refine g_bastore X19 hx hZ e19 fx16 2 (by decide) (by show 2 < 16; decide) (rotV (2 : Int32) vr vq) (own_rotnar _ _ _) (hb hby at_99) (fun T21 h21 X21 e21 W21 A21 => ?_)
  have fx22 : Exa Z h21 a1 "[B" := Exa.wr W21 fx15
  have fx23 : Ar Z h21 a1 .byte [(.int (rotV (0 : Int32) vr vq)), (.int (rotV (1 : Int32) vr vq)), (.int (rotV (2 : Int32) vr vq)), (.int (0 : Int32)), (.int (0 : Int32)), (.int (0 : Int32)), (.int (0 : Int32)), (.int (0 : Int32)), (.int (0 : Int32)), (.int (0 : Int32)), (.int (0 : Int32)), (.int (0 : Int32)), (.int (0 : Int32)), (.int (0 : Int32)), (.int (0 : Int32)), (.int (0 : Int32))] := A21
  have N24 := Fr.snoc X21 N20 ge2
  have Z25 : h0.size ≤ h21.size := by rw [W21.size]; exact Z18
  show Goes p.tables e below (T21.setTop (mkF m 100 #[.val (.int p0), .val (.int p1), .val (.int p2), .val (.int p3), .val (.int p4), .val (.int vsd), .val (.int vq), .val (.int vr), .val (.int vt), .val (.int vf), .val (.int vg), .val (.ref a1), .unset, .unset, .unset, .unset, .unset] [])) _
  refine g_aload X21 hx (hb hby at_100) rfl rfl ?_
  show Goes p.tables e below (T21.setTop (mkF m 102 #[.val (.int p0), .val (.int p1), .val (.int p2), .val (.int p3), .val (.int p4), .val (.int vsd), .val (.int vq), .val (.int vr), .val (.int vt), .val (.int vf), .val (.int vg), .val (.ref a1), .unset, .unset, .unset, .unset, .unset] [(.ref a1)])) _
  refine g_iconst X21 hx (3 : Int32) (hb hby at_102) rfl ?_
  show Goes p.tables e below (T21.setTop (mkF m 103 #[.val (.int p0), .val (.int p1), .val (.int p2), .val (.int p3), .val (.int p4), .val (.int vsd), .val (.int vq), .val (.int vr), .val (.int vt), .val (.int vf), .val (.int vg), .val (.ref a1), .unset, .unset, .unset, .unset, .unset] [(.int (3 : Int32)), (.ref a1)])) _
  refine g_iconst X21 hx (3 : Int32) (hb hby at_103) rfl ?_
  show Goes p.tables e below (T21.setTop (mkF m 104 #[.val (.int p0), .val (.int p1), .val (.int p2), .val (.int p3), .val (.int p4), .val (.int vsd), .val (.int vq), .val (.int vr), .val (.int vt), .val (.int vf), .val (.int vg), .val (.ref a1), .unset, .unset, .unset, .unset, .unset] [(.int (3 : Int32)), (.int (3 : Int32)), (.ref a1)])) _
  refine g_iload X21 hx (hb hby at_104) rfl ?_
  show Goes p.tables e below (T21.setTop (mkF m 106 #[.val (.int p0), .val (.int p1), .val (.int p2), .val (.int p3), .val (.int p4), .val (.int vsd), .val (.int vq), .val (.int vr), .val (.int vt), .val (.int vf), .val (.int vg), .val (.ref a1), .unset, .unset, .unset, .unset, .unset] [(.int vr), (.int (3 : Int32)), (.int (3 : Int32)), (.ref a1)])) _
  refine g_iload X21 hx (hb hby at_106) rfl ?_
  show Goes p.tables e below (T21.setTop (mkF m 108 #[.val (.int p0), .val (.int p1), .val (.int p2), .val (.int p3), .val (.int p4), .val (.int vsd), .val (.int vq), .val (.int vr), .val (.int vt), .val (.int vf), .val (.int vg), .val (.ref a1), .unset, .unset, .unset, .unset, .unset] [(.int vq), (.int vr), (.int (3 : Int32)), (.int (3 : Int32)), (.ref a1)])) _
  refine g_callS X21 hx hZ hown (by rw [hml]; rfl) e21 (hw _ (List.mem_of_getElem? (i := 2) rfl)) (hw _ (List.mem_of_getElem? (i := 3) rfl)) (hw _ (List.mem_of_getElem? (i := 4) rfl)) (hw _ (List.mem_of_getElem? (i := 5) rfl)) (rmRot l Z a0 hw (3 : Int32) vr vq h21 hnz) [(.int (3 : Int32)), (.int vr), (.int vq)] rfl [(.int (3 : Int32)), (.ref a1)] rfl (lenOf pd_1 rfl) (hb hby at_108) (by decide) 2 (by decide) (by decide) (by first | decide | exact Nat.le_refl _) (by decide) (by decide) (fun v T26 L26 X26 hQ26 => ?_)
  obtain ⟨rfl, e26, rfl⟩ := hQ26
  have N27 := Fr.app N24 (Fr.nil h0.size)
  show Goes p.tables e below (T26.setTop (mkF m 111 #[.val (.int p0), .val (.int p1), .val (.int p2), .val (.int p3), .val (.int p4), .val (.int vsd), .val (.int vq), .val (.int vr), .val (.int vt), .val (.int vf), .val (.int vg), .val (.ref a1), .unset, .unset, .unset, .unset, .unset] [(.int (rotV (3 : Int32) vr vq)), (.int (3 : Int32)), (.ref a1)])) _
  refine g_bastore X26 hx hZ e26 fx23 3 (by decide) (by show 3 < 16; decide) (rotV (3 : Int32) vr vq) (own_rotnar _ _ _) (hb hby at_111) (fun T28 h28 X28 e28 W28 A28 => ?_)
  have fx29 : Exa Z h28 a1 "[B" := Exa.wr W28 fx22
  have fx30 : Ar Z h28 a1 .byte [(.int (rotV (0 : Int32) vr vq)), (.int (rotV (1 : Int32) vr vq)), (.int (rotV (2 : Int32) vr vq)), (.int (rotV (3 : Int32) vr vq)), (.int (0 : Int32)), (.int (0 : Int32)), (.int (0 : Int32)), (.int (0 : Int32)), (.int (0 : Int32)), (.int (0 : Int32)), (.int (0 : Int32)), (.int (0 : Int32)), (.int (0 : Int32)), (.int (0 : Int32)), (.int (0 : Int32)), (.int (0 : Int32))] := A28
  have N31 := Fr.snoc X28 N27 ge2
  have Z32 : h0.size ≤ h28.size := by rw [W28.size]; exact Z25
  show Goes p.tables e below (T28.setTop (mkF m 112 #[.val (.int p0), .val (.int p1), .val (.int p2), .val (.int p3), .val (.int p4), .val (.int vsd), .val (.int vq), .val (.int vr), .val (.int vt), .val (.int vf), .val (.int vg), .val (.ref a1), .unset, .unset, .unset, .unset, .unset] [])) _
  refine g_aload X28 hx (hb hby at_112) rfl rfl ?_
  show Goes p.tables e below (T28.setTop (mkF m 114 #[.val (.int p0), .val (.int p1), .val (.int p2), .val (.int p3), .val (.int p4), .val (.int vsd), .val (.int vq), .val (.int vr), .val (.int vt), .val (.int vf), .val (.int vg), .val (.ref a1), .unset, .unset, .unset, .unset, .unset] [(.ref a1)])) _
  refine g_iconst X28 hx (4 : Int32) (hb hby at_114) rfl ?_
  show Goes p.tables e below (T28.setTop (mkF m 115 #[.val (.int p0), .val (.int p1), .val (.int p2), .val (.int p3), .val (.int p4), .val (.int vsd), .val (.int vq), .val (.int vr), .val (.int vt), .val (.int vf), .val (.int vg), .val (.ref a1), .unset, .unset, .unset, .unset, .unset] [(.int (4 : Int32)), (.ref a1)])) _
  refine g_iconst X28 hx (4 : Int32) (hb hby at_115) rfl ?_
  show Goes p.tables e below (T28.setTop (mkF m 116 #[.val (.int p0), .val (.int p1), .val (.int p2), .val (.int p3), .val (.int p4), .val (.int vsd), .val (.int vq), .val (.int vr), .val (.int vt), .val (.int vf), .val (.int vg), .val (.ref a1), .unset, .unset, .unset, .unset, .unset] [(.int (4 : Int32)), (.int (4 : Int32)), (.ref a1)])) _
  refine g_iload X28 hx (hb hby at_116) rfl ?_
  show Goes p.tables e below (T28.setTop (mkF m 118 #[.val (.int p0), .val (.int p1), .val (.int p2), .val (.int p3), .val (.int p4), .val (.int vsd), .val (.int vq), .val (.int vr), .val (.int vt), .val (.int vf), .val (.int vg), .val (.ref a1), .unset, .unset, .unset, .unset, .unset] [(.int vr), (.int (4 : Int32)), (.int (4 : Int32)), (.ref a1)])) _
  refine g_iload X28 hx (hb hby at_118) rfl ?_
  show Goes p.tables e below (T28.setTop (mkF m 120 #[.val (.int p0), .val (.int p1), .val (.int p2), .val (.int p3), .val (.int p4), .val (.int vsd), .val (.int vq), .val (.int vr), .val (.int vt), .val (.int vf), .val (.int vg), .val (.ref a1), .unset, .unset, .unset, .unset, .unset] [(.int vq), (.int vr), (.int (4 : Int32)), (.int (4 : Int32)), (.ref a1)])) _
  refine g_callS X28 hx hZ hown (by rw [hml]; rfl) e28 (hw _ (List.mem_of_getElem? (i := 2) rfl)) (hw _ (List.mem_of_getElem? (i := 3) rfl)) (hw _ (List.mem_of_getElem? (i := 4) rfl)) (hw _ (List.mem_of_getElem? (i := 5) rfl)) (rmRot l Z a0 hw (4 : Int32) vr vq h28 hnz) [(.int (4 : Int32)), (.int vr), (.int vq)] rfl [(.int (4 : Int32)), (.ref a1)] rfl (lenOf pd_1 rfl) (hb hby at_120) (by decide) 2 (by decide) (by decide) (by first | decide | exact Nat.le_refl _) (by decide) (by decide) (fun v T33 L33 X33 hQ33 => ?_)
  obtain ⟨rfl, e33, rfl⟩ := hQ33
  have N34 := Fr.app N31 (Fr.nil h0.size)
  show Goes p.tables e below (T33.setTop (mkF m 123 #[.val (.int p0), .val (.int p1), .val (.int p2), .val (.int p3), .val (.int p4), .val (.int vsd), .val (.int vq), .val (.int vr), .val (.int vt), .val (.int vf), .val (.int vg), .val (.ref a1), .unset, .unset, .unset, .unset, .unset] [(.int (rotV (4 : Int32) vr vq)), (.int (4 : Int32)), (.ref a1)])) _
  refine g_bastore X33 hx hZ e33 fx30 4 (by decide) (by show 4 < 16; decide) (rotV (4 : Int32) vr vq) (own_rotnar _ _ _) (hb hby at_123) (fun T35 h35 X35 e35 W35 A35 => ?_)
  have fx36 : Exa Z h35 a1 "[B" := Exa.wr W35 fx29
  have fx37 : Ar Z h35 a1 .byte [(.int (rotV (0 : Int32) vr vq)), (.int (rotV (1 : Int32) vr vq)), (.int (rotV (2 : Int32) vr vq)), (.int (rotV (3 : Int32) vr vq)), (.int (rotV (4 : Int32) vr vq)), (.int (0 : Int32)), (.int (0 : Int32)), (.int (0 : Int32)), (.int (0 : Int32)), (.int (0 : Int32)), (.int (0 : Int32)), (.int (0 : Int32)), (.int (0 : Int32)), (.int (0 : Int32)), (.int (0 : Int32)), (.int (0 : Int32))] := A35
  have N38 := Fr.snoc X35 N34 ge2
  have Z39 : h0.size ≤ h35.size := by rw [W35.size]; exact Z32
  show Goes p.tables e below (T35.setTop (mkF m 124 #[.val (.int p0), .val (.int p1), .val (.int p2), .val (.int p3), .val (.int p4), .val (.int vsd), .val (.int vq), .val (.int vr), .val (.int vt), .val (.int vf), .val (.int vg), .val (.ref a1), .unset, .unset, .unset, .unset, .unset] [])) _
  refine g_aload X35 hx (hb hby at_124) rfl rfl ?_
  show Goes p.tables e below (T35.setTop (mkF m 126 #[.val (.int p0), .val (.int p1), .val (.int p2), .val (.int p3), .val (.int p4), .val (.int vsd), .val (.int vq), .val (.int vr), .val (.int vt), .val (.int vf), .val (.int vg), .val (.ref a1), .unset, .unset, .unset, .unset, .unset] [(.ref a1)])) _
  refine g_iconst X35 hx (5 : Int32) (hb hby at_126) rfl ?_
  show Goes p.tables e below (T35.setTop (mkF m 127 #[.val (.int p0), .val (.int p1), .val (.int p2), .val (.int p3), .val (.int p4), .val (.int vsd), .val (.int vq), .val (.int vr), .val (.int vt), .val (.int vf), .val (.int vg), .val (.ref a1), .unset, .unset, .unset, .unset, .unset] [(.int (5 : Int32)), (.ref a1)])) _
  refine g_iconst X35 hx (5 : Int32) (hb hby at_127) rfl ?_
  show Goes p.tables e below (T35.setTop (mkF m 128 #[.val (.int p0), .val (.int p1), .val (.int p2), .val (.int p3), .val (.int p4), .val (.int vsd), .val (.int vq), .val (.int vr), .val (.int vt), .val (.int vf), .val (.int vg), .val (.ref a1), .unset, .unset, .unset, .unset, .unset] [(.int (5 : Int32)), (.int (5 : Int32)), (.ref a1)])) _
  refine g_iload X35 hx (hb hby at_128) rfl ?_
  show Goes p.tables e below (T35.setTop (mkF m 130 #[.val (.int p0), .val (.int p1), .val (.int p2), .val (.int p3), .val (.int p4), .val (.int vsd), .val (.int vq), .val (.int vr), .val (.int vt), .val (.int vf), .val (.int vg), .val (.ref a1), .unset, .unset, .unset, .unset, .unset] [(.int vr), (.int (5 : Int32)), (.int (5 : Int32)), (.ref a1)])) _
  refine g_iload X35 hx (hb hby at_130) rfl ?_
  show Goes p.tables e below (T35.setTop (mkF m 132 #[.val (.int p0), .val (.int p1), .val (.int p2), .val (.int p3), .val (.int p4), .val (.int vsd), .val (.int vq), .val (.int vr), .val (.int vt), .val (.int vf), .val (.int vg), .val (.ref a1), .unset, .unset, .unset, .unset, .unset] [(.int vq), (.int vr), (.int (5 : Int32)), (.int (5 : Int32)), (.ref a1)])) _
  refine g_callS X35 hx hZ hown (by rw [hml]; rfl) e35 (hw _ (List.mem_of_getElem? (i := 2) rfl)) (hw _ (List.mem_of_getElem? (i := 3) rfl)) (hw _ (List.mem_of_getElem? (i := 4) rfl)) (hw _ (List.mem_of_getElem? (i := 5) rfl)) (rmRot l Z a0 hw (5 : Int32) vr vq h35 hnz) [(.int (5 : Int32)), (.int vr), (.int vq)] rfl [(.int (5 : Int32)), (.ref a1)] rfl (lenOf pd_1 rfl) (hb hby at_132) (by decide) 2 (by decide) (by decide) (by first | decide | exact Nat.le_refl _) (by decide) (by decide) (fun v T40 L40 X40 hQ40 => ?_)
  obtain ⟨rfl, e40, rfl⟩ := hQ40
  have N41 := Fr.app N38 (Fr.nil h0.size)
  show Goes p.tables e below (T40.setTop (mkF m 135 #[.val (.int p0), .val (.int p1), .val (.int p2), .val (.int p3), .val (.int p4), .val (.int vsd), .val (.int vq), .val (.int vr), .val (.int vt), .val (.int vf), .val (.int vg), .val (.ref a1), .unset, .unset, .unset, .unset, .unset] [(.int (rotV (5 : Int32) vr vq)), (.int (5 : Int32)), (.ref a1)])) _
  refine g_bastore X40 hx hZ e40 fx37 5 (by decide) (by show 5 < 16; decide) (rotV (5 : Int32) vr vq) (own_rotnar _ _ _) (hb hby at_135) (fun T42 h42 X42 e42 W42 A42 => ?_)
  have fx43 : Exa Z h42 a1 "[B" := Exa.wr W42 fx36
  have fx44 : Ar Z h42 a1 .byte [(.int (rotV (0 : Int32) vr vq)), (.int (rotV (1 : Int32) vr vq)), (.int (rotV (2 : Int32) vr vq)), (.int (rotV (3 : Int32) vr vq)), (.int (rotV (4 : Int32) vr vq)), (.int (rotV (5 : Int32) vr vq)), (.int (0 : Int32)), (.int (0 : Int32)), (.int (0 : Int32)), (.int (0 : Int32)), (.int (0 : Int32)), (.int (0 : Int32)), (.int (0 : Int32)), (.int (0 : Int32)), (.int (0 : Int32)), (.int (0 : Int32))] := A42
  have N45 := Fr.snoc X42 N41 ge2
  have Z46 : h0.size ≤ h42.size := by rw [W42.size]; exact Z39
  show Goes p.tables e below (T42.setTop (mkF m 136 #[.val (.int p0), .val (.int p1), .val (.int p2), .val (.int p3), .val (.int p4), .val (.int vsd), .val (.int vq), .val (.int vr), .val (.int vt), .val (.int vf), .val (.int vg), .val (.ref a1), .unset, .unset, .unset, .unset, .unset] [])) _
  refine g_aload X42 hx (hb hby at_136) rfl rfl ?_
  show Goes p.tables e below (T42.setTop (mkF m 138 #[.val (.int p0), .val (.int p1), .val (.int p2), .val (.int p3), .val (.int p4), .val (.int vsd), .val (.int vq), .val (.int vr), .val (.int vt), .val (.int vf), .val (.int vg), .val (.ref a1), .unset, .unset, .unset, .unset, .unset] [(.ref a1)])) _
  refine g_bipush X42 hx (6 : Int32) (hb hby at_138) (by decide) ?_
  show Goes p.tables e below (T42.setTop (mkF m 140 #[.val (.int p0), .val (.int p1), .val (.int p2), .val (.int p3), .val (.int p4), .val (.int vsd), .val (.int vq), .val (.int vr), .val (.int vt), .val (.int vf), .val (.int vg), .val (.ref a1), .unset, .unset, .unset, .unset, .unset] [(.int (6 : Int32)), (.ref a1)])) _
  refine g_bipush X42 hx (6 : Int32) (hb hby at_140) (by decide) ?_
  show Goes p.tables e below (T42.setTop (mkF m 142 #[.val (.int p0), .val (.int p1), .val (.int p2), .val (.int p3), .val (.int p4), .val (.int vsd), .val (.int vq), .val (.int vr), .val (.int vt), .val (.int vf), .val (.int vg), .val (.ref a1), .unset, .unset, .unset, .unset, .unset] [(.int (6 : Int32)), (.int (6 : Int32)), (.ref a1)])) _
  refine g_iload X42 hx (hb hby at_142) rfl ?_
  show Goes p.tables e below (T42.setTop (mkF m 144 #[.val (.int p0), .val (.int p1), .val (.int p2), .val (.int p3), .val (.int p4), .val (.int vsd), .val (.int vq), .val (.int vr), .val (.int vt), .val (.int vf), .val (.int vg), .val (.ref a1), .unset, .unset, .unset, .unset, .unset] [(.int vr), (.int (6 : Int32)), (.int (6 : Int32)), (.ref a1)])) _
  refine g_iload X42 hx (hb hby at_144) rfl ?_
  show Goes p.tables e below (T42.setTop (mkF m 146 #[.val (.int p0), .val (.int p1), .val (.int p2), .val (.int p3), .val (.int p4), .val (.int vsd), .val (.int vq), .val (.int vr), .val (.int vt), .val (.int vf), .val (.int vg), .val (.ref a1), .unset, .unset, .unset, .unset, .unset] [(.int vq), (.int vr), (.int (6 : Int32)), (.int (6 : Int32)), (.ref a1)])) _
  refine g_callS X42 hx hZ hown (by rw [hml]; rfl) e42 (hw _ (List.mem_of_getElem? (i := 2) rfl)) (hw _ (List.mem_of_getElem? (i := 3) rfl)) (hw _ (List.mem_of_getElem? (i := 4) rfl)) (hw _ (List.mem_of_getElem? (i := 5) rfl)) (rmRot l Z a0 hw (6 : Int32) vr vq h42 hnz) [(.int (6 : Int32)), (.int vr), (.int vq)] rfl [(.int (6 : Int32)), (.ref a1)] rfl (lenOf pd_1 rfl) (hb hby at_146) (by decide) 2 (by decide) (by decide) (by first | decide | exact Nat.le_refl _) (by decide) (by decide) (fun v T47 L47 X47 hQ47 => ?_)
  obtain ⟨rfl, e47, rfl⟩ := hQ47
  have N48 := Fr.app N45 (Fr.nil h0.size)
  show Goes p.tables e below (T47.setTop (mkF m 149 #[.val (.int p0), .val (.int p1), .val (.int p2), .val (.int p3), .val (.int p4), .val (.int vsd), .val (.int vq), .val (.int vr), .val (.int vt), .val (.int vf), .val (.int vg), .val (.ref a1), .unset, .unset, .unset, .unset, .unset] [(.int (rotV (6 : Int32) vr vq)), (.int (6 : Int32)), (.ref a1)])) _
  refine g_bastore X47 hx hZ e47 fx44 6 (by decide) (by show 6 < 16; decide) (rotV (6 : Int32) vr vq) (own_rotnar _ _ _) (hb hby at_149) (fun T49 h49 X49 e49 W49 A49 => ?_)
  have fx50 : Exa Z h49 a1 "[B" := Exa.wr W49 fx43
  have fx51 : Ar Z h49 a1 .byte [(.int (rotV (0 : Int32) vr vq)), (.int (rotV (1 : Int32) vr vq)), (.int (rotV (2 : Int32) vr vq)), (.int (rotV (3 : Int32) vr vq)), (.int (rotV (4 : Int32) vr vq)), (.int (rotV (5 : Int32) vr vq)), (.int (rotV (6 : Int32) vr vq)), (.int (0 : Int32)), (.int (0 : Int32)), (.int (0 : Int32)), (.int (0 : Int32)), (.int (0 : Int32)), (.int (0 : Int32)), (.int (0 : Int32)), (.int (0 : Int32)), (.int (0 : Int32))] := A49
  have N52 := Fr.snoc X49 N48 ge2
  have Z53 : h0.size ≤ h49.size := by rw [W49.size]; exact Z46
  show Goes p.tables e below (T49.setTop (mkF m 150 #[.val (.int p0), .val (.int p1), .val (.int p2), .val (.int p3), .val (.int p4), .val (.int vsd), .val (.int vq), .val (.int vr), .val (.int vt), .val (.int vf), .val (.int vg), .val (.ref a1), .unset, .unset, .unset, .unset, .unset] [])) _
  refine g_aload X49 hx (hb hby at_150) rfl rfl ?_
  show Goes p.tables e below (T49.setTop (mkF m 152 #[.val (.int p0), .val (.int p1), .val (.int p2), .val (.int p3), .val (.int p4), .val (.int vsd), .val (.int vq), .val (.int vr), .val (.int vt), .val (.int vf), .val (.int vg), .val (.ref a1), .unset, .unset, .unset, .unset, .unset] [(.ref a1)])) _
  refine g_bipush X49 hx (7 : Int32) (hb hby at_152) (by decide) ?_
  show Goes p.tables e below (T49.setTop (mkF m 154 #[.val (.int p0), .val (.int p1), .val (.int p2), .val (.int p3), .val (.int p4), .val (.int vsd), .val (.int vq), .val (.int vr), .val (.int vt), .val (.int vf), .val (.int vg), .val (.ref a1), .unset, .unset, .unset, .unset, .unset] [(.int (7 : Int32)), (.ref a1)])) _
  refine g_bipush X49 hx (7 : Int32) (hb hby at_154) (by decide) ?_
  show Goes p.tables e below (T49.setTop (mkF m 156 #[.val (.int p0), .val (.int p1), .val (.int p2), .val (.int p3), .val (.int p4), .val (.int vsd), .val (.int vq), .val (.int vr), .val (.int vt), .val (.int vf), .val (.int vg), .val (.ref a1), .unset, .unset, .unset, .unset, .unset] [(.int (7 : Int32)), (.int (7 : Int32)), (.ref a1)])) _
  refine g_iload X49 hx (hb hby at_156) rfl ?_
  show Goes p.tables e below (T49.setTop (mkF m 158 #[.val (.int p0), .val (.int p1), .val (.int p2), .val (.int p3), .val (.int p4), .val (.int vsd), .val (.int vq), .val (.int vr), .val (.int vt), .val (.int vf), .val (.int vg), .val (.ref a1), .unset, .unset, .unset, .unset, .unset] [(.int vr), (.int (7 : Int32)), (.int (7 : Int32)), (.ref a1)])) _
  refine g_iload X49 hx (hb hby at_158) rfl ?_
  show Goes p.tables e below (T49.setTop (mkF m 160 #[.val (.int p0), .val (.int p1), .val (.int p2), .val (.int p3), .val (.int p4), .val (.int vsd), .val (.int vq), .val (.int vr), .val (.int vt), .val (.int vf), .val (.int vg), .val (.ref a1), .unset, .unset, .unset, .unset, .unset] [(.int vq), (.int vr), (.int (7 : Int32)), (.int (7 : Int32)), (.ref a1)])) _
  refine g_callS X49 hx hZ hown (by rw [hml]; rfl) e49 (hw _ (List.mem_of_getElem? (i := 2) rfl)) (hw _ (List.mem_of_getElem? (i := 3) rfl)) (hw _ (List.mem_of_getElem? (i := 4) rfl)) (hw _ (List.mem_of_getElem? (i := 5) rfl)) (rmRot l Z a0 hw (7 : Int32) vr vq h49 hnz) [(.int (7 : Int32)), (.int vr), (.int vq)] rfl [(.int (7 : Int32)), (.ref a1)] rfl (lenOf pd_1 rfl) (hb hby at_160) (by decide) 2 (by decide) (by decide) (by first | decide | exact Nat.le_refl _) (by decide) (by decide) (fun v T54 L54 X54 hQ54 => ?_)
  obtain ⟨rfl, e54, rfl⟩ := hQ54
  have N55 := Fr.app N52 (Fr.nil h0.size)
  show Goes p.tables e below (T54.setTop (mkF m 163 #[.val (.int p0), .val (.int p1), .val (.int p2), .val (.int p3), .val (.int p4), .val (.int vsd), .val (.int vq), .val (.int vr), .val (.int vt), .val (.int vf), .val (.int vg), .val (.ref a1), .unset, .unset, .unset, .unset, .unset] [(.int (rotV (7 : Int32) vr vq)), (.int (7 : Int32)), (.ref a1)])) _
  refine g_bastore X54 hx hZ e54 fx51 7 (by decide) (by show 7 < 16; decide) (rotV (7 : Int32) vr vq) (own_rotnar _ _ _) (hb hby at_163) (fun T56 h56 X56 e56 W56 A56 => ?_)
  have fx57 : Exa Z h56 a1 "[B" := Exa.wr W56 fx50
  have fx58 : Ar Z h56 a1 .byte [(.int (rotV (0 : Int32) vr vq)), (.int (rotV (1 : Int32) vr vq)), (.int (rotV (2 : Int32) vr vq)), (.int (rotV (3 : Int32) vr vq)), (.int (rotV (4 : Int32) vr vq)), (.int (rotV (5 : Int32) vr vq)), (.int (rotV (6 : Int32) vr vq)), (.int (rotV (7 : Int32) vr vq)), (.int (0 : Int32)), (.int (0 : Int32)), (.int (0 : Int32)), (.int (0 : Int32)), (.int (0 : Int32)), (.int (0 : Int32)), (.int (0 : Int32)), (.int (0 : Int32))] := A56
  have N59 := Fr.snoc X56 N55 ge2
  have Z60 : h0.size ≤ h56.size := by rw [W56.size]; exact Z53
  show Goes p.tables e below (T56.setTop (mkF m 164 #[.val (.int p0), .val (.int p1), .val (.int p2), .val (.int p3), .val (.int p4), .val (.int vsd), .val (.int vq), .val (.int vr), .val (.int vt), .val (.int vf), .val (.int vg), .val (.ref a1), .unset, .unset, .unset, .unset, .unset] [])) _
  refine g_aload X56 hx (hb hby at_164) rfl rfl ?_
  show Goes p.tables e below (T56.setTop (mkF m 166 #[.val (.int p0), .val (.int p1), .val (.int p2), .val (.int p3), .val (.int p4), .val (.int vsd), .val (.int vq), .val (.int vr), .val (.int vt), .val (.int vf), .val (.int vg), .val (.ref a1), .unset, .unset, .unset, .unset, .unset] [(.ref a1)])) _
  refine g_bipush X56 hx (8 : Int32) (hb hby at_166) (by decide) ?_
  show Goes p.tables e below (T56.setTop (mkF m 168 #[.val (.int p0), .val (.int p1), .val (.int p2), .val (.int p3), .val (.int p4), .val (.int vsd), .val (.int vq), .val (.int vr), .val (.int vt), .val (.int vf), .val (.int vg), .val (.ref a1), .unset, .unset, .unset, .unset, .unset] [(.int (8 : Int32)), (.ref a1)])) _
  refine g_bipush X56 hx (8 : Int32) (hb hby at_168) (by decide) ?_
  show Goes p.tables e below (T56.setTop (mkF m 170 #[.val (.int p0), .val (.int p1), .val (.int p2), .val (.int p3), .val (.int p4), .val (.int vsd), .val (.int vq), .val (.int vr), .val (.int vt), .val (.int vf), .val (.int vg), .val (.ref a1), .unset, .unset, .unset, .unset, .unset] [(.int (8 : Int32)), (.int (8 : Int32)), (.ref a1)])) _
  refine g_iload X56 hx (hb hby at_170) rfl ?_
  show Goes p.tables e below (T56.setTop (mkF m 172 #[.val (.int p0), .val (.int p1), .val (.int p2), .val (.int p3), .val (.int p4), .val (.int vsd), .val (.int vq), .val (.int vr), .val (.int vt), .val (.int vf), .val (.int vg), .val (.ref a1), .unset, .unset, .unset, .unset, .unset] [(.int vr), (.int (8 : Int32)), (.int (8 : Int32)), (.ref a1)])) _
  refine g_iload X56 hx (hb hby at_172) rfl ?_
  show Goes p.tables e below (T56.setTop (mkF m 174 #[.val (.int p0), .val (.int p1), .val (.int p2), .val (.int p3), .val (.int p4), .val (.int vsd), .val (.int vq), .val (.int vr), .val (.int vt), .val (.int vf), .val (.int vg), .val (.ref a1), .unset, .unset, .unset, .unset, .unset] [(.int vq), (.int vr), (.int (8 : Int32)), (.int (8 : Int32)), (.ref a1)])) _
  refine g_callS X56 hx hZ hown (by rw [hml]; rfl) e56 (hw _ (List.mem_of_getElem? (i := 2) rfl)) (hw _ (List.mem_of_getElem? (i := 3) rfl)) (hw _ (List.mem_of_getElem? (i := 4) rfl)) (hw _ (List.mem_of_getElem? (i := 5) rfl)) (rmRot l Z a0 hw (8 : Int32) vr vq h56 hnz) [(.int (8 : Int32)), (.int vr), (.int vq)] rfl [(.int (8 : Int32)), (.ref a1)] rfl (lenOf pd_1 rfl) (hb hby at_174) (by decide) 2 (by decide) (by decide) (by first | decide | exact Nat.le_refl _) (by decide) (by decide) (fun v T61 L61 X61 hQ61 => ?_)
  obtain ⟨rfl, e61, rfl⟩ := hQ61
  have N62 := Fr.app N59 (Fr.nil h0.size)
  show Goes p.tables e below (T61.setTop (mkF m 177 #[.val (.int p0), .val (.int p1), .val (.int p2), .val (.int p3), .val (.int p4), .val (.int vsd), .val (.int vq), .val (.int vr), .val (.int vt), .val (.int vf), .val (.int vg), .val (.ref a1), .unset, .unset, .unset, .unset, .unset] [(.int (rotV (8 : Int32) vr vq)), (.int (8 : Int32)), (.ref a1)])) _
  refine g_bastore X61 hx hZ e61 fx58 8 (by decide) (by show 8 < 16; decide) (rotV (8 : Int32) vr vq) (own_rotnar _ _ _) (hb hby at_177) (fun T63 h63 X63 e63 W63 A63 => ?_)
  have fx64 : Exa Z h63 a1 "[B" := Exa.wr W63 fx57
  have fx65 : Ar Z h63 a1 .byte [(.int (rotV (0 : Int32) vr vq)), (.int (rotV (1 : Int32) vr vq)), (.int (rotV (2 : Int32) vr vq)), (.int (rotV (3 : Int32) vr vq)), (.int (rotV (4 : Int32) vr vq)), (.int (rotV (5 : Int32) vr vq)), (.int (rotV (6 : Int32) vr vq)), (.int (rotV (7 : Int32) vr vq)), (.int (rotV (8 : Int32) vr vq)), (.int (0 : Int32)), (.int (0 : Int32)), (.int (0 : Int32)), (.int (0 : Int32)), (.int (0 : Int32)), (.int (0 : Int32)), (.int (0 : Int32))] := A63
  have N66 := Fr.snoc X63 N62 ge2
  have Z67 : h0.size ≤ h63.size := by rw [W63.size]; exact Z60
  show Goes p.tables e below (T63.setTop (mkF m 178 #[.val (.int p0), .val (.int p1), .val (.int p2), .val (.int p3), .val (.int p4), .val (.int vsd), .val (.int vq), .val (.int vr), .val (.int vt), .val (.int vf), .val (.int vg), .val (.ref a1), .unset, .unset, .unset, .unset, .unset] [])) _
  refine g_aload X63 hx (hb hby at_178) rfl rfl ?_
  show Goes p.tables e below (T63.setTop (mkF m 180 #[.val (.int p0), .val (.int p1), .val (.int p2), .val (.int p3), .val (.int p4), .val (.int vsd), .val (.int vq), .val (.int vr), .val (.int vt), .val (.int vf), .val (.int vg), .val (.ref a1), .unset, .unset, .unset, .unset, .unset] [(.ref a1)])) _
  refine g_bipush X63 hx (9 : Int32) (hb hby at_180) (by decide) ?_
  show Goes p.tables e below (T63.setTop (mkF m 182 #[.val (.int p0), .val (.int p1), .val (.int p2), .val (.int p3), .val (.int p4), .val (.int vsd), .val (.int vq), .val (.int vr), .val (.int vt), .val (.int vf), .val (.int vg), .val (.ref a1), .unset, .unset, .unset, .unset, .unset] [(.int (9 : Int32)), (.ref a1)])) _
  refine g_bipush X63 hx (9 : Int32) (hb hby at_182) (by decide) ?_
  show Goes p.tables e below (T63.setTop (mkF m 184 #[.val (.int p0), .val (.int p1), .val (.int p2), .val (.int p3), .val (.int p4), .val (.int vsd), .val (.int vq), .val (.int vr), .val (.int vt), .val (.int vf), .val (.int vg), .val (.ref a1), .unset, .unset, .unset, .unset, .unset] [(.int (9 : Int32)), (.int (9 : Int32)), (.ref a1)])) _
  refine g_iload X63 hx (hb hby at_184) rfl ?_
  show Goes p.tables e below (T63.setTop (mkF m 186 #[.val (.int p0), .val (.int p1), .val (.int p2), .val (.int p3), .val (.int p4), .val (.int vsd), .val (.int vq), .val (.int vr), .val (.int vt), .val (.int vf), .val (.int vg), .val (.ref a1), .unset, .unset, .unset, .unset, .unset] [(.int vr), (.int (9 : Int32)), (.int (9 : Int32)), (.ref a1)])) _
  refine g_iload X63 hx (hb hby at_186) rfl ?_
  show Goes p.tables e below (T63.setTop (mkF m 188 #[.val (.int p0), .val (.int p1), .val (.int p2), .val (.int p3), .val (.int p4), .val (.int vsd), .val (.int vq), .val (.int vr), .val (.int vt), .val (.int vf), .val (.int vg), .val (.ref a1), .unset, .unset, .unset, .unset, .unset] [(.int vq), (.int vr), (.int (9 : Int32)), (.int (9 : Int32)), (.ref a1)])) _
  refine g_callS X63 hx hZ hown (by rw [hml]; rfl) e63 (hw _ (List.mem_of_getElem? (i := 2) rfl)) (hw _ (List.mem_of_getElem? (i := 3) rfl)) (hw _ (List.mem_of_getElem? (i := 4) rfl)) (hw _ (List.mem_of_getElem? (i := 5) rfl)) (rmRot l Z a0 hw (9 : Int32) vr vq h63 hnz) [(.int (9 : Int32)), (.int vr), (.int vq)] rfl [(.int (9 : Int32)), (.ref a1)] rfl (lenOf pd_1 rfl) (hb hby at_188) (by decide) 2 (by decide) (by decide) (by first | decide | exact Nat.le_refl _) (by decide) (by decide) (fun v T68 L68 X68 hQ68 => ?_)
  obtain ⟨rfl, e68, rfl⟩ := hQ68
  have N69 := Fr.app N66 (Fr.nil h0.size)
  show Goes p.tables e below (T68.setTop (mkF m 191 #[.val (.int p0), .val (.int p1), .val (.int p2), .val (.int p3), .val (.int p4), .val (.int vsd), .val (.int vq), .val (.int vr), .val (.int vt), .val (.int vf), .val (.int vg), .val (.ref a1), .unset, .unset, .unset, .unset, .unset] [(.int (rotV (9 : Int32) vr vq)), (.int (9 : Int32)), (.ref a1)])) _
  refine g_bastore X68 hx hZ e68 fx65 9 (by decide) (by show 9 < 16; decide) (rotV (9 : Int32) vr vq) (own_rotnar _ _ _) (hb hby at_191) (fun T70 h70 X70 e70 W70 A70 => ?_)
  have fx71 : Exa Z h70 a1 "[B" := Exa.wr W70 fx64
  have fx72 : Ar Z h70 a1 .byte [(.int (rotV (0 : Int32) vr vq)), (.int (rotV (1 : Int32) vr vq)), (.int (rotV (2 : Int32) vr vq)), (.int (rotV (3 : Int32) vr vq)), (.int (rotV (4 : Int32) vr vq)), (.int (rotV (5 : Int32) vr vq)), (.int (rotV (6 : Int32) vr vq)), (.int (rotV (7 : Int32) vr vq)), (.int (rotV (8 : Int32) vr vq)), (.int (rotV (9 : Int32) vr vq)), (.int (0 : Int32)), (.int (0 : Int32)), (.int (0 : Int32)), (.int (0 : Int32)), (.int (0 : Int32)), (.int (0 : Int32))] := A70
  have N73 := Fr.snoc X70 N69 ge2
  have Z74 : h0.size ≤ h70.size := by rw [W70.size]; exact Z67
  show Goes p.tables e below (T70.setTop (mkF m 192 #[.val (.int p0), .val (.int p1), .val (.int p2), .val (.int p3), .val (.int p4), .val (.int vsd), .val (.int vq), .val (.int vr), .val (.int vt), .val (.int vf), .val (.int vg), .val (.ref a1), .unset, .unset, .unset, .unset, .unset] [])) _
  refine g_aload X70 hx (hb hby at_192) rfl rfl ?_
  show Goes p.tables e below (T70.setTop (mkF m 194 #[.val (.int p0), .val (.int p1), .val (.int p2), .val (.int p3), .val (.int p4), .val (.int vsd), .val (.int vq), .val (.int vr), .val (.int vt), .val (.int vf), .val (.int vg), .val (.ref a1), .unset, .unset, .unset, .unset, .unset] [(.ref a1)])) _
  refine g_bipush X70 hx (10 : Int32) (hb hby at_194) (by decide) ?_
  show Goes p.tables e below (T70.setTop (mkF m 196 #[.val (.int p0), .val (.int p1), .val (.int p2), .val (.int p3), .val (.int p4), .val (.int vsd), .val (.int vq), .val (.int vr), .val (.int vt), .val (.int vf), .val (.int vg), .val (.ref a1), .unset, .unset, .unset, .unset, .unset] [(.int (10 : Int32)), (.ref a1)])) _
  refine g_bipush X70 hx (10 : Int32) (hb hby at_196) (by decide) ?_
  show Goes p.tables e below (T70.setTop (mkF m 198 #[.val (.int p0), .val (.int p1), .val (.int p2), .val (.int p3), .val (.int p4), .val (.int vsd), .val (.int vq), .val (.int vr), .val (.int vt), .val (.int vf), .val (.int vg), .val (.ref a1), .unset, .unset, .unset, .unset, .unset] [(.int (10 : Int32)), (.int (10 : Int32)), (.ref a1)])) _
  refine g_iload X70 hx (hb hby at_198) rfl ?_
  show Goes p.tables e below (T70.setTop (mkF m 200 #[.val (.int p0), .val (.int p1), .val (.int p2), .val (.int p3), .val (.int p4), .val (.int vsd), .val (.int vq), .val (.int vr), .val (.int vt), .val (.int vf), .val (.int vg), .val (.ref a1), .unset, .unset, .unset, .unset, .unset] [(.int vr), (.int (10 : Int32)), (.int (10 : Int32)), (.ref a1)])) _
  refine g_iload X70 hx (hb hby at_200) rfl ?_
  show Goes p.tables e below (T70.setTop (mkF m 202 #[.val (.int p0), .val (.int p1), .val (.int p2), .val (.int p3), .val (.int p4), .val (.int vsd), .val (.int vq), .val (.int vr), .val (.int vt), .val (.int vf), .val (.int vg), .val (.ref a1), .unset, .unset, .unset, .unset, .unset] [(.int vq), (.int vr), (.int (10 : Int32)), (.int (10 : Int32)), (.ref a1)])) _
  refine g_callS X70 hx hZ hown (by rw [hml]; rfl) e70 (hw _ (List.mem_of_getElem? (i := 2) rfl)) (hw _ (List.mem_of_getElem? (i := 3) rfl)) (hw _ (List.mem_of_getElem? (i := 4) rfl)) (hw _ (List.mem_of_getElem? (i := 5) rfl)) (rmRot l Z a0 hw (10 : Int32) vr vq h70 hnz) [(.int (10 : Int32)), (.int vr), (.int vq)] rfl [(.int (10 : Int32)), (.ref a1)] rfl (lenOf pd_1 rfl) (hb hby at_202) (by decide) 2 (by decide) (by decide) (by first | decide | exact Nat.le_refl _) (by decide) (by decide) (fun v T75 L75 X75 hQ75 => ?_)
  obtain ⟨rfl, e75, rfl⟩ := hQ75
  have N76 := Fr.app N73 (Fr.nil h0.size)
  show Goes p.tables e below (T75.setTop (mkF m 205 #[.val (.int p0), .val (.int p1), .val (.int p2), .val (.int p3), .val (.int p4), .val (.int vsd), .val (.int vq), .val (.int vr), .val (.int vt), .val (.int vf), .val (.int vg), .val (.ref a1), .unset, .unset, .unset, .unset, .unset] [(.int (rotV (10 : Int32) vr vq)), (.int (10 : Int32)), (.ref a1)])) _
  refine g_bastore X75 hx hZ e75 fx72 10 (by decide) (by show 10 < 16; decide) (rotV (10 : Int32) vr vq) (own_rotnar _ _ _) (hb hby at_205) (fun T77 h77 X77 e77 W77 A77 => ?_)
  have fx78 : Exa Z h77 a1 "[B" := Exa.wr W77 fx71
  have fx79 : Ar Z h77 a1 .byte [(.int (rotV (0 : Int32) vr vq)), (.int (rotV (1 : Int32) vr vq)), (.int (rotV (2 : Int32) vr vq)), (.int (rotV (3 : Int32) vr vq)), (.int (rotV (4 : Int32) vr vq)), (.int (rotV (5 : Int32) vr vq)), (.int (rotV (6 : Int32) vr vq)), (.int (rotV (7 : Int32) vr vq)), (.int (rotV (8 : Int32) vr vq)), (.int (rotV (9 : Int32) vr vq)), (.int (rotV (10 : Int32) vr vq)), (.int (0 : Int32)), (.int (0 : Int32)), (.int (0 : Int32)), (.int (0 : Int32)), (.int (0 : Int32))] := A77
  have N80 := Fr.snoc X77 N76 ge2
  have Z81 : h0.size ≤ h77.size := by rw [W77.size]; exact Z74
  show Goes p.tables e below (T77.setTop (mkF m 206 #[.val (.int p0), .val (.int p1), .val (.int p2), .val (.int p3), .val (.int p4), .val (.int vsd), .val (.int vq), .val (.int vr), .val (.int vt), .val (.int vf), .val (.int vg), .val (.ref a1), .unset, .unset, .unset, .unset, .unset] [])) _
  refine g_aload X77 hx (hb hby at_206) rfl rfl ?_
  show Goes p.tables e below (T77.setTop (mkF m 208 #[.val (.int p0), .val (.int p1), .val (.int p2), .val (.int p3), .val (.int p4), .val (.int vsd), .val (.int vq), .val (.int vr), .val (.int vt), .val (.int vf), .val (.int vg), .val (.ref a1), .unset, .unset, .unset, .unset, .unset] [(.ref a1)])) _
  refine g_bipush X77 hx (11 : Int32) (hb hby at_208) (by decide) ?_
  show Goes p.tables e below (T77.setTop (mkF m 210 #[.val (.int p0), .val (.int p1), .val (.int p2), .val (.int p3), .val (.int p4), .val (.int vsd), .val (.int vq), .val (.int vr), .val (.int vt), .val (.int vf), .val (.int vg), .val (.ref a1), .unset, .unset, .unset, .unset, .unset] [(.int (11 : Int32)), (.ref a1)])) _
  refine g_bipush X77 hx (11 : Int32) (hb hby at_210) (by decide) ?_
  show Goes p.tables e below (T77.setTop (mkF m 212 #[.val (.int p0), .val (.int p1), .val (.int p2), .val (.int p3), .val (.int p4), .val (.int vsd), .val (.int vq), .val (.int vr), .val (.int vt), .val (.int vf), .val (.int vg), .val (.ref a1), .unset, .unset, .unset, .unset, .unset] [(.int (11 : Int32)), (.int (11 : Int32)), (.ref a1)])) _
  refine g_iload X77 hx (hb hby at_212) rfl ?_
  show Goes p.tables e below (T77.setTop (mkF m 214 #[.val (.int p0), .val (.int p1), .val (.int p2), .val (.int p3), .val (.int p4), .val (.int vsd), .val (.int vq), .val (.int vr), .val (.int vt), .val (.int vf), .val (.int vg), .val (.ref a1), .unset, .unset, .unset, .unset, .unset] [(.int vr), (.int (11 : Int32)), (.int (11 : Int32)), (.ref a1)])) _
  refine g_iload X77 hx (hb hby at_214) rfl ?_
  show Goes p.tables e below (T77.setTop (mkF m 216 #[.val (.int p0), .val (.int p1), .val (.int p2), .val (.int p3), .val (.int p4), .val (.int vsd), .val (.int vq), .val (.int vr), .val (.int vt), .val (.int vf), .val (.int vg), .val (.ref a1), .unset, .unset, .unset, .unset, .unset] [(.int vq), (.int vr), (.int (11 : Int32)), (.int (11 : Int32)), (.ref a1)])) _
  refine g_callS X77 hx hZ hown (by rw [hml]; rfl) e77 (hw _ (List.mem_of_getElem? (i := 2) rfl)) (hw _ (List.mem_of_getElem? (i := 3) rfl)) (hw _ (List.mem_of_getElem? (i := 4) rfl)) (hw _ (List.mem_of_getElem? (i := 5) rfl)) (rmRot l Z a0 hw (11 : Int32) vr vq h77 hnz) [(.int (11 : Int32)), (.int vr), (.int vq)] rfl [(.int (11 : Int32)), (.ref a1)] rfl (lenOf pd_1 rfl) (hb hby at_216) (by decide) 2 (by decide) (by decide) (by first | decide | exact Nat.le_refl _) (by decide) (by decide) (fun v T82 L82 X82 hQ82 => ?_)
  obtain ⟨rfl, e82, rfl⟩ := hQ82
  have N83 := Fr.app N80 (Fr.nil h0.size)
  show Goes p.tables e below (T82.setTop (mkF m 219 #[.val (.int p0), .val (.int p1), .val (.int p2), .val (.int p3), .val (.int p4), .val (.int vsd), .val (.int vq), .val (.int vr), .val (.int vt), .val (.int vf), .val (.int vg), .val (.ref a1), .unset, .unset, .unset, .unset, .unset] [(.int (rotV (11 : Int32) vr vq)), (.int (11 : Int32)), (.ref a1)])) _
  refine g_bastore X82 hx hZ e82 fx79 11 (by decide) (by show 11 < 16; decide) (rotV (11 : Int32) vr vq) (own_rotnar _ _ _) (hb hby at_219) (fun T84 h84 X84 e84 W84 A84 => ?_)
  have fx85 : Exa Z h84 a1 "[B" := Exa.wr W84 fx78
  have fx86 : Ar Z h84 a1 .byte [(.int (rotV (0 : Int32) vr vq)), (.int (rotV (1 : Int32) vr vq)), (.int (rotV (2 : Int32) vr vq)), (.int (rotV (3 : Int32) vr vq)), (.int (rotV (4 : Int32) vr vq)), (.int (rotV (5 : Int32) vr vq)), (.int (rotV (6 : Int32) vr vq)), (.int (rotV (7 : Int32) vr vq)), (.int (rotV (8 : Int32) vr vq)), (.int (rotV (9 : Int32) vr vq)), (.int (rotV (10 : Int32) vr vq)), (.int (rotV (11 : Int32) vr vq)), (.int (0 : Int32)), (.int (0 : Int32)), (.int (0 : Int32)), (.int (0 : Int32))] := A84
  have N87 := Fr.snoc X84 N83 ge2
  have Z88 : h0.size ≤ h84.size := by rw [W84.size]; exact Z81
  show Goes p.tables e below (T84.setTop (mkF m 220 #[.val (.int p0), .val (.int p1), .val (.int p2), .val (.int p3), .val (.int p4), .val (.int vsd), .val (.int vq), .val (.int vr), .val (.int vt), .val (.int vf), .val (.int vg), .val (.ref a1), .unset, .unset, .unset, .unset, .unset] [])) _
  refine g_aload X84 hx (hb hby at_220) rfl rfl ?_
  show Goes p.tables e below (T84.setTop (mkF m 222 #[.val (.int p0), .val (.int p1), .val (.int p2), .val (.int p3), .val (.int p4), .val (.int vsd), .val (.int vq), .val (.int vr), .val (.int vt), .val (.int vf), .val (.int vg), .val (.ref a1), .unset, .unset, .unset, .unset, .unset] [(.ref a1)])) _
  refine g_bipush X84 hx (12 : Int32) (hb hby at_222) (by decide) ?_
  show Goes p.tables e below (T84.setTop (mkF m 224 #[.val (.int p0), .val (.int p1), .val (.int p2), .val (.int p3), .val (.int p4), .val (.int vsd), .val (.int vq), .val (.int vr), .val (.int vt), .val (.int vf), .val (.int vg), .val (.ref a1), .unset, .unset, .unset, .unset, .unset] [(.int (12 : Int32)), (.ref a1)])) _
  refine g_bipush X84 hx (12 : Int32) (hb hby at_224) (by decide) ?_
  show Goes p.tables e below (T84.setTop (mkF m 226 #[.val (.int p0), .val (.int p1), .val (.int p2), .val (.int p3), .val (.int p4), .val (.int vsd), .val (.int vq), .val (.int vr), .val (.int vt), .val (.int vf), .val (.int vg), .val (.ref a1), .unset, .unset, .unset, .unset, .unset] [(.int (12 : Int32)), (.int (12 : Int32)), (.ref a1)])) _
  refine g_iload X84 hx (hb hby at_226) rfl ?_
  show Goes p.tables e below (T84.setTop (mkF m 228 #[.val (.int p0), .val (.int p1), .val (.int p2), .val (.int p3), .val (.int p4), .val (.int vsd), .val (.int vq), .val (.int vr), .val (.int vt), .val (.int vf), .val (.int vg), .val (.ref a1), .unset, .unset, .unset, .unset, .unset] [(.int vr), (.int (12 : Int32)), (.int (12 : Int32)), (.ref a1)])) _
  refine g_iload X84 hx (hb hby at_228) rfl ?_
  show Goes p.tables e below (T84.setTop (mkF m 230 #[.val (.int p0), .val (.int p1), .val (.int p2), .val (.int p3), .val (.int p4), .val (.int vsd), .val (.int vq), .val (.int vr), .val (.int vt), .val (.int vf), .val (.int vg), .val (.ref a1), .unset, .unset, .unset, .unset, .unset] [(.int vq), (.int vr), (.int (12 : Int32)), (.int (12 : Int32)), (.ref a1)])) _
  refine g_callS X84 hx hZ hown (by rw [hml]; rfl) e84 (hw _ (List.mem_of_getElem? (i := 2) rfl)) (hw _ (List.mem_of_getElem? (i := 3) rfl)) (hw _ (List.mem_of_getElem? (i := 4) rfl)) (hw _ (List.mem_of_getElem? (i := 5) rfl)) (rmRot l Z a0 hw (12 : Int32) vr vq h84 hnz) [(.int (12 : Int32)), (.int vr), (.int vq)] rfl [(.int (12 : Int32)), (.ref a1)] rfl (lenOf pd_1 rfl) (hb hby at_230) (by decide) 2 (by decide) (by decide) (by first | decide | exact Nat.le_refl _) (by decide) (by decide) (fun v T89 L89 X89 hQ89 => ?_)
  obtain ⟨rfl, e89, rfl⟩ := hQ89
  have N90 := Fr.app N87 (Fr.nil h0.size)
  show Goes p.tables e below (T89.setTop (mkF m 233 #[.val (.int p0), .val (.int p1), .val (.int p2), .val (.int p3), .val (.int p4), .val (.int vsd), .val (.int vq), .val (.int vr), .val (.int vt), .val (.int vf), .val (.int vg), .val (.ref a1), .unset, .unset, .unset, .unset, .unset] [(.int (rotV (12 : Int32) vr vq)), (.int (12 : Int32)), (.ref a1)])) _
  refine g_bastore X89 hx hZ e89 fx86 12 (by decide) (by show 12 < 16; decide) (rotV (12 : Int32) vr vq) (own_rotnar _ _ _) (hb hby at_233) (fun T91 h91 X91 e91 W91 A91 => ?_)
  have fx92 : Exa Z h91 a1 "[B" := Exa.wr W91 fx85
  have fx93 : Ar Z h91 a1 .byte [(.int (rotV (0 : Int32) vr vq)), (.int (rotV (1 : Int32) vr vq)), (.int (rotV (2 : Int32) vr vq)), (.int (rotV (3 : Int32) vr vq)), (.int (rotV (4 : Int32) vr vq)), (.int (rotV (5 : Int32) vr vq)), (.int (rotV (6 : Int32) vr vq)), (.int (rotV (7 : Int32) vr vq)), (.int (rotV (8 : Int32) vr vq)), (.int (rotV (9 : Int32) vr vq)), (.int (rotV (10 : Int32) vr vq)), (.int (rotV (11 : Int32) vr vq)), (.int (rotV (12 : Int32) vr vq)), (.int (0 : Int32)), (.int (0 : Int32)), (.int (0 : Int32))] := A91
  have N94 := Fr.snoc X91 N90 ge2
  have Z95 : h0.size ≤ h91.size := by rw [W91.size]; exact Z88
  show Goes p.tables e below (T91.setTop (mkF m 234 #[.val (.int p0), .val (.int p1), .val (.int p2), .val (.int p3), .val (.int p4), .val (.int vsd), .val (.int vq), .val (.int vr), .val (.int vt), .val (.int vf), .val (.int vg), .val (.ref a1), .unset, .unset, .unset, .unset, .unset] [])) _
  refine g_aload X91 hx (hb hby at_234) rfl rfl ?_
  show Goes p.tables e below (T91.setTop (mkF m 236 #[.val (.int p0), .val (.int p1), .val (.int p2), .val (.int p3), .val (.int p4), .val (.int vsd), .val (.int vq), .val (.int vr), .val (.int vt), .val (.int vf), .val (.int vg), .val (.ref a1), .unset, .unset, .unset, .unset, .unset] [(.ref a1)])) _
  refine g_bipush X91 hx (13 : Int32) (hb hby at_236) (by decide) ?_
  show Goes p.tables e below (T91.setTop (mkF m 238 #[.val (.int p0), .val (.int p1), .val (.int p2), .val (.int p3), .val (.int p4), .val (.int vsd), .val (.int vq), .val (.int vr), .val (.int vt), .val (.int vf), .val (.int vg), .val (.ref a1), .unset, .unset, .unset, .unset, .unset] [(.int (13 : Int32)), (.ref a1)])) _
  refine g_bipush X91 hx (13 : Int32) (hb hby at_238) (by decide) ?_
  show Goes p.tables e below (T91.setTop (mkF m 240 #[.val (.int p0), .val (.int p1), .val (.int p2), .val (.int p3), .val (.int p4), .val (.int vsd), .val (.int vq), .val (.int vr), .val (.int vt), .val (.int vf), .val (.int vg), .val (.ref a1), .unset, .unset, .unset, .unset, .unset] [(.int (13 : Int32)), (.int (13 : Int32)), (.ref a1)])) _
  refine g_iload X91 hx (hb hby at_240) rfl ?_
  show Goes p.tables e below (T91.setTop (mkF m 242 #[.val (.int p0), .val (.int p1), .val (.int p2), .val (.int p3), .val (.int p4), .val (.int vsd), .val (.int vq), .val (.int vr), .val (.int vt), .val (.int vf), .val (.int vg), .val (.ref a1), .unset, .unset, .unset, .unset, .unset] [(.int vr), (.int (13 : Int32)), (.int (13 : Int32)), (.ref a1)])) _
  refine g_iload X91 hx (hb hby at_242) rfl ?_
  show Goes p.tables e below (T91.setTop (mkF m 244 #[.val (.int p0), .val (.int p1), .val (.int p2), .val (.int p3), .val (.int p4), .val (.int vsd), .val (.int vq), .val (.int vr), .val (.int vt), .val (.int vf), .val (.int vg), .val (.ref a1), .unset, .unset, .unset, .unset, .unset] [(.int vq), (.int vr), (.int (13 : Int32)), (.int (13 : Int32)), (.ref a1)])) _
  refine g_callS X91 hx hZ hown (by rw [hml]; rfl) e91 (hw _ (List.mem_of_getElem? (i := 2) rfl)) (hw _ (List.mem_of_getElem? (i := 3) rfl)) (hw _ (List.mem_of_getElem? (i := 4) rfl)) (hw _ (List.mem_of_getElem? (i := 5) rfl)) (rmRot l Z a0 hw (13 : Int32) vr vq h91 hnz) [(.int (13 : Int32)), (.int vr), (.int vq)] rfl [(.int (13 : Int32)), (.ref a1)] rfl (lenOf pd_1 rfl) (hb hby at_244) (by decide) 2 (by decide) (by decide) (by first | decide | exact Nat.le_refl _) (by decide) (by decide) (fun v T96 L96 X96 hQ96 => ?_)
  obtain ⟨rfl, e96, rfl⟩ := hQ96
  have N97 := Fr.app N94 (Fr.nil h0.size)
  show Goes p.tables e below (T96.setTop (mkF m 247 #[.val (.int p0), .val (.int p1), .val (.int p2), .val (.int p3), .val (.int p4), .val (.int vsd), .val (.int vq), .val (.int vr), .val (.int vt), .val (.int vf), .val (.int vg), .val (.ref a1), .unset, .unset, .unset, .unset, .unset] [(.int (rotV (13 : Int32) vr vq)), (.int (13 : Int32)), (.ref a1)])) _
  refine g_bastore X96 hx hZ e96 fx93 13 (by decide) (by show 13 < 16; decide) (rotV (13 : Int32) vr vq) (own_rotnar _ _ _) (hb hby at_247) (fun T98 h98 X98 e98 W98 A98 => ?_)
  have fx99 : Exa Z h98 a1 "[B" := Exa.wr W98 fx92
  have fx100 : Ar Z h98 a1 .byte [(.int (rotV (0 : Int32) vr vq)), (.int (rotV (1 : Int32) vr vq)), (.int (rotV (2 : Int32) vr vq)), (.int (rotV (3 : Int32) vr vq)), (.int (rotV (4 : Int32) vr vq)), (.int (rotV (5 : Int32) vr vq)), (.int (rotV (6 : Int32) vr vq)), (.int (rotV (7 : Int32) vr vq)), (.int (rotV (8 : Int32) vr vq)), (.int (rotV (9 : Int32) vr vq)), (.int (rotV (10 : Int32) vr vq)), (.int (rotV (11 : Int32) vr vq)), (.int (rotV (12 : Int32) vr vq)), (.int (rotV (13 : Int32) vr vq)), (.int (0 : Int32)), (.int (0 : Int32))] := A98
  have N101 := Fr.snoc X98 N97 ge2
  have Z102 : h0.size ≤ h98.size := by rw [W98.size]; exact Z95
  show Goes p.tables e below (T98.setTop (mkF m 248 #[.val (.int p0), .val (.int p1), .val (.int p2), .val (.int p3), .val (.int p4), .val (.int vsd), .val (.int vq), .val (.int vr), .val (.int vt), .val (.int vf), .val (.int vg), .val (.ref a1), .unset, .unset, .unset, .unset, .unset] [])) _
  refine g_aload X98 hx (hb hby at_248) rfl rfl ?_
  show Goes p.tables e below (T98.setTop (mkF m 250 #[.val (.int p0), .val (.int p1), .val (.int p2), .val (.int p3), .val (.int p4), .val (.int vsd), .val (.int vq), .val (.int vr), .val (.int vt), .val (.int vf), .val (.int vg), .val (.ref a1), .unset, .unset, .unset, .unset, .unset] [(.ref a1)])) _
  refine g_bipush X98 hx (14 : Int32) (hb hby at_250) (by decide) ?_
  show Goes p.tables e below (T98.setTop (mkF m 252 #[.val (.int p0), .val (.int p1), .val (.int p2), .val (.int p3), .val (.int p4), .val (.int vsd), .val (.int vq), .val (.int vr), .val (.int vt), .val (.int vf), .val (.int vg), .val (.ref a1), .unset, .unset, .unset, .unset, .unset] [(.int (14 : Int32)), (.ref a1)])) _
  refine g_bipush X98 hx (14 : Int32) (hb hby at_252) (by decide) ?_
  show Goes p.tables e below (T98.setTop (mkF m 254 #[.val (.int p0), .val (.int p1), .val (.int p2), .val (.int p3), .val (.int p4), .val (.int vsd), .val (.int vq), .val (.int vr), .val (.int vt), .val (.int vf), .val (.int vg), .val (.ref a1), .unset, .unset, .unset, .unset, .unset] [(.int (14 : Int32)), (.int (14 : Int32)), (.ref a1)])) _
  refine g_iload X98 hx (hb hby at_254) rfl ?_
  show Goes p.tables e below (T98.setTop (mkF m 256 #[.val (.int p0), .val (.int p1), .val (.int p2), .val (.int p3), .val (.int p4), .val (.int vsd), .val (.int vq), .val (.int vr), .val (.int vt), .val (.int vf), .val (.int vg), .val (.ref a1), .unset, .unset, .unset, .unset, .unset] [(.int vr), (.int (14 : Int32)), (.int (14 : Int32)), (.ref a1)])) _
  refine g_iload X98 hx (hb hby at_256) rfl ?_
  show Goes p.tables e below (T98.setTop (mkF m 258 #[.val (.int p0), .val (.int p1), .val (.int p2), .val (.int p3), .val (.int p4), .val (.int vsd), .val (.int vq), .val (.int vr), .val (.int vt), .val (.int vf), .val (.int vg), .val (.ref a1), .unset, .unset, .unset, .unset, .unset] [(.int vq), (.int vr), (.int (14 : Int32)), (.int (14 : Int32)), (.ref a1)])) _
  refine g_callS X98 hx hZ hown (by rw [hml]; rfl) e98 (hw _ (List.mem_of_getElem? (i := 2) rfl)) (hw _ (List.mem_of_getElem? (i := 3) rfl)) (hw _ (List.mem_of_getElem? (i := 4) rfl)) (hw _ (List.mem_of_getElem? (i := 5) rfl)) (rmRot l Z a0 hw (14 : Int32) vr vq h98 hnz) [(.int (14 : Int32)), (.int vr), (.int vq)] rfl [(.int (14 : Int32)), (.ref a1)] rfl (lenOf pd_1 rfl) (hb hby at_258) (by decide) 2 (by decide) (by decide) (by first | decide | exact Nat.le_refl _) (by decide) (by decide) (fun v T103 L103 X103 hQ103 => ?_)
  obtain ⟨rfl, e103, rfl⟩ := hQ103
  have N104 := Fr.app N101 (Fr.nil h0.size)
  show Goes p.tables e below (T103.setTop (mkF m 261 #[.val (.int p0), .val (.int p1), .val (.int p2), .val (.int p3), .val (.int p4), .val (.int vsd), .val (.int vq), .val (.int vr), .val (.int vt), .val (.int vf), .val (.int vg), .val (.ref a1), .unset, .unset, .unset, .unset, .unset] [(.int (rotV (14 : Int32) vr vq)), (.int (14 : Int32)), (.ref a1)])) _
  refine g_bastore X103 hx hZ e103 fx100 14 (by decide) (by show 14 < 16; decide) (rotV (14 : Int32) vr vq) (own_rotnar _ _ _) (hb hby at_261) (fun T105 h105 X105 e105 W105 A105 => ?_)
  have fx106 : Exa Z h105 a1 "[B" := Exa.wr W105 fx99
  have fx107 : Ar Z h105 a1 .byte [(.int (rotV (0 : Int32) vr vq)), (.int (rotV (1 : Int32) vr vq)), (.int (rotV (2 : Int32) vr vq)), (.int (rotV (3 : Int32) vr vq)), (.int (rotV (4 : Int32) vr vq)), (.int (rotV (5 : Int32) vr vq)), (.int (rotV (6 : Int32) vr vq)), (.int (rotV (7 : Int32) vr vq)), (.int (rotV (8 : Int32) vr vq)), (.int (rotV (9 : Int32) vr vq)), (.int (rotV (10 : Int32) vr vq)), (.int (rotV (11 : Int32) vr vq)), (.int (rotV (12 : Int32) vr vq)), (.int (rotV (13 : Int32) vr vq)), (.int (rotV (14 : Int32) vr vq)), (.int (0 : Int32))] := A105
  have N108 := Fr.snoc X105 N104 ge2
  have Z109 : h0.size ≤ h105.size := by rw [W105.size]; exact Z102
  show Goes p.tables e below (T105.setTop (mkF m 262 #[.val (.int p0), .val (.int p1), .val (.int p2), .val (.int p3), .val (.int p4), .val (.int vsd), .val (.int vq), .val (.int vr), .val (.int vt), .val (.int vf), .val (.int vg), .val (.ref a1), .unset, .unset, .unset, .unset, .unset] [])) _
  refine g_aload X105 hx (hb hby at_262) rfl rfl ?_
  show Goes p.tables e below (T105.setTop (mkF m 264 #[.val (.int p0), .val (.int p1), .val (.int p2), .val (.int p3), .val (.int p4), .val (.int vsd), .val (.int vq), .val (.int vr), .val (.int vt), .val (.int vf), .val (.int vg), .val (.ref a1), .unset, .unset, .unset, .unset, .unset] [(.ref a1)])) _
  refine g_bipush X105 hx (15 : Int32) (hb hby at_264) (by decide) ?_
  show Goes p.tables e below (T105.setTop (mkF m 266 #[.val (.int p0), .val (.int p1), .val (.int p2), .val (.int p3), .val (.int p4), .val (.int vsd), .val (.int vq), .val (.int vr), .val (.int vt), .val (.int vf), .val (.int vg), .val (.ref a1), .unset, .unset, .unset, .unset, .unset] [(.int (15 : Int32)), (.ref a1)])) _
  refine g_bipush X105 hx (15 : Int32) (hb hby at_266) (by decide) ?_
  show Goes p.tables e below (T105.setTop (mkF m 268 #[.val (.int p0), .val (.int p1), .val (.int p2), .val (.int p3), .val (.int p4), .val (.int vsd), .val (.int vq), .val (.int vr), .val (.int vt), .val (.int vf), .val (.int vg), .val (.ref a1), .unset, .unset, .unset, .unset, .unset] [(.int (15 : Int32)), (.int (15 : Int32)), (.ref a1)])) _
  refine g_iload X105 hx (hb hby at_268) rfl ?_
  show Goes p.tables e below (T105.setTop (mkF m 270 #[.val (.int p0), .val (.int p1), .val (.int p2), .val (.int p3), .val (.int p4), .val (.int vsd), .val (.int vq), .val (.int vr), .val (.int vt), .val (.int vf), .val (.int vg), .val (.ref a1), .unset, .unset, .unset, .unset, .unset] [(.int vr), (.int (15 : Int32)), (.int (15 : Int32)), (.ref a1)])) _
  refine g_iload X105 hx (hb hby at_270) rfl ?_
  show Goes p.tables e below (T105.setTop (mkF m 272 #[.val (.int p0), .val (.int p1), .val (.int p2), .val (.int p3), .val (.int p4), .val (.int vsd), .val (.int vq), .val (.int vr), .val (.int vt), .val (.int vf), .val (.int vg), .val (.ref a1), .unset, .unset, .unset, .unset, .unset] [(.int vq), (.int vr), (.int (15 : Int32)), (.int (15 : Int32)), (.ref a1)])) _
  refine g_callS X105 hx hZ hown (by rw [hml]; rfl) e105 (hw _ (List.mem_of_getElem? (i := 2) rfl)) (hw _ (List.mem_of_getElem? (i := 3) rfl)) (hw _ (List.mem_of_getElem? (i := 4) rfl)) (hw _ (List.mem_of_getElem? (i := 5) rfl)) (rmRot l Z a0 hw (15 : Int32) vr vq h105 hnz) [(.int (15 : Int32)), (.int vr), (.int vq)] rfl [(.int (15 : Int32)), (.ref a1)] rfl (lenOf pd_1 rfl) (hb hby at_272) (by decide) 2 (by decide) (by decide) (by first | decide | exact Nat.le_refl _) (by decide) (by decide) (fun v T110 L110 X110 hQ110 => ?_)
  obtain ⟨rfl, e110, rfl⟩ := hQ110
  have N111 := Fr.app N108 (Fr.nil h0.size)
  show Goes p.tables e below (T110.setTop (mkF m 275 #[.val (.int p0), .val (.int p1), .val (.int p2), .val (.int p3), .val (.int p4), .val (.int vsd), .val (.int vq), .val (.int vr), .val (.int vt), .val (.int vf), .val (.int vg), .val (.ref a1), .unset, .unset, .unset, .unset, .unset] [(.int (rotV (15 : Int32) vr vq)), (.int (15 : Int32)), (.ref a1)])) _
  refine g_bastore X110 hx hZ e110 fx107 15 (by decide) (by show 15 < 16; decide) (rotV (15 : Int32) vr vq) (own_rotnar _ _ _) (hb hby at_275) (fun T112 h112 X112 e112 W112 A112 => ?_)
  have fx113 : Exa Z h112 a1 "[B" := Exa.wr W112 fx106
  have fx114 : Ar Z h112 a1 .byte [(.int (rotV (0 : Int32) vr vq)), (.int (rotV (1 : Int32) vr vq)), (.int (rotV (2 : Int32) vr vq)), (.int (rotV (3 : Int32) vr vq)), (.int (rotV (4 : Int32) vr vq)), (.int (rotV (5 : Int32) vr vq)), (.int (rotV (6 : Int32) vr vq)), (.int (rotV (7 : Int32) vr vq)), (.int (rotV (8 : Int32) vr vq)), (.int (rotV (9 : Int32) vr vq)), (.int (rotV (10 : Int32) vr vq)), (.int (rotV (11 : Int32) vr vq)), (.int (rotV (12 : Int32) vr vq)), (.int (rotV (13 : Int32) vr vq)), (.int (rotV (14 : Int32) vr vq)), (.int (rotV (15 : Int32) vr vq))] := A112
  have N115 := Fr.snoc X112 N111 ge2
  have Z116 : h0.size ≤ h112.size := by rw [W112.size]; exact Z109
  show Goes p.tables e below (T112.setTop (mkF m 276 #[.val (.int p0), .val (.int p1), .val (.int p2), .val (.int p3), .val (.int p4), .val (.int vsd), .val (.int vq), .val (.int vr), .val (.int vt), .val (.int vf), .val (.int vg), .val (.ref a1), .unset, .unset, .unset, .unset, .unset] [])) _
  refine g_new X112 hx hZ hown e112 (hw _ (List.mem_of_getElem? (i := 6) rfl)) (hw _ (List.mem_of_getElem? (i := 7) rfl)) (hw _ (List.mem_of_getElem? (i := 8) rfl)) (hb hby at_276) (by decide) (by decide) (fun T117 h117 a117 ga117 X117 e117 Ex117 Ea117 Df117 => ?_)
  have ne118 : a1 ≠ a117 := Nat.ne_of_lt (by rw [ga117]; exact fx113.lt)
  have ge119 : h0.size ≤ a117 := by rw [ga117]; exact Z116
  have fx120 : Exa Z h117 a1 "[B" := Exa.ext Ex117 fx113
  have fx121 : Ar Z h117 a1 .byte [(.int (rotV (0 : Int32) vr vq)), (.int (rotV (1 : Int32) vr vq)), (.int (rotV (2 : Int32) vr vq)), (.int (rotV (3 : Int32) vr vq)), (.int (rotV (4 : Int32) vr vq)), (.int (rotV (5 : Int32) vr vq)), (.int (rotV (6 : Int32) vr vq)), (.int (rotV (7 : Int32) vr vq)), (.int (rotV (8 : Int32) vr vq)), (.int (rotV (9 : Int32) vr vq)), (.int (rotV (10 : Int32) vr vq)), (.int (rotV (11 : Int32) vr vq)), (.int (rotV (12 : Int32) vr vq)), (.int (rotV (13 : Int32) vr vq)), (.int (rotV (14 : Int32) vr vq)), (.int (rotV (15 : Int32) vr vq))] := Ar.ext fx114 Ex117
  have Z122 : h0.size ≤ h117.size := Nat.le_trans Z116 Ex117.1
  have fx123 : Fld Z h117 a117 "com/example/slidewise/slidewise/search/ManhattanTracker" "squares" "I" (.int (0 : Int32)) := Df117 (Or.inr (hw _ (List.mem_of_getElem? (i := 16) rfl))) (ty := .int) (by decide)
  have fx124 : Fld Z h117 a117 "com/example/slidewise/slidewise/search/ManhattanTracker" "distances" "[I" .null := Df117 (Or.inr (hw _ (List.mem_of_getElem? (i := 19) rfl))) (ty := (.array .int)) (by decide)
  have fx125 : Fld Z h117 a117 "com/example/slidewise/slidewise/search/ManhattanTracker" "value" "I" (.int (0 : Int32)) := Df117 (Or.inl (hw _ (List.mem_of_getElem? (i := 32) rfl))) (ty := .int) (by decide)
  show Goes p.tables e below (T117.setTop (mkF m 279 #[.val (.int p0), .val (.int p1), .val (.int p2), .val (.int p3), .val (.int p4), .val (.int vsd), .val (.int vq), .val (.int vr), .val (.int vt), .val (.int vf), .val (.int vg), .val (.ref a1), .unset, .unset, .unset, .unset, .unset] [(.ref a117)])) _
  refine g_dup X117 hx (hb hby at_279) rfl ?_
  show Goes p.tables e below (T117.setTop (mkF m 280 #[.val (.int p0), .val (.int p1), .val (.int p2), .val (.int p3), .val (.int p4), .val (.int vsd), .val (.int vq), .val (.int vr), .val (.int vt), .val (.int vf), .val (.int vg), .val (.ref a1), .unset, .unset, .unset, .unset, .unset] [(.ref a117), (.ref a117)])) _
  refine g_iload X117 hx (hb hby at_280) rfl ?_
  show Goes p.tables e below (T117.setTop (mkF m 282 #[.val (.int p0), .val (.int p1), .val (.int p2), .val (.int p3), .val (.int p4), .val (.int vsd), .val (.int vq), .val (.int vr), .val (.int vt), .val (.int vf), .val (.int vg), .val (.ref a1), .unset, .unset, .unset, .unset, .unset] [(.int vsd), (.ref a117), (.ref a117)])) _
  refine g_aload X117 hx (hb hby at_282) rfl rfl ?_
  show Goes p.tables e below (T117.setTop (mkF m 284 #[.val (.int p0), .val (.int p1), .val (.int p2), .val (.int p3), .val (.int p4), .val (.int vsd), .val (.int vq), .val (.int vr), .val (.int vt), .val (.int vf), .val (.int vg), .val (.ref a1), .unset, .unset, .unset, .unset, .unset] [(.ref a1), (.int vsd), (.ref a117), (.ref a117)])) _
  have lta := fx121.lt
  have ltb := Ea117.lt
  have hns : ∀ c, c < S → ([(.int (rotV (0 : Int32) vr vq)), (.int (rotV (1 : Int32) vr vq)), (.int (rotV (2 : Int32) vr vq)), (.int (rotV (3 : Int32) vr vq)), (.int (rotV (4 : Int32) vr vq)), (.int (rotV (5 : Int32) vr vq)), (.int (rotV (6 : Int32) vr vq)), (.int (rotV (7 : Int32) vr vq)), (.int (rotV (8 : Int32) vr vq)), (.int (rotV (9 : Int32) vr vq)), (.int (rotV (10 : Int32) vr vq)), (.int (rotV (11 : Int32) vr vq)), (.int (rotV (12 : Int32) vr vq)), (.int (rotV (13 : Int32) vr vq)), (.int (rotV (14 : Int32) vr vq)), (.int (rotV (15 : Int32) vr vq))] : List Value)[c]? = some (.int (rotV (Int32.ofNat c) vr vq)) ∧ 0 ≤ (rotV (Int32.ofNat c) vr vq).toInt ∧ (rotV (Int32.ofNat c) vr vq).toInt < S := by
    intro c hc
    have hr := own_rot (c := Int32.ofNat c) (cn := c) hsq (by omega) hS16 (own_of (by omega)) (by omega) hrr
    refine ⟨?_, hr⟩
    have : c = 0 ∨ c = 1 ∨ c = 2 ∨ c = 3 ∨ c = 4 ∨ c = 5 ∨ c = 6 ∨ c = 7 ∨ c = 8 ∨ c = 9 ∨ c = 10 ∨ c = 11 ∨ c = 12 ∨ c = 13 ∨ c = 14 ∨ c = 15 := by omega
    rcases this with rfl | rfl | rfl | rfl | rfl | rfl | rfl | rfl | rfl | rfl | rfl | rfl | rfl | rfl | rfl | rfl <;> rfl
  refine g_callI X117 hx hZ hown (by rw [hml]; rfl) e117 rfl (hw _ (List.mem_of_getElem? (i := 9) rfl)) (hw _ (List.mem_of_getElem? (i := 10) rfl)) (hw _ (List.mem_of_getElem? (i := 8) rfl)) (hw _ (List.mem_of_getElem? (i := 11) rfl)) (rmIni l Z a0 hw a117 vsd a1 h117 h0.size Z122 sd S hsd hS (by omega) hsd4 [(.int (rotV (0 : Int32) vr vq)), (.int (rotV (1 : Int32) vr vq)), (.int (rotV (2 : Int32) vr vq)), (.int (rotV (3 : Int32) vr vq)), (.int (rotV (4 : Int32) vr vq)), (.int (rotV (5 : Int32) vr vq)), (.int (rotV (6 : Int32) vr vq)), (.int (rotV (7 : Int32) vr vq)), (.int (rotV (8 : Int32) vr vq)), (.int (rotV (9 : Int32) vr vq)), (.int (rotV (10 : Int32) vr vq)), (.int (rotV (11 : Int32) vr vq)), (.int (rotV (12 : Int32) vr vq)), (.int (rotV (13 : Int32) vr vq)), (.int (rotV (14 : Int32) vr vq)), (.int (rotV (15 : Int32) vr vq))] (fun c => rotV (Int32.ofNat c) vr vq) hns fx123 fx124 fx125 Ea117 fx121 ge119 ne118) a117 [(.int vsd), (.ref a1)] rfl [(.ref a117)] rfl (lenOf pd_2 rfl) (hb hby at_284) (by decide) 1 (by decide) (by decide) (by first | decide | exact Nat.le_refl _) (by decide) (by decide) (fun v T126 L126 X126 hQ126 => ?_)
  obtain ⟨rfl, Nc126, Kc126, d126, ds126, gd126, hd126, fS126, fD126, fV126, Ad126, ti126⟩ := hQ126
  have fx127 : Exa Z T126.heap a1 "[B" := Exa.keep fx120 Kc126
  have fx128 : Ar Z T126.heap a1 .byte [(.int (rotV (0 : Int32) vr vq)), (.int (rotV (1 : Int32) vr vq)), (.int (rotV (2 : Int32) vr vq)), (.int (rotV (3 : Int32) vr vq)), (.int (rotV (4 : Int32) vr vq)), (.int (rotV (5 : Int32) vr vq)), (.int (rotV (6 : Int32) vr vq)), (.int (rotV (7 : Int32) vr vq)), (.int (rotV (8 : Int32) vr vq)), (.int (rotV (9 : Int32) vr vq)), (.int (rotV (10 : Int32) vr vq)), (.int (rotV (11 : Int32) vr vq)), (.int (rotV (12 : Int32) vr vq)), (.int (rotV (13 : Int32) vr vq)), (.int (rotV (14 : Int32) vr vq)), (.int (rotV (15 : Int32) vr vq))] := Ar.keep fx121 Kc126 (ninS ne118 nin0)
  have fx129 : Exa Z T126.heap a117 "com/example/slidewise/slidewise/search/ManhattanTracker" := Exa.keep Ea117 Kc126
  have N130 := Fr.app N115 Nc126
  have Z131 : h0.size ≤ T126.heap.size := Nat.le_trans Z122 Kc126.1
  obtain ⟨y0, hy0⟩ : ∃ y : Int32, y = sumV (fun c => dt vsd ((fun c => rotV (Int32.ofNat c) vr vq) c).toInt.toNat c) S := ⟨_, rfl⟩
  rw [← hy0] at fV126
  rw [← hvq] at fS126
  have ne132 : d126 ≠ a117 := Nat.ne_of_gt (Nat.lt_of_lt_of_le ltb hd126)
  show Goes p.tables e below (T126.setTop (mkF m 287 #[.val (.int p0), .val (.int p1), .val (.int p2), .val (.int p3), .val (.int p4), .val (.int vsd), .val (.int vq), .val (.int vr), .val (.int vt), .val (.int vf), .val (.int vg), .val (.ref a1), .unset, .unset, .unset, .unset, .unset] [(.ref a117)])) _
  refine g_astore X126 hx (hb hby at_287) rfl (l' := #[.val (.int p0), .val (.int p1), .val (.int p2), .val (.int p3), .val (.int p4), .val (.int vsd), .val (.int vq), .val (.int vr), .val (.int vt), .val (.int vf), .val (.int vg), .val (.ref a1), .val (.ref a117), .unset, .unset, .unset, .unset]) rfl ?_
  show Goes p.tables e below (T126.setTop (mkF m 289 #[.val (.int p0), .val (.int p1), .val (.int p2), .val (.int p3), .val (.int p4), .val (.int vsd), .val (.int vq), .val (.int vr), .val (.int vt), .val (.int vf), .val (.int vg), .val (.ref a1), .val (.ref a117), .unset, .unset, .unset, .unset] [])) _
  refine g_aload X126 hx (hb hby at_289) rfl rfl ?_
  show Goes p.tables e below (T126.setTop (mkF m 291 #[.val (.int p0), .val (.int p1), .val (.int p2), .val (.int p3), .val (.int p4), .val (.int vsd), .val (.int vq), .val (.int vr), .val (.int vt), .val (.int vf), .val (.int vg), .val (.ref a1), .val (.ref a117), .unset, .unset, .unset, .unset] [(.ref a117)])) _
  refine g_callV X126 hx hZ hown (by rw [hml]; rfl) rfl (K := "com/example/slidewise/slidewise/search/ManhattanTracker") (hw _ (List.mem_of_getElem? (i := 33) rfl)) (hw _ (List.mem_of_getElem? (i := 34) rfl)) (hw _ (List.mem_of_getElem? (i := 36) rfl)) (hw _ (List.mem_of_getElem? (i := 35) rfl)) (hw _ (List.mem_of_getElem? (i := 8) rfl)) (hw _ (List.mem_of_getElem? (i := 37) rfl)) fx129 (rmVal l Z a0 hw a117 T126.heap h0.size Z131 y0 fV126) [] rfl [] rfl (lenOf pd_7 rfl) (hb hby at_291) (by decide) 0 (by decide) (by decide) (by first | decide | exact Nat.le_refl _) (by decide) (by decide) (fun v T133 L133 X133 hQ133 => ?_)
  obtain ⟨rfl, e133, rfl⟩ := hQ133
  have N134 := Fr.app N130 (Fr.nil h0.size)
  show Goes p.tables e below (T133.setTop (mkF m 294 #[.val (.int p0), .val (.int p1), .val (.int p2), .val (.int p3), .val (.int p4), .val (.int vsd), .val (.int vq), .val (.int vr), .val (.int vt), .val (.int vf), .val (.int vg), .val (.ref a1), .val (.ref a117), .unset, .unset, .unset, .unset] [(.int y0)])) _
  refine g_istore X133 hx (hb hby at_294) (l' := #[.val (.int p0), .val (.int p1), .val (.int p2), .val (.int p3), .val (.int p4), .val (.int vsd), .val (.int vq), .val (.int vr), .val (.int vt), .val (.int vf), .val (.int vg), .val (.ref a1), .val (.ref a117), .val (.int y0), .unset, .unset, .unset]) rfl ?_
  show Goes p.tables e below (T133.setTop (mkF m 296 #[.val (.int p0), .val (.int p1), .val (.int p2), .val (.int p3), .val (.int p4), .val (.int vsd), .val (.int vq), .val (.int vr), .val (.int vt), .val (.int vf), .val (.int vg), .val (.ref a1), .val (.ref a117), .val (.int y0), .unset, .unset, .unset] [])) _
  refine g_aload X133 hx (hb hby at_296) rfl rfl ?_
  show Goes p.tables e below (T133.setTop (mkF m 298 #[.val (.int p0), .val (.int p1), .val (.int p2), .val (.int p3), .val (.int p4), .val (.int vsd), .val (.int vq), .val (.int vr), .val (.int vt), .val (.int vf), .val (.int vg), .val (.ref a1), .val (.ref a117), .val (.int y0), .unset, .unset, .unset] [(.ref a117)])) _
  refine g_iload X133 hx (hb hby at_298) rfl ?_
  show Goes p.tables e below (T133.setTop (mkF m 300 #[.val (.int p0), .val (.int p1), .val (.int p2), .val (.int p3), .val (.int p4), .val (.int vsd), .val (.int vq), .val (.int vr), .val (.int vt), .val (.int vf), .val (.int vg), .val (.ref a1), .val (.ref a117), .val (.int y0), .unset, .unset, .unset] [(.int vt), (.ref a117)])) _
  refine g_iload X133 hx (hb hby at_300) rfl ?_
  show Goes p.tables e below (T133.setTop (mkF m 302 #[.val (.int p0), .val (.int p1), .val (.int p2), .val (.int p3), .val (.int p4), .val (.int vsd), .val (.int vq), .val (.int vr), .val (.int vt), .val (.int vf), .val (.int vg), .val (.ref a1), .val (.ref a117), .val (.int y0), .unset, .unset, .unset] [(.int vf), (.int vt), (.ref a117)])) _
  refine g_iload X133 hx (hb hby at_302) rfl ?_
  show Goes p.tables e below (T133.setTop (mkF m 304 #[.val (.int p0), .val (.int p1), .val (.int p2), .val (.int p3), .val (.int p4), .val (.int vsd), .val (.int vq), .val (.int vr), .val (.int vt), .val (.int vf), .val (.int vg), .val (.ref a1), .val (.ref a117), .val (.int y0), .unset, .unset, .unset] [(.int vg), (.int vf), (.int vt), (.ref a117)])) _
  refine g_callV X133 hx hZ hown (by rw [hml]; rfl) e133 (K := "com/example/slidewise/slidewise/search/ManhattanTracker") (hw _ (List.mem_of_getElem? (i := 38) rfl)) (hw _ (List.mem_of_getElem? (i := 39) rfl)) (hw _ (List.mem_of_getElem? (i := 41) rfl)) (hw _ (List.mem_of_getElem? (i := 40) rfl)) (hw _ (List.mem_of_getElem? (i := 8) rfl)) (hw _ (List.mem_of_getElem? (i := 42) rfl)) fx129 (rmSl l Z a0 hw a117 vt vf vg T126.heap h0.size Z131 d126 ds126 vsd vq y0 S hsq hS16 ti126 ⟨by omega, ht.2⟩ hfr hto fS126 fD126 fV126 fx129 Ad126 ge119 ne132) [(.int vt), (.int vf), (.int vg)] rfl [] rfl (lenOf pd_8 rfl) (hb hby at_304) (by decide) 0 (by decide) (by decide) (by first | decide | exact Nat.le_refl _) (by decide) (by decide) (fun v T135 L135 X135 hQ135 => ?_)
  obtain ⟨rfl, Nc135, Kc135, fS135, fD135, fV135, Ad135⟩ := hQ135
  have fx136 : Exa Z T135.heap a1 "[B" := Exa.keep fx127 Kc135
  have fx137 : Exa Z T135.heap a117 "com/example/slidewise/slidewise/search/ManhattanTracker" := Exa.keep fx129 Kc135
  have fx138 : Ar Z T135.heap d126 .int ds126 := Ar.keep Ad126 Kc135 (ninS ne132 nin0)
  have N139 := Fr.app N134 Nc135
  have Z140 : h0.size ≤ T135.heap.size := Nat.le_trans Z131 Kc135.1
  show Goes p.tables e below (T135.setTop (mkF m 307 #[.val (.int p0), .val (.int p1), .val (.int p2), .val (.int p3), .val (.int p4), .val (.int vsd), .val (.int vq), .val (.int vr), .val (.int vt), .val (.int vf), .val (.int vg), .val (.ref a1), .val (.ref a117), .val (.int y0), .unset, .unset, .unset] [])) _
  refine g_aload X135 hx (hb hby at_307) rfl rfl ?_
  show Goes p.tables e below (T135.setTop (mkF m 309 #[.val (.int p0), .val (.int p1), .val (.int p2), .val (.int p3), .val (.int p4), .val (.int vsd), .val (.int vq), .val (.int vr), .val (.int vt), .val (.int vf), .val (.int vg), .val (.ref a1), .val (.ref a117), .val (.int y0), .unset, .unset, .unset] [(.ref a117)])) _
  refine g_callV X135 hx hZ hown (by rw [hml]; rfl) rfl (K := "com/example/slidewise/slidewise/search/ManhattanTracker") (hw _ (List.mem_of_getElem? (i := 33) rfl)) (hw _ (List.mem_of_getElem? (i := 34) rfl)) (hw _ (List.mem_of_getElem? (i := 36) rfl)) (hw _ (List.mem_of_getElem? (i := 35) rfl)) (hw _ (List.mem_of_getElem? (i := 8) rfl)) (hw _ (List.mem_of_getElem? (i := 37) rfl)) fx137 (rmVal l Z a0 hw a117 T135.heap h0.size Z140 (y0 + (dt vsd vt.toInt.toNat vg.toInt.toNat - dt vsd vt.toInt.toNat vf.toInt.toNat)) fV135) [] rfl [] rfl (lenOf pd_7 rfl) (hb hby at_309) (by decide) 0 (by decide) (by decide) (by first | decide | exact Nat.le_refl _) (by decide) (by decide) (fun v T141 L141 X141 hQ141 => ?_)
  obtain ⟨rfl, e141, rfl⟩ := hQ141
  have N142 := Fr.app N139 (Fr.nil h0.size)
  show Goes p.tables e below (T141.setTop (mkF m 312 #[.val (.int p0), .val (.int p1), .val (.int p2), .val (.int p3), .val (.int p4), .val (.int vsd), .val (.int vq), .val (.int vr), .val (.int vt), .val (.int vf), .val (.int vg), .val (.ref a1), .val (.ref a117), .val (.int y0), .unset, .unset, .unset] [(.int (y0 + (dt vsd vt.toInt.toNat vg.toInt.toNat - dt vsd vt.toInt.toNat vf.toInt.toNat)))])) _
  obtain ⟨v143, hv143⟩ : ∃ z : Int32, z = (y0 + (dt vsd vt.toInt.toNat vg.toInt.toNat - dt vsd vt.toInt.toNat vf.toInt.toNat)) := ⟨_, rfl⟩
  refine g_nameI hv143 ?_
  show Goes p.tables e below (T141.setTop (mkF m 312 #[.val (.int p0), .val (.int p1), .val (.int p2), .val (.int p3), .val (.int p4), .val (.int vsd), .val (.int vq), .val (.int vr), .val (.int vt), .val (.int vf), .val (.int vg), .val (.ref a1), .val (.ref a117), .val (.int y0), .unset, .unset, .unset] [(.int v143)])) _
  refine g_istore X141 hx (hb hby at_312) (l' := #[.val (.int p0), .val (.int p1), .val (.int p2), .val (.int p3), .val (.int p4), .val (.int vsd), .val (.int vq), .val (.int vr), .val (.int vt), .val (.int vf), .val (.int vg), .val (.ref a1), .val (.ref a117), .val (.int y0), .val (.int v143), .unset, .unset]) rfl ?_
  show Goes p.tables e below (T141.setTop (mkF m 314 #[.val (.int p0), .val (.int p1), .val (.int p2), .val (.int p3), .val (.int p4), .val (.int vsd), .val (.int vq), .val (.int vr), .val (.int vt), .val (.int vf), .val (.int vg), .val (.ref a1), .val (.ref a117), .val (.int y0), .val (.int v143), .unset, .unset] [])) _
  refine g_aload X141 hx (hb hby at_314) rfl rfl ?_
  show Goes p.tables e below (T141.setTop (mkF m 316 #[.val (.int p0), .val (.int p1), .val (.int p2), .val (.int p3), .val (.int p4), .val (.int vsd), .val (.int vq), .val (.int vr), .val (.int vt), .val (.int vf), .val (.int vg), .val (.ref a1), .val (.ref a117), .val (.int y0), .val (.int v143), .unset, .unset] [(.ref a117)])) _
  refine g_iload X141 hx (hb hby at_316) rfl ?_
  show Goes p.tables e below (T141.setTop (mkF m 318 #[.val (.int p0), .val (.int p1), .val (.int p2), .val (.int p3), .val (.int p4), .val (.int vsd), .val (.int vq), .val (.int vr), .val (.int vt), .val (.int vf), .val (.int vg), .val (.ref a1), .val (.ref a117), .val (.int y0), .val (.int v143), .unset, .unset] [(.int vt), (.ref a117)])) _
  refine g_iload X141 hx (hb hby at_318) rfl ?_
  show Goes p.tables e below (T141.setTop (mkF m 320 #[.val (.int p0), .val (.int p1), .val (.int p2), .val (.int p3), .val (.int p4), .val (.int vsd), .val (.int vq), .val (.int vr), .val (.int vt), .val (.int vf), .val (.int vg), .val (.ref a1), .val (.ref a117), .val (.int y0), .val (.int v143), .unset, .unset] [(.int vf), (.int vt), (.ref a117)])) _
  refine g_iload X141 hx (hb hby at_320) rfl ?_
  show Goes p.tables e below (T141.setTop (mkF m 322 #[.val (.int p0), .val (.int p1), .val (.int p2), .val (.int p3), .val (.int p4), .val (.int vsd), .val (.int vq), .val (.int vr), .val (.int vt), .val (.int vf), .val (.int vg), .val (.ref a1), .val (.ref a117), .val (.int y0), .val (.int v143), .unset, .unset] [(.int vg), (.int vf), (.int vt), (.ref a117)])) _
  refine g_callV X141 hx hZ hown (by rw [hml]; rfl) e141 (K := "com/example/slidewise/slidewise/search/ManhattanTracker") (hw _ (List.mem_of_getElem? (i := 43) rfl)) (hw _ (List.mem_of_getElem? (i := 44) rfl)) (hw _ (List.mem_of_getElem? (i := 46) rfl)) (hw _ (List.mem_of_getElem? (i := 45) rfl)) (hw _ (List.mem_of_getElem? (i := 8) rfl)) (hw _ (List.mem_of_getElem? (i := 47) rfl)) fx137 (rmSb l Z a0 hw a117 vt vf vg T135.heap h0.size Z140 d126 ds126 vsd vq (y0 + (dt vsd vt.toInt.toNat vg.toInt.toNat - dt vsd vt.toInt.toNat vf.toInt.toNat)) S hsq hS16 ti126 ⟨by omega, ht.2⟩ hfr hto fS135 fD135 fV135 fx137 Ad135 ge119 ne132) [(.int vt), (.int vf), (.int vg)] rfl [] rfl (lenOf pd_9 rfl) (hb hby at_322) (by decide) 0 (by decide) (by decide) (by first | decide | exact Nat.le_refl _) (by decide) (by decide) (fun v T144 L144 X144 hQ144 => ?_)
  obtain ⟨rfl, Nc144, Kc144, fS144, fD144, fV144, Ad144⟩ := hQ144
  have fx145 : Exa Z T144.heap a1 "[B" := Exa.keep fx136 Kc144
  have fx146 : Exa Z T144.heap a117 "com/example/slidewise/slidewise/search/ManhattanTracker" := Exa.keep fx137 Kc144
  have fx147 : Ar Z T144.heap d126 .int ds126 := Ar.keep Ad135 Kc144 (ninS ne132 nin0)
  have N148 := Fr.app N142 Nc144
  have Z149 : h0.size ≤ T144.heap.size := Nat.le_trans Z140 Kc144.1
  show Goes p.tables e below (T144.setTop (mkF m 325 #[.val (.int p0), .val (.int p1), .val (.int p2), .val (.int p3), .val (.int p4), .val (.int vsd), .val (.int vq), .val (.int vr), .val (.int vt), .val (.int vf), .val (.int vg), .val (.ref a1), .val (.ref a117), .val (.int y0), .val (.int v143), .unset, .unset] [])) _
  refine g_aload X144 hx (hb hby at_325) rfl rfl ?_
  show Goes p.tables e below (T144.setTop (mkF m 327 #[.val (.int p0), .val (.int p1), .val (.int p2), .val (.int p3), .val (.int p4), .val (.int vsd), .val (.int vq), .val (.int vr), .val (.int vt), .val (.int vf), .val (.int vg), .val (.ref a1), .val (.ref a117), .val (.int y0), .val (.int v143), .unset, .unset] [(.ref a117)])) _
  refine g_callV X144 hx hZ hown (by rw [hml]; rfl) rfl (K := "com/example/slidewise/slidewise/search/ManhattanTracker") (hw _ (List.mem_of_getElem? (i := 33) rfl)) (hw _ (List.mem_of_getElem? (i := 34) rfl)) (hw _ (List.mem_of_getElem? (i := 36) rfl)) (hw _ (List.mem_of_getElem? (i := 35) rfl)) (hw _ (List.mem_of_getElem? (i := 8) rfl)) (hw _ (List.mem_of_getElem? (i := 37) rfl)) fx146 (rmVal l Z a0 hw a117 T144.heap h0.size Z149 ((y0 + (dt vsd vt.toInt.toNat vg.toInt.toNat - dt vsd vt.toInt.toNat vf.toInt.toNat)) + (dt vsd vt.toInt.toNat vf.toInt.toNat - dt vsd vt.toInt.toNat vg.toInt.toNat)) fV144) [] rfl [] rfl (lenOf pd_7 rfl) (hb hby at_327) (by decide) 0 (by decide) (by decide) (by first | decide | exact Nat.le_refl _) (by decide) (by decide) (fun v T150 L150 X150 hQ150 => ?_)
  obtain ⟨rfl, e150, rfl⟩ := hQ150
  have N151 := Fr.app N148 (Fr.nil h0.size)
  show Goes p.tables e below (T150.setTop (mkF m 330 #[.val (.int p0), .val (.int p1), .val (.int p2), .val (.int p3), .val (.int p4), .val (.int vsd), .val (.int vq), .val (.int vr), .val (.int vt), .val (.int vf), .val (.int vg), .val (.ref a1), .val (.ref a117), .val (.int y0), .val (.int v143), .unset, .unset] [(.int ((y0 + (dt vsd vt.toInt.toNat vg.toInt.toNat - dt vsd vt.toInt.toNat vf.toInt.toNat)) + (dt vsd vt.toInt.toNat vf.toInt.toNat - dt vsd vt.toInt.toNat vg.toInt.toNat)))])) _
  obtain ⟨v152, hv152⟩ : ∃ z : Int32, z = ((y0 + (dt vsd vt.toInt.toNat vg.toInt.toNat - dt vsd vt.toInt.toNat vf.toInt.toNat)) + (dt vsd vt.toInt.toNat vf.toInt.toNat - dt vsd vt.toInt.toNat vg.toInt.toNat)) := ⟨_, rfl⟩
  refine g_nameI hv152 ?_
  show Goes p.tables e below (T150.setTop (mkF m 330 #[.val (.int p0), .val (.int p1), .val (.int p2), .val (.int p3), .val (.int p4), .val (.int vsd), .val (.int vq), .val (.int vr), .val (.int vt), .val (.int vf), .val (.int vg), .val (.ref a1), .val (.ref a117), .val (.int y0), .val (.int v143), .unset, .unset] [(.int v152)])) _
  refine g_istore X150 hx (hb hby at_330) (l' := #[.val (.int p0), .val (.int p1), .val (.int p2), .val (.int p3), .val (.int p4), .val (.int vsd), .val (.int vq), .val (.int vr), .val (.int vt), .val (.int vf), .val (.int vg), .val (.ref a1), .val (.ref a117), .val (.int y0), .val (.int v143), .val (.int v152), .unset]) rfl ?_
  show Goes p.tables e below (T150.setTop (mkF m 332 #[.val (.int p0), .val (.int p1), .val (.int p2), .val (.int p3), .val (.int p4), .val (.int vsd), .val (.int vq), .val (.int vr), .val (.int vt), .val (.int vf), .val (.int vg), .val (.ref a1), .val (.ref a117), .val (.int y0), .val (.int v143), .val (.int v152), .unset] [])) _
  refine g_iload X150 hx (hb hby at_332) rfl ?_
  show Goes p.tables e below (T150.setTop (mkF m 334 #[.val (.int p0), .val (.int p1), .val (.int p2), .val (.int p3), .val (.int p4), .val (.int vsd), .val (.int vq), .val (.int vr), .val (.int vt), .val (.int vf), .val (.int vg), .val (.ref a1), .val (.ref a117), .val (.int y0), .val (.int v143), .val (.int v152), .unset] [(.int vsd)])) _
  refine g_iload X150 hx (hb hby at_334) rfl ?_
  show Goes p.tables e below (T150.setTop (mkF m 336 #[.val (.int p0), .val (.int p1), .val (.int p2), .val (.int p3), .val (.int p4), .val (.int vsd), .val (.int vq), .val (.int vr), .val (.int vt), .val (.int vf), .val (.int vg), .val (.ref a1), .val (.ref a117), .val (.int y0), .val (.int v143), .val (.int v152), .unset] [(.int vt), (.int vsd)])) _
  refine g_iload X150 hx (hb hby at_336) rfl ?_
  show Goes p.tables e below (T150.setTop (mkF m 338 #[.val (.int p0), .val (.int p1), .val (.int p2), .val (.int p3), .val (.int p4), .val (.int vsd), .val (.int vq), .val (.int vr), .val (.int vt), .val (.int vf), .val (.int vg), .val (.ref a1), .val (.ref a117), .val (.int y0), .val (.int v143), .val (.int v152), .unset] [(.int vf), (.int vt), (.int vsd)])) _
  refine g_callS X150 hx hZ hown (by rw [hml]; rfl) e150 (hw _ (List.mem_of_getElem? (i := 48) rfl)) (hw _ (List.mem_of_getElem? (i := 49) rfl)) (hw _ (List.mem_of_getElem? (i := 4) rfl)) (hw _ (List.mem_of_getElem? (i := 50) rfl)) (rmDist l Z a0 hw vsd vt vf T144.heap hsd0) [(.int vsd), (.int vt), (.int vf)] rfl [] rfl (lenOf pd_10 rfl) (hb hby at_338) (by decide) 0 (by decide) (by decide) (by first | decide | exact Nat.le_refl _) (by decide) (by decide) (fun v T153 L153 X153 hQ153 => ?_)
  obtain ⟨rfl, e153, rfl⟩ := hQ153
  have N154 := Fr.app N151 (Fr.nil h0.size)
  show Goes p.tables e below (T153.setTop (mkF m 341 #[.val (.int p0), .val (.int p1), .val (.int p2), .val (.int p3), .val (.int p4), .val (.int vsd), .val (.int vq), .val (.int vr), .val (.int vt), .val (.int vf), .val (.int vg), .val (.ref a1), .val (.ref a117), .val (.int y0), .val (.int v143), .val (.int v152), .unset] [(.int (dsV vsd vt vf))])) _
  refine g_iload X153 hx (hb hby at_341) rfl ?_
  show Goes p.tables e below (T153.setTop (mkF m 343 #[.val (.int p0), .val (.int p1), .val (.int p2), .val (.int p3), .val (.int p4), .val (.int vsd), .val (.int vq), .val (.int vr), .val (.int vt), .val (.int vf), .val (.int vg), .val (.ref a1), .val (.ref a117), .val (.int y0), .val (.int v143), .val (.int v152), .unset] [(.int vsd), (.int (dsV vsd vt vf))])) _
  refine g_iload X153 hx (hb hby at_343) rfl ?_
  show Goes p.tables e below (T153.setTop (mkF m 345 #[.val (.int p0), .val (.int p1), .val (.int p2), .val (.int p3), .val (.int p4), .val (.int vsd), .val (.int vq), .val (.int vr), .val (.int vt), .val (.int vf), .val (.int vg), .val (.ref a1), .val (.ref a117), .val (.int y0), .val (.int v143), .val (.int v152), .unset] [(.int vt), (.int vsd), (.int (dsV vsd vt vf))])) _
  refine g_iload X153 hx (hb hby at_345) rfl ?_
  show Goes p.tables e below (T153.setTop (mkF m 347 #[.val (.int p0), .val (.int p1), .val (.int p2), .val (.int p3), .val (.int p4), .val (.int vsd), .val (.int vq), .val (.int vr), .val (.int vt), .val (.int vf), .val (.int vg), .val (.ref a1), .val (.ref a117), .val (.int y0), .val (.int v143), .val (.int v152), .unset] [(.int vg), (.int vt), (.int vsd), (.int (dsV vsd vt vf))])) _
  refine g_callS X153 hx hZ hown (by rw [hml]; rfl) e153 (hw _ (List.mem_of_getElem? (i := 48) rfl)) (hw _ (List.mem_of_getElem? (i := 49) rfl)) (hw _ (List.mem_of_getElem? (i := 4) rfl)) (hw _ (List.mem_of_getElem? (i := 50) rfl)) (rmDist l Z a0 hw vsd vt vg T144.heap hsd0) [(.int vsd), (.int vt), (.int vg)] rfl [(.int (dsV vsd vt vf))] rfl (lenOf pd_10 rfl) (hb hby at_347) (by decide) 1 (by decide) (by decide) (by first | decide | exact Nat.le_refl _) (by decide) (by decide) (fun v T155 L155 X155 hQ155 => ?_)
  obtain ⟨rfl, e155, rfl⟩ := hQ155
  have N156 := Fr.app N154 (Fr.nil h0.size)
  show Goes p.tables e below (T155.setTop (mkF m 350 #[.val (.int p0), .val (.int p1), .val (.int p2), .val (.int p3), .val (.int p4), .val (.int vsd), .val (.int vq), .val (.int vr), .val (.int vt), .val (.int vf), .val (.int vg), .val (.ref a1), .val (.ref a117), .val (.int y0), .val (.int v143), .val (.int v152), .unset] [(.int (dsV vsd vt vg)), (.int (dsV vsd vt vf))])) _
  refine g_isub X155 hx (hb hby at_350) ?_
  show Goes p.tables e below (T155.setTop (mkF m 351 #[.val (.int p0), .val (.int p1), .val (.int p2), .val (.int p3), .val (.int p4), .val (.int vsd), .val (.int vq), .val (.int vr), .val (.int vt), .val (.int vf), .val (.int vg), .val (.ref a1), .val (.ref a117), .val (.int y0), .val (.int v143), .val (.int v152), .unset] [(.int ((dsV vsd vt vf) - (dsV vsd vt vg)))])) _
  obtain ⟨v157, hv157⟩ : ∃ z : Int32, z = ((dsV vsd vt vf) - (dsV vsd vt vg)) := ⟨_, rfl⟩
  refine g_nameI hv157 ?_
  show Goes p.tables e below (T155.setTop (mkF m 351 #[.val (.int p0), .val (.int p1), .val (.int p2), .val (.int p3), .val (.int p4), .val (.int vsd), .val (.int vq), .val (.int vr), .val (.int vt), .val (.int vf), .val (.int vg), .val (.ref a1), .val (.ref a117), .val (.int y0), .val (.int v143), .val (.int v152), .unset] [(.int v157)])) _
  refine g_istore X155 hx (hb hby at_351) (l' := #[.val (.int p0), .val (.int p1), .val (.int p2), .val (.int p3), .val (.int p4), .val (.int vsd), .val (.int vq), .val (.int vr), .val (.int vt), .val (.int vf), .val (.int vg), .val (.ref a1), .val (.ref a117), .val (.int y0), .val (.int v143), .val (.int v152), .val (.int v157)]) rfl ?_
  show Goes p.tables e below (T155.setTop (mkF m 353 #[.val (.int p0), .val (.int p1), .val (.int p2), .val (.int p3), .val (.int p4), .val (.int vsd), .val (.int vq), .val (.int vr), .val (.int vt), .val (.int vf), .val (.int vg), .val (.ref a1), .val (.ref a117), .val (.int y0), .val (.int v143), .val (.int v152), .val (.int v157)] [])) _
  refine g_iload X155 hx (hb hby at_353) rfl ?_
  show Goes p.tables e below (T155.setTop (mkF m 355 #[.val (.int p0), .val (.int p1), .val (.int p2), .val (.int p3), .val (.int p4), .val (.int vsd), .val (.int vq), .val (.int vr), .val (.int vt), .val (.int vf), .val (.int vg), .val (.ref a1), .val (.ref a117), .val (.int y0), .val (.int v143), .val (.int v152), .val (.int v157)] [(.int v152)])) _
  refine g_iload X155 hx (hb hby at_355) rfl ?_
  show Goes p.tables e below (T155.setTop (mkF m 357 #[.val (.int p0), .val (.int p1), .val (.int p2), .val (.int p3), .val (.int p4), .val (.int vsd), .val (.int vq), .val (.int vr), .val (.int vt), .val (.int vf), .val (.int vg), .val (.ref a1), .val (.ref a117), .val (.int y0), .val (.int v143), .val (.int v152), .val (.int v157)] [(.int v143), (.int v152)])) _
  refine g_isub X155 hx (hb hby at_357) ?_
  show Goes p.tables e below (T155.setTop (mkF m 358 #[.val (.int p0), .val (.int p1), .val (.int p2), .val (.int p3), .val (.int p4), .val (.int vsd), .val (.int vq), .val (.int vr), .val (.int vt), .val (.int vf), .val (.int vg), .val (.ref a1), .val (.ref a117), .val (.int y0), .val (.int v143), .val (.int v152), .val (.int v157)] [(.int (v152 - v143))])) _
  refine g_iload X155 hx (hb hby at_358) rfl ?_
  show Goes p.tables e below (T155.setTop (mkF m 360 #[.val (.int p0), .val (.int p1), .val (.int p2), .val (.int p3), .val (.int p4), .val (.int vsd), .val (.int vq), .val (.int vr), .val (.int vt), .val (.int vf), .val (.int vg), .val (.ref a1), .val (.ref a117), .val (.int y0), .val (.int v143), .val (.int v152), .val (.int v157)] [(.int v157), (.int (v152 - v143))])) _
  have c360 : (v152 - v143) = v157 := (by rw [hv152, hv143, hv157, ← own_dsdt ht hfr, ← own_dsdt ht hto]; exact (own_back _ _ _).1)
  refine g_icmp_ne X155 hx (hb hby at_360) (by decide) (pc' := 374) (by decide) (fun q => absurd c360 q) (fun _ => ?_)
  show Goes p.tables e below (T155.setTop (mkF m 363 #[.val (.int p0), .val (.int p1), .val (.int p2), .val (.int p3), .val (.int p4), .val (.int vsd), .val (.int vq), .val (.int vr), .val (.int vt), .val (.int vf), .val (.int vg), .val (.ref a1), .val (.ref a117), .val (.int y0), .val (.int v143), .val (.int v152), .val (.int v157)] [])) _
  refine g_iload X155 hx (hb hby at_363) rfl ?_
  show Goes p.tables e below (T155.setTop (mkF m 365 #[.val (.int p0), .val (.int p1), .val (.int p2), .val (.int p3), .val (.int p4), .val (.int vsd), .val (.int vq), .val (.int vr), .val (.int vt), .val (.int vf), .val (.int vg), .val (.ref a1), .val (.ref a117), .val (.int y0), .val (.int v143), .val (.int v152), .val (.int v157)] [(.int v152)])) _
  refine g_iload X155 hx (hb hby at_365) rfl ?_
  show Goes p.tables e below (T155.setTop (mkF m 367 #[.val (.int p0), .val (.int p1), .val (.int p2), .val (.int p3), .val (.int p4), .val (.int vsd), .val (.int vq), .val (.int vr), .val (.int vt), .val (.int vf), .val (.int vg), .val (.ref a1), .val (.ref a117), .val (.int y0), .val (.int v143), .val (.int v152), .val (.int v157)] [(.int y0), (.int v152)])) _
  have c367 : v152 = y0 := (by rw [hv152]; exact (own_back _ _ _).2)
  refine g_icmp_ne X155 hx (hb hby at_367) (by decide) (pc' := 374) (by decide) (fun q => absurd c367 q) (fun _ => ?_)
  show Goes p.tables e below (T155.setTop (mkF m 370 #[.val (.int p0), .val (.int p1), .val (.int p2), .val (.int p3), .val (.int p4), .val (.int vsd), .val (.int vq), .val (.int vr), .val (.int vt), .val (.int vf), .val (.int vg), .val (.ref a1), .val (.ref a117), .val (.int y0), .val (.int v143), .val (.int v152), .val (.int v157)] [])) _
  refine g_iconst X155 hx (1 : Int32) (hb hby at_370) rfl ?_
  show Goes p.tables e below (T155.setTop (mkF m 371 #[.val (.int p0), .val (.int p1), .val (.int p2), .val (.int p3), .val (.int p4), .val (.int vsd), .val (.int vq), .val (.int vr), .val (.int vt), .val (.int vf), .val (.int vg), .val (.ref a1), .val (.ref a117), .val (.int y0), .val (.int v143), .val (.int v152), .val (.int v157)] [(.int (1 : Int32))])) _
  refine g_goto X155 hx (hb hby at_371) (by decide) (pc' := 375) (by decide) ?_
  show Goes p.tables e below (T155.setTop (mkF m 375 #[.val (.int p0), .val (.int p1), .val (.int p2), .val (.int p3), .val (.int p4), .val (.int vsd), .val (.int vq), .val (.int vr), .val (.int vt), .val (.int vf), .val (.int vg), .val (.ref a1), .val (.ref a117), .val (.int y0), .val (.int v143), .val (.int v152), .val (.int v157)] [(.int (1 : Int32))])) _
  exact g_retZ X155 hx (hz := (by decide)) hret hlk (hb hby at_375) (by decide) (by decide) ⟨rfl, N156⟩
set_option maxRecDepth 65536 in
set_option maxHeartbeats 40000000 in
theorem comes_1 {Post : Tables → Env → Array Value → State → Outcome → State → Prop} (hpost : ∀ tb e args s v u, (limb_1_1.after args s (.returned v) u = true ∧ limb_1_2.after args s (.returned v) u = true ∧ True) → FrameEnd s (.returned v) u (Jvm.fieldLocs frame_1_writes args s ++ Jvm.arrayLocs frame_1_arrays args s ++ Jvm.staticLocs frame_1_statics s) 16 640 → Post tb e args s (.returned v) u) :
    ArmFor flags0 classFile x code maxLocals ret World_1 tables_1 room_1 Calls_1 rest_1 Pre_1 Post := by
  intro l hfl _ _ p e ha hc hk s m args below hf hA hF happ hP
  obtain ⟨hcalls, hrest, hpre⟩ := hP
  obtain ⟨-, -, -, hnamed, -, -, -, hat⟩ := (Spec.applies_iff hf).mp happ
  obtain ⟨hg, hn⟩ := and_e (Cond.before_iff.mp (show (Jvm.Cond.and given_1 narrow_1).before args s = true from hpre))
  obtain ⟨h1, hg1⟩ := and_e hg
  obtain ⟨w0, w1, w2, w3, w4, rfl⟩ : ∃ w0 w1 w2 w3 w4 : Value, args = #[w0, w1, w2, w3, w4] := by
    have hs : args.size = 5 := by simpa [Cond.value, given_1] using h1
    obtain ⟨L⟩ := args
    match L, hs with
    | [w0, w1, w2, w3, w4], _ => exact ⟨w0, w1, w2, w3, w4, rfl⟩
  have hw := fun d (hd : d ∈ tables_1) => atoms_spec (ws := Jvm.Cond.code x code maxLocals ret :: tables_1) hat d (List.mem_cons_of_mem _ hd)
  obtain ⟨ha0, hg2⟩ := and_e hg1
  obtain ⟨i0, ei0⟩ := is_v ha0
  obtain rfl : w0 = (.int i0) := Option.some.inj ei0
  obtain ⟨ha1, hg3⟩ := and_e hg2
  obtain ⟨i1, ei1⟩ := is_v ha1
  obtain rfl : w1 = (.int i1) := Option.some.inj ei1
  obtain ⟨ha2, hg4⟩ := and_e hg3
  obtain ⟨i2, ei2⟩ := is_v ha2
  obtain rfl : w2 = (.int i2) := Option.some.inj ei2
  obtain ⟨ha3, hg5⟩ := and_e hg4
  obtain ⟨i3, ei3⟩ := is_v ha3
  obtain rfl : w3 = (.int i3) := Option.some.inj ei3
  obtain ⟨i4, ei4⟩ := is_v hg5
  obtain rfl : w4 = (.int i4) := Option.some.inj ei4
  obtain ⟨n, o, h1, h2, h3, _, L, rfl, ⟨rfl, N⟩, hq⟩ := law l s _ hw tables_1 i0 i1 i2 i3 i4 s.heap  p e ha hc hk s m _ below hf ((Spec.applies_iff_loose hf).mp happ).1 ⟨rfl, State.Warmed39.refl s, rfl⟩ trivial
  refine ⟨n, _, h1, h2, h3, hpost _ _ _ _ _ _ ⟨Cond.after_iff.mpr rfl, Cond.after_iff.mpr (eq_i res_at (Term.int_eval (1)) rfl), trivial⟩ ⟨hq.1, hq.2.1, (hq.2.2.sift fun y hy => Or.inr (N y hy)).mono (by decide) (by decide)⟩⟩
theorem main_1_1 : Claimed_1_1 := comes_1 fun _ _ _ _ _ _ h hF => ⟨h.1, hF⟩
theorem main_1_2 : Claimed_1_2 := comes_1 fun _ _ _ _ _ _ h hF => ⟨h.2.1, hF⟩
end Jvm.Pilot.@@N@@
namespace Jvm.Pilot.@@N@@
open Jvm Jvm.ClassFile Sem Op Lib Jvm.Free Jvm.Stand Jvm.Pilot.@@N@@.Jvm.D
/-! MADE BY PROGRAM (witnessworld.py) out of the Statement's table words and the real class files: 13 classes; the members and pool entries that the words name. The judged class is class 1, her method 3. -/
namespace start1
open Jvm.ClassFile
def u (s : String) : CpInfo := .utf8 (stringToUtf16 s)
/-- a pool by its gaps: so many unusable entries, then the entry; so many at the end -/
def gap : Nat → List CpInfo → List CpInfo
  | 0, r => r
  | n + 1, r => .unusable :: gap n r
def poolList (es : List (Nat × CpInfo)) (last : Nat) : List CpInfo := es.foldr (fun e r => gap e.1 (e.2 :: r)) (gap last [])
def pool (es : List (Nat × CpInfo)) (last : Nat) : Array CpInfo := ⟨poolList es last⟩
def fileOf (pool : Array CpInfo) (this : Nat) (attrs : Array Attribute := #[]) (ms : Array MethodInfo := #[]) (fl : Nat := 33) (sup : Nat := 0) (ifs : Array Nat := #[]) (fds : Array FieldInfo := #[]) : ClassFile where
  minorVersion := 0
  majorVersion := 65
  constantPool := pool
  accessFlags := fl
  thisClass := this
  superClass := sup
  interfaces := ifs
  fields := fds
  methods := ms
  attributes := attrs
def plain (name : String) (sup : Option ClassId) : Class where
  name := name
  kind := .ordinary
  loader := none
  accessFlags := 33
  super := sup
  interfaces := #[]
  cf := none
  fields := #[]
  methods := #[]
  instanceTypes := #[]
  staticTypes := #[]
  resolved := #[]
  callSites := []
  init := .initialized
  statics := none
  mirror := none

def pool0 : Array CpInfo := pool [(5, u "<init>"), (0, u "()V"), (1, .class_ 10), (1, u "java/lang/Object")] 113

def k0c0 : Code := { maxStack := 0, maxLocals := 1, code := object_method_1_code, exceptionTable := #[], attributes := #[] }
def k0m0 : Method := { name := "<init>", desc := "()V", sig := { parameters := [], returnType := none }, accessFlags := 1, code := some k0c0 }
/-- java/lang/Object -/
def k0 : Class := { plain "java/lang/Object" none with
  accessFlags := 33
  interfaces := #[]
  cf := some (fileOf pool0 8 #[] #[{ accessFlags := 1, nameIndex := 5, descriptorIndex := 6, attributes := #[] }] 33 0 #[] #[])
  fields := #[]
  methods := #[k0m0]
  instanceTypes := #[]
  staticTypes := #[]
  resolved := Array.replicate 124 none
  statics := none }

def pool1 : Array CpInfo := pool [(2, .class_ 4), (1, u "java/lang/Object"), (0, u "<init>"), (0, u "()V"), (0, .methodref 8 9), (0, .class_ 10), (0, .nameAndType 11 12), (0, u "java/lang/Math"), (0, u "abs"), (0, u "(I)I"), (0, .integer 2147483647), (0, .methodref 15 16), (0, .class_ 17), (0, .nameAndType 18 19), (0, u "com/example/slidewise/slidewise/search/ManhattanTrackerSlideBackPinLaw"), (0, u "rot"), (0, u "(III)B"), (0, .class_ 21), (0, u "com/example/slidewise/slidewise/search/ManhattanTracker"), (0, .methodref 20 23), (0, .nameAndType 5 24), (0, u "(I[B)V"), (0, .methodref 20 26), (0, .nameAndType 27 28), (0, u "value"), (0, u "()I"), (0, .methodref 20 30), (0, .nameAndType 31 32), (0, u "slide"), (0, u "(III)V"), (0, .methodref 20 34), (0, .nameAndType 35 32), (0, u "slideBack"), (0, .methodref 15 37), (0, .nameAndType 38 39), (0, u "dist"), (0, u "(III)I"), (2, u "law"), (0, u "(IIIII)Z")] 5

def k1m0 : Method := { name := "<init>", desc := "()V", sig := { parameters := [], returnType := none }, accessFlags := 1, code := none }
def k1c1 : Code := { maxStack := 3, maxLocals := 6, code := method_2_code, exceptionTable := #[], attributes := #[] }
def k1m1 : Method := { name := "dist", desc := "(III)I", sig := { parameters := [.int, .int, .int], returnType := some .int }, accessFlags := 10, code := some k1c1 }
def k1c2 : Code := { maxStack := 2, maxLocals := 3, code := method_3_code, exceptionTable := #[], attributes := #[] }
def k1m2 : Method := { name := "rot", desc := "(III)B", sig := { parameters := [.int, .int, .int], returnType := some .byte }, accessFlags := 10, code := some k1c2 }
def k1c3 : Code := { maxStack := 5, maxLocals := 17, code := code, exceptionTable := #[], attributes := #[] }
def k1m3 : Method := { name := "law", desc := "(IIIII)Z", sig := { parameters := [.int, .int, .int, .int, .int], returnType := some .boolean }, accessFlags := 9, code := some k1c3 }
/-- com/example/slidewise/slidewise/search/ManhattanTrackerSlideBackPinLaw -/
def k1 : Class := { plain "com/example/slidewise/slidewise/search/ManhattanTrackerSlideBackPinLaw" (some 0) with
  accessFlags := 49
  interfaces := #[]
  cf := some (fileOf pool1 15 #[] #[{ accessFlags := 1, nameIndex := 5, descriptorIndex := 6, attributes := #[] }, { accessFlags := 10, nameIndex := 38, descriptorIndex := 39, attributes := #[] }, { accessFlags := 10, nameIndex := 18, descriptorIndex := 19, attributes := #[] }, { accessFlags := 9, nameIndex := 42, descriptorIndex := 43, attributes := #[] }] 49 2 #[] #[])
  fields := #[]
  methods := #[k1m0, k1m1, k1m2, k1m3]
  instanceTypes := #[]
  staticTypes := #[]
  resolved := Array.replicate 49 none
  statics := none }

def pool2 : Array CpInfo := pool [(1, .class_ 2), (0, u "com/example/slidewise/slidewise/search/BoundTracker"), (0, .class_ 4), (0, u "java/lang/Object")] 7

/-- com/example/slidewise/slidewise/search/BoundTracker -/
def k2 : Class := { plain "com/example/slidewise/slidewise/search/BoundTracker" (some 0) with
  accessFlags := 1536
  interfaces := #[]
  cf := some (fileOf pool2 1 #[] #[] 1536 3 #[] #[])
  fields := #[]
  methods := #[]
  instanceTypes := #[]
  staticTypes := #[]
  resolved := Array.replicate 12 none
  statics := none }

def pool3 : Array CpInfo := pool [(1, .methodref 2 3), (0, .class_ 4), (0, .nameAndType 5 6), (0, u "java/lang/Object"), (0, u "<init>"), (0, u "()V"), (0, .fieldref 8 9), (0, .class_ 10), (0, .nameAndType 11 12), (0, u "com/example/slidewise/slidewise/search/ManhattanTracker"), (0, u "squares"), (0, u "I"), (0, .fieldref 8 14), (0, .nameAndType 15 16), (0, u "distances"), (0, u "[I"), (0, .methodref 18 19), (0, .class_ 20), (0, .nameAndType 21 22), (0, u "com/example/slidewise/slidewise/model/Puzzle"), (0, u "distance"), (0, u "(III)I"), (0, .fieldref 8 24), (0, .nameAndType 25 12), (0, u "value"), (0, .class_ 27), (0, u "com/example/slidewise/slidewise/search/BoundTracker"), (0, u "(I[B)V"), (5, u "()I"), (0, u "slide"), (0, u "(III)V"), (0, u "slideBack")] 2

def k3c0 : Code := { maxStack := 5, maxLocals := 5, code := prog_52_method_1_code, exceptionTable := #[], attributes := #[] }
def k3m0 : Method := { name := "<init>", desc := "(I[B)V", sig := { parameters := [.int, (.array .byte)], returnType := none }, accessFlags := 0, code := some k3c0 }
def k3c1 : Code := { maxStack := 1, maxLocals := 1, code := prog_52_method_2_code, exceptionTable := #[], attributes := #[] }
def k3m1 : Method := { name := "value", desc := "()I", sig := { parameters := [], returnType := some .int }, accessFlags := 1, code := some k3c1 }
def k3c2 : Code := { maxStack := 6, maxLocals := 4, code := prog_52_method_3_code, exceptionTable := #[], attributes := #[] }
def k3m2 : Method := { name := "slide", desc := "(III)V", sig := { parameters := [.int, .int, .int], returnType := none }, accessFlags := 1, code := some k3c2 }
def k3c3 : Code := { maxStack := 6, maxLocals := 4, code := prog_52_method_4_code, exceptionTable := #[], attributes := #[] }
def k3m3 : Method := { name := "slideBack", desc := "(III)V", sig := { parameters := [.int, .int, .int], returnType := none }, accessFlags := 1, code := some k3c3 }
/-- com/example/slidewise/slidewise/search/ManhattanTracker -/
def k3 : Class := { plain "com/example/slidewise/slidewise/search/ManhattanTracker" (some 0) with
  accessFlags := 48
  interfaces := #[2]
  cf := some (fileOf pool3 8 #[] #[{ accessFlags := 0, nameIndex := 5, descriptorIndex := 28, attributes := #[] }, { accessFlags := 1, nameIndex := 25, descriptorIndex := 34, attributes := #[] }, { accessFlags := 1, nameIndex := 35, descriptorIndex := 36, attributes := #[] }, { accessFlags := 1, nameIndex := 37, descriptorIndex := 36, attributes := #[] }] 48 2 #[26] #[{ accessFlags := 18, nameIndex := 11, descriptorIndex := 12, attributes := #[] }, { accessFlags := 18, nameIndex := 15, descriptorIndex := 16, attributes := #[] }, { accessFlags := 2, nameIndex := 25, descriptorIndex := 12, attributes := #[] }])
  fields := #[{ name := "squares", type := .int, accessFlags := 18, slot := 0, constantValue := 0 }, { name := "distances", type := (.array .int), accessFlags := 18, slot := 1, constantValue := 0 }, { name := "value", type := .int, accessFlags := 2, slot := 2, constantValue := 0 }]
  methods := #[k3m0, k3m1, k3m2, k3m3]
  instanceTypes := #[.int, (.array .int), .int]
  staticTypes := #[]
  resolved := Array.replicate 40 none
  statics := none }

def pool4 : Array CpInfo := pool [(1, .class_ 2), (0, u "com/example/slidewise/slidewise/model/Grid"), (0, .class_ 4), (0, u "java/lang/Object")] 6

/-- com/example/slidewise/slidewise/model/Grid -/
def k4 : Class := { plain "com/example/slidewise/slidewise/model/Grid" (some 0) with
  accessFlags := 1537
  interfaces := #[]
  cf := some (fileOf pool4 1 #[] #[] 1537 3 #[] #[])
  fields := #[]
  methods := #[]
  instanceTypes := #[]
  staticTypes := #[]
  resolved := Array.replicate 11 none
  statics := none }

def pool5 : Array CpInfo := pool [(2, .class_ 4), (1, u "java/lang/Object"), (3, .class_ 10), (1, u "com/example/slidewise/slidewise/model/Puzzle"), (0, u "side"), (0, u "I"), (2, u "cells"), (0, u "[B"), (2, u "blank"), (24, .methodref 8 45), (0, .nameAndType 46 47), (0, u "goalCell"), (0, u "(II)I"), (4, .methodref 53 54), (0, .class_ 55), (0, .nameAndType 56 57), (0, u "java/lang/Math"), (0, u "abs"), (0, u "(I)I"), (1, .class_ 61), (1, u "com/example/slidewise/slidewise/model/Puzzle$1"), (38, u "distance"), (0, u "(III)I"), (8, .class_ 111), (0, u "com/example/slidewise/slidewise/model/Grid"), (0, u "MIN_SIDE"), (2, u "MAX_SIDE")] 40

def k5c0 : Code := { maxStack := 2, maxLocals := 2, code := prog_34_method_4_code, exceptionTable := #[], attributes := #[] }
def k5m0 : Method := { name := "goalCell", desc := "(II)I", sig := { parameters := [.int, .int], returnType := some .int }, accessFlags := 9, code := some k5c0 }
def k5c1 : Code := { maxStack := 4, maxLocals := 4, code := prog_34_method_5_code, exceptionTable := #[], attributes := #[] }
def k5m1 : Method := { name := "distance", desc := "(III)I", sig := { parameters := [.int, .int, .int], returnType := some .int }, accessFlags := 9, code := some k5c1 }
/-- com/example/slidewise/slidewise/model/Puzzle -/
def k5 : Class := { plain "com/example/slidewise/slidewise/model/Puzzle" (some 0) with
  accessFlags := 49
  interfaces := #[4]
  cf := some (fileOf pool5 8 #[.nestMembers #[59]] #[{ accessFlags := 9, nameIndex := 46, descriptorIndex := 47, attributes := #[] }, { accessFlags := 9, nameIndex := 100, descriptorIndex := 101, attributes := #[] }] 49 2 #[110] #[{ accessFlags := 25, nameIndex := 112, descriptorIndex := 12, attributes := #[] }, { accessFlags := 25, nameIndex := 115, descriptorIndex := 12, attributes := #[] }, { accessFlags := 18, nameIndex := 11, descriptorIndex := 12, attributes := #[] }, { accessFlags := 18, nameIndex := 15, descriptorIndex := 16, attributes := #[] }, { accessFlags := 18, nameIndex := 19, descriptorIndex := 12, attributes := #[] }])
  fields := #[{ name := "MIN_SIDE", type := .int, accessFlags := 25, slot := 0, constantValue := 0 }, { name := "MAX_SIDE", type := .int, accessFlags := 25, slot := 1, constantValue := 0 }, { name := "side", type := .int, accessFlags := 18, slot := 0, constantValue := 0 }, { name := "cells", type := (.array .byte), accessFlags := 18, slot := 1, constantValue := 0 }, { name := "blank", type := .int, accessFlags := 18, slot := 2, constantValue := 0 }]
  methods := #[k5m0, k5m1]
  instanceTypes := #[.int, (.array .byte), .int]
  staticTypes := #[.int, .int]
  resolved := Array.replicate 156 none
  statics := none }

def pool6 : Array CpInfo := pool [(1, .class_ 2), (0, u "java/lang/Math"), (1, .class_ 6), (1, u "java/lang/Object"), (0, u "<init>"), (0, u "()V"), (89, .class_ 100), (1, u "java/lang/Math$RandomNumberGeneratorHolder"), (23, u "abs"), (34, u "(I)I"), (12, u "negativeZeroFloatBits"), (0, u "J"), (2, u "negativeZeroDoubleBits"), (68, u "$assertionsDisabled"), (0, u "Z"), (91, u "twoToTheDoubleScaleDown"), (0, u "D"), (4, u "twoToTheDoubleScaleUp"), (9, u "E"), (3, u "PI"), (2, u "TAU"), (2, u "DEGREES_TO_RADIANS"), (0, u "RADIANS_TO_DEGREES")] 94

def k6m0 : Method := { name := "<init>", desc := "()V", sig := { parameters := [], returnType := none }, accessFlags := 2, code := none }
def k6c1 : Code := { maxStack := 1, maxLocals := 1, code := jdk_29_method_59_code, exceptionTable := #[], attributes := #[] }
def k6m1 : Method := { name := "abs", desc := "(I)I", sig := { parameters := [.int], returnType := some .int }, accessFlags := 9, code := some k6c1 }
/-- java/lang/Math -/
def k6 : Class := { plain "java/lang/Math" (some 0) with
  accessFlags := 49
  interfaces := #[]
  cf := some (fileOf pool6 1 #[.nestMembers #[98]] #[{ accessFlags := 2, nameIndex := 7, descriptorIndex := 8, attributes := #[] }, { accessFlags := 9, nameIndex := 124, descriptorIndex := 159, attributes := #[] }] 49 4 #[] #[{ accessFlags := 25, nameIndex := 354, descriptorIndex := 339, attributes := #[] }, { accessFlags := 25, nameIndex := 358, descriptorIndex := 339, attributes := #[] }, { accessFlags := 25, nameIndex := 361, descriptorIndex := 339, attributes := #[] }, { accessFlags := 26, nameIndex := 364, descriptorIndex := 339, attributes := #[] }, { accessFlags := 26, nameIndex := 365, descriptorIndex := 339, attributes := #[] }, { accessFlags := 26, nameIndex := 172, descriptorIndex := 173, attributes := #[] }, { accessFlags := 26, nameIndex := 176, descriptorIndex := 173, attributes := #[] }, { accessFlags := 8, nameIndex := 344, descriptorIndex := 339, attributes := #[] }, { accessFlags := 8, nameIndex := 338, descriptorIndex := 339, attributes := #[] }, { accessFlags := 4120, nameIndex := 245, descriptorIndex := 246, attributes := #[] }])
  fields := #[{ name := "E", type := .double, accessFlags := 25, slot := 0, constantValue := 0 }, { name := "PI", type := .double, accessFlags := 25, slot := 1, constantValue := 0 }, { name := "TAU", type := .double, accessFlags := 25, slot := 2, constantValue := 0 }, { name := "DEGREES_TO_RADIANS", type := .double, accessFlags := 26, slot := 3, constantValue := 0 }, { name := "RADIANS_TO_DEGREES", type := .double, accessFlags := 26, slot := 4, constantValue := 0 }, { name := "negativeZeroFloatBits", type := .long, accessFlags := 26, slot := 5, constantValue := 0 }, { name := "negativeZeroDoubleBits", type := .long, accessFlags := 26, slot := 6, constantValue := 0 }, { name := "twoToTheDoubleScaleUp", type := .double, accessFlags := 8, slot := 7, constantValue := 0 }, { name := "twoToTheDoubleScaleDown", type := .double, accessFlags := 8, slot := 8, constantValue := 0 }, { name := "$assertionsDisabled", type := .boolean, accessFlags := 4120, slot := 9, constantValue := 0 }]
  methods := #[k6m0, k6m1]
  instanceTypes := #[]
  staticTypes := #[.double, .double, .double, .double, .double, .long, .long, .double, .double, .boolean]
  resolved := Array.replicate 460 none
  statics := none }

def pool7 : Array CpInfo := pool [(1, u "java/lang/Cloneable"), (0, .class_ 1), (0, u "java/lang/Object"), (0, .class_ 3)] 3

/-- java/lang/Cloneable -/
def k7 : Class := { plain "java/lang/Cloneable" (some 0) with
  accessFlags := 1537
  interfaces := #[]
  cf := some (fileOf pool7 2 #[] #[] 1537 4 #[] #[])
  fields := #[]
  methods := #[]
  instanceTypes := #[]
  staticTypes := #[]
  resolved := Array.replicate 8 none
  statics := none }

def pool8 : Array CpInfo := pool [(1, u "java/io/Serializable"), (0, .class_ 1), (0, u "java/lang/Object"), (0, .class_ 3)] 3

/-- java/io/Serializable -/
def k8 : Class := { plain "java/io/Serializable" (some 0) with
  accessFlags := 1537
  interfaces := #[]
  cf := some (fileOf pool8 2 #[] #[] 1537 4 #[] #[])
  fields := #[]
  methods := #[]
  instanceTypes := #[]
  staticTypes := #[]
  resolved := Array.replicate 8 none
  statics := none }

/-- the primitive byte -/
def k9 : Class := { plain "byte" none with kind := .primitive 'B', accessFlags := 0x411 }
/-- [B -/
def k10 : Class := { plain "[B" (some 0) with kind := .array 9 .byte, interfaces := #[7, 8], accessFlags := 1041 }

/-- the primitive int -/
def k11 : Class := { plain "int" none with kind := .primitive 'I', accessFlags := 0x411 }
/-- [I -/
def k12 : Class := { plain "[I" (some 0) with kind := .array 11 .int, interfaces := #[7, 8], accessFlags := 1041 }

def heap : Heap := #[]
def classes : Array Class := #[k0, k1, k2, k3, k4, k5, k6, k7, k8, k9, k10, k11, k12]
def interned : List (Array UInt16 × Addr) := []
def slotsUsed : Nat := 0
def theMethod : MethodId := ⟨1, 3⟩
def args0 : Array Value := #[.int 5, .int 7, .int 3, .int 4, .int 0]
def aboutOver (below : List Frame) : State where
  vm := { classes := classes, interned := interned.toArray }
  heap := heap
  slotsUsed := slotsUsed
  threads := #[{ frames := .invoking theMethod args0 :: below }]
def below0 : List Frame := [.native { method := ⟨0, 0⟩, args := #[] }]
def about1 : State := aboutOver below0
def p0 : Program := .bare "" "" ""
def e0 : Env := launch0.env 0 0 0
theorem w_frames : about1.frames = Frame.invoking theMethod args0 :: below0 := rfl
set_option maxRecDepth 65536 in
theorem w_args : argsFit about1.vm theMethod args0 = true := by decide +kernel
set_option maxRecDepth 65536 in
theorem w_heap : heapFits about1 = true := by decide +kernel
set_option maxRecDepth 65536 in
theorem w_runnable : about1.curStatus? = some .runnable := by decide +kernel
set_option maxRecDepth 65536 in
theorem w_alone : about1.alone = true := by decide +kernel
set_option maxRecDepth 65536 in
theorem w_named : about1.methodNamed? x = some theMethod := by decide +kernel
set_option maxRecDepth 65536 in
theorem w_hears : about1.hears theMethod below0 = true := by decide +kernel
set_option maxRecDepth 65536 in
theorem w_ripe : about1.ripe theMethod args0 below0 = true := by decide +kernel
theorem w_running : about1.status = .running := rfl
set_option maxRecDepth 65536 in
theorem w_room : about1.hasRoom e0.platform room_1 = true :=
  launch0.hasRoom_least _ room_1 (by decide +kernel) (by decide +kernel) (by decide +kernel) (by decide +kernel) (by decide +kernel) (by decide +kernel)
theorem allAtoms_all (ts : List Jvm.Cond) (a : Array Jvm.Value) (st : Jvm.State) : (allAtoms ts).before a st = ts.all (fun c => c.before a st) := by
  induction ts with
  | nil => rfl
  | cons c t ih =>
    show (Jvm.Cond.and c (allAtoms t)).before a st = _
    rw [Jvm.Cond.before_and, ih, List.all_cons]
def words1 : List Jvm.Cond := Jvm.Cond.code x code maxLocals ret :: tables_1
/-- a 'code' word, met by the world's own term for the bytes: nothing is compared byte by byte -/
theorem code_word {y : MethodName} {bytes : ByteArray} {mx : Nat} {rt : Option FieldType} {a : Array Value} {s : State} {m : MethodId} {meth : Method} {c : Code} (h1 : s.methodNamed? y = some m) (h2 : s.vm.method? m = some meth) (h3 : meth.code = some c) (h4 : c.code = bytes)
    (h5 : (c.maxLocals == mx && c.exceptionTable.isEmpty && decide (c.maxStack ≤ mostOperands) && decide (meth.sig.returnType = rt) && !meth.locks && decide (parseMethodDescriptor y.desc = some meth.sig)) = true) : (Jvm.Cond.code y bytes mx rt).before a s = true := by
  simp only [Bool.and_eq_true, beq_iff_eq, Bool.not_eq_true', decide_eq_true_eq] at h5
  obtain ⟨⟨⟨⟨⟨g1, g2⟩, g3⟩, g4⟩, g5⟩, g6⟩ := h5
  simp [Cond.before, Cond.holds, Cond.value, h1, h2, h3, h4, g1, g2, g3, g4, g5, g6]
def isCode : Jvm.Cond → Bool
  | .code _ _ _ _ => true
  | _ => false
theorem all_split {L : List Jvm.Cond} {P : Jvm.Cond → Bool} (h1 : L.all (fun c => isCode c || P c) = true) (h2 : ∀ c ∈ L.filter isCode, P c = true) : L.all P = true := by
  refine List.all_eq_true.mpr fun c hc => ?_
  have h := List.all_eq_true.mp h1 c hc
  rcases Bool.eq_false_or_eq_true (isCode c) with hi | hi
  · exact h2 c (List.mem_filter.mpr ⟨hc, hi⟩)
  · simpa [hi] using h
set_option maxRecDepth 65536 in
theorem w_c0 : (Jvm.Cond.code x code maxLocals ret).before args0 about1 = true := code_word (m := ⟨1, 3⟩) (meth := k1m3) (c := k1c3) (by decide +kernel) rfl rfl rfl (by decide +kernel)
set_option maxRecDepth 65536 in
theorem w_c1 : (Jvm.Cond.code ({ cls := "com/example/slidewise/slidewise/search/ManhattanTrackerSlideBackPinLaw", name := "rot", desc := "(III)B" } : Jvm.MethodName) method_3_code (3 : Nat) (Option.some Jvm.ClassFile.FieldType.byte)).before args0 about1 = true := code_word (m := ⟨1, 2⟩) (meth := k1m2) (c := k1c2) (by decide +kernel) rfl rfl rfl (by decide +kernel)
set_option maxRecDepth 65536 in
theorem w_c2 : (Jvm.Cond.code ({ cls := "com/example/slidewise/slidewise/search/ManhattanTracker", name := "<init>", desc := "(I[B)V" } : Jvm.MethodName) prog_52_method_1_code (5 : Nat) (Option.none : Option Jvm.ClassFile.FieldType)).before args0 about1 = true := code_word (m := ⟨3, 0⟩) (meth := k3m0) (c := k3c0) (by decide +kernel) rfl rfl rfl (by decide +kernel)
set_option maxRecDepth 65536 in
theorem w_c3 : (Jvm.Cond.code ({ cls := "java/lang/Object", name := "<init>", desc := "()V" } : Jvm.MethodName) object_method_1_code (1 : Nat) (Option.none : Option Jvm.ClassFile.FieldType)).before args0 about1 = true := code_word (m := ⟨0, 0⟩) (meth := k0m0) (c := k0c0) (by decide +kernel) rfl rfl rfl (by decide +kernel)
set_option maxRecDepth 65536 in
theorem w_c4 : (Jvm.Cond.code ({ cls := "com/example/slidewise/slidewise/model/Puzzle", name := "distance", desc := "(III)I" } : Jvm.MethodName) prog_34_method_5_code (4 : Nat) (Option.some Jvm.ClassFile.FieldType.int)).before args0 about1 = true := code_word (m := ⟨5, 1⟩) (meth := k5m1) (c := k5c1) (by decide +kernel) rfl rfl rfl (by decide +kernel)
set_option maxRecDepth 65536 in
theorem w_c5 : (Jvm.Cond.code ({ cls := "com/example/slidewise/slidewise/model/Puzzle", name := "goalCell", desc := "(II)I" } : Jvm.MethodName) prog_34_method_4_code (2 : Nat) (Option.some Jvm.ClassFile.FieldType.int)).before args0 about1 = true := code_word (m := ⟨5, 0⟩) (meth := k5m0) (c := k5c0) (by decide +kernel) rfl rfl rfl (by decide +kernel)
set_option maxRecDepth 65536 in
theorem w_c6 : (Jvm.Cond.code ({ cls := "java/lang/Math", name := "abs", desc := "(I)I" } : Jvm.MethodName) jdk_29_method_59_code (1 : Nat) (Option.some Jvm.ClassFile.FieldType.int)).before args0 about1 = true := code_word (m := ⟨6, 1⟩) (meth := k6m1) (c := k6c1) (by decide +kernel) rfl rfl rfl (by decide +kernel)
set_option maxRecDepth 65536 in
theorem w_c7 : (Jvm.Cond.code ({ cls := "com/example/slidewise/slidewise/search/ManhattanTracker", name := "value", desc := "()I" } : Jvm.MethodName) prog_52_method_2_code (1 : Nat) (Option.some Jvm.ClassFile.FieldType.int)).before args0 about1 = true := code_word (m := ⟨3, 1⟩) (meth := k3m1) (c := k3c1) (by decide +kernel) rfl rfl rfl (by decide +kernel)
set_option maxRecDepth 65536 in
theorem w_c8 : (Jvm.Cond.code ({ cls := "com/example/slidewise/slidewise/search/ManhattanTracker", name := "slide", desc := "(III)V" } : Jvm.MethodName) prog_52_method_3_code (4 : Nat) (Option.none : Option Jvm.ClassFile.FieldType)).before args0 about1 = true := code_word (m := ⟨3, 2⟩) (meth := k3m2) (c := k3c2) (by decide +kernel) rfl rfl rfl (by decide +kernel)
set_option maxRecDepth 65536 in
theorem w_c9 : (Jvm.Cond.code ({ cls := "com/example/slidewise/slidewise/search/ManhattanTracker", name := "slideBack", desc := "(III)V" } : Jvm.MethodName) prog_52_method_4_code (4 : Nat) (Option.none : Option Jvm.ClassFile.FieldType)).before args0 about1 = true := code_word (m := ⟨3, 3⟩) (meth := k3m3) (c := k3c3) (by decide +kernel) rfl rfl rfl (by decide +kernel)
set_option maxRecDepth 65536 in
theorem w_c10 : (Jvm.Cond.code ({ cls := "com/example/slidewise/slidewise/search/ManhattanTrackerSlideBackPinLaw", name := "dist", desc := "(III)I" } : Jvm.MethodName) method_2_code (6 : Nat) (Option.some Jvm.ClassFile.FieldType.int)).before args0 about1 = true := code_word (m := ⟨1, 1⟩) (meth := k1m1) (c := k1c1) (by decide +kernel) rfl rfl rfl (by decide +kernel)
def codes1 : List Jvm.Cond := [Jvm.Cond.code x code maxLocals ret, Jvm.Cond.code ({ cls := "com/example/slidewise/slidewise/search/ManhattanTrackerSlideBackPinLaw", name := "rot", desc := "(III)B" } : Jvm.MethodName) method_3_code (3 : Nat) (Option.some Jvm.ClassFile.FieldType.byte), Jvm.Cond.code ({ cls := "com/example/slidewise/slidewise/search/ManhattanTracker", name := "<init>", desc := "(I[B)V" } : Jvm.MethodName) prog_52_method_1_code (5 : Nat) (Option.none : Option Jvm.ClassFile.FieldType), Jvm.Cond.code ({ cls := "java/lang/Object", name := "<init>", desc := "()V" } : Jvm.MethodName) object_method_1_code (1 : Nat) (Option.none : Option Jvm.ClassFile.FieldType), Jvm.Cond.code ({ cls := "com/example/slidewise/slidewise/model/Puzzle", name := "distance", desc := "(III)I" } : Jvm.MethodName) prog_34_method_5_code (4 : Nat) (Option.some Jvm.ClassFile.FieldType.int), Jvm.Cond.code ({ cls := "com/example/slidewise/slidewise/model/Puzzle", name := "goalCell", desc := "(II)I" } : Jvm.MethodName) prog_34_method_4_code (2 : Nat) (Option.some Jvm.ClassFile.FieldType.int), Jvm.Cond.code ({ cls := "java/lang/Math", name := "abs", desc := "(I)I" } : Jvm.MethodName) jdk_29_method_59_code (1 : Nat) (Option.some Jvm.ClassFile.FieldType.int), Jvm.Cond.code ({ cls := "com/example/slidewise/slidewise/search/ManhattanTracker", name := "value", desc := "()I" } : Jvm.MethodName) prog_52_method_2_code (1 : Nat) (Option.some Jvm.ClassFile.FieldType.int), Jvm.Cond.code ({ cls := "com/example/slidewise/slidewise/search/ManhattanTracker", name := "slide", desc := "(III)V" } : Jvm.MethodName) prog_52_method_3_code (4 : Nat) (Option.none : Option Jvm.ClassFile.FieldType), Jvm.Cond.code ({ cls := "com/example/slidewise/slidewise/search/ManhattanTracker", name := "slideBack", desc := "(III)V" } : Jvm.MethodName) prog_52_method_4_code (4 : Nat) (Option.none : Option Jvm.ClassFile.FieldType), Jvm.Cond.code ({ cls := "com/example/slidewise/slidewise/search/ManhattanTrackerSlideBackPinLaw", name := "dist", desc := "(III)I" } : Jvm.MethodName) method_2_code (6 : Nat) (Option.some Jvm.ClassFile.FieldType.int)]
set_option maxRecDepth 65536 in
theorem codes_eq : words1.filter isCode = codes1 := rfl
theorem w_codes : ∀ c ∈ words1.filter isCode, c.before args0 about1 = true := by
  rw [codes_eq]
  intro c hc
  simp only [codes1, List.mem_cons, List.not_mem_nil, or_false] at hc
  rcases hc with rfl | rfl | rfl | rfl | rfl | rfl | rfl | rfl | rfl | rfl | rfl
  · exact w_c0
  · exact w_c1
  · exact w_c2
  · exact w_c3
  · exact w_c4
  · exact w_c5
  · exact w_c6
  · exact w_c7
  · exact w_c8
  · exact w_c9
  · exact w_c10
set_option maxRecDepth 65536 in
theorem w_t1 : (words1.take 24).all (fun c => isCode c || c.before args0 about1) = true := by decide +kernel
set_option maxRecDepth 65536 in
theorem w_t2 : ((words1.drop 24).take 24).all (fun c => isCode c || c.before args0 about1) = true := by decide +kernel
set_option maxRecDepth 65536 in
theorem w_t3 : ((words1.drop 24).drop 24).all (fun c => isCode c || c.before args0 about1) = true := by decide +kernel
theorem w_tables : (allAtoms (Jvm.Cond.code x code maxLocals ret :: tables_1)).before args0 about1 = true := by
  rw [allAtoms_all]
  show words1.all (fun c => c.before args0 about1) = true
  refine all_split ?_ w_codes
  rw [← List.take_append_drop 24 words1, List.all_append, w_t1, ← List.take_append_drop 24 (words1.drop 24), List.all_append, w_t2, w_t3]
  rfl
set_option maxRecDepth 65536 in
theorem w_case : (Jvm.Cond.and given_1 narrow_1).before args0 about1 = true := by decide +kernel
theorem w_applies : (headSpec (Jvm.Cond.code x code maxLocals ret :: tables_1) room_1).applies x e0.platform about1 = true :=
  (Spec.applies_iff w_frames).mpr ⟨w_running, w_runnable, w_alone, w_named, w_hears, w_ripe, w_room, w_tables⟩
theorem atStart : AtStart classFile x code maxLocals ret World_1 tables_1 room_1 Calls_1 rest_1 Pre_1 launch0 p0 e0 about1 theMethod args0 below0 :=
  ⟨lists_1, trivial, launch0.admits_env _ _ _, launch0.least_env, fairChoices_fair.cas, fairChoices_fair.clock, w_frames, w_args, w_heap, w_applies, trivial, trivial, w_case⟩
end start1
theorem witness_1 : WitnessClaimed_1 := ⟨start1.p0, start1.e0, start1.about1, start1.theMethod, start1.args0, start1.below0, start1.atStart⟩
end Jvm.Pilot.@@N@@
