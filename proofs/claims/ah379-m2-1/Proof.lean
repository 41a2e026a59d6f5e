import JvmDerived
import JvmDerived.Pilot.@@N@@Statement
import JvmDerived.Pilot.@@N@@Code
set_option linter.unusedVariables false
set_option linter.unusedSimpArgs false
namespace Jvm.OwnW
open Sem ClassFile Op Lib Jvm.Stand Jvm.Free Jvm.LawKit Jvm.RoadKit
/-- from the state S the walk over 'below' comes to an end of which P holds -/
def Goes (tb : Tables) (e : Env) (below : List Frame) (S : State) (P : State → Outcome → Prop) : Prop :=
  ∃ s₂ o, Steps tb e below S s₂ ∧ s₂.status = .running ∧ Ended s₂ below o ∧ P s₂ o
section Walk
variable {p : Program} {l : Launch} {e : Env} {R : Room} {s : State} {m : MethodId} {args : Array Value} {below : List Frame} {meth : Method} {c : Code} {T : State} {locs : List Loc} {cells slots : Nat} {P : State → Outcome → Prop} {pc : Nat} {Ls : Array Slot} {st : List Value} {Z : State} {a0 : Array Value} {h : Heap}
theorem Goes.of {tb : Tables} {S S' : State} (k : Goes tb e below S' P) (h : ∀ t, Steps tb e below S' t → Steps tb e below S t) : Goes tb e below S P := by
  obtain ⟨s₂, o, h1, h2⟩ := k
  exact ⟨s₂, o, h _ h1, h2⟩
theorem Goes.tr {tb : Tables} {S S' : State} (k : Goes tb e below S' P) (h : Steps tb e below S S') : Goes tb e below S P := by
  obtain ⟨s₂, o, h1, h2⟩ := k
  exact ⟨s₂, o, h.trans h1, h2⟩
theorem Goes.join {tb : Tables} {S S' : State} (h1 : Goes tb e below S' P → Goes tb e below S P) (h2 : Goes tb e below S' P) : Goes tb e below S P := h1 h2
theorem Goes.cast {tb : Tables} {g g' : JFrame} (q : g = g') (k : Goes tb e below (T.setTop g') P) : Goes tb e below (T.setTop g) P := q ▸ k
theorem g_nameI {x v : Int32} (q : v = x) (k : Goes p.tables e below (T.setTop (mkF m pc Ls (.int v :: st))) P) : Goes p.tables e below (T.setTop (mkF m pc Ls (.int x :: st))) P := q ▸ k
theorem g_nameL {x v : Int64} (q : v = x) (k : Goes p.tables e below (T.setTop (mkF m pc Ls (.long v :: st))) P) : Goes p.tables e below (T.setTop (mkF m pc Ls (.long x :: st))) P := q ▸ k
theorem g_iloadN (X : Stand p l e R s m args below meth c T locs cells slots) (hx : p.tables.exec = Jvm.exec) {k : Fin 4} {v : Int32} (hd : decode c.code pc = .ok (.iload_n k, 1)) (hl : Ls[k.val]? = some (.val (.int v))) (hr : Goes p.tables e below (T.setTop (mkF m (pc + 1) Ls (.int v :: st))) P) : Goes p.tables e below (T.setTop (mkF m pc Ls st)) P := hr.of fun _ k => XS.iloadN X.here hx rfl hd hl k
theorem g_iload (X : Stand p l e R s m args below meth c T locs cells slots) (hx : p.tables.exec = Jvm.exec) {k : Nat} {v : Int32} (hd : decode c.code pc = .ok (.iload k, 2)) (hl : Ls[k]? = some (.val (.int v))) (hr : Goes p.tables e below (T.setTop (mkF m (pc + 2) Ls (.int v :: st))) P) : Goes p.tables e below (T.setTop (mkF m pc Ls st)) P := hr.of fun _ k => XS.iload X.here hx rfl hd hl k
theorem g_lloadN (X : Stand p l e R s m args below meth c T locs cells slots) (hx : p.tables.exec = Jvm.exec) {k : Fin 4} {v : Int64} (hd : decode c.code pc = .ok (.lload_n k, 1)) (hl : Ls[k.val]? = some (.val (.long v))) (hr : Goes p.tables e below (T.setTop (mkF m (pc + 1) Ls (.long v :: st))) P) : Goes p.tables e below (T.setTop (mkF m pc Ls st)) P := hr.of fun _ k => XT.lloadN X.here hx rfl hd hl k
theorem g_lload (X : Stand p l e R s m args below meth c T locs cells slots) (hx : p.tables.exec = Jvm.exec) {k : Nat} {v : Int64} (hd : decode c.code pc = .ok (.lload k, 2)) (hl : Ls[k]? = some (.val (.long v))) (hr : Goes p.tables e below (T.setTop (mkF m (pc + 2) Ls (.long v :: st))) P) : Goes p.tables e below (T.setTop (mkF m pc Ls st)) P := hr.of fun _ k => XT.lload X.here hx rfl hd hl k
theorem g_aloadN (X : Stand p l e R s m args below meth c T locs cells slots) (hx : p.tables.exec = Jvm.exec) {k : Fin 4} {v : Value} (hd : decode c.code pc = .ok (.aload_n k, 1)) (hl : Ls[k.val]? = some (.val v)) (hv : v.isRef = true) (hr : Goes p.tables e below (T.setTop (mkF m (pc + 1) Ls (v :: st))) P) : Goes p.tables e below (T.setTop (mkF m pc Ls st)) P := hr.of fun _ k => XS.aloadN X.here hx rfl hd hl hv k
theorem g_aload (X : Stand p l e R s m args below meth c T locs cells slots) (hx : p.tables.exec = Jvm.exec) {k : Nat} {v : Value} (hd : decode c.code pc = .ok (.aload k, 2)) (hl : Ls[k]? = some (.val v)) (hv : v.isRef = true) (hr : Goes p.tables e below (T.setTop (mkF m (pc + 2) Ls (v :: st))) P) : Goes p.tables e below (T.setTop (mkF m pc Ls st)) P := hr.of fun _ k => XS.aload X.here hx rfl hd hl hv k
theorem g_istoreN (X : Stand p l e R s m args below meth c T locs cells slots) (hx : p.tables.exec = Jvm.exec) {k : Fin 4} {x : Int32} {l' : Array Slot} (hd : decode c.code pc = .ok (.istore_n k, 1)) (hl : storeLocals Ls k.val (.int x) = some l') (hr : Goes p.tables e below (T.setTop (mkF m (pc + 1) l' st)) P) : Goes p.tables e below (T.setTop (mkF m pc Ls (.int x :: st))) P := hr.of fun _ k => XS.istoreN X.here hx rfl hd rfl hl k
theorem g_istore (X : Stand p l e R s m args below meth c T locs cells slots) (hx : p.tables.exec = Jvm.exec) {k : Nat} {x : Int32} {l' : Array Slot} (hd : decode c.code pc = .ok (.istore k, 2)) (hl : storeLocals Ls k (.int x) = some l') (hr : Goes p.tables e below (T.setTop (mkF m (pc + 2) l' st)) P) : Goes p.tables e below (T.setTop (mkF m pc Ls (.int x :: st))) P := hr.of fun _ k => XS.istore X.here hx rfl hd rfl hl k
theorem g_lstoreN (X : Stand p l e R s m args below meth c T locs cells slots) (hx : p.tables.exec = Jvm.exec) {k : Fin 4} {x : Int64} {l' : Array Slot} (hd : decode c.code pc = .ok (.lstore_n k, 1)) (hl : storeLocals Ls k.val (.long x) = some l') (hr : Goes p.tables e below (T.setTop (mkF m (pc + 1) l' st)) P) : Goes p.tables e below (T.setTop (mkF m pc Ls (.long x :: st))) P := hr.of fun _ k => XT.lstoreN X.here hx rfl hd rfl hl k
theorem g_lstore (X : Stand p l e R s m args below meth c T locs cells slots) (hx : p.tables.exec = Jvm.exec) {k : Nat} {x : Int64} {l' : Array Slot} (hd : decode c.code pc = .ok (.lstore k, 2)) (hl : storeLocals Ls k (.long x) = some l') (hr : Goes p.tables e below (T.setTop (mkF m (pc + 2) l' st)) P) : Goes p.tables e below (T.setTop (mkF m pc Ls (.long x :: st))) P := hr.of fun _ k => XT.lstore X.here hx rfl hd rfl hl k
theorem g_astoreN (X : Stand p l e R s m args below meth c T locs cells slots) (hx : p.tables.exec = Jvm.exec) {k : Fin 4} {x : Value} {l' : Array Slot} (hd : decode c.code pc = .ok (.astore_n k, 1)) (hv : x.isRef = true) (hl : storeLocals Ls k.val x = some l') (hr : Goes p.tables e below (T.setTop (mkF m (pc + 1) l' st)) P) : Goes p.tables e below (T.setTop (mkF m pc Ls (x :: st))) P := hr.of fun _ k => XS.astoreN X.here hx rfl hd rfl hv hl k
theorem g_astore (X : Stand p l e R s m args below meth c T locs cells slots) (hx : p.tables.exec = Jvm.exec) {k : Nat} {x : Value} {l' : Array Slot} (hd : decode c.code pc = .ok (.astore k, 2)) (hv : x.isRef = true) (hl : storeLocals Ls k x = some l') (hr : Goes p.tables e below (T.setTop (mkF m (pc + 2) l' st)) P) : Goes p.tables e below (T.setTop (mkF m pc Ls (x :: st))) P := hr.of fun _ k => XS.astore X.here hx rfl hd rfl hv hl k
theorem g_istoreS (X : Stand p l e R s m args below meth c T locs cells slots) (hx : p.tables.exec = Jvm.exec) {k : Nat} {x : Int32} {o : Slot} (hd : decode c.code pc = .ok (.istore k, 2)) (hold : Ls[k]? = some o) (ho : One o) (hr : Goes p.tables e below (T.setTop (mkF m (pc + 2) (Ls.setIfInBounds k (.val (.int x))) st)) P) : Goes p.tables e below (T.setTop (mkF m pc Ls (.int x :: st))) P := hr.of fun _ k => XS.istoreS X.here hx rfl hd rfl hold ho k
theorem g_istoreNS (X : Stand p l e R s m args below meth c T locs cells slots) (hx : p.tables.exec = Jvm.exec) {k : Fin 4} {x : Int32} {o : Slot} (hd : decode c.code pc = .ok (.istore_n k, 1)) (hold : Ls[k.val]? = some o) (ho : One o) (hr : Goes p.tables e below (T.setTop (mkF m (pc + 1) (Ls.setIfInBounds k.val (.val (.int x))) st)) P) : Goes p.tables e below (T.setTop (mkF m pc Ls (.int x :: st))) P := hr.of fun _ k => XS.istoreNS X.here hx rfl hd rfl hold ho k
theorem g_iconst (X : Stand p l e R s m args below meth c T locs cells slots) (hx : p.tables.exec = Jvm.exec) {i : Int} (v : Int32) (hd : decode c.code pc = .ok (.iconst i, 1)) (hv : Int32.ofInt i = v) (hr : Goes p.tables e below (T.setTop (mkF m (pc + 1) Ls (.int v :: st))) P) : Goes p.tables e below (T.setTop (mkF m pc Ls st)) P := hr.of fun _ k => XT.iconstV X.here hx rfl v hd hv k
theorem g_bipush (X : Stand p l e R s m args below meth c T locs cells slots) (hx : p.tables.exec = Jvm.exec) {i : Int} (v : Int32) (hd : decode c.code pc = .ok (.bipush i, 2)) (hv : (Int8.ofInt i).toInt32 = v) (hr : Goes p.tables e below (T.setTop (mkF m (pc + 2) Ls (.int v :: st))) P) : Goes p.tables e below (T.setTop (mkF m pc Ls st)) P := hr.of fun _ k => XT.bipushV X.here hx rfl v hd hv k
theorem g_sipush (X : Stand p l e R s m args below meth c T locs cells slots) (hx : p.tables.exec = Jvm.exec) {i : Int} (v : Int32) (hd : decode c.code pc = .ok (.sipush i, 3)) (hv : (Int16.ofInt i).toInt32 = v) (hr : Goes p.tables e below (T.setTop (mkF m (pc + 3) Ls (.int v :: st))) P) : Goes p.tables e below (T.setTop (mkF m pc Ls st)) P := hr.of fun _ k => XT.sipushV X.here hx rfl v hd hv k
theorem g_lconst (X : Stand p l e R s m args below meth c T locs cells slots) (hx : p.tables.exec = Jvm.exec) {i : Fin 2} (v : Int64) (hd : decode c.code pc = .ok (.lconst i, 1)) (hv : Int64.ofNat i = v) (hr : Goes p.tables e below (T.setTop (mkF m (pc + 1) Ls (.long v :: st))) P) : Goes p.tables e below (T.setTop (mkF m pc Ls st)) P := hr.of fun _ k => XT.lconstV X.here hx rfl v hd hv k
theorem g_null (X : Stand p l e R s m args below meth c T locs cells slots) (hx : p.tables.exec = Jvm.exec)  (hd : decode c.code pc = .ok (.aconst_null, 1)) (hr : Goes p.tables e below (T.setTop (mkF m (pc + 1) Ls (.null :: st))) P) : Goes p.tables e below (T.setTop (mkF m pc Ls st)) P := hr.of fun _ k => XS.aconstNull X.here hx rfl hd k
theorem g_ldc (X : Stand p l e R s m args below meth c T locs cells slots) (hx : p.tables.exec = Jvm.exec) {own : String} {index : Nat} {v : Int32} (hZ : Z.Warmed39 s.vm) (hown : s.vm.findClass own = some m.cls) (wk : (Jvm.Cond.constant own index v).before a0 Z = true) (hd : decode c.code pc = .ok (.ldc index, 2)) (hr : Goes p.tables e below (T.setTop (mkF m (pc + 2) Ls (.int v :: st))) P) : Goes p.tables e below (T.setTop (mkF m pc Ls st)) P := hr.of fun _ k => X.ldcI hx hown (mvT hZ wk) rfl hd k
theorem g_ldcw (X : Stand p l e R s m args below meth c T locs cells slots) (hx : p.tables.exec = Jvm.exec) {own : String} {index : Nat} {v : Int32} (hZ : Z.Warmed39 s.vm) (hown : s.vm.findClass own = some m.cls) (wk : (Jvm.Cond.constant own index v).before a0 Z = true) (hd : decode c.code pc = .ok (.ldc_w index, 3)) (hr : Goes p.tables e below (T.setTop (mkF m (pc + 3) Ls (.int v :: st))) P) : Goes p.tables e below (T.setTop (mkF m pc Ls st)) P := hr.of fun _ k => X.ldcWI hx hown (mvT hZ wk) rfl hd k
theorem g_ldc2 (X : Stand p l e R s m args below meth c T locs cells slots) (hx : p.tables.exec = Jvm.exec) {own : String} {index : Nat} {v : Int64} (hZ : Z.Warmed39 s.vm) (hown : s.vm.findClass own = some m.cls) (wk : (Jvm.Cond.constantLong own index v).before a0 Z = true) (hd : decode c.code pc = .ok (.ldc2_w index, 3)) (hr : Goes p.tables e below (T.setTop (mkF m (pc + 3) Ls (.long v :: st))) P) : Goes p.tables e below (T.setTop (mkF m pc Ls st)) P := hr.of fun _ k => X.ldc2J hx hown (mvT hZ wk) rfl hd k
theorem g_iadd (X : Stand p l e R s m args below meth c T locs cells slots) (hx : p.tables.exec = Jvm.exec) {x y : Int32} (hd : decode c.code pc = .ok (.iadd, 1)) (hr : Goes p.tables e below (T.setTop (mkF m (pc + 1) Ls (.int (x + y) :: st))) P) : Goes p.tables e below (T.setTop (mkF m pc Ls (.int y :: .int x :: st))) P := hr.of fun _ k => XS.iadd X.here hx rfl hd rfl k
theorem g_isub (X : Stand p l e R s m args below meth c T locs cells slots) (hx : p.tables.exec = Jvm.exec) {x y : Int32} (hd : decode c.code pc = .ok (.isub, 1)) (hr : Goes p.tables e below (T.setTop (mkF m (pc + 1) Ls (.int (x - y) :: st))) P) : Goes p.tables e below (T.setTop (mkF m pc Ls (.int y :: .int x :: st))) P := hr.of fun _ k => XS.isub X.here hx rfl hd rfl k
theorem g_imul (X : Stand p l e R s m args below meth c T locs cells slots) (hx : p.tables.exec = Jvm.exec) {x y : Int32} (hd : decode c.code pc = .ok (.imul, 1)) (hr : Goes p.tables e below (T.setTop (mkF m (pc + 1) Ls (.int (x * y) :: st))) P) : Goes p.tables e below (T.setTop (mkF m pc Ls (.int y :: .int x :: st))) P := hr.of fun _ k => XS.imul X.here hx rfl hd rfl k
theorem g_iand (X : Stand p l e R s m args below meth c T locs cells slots) (hx : p.tables.exec = Jvm.exec) {x y : Int32} (hd : decode c.code pc = .ok (.iand, 1)) (hr : Goes p.tables e below (T.setTop (mkF m (pc + 1) Ls (.int (x &&& y) :: st))) P) : Goes p.tables e below (T.setTop (mkF m pc Ls (.int y :: .int x :: st))) P := hr.of fun _ k => XS.iand X.here hx rfl hd rfl k
theorem g_ior (X : Stand p l e R s m args below meth c T locs cells slots) (hx : p.tables.exec = Jvm.exec) {x y : Int32} (hd : decode c.code pc = .ok (.ior, 1)) (hr : Goes p.tables e below (T.setTop (mkF m (pc + 1) Ls (.int (x ||| y) :: st))) P) : Goes p.tables e below (T.setTop (mkF m pc Ls (.int y :: .int x :: st))) P := hr.of fun _ k => XT.ior X.here hx rfl hd rfl k
theorem g_ixor (X : Stand p l e R s m args below meth c T locs cells slots) (hx : p.tables.exec = Jvm.exec) {x y : Int32} (hd : decode c.code pc = .ok (.ixor, 1)) (hr : Goes p.tables e below (T.setTop (mkF m (pc + 1) Ls (.int (x ^^^ y) :: st))) P) : Goes p.tables e below (T.setTop (mkF m pc Ls (.int y :: .int x :: st))) P := hr.of fun _ k => XT.ixor X.here hx rfl hd rfl k
theorem g_ishl (X : Stand p l e R s m args below meth c T locs cells slots) (hx : p.tables.exec = Jvm.exec) {x y : Int32} (hd : decode c.code pc = .ok (.ishl, 1)) (hr : Goes p.tables e below (T.setTop (mkF m (pc + 1) Ls (.int (x <<< (y &&& 31)) :: st))) P) : Goes p.tables e below (T.setTop (mkF m pc Ls (.int y :: .int x :: st))) P := hr.of fun _ k => XT.ishl X.here hx rfl hd rfl k
theorem g_ishr (X : Stand p l e R s m args below meth c T locs cells slots) (hx : p.tables.exec = Jvm.exec) {x y : Int32} (hd : decode c.code pc = .ok (.ishr, 1)) (hr : Goes p.tables e below (T.setTop (mkF m (pc + 1) Ls (.int (x >>> (y &&& 31)) :: st))) P) : Goes p.tables e below (T.setTop (mkF m pc Ls (.int y :: .int x :: st))) P := hr.of fun _ k => XT.ishr X.here hx rfl hd rfl k
theorem g_iushr (X : Stand p l e R s m args below meth c T locs cells slots) (hx : p.tables.exec = Jvm.exec) {x y : Int32} (hd : decode c.code pc = .ok (.iushr, 1)) (hr : Goes p.tables e below (T.setTop (mkF m (pc + 1) Ls (.int (XT.ushr x y) :: st))) P) : Goes p.tables e below (T.setTop (mkF m pc Ls (.int y :: .int x :: st))) P := hr.of fun _ k => XT.iushr X.here hx rfl hd rfl k
theorem g_ladd (X : Stand p l e R s m args below meth c T locs cells slots) (hx : p.tables.exec = Jvm.exec) {x y : Int64} (hd : decode c.code pc = .ok (.ladd, 1)) (hr : Goes p.tables e below (T.setTop (mkF m (pc + 1) Ls (.long (x + y) :: st))) P) : Goes p.tables e below (T.setTop (mkF m pc Ls (.long y :: .long x :: st))) P := hr.of fun _ k => XT.ladd X.here hx rfl hd rfl k
theorem g_lsub (X : Stand p l e R s m args below meth c T locs cells slots) (hx : p.tables.exec = Jvm.exec) {x y : Int64} (hd : decode c.code pc = .ok (.lsub, 1)) (hr : Goes p.tables e below (T.setTop (mkF m (pc + 1) Ls (.long (x - y) :: st))) P) : Goes p.tables e below (T.setTop (mkF m pc Ls (.long y :: .long x :: st))) P := hr.of fun _ k => XT.lsub X.here hx rfl hd rfl k
theorem g_lmul (X : Stand p l e R s m args below meth c T locs cells slots) (hx : p.tables.exec = Jvm.exec) {x y : Int64} (hd : decode c.code pc = .ok (.lmul, 1)) (hr : Goes p.tables e below (T.setTop (mkF m (pc + 1) Ls (.long (x * y) :: st))) P) : Goes p.tables e below (T.setTop (mkF m pc Ls (.long y :: .long x :: st))) P := hr.of fun _ k => XT.lmul X.here hx rfl hd rfl k
theorem g_land (X : Stand p l e R s m args below meth c T locs cells slots) (hx : p.tables.exec = Jvm.exec) {x y : Int64} (hd : decode c.code pc = .ok (.land, 1)) (hr : Goes p.tables e below (T.setTop (mkF m (pc + 1) Ls (.long (x &&& y) :: st))) P) : Goes p.tables e below (T.setTop (mkF m pc Ls (.long y :: .long x :: st))) P := hr.of fun _ k => XT.land X.here hx rfl hd rfl k
theorem g_lor (X : Stand p l e R s m args below meth c T locs cells slots) (hx : p.tables.exec = Jvm.exec) {x y : Int64} (hd : decode c.code pc = .ok (.lor, 1)) (hr : Goes p.tables e below (T.setTop (mkF m (pc + 1) Ls (.long (x ||| y) :: st))) P) : Goes p.tables e below (T.setTop (mkF m pc Ls (.long y :: .long x :: st))) P := hr.of fun _ k => XT.lor X.here hx rfl hd rfl k
theorem g_lxor (X : Stand p l e R s m args below meth c T locs cells slots) (hx : p.tables.exec = Jvm.exec) {x y : Int64} (hd : decode c.code pc = .ok (.lxor, 1)) (hr : Goes p.tables e below (T.setTop (mkF m (pc + 1) Ls (.long (x ^^^ y) :: st))) P) : Goes p.tables e below (T.setTop (mkF m pc Ls (.long y :: .long x :: st))) P := hr.of fun _ k => XT.lxor X.here hx rfl hd rfl k
theorem g_lshl (X : Stand p l e R s m args below meth c T locs cells slots) (hx : p.tables.exec = Jvm.exec) {x : Int64} {y : Int32} (hd : decode c.code pc = .ok (.lshl, 1)) (hr : Goes p.tables e below (T.setTop (mkF m (pc + 1) Ls (.long (x <<< (y.toInt64 &&& 63)) :: st))) P) : Goes p.tables e below (T.setTop (mkF m pc Ls (.int y :: .long x :: st))) P := hr.of fun _ k => XT.lshl X.here hx rfl hd rfl k
theorem g_lshr (X : Stand p l e R s m args below meth c T locs cells slots) (hx : p.tables.exec = Jvm.exec) {x : Int64} {y : Int32} (hd : decode c.code pc = .ok (.lshr, 1)) (hr : Goes p.tables e below (T.setTop (mkF m (pc + 1) Ls (.long (x >>> (y.toInt64 &&& 63)) :: st))) P) : Goes p.tables e below (T.setTop (mkF m pc Ls (.int y :: .long x :: st))) P := hr.of fun _ k => XT.lshr X.here hx rfl hd rfl k
theorem g_lushr (X : Stand p l e R s m args below meth c T locs cells slots) (hx : p.tables.exec = Jvm.exec) {x : Int64} {y : Int32} (hd : decode c.code pc = .ok (.lushr, 1)) (hr : Goes p.tables e below (T.setTop (mkF m (pc + 1) Ls (.long (XT.ushrL x y) :: st))) P) : Goes p.tables e below (T.setTop (mkF m pc Ls (.int y :: .long x :: st))) P := hr.of fun _ k => XT.lushr X.here hx rfl hd rfl k
theorem g_idiv (X : Stand p l e R s m args below meth c T locs cells slots) (hx : p.tables.exec = Jvm.exec) {x y : Int32} (hd : decode c.code pc = .ok (.idiv, 1)) (hy : y ≠ 0) (hr : Goes p.tables e below (T.setTop (mkF m (pc + 1) Ls (.int (x / y) :: st))) P) : Goes p.tables e below (T.setTop (mkF m pc Ls (.int y :: .int x :: st))) P := hr.of fun _ k => XS.idiv X.here hx rfl hd rfl hy k
theorem g_irem (X : Stand p l e R s m args below meth c T locs cells slots) (hx : p.tables.exec = Jvm.exec) {x y : Int32} (hd : decode c.code pc = .ok (.irem, 1)) (hy : y ≠ 0) (hr : Goes p.tables e below (T.setTop (mkF m (pc + 1) Ls (.int (x % y) :: st))) P) : Goes p.tables e below (T.setTop (mkF m pc Ls (.int y :: .int x :: st))) P := hr.of fun _ k => iremM X hx rfl hd rfl hy k
theorem g_ldiv (X : Stand p l e R s m args below meth c T locs cells slots) (hx : p.tables.exec = Jvm.exec) {x y : Int64} (hd : decode c.code pc = .ok (.ldiv, 1)) (hy : y ≠ 0) (hr : Goes p.tables e below (T.setTop (mkF m (pc + 1) Ls (.long (x / y) :: st))) P) : Goes p.tables e below (T.setTop (mkF m pc Ls (.long y :: .long x :: st))) P := hr.of fun _ k => XT.ldiv X.here hx rfl hd rfl hy k
theorem g_lrem (X : Stand p l e R s m args below meth c T locs cells slots) (hx : p.tables.exec = Jvm.exec) {x y : Int64} (hd : decode c.code pc = .ok (.lrem, 1)) (hy : y ≠ 0) (hr : Goes p.tables e below (T.setTop (mkF m (pc + 1) Ls (.long (x % y) :: st))) P) : Goes p.tables e below (T.setTop (mkF m pc Ls (.long y :: .long x :: st))) P := hr.of fun _ k => XT.lrem X.here hx rfl hd rfl hy (by rw [lrem_mod]; exact k)
theorem g_ineg (X : Stand p l e R s m args below meth c T locs cells slots) (hx : p.tables.exec = Jvm.exec) {x : Int32} (hd : decode c.code pc = .ok (.ineg, 1)) (hr : Goes p.tables e below (T.setTop (mkF m (pc + 1) Ls (.int (-x) :: st))) P) : Goes p.tables e below (T.setTop (mkF m pc Ls (.int x :: st))) P := hr.of fun _ k => XS.ineg X.here hx rfl hd rfl k
theorem g_lneg (X : Stand p l e R s m args below meth c T locs cells slots) (hx : p.tables.exec = Jvm.exec) {x : Int64} (hd : decode c.code pc = .ok (.lneg, 1)) (hr : Goes p.tables e below (T.setTop (mkF m (pc + 1) Ls (.long (-x) :: st))) P) : Goes p.tables e below (T.setTop (mkF m pc Ls (.long x :: st))) P := hr.of fun _ k => XT.lneg X.here hx rfl hd rfl k
theorem g_i2l (X : Stand p l e R s m args below meth c T locs cells slots) (hx : p.tables.exec = Jvm.exec) {x : Int32} (hd : decode c.code pc = .ok (.i2l, 1)) (hr : Goes p.tables e below (T.setTop (mkF m (pc + 1) Ls (.long (x.toInt64) :: st))) P) : Goes p.tables e below (T.setTop (mkF m pc Ls (.int x :: st))) P := hr.of fun _ k => XT.i2l X.here hx rfl hd rfl k
theorem g_l2i (X : Stand p l e R s m args below meth c T locs cells slots) (hx : p.tables.exec = Jvm.exec) {x : Int64} (hd : decode c.code pc = .ok (.l2i, 1)) (hr : Goes p.tables e below (T.setTop (mkF m (pc + 1) Ls (.int (x.toInt32) :: st))) P) : Goes p.tables e below (T.setTop (mkF m pc Ls (.long x :: st))) P := hr.of fun _ k => XT.l2i X.here hx rfl hd rfl k
theorem g_i2b (X : Stand p l e R s m args below meth c T locs cells slots) (hx : p.tables.exec = Jvm.exec) {x : Int32} (hd : decode c.code pc = .ok (.i2b, 1)) (hr : Goes p.tables e below (T.setTop (mkF m (pc + 1) Ls (.int (x.toInt8.toInt32) :: st))) P) : Goes p.tables e below (T.setTop (mkF m pc Ls (.int x :: st))) P := hr.of fun _ k => XT.i2b X.here hx rfl hd rfl k
theorem g_i2c (X : Stand p l e R s m args below meth c T locs cells slots) (hx : p.tables.exec = Jvm.exec) {x : Int32} (hd : decode c.code pc = .ok (.i2c, 1)) (hr : Goes p.tables e below (T.setTop (mkF m (pc + 1) Ls (.int (x.toUInt32.toUInt16.toUInt32.toInt32) :: st))) P) : Goes p.tables e below (T.setTop (mkF m pc Ls (.int x :: st))) P := hr.of fun _ k => XT.i2c X.here hx rfl hd rfl k
theorem g_i2s (X : Stand p l e R s m args below meth c T locs cells slots) (hx : p.tables.exec = Jvm.exec) {x : Int32} (hd : decode c.code pc = .ok (.i2s, 1)) (hr : Goes p.tables e below (T.setTop (mkF m (pc + 1) Ls (.int (x.toInt16.toInt32) :: st))) P) : Goes p.tables e below (T.setTop (mkF m pc Ls (.int x :: st))) P := hr.of fun _ k => XT.i2s X.here hx rfl hd rfl k
theorem g_lcmp (X : Stand p l e R s m args below meth c T locs cells slots) (hx : p.tables.exec = Jvm.exec) {x y : Int64} (hd : decode c.code pc = .ok (.lcmp, 1)) (hr : Goes p.tables e below (T.setTop (mkF m (pc + 1) Ls (.int (XT.cmpL x y) :: st))) P) : Goes p.tables e below (T.setTop (mkF m pc Ls (.long y :: .long x :: st))) P := hr.of fun _ k => XT.lcmp X.here hx rfl hd rfl k
theorem g_dup (X : Stand p l e R s m args below meth c T locs cells slots) (hx : p.tables.exec = Jvm.exec) {x : Value} (hd : decode c.code pc = .ok (.dup, 1)) (hc : x.category = 1) (hr : Goes p.tables e below (T.setTop (mkF m (pc + 1) Ls (x :: x :: st))) P) : Goes p.tables e below (T.setTop (mkF m pc Ls (x :: st))) P := hr.of fun _ k => XS.dup X.here hx rfl hd rfl hc k
theorem g_pop (X : Stand p l e R s m args below meth c T locs cells slots) (hx : p.tables.exec = Jvm.exec) {x : Value} (hd : decode c.code pc = .ok (.pop, 1)) (hc : x.category = 1) (hr : Goes p.tables e below (T.setTop (mkF m (pc + 1) Ls st)) P) : Goes p.tables e below (T.setTop (mkF m pc Ls (x :: st))) P := hr.of fun _ k => XT.pop X.here hx rfl hd rfl hc k
theorem g_dupX1 (X : Stand p l e R s m args below meth c T locs cells slots) (hx : p.tables.exec = Jvm.exec) {x y : Value} (hd : decode c.code pc = .ok (.dup_x1, 1)) (hc : x.category = 1) (hc' : y.category = 1) (hr : Goes p.tables e below (T.setTop (mkF m (pc + 1) Ls (x :: y :: x :: st))) P) : Goes p.tables e below (T.setTop (mkF m pc Ls (x :: y :: st))) P := hr.of fun _ k => XT.dupX1 X.here hx rfl hd rfl hc hc' k
theorem g_dup2 (X : Stand p l e R s m args below meth c T locs cells slots) (hx : p.tables.exec = Jvm.exec) {x y : Value} (hd : decode c.code pc = .ok (.dup2, 1)) (hc : x.category = 1) (hc' : y.category = 1) (hr : Goes p.tables e below (T.setTop (mkF m (pc + 1) Ls (x :: y :: x :: y :: st))) P) : Goes p.tables e below (T.setTop (mkF m pc Ls (x :: y :: st))) P := hr.of fun _ k => XT.dup2 X.here hx rfl hd rfl hc hc' k
theorem g_dup2L (X : Stand p l e R s m args below meth c T locs cells slots) (hx : p.tables.exec = Jvm.exec) {x : Int64} (hd : decode c.code pc = .ok (.dup2, 1)) (hr : Goes p.tables e below (T.setTop (mkF m (pc + 1) Ls (.long x :: .long x :: st))) P) : Goes p.tables e below (T.setTop (mkF m pc Ls (.long x :: st))) P := hr.of fun _ k => XT.dup2L X.here hx rfl hd rfl k
theorem g_iinc (X : Stand p l e R s m args below meth c T locs cells slots) (hx : p.tables.exec = Jvm.exec) {k : Nat} {cst : Int} {x : Int32} {l' : Array Slot} (v : Int32) (hd : decode c.code pc = .ok (.iinc k cst, 3)) (hv : Int32.ofInt cst = v) (hl : Ls[k]? = some (.val (.int x))) (hl' : storeLocals Ls k (.int (x + v)) = some l') (hr : Goes p.tables e below (T.setTop (mkF m (pc + 3) l' st)) P) : Goes p.tables e below (T.setTop (mkF m pc Ls st)) P := hr.of fun _ k => XT.iincV X.here hx rfl v hd hv hl hl' k
theorem g_goto (X : Stand p l e R s m args below meth c T locs cells slots) (hx : p.tables.exec = Jvm.exec) {o : Int} {pc' : Nat} (hd : decode c.code pc = .ok (.goto o, 3)) (ho : 0 ≤ (pc : Int) + o) (hp : ((pc : Int) + o).toNat = pc') (hr : Goes p.tables e below (T.setTop (mkF m pc' Ls st)) P) : Goes p.tables e below (T.setTop (mkF m pc Ls st)) P := hr.of fun _ k => XS.goto X.here hx rfl rfl hd ho hp k
theorem g_icmp_eq (X : Stand p l e R s m args below meth c T locs cells slots) (hx : p.tables.exec = Jvm.exec) {x y : Int32} {o : Int} {pc' : Nat} (hd : decode c.code pc = .ok (.if_icmp .eq o, 3)) (ho : 0 ≤ (pc : Int) + o) (hp : ((pc : Int) + o).toNat = pc') (hT : (x = y) → Goes p.tables e below (T.setTop (mkF m pc' Ls st)) P) (hF : (¬ x = y) → Goes p.tables e below (T.setTop (mkF m (pc + 3) Ls st)) P) : Goes p.tables e below (T.setTop (mkF m pc Ls (.int y :: .int x :: st))) P := by
  by_cases q : x = y
  · exact (hT q).of fun _ k => XS.icmpYes X.here hx rfl rfl hd rfl (XT.ii_eq_t q) ho hp k
  · exact (hF q).of fun _ k => XS.icmpNo X.here hx rfl hd rfl (XT.ii_eq_f q) k
theorem g_if_eq (X : Stand p l e R s m args below meth c T locs cells slots) (hx : p.tables.exec = Jvm.exec) {x : Int32} {o : Int} {pc' : Nat} (hd : decode c.code pc = .ok (.ifCond .eq o, 3)) (ho : 0 ≤ (pc : Int) + o) (hp : ((pc : Int) + o).toNat = pc') (hT : (x = 0) → Goes p.tables e below (T.setTop (mkF m pc' Ls st)) P) (hF : (¬ x = 0) → Goes p.tables e below (T.setTop (mkF m (pc + 3) Ls st)) P) : Goes p.tables e below (T.setTop (mkF m pc Ls (.int x :: st))) P := by
  by_cases q : x = 0
  · exact (hT q).of fun _ k => XS.ifYes X.here hx rfl rfl hd rfl (XT.i0_eq_t q) ho hp k
  · exact (hF q).of fun _ k => XS.ifNo X.here hx rfl hd rfl (XT.i0_eq_f q) k
theorem g_lif_eq (X : Stand p l e R s m args below meth c T locs cells slots) (hx : p.tables.exec = Jvm.exec) {x y : Int64} {o : Int} {pc' : Nat} (hd : decode c.code pc = .ok (.ifCond .eq o, 3)) (ho : 0 ≤ (pc : Int) + o) (hp : ((pc : Int) + o).toNat = pc') (hT : (x = y) → Goes p.tables e below (T.setTop (mkF m pc' Ls st)) P) (hF : (¬ x = y) → Goes p.tables e below (T.setTop (mkF m (pc + 3) Ls st)) P) : Goes p.tables e below (T.setTop (mkF m pc Ls (.int (XT.cmpL x y) :: st))) P := by
  by_cases q : x = y
  · exact (hT q).of fun _ k => XS.ifYes X.here hx rfl rfl hd rfl (XT.ll_eq_t q) ho hp k
  · exact (hF q).of fun _ k => XS.ifNo X.here hx rfl hd rfl (XT.ll_eq_f q) k
theorem g_icmp_ne (X : Stand p l e R s m args below meth c T locs cells slots) (hx : p.tables.exec = Jvm.exec) {x y : Int32} {o : Int} {pc' : Nat} (hd : decode c.code pc = .ok (.if_icmp .ne o, 3)) (ho : 0 ≤ (pc : Int) + o) (hp : ((pc : Int) + o).toNat = pc') (hT : (¬ x = y) → Goes p.tables e below (T.setTop (mkF m pc' Ls st)) P) (hF : (x = y) → Goes p.tables e below (T.setTop (mkF m (pc + 3) Ls st)) P) : Goes p.tables e below (T.setTop (mkF m pc Ls (.int y :: .int x :: st))) P := by
  by_cases q : x = y
  · exact (hF q).of fun _ k => XS.icmpNo X.here hx rfl hd rfl (XT.ii_ne_f q) k
  · exact (hT q).of fun _ k => XS.icmpYes X.here hx rfl rfl hd rfl (XT.ii_ne_t q) ho hp k
theorem g_if_ne (X : Stand p l e R s m args below meth c T locs cells slots) (hx : p.tables.exec = Jvm.exec) {x : Int32} {o : Int} {pc' : Nat} (hd : decode c.code pc = .ok (.ifCond .ne o, 3)) (ho : 0 ≤ (pc : Int) + o) (hp : ((pc : Int) + o).toNat = pc') (hT : (¬ x = 0) → Goes p.tables e below (T.setTop (mkF m pc' Ls st)) P) (hF : (x = 0) → Goes p.tables e below (T.setTop (mkF m (pc + 3) Ls st)) P) : Goes p.tables e below (T.setTop (mkF m pc Ls (.int x :: st))) P := by
  by_cases q : x = 0
  · exact (hF q).of fun _ k => XS.ifNo X.here hx rfl hd rfl (XT.i0_ne_f q) k
  · exact (hT q).of fun _ k => XS.ifYes X.here hx rfl rfl hd rfl (XT.i0_ne_t q) ho hp k
theorem g_lif_ne (X : Stand p l e R s m args below meth c T locs cells slots) (hx : p.tables.exec = Jvm.exec) {x y : Int64} {o : Int} {pc' : Nat} (hd : decode c.code pc = .ok (.ifCond .ne o, 3)) (ho : 0 ≤ (pc : Int) + o) (hp : ((pc : Int) + o).toNat = pc') (hT : (¬ x = y) → Goes p.tables e below (T.setTop (mkF m pc' Ls st)) P) (hF : (x = y) → Goes p.tables e below (T.setTop (mkF m (pc + 3) Ls st)) P) : Goes p.tables e below (T.setTop (mkF m pc Ls (.int (XT.cmpL x y) :: st))) P := by
  by_cases q : x = y
  · exact (hF q).of fun _ k => XS.ifNo X.here hx rfl hd rfl (XT.ll_ne_f q) k
  · exact (hT q).of fun _ k => XS.ifYes X.here hx rfl rfl hd rfl (XT.ll_ne_t q) ho hp k
theorem g_icmp_lt (X : Stand p l e R s m args below meth c T locs cells slots) (hx : p.tables.exec = Jvm.exec) {x y : Int32} {o : Int} {pc' : Nat} (hd : decode c.code pc = .ok (.if_icmp .lt o, 3)) (ho : 0 ≤ (pc : Int) + o) (hp : ((pc : Int) + o).toNat = pc') (hT : (x < y) → Goes p.tables e below (T.setTop (mkF m pc' Ls st)) P) (hF : (¬ x < y) → Goes p.tables e below (T.setTop (mkF m (pc + 3) Ls st)) P) : Goes p.tables e below (T.setTop (mkF m pc Ls (.int y :: .int x :: st))) P := by
  by_cases q : x < y
  · exact (hT q).of fun _ k => XS.icmpYes X.here hx rfl rfl hd rfl (XT.ii_lt_t q) ho hp k
  · exact (hF q).of fun _ k => XS.icmpNo X.here hx rfl hd rfl (XT.ii_lt_f q) k
theorem g_if_lt (X : Stand p l e R s m args below meth c T locs cells slots) (hx : p.tables.exec = Jvm.exec) {x : Int32} {o : Int} {pc' : Nat} (hd : decode c.code pc = .ok (.ifCond .lt o, 3)) (ho : 0 ≤ (pc : Int) + o) (hp : ((pc : Int) + o).toNat = pc') (hT : (x < 0) → Goes p.tables e below (T.setTop (mkF m pc' Ls st)) P) (hF : (¬ x < 0) → Goes p.tables e below (T.setTop (mkF m (pc + 3) Ls st)) P) : Goes p.tables e below (T.setTop (mkF m pc Ls (.int x :: st))) P := by
  by_cases q : x < 0
  · exact (hT q).of fun _ k => XS.ifYes X.here hx rfl rfl hd rfl (XT.i0_lt_t q) ho hp k
  · exact (hF q).of fun _ k => XS.ifNo X.here hx rfl hd rfl (XT.i0_lt_f q) k
theorem g_lif_lt (X : Stand p l e R s m args below meth c T locs cells slots) (hx : p.tables.exec = Jvm.exec) {x y : Int64} {o : Int} {pc' : Nat} (hd : decode c.code pc = .ok (.ifCond .lt o, 3)) (ho : 0 ≤ (pc : Int) + o) (hp : ((pc : Int) + o).toNat = pc') (hT : (x < y) → Goes p.tables e below (T.setTop (mkF m pc' Ls st)) P) (hF : (¬ x < y) → Goes p.tables e below (T.setTop (mkF m (pc + 3) Ls st)) P) : Goes p.tables e below (T.setTop (mkF m pc Ls (.int (XT.cmpL x y) :: st))) P := by
  by_cases q : x < y
  · exact (hT q).of fun _ k => XS.ifYes X.here hx rfl rfl hd rfl (XT.ll_lt_t q) ho hp k
  · exact (hF q).of fun _ k => XS.ifNo X.here hx rfl hd rfl (XT.ll_lt_f q) k
theorem g_icmp_ge (X : Stand p l e R s m args below meth c T locs cells slots) (hx : p.tables.exec = Jvm.exec) {x y : Int32} {o : Int} {pc' : Nat} (hd : decode c.code pc = .ok (.if_icmp .ge o, 3)) (ho : 0 ≤ (pc : Int) + o) (hp : ((pc : Int) + o).toNat = pc') (hT : (¬ x < y) → Goes p.tables e below (T.setTop (mkF m pc' Ls st)) P) (hF : (x < y) → Goes p.tables e below (T.setTop (mkF m (pc + 3) Ls st)) P) : Goes p.tables e below (T.setTop (mkF m pc Ls (.int y :: .int x :: st))) P := by
  by_cases q : x < y
  · exact (hF q).of fun _ k => XS.icmpNo X.here hx rfl hd rfl (XT.ii_ge_f q) k
  · exact (hT q).of fun _ k => XS.icmpYes X.here hx rfl rfl hd rfl (XT.ii_ge_t q) ho hp k
theorem g_if_ge (X : Stand p l e R s m args below meth c T locs cells slots) (hx : p.tables.exec = Jvm.exec) {x : Int32} {o : Int} {pc' : Nat} (hd : decode c.code pc = .ok (.ifCond .ge o, 3)) (ho : 0 ≤ (pc : Int) + o) (hp : ((pc : Int) + o).toNat = pc') (hT : (¬ x < 0) → Goes p.tables e below (T.setTop (mkF m pc' Ls st)) P) (hF : (x < 0) → Goes p.tables e below (T.setTop (mkF m (pc + 3) Ls st)) P) : Goes p.tables e below (T.setTop (mkF m pc Ls (.int x :: st))) P := by
  by_cases q : x < 0
  · exact (hF q).of fun _ k => XS.ifNo X.here hx rfl hd rfl (XT.i0_ge_f q) k
  · exact (hT q).of fun _ k => XS.ifYes X.here hx rfl rfl hd rfl (XT.i0_ge_t q) ho hp k
theorem g_lif_ge (X : Stand p l e R s m args below meth c T locs cells slots) (hx : p.tables.exec = Jvm.exec) {x y : Int64} {o : Int} {pc' : Nat} (hd : decode c.code pc = .ok (.ifCond .ge o, 3)) (ho : 0 ≤ (pc : Int) + o) (hp : ((pc : Int) + o).toNat = pc') (hT : (¬ x < y) → Goes p.tables e below (T.setTop (mkF m pc' Ls st)) P) (hF : (x < y) → Goes p.tables e below (T.setTop (mkF m (pc + 3) Ls st)) P) : Goes p.tables e below (T.setTop (mkF m pc Ls (.int (XT.cmpL x y) :: st))) P := by
  by_cases q : x < y
  · exact (hF q).of fun _ k => XS.ifNo X.here hx rfl hd rfl (XT.ll_ge_f q) k
  · exact (hT q).of fun _ k => XS.ifYes X.here hx rfl rfl hd rfl (XT.ll_ge_t q) ho hp k
theorem g_icmp_gt (X : Stand p l e R s m args below meth c T locs cells slots) (hx : p.tables.exec = Jvm.exec) {x y : Int32} {o : Int} {pc' : Nat} (hd : decode c.code pc = .ok (.if_icmp .gt o, 3)) (ho : 0 ≤ (pc : Int) + o) (hp : ((pc : Int) + o).toNat = pc') (hT : (y < x) → Goes p.tables e below (T.setTop (mkF m pc' Ls st)) P) (hF : (¬ y < x) → Goes p.tables e below (T.setTop (mkF m (pc + 3) Ls st)) P) : Goes p.tables e below (T.setTop (mkF m pc Ls (.int y :: .int x :: st))) P := by
  by_cases q : y < x
  · exact (hT q).of fun _ k => XS.icmpYes X.here hx rfl rfl hd rfl (XT.ii_gt_t q) ho hp k
  · exact (hF q).of fun _ k => XS.icmpNo X.here hx rfl hd rfl (XT.ii_gt_f q) k
theorem g_if_gt (X : Stand p l e R s m args below meth c T locs cells slots) (hx : p.tables.exec = Jvm.exec) {x : Int32} {o : Int} {pc' : Nat} (hd : decode c.code pc = .ok (.ifCond .gt o, 3)) (ho : 0 ≤ (pc : Int) + o) (hp : ((pc : Int) + o).toNat = pc') (hT : (0 < x) → Goes p.tables e below (T.setTop (mkF m pc' Ls st)) P) (hF : (¬ 0 < x) → Goes p.tables e below (T.setTop (mkF m (pc + 3) Ls st)) P) : Goes p.tables e below (T.setTop (mkF m pc Ls (.int x :: st))) P := by
  by_cases q : 0 < x
  · exact (hT q).of fun _ k => XS.ifYes X.here hx rfl rfl hd rfl (XT.i0_gt_t q) ho hp k
  · exact (hF q).of fun _ k => XS.ifNo X.here hx rfl hd rfl (XT.i0_gt_f q) k
theorem g_lif_gt (X : Stand p l e R s m args below meth c T locs cells slots) (hx : p.tables.exec = Jvm.exec) {x y : Int64} {o : Int} {pc' : Nat} (hd : decode c.code pc = .ok (.ifCond .gt o, 3)) (ho : 0 ≤ (pc : Int) + o) (hp : ((pc : Int) + o).toNat = pc') (hT : (y < x) → Goes p.tables e below (T.setTop (mkF m pc' Ls st)) P) (hF : (¬ y < x) → Goes p.tables e below (T.setTop (mkF m (pc + 3) Ls st)) P) : Goes p.tables e below (T.setTop (mkF m pc Ls (.int (XT.cmpL x y) :: st))) P := by
  by_cases q : y < x
  · exact (hT q).of fun _ k => XS.ifYes X.here hx rfl rfl hd rfl (XT.ll_gt_t q) ho hp k
  · exact (hF q).of fun _ k => XS.ifNo X.here hx rfl hd rfl (XT.ll_gt_f q) k
theorem g_icmp_le (X : Stand p l e R s m args below meth c T locs cells slots) (hx : p.tables.exec = Jvm.exec) {x y : Int32} {o : Int} {pc' : Nat} (hd : decode c.code pc = .ok (.if_icmp .le o, 3)) (ho : 0 ≤ (pc : Int) + o) (hp : ((pc : Int) + o).toNat = pc') (hT : (¬ y < x) → Goes p.tables e below (T.setTop (mkF m pc' Ls st)) P) (hF : (y < x) → Goes p.tables e below (T.setTop (mkF m (pc + 3) Ls st)) P) : Goes p.tables e below (T.setTop (mkF m pc Ls (.int y :: .int x :: st))) P := by
  by_cases q : y < x
  · exact (hF q).of fun _ k => XS.icmpNo X.here hx rfl hd rfl (XT.ii_le_f q) k
  · exact (hT q).of fun _ k => XS.icmpYes X.here hx rfl rfl hd rfl (XT.ii_le_t q) ho hp k
theorem g_if_le (X : Stand p l e R s m args below meth c T locs cells slots) (hx : p.tables.exec = Jvm.exec) {x : Int32} {o : Int} {pc' : Nat} (hd : decode c.code pc = .ok (.ifCond .le o, 3)) (ho : 0 ≤ (pc : Int) + o) (hp : ((pc : Int) + o).toNat = pc') (hT : (¬ 0 < x) → Goes p.tables e below (T.setTop (mkF m pc' Ls st)) P) (hF : (0 < x) → Goes p.tables e below (T.setTop (mkF m (pc + 3) Ls st)) P) : Goes p.tables e below (T.setTop (mkF m pc Ls (.int x :: st))) P := by
  by_cases q : 0 < x
  · exact (hF q).of fun _ k => XS.ifNo X.here hx rfl hd rfl (XT.i0_le_f q) k
  · exact (hT q).of fun _ k => XS.ifYes X.here hx rfl rfl hd rfl (XT.i0_le_t q) ho hp k
theorem g_lif_le (X : Stand p l e R s m args below meth c T locs cells slots) (hx : p.tables.exec = Jvm.exec) {x y : Int64} {o : Int} {pc' : Nat} (hd : decode c.code pc = .ok (.ifCond .le o, 3)) (ho : 0 ≤ (pc : Int) + o) (hp : ((pc : Int) + o).toNat = pc') (hT : (¬ y < x) → Goes p.tables e below (T.setTop (mkF m pc' Ls st)) P) (hF : (y < x) → Goes p.tables e below (T.setTop (mkF m (pc + 3) Ls st)) P) : Goes p.tables e below (T.setTop (mkF m pc Ls (.int (XT.cmpL x y) :: st))) P := by
  by_cases q : y < x
  · exact (hF q).of fun _ k => XS.ifNo X.here hx rfl hd rfl (XT.ll_le_f q) k
  · exact (hT q).of fun _ k => XS.ifYes X.here hx rfl rfl hd rfl (XT.ll_le_t q) ho hp k
theorem g_ifnull_ref (X : Stand p l e R s m args below meth c T locs cells slots) (hx : p.tables.exec = Jvm.exec) {b : Addr} {o : Int} (hd : decode c.code pc = .ok (.ifnull o, 3)) (hr : Goes p.tables e below (T.setTop (mkF m (pc + 3) Ls st)) P) : Goes p.tables e below (T.setTop (mkF m pc Ls (.ref b :: st))) P := hr.of fun _ k => XS.ifnullNo X.here hx rfl hd rfl k
theorem g_ifnull_null (X : Stand p l e R s m args below meth c T locs cells slots) (hx : p.tables.exec = Jvm.exec)  {o : Int} {pc' : Nat} (hd : decode c.code pc = .ok (.ifnull o, 3)) (ho : 0 ≤ (pc : Int) + o) (hp : ((pc : Int) + o).toNat = pc') (hr : Goes p.tables e below (T.setTop (mkF m pc' Ls st)) P) : Goes p.tables e below (T.setTop (mkF m pc Ls (.null :: st))) P := hr.of fun _ k => XS.ifnullYes X.here hx rfl rfl hd rfl ho hp k
theorem g_ifnonnull_ref (X : Stand p l e R s m args below meth c T locs cells slots) (hx : p.tables.exec = Jvm.exec) {b : Addr} {o : Int} {pc' : Nat} (hd : decode c.code pc = .ok (.ifnonnull o, 3)) (ho : 0 ≤ (pc : Int) + o) (hp : ((pc : Int) + o).toNat = pc') (hr : Goes p.tables e below (T.setTop (mkF m pc' Ls st)) P) : Goes p.tables e below (T.setTop (mkF m pc Ls (.ref b :: st))) P := hr.of fun _ k => XT.ifnonnullYes X.here hx rfl rfl hd rfl ho hp k
theorem g_ifnonnull_null (X : Stand p l e R s m args below meth c T locs cells slots) (hx : p.tables.exec = Jvm.exec)  {o : Int} (hd : decode c.code pc = .ok (.ifnonnull o, 3)) (hr : Goes p.tables e below (T.setTop (mkF m (pc + 3) Ls st)) P) : Goes p.tables e below (T.setTop (mkF m pc Ls (.null :: st))) P := hr.of fun _ k => XT.ifnonnullNo X.here hx rfl hd rfl k
theorem g_acmp_eq (X : Stand p l e R s m args below meth c T locs cells slots) (hx : p.tables.exec = Jvm.exec) {x y : Value} (hx' : x.isRef = true) (hy' : y.isRef = true) {o : Int} {pc' : Nat} (hd : decode c.code pc = .ok (.if_acmp .eq o, 3)) (ho : 0 ≤ (pc : Int) + o) (hp : ((pc : Int) + o).toNat = pc') (hT : (x = y) → Goes p.tables e below (T.setTop (mkF m pc' Ls st)) P) (hF : (¬ x = y) → Goes p.tables e below (T.setTop (mkF m (pc + 3) Ls st)) P) : Goes p.tables e below (T.setTop (mkF m pc Ls (y :: x :: st))) P := by
  by_cases q : x = y
  · exact (hT q).of fun _ k => XT.acmpYes X.here hx rfl rfl hd rfl hx' hy' (by simp [XT.acmp, q]) ho hp k
  · exact (hF q).of fun _ k => XT.acmpNo X.here hx rfl hd rfl hx' hy' (by simp [XT.acmp, q]) k
theorem g_acmp_ne (X : Stand p l e R s m args below meth c T locs cells slots) (hx : p.tables.exec = Jvm.exec) {x y : Value} (hx' : x.isRef = true) (hy' : y.isRef = true) {o : Int} {pc' : Nat} (hd : decode c.code pc = .ok (.if_acmp .ne o, 3)) (ho : 0 ≤ (pc : Int) + o) (hp : ((pc : Int) + o).toNat = pc') (hT : (¬ x = y) → Goes p.tables e below (T.setTop (mkF m pc' Ls st)) P) (hF : (x = y) → Goes p.tables e below (T.setTop (mkF m (pc + 3) Ls st)) P) : Goes p.tables e below (T.setTop (mkF m pc Ls (y :: x :: st))) P := by
  by_cases q : x = y
  · exact (hF q).of fun _ k => XT.acmpNo X.here hx rfl hd rfl hx' hy' (by simp [XT.acmp, q]) k
  · exact (hT q).of fun _ k => XT.acmpYes X.here hx rfl rfl hd rfl hx' hy' (by simp [XT.acmp, q]) ho hp k
/-- what a body owes at its end: it returned v, Q holds of it, the heap and the places written, within C cells and N slots -/
abbrev Fin (s : State) (C N : Nat) (Q : Option Value → Heap → List Loc → Prop) : State → Outcome → Prop := fun s₂ o => ∃ v L, o = .returned v ∧ Q v s₂.heap L ∧ FrameEnd s o s₂ L C N
variable {C N : Nat} {Q : Option Value → Heap → List Loc → Prop}
theorem g_ret (X : Stand p l e R s m args below meth c T locs cells slots) (hx : p.tables.exec = Jvm.exec) {w : Value} {t : FieldType} {i : Instr} (hret : meth.sig.returnType = some t) (hk : meth.locks = false) (hn : narrow t w = w)
    (hi : (i = .ireturn ∧ (t = .int ∨ t = .boolean ∨ t = .byte ∨ t = .char ∨ t = .short) ∧ ∃ z, w = .int z) ∨ (i = .lreturn ∧ t = .long ∧ ∃ z, w = .long z) ∨ (i = .dreturn ∧ t = .double ∧ ∃ z, w = .double z) ∨ (i = .freturn ∧ t = .float ∧ ∃ z, w = .float z) ∨ (i = .areturn ∧ t.isReference = true ∧ w.isRef = true))
    (hd : decode c.code pc = .ok (i, 1)) (hc : cells ≤ C) (hs : slots ≤ N) (hQ : Q (some w) T.heap locs) : Goes p.tables e below (T.setTop (mkF m pc Ls (w :: st))) (Fin s C N Q) := by
  obtain ⟨fs, hr, hrun, hended, hW, hsame⟩ := X.leave (v := some w) (fun h => by rw [hret] at h; cases h) hk
  exact ⟨_, _, retOut X hx hret hn hi hd hr, hrun, hended, _, _, rfl, hQ, ⟨_, rfl⟩, hW, hsame.mono hc hs⟩
theorem g_retI (X : Stand p l e R s m args below meth c T locs cells slots) (hx : p.tables.exec = Jvm.exec) {z : Int32} (hret : meth.sig.returnType = some .int) (hk : meth.locks = false) (hd : decode c.code pc = .ok (.ireturn, 1)) (hc : cells ≤ C) (hs : slots ≤ N) (hQ : Q (some (.int z)) T.heap locs) :
    Goes p.tables e below (T.setTop (mkF m pc Ls (.int z :: st))) (Fin s C N Q) := g_ret X hx hret hk rfl (Or.inl ⟨rfl, Or.inl rfl, _, rfl⟩) hd hc hs hQ
theorem g_retL (X : Stand p l e R s m args below meth c T locs cells slots) (hx : p.tables.exec = Jvm.exec) {z : Int64} (hret : meth.sig.returnType = some .long) (hk : meth.locks = false) (hd : decode c.code pc = .ok (.lreturn, 1)) (hc : cells ≤ C) (hs : slots ≤ N) (hQ : Q (some (.long z)) T.heap locs) :
    Goes p.tables e below (T.setTop (mkF m pc Ls (.long z :: st))) (Fin s C N Q) := g_ret X hx hret hk rfl (Or.inr (Or.inl ⟨rfl, rfl, _, rfl⟩)) hd hc hs hQ
theorem g_retA (X : Stand p l e R s m args below meth c T locs cells slots) (hx : p.tables.exec = Jvm.exec) {w : Value} {t : FieldType} (hret : meth.sig.returnType = some t) (hk : meth.locks = false) (ht : t.isReference = true) (hw : w.isRef = true) (hd : decode c.code pc = .ok (.areturn, 1)) (hc : cells ≤ C) (hs : slots ≤ N) (hQ : Q (some w) T.heap locs) :
    Goes p.tables e below (T.setTop (mkF m pc Ls (w :: st))) (Fin s C N Q) := g_ret X hx hret hk (by cases t <;> simp [FieldType.isReference] at ht <;> cases w <;> simp [Value.isRef] at hw <;> rfl) (Or.inr (Or.inr (Or.inr (Or.inr ⟨rfl, ht, hw⟩)))) hd hc hs hQ
theorem g_retZ (X : Stand p l e R s m args below meth c T locs cells slots) (hx : p.tables.exec = Jvm.exec) {z : Int32} (hz : z = 0 ∨ z = 1) (hret : meth.sig.returnType = some .boolean) (hk : meth.locks = false) (hd : decode c.code pc = .ok (.ireturn, 1)) (hc : cells ≤ C) (hs : slots ≤ N) (hQ : Q (some (.int z)) T.heap locs) :
    Goes p.tables e below (T.setTop (mkF m pc Ls (.int z :: st))) (Fin s C N Q) := g_ret X hx hret hk (by rcases hz with rfl | rfl <;> rfl) (Or.inl ⟨rfl, Or.inr (Or.inl rfl), _, rfl⟩) hd hc hs hQ
theorem g_retB (X : Stand p l e R s m args below meth c T locs cells slots) (hx : p.tables.exec = Jvm.exec) {z : Int32} (hz : z.toInt8.toInt32 = z) (hret : meth.sig.returnType = some .byte) (hk : meth.locks = false) (hd : decode c.code pc = .ok (.ireturn, 1)) (hc : cells ≤ C) (hs : slots ≤ N) (hQ : Q (some (.int z)) T.heap locs) :
    Goes p.tables e below (T.setTop (mkF m pc Ls (.int z :: st))) (Fin s C N Q) := g_ret X hx hret hk (by show Value.int z.toInt8.toInt32 = _; rw [hz]) (Or.inl ⟨rfl, Or.inr (Or.inr (Or.inl rfl)), _, rfl⟩) hd hc hs hQ
theorem g_ret0 (X : Stand p l e R s m args below meth c T locs cells slots) (hx : p.tables.exec = Jvm.exec) (hret : meth.sig.returnType = none) (hk : meth.locks = false) (hd : decode c.code pc = .ok (.return_, 1)) (hc : cells ≤ C) (hs : slots ≤ N) (hQ : Q none T.heap locs) :
    Goes p.tables e below (T.setTop (mkF m pc Ls [])) (Fin s C N Q) := by
  obtain ⟨fs, hr, hrun, hended, hW, hsame⟩ := X.leave (v := none) (fun _ => rfl) hk
  exact ⟨_, _, X.returnOut hx hret hd hr, hrun, hended, _, _, rfl, hQ, ⟨_, rfl⟩, hW, hsame.mono hc hs⟩
/-- the contract of a body, at these arguments and this heap -/
def Con (l : Launch) (Z : State) (y : MethodName) (bytes : ByteArray) (maxL : Nat) (ret : Option FieldType) (ws : List Jvm.Cond) (rm : Room) (C N : Nat) (as' : Array Value) (h : Heap) (Q : Option Value → Heap → List Loc → Prop) : Prop :=
  MetFree l y (head1 (Jvm.Cond.code y bytes maxL ret :: ws) rm) (fun a U => a = as' ∧ Z.Warmed39 U.vm ∧ U.heap = h) (fun _ _ _ _ _ => True) (fun _ U o U' => ∃ v L, o = .returned v ∧ Q v U'.heap L ∧ FrameEnd U o U' L C N)
theorem Con.body {y : MethodName} {bytes : ByteArray} {maxL : Nat} {ret : Option FieldType} {ws : List Jvm.Cond} {rm : Room} {as' : Array Value} (hp : plainFor y = true)
    (body : ∀ (p : Program) (e : Env) (s : State) (m : MethodId) (below : List Frame) (meth : Method) (c : Code) (T : State), p.tables.exec = Jvm.exec → c.code = bytes → c.maxLocals = maxL → s.vm.findClass y.cls = some m.cls → meth.name = y.name → Z.Warmed39 s.vm → meth.sig.returnType = ret → meth.locks = false →
      Stand p l e rm s m as' below meth c T [] 0 0 → T.heap = h → Goes p.tables e below (T.setTop (entryFrame m as' maxL)) (Fin s C N Q)) : Con l Z y bytes maxL ret ws rm C N as' h Q := by
  refine MetFree.of_bodySF hp hisR ?_
  intro p e s m args below meth c s₁ Bd hml hP hK
  obtain ⟨rfl, hZ, hh⟩ := hP
  exact body p e s m below meth c s₁ Bd.exec Bd.bytes hml (findClass_of_methodNamed Bd.named) (name_of_methodNamed Bd.named Bd.method).1 hZ Bd.returns (BodyLoose.notSynchronized Bd) (Stand.of_body Bd) (by rw [← hh, Bd.state]; rfl)
variable {y : MethodName} {bytes : ByteArray} {maxL : Nat} {ret : Option FieldType} {rm : Room} {as' : Array Value} {own : String} {index W : Nat} {argsL : List Value}
/-- a static call by the callee's contract -/
theorem g_callS (X : Stand p l e R s m args below meth c T locs cells slots) (hx : p.tables.exec = Jvm.exec) (hZ : Z.Warmed39 s.vm) (hown : s.vm.findClass own = some m.cls) (hml : Ls.size = c.maxLocals) (eT : T.heap = h)
    (wl : (Jvm.Cond.methodLink own index y).before a0 Z = true) (wt : (Jvm.Cond.static y).before a0 Z = true) (wz : (Jvm.Cond.initialized y.cls).before a0 Z = true) (wc : (Jvm.Cond.code y bytes maxL ret).before a0 Z = true)
    (hM : Con l Z y bytes maxL ret [] rm rm.cells rm.slots as' h Q) (argsL : List Value) (has : argsL.toArray = as') {S : List Value} (st : List Value) (hS : S = argsL.reverse ++ st) (hlen : ∀ sig, parseMethodDescriptor y.desc = some sig → argsL.length = sig.parameters.length)
    (hd : decode c.code pc = .ok (.invokestatic index, 3)) (hy : y.cls ≠ "java/lang/invoke/MethodHandle" ∧ y.cls ≠ "java/lang/invoke/VarHandle") (W : Nat) (hf : rm.frames + 1 ≤ R.frames) (hl : W + (maxL + 11) + rm.locals ≤ R.locals) (hW : (st.map fun v => v.category).sum ≤ W) (hc : cells + rm.cells ≤ R.cells) (hs : slots + rm.slots ≤ R.slots)
    (k : ∀ v T' L, Stand p l e R s m args below meth c T' (locs ++ L) (cells + rm.cells) (slots + rm.slots) → Q v T'.heap L → Goes p.tables e below (T'.setTop (mkF m (pc + 3) Ls (v.toList ++ st))) P) :
    Goes p.tables e below (T.setTop (mkF m pc Ls S)) P := by
  subst hS
  obtain ⟨v, vm₁, ⟨T', L', k', n'⟩, -, X', ⟨L, hQ, e1, e2, e3⟩, st'⟩ := Jvm.LawKit.callS X hx (y := y) hown (mvT hZ wl) (mvT hZ wt) (mvT hZ wz) (mvT hZ wc) hy (backOf (W := W) hM hZ wc wz hf hl) (g := mkF m pc Ls (argsL.reverse ++ st)) rfl hml (argsL := argsL) (rest := st) hlen rfl (by show 2 * 0 + _ ≤ _; omega) hd (fun _ _ => ⟨has, eT, hc, hs⟩)
  dsimp only [Pt.U, Pt.locs, Pt.cells, Pt.slots] at X' e1 e2 e3 st' hQ
  subst e1 e2 e3
  exact (k v T' L X' hQ).of st'
/-- a constructor by its contract -/
theorem g_callI (X : Stand p l e R s m args below meth c T locs cells slots) (hx : p.tables.exec = Jvm.exec) (hZ : Z.Warmed39 s.vm) (hown : s.vm.findClass own = some m.cls) (hml : Ls.size = c.maxLocals) (eT : T.heap = h) (hn : y.name = "<init>")
    (wl : (Jvm.Cond.methodLink own index y).before a0 Z = true) (wt : (Jvm.Cond.instanceMethod y).before a0 Z = true) (wz : (Jvm.Cond.initialized y.cls).before a0 Z = true) (wc : (Jvm.Cond.code y bytes maxL none).before a0 Z = true)
    (hM : Con l Z y bytes maxL none [] rm rm.cells rm.slots as' h Q) (a : Addr) (argsL : List Value) (has : (.ref a :: argsL).toArray = as') {S : List Value} (st : List Value) (hS : S = argsL.reverse ++ .ref a :: st) (hlen : ∀ sig, parseMethodDescriptor y.desc = some sig → argsL.length = sig.parameters.length)
    (hd : decode c.code pc = .ok (.invokespecial index, 3)) (hy : y.cls ≠ "java/lang/invoke/MethodHandle" ∧ y.cls ≠ "java/lang/invoke/VarHandle") (W : Nat) (hf : rm.frames + 1 ≤ R.frames) (hl : W + (maxL + 11) + rm.locals ≤ R.locals) (hW : (st.map fun v => v.category).sum ≤ W) (hc : cells + rm.cells ≤ R.cells) (hs : slots + rm.slots ≤ R.slots)
    (k : ∀ v T' L, Stand p l e R s m args below meth c T' (locs ++ L) (cells + rm.cells) (slots + rm.slots) → Q v T'.heap L → Goes p.tables e below (T'.setTop (mkF m (pc + 3) Ls (v.toList ++ st))) P) :
    Goes p.tables e below (T.setTop (mkF m pc Ls S)) P := by
  subst hS
  obtain ⟨v, vm₁, ⟨T', L', k', n'⟩, -, X', ⟨L, hQ, e1, e2, e3⟩, st'⟩ := X.specialBack hx (y := y) hn hown (mvT hZ wl) (mvT hZ wt) (mvT hZ wc) hy (backOf (W := W) hM hZ wc wz hf hl) (g := mkF m pc Ls (argsL.reverse ++ .ref a :: st)) rfl hml (Steps.refl _) (a := a) (argsL := argsL) (rest := st) hlen rfl (by show 2 * 0 + _ ≤ _; omega) hd (fun _ _ => ⟨has, eT, hc, hs⟩)
  dsimp only [Pt.U, Pt.locs, Pt.cells, Pt.slots] at X' e1 e2 e3 st' hQ
  subst e1 e2 e3
  exact (k v T' L X' hQ).tr st'
/-- an instance method by its contract -/
theorem g_callV (X : Stand p l e R s m args below meth c T locs cells slots) (hx : p.tables.exec = Jvm.exec) (hZ : Z.Warmed39 s.vm) (hown : s.vm.findClass own = some m.cls) (hml : Ls.size = c.maxLocals) (eT : T.heap = h) {K : String}
    (wl : (Jvm.Cond.methodLink own index y).before a0 Z = true) (wd : (Jvm.Cond.declares y).before a0 Z = true) (wv : (Jvm.Cond.selects K y y).before a0 Z = true) (wt : (Jvm.Cond.instanceMethod y).before a0 Z = true) (wz : (Jvm.Cond.initialized y.cls).before a0 Z = true) (wc : (Jvm.Cond.code y bytes maxL ret).before a0 Z = true)
    {a : Addr} (E : Exa Z h a K) (hM : Con l Z y bytes maxL ret [] rm rm.cells rm.slots as' h Q) (argsL : List Value) (has : (.ref a :: argsL).toArray = as') {S : List Value} (st : List Value) (hS : S = argsL.reverse ++ .ref a :: st) (hlen : ∀ sig, parseMethodDescriptor y.desc = some sig → argsL.length = sig.parameters.length)
    (hd : decode c.code pc = .ok (.invokevirtual index, 3)) (hy : y.cls ≠ "java/lang/invoke/MethodHandle" ∧ y.cls ≠ "java/lang/invoke/VarHandle") (W : Nat) (hf : rm.frames + 1 ≤ R.frames) (hl : W + (maxL + 11) + rm.locals ≤ R.locals) (hW : (st.map fun v => v.category).sum ≤ W) (hc : cells + rm.cells ≤ R.cells) (hs : slots + rm.slots ≤ R.slots)
    (k : ∀ v T' L, Stand p l e R s m args below meth c T' (locs ++ L) (cells + rm.cells) (slots + rm.slots) → Q v T'.heap L → Goes p.tables e below (T'.setTop (mkF m (pc + 3) Ls (v.toList ++ st))) P) :
    Goes p.tables e below (T.setTop (mkF m pc Ls S)) P := by
  subst hS
  obtain ⟨cq, kq, qa, qb, qc⟩ := isOf hZ eT E
  obtain ⟨v, vm₁, ⟨T', L', k', n'⟩, -, X', ⟨L, hQ, e1, e2, e3⟩, st'⟩ := X.virtualBack hx (y := y) (z := y) hown (mvT hZ wl) (mvT hZ wd) (notFace_of_selects (args := #[]) (mvT hZ wv)) (mvT hZ wv) (mvT hZ wt) hy (backOf (W := W) hM hZ wc wz hf hl) qa qc (g := mkF m pc Ls (argsL.reverse ++ .ref a :: st)) rfl hml (Steps.refl _) (argsL := argsL) (rest := st) hlen rfl (by show 2 * 0 + _ ≤ _; omega) hd (fun _ _ => ⟨has, eT, hc, hs⟩)
  dsimp only [Pt.U, Pt.locs, Pt.cells, Pt.slots] at X' e1 e2 e3 st' hQ
  subst e1 e2 e3
  exact (k v T' L X' hQ).tr st'
/-! objects -/
section Objects
variable {own K O R0 nm d host : String} {index kk : Nat} {a : Addr}
theorem g_new (X : Stand p l e R s m args below meth c T locs cells slots) (hx : p.tables.exec = Jvm.exec) (hZ : Z.Warmed39 s.vm) (hown : s.vm.findClass own = some m.cls) (eT : T.heap = h) (w : (Jvm.Cond.classLink own index K).before a0 Z = true) (wi : (Jvm.Cond.instantiable K kk).before a0 Z = true) (wz : (Jvm.Cond.initialized K).before a0 Z = true)
    (hd : decode c.code pc = .ok (.new index, 3)) (hc : cells + 1 ≤ R.cells) (hl : slots + kk ≤ R.slots)
    (k : ∀ T' h' a, a = h.size → Stand p l e R s m args below meth c T' locs (cells + 1) (slots + kk) → T'.heap = h' → Ext h h' → Exa Z h' a K → (∀ {O nm d : String} {ty : FieldType}, Laid Z a0 K O nm d → parseFieldDescriptor d = some ty → Fld Z h' a O nm d (defaultValue ty)) → Goes p.tables e below (T'.setTop (mkF m (pc + 3) Ls (.ref a :: st))) P) :
    Goes p.tables e below (T.setTop (mkF m pc Ls st)) P := by
  obtain ⟨T', h', X', e', E, A, D, -, st'⟩ := newO X hx hZ hown w wi wz eT (g := mkF m pc Ls st) rfl hd hc hl
  exact (k T' h' _ rfl X' e' E A D).of st'
theorem g_init0 (X : Stand p l e R s m args below meth c T locs cells slots) (hx : p.tables.exec = Jvm.exec) (hZ : Z.Warmed39 s.vm) (hown : s.vm.findClass own = some m.cls) (hml : Ls.size = c.maxLocals) (eT : T.heap = h) (w1 : (Jvm.Cond.methodLink own index Lib.objectInit).before a0 Z = true) (w2 : (Jvm.Cond.instanceMethod Lib.objectInit).before a0 Z = true)
    (w3 : (Jvm.Cond.code Lib.objectInit ⟨#[0xb1]⟩ 1 none).before a0 Z = true) (hd : decode c.code pc = .ok (.invokespecial index, 3)) (W : Nat) (hf : 1 ≤ R.frames) (hW : (st.map fun v => v.category).sum ≤ W) (hl : W + 12 ≤ R.locals)
    (k : ∀ T', Stand p l e R s m args below meth c T' locs cells slots → T'.heap = h → Goes p.tables e below (T'.setTop (mkF m (pc + 3) Ls st)) P) : Goes p.tables e below (T.setTop (mkF m pc Ls (.ref a :: st))) P := by
  obtain ⟨T', X', e', st'⟩ := initO X hx hZ hown w1 w2 w3 eT (g := mkF m pc Ls (.ref a :: st)) rfl hml rfl hd hf (W := W) (by show 2 * 0 + _ ≤ _; omega) hl
  exact (k T' X' e').of st'
theorem g_getF (X : Stand p l e R s m args below meth c T locs cells slots) (hx : p.tables.exec = Jvm.exec) (hZ : Z.Warmed39 s.vm) (hown : s.vm.findClass own = some m.cls) (eT : T.heap = h) (w : (Jvm.Cond.fieldLink own index R0 nm d).before a0 Z = true ∨ (Jvm.Cond.fieldLinkNest own index R0 nm d host).before a0 Z = true) (via : Via Z R0 O nm d)
    {v : Value} (F : Fld Z h a O nm d v) (hd : decode c.code pc = .ok (.getfield index, 3))
    (k : ∀ T', Stand p l e R s m args below meth c T' locs cells slots → T'.heap = h → Goes p.tables e below (T'.setTop (mkF m (pc + 3) Ls (v :: st))) P) : Goes p.tables e below (T.setTop (mkF m pc Ls (.ref a :: st))) P := by
  obtain ⟨T', X', e', st'⟩ := getF X hx hZ hown w via eT F (g := mkF m pc Ls (.ref a :: st)) rfl rfl hd
  exact (k T' X' e').of st'
theorem g_getS (X : Stand p l e R s m args below meth c T locs cells slots) (hx : p.tables.exec = Jvm.exec) (hZ : Z.Warmed39 s.vm) (hown : s.vm.findClass own = some m.cls) (eT : T.heap = h) (w : (Jvm.Cond.fieldLink own index O nm d).before a0 Z = true ∨ (Jvm.Cond.fieldLinkNest own index O nm d host).before a0 Z = true)
    {v : Value} (F : Sta Z h O nm d v) (hd : decode c.code pc = .ok (.getstatic index, 3))
    (k : ∀ T', Stand p l e R s m args below meth c T' locs cells slots → T'.heap = h → Goes p.tables e below (T'.setTop (mkF m (pc + 3) Ls (v :: st))) P) : Goes p.tables e below (T.setTop (mkF m pc Ls st)) P := by
  obtain ⟨T', X', e', st'⟩ := getS2 X hx hZ hown w Via.refl eT F (g := mkF m pc Ls st) rfl hd
  exact (k T' X' e').of st'
/-- a field's store; v': what the field then holds -/
theorem g_putF (X : Stand p l e R s m args below meth c T locs cells slots) (hx : p.tables.exec = Jvm.exec) (hZ : Z.Warmed39 s.vm) (hown : s.vm.findClass own = some m.cls) (eT : T.heap = h) (w : (Jvm.Cond.fieldLink own index R0 nm d).before a0 Z = true) (via : Via Z R0 O nm d)
    {v v' old : Value} (F : Fld Z h a O nm d old) (E : Exa Z h a K) (L : (Jvm.Cond.lays K O nm d).before a0 Z = true ∨ ((Jvm.Cond.laysFinal K O nm d).before a0 Z = true ∧ own = O ∧ meth.name = "<init>")) (wi : (Jvm.Cond.instantiable K kk).before a0 Z = true) {ty : FieldType} (hty : parseFieldDescriptor d = some ty) (hn : narrow ty v = v') (hf : fits ty v' = true)
    (hd : decode c.code pc = .ok (.putfield index, 3))
    (k : ∀ T' h', Stand p l e R s m args below meth c T' (locs ++ [⟨a, Jvm.RoadKit.slotOf Z O nm d⟩]) cells slots → T'.heap = h' → Wr h h' a (Jvm.RoadKit.slotOf Z O nm d) v' → Goes p.tables e below (T'.setTop (mkF m (pc + 3) Ls st)) P) : Goes p.tables e below (T.setTop (mkF m pc Ls (v :: .ref a :: st))) P := by
  obtain ⟨T', h', X', e', W', st'⟩ := putFN X hx hZ hown w via eT F E L wi hty hn hf (g := mkF m pc Ls (v :: .ref a :: st)) rfl rfl hd
  exact (k T' h' X' e' W').of st'
end Objects
/-! arrays: the components as a list -/
def Ar (Z : State) (h : Heap) (a : Addr) (ty : FieldType) (vs : List Value) : Prop := ∃ c : Cell, Arr Z h a c ty ∧ c.slots.toList = vs ∧ vs.length < 2 ^ 31 ∧ ∀ v ∈ vs, fits ty v = true
section Arrays
variable {a b : Addr} {ty : FieldType} {vs : List Value} {h' : Heap} {ws : List Addr}
theorem Ar.lt (F : Ar Z h a ty vs) : a < h.size := by obtain ⟨c, A, -⟩ := F; exact A.lt
theorem Ar.ext (F : Ar Z h a ty vs) (E : Ext h h') : Ar Z h' a ty vs := by obtain ⟨c, A, r⟩ := F; exact ⟨c, A.ext E, r⟩
theorem Ar.other (F : Ar Z h b ty vs) {sl : Nat} {v : Value} (W : Wr h h' a sl v) (q : b ≠ a) : Ar Z h' b ty vs := by obtain ⟨c, A, r⟩ := F; exact ⟨c, A.other W q, r⟩
theorem Ar.keep (F : Ar Z h a ty vs) (K : Keep h h' ws) (q : a ∉ ws) : Ar Z h' a ty vs := by obtain ⟨c, A, r⟩ := F; exact ⟨c, ⟨K.2.1 a c A.1 q, A.2⟩, r⟩
theorem own_nat {j : Int32} {i : Nat} (hj : j.toInt = i) : j.toNatClampNeg = i ∧ ¬ j < 0 := by
  have q : ¬ j < 0 := fun q => by have := Int32.lt_iff_toInt_lt.mp q; rw [show (0 : Int32).toInt = 0 from rfl] at this; omega
  have e := nat_of q
  exact ⟨by omega, q⟩
theorem own_in {j : Int32} {i : Nat} (hj : j.toInt = i) {c : Cell} (hs : c.slots.toList = vs) (hi : i < vs.length) : ¬ (j < 0 ∨ c.slots.size ≤ j.toNatClampNeg) := by
  obtain ⟨e, q⟩ := own_nat hj
  rintro (r | r)
  · exact q r
  · rw [← Array.length_toList, hs] at r; omega
theorem own_at {j : Int32} {i : Nat} (hj : j.toInt = i) {c : Cell} (hs : c.slots.toList = vs) {v : Value} (hv : vs[i]? = some v) : c.slots[j.toNatClampNeg]? = some v := by
  rw [(own_nat hj).1, ← Array.getElem?_toList, hs]; exact hv
theorem own_lt {i : Nat} {v : Value} (hv : vs[i]? = some v) : i < vs.length := (List.getElem?_eq_some_iff.mp hv).1
theorem Ar.set {j : Nat} {v : Value} (F : Ar Z h a ty vs) (W : Wr h h' a j v) (hf : fits ty v = true) : Ar Z h' a ty (vs.set j v) := by
  obtain ⟨c, A, hs, hl, hv⟩ := F
  refine ⟨c.setSlot j v, A.same W, by rw [← hs]; simp [Cell.setSlot], by rw [List.length_set]; exact hl, fun w hw => ?_⟩
  rcases List.mem_or_eq_of_mem_set hw with q | q
  · exact hv w q
  · rw [q]; exact hf
theorem g_iaload (X : Stand p l e R s m args below meth c T locs cells slots) (hx : p.tables.exec = Jvm.exec) (hZ : Z.Warmed39 s.vm) (eT : T.heap = h) (A : Ar Z h a .int vs) {j : Int32} {i : Nat} {v : Value} (hj : j.toInt = i) (hv : vs[i]? = some v) (hd : decode c.code pc = .ok (.iaload, 1))
    (hr : Goes p.tables e below (T.setTop (mkF m (pc + 1) Ls (v :: st))) P) : Goes p.tables e below (T.setTop (mkF m pc Ls (.int j :: .ref a :: st))) P := by
  obtain ⟨cl, A, hs, hl, -⟩ := A
  exact hr.of fun _ k => X.iaload hx (by rw [eT]; exact A.1) (State.isArrayOf_alike hZ.alike A.2.1) A.2.2 (own_in hj hs (own_lt hv)) (own_at hj hs hv) (g := mkF m pc Ls (.int j :: .ref a :: st)) rfl rfl hd _ k
theorem g_laload (X : Stand p l e R s m args below meth c T locs cells slots) (hx : p.tables.exec = Jvm.exec) (hZ : Z.Warmed39 s.vm) (eT : T.heap = h) (A : Ar Z h a .long vs) {j : Int32} {i : Nat} {v : Value} (hj : j.toInt = i) (hv : vs[i]? = some v) (hd : decode c.code pc = .ok (.laload, 1))
    (hr : Goes p.tables e below (T.setTop (mkF m (pc + 1) Ls (v :: st))) P) : Goes p.tables e below (T.setTop (mkF m pc Ls (.int j :: .ref a :: st))) P := by
  obtain ⟨cl, A, hs, hl, -⟩ := A
  exact hr.of fun _ k => X.laload hx (by rw [eT]; exact A.1) (State.isArrayOf_alike hZ.alike A.2.1) A.2.2 (own_in hj hs (own_lt hv)) (own_at hj hs hv) (g := mkF m pc Ls (.int j :: .ref a :: st)) rfl rfl hd _ k
theorem g_caload (X : Stand p l e R s m args below meth c T locs cells slots) (hx : p.tables.exec = Jvm.exec) (hZ : Z.Warmed39 s.vm) (eT : T.heap = h) (A : Ar Z h a .char vs) {j : Int32} {i : Nat} {v : Value} (hj : j.toInt = i) (hv : vs[i]? = some v) (hd : decode c.code pc = .ok (.caload, 1))
    (hr : Goes p.tables e below (T.setTop (mkF m (pc + 1) Ls (v :: st))) P) : Goes p.tables e below (T.setTop (mkF m pc Ls (.int j :: .ref a :: st))) P := by
  obtain ⟨cl, A, hs, hl, -⟩ := A
  exact hr.of fun _ k => X.caload hx (by rw [eT]; exact A.1) (State.isArrayOf_alike hZ.alike A.2.1) A.2.2 (own_in hj hs (own_lt hv)) (own_at hj hs hv) (g := mkF m pc Ls (.int j :: .ref a :: st)) rfl rfl hd _ k
theorem g_saload (X : Stand p l e R s m args below meth c T locs cells slots) (hx : p.tables.exec = Jvm.exec) (hZ : Z.Warmed39 s.vm) (eT : T.heap = h) (A : Ar Z h a .short vs) {j : Int32} {i : Nat} {v : Value} (hj : j.toInt = i) (hv : vs[i]? = some v) (hd : decode c.code pc = .ok (.saload, 1))
    (hr : Goes p.tables e below (T.setTop (mkF m (pc + 1) Ls (v :: st))) P) : Goes p.tables e below (T.setTop (mkF m pc Ls (.int j :: .ref a :: st))) P := by
  obtain ⟨cl, A, hs, hl, -⟩ := A
  exact hr.of fun _ k => X.saload hx (by rw [eT]; exact A.1) (State.isArrayOf_alike hZ.alike A.2.1) A.2.2 (own_in hj hs (own_lt hv)) (own_at hj hs hv) (g := mkF m pc Ls (.int j :: .ref a :: st)) rfl rfl hd _ k
theorem g_baload (X : Stand p l e R s m args below meth c T locs cells slots) (hx : p.tables.exec = Jvm.exec) (hZ : Z.Warmed39 s.vm) (eT : T.heap = h) (A : Ar Z h a .byte vs) {j : Int32} {i : Nat} {v : Value} (hj : j.toInt = i) (hv : vs[i]? = some v) (hd : decode c.code pc = .ok (.baload, 1))
    (hr : Goes p.tables e below (T.setTop (mkF m (pc + 1) Ls (v :: st))) P) : Goes p.tables e below (T.setTop (mkF m pc Ls (.int j :: .ref a :: st))) P := by
  obtain ⟨cl, A, hs, hl, -⟩ := A
  exact hr.of fun _ k => X.baloadBytes hx (by rw [eT]; exact A.1) (State.isArrayOf_alike hZ.alike A.2.1) A.2.2 (own_in hj hs (own_lt hv)) (own_at hj hs hv) (g := mkF m pc Ls (.int j :: .ref a :: st)) rfl rfl hd _ k
theorem g_zaload (X : Stand p l e R s m args below meth c T locs cells slots) (hx : p.tables.exec = Jvm.exec) (hZ : Z.Warmed39 s.vm) (eT : T.heap = h) (A : Ar Z h a .boolean vs) {j : Int32} {i : Nat} {v : Value} (hj : j.toInt = i) (hv : vs[i]? = some v) (hd : decode c.code pc = .ok (.baload, 1))
    (hr : Goes p.tables e below (T.setTop (mkF m (pc + 1) Ls (v :: st))) P) : Goes p.tables e below (T.setTop (mkF m pc Ls (.int j :: .ref a :: st))) P := by
  obtain ⟨cl, A, hs, hl, -⟩ := A
  exact hr.of fun _ k => X.baloadBooleans hx (by rw [eT]; exact A.1) (State.isArrayOf_alike hZ.alike A.2.1) A.2.2 (own_in hj hs (own_lt hv)) (own_at hj hs hv) (g := mkF m pc Ls (.int j :: .ref a :: st)) rfl rfl hd _ k
theorem g_aaload (X : Stand p l e R s m args below meth c T locs cells slots) (hx : p.tables.exec = Jvm.exec) (hZ : Z.Warmed39 s.vm) (eT : T.heap = h) (A : Ar Z h a ty vs) (hty : ty.isReference = true) {j : Int32} {i : Nat} {v : Value} (hj : j.toInt = i) (hv : vs[i]? = some v) (hd : decode c.code pc = .ok (.aaload, 1))
    (hr : Goes p.tables e below (T.setTop (mkF m (pc + 1) Ls (v :: st))) P) : Goes p.tables e below (T.setTop (mkF m pc Ls (.int j :: .ref a :: st))) P := by
  obtain ⟨cl, A, hs, hl, -⟩ := A
  exact hr.of fun _ k => X.aaload hx (by rw [eT]; exact A.1) (State.isArrayOf_alike hZ.alike A.2.1) hty A.2.2 (own_in hj hs (own_lt hv)) (own_at hj hs hv) (g := mkF m pc Ls (.int j :: .ref a :: st)) rfl rfl hd _ k
theorem g_alen (X : Stand p l e R s m args below meth c T locs cells slots) (hx : p.tables.exec = Jvm.exec) (hZ : Z.Warmed39 s.vm) (eT : T.heap = h) (A : Ar Z h a ty vs) (z : Int32) (hz : z.toInt = vs.length) (hd : decode c.code pc = .ok (.arraylength, 1))
    (hr : Goes p.tables e below (T.setTop (mkF m (pc + 1) Ls (.int z :: st))) P) : Goes p.tables e below (T.setTop (mkF m pc Ls (.ref a :: st))) P := by
  obtain ⟨cl, A, hs, hl, -⟩ := A
  have q : cl.slots.size.toInt32 = z := by
    have e1 : cl.slots.size = vs.length := by rw [← hs, Array.length_toList]
    exact Int32.toInt_inj.mp (by rw [len_toInt (by rw [e1]; exact hl), hz, e1])
  subst q
  exact hr.of fun _ k => X.arraylength hx (cell := cl) (by rw [eT]; exact A.1) (State.isArrayOf_alike hZ.alike A.2.1) (g := mkF m pc Ls (.ref a :: st)) rfl (rest := st) rfl hd _ k
theorem g_newarr (X : Stand p l e R s m args below meth c T locs cells slots) (hx : p.tables.exec = Jvm.exec) (hZ : Z.Warmed39 s.vm) (eT : T.heap = h) {aty : ArrayType} (w : (Jvm.Cond.arrayClass (newarray.typeOf aty)).before a0 Z = true) (hd : decode c.code pc = .ok (.newarray aty, 2)) {z : Int32} {n : Nat} (hz : z.toInt = n) (cap : Nat) (hcap : n ≤ cap) (hb : cap * 8 ≤ 536870912) (hc : cells + 1 ≤ R.cells) (hl : slots + cap ≤ R.slots) {ad : String} (had : "[" ++ (newarray.typeOf aty).toString = ad) (hfit : fits (newarray.typeOf aty) (defaultValue (newarray.typeOf aty)) = true)
    (k : ∀ T' h' a, a = h.size → Stand p l e R s m args below meth c T' locs (cells + 1) (slots + cap) → T'.heap = h' → Ext h h' → Ar Z h' a (newarray.typeOf aty) (List.replicate n (defaultValue (newarray.typeOf aty))) → Exa Z h' a ad → Goes p.tables e below (T'.setTop (mkF m (pc + 2) Ls (.ref a :: st))) P) :
    Goes p.tables e below (T.setTop (mkF m pc Ls (.int z :: st))) P := by
  obtain ⟨e1, q⟩ := own_nat hz
  obtain ⟨T', h', cA, X', e', E, A, F, st'⟩ := newPE X hx hZ w eT (g := mkF m pc Ls (.int z :: st)) rfl hd rfl q (cap := cap) (by rw [e1]; exact hcap) hb hc hl had
  refine (k T' h' _ rfl X' e' E ⟨_, A, ?_, ?_, ?_⟩ F).of st'
  · simp [newA, e1]
  · rw [List.length_replicate]; have := rng32 z; omega
  · intro v hv; rw [(List.mem_replicate.mp hv).2]; exact hfit
theorem g_iastore (X : Stand p l e R s m args below meth c T locs cells slots) (hx : p.tables.exec = Jvm.exec) (hZ : Z.Warmed39 s.vm) (eT : T.heap = h) (A : Ar Z h a .int vs) {j : Int32} {x : Int32} (i : Nat) (hj : j.toInt = i) (hi : i < vs.length) (hd : decode c.code pc = .ok (.iastore, 1))
    (k : ∀ T' h', Stand p l e R s m args below meth c T' (locs ++ [⟨a, i⟩]) cells slots → T'.heap = h' → Wr h h' a i (.int x) → Ar Z h' a .int (vs.set i (.int x)) → Goes p.tables e below (T'.setTop (mkF m (pc + 1) Ls st)) P) : Goes p.tables e below (T.setTop (mkF m pc Ls (.int x :: .int j :: .ref a :: st))) P := by
  have A' := A
  obtain ⟨cl, A, hs, hl, -⟩ := A
  obtain ⟨T', h', X', e', W', st'⟩ := stI X hx hZ eT A (own_in hj hs hi) (g := mkF m pc Ls (.int x :: .int j :: .ref a :: st)) rfl rfl hd
  rw [(own_nat hj).1] at X' W'
  exact (k T' h' X' e' W' (A'.set W' rfl)).of st'
theorem g_lastore (X : Stand p l e R s m args below meth c T locs cells slots) (hx : p.tables.exec = Jvm.exec) (hZ : Z.Warmed39 s.vm) (eT : T.heap = h) (A : Ar Z h a .long vs) {j : Int32} {x : Int64} (i : Nat) (hj : j.toInt = i) (hi : i < vs.length) (hd : decode c.code pc = .ok (.lastore, 1))
    (k : ∀ T' h', Stand p l e R s m args below meth c T' (locs ++ [⟨a, i⟩]) cells slots → T'.heap = h' → Wr h h' a i (.long x) → Ar Z h' a .long (vs.set i (.long x)) → Goes p.tables e below (T'.setTop (mkF m (pc + 1) Ls st)) P) : Goes p.tables e below (T.setTop (mkF m pc Ls (.long x :: .int j :: .ref a :: st))) P := by
  have A' := A
  obtain ⟨cl, A, hs, hl, -⟩ := A
  obtain ⟨T', h', X', e', W', st'⟩ := stJ X hx hZ eT A (own_in hj hs hi) (g := mkF m pc Ls (.long x :: .int j :: .ref a :: st)) rfl rfl hd
  rw [(own_nat hj).1] at X' W'
  exact (k T' h' X' e' W' (A'.set W' rfl)).of st'
theorem g_castore (X : Stand p l e R s m args below meth c T locs cells slots) (hx : p.tables.exec = Jvm.exec) (hZ : Z.Warmed39 s.vm) (eT : T.heap = h) (A : Ar Z h a .char vs) {j x : Int32} (i : Nat) (hj : j.toInt = i) (hi : i < vs.length) (x' : Int32) (hn : nar .char x = x') (hd : decode c.code pc = .ok (.castore, 1))
    (k : ∀ T' h', Stand p l e R s m args below meth c T' (locs ++ [⟨a, i⟩]) cells slots → T'.heap = h' → Wr h h' a i (.int x') → Ar Z h' a .char (vs.set i (.int x')) → Goes p.tables e below (T'.setTop (mkF m (pc + 1) Ls st)) P) : Goes p.tables e below (T.setTop (mkF m pc Ls (.int x :: .int j :: .ref a :: st))) P := by
  have A' := A
  obtain ⟨cl, A, hs, hl, -⟩ := A
  obtain ⟨T', h', X', e', W', st'⟩ := stC X hx hZ eT A (own_in hj hs hi) (g := mkF m pc Ls (.int x :: .int j :: .ref a :: st)) rfl rfl hd
  rw [(own_nat hj).1, hn] at W'
  rw [(own_nat hj).1] at X'
  exact (k T' h' X' e' W' (A'.set W' (by rw [← hn]; exact fits_nar_char x))).of st'
theorem g_bastore (X : Stand p l e R s m args below meth c T locs cells slots) (hx : p.tables.exec = Jvm.exec) (hZ : Z.Warmed39 s.vm) (eT : T.heap = h) (A : Ar Z h a .byte vs) {j x : Int32} (i : Nat) (hj : j.toInt = i) (hi : i < vs.length) (x' : Int32) (hn : nar .byte x = x') (hd : decode c.code pc = .ok (.bastore, 1))
    (k : ∀ T' h', Stand p l e R s m args below meth c T' (locs ++ [⟨a, i⟩]) cells slots → T'.heap = h' → Wr h h' a i (.int x') → Ar Z h' a .byte (vs.set i (.int x')) → Goes p.tables e below (T'.setTop (mkF m (pc + 1) Ls st)) P) : Goes p.tables e below (T.setTop (mkF m pc Ls (.int x :: .int j :: .ref a :: st))) P := by
  have A' := A
  obtain ⟨cl, A, hs, hl, -⟩ := A
  obtain ⟨T', h', X', e', W', st'⟩ := stB X hx hZ eT A (own_in hj hs hi) (g := mkF m pc Ls (.int x :: .int j :: .ref a :: st)) rfl rfl hd
  rw [(own_nat hj).1, hn] at W'
  rw [(own_nat hj).1] at X'
  exact (k T' h' X' e' W' (A'.set W' (by rw [← hn]; exact fits_nar_byte x))).of st'
theorem g_zastore (X : Stand p l e R s m args below meth c T locs cells slots) (hx : p.tables.exec = Jvm.exec) (hZ : Z.Warmed39 s.vm) (eT : T.heap = h) (A : Ar Z h a .boolean vs) {j x : Int32} (i : Nat) (hj : j.toInt = i) (hi : i < vs.length) (x' : Int32) (hn : nar .boolean x = x') (hd : decode c.code pc = .ok (.bastore, 1))
    (k : ∀ T' h', Stand p l e R s m args below meth c T' (locs ++ [⟨a, i⟩]) cells slots → T'.heap = h' → Wr h h' a i (.int x') → Ar Z h' a .boolean (vs.set i (.int x')) → Goes p.tables e below (T'.setTop (mkF m (pc + 1) Ls st)) P) : Goes p.tables e below (T.setTop (mkF m pc Ls (.int x :: .int j :: .ref a :: st))) P := by
  have A' := A
  obtain ⟨cl, A, hs, hl, -⟩ := A
  obtain ⟨T', h', X', e', W', st'⟩ := stZ X hx hZ eT A (own_in hj hs hi) (g := mkF m pc Ls (.int x :: .int j :: .ref a :: st)) rfl rfl hd
  rw [(own_nat hj).1, hn] at W'
  rw [(own_nat hj).1] at X'
  exact (k T' h' X' e' W' (A'.set W' (by rw [← hn]; exact fits_nar_bool x))).of st'
theorem g_clone (X : Stand p l e R s m args below meth c T locs cells slots) (hx : p.tables.exec = Jvm.exec) (hZ : Z.Warmed39 s.vm) {own ad : String} {index : Nat} (hown : s.vm.findClass own = some m.cls) (hml : Ls.size = c.maxLocals) (eT : T.heap = h)
    (w1 : (Jvm.Cond.methodLink own index ⟨ad, "clone", "()Ljava/lang/Object;"⟩).before a0 Z = true) (w2 : (Jvm.Cond.sameMethod ad "java/lang/Object" "clone" "()Ljava/lang/Object;").before a0 Z = true) (w3 : (Jvm.Cond.native ⟨"java/lang/Object", "clone", "()Ljava/lang/Object;"⟩).before a0 Z = true)
    (w4 : (Jvm.Cond.instanceMethod ⟨"java/lang/Object", "clone", "()Ljava/lang/Object;"⟩).before a0 Z = true) (w5 : (Jvm.Cond.selects ad ⟨ad, "clone", "()Ljava/lang/Object;"⟩ ⟨"java/lang/Object", "clone", "()Ljava/lang/Object;"⟩).before a0 Z = true) (w6 : (Jvm.Cond.castable ad "java/lang/Cloneable").before a0 Z = true)
    (A : Ar Z h a ty vs) (E : Exa Z h a ad) (hd : decode c.code pc = .ok (.invokevirtual index, 3)) (W cap : Nat) (hf : 1 ≤ R.frames) (hW : (st.map fun v => v.category).sum ≤ W) (hl : W + 14 ≤ R.locals) (hcap : vs.length ≤ cap) (hc : cells + 1 ≤ R.cells) (hsl : slots + cap ≤ R.slots)
    (k : ∀ T' h' b, b = h.size → Stand p l e R s m args below meth c T' locs (cells + 1) (slots + cap) → T'.heap = h' → Ext h h' → Ar Z h' b ty vs → Exa Z h' b ad → Goes p.tables e below (T'.setTop (mkF m (pc + 3) Ls (.ref b :: st))) P) :
    Goes p.tables e below (T.setTop (mkF m pc Ls (.ref a :: st))) P := by
  obtain ⟨cl, A, hs, hln, hft⟩ := A
  have hsz : cl.slots.size = vs.length := by rw [← hs, Array.length_toList]
  obtain ⟨T', h', X', e', Ex, A', E', st'⟩ := cloneA X hx hZ hown w1 w2 w3 w4 w5 w6 eT A E (fitC_of A (fun i hi v hv => hft v (by rw [← hs]; exact Array.mem_toList_iff.mpr (Array.mem_of_getElem? hv)))) (g := mkF m pc Ls (.ref a :: st)) rfl hml rfl hd hf (W := W) (cap := cap) (by show 2 * 0 + _ ≤ _; omega) hl (by rw [hsz]; exact hcap) hc hsl
  exact (k T' h' _ rfl X' e' Ex ⟨_, A', hs, hln, hft⟩ E').of st'
theorem g_cast (X : Stand p l e R s m args below meth c T locs cells slots) (hx : p.tables.exec = Jvm.exec) (hZ : Z.Warmed39 s.vm) {own K : String} {index : Nat} (hown : s.vm.findClass own = some m.cls) (eT : T.heap = h) (w : (Jvm.Cond.classLink own index K).before a0 Z = true) (F : Ins Z h a K true) (hd : decode c.code pc = .ok (.checkcast index, 3))
    (k : ∀ T', Stand p l e R s m args below meth c T' locs cells slots → T'.heap = h → Goes p.tables e below (T'.setTop (mkF m (pc + 3) Ls (.ref a :: st))) P) : Goes p.tables e below (T.setTop (mkF m pc Ls (.ref a :: st))) P := by
  obtain ⟨T', X', e', st'⟩ := castY X hx hZ hown w eT F (g := mkF m pc Ls (.ref a :: st)) rfl rfl hd
  exact (k T' X' e').of st'
theorem Ar.toV (F : Ar Z h a ty vs) (d : Value) : ∃ k, Arv Z h a k ty (Int32.ofNat vs.length) vs d := by
  obtain ⟨cl, A, hs, hl, hf⟩ := F
  have e1 : cl.slots.size = vs.length := by rw [← hs, Array.length_toList]
  obtain ⟨e2, q⟩ := own_nat (j := Int32.ofNat vs.length) (i := vs.length) (Int32.toInt_ofNat_of_lt (by omega))
  refine ⟨cl.cls, cl, A, rfl, by rw [e2, e1], q, fun i hi => ?_, fun i hi => ?_⟩
  · rw [← Array.getElem?_toList, hs, List.getD_eq_getElem?_getD, List.getElem?_eq_getElem (by omega)]; rfl
  · rw [List.getD_eq_getElem?_getD, List.getElem?_eq_getElem (by omega)]; exact hf _ (List.getElem_mem _)
theorem Ar.ofV {k : ClassId} {z : Int32} {d : Value} (F : Arv Z h a k ty z vs d) (hl : vs.length = z.toNatClampNeg) (hb : vs.length < 2 ^ 31) : Ar Z h a ty vs := by
  obtain ⟨cl, A, -, hs, -, H, G⟩ := F
  have e : cl.slots.toList = vs := by
    apply List.ext_getElem?
    intro i
    by_cases hi : i < cl.slots.size
    · rw [Array.getElem?_toList, H i hi, List.getD_eq_getElem?_getD, List.getElem?_eq_getElem (by omega)]; rfl
    · rw [List.getElem?_eq_none (by rw [Array.length_toList]; omega), List.getElem?_eq_none (by omega)]
  refine ⟨cl, A, e, hb, fun v hv => ?_⟩
  obtain ⟨i, hi, rfl⟩ := List.getElem_of_mem hv
  have q := G i (by omega)
  rwa [List.getD_eq_getElem?_getD, List.getElem?_eq_getElem hi] at q
theorem own_rangeTake (vs : List Value) (d : Value) (n : Nat) (hn : n ≤ vs.length) : (List.range n).map (fun i => vs.getD (0 + i) d) = vs.take n := by
  apply List.ext_getElem
  · simp; omega
  · intro i h1 h2
    simp at h1 h2
    simp [List.getElem?_eq_getElem (show i < vs.length by omega)]
theorem g_acopy (X : Stand p l e R s m args below meth c T locs cells slots) (hx : p.tables.exec = Jvm.exec) (hZ : Z.Warmed39 s.vm) {own : String} {index : Nat} (hown : s.vm.findClass own = some m.cls) (hml : Ls.size = c.maxLocals) (eT : T.heap = h)
    (w1 : (Jvm.Cond.methodLink own index Jvm.Stand.acN).before a0 Z = true) (w2 : (Jvm.Cond.native Jvm.Stand.acN).before a0 Z = true) (w3 : (Jvm.Cond.static Jvm.Stand.acN).before a0 Z = true) (w4 : (Jvm.Cond.initialized "java/lang/System").before a0 Z = true)
    {vd : List Value} (A : Ar Z h a ty vs) (B : Ar Z h b ty vd) (hp : refKind ty = false) {nn : Int32} {n : Nat} (hn : nn.toInt = n) (h1 : n ≤ vs.length) (h2 : n ≤ vd.length) {n0 : Nat} (N : Fr n0 locs) (ge : n0 ≤ b) (hd : decode c.code pc = .ok (.invokestatic index, 3))
    (W : Nat) (hf : 1 ≤ R.frames) (hW : (st.map fun v => v.category).sum ≤ W) (hlo : W + (nativeFrameWords "java/lang/System" "arraycopy" 5 + 11) ≤ R.locals)
    (k : ∀ T' h' L, Stand p l e R s m args below meth c T' L cells slots → T'.heap = h' → Fr n0 L → Keep h h' [b] → Ar Z h' b ty (vs.take n ++ vd.drop n) → Goes p.tables e below (T'.setTop (mkF m (pc + 3) Ls st)) P) :
    Goes p.tables e below (T.setTop (mkF m pc Ls (.int nn :: .int 0 :: .ref b :: .int 0 :: .ref a :: st))) P := by
  obtain ⟨k1, A1⟩ := A.toV .null
  obtain ⟨k2, B1⟩ := B.toV .null
  obtain ⟨en, qn⟩ := own_nat hn
  have lv : vs.length < 2 ^ 31 := by obtain ⟨_, _, _, q, _⟩ := A; exact q
  have ld : vd.length < 2 ^ 31 := by obtain ⟨_, _, _, q, _⟩ := B; exact q
  have ev : (Int32.ofNat vs.length).toNatClampNeg = vs.length := (own_nat (Int32.toInt_ofNat_of_lt (by omega))).1
  have ed : (Int32.ofNat vd.length).toNatClampNeg = vd.length := (own_nat (Int32.toInt_ofNat_of_lt (by omega))).1
  have e0 : (0 : Int32).toNatClampNeg = 0 := rfl
  obtain ⟨T', h', L, X', e', N', K', B', st'⟩ := cpA X hx hZ hown w1 w2 w3 w4 eT A1 B1 (sp := 0) (dp := 0) (nn := nn) (Or.inl ⟨rfl, hp⟩) (by decide) (by decide) qn (by rw [e0, en, ev]; omega) (by rw [e0, en, ed]; omega) rfl (by rw [e0, en]; omega) N ge (g := mkF m pc Ls (.int nn :: .int 0 :: .ref b :: .int 0 :: .ref a :: st)) rfl hml rfl hd hf (W := W) (by show 2 * 0 + _ ≤ _; omega) hlo
  rw [e0, en, own_rangeTake vs _ n h1, List.take_zero, List.nil_append, Nat.zero_add] at B'
  have hlen : (vs.take n ++ vd.drop n).length = vd.length := by rw [List.length_append, List.length_take, List.length_drop]; omega
  exact (k T' h' L X' e' N' K' (Ar.ofV B' (by rw [hlen, ed]) (by rw [hlen]; exact ld))).of st'
end Arrays
theorem own_nst {a : Addr} {K : String} (E : Exa Z h a K) : ∀ c : Cell, h[a]? = some c → c.vm.isStatics = false := fun c hc => by
  obtain ⟨cell, k, h1, -, -, h4, -⟩ := E
  cases h1.symm.trans hc
  exact h4
theorem own_stakeep {h' : Heap} {K n d : String} {v : Value} {ws : List Addr} (F : Sta Z h K n d v) (hK : Keep h h' ws) (q : ∀ x ∈ ws, ∀ c : Cell, h[x]? = some c → c.vm.isStatics = false) : Sta Z h' K n d v := by
  obtain ⟨cf, i, k, f, sa, cell, h1, h2, h3, h4, h5, h6, h7⟩ := F
  exact ⟨cf, i, k, f, sa, cell, h1, h2, h3, h4, hK.2.1 sa cell h5 (fun hm => by rw [q sa hm cell h5] at h6; cases h6), h6, h7⟩
/-! words on statics -/
section Words
variable {first : State} {o : Option Outcome} {idx : List Nat} {ta tb : Term}
theorem own_eqR {y : Addr} (h : (Jvm.Cond.eq ta tb).value args first o s idx = some true) (hb : tb.eval args first o idx s = some (.ref y)) : ta.eval args first o idx s = some (.ref y) := by
  obtain ⟨x, z, ha, hb', k1, k2⟩ := cmp_v (Or.inl h)
  cases hb.symm.trans hb'
  have e := gotT (eq_R ha hb k2.2 rfl) h
  rw [ha, e]
theorem own_eqI {y : Int32} (h : (Jvm.Cond.eq ta tb).value args first o s idx = some true) (hb : tb.eval args first o idx s = some (.int y)) : ta.eval args first o idx s = some (.int y) := by
  obtain ⟨x, z, ha, hb', k1, k2⟩ := cmp_v (Or.inl h)
  cases hb.symm.trans hb'
  obtain ⟨w, rfl⟩ := k2
  simp [Jvm.Cond.value, ha, hb] at h
  rw [ha, h]
end Words
end Walk
end Jvm.OwnW
namespace Jvm.Pilot.@@N@@
open Jvm Jvm.ClassFile Sem Op Lib Jvm.Free Jvm.Stand Jvm.LawKit Jvm.RoadKit Bundle Jvm.OwnW Jvm.Pilot.@@N@@.Jvm.D
theorem d1_0 : decode method_3_code 0 = .ok (.iload_n 0, 1) := by decide +kernel
theorem d1_1 : decode method_3_code 1 = .ok (.iload_n 1, 1) := by decide +kernel
theorem d1_2 : decode method_3_code 2 = .ok (.iushr, 1) := by decide +kernel
theorem d1_3 : decode method_3_code 3 = .ok (.iconst 1, 1) := by decide +kernel
theorem d1_4 : decode method_3_code 4 = .ok (.iand, 1) := by decide +kernel
theorem d1_5 : decode method_3_code 5 = .ok (.ifCond .eq 12, 3) := by decide +kernel
theorem d1_8 : decode method_3_code 8 = .ok (.ldc2_w 25, 3) := by decide +kernel
theorem d1_11 : decode method_3_code 11 = .ok (.bipush 8, 2) := by decide +kernel
theorem d1_13 : decode method_3_code 13 = .ok (.iload_n 1, 1) := by decide +kernel
theorem d1_14 : decode method_3_code 14 = .ok (.imul, 1) := by decide +kernel
theorem d1_15 : decode method_3_code 15 = .ok (.lshl, 1) := by decide +kernel
theorem d1_16 : decode method_3_code 16 = .ok (.lreturn, 1) := by decide +kernel
theorem d1_17 : decode method_3_code 17 = .ok (.lconst 0, 1) := by decide +kernel
theorem d1_18 : decode method_3_code 18 = .ok (.lreturn, 1) := by decide +kernel
theorem pd_1 : parseMethodDescriptor "(II)J" = some ⟨[.int, .int], some .long⟩ := by decide +kernel
theorem ef_1 (m : MethodId) (p0 : Int32) (p1 : Int32) : entryFrame m #[(.int p0), (.int p1)] 2 = mkF m 0 #[.val (.int p0), .val (.int p1)] [] := by first | (simp [entryFrame, mkF, argsToLocals, Value.category]; done) | rfl
def spreadV (p0 : Int32) (p1 : Int32) : Int64 := (if ((XT.ushr p0 p1) &&& (1 : Int32)) = 0 then (0 : Int64) else ((255 : Int64) <<< (Int32.toInt64 ((8 : Int32) * p1) &&& 63)))
set_option maxRecDepth 65536 in
set_option maxHeartbeats 40000000 in
theorem rmS (l : Launch) (Z : State) (a0 : Array Value) (hw : ∀ d ∈ tables_1, d.before a0 Z = true) (p0 : Int32) (p1 : Int32) (h0 : Heap)  :
    Con l Z (⟨"com/example/limitrail/limitrail/ByteScanMarksPinLaw", "spread", "(II)J"⟩ : MethodName) method_3_code 2 (some .long) [] ({ frames := 0, cells := 0, slots := 0, locals := 0 } : Room) 0 0 #[(.int p0), (.int p1)] h0 (fun v h L => v = some (.long (spreadV p0 p1)) ∧ h = h0 ∧ L = []) := by
  refine Con.body (plainFor_of_name (by first | (simp [plainName, overriddenIn]; done) | decide +kernel)) ?_
  intro p e s m below meth c T0 hx hby hml hown hnm hZ hret hk X0 e0
  refine Goes.cast (ef_1 m p0 p1) ?_
  show Goes p.tables e below (T0.setTop (mkF m 0 #[.val (.int p0), .val (.int p1)] [])) _
  refine g_iloadN X0 hx (hb hby d1_0) rfl ?_
  show Goes p.tables e below (T0.setTop (mkF m 1 #[.val (.int p0), .val (.int p1)] [(.int p0)])) _
  refine g_iloadN X0 hx (hb hby d1_1) rfl ?_
  show Goes p.tables e below (T0.setTop (mkF m 2 #[.val (.int p0), .val (.int p1)] [(.int p1), (.int p0)])) _
  refine g_iushr X0 hx (hb hby d1_2) ?_
  show Goes p.tables e below (T0.setTop (mkF m 3 #[.val (.int p0), .val (.int p1)] [(.int (XT.ushr p0 p1))])) _
  refine g_iconst X0 hx (1 : Int32) (hb hby d1_3) rfl ?_
  show Goes p.tables e below (T0.setTop (mkF m 4 #[.val (.int p0), .val (.int p1)] [(.int (1 : Int32)), (.int (XT.ushr p0 p1))])) _
  refine g_iand X0 hx (hb hby d1_4) ?_
  show Goes p.tables e below (T0.setTop (mkF m 5 #[.val (.int p0), .val (.int p1)] [(.int ((XT.ushr p0 p1) &&& (1 : Int32)))])) _
  refine g_if_eq X0 hx (hb hby d1_5) (by decide) (pc' := 17) (by decide) (fun c5 => ?_) (fun c5 => ?_)
  · skip
    show Goes p.tables e below (T0.setTop (mkF m 17 #[.val (.int p0), .val (.int p1)] [])) _
    refine g_lconst X0 hx (0 : Int64) (hb hby d1_17) rfl ?_
    show Goes p.tables e below (T0.setTop (mkF m 18 #[.val (.int p0), .val (.int p1)] [(.long (0 : Int64))])) _
    exact g_retL X0 hx hret hk (hb hby d1_18) (by decide) (by decide) ⟨by rw [spreadV, if_pos c5], e0, rfl⟩
  · skip
    show Goes p.tables e below (T0.setTop (mkF m 8 #[.val (.int p0), .val (.int p1)] [])) _
    refine g_ldc2 X0 hx hZ hown (hw _ (List.mem_of_getElem? (i := 14) rfl)) (hb hby d1_8) ?_
    show Goes p.tables e below (T0.setTop (mkF m 11 #[.val (.int p0), .val (.int p1)] [(.long (255 : Int64))])) _
    refine g_bipush X0 hx (8 : Int32) (hb hby d1_11) (by decide) ?_
    show Goes p.tables e below (T0.setTop (mkF m 13 #[.val (.int p0), .val (.int p1)] [(.int (8 : Int32)), (.long (255 : Int64))])) _
    refine g_iloadN X0 hx (hb hby d1_13) rfl ?_
    show Goes p.tables e below (T0.setTop (mkF m 14 #[.val (.int p0), .val (.int p1)] [(.int p1), (.int (8 : Int32)), (.long (255 : Int64))])) _
    refine g_imul X0 hx (hb hby d1_14) ?_
    show Goes p.tables e below (T0.setTop (mkF m 15 #[.val (.int p0), .val (.int p1)] [(.int ((8 : Int32) * p1)), (.long (255 : Int64))])) _
    refine g_lshl X0 hx (hb hby d1_15) ?_
    show Goes p.tables e below (T0.setTop (mkF m 16 #[.val (.int p0), .val (.int p1)] [(.long ((255 : Int64) <<< (Int32.toInt64 ((8 : Int32) * p1) &&& 63)))])) _
    exact g_retL X0 hx hret hk (hb hby d1_16) (by decide) (by decide) ⟨by rw [spreadV, if_neg c5], e0, rfl⟩
theorem d2_0 : decode prog_4_method_4_code 0 = .ok (.lload_n 0, 1) := by decide +kernel
theorem d2_1 : decode prog_4_method_4_code 1 = .ok (.lload_n 2, 1) := by decide +kernel
theorem d2_2 : decode prog_4_method_4_code 2 = .ok (.lxor, 1) := by decide +kernel
theorem d2_3 : decode prog_4_method_4_code 3 = .ok (.lstore 4, 2) := by decide +kernel
theorem d2_5 : decode prog_4_method_4_code 5 = .ok (.lload 4, 2) := by decide +kernel
theorem d2_7 : decode prog_4_method_4_code 7 = .ok (.ldc2_w 25, 3) := by decide +kernel
theorem d2_10 : decode prog_4_method_4_code 10 = .ok (.land, 1) := by decide +kernel
theorem d2_11 : decode prog_4_method_4_code 11 = .ok (.ldc2_w 25, 3) := by decide +kernel
theorem d2_14 : decode prog_4_method_4_code 14 = .ok (.ladd, 1) := by decide +kernel
theorem d2_15 : decode prog_4_method_4_code 15 = .ok (.lstore 6, 2) := by decide +kernel
theorem d2_17 : decode prog_4_method_4_code 17 = .ok (.lload 6, 2) := by decide +kernel
theorem d2_19 : decode prog_4_method_4_code 19 = .ok (.lload 4, 2) := by decide +kernel
theorem d2_21 : decode prog_4_method_4_code 21 = .ok (.lor, 1) := by decide +kernel
theorem d2_22 : decode prog_4_method_4_code 22 = .ok (.ldc2_w 25, 3) := by decide +kernel
theorem d2_25 : decode prog_4_method_4_code 25 = .ok (.lor, 1) := by decide +kernel
theorem d2_26 : decode prog_4_method_4_code 26 = .ok (.ldc2_w 27, 3) := by decide +kernel
theorem d2_29 : decode prog_4_method_4_code 29 = .ok (.lxor, 1) := by decide +kernel
theorem d2_30 : decode prog_4_method_4_code 30 = .ok (.lreturn, 1) := by decide +kernel
theorem pd_2 : parseMethodDescriptor "(JJ)J" = some ⟨[.long, .long], some .long⟩ := by decide +kernel
theorem ef_2 (m : MethodId) (p0 : Int64) (p1 : Int64) : entryFrame m #[(.long p0), (.long p1)] 8 = mkF m 0 #[.val (.long p0), .second, .val (.long p1), .second, .unset, .unset, .unset, .unset] [] := by first | (simp [entryFrame, mkF, argsToLocals, Value.category]; done) | rfl
def marksV (p0 : Int64) (p1 : Int64) : Int64 := ((((((p0 ^^^ p1) &&& (9187201950435737471 : Int64)) + (9187201950435737471 : Int64)) ||| (p0 ^^^ p1)) ||| (9187201950435737471 : Int64)) ^^^ (-1 : Int64))
set_option maxRecDepth 65536 in
set_option maxHeartbeats 40000000 in
theorem rmM (l : Launch) (Z : State) (a0 : Array Value) (hw : ∀ d ∈ tables_1, d.before a0 Z = true) (p0 : Int64) (p1 : Int64) (h0 : Heap)  :
    Con l Z (⟨"com/example/limitrail/limitrail/ByteScan", "marks", "(JJ)J"⟩ : MethodName) prog_4_method_4_code 8 (some .long) [] ({ frames := 0, cells := 0, slots := 0, locals := 0 } : Room) 0 0 #[(.long p0), (.long p1)] h0 (fun v h L => v = some (.long (marksV p0 p1)) ∧ h = h0 ∧ L = []) := by
  refine Con.body (plainFor_of_name (by first | (simp [plainName, overriddenIn]; done) | decide +kernel)) ?_
  intro p e s m below meth c T0 hx hby hml hown hnm hZ hret hk X0 e0
  refine Goes.cast (ef_2 m p0 p1) ?_
  show Goes p.tables e below (T0.setTop (mkF m 0 #[.val (.long p0), .second, .val (.long p1), .second, .unset, .unset, .unset, .unset] [])) _
  refine g_lloadN X0 hx (hb hby d2_0) rfl ?_
  show Goes p.tables e below (T0.setTop (mkF m 1 #[.val (.long p0), .second, .val (.long p1), .second, .unset, .unset, .unset, .unset] [(.long p0)])) _
  refine g_lloadN X0 hx (hb hby d2_1) rfl ?_
  show Goes p.tables e below (T0.setTop (mkF m 2 #[.val (.long p0), .second, .val (.long p1), .second, .unset, .unset, .unset, .unset] [(.long p1), (.long p0)])) _
  refine g_lxor X0 hx (hb hby d2_2) ?_
  show Goes p.tables e below (T0.setTop (mkF m 3 #[.val (.long p0), .second, .val (.long p1), .second, .unset, .unset, .unset, .unset] [(.long (p0 ^^^ p1))])) _
  refine g_lstore X0 hx (hb hby d2_3) (l' := #[.val (.long p0), .second, .val (.long p1), .second, .val (.long (p0 ^^^ p1)), .second, .unset, .unset]) rfl ?_
  show Goes p.tables e below (T0.setTop (mkF m 5 #[.val (.long p0), .second, .val (.long p1), .second, .val (.long (p0 ^^^ p1)), .second, .unset, .unset] [])) _
  refine g_lload X0 hx (hb hby d2_5) rfl ?_
  show Goes p.tables e below (T0.setTop (mkF m 7 #[.val (.long p0), .second, .val (.long p1), .second, .val (.long (p0 ^^^ p1)), .second, .unset, .unset] [(.long (p0 ^^^ p1))])) _
  refine g_ldc2 X0 hx hZ hown (hw _ (List.mem_of_getElem? (i := 9) rfl)) (hb hby d2_7) ?_
  show Goes p.tables e below (T0.setTop (mkF m 10 #[.val (.long p0), .second, .val (.long p1), .second, .val (.long (p0 ^^^ p1)), .second, .unset, .unset] [(.long (9187201950435737471 : Int64)), (.long (p0 ^^^ p1))])) _
  refine g_land X0 hx (hb hby d2_10) ?_
  show Goes p.tables e below (T0.setTop (mkF m 11 #[.val (.long p0), .second, .val (.long p1), .second, .val (.long (p0 ^^^ p1)), .second, .unset, .unset] [(.long ((p0 ^^^ p1) &&& (9187201950435737471 : Int64)))])) _
  refine g_ldc2 X0 hx hZ hown (hw _ (List.mem_of_getElem? (i := 9) rfl)) (hb hby d2_11) ?_
  show Goes p.tables e below (T0.setTop (mkF m 14 #[.val (.long p0), .second, .val (.long p1), .second, .val (.long (p0 ^^^ p1)), .second, .unset, .unset] [(.long (9187201950435737471 : Int64)), (.long ((p0 ^^^ p1) &&& (9187201950435737471 : Int64)))])) _
  refine g_ladd X0 hx (hb hby d2_14) ?_
  show Goes p.tables e below (T0.setTop (mkF m 15 #[.val (.long p0), .second, .val (.long p1), .second, .val (.long (p0 ^^^ p1)), .second, .unset, .unset] [(.long (((p0 ^^^ p1) &&& (9187201950435737471 : Int64)) + (9187201950435737471 : Int64)))])) _
  refine g_lstore X0 hx (hb hby d2_15) (l' := #[.val (.long p0), .second, .val (.long p1), .second, .val (.long (p0 ^^^ p1)), .second, .val (.long (((p0 ^^^ p1) &&& (9187201950435737471 : Int64)) + (9187201950435737471 : Int64))), .second]) rfl ?_
  show Goes p.tables e below (T0.setTop (mkF m 17 #[.val (.long p0), .second, .val (.long p1), .second, .val (.long (p0 ^^^ p1)), .second, .val (.long (((p0 ^^^ p1) &&& (9187201950435737471 : Int64)) + (9187201950435737471 : Int64))), .second] [])) _
  refine g_lload X0 hx (hb hby d2_17) rfl ?_
  show Goes p.tables e below (T0.setTop (mkF m 19 #[.val (.long p0), .second, .val (.long p1), .second, .val (.long (p0 ^^^ p1)), .second, .val (.long (((p0 ^^^ p1) &&& (9187201950435737471 : Int64)) + (9187201950435737471 : Int64))), .second] [(.long (((p0 ^^^ p1) &&& (9187201950435737471 : Int64)) + (9187201950435737471 : Int64)))])) _
  refine g_lload X0 hx (hb hby d2_19) rfl ?_
  show Goes p.tables e below (T0.setTop (mkF m 21 #[.val (.long p0), .second, .val (.long p1), .second, .val (.long (p0 ^^^ p1)), .second, .val (.long (((p0 ^^^ p1) &&& (9187201950435737471 : Int64)) + (9187201950435737471 : Int64))), .second] [(.long (p0 ^^^ p1)), (.long (((p0 ^^^ p1) &&& (9187201950435737471 : Int64)) + (9187201950435737471 : Int64)))])) _
  refine g_lor X0 hx (hb hby d2_21) ?_
  show Goes p.tables e below (T0.setTop (mkF m 22 #[.val (.long p0), .second, .val (.long p1), .second, .val (.long (p0 ^^^ p1)), .second, .val (.long (((p0 ^^^ p1) &&& (9187201950435737471 : Int64)) + (9187201950435737471 : Int64))), .second] [(.long ((((p0 ^^^ p1) &&& (9187201950435737471 : Int64)) + (9187201950435737471 : Int64)) ||| (p0 ^^^ p1)))])) _
  refine g_ldc2 X0 hx hZ hown (hw _ (List.mem_of_getElem? (i := 9) rfl)) (hb hby d2_22) ?_
  show Goes p.tables e below (T0.setTop (mkF m 25 #[.val (.long p0), .second, .val (.long p1), .second, .val (.long (p0 ^^^ p1)), .second, .val (.long (((p0 ^^^ p1) &&& (9187201950435737471 : Int64)) + (9187201950435737471 : Int64))), .second] [(.long (9187201950435737471 : Int64)), (.long ((((p0 ^^^ p1) &&& (9187201950435737471 : Int64)) + (9187201950435737471 : Int64)) ||| (p0 ^^^ p1)))])) _
  refine g_lor X0 hx (hb hby d2_25) ?_
  show Goes p.tables e below (T0.setTop (mkF m 26 #[.val (.long p0), .second, .val (.long p1), .second, .val (.long (p0 ^^^ p1)), .second, .val (.long (((p0 ^^^ p1) &&& (9187201950435737471 : Int64)) + (9187201950435737471 : Int64))), .second] [(.long (((((p0 ^^^ p1) &&& (9187201950435737471 : Int64)) + (9187201950435737471 : Int64)) ||| (p0 ^^^ p1)) ||| (9187201950435737471 : Int64)))])) _
  refine g_ldc2 X0 hx hZ hown (hw _ (List.mem_of_getElem? (i := 10) rfl)) (hb hby d2_26) ?_
  show Goes p.tables e below (T0.setTop (mkF m 29 #[.val (.long p0), .second, .val (.long p1), .second, .val (.long (p0 ^^^ p1)), .second, .val (.long (((p0 ^^^ p1) &&& (9187201950435737471 : Int64)) + (9187201950435737471 : Int64))), .second] [(.long (-1 : Int64)), (.long (((((p0 ^^^ p1) &&& (9187201950435737471 : Int64)) + (9187201950435737471 : Int64)) ||| (p0 ^^^ p1)) ||| (9187201950435737471 : Int64)))])) _
  refine g_lxor X0 hx (hb hby d2_29) ?_
  show Goes p.tables e below (T0.setTop (mkF m 30 #[.val (.long p0), .second, .val (.long p1), .second, .val (.long (p0 ^^^ p1)), .second, .val (.long (((p0 ^^^ p1) &&& (9187201950435737471 : Int64)) + (9187201950435737471 : Int64))), .second] [(.long ((((((p0 ^^^ p1) &&& (9187201950435737471 : Int64)) + (9187201950435737471 : Int64)) ||| (p0 ^^^ p1)) ||| (9187201950435737471 : Int64)) ^^^ (-1 : Int64)))])) _
  exact g_retL X0 hx hret hk (hb hby d2_30) (by decide) (by decide) ⟨by rw [marksV], e0, rfl⟩
theorem d3_0 : decode method_4_code 0 = .ok (.bipush 8, 2) := by decide +kernel
theorem d3_2 : decode method_4_code 2 = .ok (.iload 4, 2) := by decide +kernel
theorem d3_4 : decode method_4_code 4 = .ok (.imul, 1) := by decide +kernel
theorem d3_5 : decode method_4_code 5 = .ok (.istore 5, 2) := by decide +kernel
theorem d3_7 : decode method_4_code 7 = .ok (.lload_n 0, 1) := by decide +kernel
theorem d3_8 : decode method_4_code 8 = .ok (.iload 5, 2) := by decide +kernel
theorem d3_10 : decode method_4_code 10 = .ok (.lushr, 1) := by decide +kernel
theorem d3_11 : decode method_4_code 11 = .ok (.ldc2_w 25, 3) := by decide +kernel
theorem d3_14 : decode method_4_code 14 = .ok (.land, 1) := by decide +kernel
theorem d3_15 : decode method_4_code 15 = .ok (.lload_n 2, 1) := by decide +kernel
theorem d3_16 : decode method_4_code 16 = .ok (.iload 5, 2) := by decide +kernel
theorem d3_18 : decode method_4_code 18 = .ok (.lushr, 1) := by decide +kernel
theorem d3_19 : decode method_4_code 19 = .ok (.ldc2_w 25, 3) := by decide +kernel
theorem d3_22 : decode method_4_code 22 = .ok (.land, 1) := by decide +kernel
theorem d3_23 : decode method_4_code 23 = .ok (.lcmp, 1) := by decide +kernel
theorem d3_24 : decode method_4_code 24 = .ok (.ifCond .ne 10, 3) := by decide +kernel
theorem d3_27 : decode method_4_code 27 = .ok (.ldc2_w 27, 3) := by decide +kernel
theorem d3_30 : decode method_4_code 30 = .ok (.iload 5, 2) := by decide +kernel
theorem d3_32 : decode method_4_code 32 = .ok (.lshl, 1) := by decide +kernel
theorem d3_33 : decode method_4_code 33 = .ok (.lreturn, 1) := by decide +kernel
theorem d3_34 : decode method_4_code 34 = .ok (.lconst 0, 1) := by decide +kernel
theorem d3_35 : decode method_4_code 35 = .ok (.lreturn, 1) := by decide +kernel
theorem pd_3 : parseMethodDescriptor "(JJI)J" = some ⟨[.long, .long, .int], some .long⟩ := by decide +kernel
theorem ef_3 (m : MethodId) (p0 : Int64) (p1 : Int64) (p2 : Int32) : entryFrame m #[(.long p0), (.long p1), (.int p2)] 6 = mkF m 0 #[.val (.long p0), .second, .val (.long p1), .second, .val (.int p2), .unset] [] := by first | (simp [entryFrame, mkF, argsToLocals, Value.category]; done) | rfl
def markV (p0 : Int64) (p1 : Int64) (p2 : Int32) : Int64 := (if ((XT.ushrL p0 ((8 : Int32) * p2)) &&& (255 : Int64)) = ((XT.ushrL p1 ((8 : Int32) * p2)) &&& (255 : Int64)) then ((128 : Int64) <<< (Int32.toInt64 ((8 : Int32) * p2) &&& 63)) else (0 : Int64))
set_option maxRecDepth 65536 in
set_option maxHeartbeats 40000000 in
theorem rmK (l : Launch) (Z : State) (a0 : Array Value) (hw : ∀ d ∈ tables_1, d.before a0 Z = true) (p0 : Int64) (p1 : Int64) (p2 : Int32) (h0 : Heap)  :
    Con l Z (⟨"com/example/limitrail/limitrail/ByteScanMarksPinLaw", "mark", "(JJI)J"⟩ : MethodName) method_4_code 6 (some .long) [] ({ frames := 0, cells := 0, slots := 0, locals := 0 } : Room) 0 0 #[(.long p0), (.long p1), (.int p2)] h0 (fun v h L => v = some (.long (markV p0 p1 p2)) ∧ h = h0 ∧ L = []) := by
  refine Con.body (plainFor_of_name (by first | (simp [plainName, overriddenIn]; done) | decide +kernel)) ?_
  intro p e s m below meth c T0 hx hby hml hown hnm hZ hret hk X0 e0
  refine Goes.cast (ef_3 m p0 p1 p2) ?_
  show Goes p.tables e below (T0.setTop (mkF m 0 #[.val (.long p0), .second, .val (.long p1), .second, .val (.int p2), .unset] [])) _
  refine g_bipush X0 hx (8 : Int32) (hb hby d3_0) (by decide) ?_
  show Goes p.tables e below (T0.setTop (mkF m 2 #[.val (.long p0), .second, .val (.long p1), .second, .val (.int p2), .unset] [(.int (8 : Int32))])) _
  refine g_iload X0 hx (hb hby d3_2) rfl ?_
  show Goes p.tables e below (T0.setTop (mkF m 4 #[.val (.long p0), .second, .val (.long p1), .second, .val (.int p2), .unset] [(.int p2), (.int (8 : Int32))])) _
  refine g_imul X0 hx (hb hby d3_4) ?_
  show Goes p.tables e below (T0.setTop (mkF m 5 #[.val (.long p0), .second, .val (.long p1), .second, .val (.int p2), .unset] [(.int ((8 : Int32) * p2))])) _
  refine g_istore X0 hx (hb hby d3_5) (l' := #[.val (.long p0), .second, .val (.long p1), .second, .val (.int p2), .val (.int ((8 : Int32) * p2))]) rfl ?_
  show Goes p.tables e below (T0.setTop (mkF m 7 #[.val (.long p0), .second, .val (.long p1), .second, .val (.int p2), .val (.int ((8 : Int32) * p2))] [])) _
  refine g_lloadN X0 hx (hb hby d3_7) rfl ?_
  show Goes p.tables e below (T0.setTop (mkF m 8 #[.val (.long p0), .second, .val (.long p1), .second, .val (.int p2), .val (.int ((8 : Int32) * p2))] [(.long p0)])) _
  refine g_iload X0 hx (hb hby d3_8) rfl ?_
  show Goes p.tables e below (T0.setTop (mkF m 10 #[.val (.long p0), .second, .val (.long p1), .second, .val (.int p2), .val (.int ((8 : Int32) * p2))] [(.int ((8 : Int32) * p2)), (.long p0)])) _
  refine g_lushr X0 hx (hb hby d3_10) ?_
  show Goes p.tables e below (T0.setTop (mkF m 11 #[.val (.long p0), .second, .val (.long p1), .second, .val (.int p2), .val (.int ((8 : Int32) * p2))] [(.long (XT.ushrL p0 ((8 : Int32) * p2)))])) _
  refine g_ldc2 X0 hx hZ hown (hw _ (List.mem_of_getElem? (i := 14) rfl)) (hb hby d3_11) ?_
  show Goes p.tables e below (T0.setTop (mkF m 14 #[.val (.long p0), .second, .val (.long p1), .second, .val (.int p2), .val (.int ((8 : Int32) * p2))] [(.long (255 : Int64)), (.long (XT.ushrL p0 ((8 : Int32) * p2)))])) _
  refine g_land X0 hx (hb hby d3_14) ?_
  show Goes p.tables e below (T0.setTop (mkF m 15 #[.val (.long p0), .second, .val (.long p1), .second, .val (.int p2), .val (.int ((8 : Int32) * p2))] [(.long ((XT.ushrL p0 ((8 : Int32) * p2)) &&& (255 : Int64)))])) _
  refine g_lloadN X0 hx (hb hby d3_15) rfl ?_
  show Goes p.tables e below (T0.setTop (mkF m 16 #[.val (.long p0), .second, .val (.long p1), .second, .val (.int p2), .val (.int ((8 : Int32) * p2))] [(.long p1), (.long ((XT.ushrL p0 ((8 : Int32) * p2)) &&& (255 : Int64)))])) _
  refine g_iload X0 hx (hb hby d3_16) rfl ?_
  show Goes p.tables e below (T0.setTop (mkF m 18 #[.val (.long p0), .second, .val (.long p1), .second, .val (.int p2), .val (.int ((8 : Int32) * p2))] [(.int ((8 : Int32) * p2)), (.long p1), (.long ((XT.ushrL p0 ((8 : Int32) * p2)) &&& (255 : Int64)))])) _
  refine g_lushr X0 hx (hb hby d3_18) ?_
  show Goes p.tables e below (T0.setTop (mkF m 19 #[.val (.long p0), .second, .val (.long p1), .second, .val (.int p2), .val (.int ((8 : Int32) * p2))] [(.long (XT.ushrL p1 ((8 : Int32) * p2))), (.long ((XT.ushrL p0 ((8 : Int32) * p2)) &&& (255 : Int64)))])) _
  refine g_ldc2 X0 hx hZ hown (hw _ (List.mem_of_getElem? (i := 14) rfl)) (hb hby d3_19) ?_
  show Goes p.tables e below (T0.setTop (mkF m 22 #[.val (.long p0), .second, .val (.long p1), .second, .val (.int p2), .val (.int ((8 : Int32) * p2))] [(.long (255 : Int64)), (.long (XT.ushrL p1 ((8 : Int32) * p2))), (.long ((XT.ushrL p0 ((8 : Int32) * p2)) &&& (255 : Int64)))])) _
  refine g_land X0 hx (hb hby d3_22) ?_
  show Goes p.tables e below (T0.setTop (mkF m 23 #[.val (.long p0), .second, .val (.long p1), .second, .val (.int p2), .val (.int ((8 : Int32) * p2))] [(.long ((XT.ushrL p1 ((8 : Int32) * p2)) &&& (255 : Int64))), (.long ((XT.ushrL p0 ((8 : Int32) * p2)) &&& (255 : Int64)))])) _
  refine g_lcmp X0 hx (hb hby d3_23) ?_
  show Goes p.tables e below (T0.setTop (mkF m 24 #[.val (.long p0), .second, .val (.long p1), .second, .val (.int p2), .val (.int ((8 : Int32) * p2))] [(.int (XT.cmpL ((XT.ushrL p0 ((8 : Int32) * p2)) &&& (255 : Int64)) ((XT.ushrL p1 ((8 : Int32) * p2)) &&& (255 : Int64))))])) _
  refine g_lif_ne X0 hx (hb hby d3_24) (by decide) (pc' := 34) (by decide) (fun c24 => ?_) (fun c24 => ?_)
  · skip
    show Goes p.tables e below (T0.setTop (mkF m 34 #[.val (.long p0), .second, .val (.long p1), .second, .val (.int p2), .val (.int ((8 : Int32) * p2))] [])) _
    refine g_lconst X0 hx (0 : Int64) (hb hby d3_34) rfl ?_
    show Goes p.tables e below (T0.setTop (mkF m 35 #[.val (.long p0), .second, .val (.long p1), .second, .val (.int p2), .val (.int ((8 : Int32) * p2))] [(.long (0 : Int64))])) _
    exact g_retL X0 hx hret hk (hb hby d3_35) (by decide) (by decide) ⟨by rw [markV, if_neg c24], e0, rfl⟩
  · skip
    show Goes p.tables e below (T0.setTop (mkF m 27 #[.val (.long p0), .second, .val (.long p1), .second, .val (.int p2), .val (.int ((8 : Int32) * p2))] [])) _
    refine g_ldc2 X0 hx hZ hown (hw _ (List.mem_of_getElem? (i := 15) rfl)) (hb hby d3_27) ?_
    show Goes p.tables e below (T0.setTop (mkF m 30 #[.val (.long p0), .second, .val (.long p1), .second, .val (.int p2), .val (.int ((8 : Int32) * p2))] [(.long (128 : Int64))])) _
    refine g_iload X0 hx (hb hby d3_30) rfl ?_
    show Goes p.tables e below (T0.setTop (mkF m 32 #[.val (.long p0), .second, .val (.long p1), .second, .val (.int p2), .val (.int ((8 : Int32) * p2))] [(.int ((8 : Int32) * p2)), (.long (128 : Int64))])) _
    refine g_lshl X0 hx (hb hby d3_32) ?_
    show Goes p.tables e below (T0.setTop (mkF m 33 #[.val (.long p0), .second, .val (.long p1), .second, .val (.int p2), .val (.int ((8 : Int32) * p2))] [(.long ((128 : Int64) <<< (Int32.toInt64 ((8 : Int32) * p2) &&& 63)))])) _
    exact g_retL X0 hx hret hk (hb hby d3_33) (by decide) (by decide) ⟨by rw [markV, if_pos c24], e0, rfl⟩
/-- the highest bit of a field, behind the carry trick: set just where the field isn't zero -/
theorem own_field (W low sh v : Nat) (h1 : low / 2 ^ sh % 2 ^ (v + 1) = 2 ^ v - 1) (h2 : 2 * (low % 2 ^ sh) < 2 ^ sh) :
    ((((W &&& low) + low) ||| W) ||| low).testBit (sh + v) = decide (W / 2 ^ sh % 2 ^ (v + 1) ≠ 0) := by
  have hP : 0 < 2 ^ sh := Nat.two_pow_pos sh
  have hH : 0 < 2 ^ v := Nat.two_pow_pos v
  have e2 : 2 ^ (v + 1) = 2 ^ v * 2 := Nat.pow_succ 2 v
  have tb : ∀ n : Nat, n.testBit (sh + v) = decide (n / 2 ^ sh % 2 ^ (v + 1) / 2 ^ v = 1) := by
    intro n
    rw [Nat.testBit_eq_decide_div_mod_eq, Nat.pow_add, ← Nat.div_div_eq_div_mul, e2, Nat.mod_mul_right_div_self]
  have a1 : (W &&& low) / 2 ^ sh = (W / 2 ^ sh) &&& (low / 2 ^ sh) := Nat.and_div_two_pow
  have a2 : (W &&& low) % 2 ^ sh ≤ low % 2 ^ sh := by rw [Nat.and_mod_two_pow]; exact Nat.and_le_right
  have a3 : (W &&& low) / 2 ^ sh % 2 ^ (v + 1) = W / 2 ^ sh % 2 ^ v := by
    rw [a1, Nat.and_mod_two_pow, h1, Nat.and_two_pow_sub_one_eq_mod, e2, Nat.mod_mul_right_mod]
  have a4 : ((W &&& low) + low) / 2 ^ sh = (W &&& low) / 2 ^ sh + low / 2 ^ sh := by
    rw [Nat.add_div hP, if_neg (by omega), Nat.add_zero]
  have a5 : ((W &&& low) + low) / 2 ^ sh % 2 ^ (v + 1) = W / 2 ^ sh % 2 ^ v + (2 ^ v - 1) := by
    have q := Nat.mod_lt (W / 2 ^ sh) hH
    rw [a4, Nat.add_mod, a3, h1, Nat.mod_eq_of_lt]
    omega
  rw [Nat.testBit_or, Nat.testBit_or, tb, tb, tb, a5, h1]
  generalize W / 2 ^ sh = q
  rw [e2]
  generalize 2 ^ v = H at hH
  have b1 : (H - 1) / H = 0 := Nat.div_eq_of_lt (by omega)
  have b3 : q % (H * 2) = q % H + H * (q / H % 2) := Nat.mod_mul
  have b4 : q % (H * 2) / H = q / H % 2 := Nat.mod_mul_right_div_self q H 2
  have b5 := Nat.mod_lt q hH
  rw [b1, b4, b3]
  by_cases c1 : q % H = 0
  · rw [c1, Nat.zero_add, b1, Nat.zero_add]
    rcases Nat.mod_two_eq_zero_or_one (q / H) with c2 | c2
    · simp [c2]
    · simp [c2]; omega
  · have b6 : (q % H + (H - 1)) / H = 1 := by
      rw [Nat.div_eq_iff hH]; omega
    rw [b6]
    have : q % H + H * (q / H % 2) ≠ 0 := by omega
    simp only [this, ne_eq, not_false_eq_true, decide_true]
    rfl

def own_M : Nat := 9187201950435737471
theorem own_shr (k : Int32) (n : Nat) (h : (k.toInt64.toUInt64 &&& Int64.toUInt64 63) = UInt64.ofNat n) (hn : n < 64) (x : Int64) : (XT.ushrL x k).toBitVec = x.toBitVec >>> n := by
  show (x.toUInt64 >>> (k.toInt64.toUInt64 &&& Int64.toUInt64 63)).toBitVec = _
  rw [h, UInt64.toBitVec_shiftRight]
  have e : ((UInt64.ofNat n).toBitVec % 64#64).toNat = n := by
    simp [UInt64.toBitVec_ofNat', BitVec.toNat_umod]; omega
  show x.toUInt64.toBitVec >>> ((UInt64.ofNat n).toBitVec % 64#64).toNat = _
  rw [e]; rfl
theorem own_xz (a b : Nat) : a ^^^ b = 0 ↔ a = b := by
  constructor
  · intro h
    have : a ^^^ b ^^^ b = 0 ^^^ b := by rw [h]
    rwa [Nat.xor_assoc, Nat.xor_self, Nat.xor_zero, Nat.zero_xor] at this
  · rintro rfl; exact Nat.xor_self a
theorem own_cond (w p : Int64) (k : Int32) (n : Nat) (h : (k.toInt64.toUInt64 &&& Int64.toUInt64 63) = UInt64.ofNat n) (hn : n < 64) :
    (XT.ushrL w k &&& (255 : Int64)) = (XT.ushrL p k &&& (255 : Int64)) ↔ (w ^^^ p).toBitVec.toNat / 2 ^ n % 2 ^ 8 = 0 := by
  rw [← Int64.toBitVec_inj, Int64.toBitVec_and, Int64.toBitVec_and, own_shr k n h hn, own_shr k n h hn, ← BitVec.toNat_inj, BitVec.toNat_and, BitVec.toNat_and, BitVec.toNat_ushiftRight, BitVec.toNat_ushiftRight, Int64.toBitVec_xor, BitVec.toNat_xor, Nat.xor_div_two_pow, Nat.xor_mod_two_pow, own_xz, Nat.shiftRight_eq_div_pow, Nat.shiftRight_eq_div_pow]
  have e : (255 : Int64).toBitVec.toNat = 2 ^ 8 - 1 := by decide
  rw [e, Nat.and_two_pow_sub_one_eq_mod, Nat.and_two_pow_sub_one_eq_mod]
theorem own_mk (w p : Int64) (i : Int32) (n j : Nat) (h : (((8 : Int32) * i).toInt64.toUInt64 &&& Int64.toUInt64 63) = UInt64.ofNat n) (hn : n < 64) (h2 : ((128 : Int64) <<< (Int32.toInt64 ((8 : Int32) * i) &&& 63)).toBitVec.toNat = 2 ^ (n + 7)) :
    (markV w p i).toBitVec.toNat.testBit j = (decide ((w ^^^ p).toBitVec.toNat / 2 ^ n % 2 ^ 8 = 0) && decide (n + 7 = j)) := by
  unfold markV
  by_cases q : (XT.ushrL w ((8 : Int32) * i) &&& (255 : Int64)) = (XT.ushrL p ((8 : Int32) * i) &&& (255 : Int64))
  · rw [if_pos q, h2, Nat.testBit_two_pow, decide_eq_true ((own_cond w p _ n h hn).mp q), Bool.true_and]
  · rw [if_neg q, decide_eq_false (fun z => q ((own_cond w p _ n h hn).mpr z)), Bool.false_and]
    exact Nat.zero_testBit j
theorem own_marks (w p : Int64) (j : Nat) (hj : j < 64) :
    (marksV w p).toBitVec.toNat.testBit j = !((((((w ^^^ p).toBitVec.toNat &&& own_M) + own_M) ||| (w ^^^ p).toBitVec.toNat) ||| own_M).testBit j) := by
  have eM : (9187201950435737471 : Int64).toBitVec.toNat = own_M := by decide
  have e1 : (-1 : Int64).toBitVec.toNat = 2 ^ 64 - 1 := by decide
  unfold marksV
  rw [Int64.toBitVec_xor, BitVec.toNat_xor, e1, Nat.testBit_xor, Nat.testBit_two_pow_sub_one, decide_eq_true hj, Bool.xor_true, Int64.toBitVec_or, BitVec.toNat_or, Int64.toBitVec_or, BitVec.toNat_or, Int64.toBitVec_add, BitVec.toNat_add, Int64.toBitVec_and, BitVec.toNat_and, eM]
  have b : ((w ^^^ p).toBitVec.toNat &&& own_M) ≤ own_M := Nat.and_le_right
  rw [Nat.mod_eq_of_lt (by unfold own_M at *; omega)]
theorem own_low : ∀ i : Fin 8, own_M / 2 ^ (8 * i.val) % 2 ^ (7 + 1) = 2 ^ 7 - 1 ∧ 2 * (own_M % 2 ^ (8 * i.val)) < 2 ^ (8 * i.val) := by decide +kernel
theorem own_bits : ∀ j : Fin 64, j.val % 8 ≠ 7 → own_M.testBit j.val = true := by decide +kernel
theorem own_plain (w p : Int64) : marksV w p = ((((((((markV w p (0 : Int32)) ||| (markV w p (1 : Int32))) ||| (markV w p (2 : Int32))) ||| (markV w p (3 : Int32))) ||| (markV w p (4 : Int32))) ||| (markV w p (5 : Int32))) ||| (markV w p (6 : Int32))) ||| (markV w p (7 : Int32))) := by
  apply Int64.toBitVec_inj.mp
  apply BitVec.eq_of_toNat_eq
  apply Nat.eq_of_testBit_eq
  intro j
  simp only [Int64.toBitVec_or, BitVec.toNat_or, Nat.testBit_or]
  rw [own_mk w p 0 0 j (by decide) (by decide) (by decide), own_mk w p 1 8 j (by decide) (by decide) (by decide), own_mk w p 2 16 j (by decide) (by decide) (by decide), own_mk w p 3 24 j (by decide) (by decide) (by decide), own_mk w p 4 32 j (by decide) (by decide) (by decide), own_mk w p 5 40 j (by decide) (by decide) (by decide), own_mk w p 6 48 j (by decide) (by decide) (by decide), own_mk w p 7 56 j (by decide) (by decide) (by decide)]
  by_cases hj : j < 64
  · rw [own_marks w p j hj]
    generalize (w ^^^ p).toBitVec.toNat = x
    by_cases h7 : j % 8 = 7
    · have f := own_field x own_M (8 * (j / 8)) 7 (own_low ⟨j / 8, by omega⟩).1 (own_low ⟨j / 8, by omega⟩).2
      have ej : 8 * (j / 8) + 7 = j := by omega
      rw [ej] at f
      rw [f]
      have hi : j / 8 = 0 ∨ j / 8 = 1 ∨ j / 8 = 2 ∨ j / 8 = 3 ∨ j / 8 = 4 ∨ j / 8 = 5 ∨ j / 8 = 6 ∨ j / 8 = 7 := by omega
      rcases hi with hi | hi | hi | hi | hi | hi | hi | hi <;> (rw [hi] at ej ⊢; subst ej; simp)
    · have t := own_bits ⟨j, hj⟩ h7
      rw [Nat.testBit_or, t, Bool.or_true]
      have n0 : ¬ 0 + 7 = j := by omega
      have n1 : ¬ 8 + 7 = j := by omega
      have n2 : ¬ 16 + 7 = j := by omega
      have n3 : ¬ 24 + 7 = j := by omega
      have n4 : ¬ 32 + 7 = j := by omega
      have n5 : ¬ 40 + 7 = j := by omega
      have n6 : ¬ 48 + 7 = j := by omega
      have n7 : ¬ 56 + 7 = j := by omega
      rw [decide_eq_false n0, decide_eq_false n1, decide_eq_false n2, decide_eq_false n3, decide_eq_false n4, decide_eq_false n5, decide_eq_false n6, decide_eq_false n7]
      simp
  · have t : (marksV w p).toBitVec.toNat.testBit j = false := Nat.testBit_lt_two_pow (Nat.lt_of_lt_of_le (marksV w p).toBitVec.isLt (Nat.pow_le_pow_right (by decide) (by omega)))
    have n0 : ¬ 0 + 7 = j := by omega
    have n1 : ¬ 8 + 7 = j := by omega
    have n2 : ¬ 16 + 7 = j := by omega
    have n3 : ¬ 24 + 7 = j := by omega
    have n4 : ¬ 32 + 7 = j := by omega
    have n5 : ¬ 40 + 7 = j := by omega
    have n6 : ¬ 48 + 7 = j := by omega
    have n7 : ¬ 56 + 7 = j := by omega
    rw [t, decide_eq_false n0, decide_eq_false n1, decide_eq_false n2, decide_eq_false n3, decide_eq_false n4, decide_eq_false n5, decide_eq_false n6, decide_eq_false n7]
    simp

theorem ef_0 (m : MethodId) (p0 : Int64) (p1 : Int64) (p2 : Int32) : entryFrame m #[(.long p0), (.long p1), (.int p2)] maxLocals = mkF m 0 #[.val (.long p0), .second, .val (.long p1), .second, .val (.int p2), .unset, .unset, .unset, .unset, .unset, .unset, .unset, .unset] [] := by first | (simp [entryFrame, mkF, argsToLocals, Value.category, maxLocals]; done) | rfl
set_option maxRecDepth 65536 in
set_option maxHeartbeats 40000000 in
theorem law (l : Launch) (Z : State) (a0 : Array Value) (hw : ∀ d ∈ tables_1, d.before a0 Z = true) (ws : List Jvm.Cond) (p0 : Int64) (p1 : Int64) (p2 : Int32) (h0 : Heap)  :
    Con l Z x code maxLocals ret ws room_1 0 0 #[(.long p0), (.long p1), (.int p2)] h0 (fun v h L => v = some (.int 1) ∧ Fr h0.size L) := by
  refine Con.body (plainFor_of_name (by first | (simp [plainName, overriddenIn, x]; done) | decide +kernel)) ?_
  intro p e s m below meth c T0 hx hby hml hown hnm hZ hret hk X0 e0
  refine Goes.cast (ef_0 m p0 p1 p2) ?_
  show Goes p.tables e below (T0.setTop (mkF m 0 #[.val (.long p0), .second, .val (.long p1), .second, .val (.int p2), .unset, .unset, .unset, .unset, .unset, .unset, .unset, .unset] [])) _
  refine g_iload X0 hx (hb hby at_0) rfl ?_
  show Goes p.tables e below (T0.setTop (mkF m 2 #[.val (.long p0), .second, .val (.long p1), .second, .val (.int p2), .unset, .unset, .unset, .unset, .unset, .unset, .unset, .unset] [(.int p2)])) _
  refine g_iconst X0 hx (0 : Int32) (hb hby at_2) rfl ?_
  show Goes p.tables e below (T0.setTop (mkF m 3 #[.val (.long p0), .second, .val (.long p1), .second, .val (.int p2), .unset, .unset, .unset, .unset, .unset, .unset, .unset, .unset] [(.int (0 : Int32)), (.int p2)])) _
  refine g_callS X0 hx hZ hown (by rw [hml]; rfl) e0 (hw _ (List.mem_of_getElem? (i := 0) rfl)) (hw _ (List.mem_of_getElem? (i := 1) rfl)) (hw _ (List.mem_of_getElem? (i := 2) rfl)) (hw _ (List.mem_of_getElem? (i := 3) rfl)) (rmS l Z a0 hw p2 (0 : Int32) h0) [(.int p2), (.int (0 : Int32))] rfl [] rfl (lenOf pd_1 rfl) (hb hby at_3) (by decide) 0 (by decide) (by decide) (by first | decide | exact Nat.le_refl _) (by decide) (by decide) (fun v T1 L1 X1 hQ1 => ?_)
  obtain ⟨rfl, e1, rfl⟩ := hQ1
  show Goes p.tables e below (T1.setTop (mkF m 6 #[.val (.long p0), .second, .val (.long p1), .second, .val (.int p2), .unset, .unset, .unset, .unset, .unset, .unset, .unset, .unset] [(.long (spreadV p2 (0 : Int32)))])) _
  refine g_iload X1 hx (hb hby at_6) rfl ?_
  show Goes p.tables e below (T1.setTop (mkF m 8 #[.val (.long p0), .second, .val (.long p1), .second, .val (.int p2), .unset, .unset, .unset, .unset, .unset, .unset, .unset, .unset] [(.int p2), (.long (spreadV p2 (0 : Int32)))])) _
  refine g_iconst X1 hx (1 : Int32) (hb hby at_8) rfl ?_
  show Goes p.tables e below (T1.setTop (mkF m 9 #[.val (.long p0), .second, .val (.long p1), .second, .val (.int p2), .unset, .unset, .unset, .unset, .unset, .unset, .unset, .unset] [(.int (1 : Int32)), (.int p2), (.long (spreadV p2 (0 : Int32)))])) _
  refine g_callS X1 hx hZ hown (by rw [hml]; rfl) e1 (hw _ (List.mem_of_getElem? (i := 0) rfl)) (hw _ (List.mem_of_getElem? (i := 1) rfl)) (hw _ (List.mem_of_getElem? (i := 2) rfl)) (hw _ (List.mem_of_getElem? (i := 3) rfl)) (rmS l Z a0 hw p2 (1 : Int32) h0) [(.int p2), (.int (1 : Int32))] rfl [(.long (spreadV p2 (0 : Int32)))] rfl (lenOf pd_1 rfl) (hb hby at_9) (by decide) 2 (by decide) (by decide) (by first | decide | exact Nat.le_refl _) (by decide) (by decide) (fun v T2 L2 X2 hQ2 => ?_)
  obtain ⟨rfl, e2, rfl⟩ := hQ2
  show Goes p.tables e below (T2.setTop (mkF m 12 #[.val (.long p0), .second, .val (.long p1), .second, .val (.int p2), .unset, .unset, .unset, .unset, .unset, .unset, .unset, .unset] [(.long (spreadV p2 (1 : Int32))), (.long (spreadV p2 (0 : Int32)))])) _
  refine g_lor X2 hx (hb hby at_12) ?_
  show Goes p.tables e below (T2.setTop (mkF m 13 #[.val (.long p0), .second, .val (.long p1), .second, .val (.int p2), .unset, .unset, .unset, .unset, .unset, .unset, .unset, .unset] [(.long ((spreadV p2 (0 : Int32)) ||| (spreadV p2 (1 : Int32))))])) _
  refine g_iload X2 hx (hb hby at_13) rfl ?_
  show Goes p.tables e below (T2.setTop (mkF m 15 #[.val (.long p0), .second, .val (.long p1), .second, .val (.int p2), .unset, .unset, .unset, .unset, .unset, .unset, .unset, .unset] [(.int p2), (.long ((spreadV p2 (0 : Int32)) ||| (spreadV p2 (1 : Int32))))])) _
  refine g_iconst X2 hx (2 : Int32) (hb hby at_15) rfl ?_
  show Goes p.tables e below (T2.setTop (mkF m 16 #[.val (.long p0), .second, .val (.long p1), .second, .val (.int p2), .unset, .unset, .unset, .unset, .unset, .unset, .unset, .unset] [(.int (2 : Int32)), (.int p2), (.long ((spreadV p2 (0 : Int32)) ||| (spreadV p2 (1 : Int32))))])) _
  refine g_callS X2 hx hZ hown (by rw [hml]; rfl) e2 (hw _ (List.mem_of_getElem? (i := 0) rfl)) (hw _ (List.mem_of_getElem? (i := 1) rfl)) (hw _ (List.mem_of_getElem? (i := 2) rfl)) (hw _ (List.mem_of_getElem? (i := 3) rfl)) (rmS l Z a0 hw p2 (2 : Int32) h0) [(.int p2), (.int (2 : Int32))] rfl [(.long ((spreadV p2 (0 : Int32)) ||| (spreadV p2 (1 : Int32))))] rfl (lenOf pd_1 rfl) (hb hby at_16) (by decide) 2 (by decide) (by decide) (by first | decide | exact Nat.le_refl _) (by decide) (by decide) (fun v T3 L3 X3 hQ3 => ?_)
  obtain ⟨rfl, e3, rfl⟩ := hQ3
  show Goes p.tables e below (T3.setTop (mkF m 19 #[.val (.long p0), .second, .val (.long p1), .second, .val (.int p2), .unset, .unset, .unset, .unset, .unset, .unset, .unset, .unset] [(.long (spreadV p2 (2 : Int32))), (.long ((spreadV p2 (0 : Int32)) ||| (spreadV p2 (1 : Int32))))])) _
  refine g_lor X3 hx (hb hby at_19) ?_
  show Goes p.tables e below (T3.setTop (mkF m 20 #[.val (.long p0), .second, .val (.long p1), .second, .val (.int p2), .unset, .unset, .unset, .unset, .unset, .unset, .unset, .unset] [(.long (((spreadV p2 (0 : Int32)) ||| (spreadV p2 (1 : Int32))) ||| (spreadV p2 (2 : Int32))))])) _
  refine g_iload X3 hx (hb hby at_20) rfl ?_
  show Goes p.tables e below (T3.setTop (mkF m 22 #[.val (.long p0), .second, .val (.long p1), .second, .val (.int p2), .unset, .unset, .unset, .unset, .unset, .unset, .unset, .unset] [(.int p2), (.long (((spreadV p2 (0 : Int32)) ||| (spreadV p2 (1 : Int32))) ||| (spreadV p2 (2 : Int32))))])) _
  refine g_iconst X3 hx (3 : Int32) (hb hby at_22) rfl ?_
  show Goes p.tables e below (T3.setTop (mkF m 23 #[.val (.long p0), .second, .val (.long p1), .second, .val (.int p2), .unset, .unset, .unset, .unset, .unset, .unset, .unset, .unset] [(.int (3 : Int32)), (.int p2), (.long (((spreadV p2 (0 : Int32)) ||| (spreadV p2 (1 : Int32))) ||| (spreadV p2 (2 : Int32))))])) _
  refine g_callS X3 hx hZ hown (by rw [hml]; rfl) e3 (hw _ (List.mem_of_getElem? (i := 0) rfl)) (hw _ (List.mem_of_getElem? (i := 1) rfl)) (hw _ (List.mem_of_getElem? (i := 2) rfl)) (hw _ (List.mem_of_getElem? (i := 3) rfl)) (rmS l Z a0 hw p2 (3 : Int32) h0) [(.int p2), (.int (3 : Int32))] rfl [(.long (((spreadV p2 (0 : Int32)) ||| (spreadV p2 (1 : Int32))) ||| (spreadV p2 (2 : Int32))))] rfl (lenOf pd_1 rfl) (hb hby at_23) (by decide) 2 (by decide) (by decide) (by first | decide | exact Nat.le_refl _) (by decide) (by decide) (fun v T4 L4 X4 hQ4 => ?_)
  obtain ⟨rfl, e4, rfl⟩ := hQ4
  show Goes p.tables e below (T4.setTop (mkF m 26 #[.val (.long p0), .second, .val (.long p1), .second, .val (.int p2), .unset, .unset, .unset, .unset, .unset, .unset, .unset, .unset] [(.long (spreadV p2 (3 : Int32))), (.long (((spreadV p2 (0 : Int32)) ||| (spreadV p2 (1 : Int32))) ||| (spreadV p2 (2 : Int32))))])) _
  refine g_lor X4 hx (hb hby at_26) ?_
  show Goes p.tables e below (T4.setTop (mkF m 27 #[.val (.long p0), .second, .val (.long p1), .second, .val (.int p2), .unset, .unset, .unset, .unset, .unset, .unset, .unset, .unset] [(.long ((((spreadV p2 (0 : Int32)) ||| (spreadV p2 (1 : Int32))) ||| (spreadV p2 (2 : Int32))) ||| (spreadV p2 (3 : Int32))))])) _
  refine g_iload X4 hx (hb hby at_27) rfl ?_
  show Goes p.tables e below (T4.setTop (mkF m 29 #[.val (.long p0), .second, .val (.long p1), .second, .val (.int p2), .unset, .unset, .unset, .unset, .unset, .unset, .unset, .unset] [(.int p2), (.long ((((spreadV p2 (0 : Int32)) ||| (spreadV p2 (1 : Int32))) ||| (spreadV p2 (2 : Int32))) ||| (spreadV p2 (3 : Int32))))])) _
  refine g_iconst X4 hx (4 : Int32) (hb hby at_29) rfl ?_
  show Goes p.tables e below (T4.setTop (mkF m 30 #[.val (.long p0), .second, .val (.long p1), .second, .val (.int p2), .unset, .unset, .unset, .unset, .unset, .unset, .unset, .unset] [(.int (4 : Int32)), (.int p2), (.long ((((spreadV p2 (0 : Int32)) ||| (spreadV p2 (1 : Int32))) ||| (spreadV p2 (2 : Int32))) ||| (spreadV p2 (3 : Int32))))])) _
  refine g_callS X4 hx hZ hown (by rw [hml]; rfl) e4 (hw _ (List.mem_of_getElem? (i := 0) rfl)) (hw _ (List.mem_of_getElem? (i := 1) rfl)) (hw _ (List.mem_of_getElem? (i := 2) rfl)) (hw _ (List.mem_of_getElem? (i := 3) rfl)) (rmS l Z a0 hw p2 (4 : Int32) h0) [(.int p2), (.int (4 : Int32))] rfl [(.long ((((spreadV p2 (0 : Int32)) ||| (spreadV p2 (1 : Int32))) ||| (spreadV p2 (2 : Int32))) ||| (spreadV p2 (3 : Int32))))] rfl (lenOf pd_1 rfl) (hb hby at_30) (by decide) 2 (by decide) (by decide) (by first | decide | exact Nat.le_refl _) (by decide) (by decide) (fun v T5 L5 X5 hQ5 => ?_)
  obtain ⟨rfl, e5, rfl⟩ := hQ5
  show Goes p.tables e below (T5.setTop (mkF m 33 #[.val (.long p0), .second, .val (.long p1), .second, .val (.int p2), .unset, .unset, .unset, .unset, .unset, .unset, .unset, .unset] [(.long (spreadV p2 (4 : Int32))), (.long ((((spreadV p2 (0 : Int32)) ||| (spreadV p2 (1 : Int32))) ||| (spreadV p2 (2 : Int32))) ||| (spreadV p2 (3 : Int32))))])) _
  refine g_lor X5 hx (hb hby at_33) ?_
  show Goes p.tables e below (T5.setTop (mkF m 34 #[.val (.long p0), .second, .val (.long p1), .second, .val (.int p2), .unset, .unset, .unset, .unset, .unset, .unset, .unset, .unset] [(.long (((((spreadV p2 (0 : Int32)) ||| (spreadV p2 (1 : Int32))) ||| (spreadV p2 (2 : Int32))) ||| (spreadV p2 (3 : Int32))) ||| (spreadV p2 (4 : Int32))))])) _
  refine g_iload X5 hx (hb hby at_34) rfl ?_
  show Goes p.tables e below (T5.setTop (mkF m 36 #[.val (.long p0), .second, .val (.long p1), .second, .val (.int p2), .unset, .unset, .unset, .unset, .unset, .unset, .unset, .unset] [(.int p2), (.long (((((spreadV p2 (0 : Int32)) ||| (spreadV p2 (1 : Int32))) ||| (spreadV p2 (2 : Int32))) ||| (spreadV p2 (3 : Int32))) ||| (spreadV p2 (4 : Int32))))])) _
  refine g_iconst X5 hx (5 : Int32) (hb hby at_36) rfl ?_
  show Goes p.tables e below (T5.setTop (mkF m 37 #[.val (.long p0), .second, .val (.long p1), .second, .val (.int p2), .unset, .unset, .unset, .unset, .unset, .unset, .unset, .unset] [(.int (5 : Int32)), (.int p2), (.long (((((spreadV p2 (0 : Int32)) ||| (spreadV p2 (1 : Int32))) ||| (spreadV p2 (2 : Int32))) ||| (spreadV p2 (3 : Int32))) ||| (spreadV p2 (4 : Int32))))])) _
  refine g_callS X5 hx hZ hown (by rw [hml]; rfl) e5 (hw _ (List.mem_of_getElem? (i := 0) rfl)) (hw _ (List.mem_of_getElem? (i := 1) rfl)) (hw _ (List.mem_of_getElem? (i := 2) rfl)) (hw _ (List.mem_of_getElem? (i := 3) rfl)) (rmS l Z a0 hw p2 (5 : Int32) h0) [(.int p2), (.int (5 : Int32))] rfl [(.long (((((spreadV p2 (0 : Int32)) ||| (spreadV p2 (1 : Int32))) ||| (spreadV p2 (2 : Int32))) ||| (spreadV p2 (3 : Int32))) ||| (spreadV p2 (4 : Int32))))] rfl (lenOf pd_1 rfl) (hb hby at_37) (by decide) 2 (by decide) (by decide) (by first | decide | exact Nat.le_refl _) (by decide) (by decide) (fun v T6 L6 X6 hQ6 => ?_)
  obtain ⟨rfl, e6, rfl⟩ := hQ6
  show Goes p.tables e below (T6.setTop (mkF m 40 #[.val (.long p0), .second, .val (.long p1), .second, .val (.int p2), .unset, .unset, .unset, .unset, .unset, .unset, .unset, .unset] [(.long (spreadV p2 (5 : Int32))), (.long (((((spreadV p2 (0 : Int32)) ||| (spreadV p2 (1 : Int32))) ||| (spreadV p2 (2 : Int32))) ||| (spreadV p2 (3 : Int32))) ||| (spreadV p2 (4 : Int32))))])) _
  refine g_lor X6 hx (hb hby at_40) ?_
  show Goes p.tables e below (T6.setTop (mkF m 41 #[.val (.long p0), .second, .val (.long p1), .second, .val (.int p2), .unset, .unset, .unset, .unset, .unset, .unset, .unset, .unset] [(.long ((((((spreadV p2 (0 : Int32)) ||| (spreadV p2 (1 : Int32))) ||| (spreadV p2 (2 : Int32))) ||| (spreadV p2 (3 : Int32))) ||| (spreadV p2 (4 : Int32))) ||| (spreadV p2 (5 : Int32))))])) _
  refine g_iload X6 hx (hb hby at_41) rfl ?_
  show Goes p.tables e below (T6.setTop (mkF m 43 #[.val (.long p0), .second, .val (.long p1), .second, .val (.int p2), .unset, .unset, .unset, .unset, .unset, .unset, .unset, .unset] [(.int p2), (.long ((((((spreadV p2 (0 : Int32)) ||| (spreadV p2 (1 : Int32))) ||| (spreadV p2 (2 : Int32))) ||| (spreadV p2 (3 : Int32))) ||| (spreadV p2 (4 : Int32))) ||| (spreadV p2 (5 : Int32))))])) _
  refine g_bipush X6 hx (6 : Int32) (hb hby at_43) (by decide) ?_
  show Goes p.tables e below (T6.setTop (mkF m 45 #[.val (.long p0), .second, .val (.long p1), .second, .val (.int p2), .unset, .unset, .unset, .unset, .unset, .unset, .unset, .unset] [(.int (6 : Int32)), (.int p2), (.long ((((((spreadV p2 (0 : Int32)) ||| (spreadV p2 (1 : Int32))) ||| (spreadV p2 (2 : Int32))) ||| (spreadV p2 (3 : Int32))) ||| (spreadV p2 (4 : Int32))) ||| (spreadV p2 (5 : Int32))))])) _
  refine g_callS X6 hx hZ hown (by rw [hml]; rfl) e6 (hw _ (List.mem_of_getElem? (i := 0) rfl)) (hw _ (List.mem_of_getElem? (i := 1) rfl)) (hw _ (List.mem_of_getElem? (i := 2) rfl)) (hw _ (List.mem_of_getElem? (i := 3) rfl)) (rmS l Z a0 hw p2 (6 : Int32) h0) [(.int p2), (.int (6 : Int32))] rfl [(.long ((((((spreadV p2 (0 : Int32)) ||| (spreadV p2 (1 : Int32))) ||| (spreadV p2 (2 : Int32))) ||| (spreadV p2 (3 : Int32))) ||| (spreadV p2 (4 : Int32))) ||| (spreadV p2 (5 : Int32))))] rfl (lenOf pd_1 rfl) (hb hby at_45) (by decide) 2 (by decide) (by decide) (by first | decide | exact Nat.le_refl _) (by decide) (by decide) (fun v T7 L7 X7 hQ7 => ?_)
  obtain ⟨rfl, e7, rfl⟩ := hQ7
  show Goes p.tables e below (T7.setTop (mkF m 48 #[.val (.long p0), .second, .val (.long p1), .second, .val (.int p2), .unset, .unset, .unset, .unset, .unset, .unset, .unset, .unset] [(.long (spreadV p2 (6 : Int32))), (.long ((((((spreadV p2 (0 : Int32)) ||| (spreadV p2 (1 : Int32))) ||| (spreadV p2 (2 : Int32))) ||| (spreadV p2 (3 : Int32))) ||| (spreadV p2 (4 : Int32))) ||| (spreadV p2 (5 : Int32))))])) _
  refine g_lor X7 hx (hb hby at_48) ?_
  show Goes p.tables e below (T7.setTop (mkF m 49 #[.val (.long p0), .second, .val (.long p1), .second, .val (.int p2), .unset, .unset, .unset, .unset, .unset, .unset, .unset, .unset] [(.long (((((((spreadV p2 (0 : Int32)) ||| (spreadV p2 (1 : Int32))) ||| (spreadV p2 (2 : Int32))) ||| (spreadV p2 (3 : Int32))) ||| (spreadV p2 (4 : Int32))) ||| (spreadV p2 (5 : Int32))) ||| (spreadV p2 (6 : Int32))))])) _
  refine g_iload X7 hx (hb hby at_49) rfl ?_
  show Goes p.tables e below (T7.setTop (mkF m 51 #[.val (.long p0), .second, .val (.long p1), .second, .val (.int p2), .unset, .unset, .unset, .unset, .unset, .unset, .unset, .unset] [(.int p2), (.long (((((((spreadV p2 (0 : Int32)) ||| (spreadV p2 (1 : Int32))) ||| (spreadV p2 (2 : Int32))) ||| (spreadV p2 (3 : Int32))) ||| (spreadV p2 (4 : Int32))) ||| (spreadV p2 (5 : Int32))) ||| (spreadV p2 (6 : Int32))))])) _
  refine g_bipush X7 hx (7 : Int32) (hb hby at_51) (by decide) ?_
  show Goes p.tables e below (T7.setTop (mkF m 53 #[.val (.long p0), .second, .val (.long p1), .second, .val (.int p2), .unset, .unset, .unset, .unset, .unset, .unset, .unset, .unset] [(.int (7 : Int32)), (.int p2), (.long (((((((spreadV p2 (0 : Int32)) ||| (spreadV p2 (1 : Int32))) ||| (spreadV p2 (2 : Int32))) ||| (spreadV p2 (3 : Int32))) ||| (spreadV p2 (4 : Int32))) ||| (spreadV p2 (5 : Int32))) ||| (spreadV p2 (6 : Int32))))])) _
  refine g_callS X7 hx hZ hown (by rw [hml]; rfl) e7 (hw _ (List.mem_of_getElem? (i := 0) rfl)) (hw _ (List.mem_of_getElem? (i := 1) rfl)) (hw _ (List.mem_of_getElem? (i := 2) rfl)) (hw _ (List.mem_of_getElem? (i := 3) rfl)) (rmS l Z a0 hw p2 (7 : Int32) h0) [(.int p2), (.int (7 : Int32))] rfl [(.long (((((((spreadV p2 (0 : Int32)) ||| (spreadV p2 (1 : Int32))) ||| (spreadV p2 (2 : Int32))) ||| (spreadV p2 (3 : Int32))) ||| (spreadV p2 (4 : Int32))) ||| (spreadV p2 (5 : Int32))) ||| (spreadV p2 (6 : Int32))))] rfl (lenOf pd_1 rfl) (hb hby at_53) (by decide) 2 (by decide) (by decide) (by first | decide | exact Nat.le_refl _) (by decide) (by decide) (fun v T8 L8 X8 hQ8 => ?_)
  obtain ⟨rfl, e8, rfl⟩ := hQ8
  show Goes p.tables e below (T8.setTop (mkF m 56 #[.val (.long p0), .second, .val (.long p1), .second, .val (.int p2), .unset, .unset, .unset, .unset, .unset, .unset, .unset, .unset] [(.long (spreadV p2 (7 : Int32))), (.long (((((((spreadV p2 (0 : Int32)) ||| (spreadV p2 (1 : Int32))) ||| (spreadV p2 (2 : Int32))) ||| (spreadV p2 (3 : Int32))) ||| (spreadV p2 (4 : Int32))) ||| (spreadV p2 (5 : Int32))) ||| (spreadV p2 (6 : Int32))))])) _
  refine g_lor X8 hx (hb hby at_56) ?_
  show Goes p.tables e below (T8.setTop (mkF m 57 #[.val (.long p0), .second, .val (.long p1), .second, .val (.int p2), .unset, .unset, .unset, .unset, .unset, .unset, .unset, .unset] [(.long ((((((((spreadV p2 (0 : Int32)) ||| (spreadV p2 (1 : Int32))) ||| (spreadV p2 (2 : Int32))) ||| (spreadV p2 (3 : Int32))) ||| (spreadV p2 (4 : Int32))) ||| (spreadV p2 (5 : Int32))) ||| (spreadV p2 (6 : Int32))) ||| (spreadV p2 (7 : Int32))))])) _
  obtain ⟨vm, hvm⟩ : ∃ z : Int64, z = ((((((((spreadV p2 (0 : Int32)) ||| (spreadV p2 (1 : Int32))) ||| (spreadV p2 (2 : Int32))) ||| (spreadV p2 (3 : Int32))) ||| (spreadV p2 (4 : Int32))) ||| (spreadV p2 (5 : Int32))) ||| (spreadV p2 (6 : Int32))) ||| (spreadV p2 (7 : Int32))) := ⟨_, rfl⟩
  refine g_nameL hvm ?_
  show Goes p.tables e below (T8.setTop (mkF m 57 #[.val (.long p0), .second, .val (.long p1), .second, .val (.int p2), .unset, .unset, .unset, .unset, .unset, .unset, .unset, .unset] [(.long vm)])) _
  refine g_lstore X8 hx (hb hby at_57) (l' := #[.val (.long p0), .second, .val (.long p1), .second, .val (.int p2), .val (.long vm), .second, .unset, .unset, .unset, .unset, .unset, .unset]) rfl ?_
  show Goes p.tables e below (T8.setTop (mkF m 59 #[.val (.long p0), .second, .val (.long p1), .second, .val (.int p2), .val (.long vm), .second, .unset, .unset, .unset, .unset, .unset, .unset] [])) _
  refine g_lloadN X8 hx (hb hby at_59) rfl ?_
  show Goes p.tables e below (T8.setTop (mkF m 60 #[.val (.long p0), .second, .val (.long p1), .second, .val (.int p2), .val (.long vm), .second, .unset, .unset, .unset, .unset, .unset, .unset] [(.long p0)])) _
  refine g_lload X8 hx (hb hby at_60) rfl ?_
  show Goes p.tables e below (T8.setTop (mkF m 62 #[.val (.long p0), .second, .val (.long p1), .second, .val (.int p2), .val (.long vm), .second, .unset, .unset, .unset, .unset, .unset, .unset] [(.long vm), (.long p0)])) _
  refine g_ldc2 X8 hx hZ hown (hw _ (List.mem_of_getElem? (i := 4) rfl)) (hb hby at_62) ?_
  show Goes p.tables e below (T8.setTop (mkF m 65 #[.val (.long p0), .second, .val (.long p1), .second, .val (.int p2), .val (.long vm), .second, .unset, .unset, .unset, .unset, .unset, .unset] [(.long (-1 : Int64)), (.long vm), (.long p0)])) _
  refine g_lxor X8 hx (hb hby at_65) ?_
  show Goes p.tables e below (T8.setTop (mkF m 66 #[.val (.long p0), .second, .val (.long p1), .second, .val (.int p2), .val (.long vm), .second, .unset, .unset, .unset, .unset, .unset, .unset] [(.long (vm ^^^ (-1 : Int64))), (.long p0)])) _
  refine g_land X8 hx (hb hby at_66) ?_
  show Goes p.tables e below (T8.setTop (mkF m 67 #[.val (.long p0), .second, .val (.long p1), .second, .val (.int p2), .val (.long vm), .second, .unset, .unset, .unset, .unset, .unset, .unset] [(.long (p0 &&& (vm ^^^ (-1 : Int64))))])) _
  refine g_lloadN X8 hx (hb hby at_67) rfl ?_
  show Goes p.tables e below (T8.setTop (mkF m 68 #[.val (.long p0), .second, .val (.long p1), .second, .val (.int p2), .val (.long vm), .second, .unset, .unset, .unset, .unset, .unset, .unset] [(.long p1), (.long (p0 &&& (vm ^^^ (-1 : Int64))))])) _
  refine g_lload X8 hx (hb hby at_68) rfl ?_
  show Goes p.tables e below (T8.setTop (mkF m 70 #[.val (.long p0), .second, .val (.long p1), .second, .val (.int p2), .val (.long vm), .second, .unset, .unset, .unset, .unset, .unset, .unset] [(.long vm), (.long p1), (.long (p0 &&& (vm ^^^ (-1 : Int64))))])) _
  refine g_land X8 hx (hb hby at_70) ?_
  show Goes p.tables e below (T8.setTop (mkF m 71 #[.val (.long p0), .second, .val (.long p1), .second, .val (.int p2), .val (.long vm), .second, .unset, .unset, .unset, .unset, .unset, .unset] [(.long (p1 &&& vm)), (.long (p0 &&& (vm ^^^ (-1 : Int64))))])) _
  refine g_lor X8 hx (hb hby at_71) ?_
  show Goes p.tables e below (T8.setTop (mkF m 72 #[.val (.long p0), .second, .val (.long p1), .second, .val (.int p2), .val (.long vm), .second, .unset, .unset, .unset, .unset, .unset, .unset] [(.long ((p0 &&& (vm ^^^ (-1 : Int64))) ||| (p1 &&& vm)))])) _
  obtain ⟨vw, hvw⟩ : ∃ z : Int64, z = ((p0 &&& (vm ^^^ (-1 : Int64))) ||| (p1 &&& vm)) := ⟨_, rfl⟩
  refine g_nameL hvw ?_
  show Goes p.tables e below (T8.setTop (mkF m 72 #[.val (.long p0), .second, .val (.long p1), .second, .val (.int p2), .val (.long vm), .second, .unset, .unset, .unset, .unset, .unset, .unset] [(.long vw)])) _
  refine g_lstore X8 hx (hb hby at_72) (l' := #[.val (.long p0), .second, .val (.long p1), .second, .val (.int p2), .val (.long vm), .second, .val (.long vw), .second, .unset, .unset, .unset, .unset]) rfl ?_
  show Goes p.tables e below (T8.setTop (mkF m 74 #[.val (.long p0), .second, .val (.long p1), .second, .val (.int p2), .val (.long vm), .second, .val (.long vw), .second, .unset, .unset, .unset, .unset] [])) _
  refine g_lload X8 hx (hb hby at_74) rfl ?_
  show Goes p.tables e below (T8.setTop (mkF m 76 #[.val (.long p0), .second, .val (.long p1), .second, .val (.int p2), .val (.long vm), .second, .val (.long vw), .second, .unset, .unset, .unset, .unset] [(.long vw)])) _
  refine g_lloadN X8 hx (hb hby at_76) rfl ?_
  show Goes p.tables e below (T8.setTop (mkF m 77 #[.val (.long p0), .second, .val (.long p1), .second, .val (.int p2), .val (.long vm), .second, .val (.long vw), .second, .unset, .unset, .unset, .unset] [(.long p1), (.long vw)])) _
  refine g_callS X8 hx hZ hown (by rw [hml]; rfl) e8 (hw _ (List.mem_of_getElem? (i := 5) rfl)) (hw _ (List.mem_of_getElem? (i := 6) rfl)) (hw _ (List.mem_of_getElem? (i := 7) rfl)) (hw _ (List.mem_of_getElem? (i := 8) rfl)) (rmM l Z a0 hw vw p1 h0) [(.long vw), (.long p1)] rfl [] rfl (lenOf pd_2 rfl) (hb hby at_77) (by decide) 0 (by decide) (by decide) (by first | decide | exact Nat.le_refl _) (by decide) (by decide) (fun v T9 L9 X9 hQ9 => ?_)
  obtain ⟨rfl, e9, rfl⟩ := hQ9
  show Goes p.tables e below (T9.setTop (mkF m 80 #[.val (.long p0), .second, .val (.long p1), .second, .val (.int p2), .val (.long vm), .second, .val (.long vw), .second, .unset, .unset, .unset, .unset] [(.long (marksV vw p1))])) _
  obtain ⟨vg, hvg⟩ : ∃ z : Int64, z = (marksV vw p1) := ⟨_, rfl⟩
  refine g_nameL hvg ?_
  show Goes p.tables e below (T9.setTop (mkF m 80 #[.val (.long p0), .second, .val (.long p1), .second, .val (.int p2), .val (.long vm), .second, .val (.long vw), .second, .unset, .unset, .unset, .unset] [(.long vg)])) _
  refine g_lstore X9 hx (hb hby at_80) (l' := #[.val (.long p0), .second, .val (.long p1), .second, .val (.int p2), .val (.long vm), .second, .val (.long vw), .second, .val (.long vg), .second, .unset, .unset]) rfl ?_
  show Goes p.tables e below (T9.setTop (mkF m 82 #[.val (.long p0), .second, .val (.long p1), .second, .val (.int p2), .val (.long vm), .second, .val (.long vw), .second, .val (.long vg), .second, .unset, .unset] [])) _
  refine g_lload X9 hx (hb hby at_82) rfl ?_
  show Goes p.tables e below (T9.setTop (mkF m 84 #[.val (.long p0), .second, .val (.long p1), .second, .val (.int p2), .val (.long vm), .second, .val (.long vw), .second, .val (.long vg), .second, .unset, .unset] [(.long vw)])) _
  refine g_lloadN X9 hx (hb hby at_84) rfl ?_
  show Goes p.tables e below (T9.setTop (mkF m 85 #[.val (.long p0), .second, .val (.long p1), .second, .val (.int p2), .val (.long vm), .second, .val (.long vw), .second, .val (.long vg), .second, .unset, .unset] [(.long p1), (.long vw)])) _
  refine g_iconst X9 hx (0 : Int32) (hb hby at_85) rfl ?_
  show Goes p.tables e below (T9.setTop (mkF m 86 #[.val (.long p0), .second, .val (.long p1), .second, .val (.int p2), .val (.long vm), .second, .val (.long vw), .second, .val (.long vg), .second, .unset, .unset] [(.int (0 : Int32)), (.long p1), (.long vw)])) _
  refine g_callS X9 hx hZ hown (by rw [hml]; rfl) e9 (hw _ (List.mem_of_getElem? (i := 11) rfl)) (hw _ (List.mem_of_getElem? (i := 12) rfl)) (hw _ (List.mem_of_getElem? (i := 2) rfl)) (hw _ (List.mem_of_getElem? (i := 13) rfl)) (rmK l Z a0 hw vw p1 (0 : Int32) h0) [(.long vw), (.long p1), (.int (0 : Int32))] rfl [] rfl (lenOf pd_3 rfl) (hb hby at_86) (by decide) 0 (by decide) (by decide) (by first | decide | exact Nat.le_refl _) (by decide) (by decide) (fun v T10 L10 X10 hQ10 => ?_)
  obtain ⟨rfl, e10, rfl⟩ := hQ10
  show Goes p.tables e below (T10.setTop (mkF m 89 #[.val (.long p0), .second, .val (.long p1), .second, .val (.int p2), .val (.long vm), .second, .val (.long vw), .second, .val (.long vg), .second, .unset, .unset] [(.long (markV vw p1 (0 : Int32)))])) _
  refine g_lload X10 hx (hb hby at_89) rfl ?_
  show Goes p.tables e below (T10.setTop (mkF m 91 #[.val (.long p0), .second, .val (.long p1), .second, .val (.int p2), .val (.long vm), .second, .val (.long vw), .second, .val (.long vg), .second, .unset, .unset] [(.long vw), (.long (markV vw p1 (0 : Int32)))])) _
  refine g_lloadN X10 hx (hb hby at_91) rfl ?_
  show Goes p.tables e below (T10.setTop (mkF m 92 #[.val (.long p0), .second, .val (.long p1), .second, .val (.int p2), .val (.long vm), .second, .val (.long vw), .second, .val (.long vg), .second, .unset, .unset] [(.long p1), (.long vw), (.long (markV vw p1 (0 : Int32)))])) _
  refine g_iconst X10 hx (1 : Int32) (hb hby at_92) rfl ?_
  show Goes p.tables e below (T10.setTop (mkF m 93 #[.val (.long p0), .second, .val (.long p1), .second, .val (.int p2), .val (.long vm), .second, .val (.long vw), .second, .val (.long vg), .second, .unset, .unset] [(.int (1 : Int32)), (.long p1), (.long vw), (.long (markV vw p1 (0 : Int32)))])) _
  refine g_callS X10 hx hZ hown (by rw [hml]; rfl) e10 (hw _ (List.mem_of_getElem? (i := 11) rfl)) (hw _ (List.mem_of_getElem? (i := 12) rfl)) (hw _ (List.mem_of_getElem? (i := 2) rfl)) (hw _ (List.mem_of_getElem? (i := 13) rfl)) (rmK l Z a0 hw vw p1 (1 : Int32) h0) [(.long vw), (.long p1), (.int (1 : Int32))] rfl [(.long (markV vw p1 (0 : Int32)))] rfl (lenOf pd_3 rfl) (hb hby at_93) (by decide) 2 (by decide) (by decide) (by first | decide | exact Nat.le_refl _) (by decide) (by decide) (fun v T11 L11 X11 hQ11 => ?_)
  obtain ⟨rfl, e11, rfl⟩ := hQ11
  show Goes p.tables e below (T11.setTop (mkF m 96 #[.val (.long p0), .second, .val (.long p1), .second, .val (.int p2), .val (.long vm), .second, .val (.long vw), .second, .val (.long vg), .second, .unset, .unset] [(.long (markV vw p1 (1 : Int32))), (.long (markV vw p1 (0 : Int32)))])) _
  refine g_lor X11 hx (hb hby at_96) ?_
  show Goes p.tables e below (T11.setTop (mkF m 97 #[.val (.long p0), .second, .val (.long p1), .second, .val (.int p2), .val (.long vm), .second, .val (.long vw), .second, .val (.long vg), .second, .unset, .unset] [(.long ((markV vw p1 (0 : Int32)) ||| (markV vw p1 (1 : Int32))))])) _
  refine g_lload X11 hx (hb hby at_97) rfl ?_
  show Goes p.tables e below (T11.setTop (mkF m 99 #[.val (.long p0), .second, .val (.long p1), .second, .val (.int p2), .val (.long vm), .second, .val (.long vw), .second, .val (.long vg), .second, .unset, .unset] [(.long vw), (.long ((markV vw p1 (0 : Int32)) ||| (markV vw p1 (1 : Int32))))])) _
  refine g_lloadN X11 hx (hb hby at_99) rfl ?_
  show Goes p.tables e below (T11.setTop (mkF m 100 #[.val (.long p0), .second, .val (.long p1), .second, .val (.int p2), .val (.long vm), .second, .val (.long vw), .second, .val (.long vg), .second, .unset, .unset] [(.long p1), (.long vw), (.long ((markV vw p1 (0 : Int32)) ||| (markV vw p1 (1 : Int32))))])) _
  refine g_iconst X11 hx (2 : Int32) (hb hby at_100) rfl ?_
  show Goes p.tables e below (T11.setTop (mkF m 101 #[.val (.long p0), .second, .val (.long p1), .second, .val (.int p2), .val (.long vm), .second, .val (.long vw), .second, .val (.long vg), .second, .unset, .unset] [(.int (2 : Int32)), (.long p1), (.long vw), (.long ((markV vw p1 (0 : Int32)) ||| (markV vw p1 (1 : Int32))))])) _
  refine g_callS X11 hx hZ hown (by rw [hml]; rfl) e11 (hw _ (List.mem_of_getElem? (i := 11) rfl)) (hw _ (List.mem_of_getElem? (i := 12) rfl)) (hw _ (List.mem_of_getElem? (i := 2) rfl)) (hw _ (List.mem_of_getElem? (i := 13) rfl)) (rmK l Z a0 hw vw p1 (2 : Int32) h0) [(.long vw), (.long p1), (.int (2 : Int32))] rfl [(.long ((markV vw p1 (0 : Int32)) ||| (markV vw p1 (1 : Int32))))] rfl (lenOf pd_3 rfl) (hb hby at_101) (by decide) 2 (by decide) (by decide) (by first | decide | exact Nat.le_refl _) (by decide) (by decide) (fun v T12 L12 X12 hQ12 => ?_)
  obtain ⟨rfl, e12, rfl⟩ := hQ12
  show Goes p.tables e below (T12.setTop (mkF m 104 #[.val (.long p0), .second, .val (.long p1), .second, .val (.int p2), .val (.long vm), .second, .val (.long vw), .second, .val (.long vg), .second, .unset, .unset] [(.long (markV vw p1 (2 : Int32))), (.long ((markV vw p1 (0 : Int32)) ||| (markV vw p1 (1 : Int32))))])) _
  refine g_lor X12 hx (hb hby at_104) ?_
  show Goes p.tables e below (T12.setTop (mkF m 105 #[.val (.long p0), .second, .val (.long p1), .second, .val (.int p2), .val (.long vm), .second, .val (.long vw), .second, .val (.long vg), .second, .unset, .unset] [(.long (((markV vw p1 (0 : Int32)) ||| (markV vw p1 (1 : Int32))) ||| (markV vw p1 (2 : Int32))))])) _
  refine g_lload X12 hx (hb hby at_105) rfl ?_
  show Goes p.tables e below (T12.setTop (mkF m 107 #[.val (.long p0), .second, .val (.long p1), .second, .val (.int p2), .val (.long vm), .second, .val (.long vw), .second, .val (.long vg), .second, .unset, .unset] [(.long vw), (.long (((markV vw p1 (0 : Int32)) ||| (markV vw p1 (1 : Int32))) ||| (markV vw p1 (2 : Int32))))])) _
  refine g_lloadN X12 hx (hb hby at_107) rfl ?_
  show Goes p.tables e below (T12.setTop (mkF m 108 #[.val (.long p0), .second, .val (.long p1), .second, .val (.int p2), .val (.long vm), .second, .val (.long vw), .second, .val (.long vg), .second, .unset, .unset] [(.long p1), (.long vw), (.long (((markV vw p1 (0 : Int32)) ||| (markV vw p1 (1 : Int32))) ||| (markV vw p1 (2 : Int32))))])) _
  refine g_iconst X12 hx (3 : Int32) (hb hby at_108) rfl ?_
  show Goes p.tables e below (T12.setTop (mkF m 109 #[.val (.long p0), .second, .val (.long p1), .second, .val (.int p2), .val (.long vm), .second, .val (.long vw), .second, .val (.long vg), .second, .unset, .unset] [(.int (3 : Int32)), (.long p1), (.long vw), (.long (((markV vw p1 (0 : Int32)) ||| (markV vw p1 (1 : Int32))) ||| (markV vw p1 (2 : Int32))))])) _
  refine g_callS X12 hx hZ hown (by rw [hml]; rfl) e12 (hw _ (List.mem_of_getElem? (i := 11) rfl)) (hw _ (List.mem_of_getElem? (i := 12) rfl)) (hw _ (List.mem_of_getElem? (i := 2) rfl)) (hw _ (List.mem_of_getElem? (i := 13) rfl)) (rmK l Z a0 hw vw p1 (3 : Int32) h0) [(.long vw), (.long p1), (.int (3 : Int32))] rfl [(.long (((markV vw p1 (0 : Int32)) ||| (markV vw p1 (1 : Int32))) ||| (markV vw p1 (2 : Int32))))] rfl (lenOf pd_3 rfl) (hb hby at_109) (by decide) 2 (by decide) (by decide) (by first | decide | exact Nat.le_refl _) (by decide) (by decide) (fun v T13 L13 X13 hQ13 => ?_)
  obtain ⟨rfl, e13, rfl⟩ := hQ13
  show Goes p.tables e below (T13.setTop (mkF m 112 #[.val (.long p0), .second, .val (.long p1), .second, .val (.int p2), .val (.long vm), .second, .val (.long vw), .second, .val (.long vg), .second, .unset, .unset] [(.long (markV vw p1 (3 : Int32))), (.long (((markV vw p1 (0 : Int32)) ||| (markV vw p1 (1 : Int32))) ||| (markV vw p1 (2 : Int32))))])) _
  refine g_lor X13 hx (hb hby at_112) ?_
  show Goes p.tables e below (T13.setTop (mkF m 113 #[.val (.long p0), .second, .val (.long p1), .second, .val (.int p2), .val (.long vm), .second, .val (.long vw), .second, .val (.long vg), .second, .unset, .unset] [(.long ((((markV vw p1 (0 : Int32)) ||| (markV vw p1 (1 : Int32))) ||| (markV vw p1 (2 : Int32))) ||| (markV vw p1 (3 : Int32))))])) _
  refine g_lload X13 hx (hb hby at_113) rfl ?_
  show Goes p.tables e below (T13.setTop (mkF m 115 #[.val (.long p0), .second, .val (.long p1), .second, .val (.int p2), .val (.long vm), .second, .val (.long vw), .second, .val (.long vg), .second, .unset, .unset] [(.long vw), (.long ((((markV vw p1 (0 : Int32)) ||| (markV vw p1 (1 : Int32))) ||| (markV vw p1 (2 : Int32))) ||| (markV vw p1 (3 : Int32))))])) _
  refine g_lloadN X13 hx (hb hby at_115) rfl ?_
  show Goes p.tables e below (T13.setTop (mkF m 116 #[.val (.long p0), .second, .val (.long p1), .second, .val (.int p2), .val (.long vm), .second, .val (.long vw), .second, .val (.long vg), .second, .unset, .unset] [(.long p1), (.long vw), (.long ((((markV vw p1 (0 : Int32)) ||| (markV vw p1 (1 : Int32))) ||| (markV vw p1 (2 : Int32))) ||| (markV vw p1 (3 : Int32))))])) _
  refine g_iconst X13 hx (4 : Int32) (hb hby at_116) rfl ?_
  show Goes p.tables e below (T13.setTop (mkF m 117 #[.val (.long p0), .second, .val (.long p1), .second, .val (.int p2), .val (.long vm), .second, .val (.long vw), .second, .val (.long vg), .second, .unset, .unset] [(.int (4 : Int32)), (.long p1), (.long vw), (.long ((((markV vw p1 (0 : Int32)) ||| (markV vw p1 (1 : Int32))) ||| (markV vw p1 (2 : Int32))) ||| (markV vw p1 (3 : Int32))))])) _
  refine g_callS X13 hx hZ hown (by rw [hml]; rfl) e13 (hw _ (List.mem_of_getElem? (i := 11) rfl)) (hw _ (List.mem_of_getElem? (i := 12) rfl)) (hw _ (List.mem_of_getElem? (i := 2) rfl)) (hw _ (List.mem_of_getElem? (i := 13) rfl)) (rmK l Z a0 hw vw p1 (4 : Int32) h0) [(.long vw), (.long p1), (.int (4 : Int32))] rfl [(.long ((((markV vw p1 (0 : Int32)) ||| (markV vw p1 (1 : Int32))) ||| (markV vw p1 (2 : Int32))) ||| (markV vw p1 (3 : Int32))))] rfl (lenOf pd_3 rfl) (hb hby at_117) (by decide) 2 (by decide) (by decide) (by first | decide | exact Nat.le_refl _) (by decide) (by decide) (fun v T14 L14 X14 hQ14 => ?_)
  obtain ⟨rfl, e14, rfl⟩ := hQ14
  show Goes p.tables e below (T14.setTop (mkF m 120 #[.val (.long p0), .second, .val (.long p1), .second, .val (.int p2), .val (.long vm), .second, .val (.long vw), .second, .val (.long vg), .second, .unset, .unset] [(.long (markV vw p1 (4 : Int32))), (.long ((((markV vw p1 (0 : Int32)) ||| (markV vw p1 (1 : Int32))) ||| (markV vw p1 (2 : Int32))) ||| (markV vw p1 (3 : Int32))))])) _
  refine g_lor X14 hx (hb hby at_120) ?_
  show Goes p.tables e below (T14.setTop (mkF m 121 #[.val (.long p0), .second, .val (.long p1), .second, .val (.int p2), .val (.long vm), .second, .val (.long vw), .second, .val (.long vg), .second, .unset, .unset] [(.long (((((markV vw p1 (0 : Int32)) ||| (markV vw p1 (1 : Int32))) ||| (markV vw p1 (2 : Int32))) ||| (markV vw p1 (3 : Int32))) ||| (markV vw p1 (4 : Int32))))])) _
  refine g_lload X14 hx (hb hby at_121) rfl ?_
  show Goes p.tables e below (T14.setTop (mkF m 123 #[.val (.long p0), .second, .val (.long p1), .second, .val (.int p2), .val (.long vm), .second, .val (.long vw), .second, .val (.long vg), .second, .unset, .unset] [(.long vw), (.long (((((markV vw p1 (0 : Int32)) ||| (markV vw p1 (1 : Int32))) ||| (markV vw p1 (2 : Int32))) ||| (markV vw p1 (3 : Int32))) ||| (markV vw p1 (4 : Int32))))])) _
  refine g_lloadN X14 hx (hb hby at_123) rfl ?_
  show Goes p.tables e below (T14.setTop (mkF m 124 #[.val (.long p0), .second, .val (.long p1), .second, .val (.int p2), .val (.long vm), .second, .val (.long vw), .second, .val (.long vg), .second, .unset, .unset] [(.long p1), (.long vw), (.long (((((markV vw p1 (0 : Int32)) ||| (markV vw p1 (1 : Int32))) ||| (markV vw p1 (2 : Int32))) ||| (markV vw p1 (3 : Int32))) ||| (markV vw p1 (4 : Int32))))])) _
  refine g_iconst X14 hx (5 : Int32) (hb hby at_124) rfl ?_
  show Goes p.tables e below (T14.setTop (mkF m 125 #[.val (.long p0), .second, .val (.long p1), .second, .val (.int p2), .val (.long vm), .second, .val (.long vw), .second, .val (.long vg), .second, .unset, .unset] [(.int (5 : Int32)), (.long p1), (.long vw), (.long (((((markV vw p1 (0 : Int32)) ||| (markV vw p1 (1 : Int32))) ||| (markV vw p1 (2 : Int32))) ||| (markV vw p1 (3 : Int32))) ||| (markV vw p1 (4 : Int32))))])) _
  refine g_callS X14 hx hZ hown (by rw [hml]; rfl) e14 (hw _ (List.mem_of_getElem? (i := 11) rfl)) (hw _ (List.mem_of_getElem? (i := 12) rfl)) (hw _ (List.mem_of_getElem? (i := 2) rfl)) (hw _ (List.mem_of_getElem? (i := 13) rfl)) (rmK l Z a0 hw vw p1 (5 : Int32) h0) [(.long vw), (.long p1), (.int (5 : Int32))] rfl [(.long (((((markV vw p1 (0 : Int32)) ||| (markV vw p1 (1 : Int32))) ||| (markV vw p1 (2 : Int32))) ||| (markV vw p1 (3 : Int32))) ||| (markV vw p1 (4 : Int32))))] rfl (lenOf pd_3 rfl) (hb hby at_125) (by decide) 2 (by decide) (by decide) (by first | decide | exact Nat.le_refl _) (by decide) (by decide) (fun v T15 L15 X15 hQ15 => ?_)
  obtain ⟨rfl, e15, rfl⟩ := hQ15
  show Goes p.tables e below (T15.setTop (mkF m 128 #[.val (.long p0), .second, .val (.long p1), .second, .val (.int p2), .val (.long vm), .second, .val (.long vw), .second, .val (.long vg), .second, .unset, .unset] [(.long (markV vw p1 (5 : Int32))), (.long (((((markV vw p1 (0 : Int32)) ||| (markV vw p1 (1 : Int32))) ||| (markV vw p1 (2 : Int32))) ||| (markV vw p1 (3 : Int32))) ||| (markV vw p1 (4 : Int32))))])) _
  refine g_lor X15 hx (hb hby at_128) ?_
  show Goes p.tables e below (T15.setTop (mkF m 129 #[.val (.long p0), .second, .val (.long p1), .second, .val (.int p2), .val (.long vm), .second, .val (.long vw), .second, .val (.long vg), .second, .unset, .unset] [(.long ((((((markV vw p1 (0 : Int32)) ||| (markV vw p1 (1 : Int32))) ||| (markV vw p1 (2 : Int32))) ||| (markV vw p1 (3 : Int32))) ||| (markV vw p1 (4 : Int32))) ||| (markV vw p1 (5 : Int32))))])) _
  refine g_lload X15 hx (hb hby at_129) rfl ?_
  show Goes p.tables e below (T15.setTop (mkF m 131 #[.val (.long p0), .second, .val (.long p1), .second, .val (.int p2), .val (.long vm), .second, .val (.long vw), .second, .val (.long vg), .second, .unset, .unset] [(.long vw), (.long ((((((markV vw p1 (0 : Int32)) ||| (markV vw p1 (1 : Int32))) ||| (markV vw p1 (2 : Int32))) ||| (markV vw p1 (3 : Int32))) ||| (markV vw p1 (4 : Int32))) ||| (markV vw p1 (5 : Int32))))])) _
  refine g_lloadN X15 hx (hb hby at_131) rfl ?_
  show Goes p.tables e below (T15.setTop (mkF m 132 #[.val (.long p0), .second, .val (.long p1), .second, .val (.int p2), .val (.long vm), .second, .val (.long vw), .second, .val (.long vg), .second, .unset, .unset] [(.long p1), (.long vw), (.long ((((((markV vw p1 (0 : Int32)) ||| (markV vw p1 (1 : Int32))) ||| (markV vw p1 (2 : Int32))) ||| (markV vw p1 (3 : Int32))) ||| (markV vw p1 (4 : Int32))) ||| (markV vw p1 (5 : Int32))))])) _
  refine g_bipush X15 hx (6 : Int32) (hb hby at_132) (by decide) ?_
  show Goes p.tables e below (T15.setTop (mkF m 134 #[.val (.long p0), .second, .val (.long p1), .second, .val (.int p2), .val (.long vm), .second, .val (.long vw), .second, .val (.long vg), .second, .unset, .unset] [(.int (6 : Int32)), (.long p1), (.long vw), (.long ((((((markV vw p1 (0 : Int32)) ||| (markV vw p1 (1 : Int32))) ||| (markV vw p1 (2 : Int32))) ||| (markV vw p1 (3 : Int32))) ||| (markV vw p1 (4 : Int32))) ||| (markV vw p1 (5 : Int32))))])) _
  refine g_callS X15 hx hZ hown (by rw [hml]; rfl) e15 (hw _ (List.mem_of_getElem? (i := 11) rfl)) (hw _ (List.mem_of_getElem? (i := 12) rfl)) (hw _ (List.mem_of_getElem? (i := 2) rfl)) (hw _ (List.mem_of_getElem? (i := 13) rfl)) (rmK l Z a0 hw vw p1 (6 : Int32) h0) [(.long vw), (.long p1), (.int (6 : Int32))] rfl [(.long ((((((markV vw p1 (0 : Int32)) ||| (markV vw p1 (1 : Int32))) ||| (markV vw p1 (2 : Int32))) ||| (markV vw p1 (3 : Int32))) ||| (markV vw p1 (4 : Int32))) ||| (markV vw p1 (5 : Int32))))] rfl (lenOf pd_3 rfl) (hb hby at_134) (by decide) 2 (by decide) (by decide) (by first | decide | exact Nat.le_refl _) (by decide) (by decide) (fun v T16 L16 X16 hQ16 => ?_)
  obtain ⟨rfl, e16, rfl⟩ := hQ16
  show Goes p.tables e below (T16.setTop (mkF m 137 #[.val (.long p0), .second, .val (.long p1), .second, .val (.int p2), .val (.long vm), .second, .val (.long vw), .second, .val (.long vg), .second, .unset, .unset] [(.long (markV vw p1 (6 : Int32))), (.long ((((((markV vw p1 (0 : Int32)) ||| (markV vw p1 (1 : Int32))) ||| (markV vw p1 (2 : Int32))) ||| (markV vw p1 (3 : Int32))) ||| (markV vw p1 (4 : Int32))) ||| (markV vw p1 (5 : Int32))))])) _
  refine g_lor X16 hx (hb hby at_137) ?_
  show Goes p.tables e below (T16.setTop (mkF m 138 #[.val (.long p0), .second, .val (.long p1), .second, .val (.int p2), .val (.long vm), .second, .val (.long vw), .second, .val (.long vg), .second, .unset, .unset] [(.long (((((((markV vw p1 (0 : Int32)) ||| (markV vw p1 (1 : Int32))) ||| (markV vw p1 (2 : Int32))) ||| (markV vw p1 (3 : Int32))) ||| (markV vw p1 (4 : Int32))) ||| (markV vw p1 (5 : Int32))) ||| (markV vw p1 (6 : Int32))))])) _
  refine g_lload X16 hx (hb hby at_138) rfl ?_
  show Goes p.tables e below (T16.setTop (mkF m 140 #[.val (.long p0), .second, .val (.long p1), .second, .val (.int p2), .val (.long vm), .second, .val (.long vw), .second, .val (.long vg), .second, .unset, .unset] [(.long vw), (.long (((((((markV vw p1 (0 : Int32)) ||| (markV vw p1 (1 : Int32))) ||| (markV vw p1 (2 : Int32))) ||| (markV vw p1 (3 : Int32))) ||| (markV vw p1 (4 : Int32))) ||| (markV vw p1 (5 : Int32))) ||| (markV vw p1 (6 : Int32))))])) _
  refine g_lloadN X16 hx (hb hby at_140) rfl ?_
  show Goes p.tables e below (T16.setTop (mkF m 141 #[.val (.long p0), .second, .val (.long p1), .second, .val (.int p2), .val (.long vm), .second, .val (.long vw), .second, .val (.long vg), .second, .unset, .unset] [(.long p1), (.long vw), (.long (((((((markV vw p1 (0 : Int32)) ||| (markV vw p1 (1 : Int32))) ||| (markV vw p1 (2 : Int32))) ||| (markV vw p1 (3 : Int32))) ||| (markV vw p1 (4 : Int32))) ||| (markV vw p1 (5 : Int32))) ||| (markV vw p1 (6 : Int32))))])) _
  refine g_bipush X16 hx (7 : Int32) (hb hby at_141) (by decide) ?_
  show Goes p.tables e below (T16.setTop (mkF m 143 #[.val (.long p0), .second, .val (.long p1), .second, .val (.int p2), .val (.long vm), .second, .val (.long vw), .second, .val (.long vg), .second, .unset, .unset] [(.int (7 : Int32)), (.long p1), (.long vw), (.long (((((((markV vw p1 (0 : Int32)) ||| (markV vw p1 (1 : Int32))) ||| (markV vw p1 (2 : Int32))) ||| (markV vw p1 (3 : Int32))) ||| (markV vw p1 (4 : Int32))) ||| (markV vw p1 (5 : Int32))) ||| (markV vw p1 (6 : Int32))))])) _
  refine g_callS X16 hx hZ hown (by rw [hml]; rfl) e16 (hw _ (List.mem_of_getElem? (i := 11) rfl)) (hw _ (List.mem_of_getElem? (i := 12) rfl)) (hw _ (List.mem_of_getElem? (i := 2) rfl)) (hw _ (List.mem_of_getElem? (i := 13) rfl)) (rmK l Z a0 hw vw p1 (7 : Int32) h0) [(.long vw), (.long p1), (.int (7 : Int32))] rfl [(.long (((((((markV vw p1 (0 : Int32)) ||| (markV vw p1 (1 : Int32))) ||| (markV vw p1 (2 : Int32))) ||| (markV vw p1 (3 : Int32))) ||| (markV vw p1 (4 : Int32))) ||| (markV vw p1 (5 : Int32))) ||| (markV vw p1 (6 : Int32))))] rfl (lenOf pd_3 rfl) (hb hby at_143) (by decide) 2 (by decide) (by decide) (by first | decide | exact Nat.le_refl _) (by decide) (by decide) (fun v T17 L17 X17 hQ17 => ?_)
  obtain ⟨rfl, e17, rfl⟩ := hQ17
  show Goes p.tables e below (T17.setTop (mkF m 146 #[.val (.long p0), .second, .val (.long p1), .second, .val (.int p2), .val (.long vm), .second, .val (.long vw), .second, .val (.long vg), .second, .unset, .unset] [(.long (markV vw p1 (7 : Int32))), (.long (((((((markV vw p1 (0 : Int32)) ||| (markV vw p1 (1 : Int32))) ||| (markV vw p1 (2 : Int32))) ||| (markV vw p1 (3 : Int32))) ||| (markV vw p1 (4 : Int32))) ||| (markV vw p1 (5 : Int32))) ||| (markV vw p1 (6 : Int32))))])) _
  refine g_lor X17 hx (hb hby at_146) ?_
  show Goes p.tables e below (T17.setTop (mkF m 147 #[.val (.long p0), .second, .val (.long p1), .second, .val (.int p2), .val (.long vm), .second, .val (.long vw), .second, .val (.long vg), .second, .unset, .unset] [(.long ((((((((markV vw p1 (0 : Int32)) ||| (markV vw p1 (1 : Int32))) ||| (markV vw p1 (2 : Int32))) ||| (markV vw p1 (3 : Int32))) ||| (markV vw p1 (4 : Int32))) ||| (markV vw p1 (5 : Int32))) ||| (markV vw p1 (6 : Int32))) ||| (markV vw p1 (7 : Int32))))])) _
  obtain ⟨ve, hve⟩ : ∃ z : Int64, z = ((((((((markV vw p1 (0 : Int32)) ||| (markV vw p1 (1 : Int32))) ||| (markV vw p1 (2 : Int32))) ||| (markV vw p1 (3 : Int32))) ||| (markV vw p1 (4 : Int32))) ||| (markV vw p1 (5 : Int32))) ||| (markV vw p1 (6 : Int32))) ||| (markV vw p1 (7 : Int32))) := ⟨_, rfl⟩
  refine g_nameL hve ?_
  show Goes p.tables e below (T17.setTop (mkF m 147 #[.val (.long p0), .second, .val (.long p1), .second, .val (.int p2), .val (.long vm), .second, .val (.long vw), .second, .val (.long vg), .second, .unset, .unset] [(.long ve)])) _
  refine g_lstore X17 hx (hb hby at_147) (l' := #[.val (.long p0), .second, .val (.long p1), .second, .val (.int p2), .val (.long vm), .second, .val (.long vw), .second, .val (.long vg), .second, .val (.long ve), .second]) rfl ?_
  show Goes p.tables e below (T17.setTop (mkF m 149 #[.val (.long p0), .second, .val (.long p1), .second, .val (.int p2), .val (.long vm), .second, .val (.long vw), .second, .val (.long vg), .second, .val (.long ve), .second] [])) _
  refine g_lload X17 hx (hb hby at_149) rfl ?_
  show Goes p.tables e below (T17.setTop (mkF m 151 #[.val (.long p0), .second, .val (.long p1), .second, .val (.int p2), .val (.long vm), .second, .val (.long vw), .second, .val (.long vg), .second, .val (.long ve), .second] [(.long vg)])) _
  refine g_lload X17 hx (hb hby at_151) rfl ?_
  show Goes p.tables e below (T17.setTop (mkF m 153 #[.val (.long p0), .second, .val (.long p1), .second, .val (.int p2), .val (.long vm), .second, .val (.long vw), .second, .val (.long vg), .second, .val (.long ve), .second] [(.long ve), (.long vg)])) _
  refine g_lcmp X17 hx (hb hby at_153) ?_
  show Goes p.tables e below (T17.setTop (mkF m 154 #[.val (.long p0), .second, .val (.long p1), .second, .val (.int p2), .val (.long vm), .second, .val (.long vw), .second, .val (.long vg), .second, .val (.long ve), .second] [(.int (XT.cmpL vg ve))])) _
  have c154 : vg = ve := (by rw [hvg, hve]; exact own_plain vw p1)
  refine g_lif_ne X17 hx (hb hby at_154) (by decide) (pc' := 161) (by decide) (fun q => absurd c154 q) (fun _ => ?_)
  show Goes p.tables e below (T17.setTop (mkF m 157 #[.val (.long p0), .second, .val (.long p1), .second, .val (.int p2), .val (.long vm), .second, .val (.long vw), .second, .val (.long vg), .second, .val (.long ve), .second] [])) _
  refine g_iconst X17 hx (1 : Int32) (hb hby at_157) rfl ?_
  show Goes p.tables e below (T17.setTop (mkF m 158 #[.val (.long p0), .second, .val (.long p1), .second, .val (.int p2), .val (.long vm), .second, .val (.long vw), .second, .val (.long vg), .second, .val (.long ve), .second] [(.int (1 : Int32))])) _
  refine g_goto X17 hx (hb hby at_158) (by decide) (pc' := 162) (by decide) ?_
  show Goes p.tables e below (T17.setTop (mkF m 162 #[.val (.long p0), .second, .val (.long p1), .second, .val (.int p2), .val (.long vm), .second, .val (.long vw), .second, .val (.long vg), .second, .val (.long ve), .second] [(.int (1 : Int32))])) _
  exact g_retZ X17 hx (hz := (by decide)) hret hk (hb hby at_162) (by decide) (by decide) ⟨rfl, Fr.nil _⟩
set_option maxRecDepth 65536 in
set_option maxHeartbeats 40000000 in
theorem comes_1 {Post : Tables → Env → Array Value → State → Outcome → State → Prop} (hpost : ∀ tb e args s v u, (limb_1_1.after args s (.returned v) u = true ∧ limb_1_2.after args s (.returned v) u = true ∧ True) → FrameEnd s (.returned v) u (Jvm.fieldLocs frame_1_writes args s ++ Jvm.arrayLocs frame_1_arrays args s ++ Jvm.staticLocs frame_1_statics s) 0 0 → Post tb e args s (.returned v) u) :
    ArmFor flags0 classFile x code maxLocals ret World_1 tables_1 room_1 Calls_1 rest_1 Pre_1 Post := by
  intro l hfl _ _ p e ha hc hk s m args below hf hA hF happ hP
  obtain ⟨hcalls, hrest, hpre⟩ := hP
  obtain ⟨-, -, -, hnamed, -, -, -, hat⟩ := (Spec.applies_iff hf).mp happ
  obtain ⟨hg, hn⟩ := and_e (Cond.before_iff.mp (show (Jvm.Cond.and given_1 narrow_1).before args s = true from hpre))
  obtain ⟨h1, hg1⟩ := and_e hg
  obtain ⟨w0, w1, w2, rfl⟩ : ∃ w0 w1 w2 : Value, args = #[w0, w1, w2] := by
    have hs : args.size = 3 := by simpa [Cond.value, given_1] using h1
    obtain ⟨L⟩ := args
    match L, hs with
    | [w0, w1, w2], _ => exact ⟨w0, w1, w2, rfl⟩
  have hw := fun d (hd : d ∈ tables_1) => atoms_spec (ws := Jvm.Cond.code x code maxLocals ret :: tables_1) hat d (List.mem_cons_of_mem _ hd)
  obtain ⟨ha0, hg2⟩ := and_e hg1
  obtain ⟨i0, ei0⟩ := isL_v ha0
  obtain rfl : w0 = (.long i0) := Option.some.inj ei0
  obtain ⟨ha1, hg3⟩ := and_e hg2
  obtain ⟨i1, ei1⟩ := isL_v ha1
  obtain rfl : w1 = (.long i1) := Option.some.inj ei1
  obtain ⟨i2, ei2⟩ := is_v hg3
  obtain rfl : w2 = (.int i2) := Option.some.inj ei2
  obtain ⟨n, o, h1, h2, h3, _, L, rfl, ⟨rfl, N⟩, hq⟩ := law l s _ hw tables_1 i0 i1 i2 s.heap  p e ha hc hk s m _ below hf ((Spec.applies_iff_loose hf).mp happ).1 ⟨rfl, State.Warmed39.refl s, rfl⟩ trivial
  refine ⟨n, _, h1, h2, h3, hpost _ _ _ _ _ _ ⟨Cond.after_iff.mpr rfl, Cond.after_iff.mpr (eq_i res_at (Term.int_eval (1)) rfl), trivial⟩ ⟨hq.1, hq.2.1, (hq.2.2.sift fun y hy => Or.inr (N y hy)).mono (by decide) (by decide)⟩⟩
theorem main_1_1 : Claimed_1_1 := comes_1 fun _ _ _ _ _ _ h hF => ⟨h.1, hF⟩
theorem main_1_2 : Claimed_1_2 := comes_1 fun _ _ _ _ _ _ h hF => ⟨h.2.1, hF⟩
end Jvm.Pilot.@@N@@
namespace Jvm.Pilot.@@N@@
open Jvm Jvm.ClassFile Sem Op Lib Jvm.Free Jvm.Stand Jvm.Pilot.@@N@@.Jvm.D
/-! MADE BY PROGRAM (witnessworld.py) out of the Statement's table words and the real class files: 9 classes; the members and pool entries that the words name. The judged class is class 1, her method 1. -/
namespace start1
open Jvm.ClassFile
def u (s : String) : CpInfo := .utf8 (stringToUtf16 s)
/-- a pool by its gaps: so many unusable entries, then the entry; so many at the end -/
def gap : Nat → List CpInfo → List CpInfo
  | 0, r => r
  | n + 1, r => .unusable :: gap n r
def poolList (es : List (Nat × CpInfo)) (last : Nat) : List CpInfo := es.foldr (fun e r => gap e.1 (e.2 :: r)) (gap last [])
def pool (es : List (Nat × CpInfo)) (last : Nat) : Array CpInfo := ⟨poolList es last⟩
def fileOf (pool : Array CpInfo) (this : Nat) (attrs : Array Attribute := #[]) (ms : Array MethodInfo := #[]) (fl : Nat := 33) (sup : Nat := 0) (ifs : Array Nat := #[]) (fds : Array FieldInfo := #[]) : ClassFile where
  minorVersion := 0
  majorVersion := 65
  constantPool := pool
  accessFlags := fl
  thisClass := this
  superClass := sup
  interfaces := ifs
  fields := fds
  methods := ms
  attributes := attrs
def plain (name : String) (sup : Option ClassId) : Class where
  name := name
  kind := .ordinary
  loader := none
  accessFlags := 33
  super := sup
  interfaces := #[]
  cf := none
  fields := #[]
  methods := #[]
  instanceTypes := #[]
  staticTypes := #[]
  resolved := #[]
  callSites := []
  init := .initialized
  statics := none
  mirror := none

def pool0 : Array CpInfo := pool [(5, u "<init>"), (0, u "()V"), (1, .class_ 10), (1, u "java/lang/Object")] 113

def k0m0 : Method := { name := "<init>", desc := "()V", sig := { parameters := [], returnType := none }, accessFlags := 1, code := none }
/-- java/lang/Object -/
def k0 : Class := { plain "java/lang/Object" none with
  accessFlags := 33
  interfaces := #[]
  cf := some (fileOf pool0 8 #[] #[{ accessFlags := 1, nameIndex := 5, descriptorIndex := 6, attributes := #[] }] 33 0 #[] #[])
  fields := #[]
  methods := #[k0m0]
  instanceTypes := #[]
  staticTypes := #[]
  resolved := Array.replicate 124 none
  statics := none }

def pool1 : Array CpInfo := pool [(2, .class_ 4), (1, u "java/lang/Object"), (0, u "<init>"), (0, u "()V"), (0, .methodref 8 9), (0, .class_ 10), (0, .nameAndType 11 12), (0, u "com/example/limitrail/limitrail/ByteScanMarksPinLaw"), (0, u "spread"), (0, u "(II)J"), (0, .long 18446744073709551615), (1, .methodref 16 17), (0, .class_ 18), (0, .nameAndType 19 20), (0, u "com/example/limitrail/limitrail/ByteScan"), (0, u "marks"), (0, u "(JJ)J"), (0, .methodref 8 22), (0, .nameAndType 23 24), (0, u "mark"), (0, u "(JJI)J"), (0, .long 255), (1, .long 128), (3, u "law"), (0, u "(JJI)Z")] 3

def k1m0 : Method := { name := "<init>", desc := "()V", sig := { parameters := [], returnType := none }, accessFlags := 2, code := none }
def k1c1 : Code := { maxStack := 7, maxLocals := 13, code := code, exceptionTable := #[], attributes := #[] }
def k1m1 : Method := { name := "law", desc := "(JJI)Z", sig := { parameters := [.long, .long, .int], returnType := some .boolean }, accessFlags := 9, code := some k1c1 }
def k1c2 : Code := { maxStack := 4, maxLocals := 2, code := method_3_code, exceptionTable := #[], attributes := #[] }
def k1m2 : Method := { name := "spread", desc := "(II)J", sig := { parameters := [.int, .int], returnType := some .long }, accessFlags := 10, code := some k1c2 }
def k1c3 : Code := { maxStack := 6, maxLocals := 6, code := method_4_code, exceptionTable := #[], attributes := #[] }
def k1m3 : Method := { name := "mark", desc := "(JJI)J", sig := { parameters := [.long, .long, .int], returnType := some .long }, accessFlags := 10, code := some k1c3 }
/-- com/example/limitrail/limitrail/ByteScanMarksPinLaw -/
def k1 : Class := { plain "com/example/limitrail/limitrail/ByteScanMarksPinLaw" (some 0) with
  accessFlags := 49
  interfaces := #[]
  cf := some (fileOf pool1 8 #[] #[{ accessFlags := 2, nameIndex := 5, descriptorIndex := 6, attributes := #[] }, { accessFlags := 9, nameIndex := 31, descriptorIndex := 32, attributes := #[] }, { accessFlags := 10, nameIndex := 11, descriptorIndex := 12, attributes := #[] }, { accessFlags := 10, nameIndex := 23, descriptorIndex := 24, attributes := #[] }] 49 2 #[] #[])
  fields := #[]
  methods := #[k1m0, k1m1, k1m2, k1m3]
  instanceTypes := #[]
  staticTypes := #[]
  resolved := Array.replicate 36 none
  statics := none }

def pool2 : Array CpInfo := pool [(4, .class_ 6), (1, u "java/lang/Object"), (0, u "<init>"), (0, u "()V"), (5, .class_ 16), (1, u "com/example/limitrail/limitrail/ByteScan"), (0, u "WORDS"), (0, u "Ljava/lang/invoke/VarHandle;"), (6, .long 9187201950435737471), (1, .long 18446744073709551615), (19, u "WORD"), (0, u "I"), (2, u "LOW_BITS"), (0, u "J"), (5, u "marks"), (0, u "(JJ)J")] 4

def k2m0 : Method := { name := "<init>", desc := "()V", sig := { parameters := [], returnType := none }, accessFlags := 2, code := none }
def k2c1 : Code := { maxStack := 4, maxLocals := 8, code := prog_4_method_4_code, exceptionTable := #[], attributes := #[] }
def k2m1 : Method := { name := "marks", desc := "(JJ)J", sig := { parameters := [.long, .long], returnType := some .long }, accessFlags := 8, code := some k2c1 }
/-- com/example/limitrail/limitrail/ByteScan -/
def k2 : Class := { plain "com/example/limitrail/limitrail/ByteScan" (some 0) with
  accessFlags := 48
  interfaces := #[]
  cf := some (fileOf pool2 14 #[] #[{ accessFlags := 2, nameIndex := 7, descriptorIndex := 8, attributes := #[] }, { accessFlags := 8, nameIndex := 58, descriptorIndex := 59, attributes := #[] }] 48 4 #[] #[{ accessFlags := 24, nameIndex := 47, descriptorIndex := 48, attributes := #[] }, { accessFlags := 26, nameIndex := 17, descriptorIndex := 18, attributes := #[] }, { accessFlags := 26, nameIndex := 51, descriptorIndex := 52, attributes := #[] }])
  fields := #[{ name := "WORD", type := .int, accessFlags := 24, slot := 0, constantValue := 0 }, { name := "WORDS", type := (.object "java/lang/invoke/VarHandle"), accessFlags := 26, slot := 1, constantValue := 0 }, { name := "LOW_BITS", type := .long, accessFlags := 26, slot := 2, constantValue := 0 }]
  methods := #[k2m0, k2m1]
  instanceTypes := #[]
  staticTypes := #[.int, (.object "java/lang/invoke/VarHandle"), .long]
  resolved := Array.replicate 64 none
  statics := none }

def pool3 : Array CpInfo := pool [(1, u "java/lang/Cloneable"), (0, .class_ 1), (0, u "java/lang/Object"), (0, .class_ 3)] 3

/-- java/lang/Cloneable -/
def k3 : Class := { plain "java/lang/Cloneable" (some 0) with
  accessFlags := 1537
  interfaces := #[]
  cf := some (fileOf pool3 2 #[] #[] 1537 4 #[] #[])
  fields := #[]
  methods := #[]
  instanceTypes := #[]
  staticTypes := #[]
  resolved := Array.replicate 8 none
  statics := none }

def pool4 : Array CpInfo := pool [(1, u "java/io/Serializable"), (0, .class_ 1), (0, u "java/lang/Object"), (0, .class_ 3)] 3

/-- java/io/Serializable -/
def k4 : Class := { plain "java/io/Serializable" (some 0) with
  accessFlags := 1537
  interfaces := #[]
  cf := some (fileOf pool4 2 #[] #[] 1537 4 #[] #[])
  fields := #[]
  methods := #[]
  instanceTypes := #[]
  staticTypes := #[]
  resolved := Array.replicate 8 none
  statics := none }

/-- the primitive byte -/
def k5 : Class := { plain "byte" none with kind := .primitive 'B', accessFlags := 0x411 }
/-- [B -/
def k6 : Class := { plain "[B" (some 0) with kind := .array 5 .byte, interfaces := #[3, 4], accessFlags := 1041 }

/-- the primitive int -/
def k7 : Class := { plain "int" none with kind := .primitive 'I', accessFlags := 0x411 }
/-- [I -/
def k8 : Class := { plain "[I" (some 0) with kind := .array 7 .int, interfaces := #[3, 4], accessFlags := 1041 }

def heap : Heap := #[]
def classes : Array Class := #[k0, k1, k2, k3, k4, k5, k6, k7, k8]
def interned : List (Array UInt16 × Addr) := []
def slotsUsed : Nat := 0
def theMethod : MethodId := ⟨1, 1⟩
def args0 : Array Value := #[.long 5, .long 7, .int 3]
def aboutOver (below : List Frame) : State where
  vm := { classes := classes, interned := interned.toArray }
  heap := heap
  slotsUsed := slotsUsed
  threads := #[{ frames := .invoking theMethod args0 :: below }]
def below0 : List Frame := [.native { method := ⟨0, 0⟩, args := #[] }]
def about1 : State := aboutOver below0
def p0 : Program := .bare "" "" ""
def e0 : Env := launch0.env 0 0 0
theorem w_frames : about1.frames = Frame.invoking theMethod args0 :: below0 := rfl
set_option maxRecDepth 65536 in
theorem w_args : argsFit about1.vm theMethod args0 = true := by decide +kernel
set_option maxRecDepth 65536 in
theorem w_heap : heapFits about1 = true := by decide +kernel
set_option maxRecDepth 65536 in
theorem w_runnable : about1.curStatus? = some .runnable := by decide +kernel
set_option maxRecDepth 65536 in
theorem w_alone : about1.alone = true := by decide +kernel
set_option maxRecDepth 65536 in
theorem w_named : about1.methodNamed? x = some theMethod := by decide +kernel
set_option maxRecDepth 65536 in
theorem w_hears : about1.hears theMethod below0 = true := by decide +kernel
set_option maxRecDepth 65536 in
theorem w_ripe : about1.ripe theMethod args0 below0 = true := by decide +kernel
theorem w_running : about1.status = .running := rfl
set_option maxRecDepth 65536 in
theorem w_room : about1.hasRoom e0.platform room_1 = true :=
  launch0.hasRoom_least _ room_1 (by decide +kernel) (by decide +kernel) (by decide +kernel) (by decide +kernel) (by decide +kernel) (by decide +kernel)
theorem allAtoms_all (ts : List Jvm.Cond) (a : Array Jvm.Value) (st : Jvm.State) : (allAtoms ts).before a st = ts.all (fun c => c.before a st) := by
  induction ts with
  | nil => rfl
  | cons c t ih =>
    show (Jvm.Cond.and c (allAtoms t)).before a st = _
    rw [Jvm.Cond.before_and, ih, List.all_cons]
def words1 : List Jvm.Cond := Jvm.Cond.code x code maxLocals ret :: tables_1
/-- a 'code' word, met by the world's own term for the bytes: nothing is compared byte by byte -/
theorem code_word {y : MethodName} {bytes : ByteArray} {mx : Nat} {rt : Option FieldType} {a : Array Value} {s : State} {m : MethodId} {meth : Method} {c : Code} (h1 : s.methodNamed? y = some m) (h2 : s.vm.method? m = some meth) (h3 : meth.code = some c) (h4 : c.code = bytes)
    (h5 : (c.maxLocals == mx && c.exceptionTable.isEmpty && decide (c.maxStack ≤ mostOperands) && decide (meth.sig.returnType = rt) && !meth.locks && decide (parseMethodDescriptor y.desc = some meth.sig)) = true) : (Jvm.Cond.code y bytes mx rt).before a s = true := by
  simp only [Bool.and_eq_true, beq_iff_eq, Bool.not_eq_true', decide_eq_true_eq] at h5
  obtain ⟨⟨⟨⟨⟨g1, g2⟩, g3⟩, g4⟩, g5⟩, g6⟩ := h5
  simp [Cond.before, Cond.holds, Cond.value, h1, h2, h3, h4, g1, g2, g3, g4, g5, g6]
def isCode : Jvm.Cond → Bool
  | .code _ _ _ _ => true
  | _ => false
theorem all_split {L : List Jvm.Cond} {P : Jvm.Cond → Bool} (h1 : L.all (fun c => isCode c || P c) = true) (h2 : ∀ c ∈ L.filter isCode, P c = true) : L.all P = true := by
  refine List.all_eq_true.mpr fun c hc => ?_
  have h := List.all_eq_true.mp h1 c hc
  rcases Bool.eq_false_or_eq_true (isCode c) with hi | hi
  · exact h2 c (List.mem_filter.mpr ⟨hc, hi⟩)
  · simpa [hi] using h
set_option maxRecDepth 65536 in
theorem w_c0 : (Jvm.Cond.code x code maxLocals ret).before args0 about1 = true := code_word (m := ⟨1, 1⟩) (meth := k1m1) (c := k1c1) (by decide +kernel) rfl rfl rfl (by decide +kernel)
set_option maxRecDepth 65536 in
theorem w_c1 : (Jvm.Cond.code ({ cls := "com/example/limitrail/limitrail/ByteScanMarksPinLaw", name := "spread", desc := "(II)J" } : Jvm.MethodName) method_3_code (2 : Nat) (Option.some Jvm.ClassFile.FieldType.long)).before args0 about1 = true := code_word (m := ⟨1, 2⟩) (meth := k1m2) (c := k1c2) (by decide +kernel) rfl rfl rfl (by decide +kernel)
set_option maxRecDepth 65536 in
theorem w_c2 : (Jvm.Cond.code ({ cls := "com/example/limitrail/limitrail/ByteScan", name := "marks", desc := "(JJ)J" } : Jvm.MethodName) prog_4_method_4_code (8 : Nat) (Option.some Jvm.ClassFile.FieldType.long)).before args0 about1 = true := code_word (m := ⟨2, 1⟩) (meth := k2m1) (c := k2c1) (by decide +kernel) rfl rfl rfl (by decide +kernel)
set_option maxRecDepth 65536 in
theorem w_c3 : (Jvm.Cond.code ({ cls := "com/example/limitrail/limitrail/ByteScanMarksPinLaw", name := "mark", desc := "(JJI)J" } : Jvm.MethodName) method_4_code (6 : Nat) (Option.some Jvm.ClassFile.FieldType.long)).before args0 about1 = true := code_word (m := ⟨1, 3⟩) (meth := k1m3) (c := k1c3) (by decide +kernel) rfl rfl rfl (by decide +kernel)
def codes1 : List Jvm.Cond := [Jvm.Cond.code x code maxLocals ret, Jvm.Cond.code ({ cls := "com/example/limitrail/limitrail/ByteScanMarksPinLaw", name := "spread", desc := "(II)J" } : Jvm.MethodName) method_3_code (2 : Nat) (Option.some Jvm.ClassFile.FieldType.long), Jvm.Cond.code ({ cls := "com/example/limitrail/limitrail/ByteScan", name := "marks", desc := "(JJ)J" } : Jvm.MethodName) prog_4_method_4_code (8 : Nat) (Option.some Jvm.ClassFile.FieldType.long), Jvm.Cond.code ({ cls := "com/example/limitrail/limitrail/ByteScanMarksPinLaw", name := "mark", desc := "(JJI)J" } : Jvm.MethodName) method_4_code (6 : Nat) (Option.some Jvm.ClassFile.FieldType.long)]
set_option maxRecDepth 65536 in
theorem codes_eq : words1.filter isCode = codes1 := rfl
theorem w_codes : ∀ c ∈ words1.filter isCode, c.before args0 about1 = true := by
  rw [codes_eq]
  intro c hc
  simp only [codes1, List.mem_cons, List.not_mem_nil, or_false] at hc
  rcases hc with rfl | rfl | rfl | rfl
  · exact w_c0
  · exact w_c1
  · exact w_c2
  · exact w_c3
set_option maxRecDepth 65536 in
theorem w_t1 : words1.all (fun c => isCode c || c.before args0 about1) = true := by decide +kernel
theorem w_tables : (allAtoms (Jvm.Cond.code x code maxLocals ret :: tables_1)).before args0 about1 = true := by
  rw [allAtoms_all]
  show words1.all (fun c => c.before args0 about1) = true
  refine all_split ?_ w_codes
  rw [w_t1]
set_option maxRecDepth 65536 in
theorem w_case : (Jvm.Cond.and given_1 narrow_1).before args0 about1 = true := by decide +kernel
theorem w_applies : (headSpec (Jvm.Cond.code x code maxLocals ret :: tables_1) room_1).applies x e0.platform about1 = true :=
  (Spec.applies_iff w_frames).mpr ⟨w_running, w_runnable, w_alone, w_named, w_hears, w_ripe, w_room, w_tables⟩
theorem atStart : AtStart classFile x code maxLocals ret World_1 tables_1 room_1 Calls_1 rest_1 Pre_1 launch0 p0 e0 about1 theMethod args0 below0 :=
  ⟨lists_1, trivial, launch0.admits_env _ _ _, launch0.least_env, fairChoices_fair.cas, fairChoices_fair.clock, w_frames, w_args, w_heap, w_applies, trivial, trivial, w_case⟩
end start1
theorem witness_1 : WitnessClaimed_1 := ⟨start1.p0, start1.e0, start1.about1, start1.theMethod, start1.args0, start1.below0, start1.atStart⟩
end Jvm.Pilot.@@N@@
