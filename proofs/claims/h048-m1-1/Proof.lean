import JvmDerived
import JvmDerived.Pilot.@@N@@Statement
import JvmDerived.Pilot.@@N@@Code
set_option linter.unusedVariables false
set_option linter.unusedSimpArgs false
namespace Jvm.RoadKit
open Sem ClassFile Op Lib Jvm.Stand Jvm.Free Jvm.LawKit
section New
variable {p : Program} {l : Launch} {e : Env} {R : Room} {s : State} {m : MethodId} {args : Array Value} {below : List Frame} {meth : Method} {c : Code} {T : State} {locs : List Loc} {cells slots : Nat}
theorem retI (X : Stand p l e R s m args below meth c T locs cells slots) (hx : p.tables.exec = Jvm.exec) {pc : Nat} {Ls : Array Slot} {z : Int32} {rest : List Value} (hret : meth.sig.returnType = some .int) (hd : decode c.code pc = .ok (.ireturn, 1)) {fs : List Frame}
    (hl : ∀ (f : JFrame) (acts : List Action), f.method = m → f.locked = none → f.entered = [] → (doReturn e (T.setTop f) acts (some (.int z))).1 = T.setFrames fs) : Steps p.tables e below (T.setTop (mkF m pc Ls (.int z :: rest))) (T.setFrames fs) := by
  have hm' : T.vm.method? m = some meth := X.method'
  have hn : narrow .int (.int z) = .int z := rfl
  show Steps p.tables e below (T.setTop { method := m, pc := pc, locals := Ls, stack := _ :: rest, locked := none }) _
  jvm_step X.here [X.here.top, hx, hd, hm', hret, hn]
  first | (intro acts; rw [hl _ acts rfl rfl rfl]) | rw [hl _ _ rfl rfl rfl]
  exact Steps.refl _
theorem retD (X : Stand p l e R s m args below meth c T locs cells slots) (hx : p.tables.exec = Jvm.exec) {pc : Nat} {Ls : Array Slot} {z : UInt64} {rest : List Value} (hret : meth.sig.returnType = some .double) (hd : decode c.code pc = .ok (.dreturn, 1)) {fs : List Frame}
    (hl : ∀ (f : JFrame) (acts : List Action), f.method = m → f.locked = none → f.entered = [] → (doReturn e (T.setTop f) acts (some (.double z))).1 = T.setFrames fs) : Steps p.tables e below (T.setTop (mkF m pc Ls (.double z :: rest))) (T.setFrames fs) := by
  have hm' : T.vm.method? m = some meth := X.method'
  show Steps p.tables e below (T.setTop { method := m, pc := pc, locals := Ls, stack := _ :: rest, locked := none }) _
  jvm_step X.here [X.here.top, hx, hd, hm', hret]
  first | (intro acts; rw [hl _ acts rfl rfl rfl]) | rw [hl _ _ rfl rfl rfl]
  exact Steps.refl _
end New
end Jvm.RoadKit
namespace Jvm.Pilot.@@N@@
open Jvm
section OwnSteps
open Jvm Jvm.ClassFile Sem Op Lib Jvm.Free Jvm.Stand
open Jvm.RoadKit (lcmpW)
theorem own_f_iload {tb : Tables} [Ours tb] {e : Env} {below : List Frame} {T target : State} {m : MethodId} {c : Code} {Ls : Array Slot} {S : List Value} {pc pc' : Nat} {k : Nat} {v : Int32} (h : At T m c below) (hx : tb.exec = Jvm.exec) (hd : decode c.code pc = .ok (.iload k, 2)) (hl : Ls[k]? = some (.val (.int v))) (hp : pc + 2 = pc') (hr : Steps tb e below (T.setTop (mkF m pc' Ls (.int v :: S))) target) : Steps tb e below (T.setTop (mkF m pc Ls (S))) target := by subst hp; exact XS.iload h hx rfl hd hl hr
theorem own_f_iloadN {tb : Tables} [Ours tb] {e : Env} {below : List Frame} {T target : State} {m : MethodId} {c : Code} {Ls : Array Slot} {S : List Value} {pc pc' : Nat} {k : Fin 4} {v : Int32} (h : At T m c below) (hx : tb.exec = Jvm.exec) (hd : decode c.code pc = .ok (.iload_n k, 1)) (hl : Ls[k.val]? = some (.val (.int v))) (hp : pc + 1 = pc') (hr : Steps tb e below (T.setTop (mkF m pc' Ls (.int v :: S))) target) : Steps tb e below (T.setTop (mkF m pc Ls (S))) target := by subst hp; exact XS.iloadN h hx rfl hd hl hr
theorem own_f_istore {tb : Tables} [Ours tb] {e : Env} {below : List Frame} {T target : State} {m : MethodId} {c : Code} {Ls : Array Slot} {S : List Value} {pc pc' : Nat} {k : Nat} {v : Int32} {Ls' : Array Slot} (h : At T m c below) (hx : tb.exec = Jvm.exec) (hd : decode c.code pc = .ok (.istore k, 2)) (hl : storeLocals Ls k (.int v) = some Ls') (hp : pc + 2 = pc') (hr : Steps tb e below (T.setTop (mkF m pc' Ls' (S))) target) : Steps tb e below (T.setTop (mkF m pc Ls (.int v :: S))) target := by subst hp; exact XS.istore h hx rfl hd rfl hl hr
theorem own_f_istoreN {tb : Tables} [Ours tb] {e : Env} {below : List Frame} {T target : State} {m : MethodId} {c : Code} {Ls : Array Slot} {S : List Value} {pc pc' : Nat} {k : Fin 4} {v : Int32} {Ls' : Array Slot} (h : At T m c below) (hx : tb.exec = Jvm.exec) (hd : decode c.code pc = .ok (.istore_n k, 1)) (hl : storeLocals Ls k.val (.int v) = some Ls') (hp : pc + 1 = pc') (hr : Steps tb e below (T.setTop (mkF m pc' Ls' (S))) target) : Steps tb e below (T.setTop (mkF m pc Ls (.int v :: S))) target := by subst hp; exact XS.istoreN h hx rfl hd rfl hl hr
theorem own_f_lload {tb : Tables} [Ours tb] {e : Env} {below : List Frame} {T target : State} {m : MethodId} {c : Code} {Ls : Array Slot} {S : List Value} {pc pc' : Nat} {k : Nat} {v : Int64} (h : At T m c below) (hx : tb.exec = Jvm.exec) (hd : decode c.code pc = .ok (.lload k, 2)) (hl : Ls[k]? = some (.val (.long v))) (hp : pc + 2 = pc') (hr : Steps tb e below (T.setTop (mkF m pc' Ls (.long v :: S))) target) : Steps tb e below (T.setTop (mkF m pc Ls (S))) target := by subst hp; exact XS.lload h hx rfl hd hl hr
theorem own_f_lloadN {tb : Tables} [Ours tb] {e : Env} {below : List Frame} {T target : State} {m : MethodId} {c : Code} {Ls : Array Slot} {S : List Value} {pc pc' : Nat} {k : Fin 4} {v : Int64} (h : At T m c below) (hx : tb.exec = Jvm.exec) (hd : decode c.code pc = .ok (.lload_n k, 1)) (hl : Ls[k.val]? = some (.val (.long v))) (hp : pc + 1 = pc') (hr : Steps tb e below (T.setTop (mkF m pc' Ls (.long v :: S))) target) : Steps tb e below (T.setTop (mkF m pc Ls (S))) target := by subst hp; exact XS.lloadN h hx rfl hd hl hr
theorem own_f_lstore {tb : Tables} [Ours tb] {e : Env} {below : List Frame} {T target : State} {m : MethodId} {c : Code} {Ls : Array Slot} {S : List Value} {pc pc' : Nat} {k : Nat} {v : Int64} {Ls' : Array Slot} (h : At T m c below) (hx : tb.exec = Jvm.exec) (hd : decode c.code pc = .ok (.lstore k, 2)) (hl : storeLocals Ls k (.long v) = some Ls') (hp : pc + 2 = pc') (hr : Steps tb e below (T.setTop (mkF m pc' Ls' (S))) target) : Steps tb e below (T.setTop (mkF m pc Ls (.long v :: S))) target := by subst hp; exact XS.lstore h hx rfl hd rfl hl hr
theorem own_f_lstoreN {tb : Tables} [Ours tb] {e : Env} {below : List Frame} {T target : State} {m : MethodId} {c : Code} {Ls : Array Slot} {S : List Value} {pc pc' : Nat} {k : Fin 4} {v : Int64} {Ls' : Array Slot} (h : At T m c below) (hx : tb.exec = Jvm.exec) (hd : decode c.code pc = .ok (.lstore_n k, 1)) (hl : storeLocals Ls k.val (.long v) = some Ls') (hp : pc + 1 = pc') (hr : Steps tb e below (T.setTop (mkF m pc' Ls' (S))) target) : Steps tb e below (T.setTop (mkF m pc Ls (.long v :: S))) target := by subst hp; exact XS.lstoreN h hx rfl hd rfl hl hr
theorem own_f_dload {tb : Tables} [Ours tb] {e : Env} {below : List Frame} {T target : State} {m : MethodId} {c : Code} {Ls : Array Slot} {S : List Value} {pc pc' : Nat} {k : Nat} {v : UInt64} (h : At T m c below) (hx : tb.exec = Jvm.exec) (hd : decode c.code pc = .ok (.dload k, 2)) (hl : Ls[k]? = some (.val (.double v))) (hp : pc + 2 = pc') (hr : Steps tb e below (T.setTop (mkF m pc' Ls (.double v :: S))) target) : Steps tb e below (T.setTop (mkF m pc Ls (S))) target := by subst hp; exact XS.dload h hx rfl hd hl hr
theorem own_f_dloadN {tb : Tables} [Ours tb] {e : Env} {below : List Frame} {T target : State} {m : MethodId} {c : Code} {Ls : Array Slot} {S : List Value} {pc pc' : Nat} {k : Fin 4} {v : UInt64} (h : At T m c below) (hx : tb.exec = Jvm.exec) (hd : decode c.code pc = .ok (.dload_n k, 1)) (hl : Ls[k.val]? = some (.val (.double v))) (hp : pc + 1 = pc') (hr : Steps tb e below (T.setTop (mkF m pc' Ls (.double v :: S))) target) : Steps tb e below (T.setTop (mkF m pc Ls (S))) target := by subst hp; exact XS.dloadN h hx rfl hd hl hr
theorem own_f_dstore {tb : Tables} [Ours tb] {e : Env} {below : List Frame} {T target : State} {m : MethodId} {c : Code} {Ls : Array Slot} {S : List Value} {pc pc' : Nat} {k : Nat} {v : UInt64} {Ls' : Array Slot} (h : At T m c below) (hx : tb.exec = Jvm.exec) (hd : decode c.code pc = .ok (.dstore k, 2)) (hl : storeLocals Ls k (.double v) = some Ls') (hp : pc + 2 = pc') (hr : Steps tb e below (T.setTop (mkF m pc' Ls' (S))) target) : Steps tb e below (T.setTop (mkF m pc Ls (.double v :: S))) target := by subst hp; exact XS.dstore h hx rfl hd rfl hl hr
theorem own_f_dstoreN {tb : Tables} [Ours tb] {e : Env} {below : List Frame} {T target : State} {m : MethodId} {c : Code} {Ls : Array Slot} {S : List Value} {pc pc' : Nat} {k : Fin 4} {v : UInt64} {Ls' : Array Slot} (h : At T m c below) (hx : tb.exec = Jvm.exec) (hd : decode c.code pc = .ok (.dstore_n k, 1)) (hl : storeLocals Ls k.val (.double v) = some Ls') (hp : pc + 1 = pc') (hr : Steps tb e below (T.setTop (mkF m pc' Ls' (S))) target) : Steps tb e below (T.setTop (mkF m pc Ls (.double v :: S))) target := by subst hp; exact XS.dstoreN h hx rfl hd rfl hl hr
theorem own_f_aload {tb : Tables} [Ours tb] {e : Env} {below : List Frame} {T target : State} {m : MethodId} {c : Code} {Ls : Array Slot} {S : List Value} {pc pc' : Nat} {k : Nat} {v : Value} (h : At T m c below) (hx : tb.exec = Jvm.exec) (hd : decode c.code pc = .ok (.aload k, 2)) (hl : Ls[k]? = some (.val v)) (hv : v.isRef = true) (hp : pc + 2 = pc') (hr : Steps tb e below (T.setTop (mkF m pc' Ls (v :: S))) target) : Steps tb e below (T.setTop (mkF m pc Ls (S))) target := by subst hp; exact XS.aload h hx rfl hd hl hv hr
theorem own_f_aloadN {tb : Tables} [Ours tb] {e : Env} {below : List Frame} {T target : State} {m : MethodId} {c : Code} {Ls : Array Slot} {S : List Value} {pc pc' : Nat} {k : Fin 4} {v : Value} (h : At T m c below) (hx : tb.exec = Jvm.exec) (hd : decode c.code pc = .ok (.aload_n k, 1)) (hl : Ls[k.val]? = some (.val v)) (hv : v.isRef = true) (hp : pc + 1 = pc') (hr : Steps tb e below (T.setTop (mkF m pc' Ls (v :: S))) target) : Steps tb e below (T.setTop (mkF m pc Ls (S))) target := by subst hp; exact XS.aloadN h hx rfl hd hl hv hr
theorem own_f_astore {tb : Tables} [Ours tb] {e : Env} {below : List Frame} {T target : State} {m : MethodId} {c : Code} {Ls : Array Slot} {S : List Value} {pc pc' : Nat} {k : Nat} {v : Value} {Ls' : Array Slot} (h : At T m c below) (hx : tb.exec = Jvm.exec) (hd : decode c.code pc = .ok (.astore k, 2)) (hv : v.isRef = true) (hl : storeLocals Ls k v = some Ls') (hp : pc + 2 = pc') (hr : Steps tb e below (T.setTop (mkF m pc' Ls' (S))) target) : Steps tb e below (T.setTop (mkF m pc Ls (v :: S))) target := by subst hp; exact XS.astore h hx rfl hd rfl hv hl hr
theorem own_f_astoreN {tb : Tables} [Ours tb] {e : Env} {below : List Frame} {T target : State} {m : MethodId} {c : Code} {Ls : Array Slot} {S : List Value} {pc pc' : Nat} {k : Fin 4} {v : Value} {Ls' : Array Slot} (h : At T m c below) (hx : tb.exec = Jvm.exec) (hd : decode c.code pc = .ok (.astore_n k, 1)) (hv : v.isRef = true) (hl : storeLocals Ls k.val v = some Ls') (hp : pc + 1 = pc') (hr : Steps tb e below (T.setTop (mkF m pc' Ls' (S))) target) : Steps tb e below (T.setTop (mkF m pc Ls (v :: S))) target := by subst hp; exact XS.astoreN h hx rfl hd rfl hv hl hr
theorem own_f_iconst {tb : Tables} [Ours tb] {e : Env} {below : List Frame} {T target : State} {m : MethodId} {c : Code} {Ls : Array Slot} {S : List Value} {pc pc' : Nat} {i : Int} {v : Int32} (h : At T m c below) (hx : tb.exec = Jvm.exec) (hd : decode c.code pc = .ok (.iconst i, 1)) (hv : Int32.ofInt i = v) (hp : pc + 1 = pc') (hr : Steps tb e below (T.setTop (mkF m pc' Ls (.int v :: S))) target) : Steps tb e below (T.setTop (mkF m pc Ls (S))) target := by subst hp; exact XS.iconst h hx rfl hd (hv ▸ hr)
theorem own_f_bipush {tb : Tables} [Ours tb] {e : Env} {below : List Frame} {T target : State} {m : MethodId} {c : Code} {Ls : Array Slot} {S : List Value} {pc pc' : Nat} {i : Int} {v : Int32} (h : At T m c below) (hx : tb.exec = Jvm.exec) (hd : decode c.code pc = .ok (.bipush i, 2)) (hv : (Int8.ofInt i).toInt32 = v) (hp : pc + 2 = pc') (hr : Steps tb e below (T.setTop (mkF m pc' Ls (.int v :: S))) target) : Steps tb e below (T.setTop (mkF m pc Ls (S))) target := by subst hp; exact XS.bipush h hx rfl hd (hv ▸ hr)
theorem own_f_sipush {tb : Tables} [Ours tb] {e : Env} {below : List Frame} {T target : State} {m : MethodId} {c : Code} {Ls : Array Slot} {S : List Value} {pc pc' : Nat} {i : Int} {v : Int32} (h : At T m c below) (hx : tb.exec = Jvm.exec) (hd : decode c.code pc = .ok (.sipush i, 3)) (hv : (Int16.ofInt i).toInt32 = v) (hp : pc + 3 = pc') (hr : Steps tb e below (T.setTop (mkF m pc' Ls (.int v :: S))) target) : Steps tb e below (T.setTop (mkF m pc Ls (S))) target := by subst hp; exact XS.sipush h hx rfl hd (hv ▸ hr)
theorem own_f_lconst {tb : Tables} [Ours tb] {e : Env} {below : List Frame} {T target : State} {m : MethodId} {c : Code} {Ls : Array Slot} {S : List Value} {pc pc' : Nat} {k : Fin 2} {v : Int64} (h : At T m c below) (hx : tb.exec = Jvm.exec) (hd : decode c.code pc = .ok (.lconst k, 1)) (hv : Int64.ofNat k = v) (hp : pc + 1 = pc') (hr : Steps tb e below (T.setTop (mkF m pc' Ls (.long v :: S))) target) : Steps tb e below (T.setTop (mkF m pc Ls (S))) target := by subst hp; exact XS.lconst h hx rfl hd (hv ▸ hr)
theorem own_f_dconst0 {tb : Tables} [Ours tb] {e : Env} {below : List Frame} {T target : State} {m : MethodId} {c : Code} {Ls : Array Slot} {S : List Value} {pc pc' : Nat} {v : UInt64} (h : At T m c below) (hx : tb.exec = Jvm.exec) (hd : decode c.code pc = .ok (.dconst 0, 1)) (hv : FP.dconst0 = v) (hp : pc + 1 = pc') (hr : Steps tb e below (T.setTop (mkF m pc' Ls (.double v :: S))) target) : Steps tb e below (T.setTop (mkF m pc Ls (S))) target := by subst hp; exact XS.dconst0 h hx rfl hd hv hr
theorem own_f_dconst1 {tb : Tables} [Ours tb] {e : Env} {below : List Frame} {T target : State} {m : MethodId} {c : Code} {Ls : Array Slot} {S : List Value} {pc pc' : Nat} {v : UInt64} (h : At T m c below) (hx : tb.exec = Jvm.exec) (hd : decode c.code pc = .ok (.dconst 1, 1)) (hv : FP.dconst1 = v) (hp : pc + 1 = pc') (hr : Steps tb e below (T.setTop (mkF m pc' Ls (.double v :: S))) target) : Steps tb e below (T.setTop (mkF m pc Ls (S))) target := by subst hp; exact XS.dconst1 h hx rfl hd hv hr
theorem own_f_aconstNull {tb : Tables} [Ours tb] {e : Env} {below : List Frame} {T target : State} {m : MethodId} {c : Code} {Ls : Array Slot} {S : List Value} {pc pc' : Nat}  (h : At T m c below) (hx : tb.exec = Jvm.exec) (hd : decode c.code pc = .ok (.aconst_null, 1)) (hp : pc + 1 = pc') (hr : Steps tb e below (T.setTop (mkF m pc' Ls (.null :: S))) target) : Steps tb e below (T.setTop (mkF m pc Ls (S))) target := by subst hp; exact XS.aconstNull h hx rfl hd hr
theorem own_f_iadd {tb : Tables} [Ours tb] {e : Env} {below : List Frame} {T target : State} {m : MethodId} {c : Code} {Ls : Array Slot} {S : List Value} {pc pc' : Nat} {x y v : Int32} (h : At T m c below) (hx : tb.exec = Jvm.exec) (hd : decode c.code pc = .ok (.iadd, 1)) (hv : x + y = v) (hp : pc + 1 = pc') (hr : Steps tb e below (T.setTop (mkF m pc' Ls (.int v :: S))) target) : Steps tb e below (T.setTop (mkF m pc Ls (.int y :: .int x :: S))) target := by subst hp; exact XS.iadd h hx rfl hd rfl (hv ▸ hr)
theorem own_f_ladd {tb : Tables} [Ours tb] {e : Env} {below : List Frame} {T target : State} {m : MethodId} {c : Code} {Ls : Array Slot} {S : List Value} {pc pc' : Nat} {x y v : Int64} (h : At T m c below) (hx : tb.exec = Jvm.exec) (hd : decode c.code pc = .ok (.ladd, 1)) (hv : x + y = v) (hp : pc + 1 = pc') (hr : Steps tb e below (T.setTop (mkF m pc' Ls (.long v :: S))) target) : Steps tb e below (T.setTop (mkF m pc Ls (.long y :: .long x :: S))) target := by subst hp; exact XS.ladd h hx rfl hd rfl (hv ▸ hr)
theorem own_f_isub {tb : Tables} [Ours tb] {e : Env} {below : List Frame} {T target : State} {m : MethodId} {c : Code} {Ls : Array Slot} {S : List Value} {pc pc' : Nat} {x y v : Int32} (h : At T m c below) (hx : tb.exec = Jvm.exec) (hd : decode c.code pc = .ok (.isub, 1)) (hv : x - y = v) (hp : pc + 1 = pc') (hr : Steps tb e below (T.setTop (mkF m pc' Ls (.int v :: S))) target) : Steps tb e below (T.setTop (mkF m pc Ls (.int y :: .int x :: S))) target := by subst hp; exact XS.isub h hx rfl hd rfl (hv ▸ hr)
theorem own_f_lsub {tb : Tables} [Ours tb] {e : Env} {below : List Frame} {T target : State} {m : MethodId} {c : Code} {Ls : Array Slot} {S : List Value} {pc pc' : Nat} {x y v : Int64} (h : At T m c below) (hx : tb.exec = Jvm.exec) (hd : decode c.code pc = .ok (.lsub, 1)) (hv : x - y = v) (hp : pc + 1 = pc') (hr : Steps tb e below (T.setTop (mkF m pc' Ls (.long v :: S))) target) : Steps tb e below (T.setTop (mkF m pc Ls (.long y :: .long x :: S))) target := by subst hp; exact XS.lsub h hx rfl hd rfl (hv ▸ hr)
theorem own_f_imul {tb : Tables} [Ours tb] {e : Env} {below : List Frame} {T target : State} {m : MethodId} {c : Code} {Ls : Array Slot} {S : List Value} {pc pc' : Nat} {x y v : Int32} (h : At T m c below) (hx : tb.exec = Jvm.exec) (hd : decode c.code pc = .ok (.imul, 1)) (hv : x * y = v) (hp : pc + 1 = pc') (hr : Steps tb e below (T.setTop (mkF m pc' Ls (.int v :: S))) target) : Steps tb e below (T.setTop (mkF m pc Ls (.int y :: .int x :: S))) target := by subst hp; exact XS.imul h hx rfl hd rfl (hv ▸ hr)
theorem own_f_lmul {tb : Tables} [Ours tb] {e : Env} {below : List Frame} {T target : State} {m : MethodId} {c : Code} {Ls : Array Slot} {S : List Value} {pc pc' : Nat} {x y v : Int64} (h : At T m c below) (hx : tb.exec = Jvm.exec) (hd : decode c.code pc = .ok (.lmul, 1)) (hv : x * y = v) (hp : pc + 1 = pc') (hr : Steps tb e below (T.setTop (mkF m pc' Ls (.long v :: S))) target) : Steps tb e below (T.setTop (mkF m pc Ls (.long y :: .long x :: S))) target := by subst hp; exact XS.lmul h hx rfl hd rfl (hv ▸ hr)
theorem own_f_iand {tb : Tables} [Ours tb] {e : Env} {below : List Frame} {T target : State} {m : MethodId} {c : Code} {Ls : Array Slot} {S : List Value} {pc pc' : Nat} {x y v : Int32} (h : At T m c below) (hx : tb.exec = Jvm.exec) (hd : decode c.code pc = .ok (.iand, 1)) (hv : x &&& y = v) (hp : pc + 1 = pc') (hr : Steps tb e below (T.setTop (mkF m pc' Ls (.int v :: S))) target) : Steps tb e below (T.setTop (mkF m pc Ls (.int y :: .int x :: S))) target := by subst hp; exact XS.iand h hx rfl hd rfl (hv ▸ hr)
theorem own_f_land {tb : Tables} [Ours tb] {e : Env} {below : List Frame} {T target : State} {m : MethodId} {c : Code} {Ls : Array Slot} {S : List Value} {pc pc' : Nat} {x y v : Int64} (h : At T m c below) (hx : tb.exec = Jvm.exec) (hd : decode c.code pc = .ok (.land, 1)) (hv : x &&& y = v) (hp : pc + 1 = pc') (hr : Steps tb e below (T.setTop (mkF m pc' Ls (.long v :: S))) target) : Steps tb e below (T.setTop (mkF m pc Ls (.long y :: .long x :: S))) target := by subst hp; exact XS.land h hx rfl hd rfl (hv ▸ hr)
theorem own_f_ior {tb : Tables} [Ours tb] {e : Env} {below : List Frame} {T target : State} {m : MethodId} {c : Code} {Ls : Array Slot} {S : List Value} {pc pc' : Nat} {x y v : Int32} (h : At T m c below) (hx : tb.exec = Jvm.exec) (hd : decode c.code pc = .ok (.ior, 1)) (hv : x ||| y = v) (hp : pc + 1 = pc') (hr : Steps tb e below (T.setTop (mkF m pc' Ls (.int v :: S))) target) : Steps tb e below (T.setTop (mkF m pc Ls (.int y :: .int x :: S))) target := by subst hp; exact XS.ior h hx rfl hd rfl (hv ▸ hr)
theorem own_f_lor {tb : Tables} [Ours tb] {e : Env} {below : List Frame} {T target : State} {m : MethodId} {c : Code} {Ls : Array Slot} {S : List Value} {pc pc' : Nat} {x y v : Int64} (h : At T m c below) (hx : tb.exec = Jvm.exec) (hd : decode c.code pc = .ok (.lor, 1)) (hv : x ||| y = v) (hp : pc + 1 = pc') (hr : Steps tb e below (T.setTop (mkF m pc' Ls (.long v :: S))) target) : Steps tb e below (T.setTop (mkF m pc Ls (.long y :: .long x :: S))) target := by subst hp; exact XS.lor h hx rfl hd rfl (hv ▸ hr)
theorem own_f_ixor {tb : Tables} [Ours tb] {e : Env} {below : List Frame} {T target : State} {m : MethodId} {c : Code} {Ls : Array Slot} {S : List Value} {pc pc' : Nat} {x y v : Int32} (h : At T m c below) (hx : tb.exec = Jvm.exec) (hd : decode c.code pc = .ok (.ixor, 1)) (hv : x ^^^ y = v) (hp : pc + 1 = pc') (hr : Steps tb e below (T.setTop (mkF m pc' Ls (.int v :: S))) target) : Steps tb e below (T.setTop (mkF m pc Ls (.int y :: .int x :: S))) target := by subst hp; exact XS.ixor h hx rfl hd rfl (hv ▸ hr)
theorem own_f_lxor {tb : Tables} [Ours tb] {e : Env} {below : List Frame} {T target : State} {m : MethodId} {c : Code} {Ls : Array Slot} {S : List Value} {pc pc' : Nat} {x y v : Int64} (h : At T m c below) (hx : tb.exec = Jvm.exec) (hd : decode c.code pc = .ok (.lxor, 1)) (hv : x ^^^ y = v) (hp : pc + 1 = pc') (hr : Steps tb e below (T.setTop (mkF m pc' Ls (.long v :: S))) target) : Steps tb e below (T.setTop (mkF m pc Ls (.long y :: .long x :: S))) target := by subst hp; exact XS.lxor h hx rfl hd rfl (hv ▸ hr)
theorem own_f_ishl {tb : Tables} [Ours tb] {e : Env} {below : List Frame} {T target : State} {m : MethodId} {c : Code} {Ls : Array Slot} {S : List Value} {pc pc' : Nat} {x : Int32} {y : Int32} (h : At T m c below) (hx : tb.exec = Jvm.exec) (hd : decode c.code pc = .ok (.ishl, 1)) (hp : pc + 1 = pc') (hr : Steps tb e below (T.setTop (mkF m pc' Ls (.int (x <<< (y &&& 31)) :: S))) target) : Steps tb e below (T.setTop (mkF m pc Ls (.int y :: .int x :: S))) target := by subst hp; exact XS.ishl h hx rfl hd rfl hr
theorem own_f_ishr {tb : Tables} [Ours tb] {e : Env} {below : List Frame} {T target : State} {m : MethodId} {c : Code} {Ls : Array Slot} {S : List Value} {pc pc' : Nat} {x : Int32} {y : Int32} (h : At T m c below) (hx : tb.exec = Jvm.exec) (hd : decode c.code pc = .ok (.ishr, 1)) (hp : pc + 1 = pc') (hr : Steps tb e below (T.setTop (mkF m pc' Ls (.int (x >>> (y &&& 31)) :: S))) target) : Steps tb e below (T.setTop (mkF m pc Ls (.int y :: .int x :: S))) target := by subst hp; exact XS.ishr h hx rfl hd rfl hr
theorem own_f_iushr {tb : Tables} [Ours tb] {e : Env} {below : List Frame} {T target : State} {m : MethodId} {c : Code} {Ls : Array Slot} {S : List Value} {pc pc' : Nat} {x : Int32} {y : Int32} (h : At T m c below) (hx : tb.exec = Jvm.exec) (hd : decode c.code pc = .ok (.iushr, 1)) (hp : pc + 1 = pc') (hr : Steps tb e below (T.setTop (mkF m pc' Ls (.int ((x.toUInt32 >>> (y &&& 31).toUInt32).toInt32) :: S))) target) : Steps tb e below (T.setTop (mkF m pc Ls (.int y :: .int x :: S))) target := by subst hp; exact XS.iushr h hx rfl hd rfl hr
theorem own_f_lshl {tb : Tables} [Ours tb] {e : Env} {below : List Frame} {T target : State} {m : MethodId} {c : Code} {Ls : Array Slot} {S : List Value} {pc pc' : Nat} {x : Int64} {y : Int32} (h : At T m c below) (hx : tb.exec = Jvm.exec) (hd : decode c.code pc = .ok (.lshl, 1)) (hp : pc + 1 = pc') (hr : Steps tb e below (T.setTop (mkF m pc' Ls (.long (x <<< (y &&& 0x3f).toInt64) :: S))) target) : Steps tb e below (T.setTop (mkF m pc Ls (.int y :: .long x :: S))) target := by subst hp; exact XS.lshl h hx rfl hd rfl hr
theorem own_f_lshr {tb : Tables} [Ours tb] {e : Env} {below : List Frame} {T target : State} {m : MethodId} {c : Code} {Ls : Array Slot} {S : List Value} {pc pc' : Nat} {x : Int64} {y : Int32} (h : At T m c below) (hx : tb.exec = Jvm.exec) (hd : decode c.code pc = .ok (.lshr, 1)) (hp : pc + 1 = pc') (hr : Steps tb e below (T.setTop (mkF m pc' Ls (.long (x >>> (y &&& 0x3f).toInt64) :: S))) target) : Steps tb e below (T.setTop (mkF m pc Ls (.int y :: .long x :: S))) target := by subst hp; exact XS.lshr h hx rfl hd rfl hr
theorem own_f_lushr {tb : Tables} [Ours tb] {e : Env} {below : List Frame} {T target : State} {m : MethodId} {c : Code} {Ls : Array Slot} {S : List Value} {pc pc' : Nat} {x : Int64} {y : Int32} (h : At T m c below) (hx : tb.exec = Jvm.exec) (hd : decode c.code pc = .ok (.lushr, 1)) (hp : pc + 1 = pc') (hr : Steps tb e below (T.setTop (mkF m pc' Ls (.long ((x.toUInt64 >>> (y &&& 0x3f).toInt64.toUInt64).toInt64) :: S))) target) : Steps tb e below (T.setTop (mkF m pc Ls (.int y :: .long x :: S))) target := by subst hp; exact XS.lushr h hx rfl hd rfl hr
theorem own_f_idiv {tb : Tables} [Ours tb] {e : Env} {below : List Frame} {T target : State} {m : MethodId} {c : Code} {Ls : Array Slot} {S : List Value} {pc pc' : Nat} {x y : Int32} (h : At T m c below) (hx : tb.exec = Jvm.exec) (hd : decode c.code pc = .ok (.idiv, 1)) (hy : y ≠ 0) (hp : pc + 1 = pc') (hr : Steps tb e below (T.setTop (mkF m pc' Ls (.int (x / y) :: S))) target) : Steps tb e below (T.setTop (mkF m pc Ls (.int y :: .int x :: S))) target := by subst hp; exact XS.idiv h hx rfl hd rfl hy hr
theorem own_f_irem {tb : Tables} [Ours tb] {e : Env} {below : List Frame} {T target : State} {m : MethodId} {c : Code} {Ls : Array Slot} {S : List Value} {pc pc' : Nat} {x y : Int32} (h : At T m c below) (hx : tb.exec = Jvm.exec) (hd : decode c.code pc = .ok (.irem, 1)) (hy : y ≠ 0) (hp : pc + 1 = pc') (hr : Steps tb e below (T.setTop (mkF m pc' Ls (.int (x - (x / y) * y) :: S))) target) : Steps tb e below (T.setTop (mkF m pc Ls (.int y :: .int x :: S))) target := by subst hp; exact XS.irem h hx rfl hd rfl hy hr
theorem own_f_ldiv {tb : Tables} [Ours tb] {e : Env} {below : List Frame} {T target : State} {m : MethodId} {c : Code} {Ls : Array Slot} {S : List Value} {pc pc' : Nat} {x y : Int64} (h : At T m c below) (hx : tb.exec = Jvm.exec) (hd : decode c.code pc = .ok (.ldiv, 1)) (hy : y ≠ 0) (hp : pc + 1 = pc') (hr : Steps tb e below (T.setTop (mkF m pc' Ls (.long (x / y) :: S))) target) : Steps tb e below (T.setTop (mkF m pc Ls (.long y :: .long x :: S))) target := by subst hp; exact XS.ldiv h hx rfl hd rfl hy hr
theorem own_f_lrem {tb : Tables} [Ours tb] {e : Env} {below : List Frame} {T target : State} {m : MethodId} {c : Code} {Ls : Array Slot} {S : List Value} {pc pc' : Nat} {x y : Int64} (h : At T m c below) (hx : tb.exec = Jvm.exec) (hd : decode c.code pc = .ok (.lrem, 1)) (hy : y ≠ 0) (hp : pc + 1 = pc') (hr : Steps tb e below (T.setTop (mkF m pc' Ls (.long (x - (x / y) * y) :: S))) target) : Steps tb e below (T.setTop (mkF m pc Ls (.long y :: .long x :: S))) target := by subst hp; exact XS.lrem h hx rfl hd rfl hy hr
theorem own_f_ineg {tb : Tables} [Ours tb] {e : Env} {below : List Frame} {T target : State} {m : MethodId} {c : Code} {Ls : Array Slot} {S : List Value} {pc pc' : Nat} {x : Int32} (h : At T m c below) (hx : tb.exec = Jvm.exec) (hd : decode c.code pc = .ok (.ineg, 1)) (hp : pc + 1 = pc') (hr : Steps tb e below (T.setTop (mkF m pc' Ls (.int (-x) :: S))) target) : Steps tb e below (T.setTop (mkF m pc Ls (.int x :: S))) target := by subst hp; exact XS.ineg h hx rfl hd rfl hr
theorem own_f_lneg {tb : Tables} [Ours tb] {e : Env} {below : List Frame} {T target : State} {m : MethodId} {c : Code} {Ls : Array Slot} {S : List Value} {pc pc' : Nat} {x : Int64} (h : At T m c below) (hx : tb.exec = Jvm.exec) (hd : decode c.code pc = .ok (.lneg, 1)) (hp : pc + 1 = pc') (hr : Steps tb e below (T.setTop (mkF m pc' Ls (.long (-x) :: S))) target) : Steps tb e below (T.setTop (mkF m pc Ls (.long x :: S))) target := by subst hp; exact XS.lneg h hx rfl hd rfl hr
theorem own_f_i2l {tb : Tables} [Ours tb] {e : Env} {below : List Frame} {T target : State} {m : MethodId} {c : Code} {Ls : Array Slot} {S : List Value} {pc pc' : Nat} {x : Int32} (h : At T m c below) (hx : tb.exec = Jvm.exec) (hd : decode c.code pc = .ok (.i2l, 1)) (hp : pc + 1 = pc') (hr : Steps tb e below (T.setTop (mkF m pc' Ls (.long (x.toInt64) :: S))) target) : Steps tb e below (T.setTop (mkF m pc Ls (.int x :: S))) target := by subst hp; exact XS.i2l h hx rfl hd rfl hr
theorem own_f_l2i {tb : Tables} [Ours tb] {e : Env} {below : List Frame} {T target : State} {m : MethodId} {c : Code} {Ls : Array Slot} {S : List Value} {pc pc' : Nat} {x : Int64} (h : At T m c below) (hx : tb.exec = Jvm.exec) (hd : decode c.code pc = .ok (.l2i, 1)) (hp : pc + 1 = pc') (hr : Steps tb e below (T.setTop (mkF m pc' Ls (.int (x.toInt32) :: S))) target) : Steps tb e below (T.setTop (mkF m pc Ls (.long x :: S))) target := by subst hp; exact XS.l2i h hx rfl hd rfl hr
theorem own_f_i2b {tb : Tables} [Ours tb] {e : Env} {below : List Frame} {T target : State} {m : MethodId} {c : Code} {Ls : Array Slot} {S : List Value} {pc pc' : Nat} {x : Int32} (h : At T m c below) (hx : tb.exec = Jvm.exec) (hd : decode c.code pc = .ok (.i2b, 1)) (hp : pc + 1 = pc') (hr : Steps tb e below (T.setTop (mkF m pc' Ls (.int (x.toInt8.toInt32) :: S))) target) : Steps tb e below (T.setTop (mkF m pc Ls (.int x :: S))) target := by subst hp; exact XS.i2b h hx rfl hd rfl hr
theorem own_f_i2s {tb : Tables} [Ours tb] {e : Env} {below : List Frame} {T target : State} {m : MethodId} {c : Code} {Ls : Array Slot} {S : List Value} {pc pc' : Nat} {x : Int32} (h : At T m c below) (hx : tb.exec = Jvm.exec) (hd : decode c.code pc = .ok (.i2s, 1)) (hp : pc + 1 = pc') (hr : Steps tb e below (T.setTop (mkF m pc' Ls (.int (x.toInt16.toInt32) :: S))) target) : Steps tb e below (T.setTop (mkF m pc Ls (.int x :: S))) target := by subst hp; exact XS.i2s h hx rfl hd rfl hr
theorem own_f_i2c {tb : Tables} [Ours tb] {e : Env} {below : List Frame} {T target : State} {m : MethodId} {c : Code} {Ls : Array Slot} {S : List Value} {pc pc' : Nat} {x : Int32} (h : At T m c below) (hx : tb.exec = Jvm.exec) (hd : decode c.code pc = .ok (.i2c, 1)) (hp : pc + 1 = pc') (hr : Steps tb e below (T.setTop (mkF m pc' Ls (.int (x.toUInt32.toUInt16.toUInt32.toInt32) :: S))) target) : Steps tb e below (T.setTop (mkF m pc Ls (.int x :: S))) target := by subst hp; exact XS.i2c h hx rfl hd rfl hr
theorem own_f_lcmp {tb : Tables} [Ours tb] {e : Env} {below : List Frame} {T target : State} {m : MethodId} {c : Code} {Ls : Array Slot} {S : List Value} {pc pc' : Nat} {x y : Int64} (h : At T m c below) (hx : tb.exec = Jvm.exec) (hd : decode c.code pc = .ok (.lcmp, 1)) (hp : pc + 1 = pc') (hr : Steps tb e below (T.setTop (mkF m pc' Ls (.int (lcmpW x y) :: S))) target) : Steps tb e below (T.setTop (mkF m pc Ls (.long y :: .long x :: S))) target := by subst hp; exact XS.lcmp h hx rfl hd rfl hr
theorem own_f_i2d {tb : Tables} [Ours tb] {e : Env} {below : List Frame} {T target : State} {m : MethodId} {c : Code} {Ls : Array Slot} {S : List Value} {pc pc' : Nat} {x : Int32} {v : UInt64} (h : At T m c below) (hx : tb.exec = Jvm.exec) (hd : decode c.code pc = .ok (.i2d, 1)) (hv : FP.i2d x = v) (hp : pc + 1 = pc') (hr : Steps tb e below (T.setTop (mkF m pc' Ls (.double v :: S))) target) : Steps tb e below (T.setTop (mkF m pc Ls (.int x :: S))) target := by subst hp; exact XS.i2dS h hx rfl hd rfl hv hr
theorem own_f_l2d {tb : Tables} [Ours tb] {e : Env} {below : List Frame} {T target : State} {m : MethodId} {c : Code} {Ls : Array Slot} {S : List Value} {pc pc' : Nat} {x : Int64} {v : UInt64} (h : At T m c below) (hx : tb.exec = Jvm.exec) (hd : decode c.code pc = .ok (.l2d, 1)) (hv : FP.l2d x = v) (hp : pc + 1 = pc') (hr : Steps tb e below (T.setTop (mkF m pc' Ls (.double v :: S))) target) : Steps tb e below (T.setTop (mkF m pc Ls (.long x :: S))) target := by subst hp; exact XS.l2dS h hx rfl hd rfl hv hr
theorem own_f_d2i {tb : Tables} [Ours tb] {e : Env} {below : List Frame} {T target : State} {m : MethodId} {c : Code} {Ls : Array Slot} {S : List Value} {pc pc' : Nat} {x : UInt64} {v : Int32} (h : At T m c below) (hx : tb.exec = Jvm.exec) (hd : decode c.code pc = .ok (.d2i, 1)) (hv : FP.d2i x = v) (hp : pc + 1 = pc') (hr : Steps tb e below (T.setTop (mkF m pc' Ls (.int v :: S))) target) : Steps tb e below (T.setTop (mkF m pc Ls (.double x :: S))) target := by subst hp; exact XS.d2iS h hx rfl hd rfl hv hr
theorem own_f_d2l {tb : Tables} [Ours tb] {e : Env} {below : List Frame} {T target : State} {m : MethodId} {c : Code} {Ls : Array Slot} {S : List Value} {pc pc' : Nat} {x : UInt64} {v : Int64} (h : At T m c below) (hx : tb.exec = Jvm.exec) (hd : decode c.code pc = .ok (.d2l, 1)) (hv : FP.d2l x = v) (hp : pc + 1 = pc') (hr : Steps tb e below (T.setTop (mkF m pc' Ls (.long v :: S))) target) : Steps tb e below (T.setTop (mkF m pc Ls (.double x :: S))) target := by subst hp; exact XS.d2lS h hx rfl hd rfl hv hr
theorem own_f_dneg {tb : Tables} [Ours tb] {e : Env} {below : List Frame} {T target : State} {m : MethodId} {c : Code} {Ls : Array Slot} {S : List Value} {pc pc' : Nat} {x : UInt64} {v : UInt64} (h : At T m c below) (hx : tb.exec = Jvm.exec) (hd : decode c.code pc = .ok (.dneg, 1)) (hv : FP.dneg x = v) (hp : pc + 1 = pc') (hr : Steps tb e below (T.setTop (mkF m pc' Ls (.double v :: S))) target) : Steps tb e below (T.setTop (mkF m pc Ls (.double x :: S))) target := by subst hp; exact XS.dnegS h hx rfl hd rfl hv hr
theorem own_f_dadd {tb : Tables} [Ours tb] {e : Env} {below : List Frame} {T target : State} {m : MethodId} {c : Code} {Ls : Array Slot} {S : List Value} {pc pc' : Nat} {x y v : UInt64} (h : At T m c below) (hx : tb.exec = Jvm.exec) (hd : decode c.code pc = .ok (.dadd, 1)) (hn : Jvm.Free.Fl.NoNaN64 (FP.dadd x y)) (hv : FP.dadd x y = v) (hp : pc + 1 = pc') (hr : Steps tb e below (T.setTop (mkF m pc' Ls (.double v :: S))) target) : Steps tb e below (T.setTop (mkF m pc Ls (.double y :: .double x :: S))) target := by subst hp; exact XS.daddS h hx rfl hd rfl hn hv hr
theorem own_f_dsub {tb : Tables} [Ours tb] {e : Env} {below : List Frame} {T target : State} {m : MethodId} {c : Code} {Ls : Array Slot} {S : List Value} {pc pc' : Nat} {x y v : UInt64} (h : At T m c below) (hx : tb.exec = Jvm.exec) (hd : decode c.code pc = .ok (.dsub, 1)) (hn : Jvm.Free.Fl.NoNaN64 (FP.dsub x y)) (hv : FP.dsub x y = v) (hp : pc + 1 = pc') (hr : Steps tb e below (T.setTop (mkF m pc' Ls (.double v :: S))) target) : Steps tb e below (T.setTop (mkF m pc Ls (.double y :: .double x :: S))) target := by subst hp; exact XS.dsubS h hx rfl hd rfl hn hv hr
theorem own_f_dmul {tb : Tables} [Ours tb] {e : Env} {below : List Frame} {T target : State} {m : MethodId} {c : Code} {Ls : Array Slot} {S : List Value} {pc pc' : Nat} {x y v : UInt64} (h : At T m c below) (hx : tb.exec = Jvm.exec) (hd : decode c.code pc = .ok (.dmul, 1)) (hn : Jvm.Free.Fl.NoNaN64 (FP.dmul x y)) (hv : FP.dmul x y = v) (hp : pc + 1 = pc') (hr : Steps tb e below (T.setTop (mkF m pc' Ls (.double v :: S))) target) : Steps tb e below (T.setTop (mkF m pc Ls (.double y :: .double x :: S))) target := by subst hp; exact XS.dmulS h hx rfl hd rfl hn hv hr
theorem own_f_ddiv {tb : Tables} [Ours tb] {e : Env} {below : List Frame} {T target : State} {m : MethodId} {c : Code} {Ls : Array Slot} {S : List Value} {pc pc' : Nat} {x y v : UInt64} (h : At T m c below) (hx : tb.exec = Jvm.exec) (hd : decode c.code pc = .ok (.ddiv, 1)) (hn : Jvm.Free.Fl.NoNaN64 (FP.ddiv x y)) (hv : FP.ddiv x y = v) (hp : pc + 1 = pc') (hr : Steps tb e below (T.setTop (mkF m pc' Ls (.double v :: S))) target) : Steps tb e below (T.setTop (mkF m pc Ls (.double y :: .double x :: S))) target := by subst hp; exact XS.ddivS h hx rfl hd rfl hn hv hr
theorem own_f_dcmp {tb : Tables} [Ours tb] {e : Env} {below : List Frame} {T target : State} {m : MethodId} {c : Code} {Ls : Array Slot} {S : List Value} {pc pc' : Nat} {o : CmpOp} {x y : UInt64} {v : Int32} (h : At T m c below) (hx : tb.exec = Jvm.exec) (hd : decode c.code pc = .ok (.dcmp o, 1)) (hv : cmpValue (FP.dcmp x y) o = v) (hp : pc + 1 = pc') (hr : Steps tb e below (T.setTop (mkF m pc' Ls (.int v :: S))) target) : Steps tb e below (T.setTop (mkF m pc Ls (.double y :: .double x :: S))) target := by subst hp; exact XS.dcmpS h hx rfl hd rfl hv hr
theorem own_f_iinc {tb : Tables} [Ours tb] {e : Env} {below : List Frame} {T target : State} {m : MethodId} {c : Code} {Ls : Array Slot} {S : List Value} {pc pc' : Nat} {k : Nat} {cst : Int} {x : Int32} {Ls' : Array Slot} (h : At T m c below) (hx : tb.exec = Jvm.exec) (hd : decode c.code pc = .ok (.iinc k cst, 3)) (hl : Ls[k]? = some (.val (.int x))) (hl' : storeLocals Ls k (.int (x + Int32.ofInt cst)) = some Ls') (hp : pc + 3 = pc') (hr : Steps tb e below (T.setTop (mkF m pc' Ls' (S))) target) : Steps tb e below (T.setTop (mkF m pc Ls (S))) target := by subst hp; exact XS.iinc h hx rfl hd hl hl' hr
theorem own_f_dup {tb : Tables} [Ours tb] {e : Env} {below : List Frame} {T target : State} {m : MethodId} {c : Code} {Ls : Array Slot} {S : List Value} {pc pc' : Nat} {v : Value} (h : At T m c below) (hx : tb.exec = Jvm.exec) (hd : decode c.code pc = .ok (.dup, 1)) (hc : v.category = 1) (hp : pc + 1 = pc') (hr : Steps tb e below (T.setTop (mkF m pc' Ls (v :: v :: S))) target) : Steps tb e below (T.setTop (mkF m pc Ls (v :: S))) target := by subst hp; exact XS.dup h hx rfl hd rfl hc hr
theorem own_f_dupX1 {tb : Tables} [Ours tb] {e : Env} {below : List Frame} {T target : State} {m : MethodId} {c : Code} {Ls : Array Slot} {S : List Value} {pc pc' : Nat} {x y : Value} (h : At T m c below) (hx : tb.exec = Jvm.exec) (hd : decode c.code pc = .ok (.dup_x1, 1)) (hc : x.category = 1) (hc' : y.category = 1) (hp : pc + 1 = pc') (hr : Steps tb e below (T.setTop (mkF m pc' Ls (x :: y :: x :: S))) target) : Steps tb e below (T.setTop (mkF m pc Ls (x :: y :: S))) target := by subst hp; exact XS.dupX1 h hx rfl hd rfl hc hc' hr
theorem own_f_pop {tb : Tables} [Ours tb] {e : Env} {below : List Frame} {T target : State} {m : MethodId} {c : Code} {Ls : Array Slot} {S : List Value} {pc pc' : Nat} {x : Value} (h : At T m c below) (hx : tb.exec = Jvm.exec) (hd : decode c.code pc = .ok (.pop, 1)) (hc : x.category = 1) (hp : pc + 1 = pc') (hr : Steps tb e below (T.setTop (mkF m pc' Ls (S))) target) : Steps tb e below (T.setTop (mkF m pc Ls (x :: S))) target := by subst hp; exact XS.pop h hx rfl hd rfl hc hr
theorem own_f_goto {tb : Tables} [Ours tb] {e : Env} {below : List Frame} {T target : State} {m : MethodId} {c : Code} {Ls : Array Slot} {S : List Value} {pc pc' : Nat} {o : Int} (h : At T m c below) (hx : tb.exec = Jvm.exec) (hd : decode c.code pc = .ok (.goto o, 3)) (ho : 0 ≤ (pc : Int) + o) (hp : ((pc : Int) + o).toNat = pc') (hr : Steps tb e below (T.setTop (mkF m pc' Ls S)) target) : Steps tb e below (T.setTop (mkF m pc Ls (S))) target := XS.goto h hx rfl rfl hd ho hp hr
theorem own_f_ifYes {tb : Tables} [Ours tb] {e : Env} {below : List Frame} {T target : State} {m : MethodId} {c : Code} {Ls : Array Slot} {S : List Value} {pc pc' : Nat} {o : Int} {cd : ClassFile.Cond} {x : Int32} (h : At T m c below) (hx : tb.exec = Jvm.exec) (hd : decode c.code pc = .ok (.ifCond cd o, 3)) (hc : ifCond.holds cd x = true) (ho : 0 ≤ (pc : Int) + o) (hp : ((pc : Int) + o).toNat = pc') (hr : Steps tb e below (T.setTop (mkF m pc' Ls S)) target) : Steps tb e below (T.setTop (mkF m pc Ls (.int x :: S))) target := XS.ifYes h hx rfl rfl hd rfl hc ho hp hr
theorem own_f_icmpYes {tb : Tables} [Ours tb] {e : Env} {below : List Frame} {T target : State} {m : MethodId} {c : Code} {Ls : Array Slot} {S : List Value} {pc pc' : Nat} {o : Int} {cd : ClassFile.Cond} {x y : Int32} (h : At T m c below) (hx : tb.exec = Jvm.exec) (hd : decode c.code pc = .ok (.if_icmp cd o, 3)) (hc : if_icmp.holds cd x y = true) (ho : 0 ≤ (pc : Int) + o) (hp : ((pc : Int) + o).toNat = pc') (hr : Steps tb e below (T.setTop (mkF m pc' Ls S)) target) : Steps tb e below (T.setTop (mkF m pc Ls (.int y :: .int x :: S))) target := XS.icmpYes h hx rfl rfl hd rfl hc ho hp hr
theorem own_f_ifNo {tb : Tables} [Ours tb] {e : Env} {below : List Frame} {T target : State} {m : MethodId} {c : Code} {Ls : Array Slot} {S : List Value} {pc pc' : Nat} {o : Int} {cd : ClassFile.Cond} {x : Int32} (h : At T m c below) (hx : tb.exec = Jvm.exec) (hd : decode c.code pc = .ok (.ifCond cd o, 3)) (hc : ifCond.holds cd x = false) (hp : pc + 3 = pc') (hr : Steps tb e below (T.setTop (mkF m pc' Ls (S))) target) : Steps tb e below (T.setTop (mkF m pc Ls (.int x :: S))) target := by subst hp; exact XS.ifNo h hx rfl hd rfl hc hr
theorem own_f_icmpNo {tb : Tables} [Ours tb] {e : Env} {below : List Frame} {T target : State} {m : MethodId} {c : Code} {Ls : Array Slot} {S : List Value} {pc pc' : Nat} {o : Int} {cd : ClassFile.Cond} {x y : Int32} (h : At T m c below) (hx : tb.exec = Jvm.exec) (hd : decode c.code pc = .ok (.if_icmp cd o, 3)) (hc : if_icmp.holds cd x y = false) (hp : pc + 3 = pc') (hr : Steps tb e below (T.setTop (mkF m pc' Ls (S))) target) : Steps tb e below (T.setTop (mkF m pc Ls (.int y :: .int x :: S))) target := by subst hp; exact XS.icmpNo h hx rfl hd rfl hc hr
variable {p : Program} {l : Launch} {e : Env} {R : Room} {s : State} {m : MethodId} {args : Array Value} {below : List Frame} {meth : Method} {c : Code} {T target : State} {locs : List Loc} {cells slots : Nat} {Ls : Array Slot} {S : List Value} {pc pc' : Nat} {own : String} {index : Nat}
theorem own_f_ldcInt (X : Stand p l e R s m args below meth c T locs cells slots) (hx : p.tables.exec = Jvm.exec) {v : Int32} (hown : s.vm.findClass own = some m.cls) (hc : (Jvm.Cond.constant own index v).before args s = true) (hd : decode c.code pc = .ok (.ldc index, 2)) (hp : pc + 2 = pc') (hr : Steps p.tables e below (T.setTop (mkF m pc' Ls (.int v :: S))) target) : Steps p.tables e below (T.setTop (mkF m pc Ls S)) target := by subst hp; exact X.ldcInt hx hown hc (g := mkF m pc Ls S) rfl hd _ hr
theorem own_f_ldcwInt (X : Stand p l e R s m args below meth c T locs cells slots) (hx : p.tables.exec = Jvm.exec) {v : Int32} (hown : s.vm.findClass own = some m.cls) (hc : (Jvm.Cond.constant own index v).before args s = true) (hd : decode c.code pc = .ok (.ldc_w index, 3)) (hp : pc + 3 = pc') (hr : Steps p.tables e below (T.setTop (mkF m pc' Ls (.int v :: S))) target) : Steps p.tables e below (T.setTop (mkF m pc Ls S)) target := by subst hp; exact X.ldcwInt hx hown hc (g := mkF m pc Ls S) rfl hd _ hr
theorem own_f_ldc2Long (X : Stand p l e R s m args below meth c T locs cells slots) (hx : p.tables.exec = Jvm.exec) {v : Int64} (hown : s.vm.findClass own = some m.cls) (hc : (Jvm.Cond.constantLong own index v).before args s = true) (hd : decode c.code pc = .ok (.ldc2_w index, 3)) (hp : pc + 3 = pc') (hr : Steps p.tables e below (T.setTop (mkF m pc' Ls (.long v :: S))) target) : Steps p.tables e below (T.setTop (mkF m pc Ls S)) target := by subst hp; exact X.ldc2Long hx hown hc (g := mkF m pc Ls S) rfl hd _ hr
theorem own_f_ldc2DoubleC (X : Stand p l e R s m args below meth c T locs cells slots) (hx : p.tables.exec = Jvm.exec) {v : UInt64} (hown : s.vm.findClass own = some m.cls) (hc : (Jvm.Cond.constantDouble own index v).before args s = true) (hd : decode c.code pc = .ok (.ldc2_w index, 3)) (hp : pc + 3 = pc') (hr : Steps p.tables e below (T.setTop (mkF m pc' Ls (.double v :: S))) target) : Steps p.tables e below (T.setTop (mkF m pc Ls S)) target := by subst hp; exact X.ldc2DoubleC hx hown hc (g := mkF m pc Ls S) rfl hd _ hr
end OwnSteps
section OwnFloat
open Jvm.FP.Core
/-! a double as n * 2^(j - 1074) -/
def own_Rep (x : UInt64) (n : Int) (j : Nat) : Prop := DFin x ∧ zval b64 (val64 x) = n * ((2 ^ j : Nat) : Int)
theorem own_cancel {P Q u v : Nat} (h : P * 2 ^ u = Q * 2 ^ v) : P * 2 ^ (u - v) = Q * 2 ^ (v - u) := by
  rcases Nat.le_total u v with q | q
  · obtain ⟨d, rfl⟩ := Nat.exists_eq_add_of_le q
    rw [show u - (u + d) = 0 by omega, show u + d - u = d by omega]
    refine Nat.eq_of_mul_eq_mul_right (Nat.two_pow_pos u) ?_
    rw [Nat.pow_zero, Nat.mul_one, h, Nat.pow_add]; ac_rfl
  · obtain ⟨d, rfl⟩ := Nat.exists_eq_add_of_le q
    rw [show v - (v + d) = 0 by omega, show v + d - v = d by omega]
    refine Nat.eq_of_mul_eq_mul_right (Nat.two_pow_pos v) ?_
    rw [Nat.pow_zero, Nat.mul_one, ← h, Nat.pow_add]; ac_rfl
theorem own_qmax : b64.qmax = 971 := by decide
theorem own_natAbs_pow (n : Int) (j : Nat) : (n * ((2 ^ j : Nat) : Int)).natAbs = n.natAbs * 2 ^ j := by
  rw [Int.natAbs_mul, Int.natAbs_natCast]
theorem own_rr_exact {s : Bool} {A B M j u v : Nat} {e : Int} (hB : 0 < B) (hM : M < 2 ^ 53) (hj : j ≤ 2045) (h : A * 2 ^ u = M * B * 2 ^ v) (hu : (u : Int) - v = e - ((j : Int) - 1074)) :
    ∃ c q, roundRatio b64 s A B e = .fin s c q ∧ inUnits c q b64.qmin = M * 2 ^ j := by
  have h1 := own_cancel h
  rw [roundRatio_congr (A' := M) (B' := 1) (e' := (j : Int) - 1074) hB (by decide) (by rw [Nat.mul_one, show (e - ((j : Int) - 1074)).toNat = u - v by omega, show (((j : Int) - 1074) - e).toNat = v - u by omega]; exact h1)]
  have hp : b64.p = 53 := rfl
  obtain ⟨c, q, h3, h4⟩ := round_exact good_b64 s (c := M) (q := (j : Int) - 1074) (by rw [hp]; exact hM) (by rw [qmin_b64]; omega) (by rw [own_qmax]; omega)
  refine ⟨c, q, h3, ?_⟩
  rw [h4]; unfold inUnits; rw [qmin_b64, show ((j : Int) - 1074 - -1074).toNat = j by omega]
theorem own_round {z : UInt64} {sg : Bool} {N : Nat} {e n : Int} {j : Nat} (hv : val64 z = round b64 (.fin sg N e)) (h2 : b64.qmin ≤ e) (hs : n.natAbs < 2 ^ 53) (hj : j ≤ 2045)
    (h3 : signed sg (inUnits N e b64.qmin) = n * ((2 ^ j : Nat) : Int)) : own_Rep z n j := by
  have h4 : inUnits N e b64.qmin = n.natAbs * 2 ^ j := by
    have := congrArg Int.natAbs h3
    rwa [natAbs_signed, own_natAbs_pow] at this
  rw [qmin_b64] at h2
  have h5 : N * 2 ^ (e + 1074).toNat = n.natAbs * 1 * 2 ^ j := by
    rw [Nat.mul_one, ← h4]; unfold inUnits; rw [qmin_b64, show (e - -1074).toNat = (e + 1074).toNat by omega]
  obtain ⟨c, q, h6, h7⟩ := own_rr_exact (s := sg) (A := N) (B := 1) (e := e) (by decide) hs hj h5 (by omega)
  have h8 : val64 z = .fin sg c q := hv.trans h6
  refine ⟨⟨sg, c, q, h8⟩, ?_⟩
  rw [h8]
  show signed sg (inUnits c q b64.qmin) = _
  rw [h7, ← h4]; exact h3
theorem own_add {x y : UInt64} {n m : Int} {j : Nat} (hx : own_Rep x n j) (hy : own_Rep y m j) (hs : (n + m).natAbs < 2 ^ 53) (hj : j ≤ 2045) : own_Rep (dadd x y) (n + m) j := by
  obtain ⟨⟨s, c, q, ex⟩, zx⟩ := hx
  obtain ⟨⟨t, d, r, ey⟩, zy⟩ := hy
  have fx := val64_fits x; have fy := val64_fits y
  rw [ex] at fx zx; rw [ey] at fy zy
  obtain ⟨sg, N, e, h1, h2, h3⟩ := sum_units fx fy
  have hv : val64 (dadd x y) = round b64 (.fin sg N e) := by rw [val64_dadd, ex, ey, h1]
  rw [zx, zy, ← Int.add_mul] at h3
  exact own_round hv h2 hs hj h3
theorem own_sub {x y : UInt64} {n m : Int} {j : Nat} (hx : own_Rep x n j) (hy : own_Rep y m j) (hs : (n - m).natAbs < 2 ^ 53) (hj : j ≤ 2045) : own_Rep (dsub x y) (n - m) j := by
  obtain ⟨⟨s, c, q, ex⟩, zx⟩ := hx
  obtain ⟨⟨t, d, r, ey⟩, zy⟩ := hy
  have fx := val64_fits x; have fy := negate_fits (val64_fits y)
  have zy2 := zval_negate b64 (val64 y)
  rw [ex] at fx zx; rw [ey] at fy zy zy2
  rw [zy] at zy2
  obtain ⟨sg, N, e, h1, h2, h3⟩ := sum_units fx fy
  have hv : val64 (dsub x y) = round b64 (.fin sg N e) := by rw [val64_dsub, ex, ey]; exact congrArg (round b64) h1
  rw [zx, show zval b64 (.fin (!t) d r) = -(m * ((2 ^ j : Nat) : Int)) from zy2, ← Int.sub_eq_add_neg, ← Int.sub_mul] at h3
  exact own_round hv h2 hs hj h3
theorem own_zmag {x : UInt64} {n : Int} {j : Nat} (hx : own_Rep x n j) : zmag b64 (val64 x) = n.natAbs * 2 ^ j := by
  have := congrArg Int.natAbs hx.2
  rwa [zval, natAbs_signed, own_natAbs_pow] at this
theorem own_sgn {x : UInt64} {n : Int} {j : Nat} (hx : own_Rep x n j) (hn : n ≠ 0) : sgn (val64 x) = decide (n < 0) := by
  have h := hx.2
  have h0 := own_zmag hx
  unfold zval at h
  rw [h0] at h
  have hp : (0 : Int) < ((2 ^ j : Nat) : Int) := by exact_mod_cast Nat.two_pow_pos j
  have hq : 0 < n.natAbs * 2 ^ j := Nat.mul_pos (by omega) (Nat.two_pow_pos j)
  cases hS : sgn (val64 x)
  · rw [hS] at h
    simp only [signed, Bool.false_eq_true, if_false] at h
    have : ¬ n < 0 := fun q => by have := Int.mul_neg_of_neg_of_pos q hp; omega
    simp [this]
  · rw [hS] at h
    simp only [signed, if_true] at h
    have : n < 0 := by
      rcases (by omega : n < 0 ∨ 0 ≤ n) with q | q
      · exact q
      · have := Int.mul_nonneg q (Int.le_of_lt hp); omega
    simp [this]
theorem own_mul {x y : UInt64} {n m : Int} {j i k : Nat} (hx : own_Rep x n j) (hy : own_Rep y m i) (hk : k + 1074 = j + i) (hs : (n * m).natAbs < 2 ^ 53) (hk2 : k ≤ 2045) : own_Rep (dmul x y) (n * m) k := by
  have zx := own_zmag hx; have zy := own_zmag hy
  have sx := @own_sgn x n j hx; have sy := @own_sgn y m i hy
  obtain ⟨⟨s, c, q, ex⟩, -⟩ := hx
  obtain ⟨⟨t, d, r, ey⟩, -⟩ := hy
  have fx := val64_fits x; have fy := val64_fits y
  rw [ex] at fx zx sx; rw [ey] at fy zy sy
  obtain ⟨h1, h2, h3⟩ := product_units fx fy
  rw [zx, zy, qmin_b64] at h3
  rw [qmin_b64] at h2
  have hv : val64 (dmul x y) = roundRatio b64 (s != t) (c * d) 1 (q + r) := by rw [val64_dmul, ex, ey, h1]; rfl
  have h5 : c * d * 2 ^ (q + r + 2148).toNat = (n * m).natAbs * 1 * 2 ^ (j + i) := by
    have : inUnits (c * d) (q + r) (2 * -1074) = c * d * 2 ^ (q + r + 2148).toNat := by unfold inUnits; rw [show (q + r - 2 * -1074).toNat = (q + r + 2148).toNat by omega]
    rw [← this, h3, Int.natAbs_mul, Nat.pow_add]; ac_rfl
  obtain ⟨c', q', h6, h7⟩ := own_rr_exact (s := s != t) (B := 1) (e := q + r) (by decide) hs hk2 h5 (by omega)
  have h8 : val64 (dmul x y) = .fin (s != t) c' q' := hv.trans h6
  refine ⟨⟨_, _, _, h8⟩, ?_⟩
  rw [h8]
  show signed (s != t) (inUnits c' q' b64.qmin) = _
  rw [h7]
  by_cases hn : n = 0
  · subst hn; simp [signed]
  by_cases hm : m = 0
  · subst hm; simp [signed]
  have sx' : s = decide (n < 0) := sx hn
  have sy' : t = decide (m < 0) := sy hm
  subst sx' sy'
  rw [signed_mul]
  congr 1
  rcases Int.lt_or_gt_of_ne hn with a | a <;> rcases Int.lt_or_gt_of_ne hm with b | b
  · have := Int.mul_pos_of_neg_of_neg a b; simp only [a, b, decide_true, bne_self_eq_false, signed, Bool.false_eq_true, if_false]; omega
  · have := Int.mul_neg_of_neg_of_pos a b; have b' : ¬ m < 0 := by omega
    simp only [a, b', decide_true, decide_false, signed]; simp; omega
  · have := Int.mul_neg_of_pos_of_neg a b; have a' : ¬ n < 0 := by omega
    simp only [a', b, decide_true, decide_false, signed]; simp; omega
  · have := Int.mul_pos a b; have a' : ¬ n < 0 := by omega
    have b' : ¬ m < 0 := by omega
    simp only [a', b', decide_false, bne_self_eq_false, signed, Bool.false_eq_true, if_false]; omega
/-- the quotient, rounded once -/
theorem own_div_val {x y : UInt64} {n m : Int} {j i : Nat} (hx : own_Rep x n j) (hy : own_Rep y m i) (hm : m ≠ 0) :
    ∃ sg, val64 (ddiv x y) = roundRatio b64 sg n.natAbs m.natAbs ((j : Int) - i) ∧ (n ≠ 0 → sg = (decide (n < 0) != decide (m < 0))) := by
  have zx := own_zmag hx; have zy := own_zmag hy
  have sx := @own_sgn x n j hx; have sy := @own_sgn y m i hy
  obtain ⟨⟨s, c, q, ex⟩, -⟩ := hx
  obtain ⟨⟨t, d, r, ey⟩, -⟩ := hy
  have fx := val64_fits x; have fy := val64_fits y
  rw [ex] at fx zx sx; rw [ey] at fy zy sy
  have f1 : b64.qmin ≤ q := fx.2.1
  have f2 : b64.qmin ≤ r := fy.2.1
  rw [qmin_b64] at f1 f2
  have zx' : c * 2 ^ (q + 1074).toNat = n.natAbs * 2 ^ j := by rw [← zx]; show _ = inUnits c q b64.qmin; unfold inUnits; rw [qmin_b64, show (q - -1074).toNat = (q + 1074).toNat by omega]
  have zy' : d * 2 ^ (r + 1074).toNat = m.natAbs * 2 ^ i := by rw [← zy]; show _ = inUnits d r b64.qmin; unfold inUnits; rw [qmin_b64, show (r - -1074).toNat = (r + 1074).toNat by omega]
  have hd : d ≠ 0 := by
    rintro rfl
    rw [Nat.zero_mul] at zy'
    have := Nat.mul_pos (show 0 < m.natAbs by omega) (Nat.two_pow_pos i)
    omega
  refine ⟨s != t, ?_, fun hn => ?_⟩
  · rw [val64_ddiv, ex, ey]
    show (if d = 0 then _ else roundRatio b64 (s != t) c d (q - r)) = _
    rw [if_neg hd]
    have h1 : c * m.natAbs * 2 ^ ((q + 1074).toNat + i) = n.natAbs * d * 2 ^ ((r + 1074).toNat + j) := by
      rw [Nat.pow_add, Nat.pow_add]
      calc c * m.natAbs * (2 ^ (q + 1074).toNat * 2 ^ i) = (c * 2 ^ (q + 1074).toNat) * (m.natAbs * 2 ^ i) := by ac_rfl
        _ = (n.natAbs * 2 ^ j) * (d * 2 ^ (r + 1074).toNat) := by rw [zx', zy']
        _ = _ := by ac_rfl
    have h2 := own_cancel h1
    refine roundRatio_congr (Nat.pos_of_ne_zero hd) (by omega) ?_
    rw [show (q - r - ((j : Int) - i)).toNat = (q + 1074).toNat + i - ((r + 1074).toNat + j) by omega, show (((j : Int) - i) - (q - r)).toNat = (r + 1074).toNat + j - ((q + 1074).toNat + i) by omega]
    exact h2
  · rw [← show s = decide (n < 0) from sx hn, ← show t = decide (m < 0) from sy hm]
theorem own_signed_bne {n m : Int} (hn : n ≠ 0) (hm : m ≠ 0) {a : Int} (h : n = a * m) : signed (decide (n < 0) != decide (m < 0)) a.natAbs = a := by
  rcases Int.lt_or_gt_of_ne hn with p | p <;> rcases Int.lt_or_gt_of_ne hm with b | b
  · have : 0 ≤ a := by rcases (by omega : a < 0 ∨ 0 ≤ a) with q | q; (have := Int.mul_pos_of_neg_of_neg q b; omega); exact q
    simp only [p, b, decide_true, bne_self_eq_false, signed, Bool.false_eq_true, if_false]; omega
  · have : a < 0 := by rcases (by omega : a < 0 ∨ 0 ≤ a) with q | q; exact q; (have := Int.mul_nonneg q (Int.le_of_lt b); omega)
    have b' : ¬ m < 0 := by omega
    simp only [p, b', decide_true, decide_false, signed]; simp; omega
  · have : a < 0 := by rcases (by omega : a < 0 ∨ 0 ≤ a) with q | q; exact q; (have := Int.mul_nonpos_of_nonneg_of_nonpos q (Int.le_of_lt b); omega)
    have p' : ¬ n < 0 := by omega
    simp only [p', b, decide_true, decide_false, signed]; simp; omega
  · have : 0 ≤ a := by rcases (by omega : a < 0 ∨ 0 ≤ a) with q | q; (have := Int.mul_neg_of_neg_of_pos q b; omega); exact q
    have p' : ¬ n < 0 := by omega
    have b' : ¬ m < 0 := by omega
    simp only [p', b', decide_false, bne_self_eq_false, signed, Bool.false_eq_true, if_false]; omega
theorem own_div {x y : UInt64} {a m : Int} {j i k : Nat} (hx : own_Rep x (a * m) j) (hy : own_Rep y m i) (hm : m ≠ 0) (hk : k + i = j + 1074) (ha : a.natAbs < 2 ^ 53) (hk2 : k ≤ 2045) : own_Rep (ddiv x y) a k := by
  obtain ⟨sg, h1, h2⟩ := own_div_val hx hy hm
  have h3 : (a * m).natAbs * 2 ^ j = a.natAbs * m.natAbs * 2 ^ j := by rw [Int.natAbs_mul]
  obtain ⟨c, q, h4, h5⟩ := own_rr_exact (s := sg) (A := (a * m).natAbs) (B := m.natAbs) (e := (j : Int) - i) (M := a.natAbs) (j := k) (by omega) ha hk2 h3 (by omega)
  have h6 : val64 (ddiv x y) = .fin sg c q := h1.trans h4
  refine ⟨⟨_, _, _, h6⟩, ?_⟩
  rw [h6]
  show signed sg (inUnits c q b64.qmin) = _
  rw [h5, signed_mul]
  by_cases h0 : a = 0
  · subst h0; cases sg <;> simp [signed]
  · have hne : a * m ≠ 0 := Int.mul_ne_zero h0 hm
    rw [h2 hne, own_signed_bne hne hm rfl]
theorem own_ne_nan {x : UInt64} {n : Int} {j : Nat} (hx : own_Rep x n j) : val64 x ≠ .nan := hx.1.ne_nan
theorem own_cmp {x y : UInt64} {n m : Int} {j : Nat} (hx : own_Rep x n j) (hy : own_Rep y m j) : dcmp x y = some (compare n m) := by
  rw [dcmp_zval (own_ne_nan hx) (own_ne_nan hy), hx.2, hy.2]
  refine congrArg some ?_
  have hp : (0 : Int) < ((2 ^ j : Nat) : Int) := by exact_mod_cast Nat.two_pow_pos j
  exact compare_congr (Int.mul_lt_mul_right hp) (Int.mul_eq_mul_right_iff (by omega))
theorem own_cmp_eq {x y : UInt64} {n : Int} {j : Nat} {o : Jvm.ClassFile.CmpOp} (hx : own_Rep x n j) (hy : own_Rep y n j) : Jvm.Op.cmpValue (Jvm.FP.dcmp x y) o = (0 : Int32) := by
  rw [show Jvm.FP.dcmp x y = some .eq from (own_cmp hx hy).trans (by rw [(compare_eq_iff _ _).mpr rfl])]; rfl
theorem own_l2d {a : Int64} (h1 : -9007199254740992 < a.toInt) (h2 : a.toInt < 9007199254740992) : own_Rep (l2d a) a.toInt 1074 :=
  ⟨l2d_fin a, DInt_zval (l2d_whole ⟨h1, h2⟩)⟩
theorem own_i2d (a : Int32) : own_Rep (i2d a) a.toInt 1074 := by
  have h1 := a.le_toInt; have h2 := a.toInt_lt
  have := @own_l2d a.toInt64 (by rw [Int32.toInt_toInt64]; omega) (by rw [Int32.toInt_toInt64]; omega)
  rwa [← i2d_l2d, Int32.toInt_toInt64] at this
theorem own_shift {x : UInt64} {n : Int} {j i k : Nat} (hx : own_Rep x n j) (hk : k + i = j) : own_Rep x (n * ((2 ^ i : Nat) : Int)) k := by
  refine ⟨hx.1, ?_⟩
  rw [hx.2, ← hk, Nat.pow_add, Int.natCast_mul]; ac_rfl
theorem own_noNaN {x : UInt64} {n : Int} {j : Nat} (hx : own_Rep x n j) : Jvm.Free.Fl.NoNaN64 x := (Jvm.Free.Fl.fin64_core.mpr hx.1).noNaN
theorem own_fin {x : UInt64} {n : Int} {j : Nat} (hx : own_Rep x n j) : Jvm.Free.Fl.Fin64 x := Jvm.Free.Fl.fin64_core.mpr hx.1
/-- a rounded magnitude against a number of the format -/
theorem own_rr_ge {s : Bool} {A B v j E : Nat} {e : Int} (hB : 0 < B) (hv : v < 2 ^ 53) (hj : j ≤ 2045) (he : e + 1074 = (E : Int)) (h : v * 2 ^ j * B ≤ A * 2 ^ E) : v * 2 ^ j ≤ zmag b64 (roundRatio b64 s A B e) := by
  obtain ⟨c, q, h1, h2⟩ := own_rr_exact (s := false) (A := v) (B := 1) (M := v) (j := j) (u := 0) (v := 0) (e := (j : Int) - 1074) (by decide) hv hj (by simp) (by omega)
  have hf : Jvm.FP.Core.fits b64 (Datum.fin false c q) := h1 ▸ roundRatio_fits good_b64 false v (by decide) _
  have := zmag_roundRatio_ge good_b64 (s := s) (A := A) (B := B) (e := e) (e0 := b64.qmin) hB hf (Int.le_refl _) (by rw [qmin_b64]; omega) (by
    show inUnits c q b64.qmin * _ * B ≤ inUnits A e b64.qmin
    rw [h2, Int.sub_self]; unfold inUnits; rw [qmin_b64, show (e - -1074).toNat = E by omega]; simpa using h)
  exact h2 ▸ this
theorem own_rr_le {s : Bool} {A B v j E : Nat} {e : Int} (hB : 0 < B) (hv : v < 2 ^ 53) (hj : j ≤ 2045) (he : e + 1074 = (E : Int)) (h : A * 2 ^ E ≤ v * 2 ^ j * B) : zmag b64 (roundRatio b64 s A B e) ≤ v * 2 ^ j := by
  obtain ⟨c, q, h1, h2⟩ := own_rr_exact (s := false) (A := v) (B := 1) (M := v) (j := j) (u := 0) (v := 0) (e := (j : Int) - 1074) (by decide) hv hj (by simp) (by omega)
  have hf : Jvm.FP.Core.fits b64 (Datum.fin false c q) := h1 ▸ roundRatio_fits good_b64 false v (by decide) _
  have := zmag_roundRatio_le good_b64 (s := s) (A := A) (B := B) (e := e) (e0 := b64.qmin) hB hf Datum.noConfusion (Int.le_refl _) (by rw [qmin_b64]; omega) (by
    show inUnits A e b64.qmin ≤ inUnits c q b64.qmin * _ * B
    rw [h2, Int.sub_self]; unfold inUnits; rw [qmin_b64, show (e - -1074).toNat = E by omega]; simpa using h)
  exact h2 ▸ this
end OwnFloat
section OwnFloat2
open Jvm.FP.Core
theorem own_neg {x : UInt64} {n : Int} {j : Nat} (hx : own_Rep x n j) : own_Rep (dneg x) (-n) j := by
  obtain ⟨⟨s, c, q, ex⟩, zx⟩ := hx
  refine ⟨⟨!s, c, q, by rw [val64_dneg, ex]; rfl⟩, ?_⟩
  rw [val64_dneg, zval_negate, zx, Int.neg_mul]
theorem own_zeroJ (j : Nat) : own_Rep 0 0 j := ⟨⟨false, 0, b64.qmin, val64_zero⟩, by rw [zval64_zero, Int.zero_mul]⟩
theorem own_abs {x : UInt64} {n : Int} {j : Nat} (hx : own_Rep x n j) : own_Rep (x &&& 0x7fffffffffffffff) ((n.natAbs : Nat) : Int) j := by
  have h := own_cmp hx (own_zeroJ j)
  rcases Int.lt_trichotomy n 0 with a | a | a
  · rw [(compare_lt_iff _ _).mpr a] at h
    rw [Jvm.FP.Core.abs_neg h, show ((n.natAbs : Nat) : Int) = -n by omega]; exact own_neg hx
  · rw [(compare_eq_iff _ _).mpr a] at h
    rw [Jvm.FP.Core.abs_zero h, a]; exact own_zeroJ j
  · rw [(compare_gt_iff _ _).mpr a] at h
    rw [Jvm.FP.Core.abs_pos h, show ((n.natAbs : Nat) : Int) = n by omega]; exact hx
theorem own_pick {x y : UInt64} {n m : Int} {j : Nat} (hx : own_Rep x n j) (hy : own_Rep y m j) : own_Rep (Jvm.Native.java_lang_Math.nans.pick64 true x y) (if n < m then m else n) j := by
  have h := own_cmp hx hy
  rcases Int.lt_trichotomy n m with a | a | a
  · rw [(compare_lt_iff _ _).mpr a] at h
    rw [if_pos a, show Jvm.Native.java_lang_Math.nans.pick64 true x y = y by unfold Jvm.Native.java_lang_Math.nans.pick64; rw [show Jvm.FP.dcmp x y = some .lt from h]; rfl]; exact hy
  · rw [if_neg (by omega)]
    rcases Jvm.Free.Fl.pick64_or true x y with z | z
    · rw [z]; exact hx
    · rw [z, a]; exact hy
  · rw [(compare_gt_iff _ _).mpr a] at h
    rw [if_neg (by omega), show Jvm.Native.java_lang_Math.nans.pick64 true x y = x by unfold Jvm.Native.java_lang_Math.nans.pick64; rw [show Jvm.FP.dcmp x y = some .gt from h]; rfl]; exact hx
/-- a number of the format as a datum -/
theorem own_datum (v : Int) (i : Nat) (hv : v.natAbs < 2 ^ 53) (hi : i ≤ 2045) : ∃ V, Jvm.FP.Core.fits b64 V ∧ V ≠ .nan ∧ zval b64 V = v * ((2 ^ i : Nat) : Int) := by
  obtain ⟨c, q, h1, h2⟩ := own_rr_exact (s := decide (v < 0)) (A := v.natAbs) (B := 1) (M := v.natAbs) (j := i) (u := 0) (v := 0) (e := (i : Int) - 1074) (by decide) hv hi (by simp) (by omega)
  refine ⟨.fin (decide (v < 0)) c q, h1 ▸ roundRatio_fits good_b64 _ _ (by decide) _, Datum.noConfusion, ?_⟩
  show signed (decide (v < 0)) (inUnits c q b64.qmin) = _
  rw [h2, signed_mul]
  congr 1
  by_cases h : v < 0
  · simp only [h, decide_true, signed, if_true]; omega
  · simp only [h, decide_false, signed, Bool.false_eq_true, if_false]; omega
theorem own_dadd_nn {x y : UInt64} {n m : Int} {j i : Nat} (hx : own_Rep x n j) (hy : own_Rep y m i) : val64 (dadd x y) ≠ .nan := by
  obtain ⟨⟨s, c, q, ex⟩, zx⟩ := hx
  obtain ⟨⟨t, d, r, ey⟩, zy⟩ := hy
  rw [val64_dadd, ex, ey]
  exact roundRatio_ne_nan _ _ _ _ _
theorem own_dadd_le {x y : UInt64} {n m v : Int} {j i : Nat} (hx : own_Rep x n j) (hy : own_Rep y m j) (hv : v.natAbs < 2 ^ 53) (hi : i ≤ 2045) (h : (n + m) * ((2 ^ j : Nat) : Int) ≤ v * ((2 ^ i : Nat) : Int)) : zval b64 (val64 (dadd x y)) ≤ v * ((2 ^ i : Nat) : Int) := by
  obtain ⟨V, h1, h2, h3⟩ := own_datum v i hv hi
  obtain ⟨⟨s, c, q, ex⟩, zx⟩ := hx
  obtain ⟨⟨t, d, r, ey⟩, zy⟩ := hy
  have fx := val64_fits x; have fy := val64_fits y
  rw [ex] at fx zx; rw [ey] at fy zy
  obtain ⟨sg, N, e, k1, k2, k3⟩ := sum_units fx fy
  rw [val64_dadd, ex, ey, k1, ← h3]
  refine zval_round_le good_b64 h1 h2 (Int.le_refl _) k2 ?_
  rw [k3, zx, zy, ← Int.add_mul, h3, Int.sub_self]
  simpa using h
theorem own_dadd_ge {x y : UInt64} {n m v : Int} {j i : Nat} (hx : own_Rep x n j) (hy : own_Rep y m j) (hv : v.natAbs < 2 ^ 53) (hi : i ≤ 2045) (h : v * ((2 ^ i : Nat) : Int) ≤ (n + m) * ((2 ^ j : Nat) : Int)) : v * ((2 ^ i : Nat) : Int) ≤ zval b64 (val64 (dadd x y)) := by
  obtain ⟨V, h1, h2, h3⟩ := own_datum v i hv hi
  obtain ⟨⟨s, c, q, ex⟩, zx⟩ := hx
  obtain ⟨⟨t, d, r, ey⟩, zy⟩ := hy
  have fx := val64_fits x; have fy := val64_fits y
  rw [ex] at fx zx; rw [ey] at fy zy
  obtain ⟨sg, N, e, k1, k2, k3⟩ := sum_units fx fy
  rw [val64_dadd, ex, ey, k1, ← h3]
  refine zval_round_ge good_b64 h1 h2 (Int.le_refl _) k2 ?_
  rw [k3, zx, zy, ← Int.add_mul, h3, Int.sub_self]
  simpa using h
theorem own_nn_of {x : UInt64} (h : val64 x ≠ .nan) : Jvm.Free.Fl.NoNaN64 x := Jvm.Free.Fl.noNaN64_no.mpr ((notNaN_iff _).mpr h)
end OwnFloat2
theorem own_selp {y : MethodName} {s : State} {args : Array Value} {n : Nat} (hy : y.cls ≠ "java/lang/invoke/MethodHandle" ∧ y.cls ≠ "java/lang/invoke/VarHandle") (hins : (Jvm.Cond.instantiable y.cls n).before args s = true) (hpriv : (Jvm.Cond.privateMethod y).before args s = true) (hinst : (Jvm.Cond.instanceMethod y).before args s = true) : (Jvm.Cond.selects y.cls y y).before args s = true := by
  obtain ⟨c, k, hc, hk, -, hniab, -, -⟩ := Cond.instantiable_spec hins
  exact Stand.selects_self_of_private hc hk (Bool.or_eq_false_iff.mp hniab).1 (Cond.privateMethod_at hpriv) hinst hy
theorem own_feq {args : Array Value} {s : State} {t : Jvm.Term} {a : Addr} {C n d : String} {k : Int32} (ev : t.eval args s none [] s = some (.ref a)) (h : (Jvm.Cond.eq (Jvm.Term.field t C n d) (Jvm.Term.int k)).value args s none s [] = some true) : s.fieldOf? a C n d = some (.int k) := by
  cases hf : s.fieldOf? a C n d with
  | none => simp [Jvm.Cond.value, Jvm.Term.eval, ev, hf] at h
  | some v => cases v <;> simp [Jvm.Cond.value, Jvm.Term.eval, ev, hf] at h ⊢; exact h
section OwnLaw
open Jvm.FP.Core
theorem own_m16 (p : Int32) : own_Rep (Jvm.FP.i2d (p &&& (65535 : Int32))) (p &&& (65535 : Int32)).toInt 1074 ∧ 0 ≤ (p &&& (65535 : Int32)).toInt ∧ (p &&& (65535 : Int32)).toInt ≤ 65535 := by
  have m := Jvm.RoadKit.c_mask p 65535 16 (by decide) (by decide)
  exact ⟨own_i2d _, by omega, by omega⟩
theorem own_grow (p : Int32) : own_Rep (Jvm.FP.i2d ((1 : Int32) + (p &&& (255 : Int32)))) ((1 : Int32) + (p &&& (255 : Int32))).toInt 1074 ∧ 1 ≤ ((1 : Int32) + (p &&& (255 : Int32))).toInt ∧ ((1 : Int32) + (p &&& (255 : Int32))).toInt ≤ 256 := by
  have m := Jvm.RoadKit.c_mask p 255 8 (by decide) (by decide)
  have a := Jvm.RoadKit.c_iadd 1 (p &&& 255)
  have b := Jvm.RoadKit.rng32 (1 + (p &&& 255))
  rw [show (1 : Int32).toInt = 1 by decide] at a
  exact ⟨own_i2d _, by omega, by omega⟩
theorem own_lnn (p4 p5 : Int32) : Jvm.Free.Fl.NoNaN64 (Jvm.FP.dadd (Jvm.FP.i2d (p4 &&& (65535 : Int32))) (Jvm.FP.i2d ((1 : Int32) + (p5 &&& (255 : Int32))))) := by
  obtain ⟨r1, a1, a2⟩ := own_m16 p4
  obtain ⟨r2, b1, b2⟩ := own_grow p5
  exact own_noNaN (own_add r1 r2 (by omega) (by decide))
theorem own_maxv : own_Rep 9218868437227405311 9007199254740991 2045 := ⟨⟨false, 9007199254740991, 971, by decide +kernel⟩, by decide +kernel⟩
theorem own_rnd : own_Rep 4382002437431492608 1 1024 := ⟨⟨false, 2 ^ 52, -102, by decide +kernel⟩, by decide +kernel⟩
theorem own_two : own_Rep (i2d (2 : Int32)) 2 1074 := by have := own_i2d 2; rwa [show (2 : Int32).toInt = 2 by decide] at this
theorem own_isfin {x : UInt64} {n : Int} (h : own_Rep x n 1074) (h0 : 0 ≤ n) (h1 : n < 4194304) : ¬ ((0 : Int32) < (Jvm.Op.cmpValue (Jvm.FP.dcmp (x &&& 0x7fffffffffffffff) (9218868437227405311 : UInt64)) .g)) := by
  have a := own_abs h
  rw [show ((n.natAbs : Nat) : Int) = n by omega] at a
  have hp : (0 : Int) < ((2 ^ 1074 : Nat) : Int) := by exact_mod_cast Nat.two_pow_pos 1074
  have hq : (0 : Int) < ((2 ^ 971 : Nat) : Int) := by exact_mod_cast Nat.two_pow_pos 971
  have q : dcmp (x &&& 0x7fffffffffffffff) 9218868437227405311 = some .lt := dcmp_lt.mpr ⟨own_ne_nan a, own_ne_nan own_maxv, by
    rw [a.2, own_maxv.2, show ((2 ^ 2045 : Nat) : Int) = ((2 ^ 971 : Nat) : Int) * ((2 ^ 1074 : Nat) : Int) by rw [← Int.natCast_mul, ← Nat.pow_add], ← Int.mul_assoc]
    refine Int.mul_lt_mul_of_pos_right ?_ hp
    omega⟩
  rw [show Jvm.FP.dcmp (x &&& 0x7fffffffffffffff) (9218868437227405311 : UInt64) = some .lt from q]; decide
theorem own_pn {x1 x2 : UInt64} {a b : Int} (h1 : own_Rep x1 a 1074) (h2 : own_Rep x2 b 1074) (a1 : 0 ≤ a) (a2 : a ≤ 131072) (b1 : 0 ≤ b) (b2 : b ≤ 131072) : (Jvm.Free.Fl.NoNaN64 (Jvm.FP.dadd (0 : UInt64) x1) ∧ Jvm.Free.Fl.NoNaN64 (Jvm.FP.dadd (Jvm.FP.dadd (0 : UInt64) x1) x2) ∧ Jvm.Free.Fl.NoNaN64 (Jvm.FP.dsub (Jvm.FP.dadd (Jvm.FP.dadd (0 : UInt64) x1) x2) x1) ∧ Jvm.Free.Fl.NoNaN64 (Jvm.FP.dsub (Jvm.FP.dadd (Jvm.FP.dadd (0 : UInt64) x1) x2) (Jvm.FP.dsub (Jvm.FP.dadd (Jvm.FP.dadd (0 : UInt64) x1) x2) x1)) ∧ Jvm.Free.Fl.NoNaN64 (Jvm.FP.dsub x1 (Jvm.FP.dsub (Jvm.FP.dadd (Jvm.FP.dadd (0 : UInt64) x1) x2) (Jvm.FP.dsub (Jvm.FP.dadd (Jvm.FP.dadd (0 : UInt64) x1) x2) x1))) ∧ Jvm.Free.Fl.NoNaN64 (Jvm.FP.dsub x2 (Jvm.FP.dsub (Jvm.FP.dadd (Jvm.FP.dadd (0 : UInt64) x1) x2) x1)) ∧ Jvm.Free.Fl.NoNaN64 (Jvm.FP.dadd (Jvm.FP.dsub x1 (Jvm.FP.dsub (Jvm.FP.dadd (Jvm.FP.dadd (0 : UInt64) x1) x2) (Jvm.FP.dsub (Jvm.FP.dadd (Jvm.FP.dadd (0 : UInt64) x1) x2) x1))) (Jvm.FP.dsub x2 (Jvm.FP.dsub (Jvm.FP.dadd (Jvm.FP.dadd (0 : UInt64) x1) x2) x1))) ∧ ¬ ((0 : Int32) < (Jvm.Op.cmpValue (Jvm.FP.dcmp ((Jvm.FP.dadd (Jvm.FP.dadd (0 : UInt64) x1) x2) &&& 0x7fffffffffffffff) (9218868437227405311 : UInt64)) .g))) ∧ own_Rep (Jvm.FP.dadd (Jvm.FP.dadd (0 : UInt64) x1) x2) (a + b) 1074 ∧ own_Rep (Jvm.FP.dadd (Jvm.FP.dsub x1 (Jvm.FP.dsub (Jvm.FP.dadd (Jvm.FP.dadd (0 : UInt64) x1) x2) (Jvm.FP.dsub (Jvm.FP.dadd (Jvm.FP.dadd (0 : UInt64) x1) x2) x1))) (Jvm.FP.dsub x2 (Jvm.FP.dsub (Jvm.FP.dadd (Jvm.FP.dadd (0 : UInt64) x1) x2) x1))) 0 1074 := by
  have z : own_Rep 0 0 1074 := own_zeroJ 1074
  have r1 := own_add z h1 (by omega) (by decide)
  rw [Int.zero_add] at r1
  have r2 := own_add r1 h2 (by omega) (by decide)
  have r3 := own_sub r2 h1 (by omega) (by decide)
  rw [show a + b - a = b by omega] at r3
  have r4 := own_sub r2 r3 (by omega) (by decide)
  rw [show a + b - b = a by omega] at r4
  have r5 := own_sub h1 r4 (by omega) (by decide)
  have r6 := own_sub h2 r3 (by omega) (by decide)
  have r7 := own_add r5 r6 (by omega) (by decide)
  rw [show a - a + (b - b) = 0 by omega] at r7
  exact ⟨⟨own_noNaN r1, own_noNaN r2, own_noNaN r3, own_noNaN r4, own_noNaN r5, own_noNaN r6, own_noNaN r7, own_isfin r2 (by omega) (by omega)⟩, r2, r7⟩
theorem own_bd {v : UInt64} {n : Int} (h : own_Rep v n 1074) (h0 : 0 ≤ n) (h1 : n < 4194304) : Jvm.Free.Fl.NoNaN64 (Jvm.FP.dmul v (Jvm.FP.i2d (2 : Int32))) ∧ Jvm.Free.Fl.NoNaN64 (Jvm.FP.dmul (Jvm.FP.dmul v (Jvm.FP.i2d (2 : Int32))) (4382002437431492608 : UInt64)) ∧ own_Rep (Jvm.FP.dmul (Jvm.FP.dmul v (Jvm.FP.i2d (2 : Int32))) (4382002437431492608 : UInt64)) (n * 2 * 1) 1024 := by
  have r1 := own_mul h own_two (k := 1074) (by decide) (by omega) (by decide)
  have r2 := own_mul r1 own_rnd (k := 1024) (by decide) (by omega) (by decide)
  exact ⟨own_noNaN r1, own_noNaN r2, r2⟩
theorem own_c7 {v1 r1 v2 r2 : UInt64} {n1 n2 : Int} (h1 : own_Rep v1 n1 1074) (h2 : own_Rep v2 n2 1074) (g1 : own_Rep r1 0 1074) (g2 : own_Rep r2 0 1074) (a1 : 0 ≤ n1) (a2 : n1 < 4194304) (b1 : 0 ≤ n2) (b2 : n2 < 4194304) {P : Prop} (hP : P) : Jvm.Free.Fl.NoNaN64 (Jvm.FP.dmul v1 (Jvm.FP.i2d (2 : Int32))) ∧ Jvm.Free.Fl.NoNaN64 (Jvm.FP.dmul (Jvm.FP.dmul v1 (Jvm.FP.i2d (2 : Int32))) (4382002437431492608 : UInt64)) ∧ Jvm.Free.Fl.NoNaN64 r1 ∧ Jvm.Free.Fl.NoNaN64 (Jvm.FP.dmul v2 (Jvm.FP.i2d (2 : Int32))) ∧ Jvm.Free.Fl.NoNaN64 (Jvm.FP.dmul (Jvm.FP.dmul v2 (Jvm.FP.i2d (2 : Int32))) (4382002437431492608 : UInt64)) ∧ Jvm.Free.Fl.NoNaN64 r2 ∧ Jvm.Free.Fl.NoNaN64 (Jvm.FP.dadd (Jvm.FP.dmul (Jvm.FP.dmul v1 (Jvm.FP.i2d (2 : Int32))) (4382002437431492608 : UInt64)) (Jvm.FP.dmul (Jvm.FP.dmul v2 (Jvm.FP.i2d (2 : Int32))) (4382002437431492608 : UInt64))) ∧ P := by
  obtain ⟨x1, x2, x3⟩ := own_bd h1 a1 a2
  obtain ⟨y1, y2, y3⟩ := own_bd h2 b1 b2
  exact ⟨x1, x2, own_noNaN g1, y1, y2, own_noNaN g2, own_noNaN (own_add x3 y3 (by omega) (by decide)), hP⟩
theorem own_all_s {p2 p3 p4 p5 : Int32} {d0 d1 sm lg : UInt64} (hd0 : d0 = (Jvm.FP.i2d (p2 &&& (65535 : Int32)))) (hd1 : d1 = (Jvm.FP.i2d (p3 &&& (65535 : Int32)))) (hsm : sm = (Jvm.FP.i2d (p4 &&& (65535 : Int32)))) (hlg : lg = (Jvm.FP.dadd (Jvm.FP.i2d (p4 &&& (65535 : Int32))) (Jvm.FP.i2d ((1 : Int32) + (p5 &&& (255 : Int32)))))) : (Jvm.Free.Fl.NoNaN64 (Jvm.FP.dadd (0 : UInt64) d0) ∧ Jvm.Free.Fl.NoNaN64 (Jvm.FP.dadd (Jvm.FP.dadd (0 : UInt64) d0) d1) ∧ Jvm.Free.Fl.NoNaN64 (Jvm.FP.dsub (Jvm.FP.dadd (Jvm.FP.dadd (0 : UInt64) d0) d1) d0) ∧ Jvm.Free.Fl.NoNaN64 (Jvm.FP.dsub (Jvm.FP.dadd (Jvm.FP.dadd (0 : UInt64) d0) d1) (Jvm.FP.dsub (Jvm.FP.dadd (Jvm.FP.dadd (0 : UInt64) d0) d1) d0)) ∧ Jvm.Free.Fl.NoNaN64 (Jvm.FP.dsub d0 (Jvm.FP.dsub (Jvm.FP.dadd (Jvm.FP.dadd (0 : UInt64) d0) d1) (Jvm.FP.dsub (Jvm.FP.dadd (Jvm.FP.dadd (0 : UInt64) d0) d1) d0))) ∧ Jvm.Free.Fl.NoNaN64 (Jvm.FP.dsub d1 (Jvm.FP.dsub (Jvm.FP.dadd (Jvm.FP.dadd (0 : UInt64) d0) d1) d0)) ∧ Jvm.Free.Fl.NoNaN64 (Jvm.FP.dadd (Jvm.FP.dsub d0 (Jvm.FP.dsub (Jvm.FP.dadd (Jvm.FP.dadd (0 : UInt64) d0) d1) (Jvm.FP.dsub (Jvm.FP.dadd (Jvm.FP.dadd (0 : UInt64) d0) d1) d0))) (Jvm.FP.dsub d1 (Jvm.FP.dsub (Jvm.FP.dadd (Jvm.FP.dadd (0 : UInt64) d0) d1) d0))) ∧ ¬ ((0 : Int32) < (Jvm.Op.cmpValue (Jvm.FP.dcmp ((Jvm.FP.dadd (Jvm.FP.dadd (0 : UInt64) d0) d1) &&& 0x7fffffffffffffff) (9218868437227405311 : UInt64)) .g))) ∧ True ∧ (Jvm.Free.Fl.NoNaN64 (Jvm.FP.dmul (Jvm.FP.dadd (Jvm.FP.dadd (0 : UInt64) d0) d1) (Jvm.FP.i2d (2 : Int32))) ∧ Jvm.Free.Fl.NoNaN64 (Jvm.FP.dmul (Jvm.FP.dmul (Jvm.FP.dadd (Jvm.FP.dadd (0 : UInt64) d0) d1) (Jvm.FP.i2d (2 : Int32))) (4382002437431492608 : UInt64)) ∧ Jvm.Free.Fl.NoNaN64 (Jvm.FP.dadd (Jvm.FP.dsub d0 (Jvm.FP.dsub (Jvm.FP.dadd (Jvm.FP.dadd (0 : UInt64) d0) d1) (Jvm.FP.dsub (Jvm.FP.dadd (Jvm.FP.dadd (0 : UInt64) d0) d1) d0))) (Jvm.FP.dsub d1 (Jvm.FP.dsub (Jvm.FP.dadd (Jvm.FP.dadd (0 : UInt64) d0) d1) d0))) ∧ Jvm.Free.Fl.NoNaN64 (Jvm.FP.dmul (Jvm.FP.dadd (Jvm.FP.dadd (0 : UInt64) d0) d1) (Jvm.FP.i2d (2 : Int32))) ∧ Jvm.Free.Fl.NoNaN64 (Jvm.FP.dmul (Jvm.FP.dmul (Jvm.FP.dadd (Jvm.FP.dadd (0 : UInt64) d0) d1) (Jvm.FP.i2d (2 : Int32))) (4382002437431492608 : UInt64)) ∧ Jvm.Free.Fl.NoNaN64 (Jvm.FP.dadd (Jvm.FP.dsub d0 (Jvm.FP.dsub (Jvm.FP.dadd (Jvm.FP.dadd (0 : UInt64) d0) d1) (Jvm.FP.dsub (Jvm.FP.dadd (Jvm.FP.dadd (0 : UInt64) d0) d1) d0))) (Jvm.FP.dsub d1 (Jvm.FP.dsub (Jvm.FP.dadd (Jvm.FP.dadd (0 : UInt64) d0) d1) d0))) ∧ Jvm.Free.Fl.NoNaN64 (Jvm.FP.dadd (Jvm.FP.dmul (Jvm.FP.dmul (Jvm.FP.dadd (Jvm.FP.dadd (0 : UInt64) d0) d1) (Jvm.FP.i2d (2 : Int32))) (4382002437431492608 : UInt64)) (Jvm.FP.dmul (Jvm.FP.dmul (Jvm.FP.dadd (Jvm.FP.dadd (0 : UInt64) d0) d1) (Jvm.FP.i2d (2 : Int32))) (4382002437431492608 : UInt64))) ∧ Jvm.Free.Fl.NoNaN64 (Jvm.FP.dadd (Jvm.FP.dadd (0 : UInt64) d0) d1)) := by
  obtain ⟨r1, a1, a2⟩ := own_m16 p2
  obtain ⟨r2, b1, b2⟩ := own_m16 p3
  rw [← hd0] at r1; rw [← hd1] at r2
  obtain ⟨P, s1, e1⟩ := own_pn r1 r2 a1 (by omega) b1 (by omega)
  exact ⟨P, trivial, own_c7 s1 s1 e1 e1 (by omega) (by omega) (by omega) (by omega) (own_noNaN s1)⟩
theorem own_all_d {p2 p3 p4 p5 : Int32} {d0 d1 sm lg : UInt64} (hd0 : d0 = (Jvm.FP.i2d (p2 &&& (65535 : Int32)))) (hd1 : d1 = (Jvm.FP.i2d (p3 &&& (65535 : Int32)))) (hsm : sm = (Jvm.FP.i2d (p4 &&& (65535 : Int32)))) (hlg : lg = (Jvm.FP.dadd (Jvm.FP.i2d (p4 &&& (65535 : Int32))) (Jvm.FP.i2d ((1 : Int32) + (p5 &&& (255 : Int32)))))) : (Jvm.Free.Fl.NoNaN64 (0 : UInt64) ∧ Jvm.Free.Fl.NoNaN64 d0 ∧ Jvm.Free.Fl.NoNaN64 (Jvm.Native.java_lang_Math.nans.pick64 true (0 : UInt64) d0) ∧ Jvm.Free.Fl.NoNaN64 d1 ∧ Jvm.Free.Fl.NoNaN64 (Jvm.FP.dadd (0 : UInt64) (Jvm.Native.java_lang_Math.nans.pick64 true (Jvm.Native.java_lang_Math.nans.pick64 true (0 : UInt64) d0) d1)) ∧ Jvm.Free.Fl.NoNaN64 (Jvm.FP.dadd (Jvm.FP.dadd (0 : UInt64) (Jvm.Native.java_lang_Math.nans.pick64 true (Jvm.Native.java_lang_Math.nans.pick64 true (0 : UInt64) d0) d1)) sm) ∧ Jvm.Free.Fl.NoNaN64 (Jvm.FP.dsub (Jvm.FP.dadd (Jvm.FP.dadd (0 : UInt64) (Jvm.Native.java_lang_Math.nans.pick64 true (Jvm.Native.java_lang_Math.nans.pick64 true (0 : UInt64) d0) d1)) sm) (Jvm.Native.java_lang_Math.nans.pick64 true (Jvm.Native.java_lang_Math.nans.pick64 true (0 : UInt64) d0) d1)) ∧ Jvm.Free.Fl.NoNaN64 (Jvm.FP.dsub (Jvm.FP.dadd (Jvm.FP.dadd (0 : UInt64) (Jvm.Native.java_lang_Math.nans.pick64 true (Jvm.Native.java_lang_Math.nans.pick64 true (0 : UInt64) d0) d1)) sm) (Jvm.FP.dsub (Jvm.FP.dadd (Jvm.FP.dadd (0 : UInt64) (Jvm.Native.java_lang_Math.nans.pick64 true (Jvm.Native.java_lang_Math.nans.pick64 true (0 : UInt64) d0) d1)) sm) (Jvm.Native.java_lang_Math.nans.pick64 true (Jvm.Native.java_lang_Math.nans.pick64 true (0 : UInt64) d0) d1))) ∧ Jvm.Free.Fl.NoNaN64 (Jvm.FP.dsub (Jvm.Native.java_lang_Math.nans.pick64 true (Jvm.Native.java_lang_Math.nans.pick64 true (0 : UInt64) d0) d1) (Jvm.FP.dsub (Jvm.FP.dadd (Jvm.FP.dadd (0 : UInt64) (Jvm.Native.java_lang_Math.nans.pick64 true (Jvm.Native.java_lang_Math.nans.pick64 true (0 : UInt64) d0) d1)) sm) (Jvm.FP.dsub (Jvm.FP.dadd (Jvm.FP.dadd (0 : UInt64) (Jvm.Native.java_lang_Math.nans.pick64 true (Jvm.Native.java_lang_Math.nans.pick64 true (0 : UInt64) d0) d1)) sm) (Jvm.Native.java_lang_Math.nans.pick64 true (Jvm.Native.java_lang_Math.nans.pick64 true (0 : UInt64) d0) d1)))) ∧ Jvm.Free.Fl.NoNaN64 (Jvm.FP.dsub sm (Jvm.FP.dsub (Jvm.FP.dadd (Jvm.FP.dadd (0 : UInt64) (Jvm.Native.java_lang_Math.nans.pick64 true (Jvm.Native.java_lang_Math.nans.pick64 true (0 : UInt64) d0) d1)) sm) (Jvm.Native.java_lang_Math.nans.pick64 true (Jvm.Native.java_lang_Math.nans.pick64 true (0 : UInt64) d0) d1))) ∧ Jvm.Free.Fl.NoNaN64 (Jvm.FP.dadd (Jvm.FP.dsub (Jvm.Native.java_lang_Math.nans.pick64 true (Jvm.Native.java_lang_Math.nans.pick64 true (0 : UInt64) d0) d1) (Jvm.FP.dsub (Jvm.FP.dadd (Jvm.FP.dadd (0 : UInt64) (Jvm.Native.java_lang_Math.nans.pick64 true (Jvm.Native.java_lang_Math.nans.pick64 true (0 : UInt64) d0) d1)) sm) (Jvm.FP.dsub (Jvm.FP.dadd (Jvm.FP.dadd (0 : UInt64) (Jvm.Native.java_lang_Math.nans.pick64 true (Jvm.Native.java_lang_Math.nans.pick64 true (0 : UInt64) d0) d1)) sm) (Jvm.Native.java_lang_Math.nans.pick64 true (Jvm.Native.java_lang_Math.nans.pick64 true (0 : UInt64) d0) d1)))) (Jvm.FP.dsub sm (Jvm.FP.dsub (Jvm.FP.dadd (Jvm.FP.dadd (0 : UInt64) (Jvm.Native.java_lang_Math.nans.pick64 true (Jvm.Native.java_lang_Math.nans.pick64 true (0 : UInt64) d0) d1)) sm) (Jvm.Native.java_lang_Math.nans.pick64 true (Jvm.Native.java_lang_Math.nans.pick64 true (0 : UInt64) d0) d1)))) ∧ ¬ ((0 : Int32) < (Jvm.Op.cmpValue (Jvm.FP.dcmp ((Jvm.FP.dadd (Jvm.FP.dadd (0 : UInt64) (Jvm.Native.java_lang_Math.nans.pick64 true (Jvm.Native.java_lang_Math.nans.pick64 true (0 : UInt64) d0) d1)) sm) &&& 0x7fffffffffffffff) (9218868437227405311 : UInt64)) .g))) ∧ (Jvm.Free.Fl.NoNaN64 (0 : UInt64) ∧ Jvm.Free.Fl.NoNaN64 d0 ∧ Jvm.Free.Fl.NoNaN64 (Jvm.Native.java_lang_Math.nans.pick64 true (0 : UInt64) d0) ∧ Jvm.Free.Fl.NoNaN64 d1 ∧ Jvm.Free.Fl.NoNaN64 (Jvm.FP.dadd (0 : UInt64) (Jvm.Native.java_lang_Math.nans.pick64 true (Jvm.Native.java_lang_Math.nans.pick64 true (0 : UInt64) d0) d1)) ∧ Jvm.Free.Fl.NoNaN64 (Jvm.FP.dadd (Jvm.FP.dadd (0 : UInt64) (Jvm.Native.java_lang_Math.nans.pick64 true (Jvm.Native.java_lang_Math.nans.pick64 true (0 : UInt64) d0) d1)) lg) ∧ Jvm.Free.Fl.NoNaN64 (Jvm.FP.dsub (Jvm.FP.dadd (Jvm.FP.dadd (0 : UInt64) (Jvm.Native.java_lang_Math.nans.pick64 true (Jvm.Native.java_lang_Math.nans.pick64 true (0 : UInt64) d0) d1)) lg) (Jvm.Native.java_lang_Math.nans.pick64 true (Jvm.Native.java_lang_Math.nans.pick64 true (0 : UInt64) d0) d1)) ∧ Jvm.Free.Fl.NoNaN64 (Jvm.FP.dsub (Jvm.FP.dadd (Jvm.FP.dadd (0 : UInt64) (Jvm.Native.java_lang_Math.nans.pick64 true (Jvm.Native.java_lang_Math.nans.pick64 true (0 : UInt64) d0) d1)) lg) (Jvm.FP.dsub (Jvm.FP.dadd (Jvm.FP.dadd (0 : UInt64) (Jvm.Native.java_lang_Math.nans.pick64 true (Jvm.Native.java_lang_Math.nans.pick64 true (0 : UInt64) d0) d1)) lg) (Jvm.Native.java_lang_Math.nans.pick64 true (Jvm.Native.java_lang_Math.nans.pick64 true (0 : UInt64) d0) d1))) ∧ Jvm.Free.Fl.NoNaN64 (Jvm.FP.dsub (Jvm.Native.java_lang_Math.nans.pick64 true (Jvm.Native.java_lang_Math.nans.pick64 true (0 : UInt64) d0) d1) (Jvm.FP.dsub (Jvm.FP.dadd (Jvm.FP.dadd (0 : UInt64) (Jvm.Native.java_lang_Math.nans.pick64 true (Jvm.Native.java_lang_Math.nans.pick64 true (0 : UInt64) d0) d1)) lg) (Jvm.FP.dsub (Jvm.FP.dadd (Jvm.FP.dadd (0 : UInt64) (Jvm.Native.java_lang_Math.nans.pick64 true (Jvm.Native.java_lang_Math.nans.pick64 true (0 : UInt64) d0) d1)) lg) (Jvm.Native.java_lang_Math.nans.pick64 true (Jvm.Native.java_lang_Math.nans.pick64 true (0 : UInt64) d0) d1)))) ∧ Jvm.Free.Fl.NoNaN64 (Jvm.FP.dsub lg (Jvm.FP.dsub (Jvm.FP.dadd (Jvm.FP.dadd (0 : UInt64) (Jvm.Native.java_lang_Math.nans.pick64 true (Jvm.Native.java_lang_Math.nans.pick64 true (0 : UInt64) d0) d1)) lg) (Jvm.Native.java_lang_Math.nans.pick64 true (Jvm.Native.java_lang_Math.nans.pick64 true (0 : UInt64) d0) d1))) ∧ Jvm.Free.Fl.NoNaN64 (Jvm.FP.dadd (Jvm.FP.dsub (Jvm.Native.java_lang_Math.nans.pick64 true (Jvm.Native.java_lang_Math.nans.pick64 true (0 : UInt64) d0) d1) (Jvm.FP.dsub (Jvm.FP.dadd (Jvm.FP.dadd (0 : UInt64) (Jvm.Native.java_lang_Math.nans.pick64 true (Jvm.Native.java_lang_Math.nans.pick64 true (0 : UInt64) d0) d1)) lg) (Jvm.FP.dsub (Jvm.FP.dadd (Jvm.FP.dadd (0 : UInt64) (Jvm.Native.java_lang_Math.nans.pick64 true (Jvm.Native.java_lang_Math.nans.pick64 true (0 : UInt64) d0) d1)) lg) (Jvm.Native.java_lang_Math.nans.pick64 true (Jvm.Native.java_lang_Math.nans.pick64 true (0 : UInt64) d0) d1)))) (Jvm.FP.dsub lg (Jvm.FP.dsub (Jvm.FP.dadd (Jvm.FP.dadd (0 : UInt64) (Jvm.Native.java_lang_Math.nans.pick64 true (Jvm.Native.java_lang_Math.nans.pick64 true (0 : UInt64) d0) d1)) lg) (Jvm.Native.java_lang_Math.nans.pick64 true (Jvm.Native.java_lang_Math.nans.pick64 true (0 : UInt64) d0) d1)))) ∧ ¬ ((0 : Int32) < (Jvm.Op.cmpValue (Jvm.FP.dcmp ((Jvm.FP.dadd (Jvm.FP.dadd (0 : UInt64) (Jvm.Native.java_lang_Math.nans.pick64 true (Jvm.Native.java_lang_Math.nans.pick64 true (0 : UInt64) d0) d1)) lg) &&& 0x7fffffffffffffff) (9218868437227405311 : UInt64)) .g))) ∧ (Jvm.Free.Fl.NoNaN64 (Jvm.FP.dmul (Jvm.FP.dadd (Jvm.FP.dadd (0 : UInt64) (Jvm.Native.java_lang_Math.nans.pick64 true (Jvm.Native.java_lang_Math.nans.pick64 true (0 : UInt64) d0) d1)) sm) (Jvm.FP.i2d (2 : Int32))) ∧ Jvm.Free.Fl.NoNaN64 (Jvm.FP.dmul (Jvm.FP.dmul (Jvm.FP.dadd (Jvm.FP.dadd (0 : UInt64) (Jvm.Native.java_lang_Math.nans.pick64 true (Jvm.Native.java_lang_Math.nans.pick64 true (0 : UInt64) d0) d1)) sm) (Jvm.FP.i2d (2 : Int32))) (4382002437431492608 : UInt64)) ∧ Jvm.Free.Fl.NoNaN64 (Jvm.FP.dadd (Jvm.FP.dsub (Jvm.Native.java_lang_Math.nans.pick64 true (Jvm.Native.java_lang_Math.nans.pick64 true (0 : UInt64) d0) d1) (Jvm.FP.dsub (Jvm.FP.dadd (Jvm.FP.dadd (0 : UInt64) (Jvm.Native.java_lang_Math.nans.pick64 true (Jvm.Native.java_lang_Math.nans.pick64 true (0 : UInt64) d0) d1)) sm) (Jvm.FP.dsub (Jvm.FP.dadd (Jvm.FP.dadd (0 : UInt64) (Jvm.Native.java_lang_Math.nans.pick64 true (Jvm.Native.java_lang_Math.nans.pick64 true (0 : UInt64) d0) d1)) sm) (Jvm.Native.java_lang_Math.nans.pick64 true (Jvm.Native.java_lang_Math.nans.pick64 true (0 : UInt64) d0) d1)))) (Jvm.FP.dsub sm (Jvm.FP.dsub (Jvm.FP.dadd (Jvm.FP.dadd (0 : UInt64) (Jvm.Native.java_lang_Math.nans.pick64 true (Jvm.Native.java_lang_Math.nans.pick64 true (0 : UInt64) d0) d1)) sm) (Jvm.Native.java_lang_Math.nans.pick64 true (Jvm.Native.java_lang_Math.nans.pick64 true (0 : UInt64) d0) d1)))) ∧ Jvm.Free.Fl.NoNaN64 (Jvm.FP.dmul (Jvm.FP.dadd (Jvm.FP.dadd (0 : UInt64) (Jvm.Native.java_lang_Math.nans.pick64 true (Jvm.Native.java_lang_Math.nans.pick64 true (0 : UInt64) d0) d1)) lg) (Jvm.FP.i2d (2 : Int32))) ∧ Jvm.Free.Fl.NoNaN64 (Jvm.FP.dmul (Jvm.FP.dmul (Jvm.FP.dadd (Jvm.FP.dadd (0 : UInt64) (Jvm.Native.java_lang_Math.nans.pick64 true (Jvm.Native.java_lang_Math.nans.pick64 true (0 : UInt64) d0) d1)) lg) (Jvm.FP.i2d (2 : Int32))) (4382002437431492608 : UInt64)) ∧ Jvm.Free.Fl.NoNaN64 (Jvm.FP.dadd (Jvm.FP.dsub (Jvm.Native.java_lang_Math.nans.pick64 true (Jvm.Native.java_lang_Math.nans.pick64 true (0 : UInt64) d0) d1) (Jvm.FP.dsub (Jvm.FP.dadd (Jvm.FP.dadd (0 : UInt64) (Jvm.Native.java_lang_Math.nans.pick64 true (Jvm.Native.java_lang_Math.nans.pick64 true (0 : UInt64) d0) d1)) lg) (Jvm.FP.dsub (Jvm.FP.dadd (Jvm.FP.dadd (0 : UInt64) (Jvm.Native.java_lang_Math.nans.pick64 true (Jvm.Native.java_lang_Math.nans.pick64 true (0 : UInt64) d0) d1)) lg) (Jvm.Native.java_lang_Math.nans.pick64 true (Jvm.Native.java_lang_Math.nans.pick64 true (0 : UInt64) d0) d1)))) (Jvm.FP.dsub lg (Jvm.FP.dsub (Jvm.FP.dadd (Jvm.FP.dadd (0 : UInt64) (Jvm.Native.java_lang_Math.nans.pick64 true (Jvm.Native.java_lang_Math.nans.pick64 true (0 : UInt64) d0) d1)) lg) (Jvm.Native.java_lang_Math.nans.pick64 true (Jvm.Native.java_lang_Math.nans.pick64 true (0 : UInt64) d0) d1)))) ∧ Jvm.Free.Fl.NoNaN64 (Jvm.FP.dadd (Jvm.FP.dmul (Jvm.FP.dmul (Jvm.FP.dadd (Jvm.FP.dadd (0 : UInt64) (Jvm.Native.java_lang_Math.nans.pick64 true (Jvm.Native.java_lang_Math.nans.pick64 true (0 : UInt64) d0) d1)) sm) (Jvm.FP.i2d (2 : Int32))) (4382002437431492608 : UInt64)) (Jvm.FP.dmul (Jvm.FP.dmul (Jvm.FP.dadd (Jvm.FP.dadd (0 : UInt64) (Jvm.Native.java_lang_Math.nans.pick64 true (Jvm.Native.java_lang_Math.nans.pick64 true (0 : UInt64) d0) d1)) lg) (Jvm.FP.i2d (2 : Int32))) (4382002437431492608 : UInt64))) ∧ (Jvm.Op.cmpValue (Jvm.FP.dcmp (Jvm.FP.dadd (Jvm.FP.dadd (0 : UInt64) (Jvm.Native.java_lang_Math.nans.pick64 true (Jvm.Native.java_lang_Math.nans.pick64 true (0 : UInt64) d0) d1)) sm) (Jvm.FP.dadd (Jvm.FP.dadd (0 : UInt64) (Jvm.Native.java_lang_Math.nans.pick64 true (Jvm.Native.java_lang_Math.nans.pick64 true (0 : UInt64) d0) d1)) lg)) .g) < (0 : Int32)) := by
  obtain ⟨r1, a1, a2⟩ := own_m16 p2
  obtain ⟨r2, b1, b2⟩ := own_m16 p3
  obtain ⟨r3, c1, c2⟩ := own_m16 p4
  obtain ⟨r4, d1_, d2_⟩ := own_grow p5
  have r5 := own_add r3 r4 (by omega) (by decide)
  rw [← hd0] at r1; rw [← hd1] at r2; rw [show dadd (Jvm.FP.i2d (p4 &&& (65535 : Int32))) (Jvm.FP.i2d ((1 : Int32) + (p5 &&& (255 : Int32)))) = lg from hlg.symm] at r5; rw [← hsm] at r3
  have m1 := own_pick (own_zeroJ 1074) r1
  have m2 := own_pick m1 r2
  generalize hf : (if (if (0 : Int) < (p2 &&& (65535 : Int32)).toInt then (p2 &&& (65535 : Int32)).toInt else 0) < (p3 &&& (65535 : Int32)).toInt then (p3 &&& (65535 : Int32)).toInt else (if (0 : Int) < (p2 &&& (65535 : Int32)).toInt then (p2 &&& (65535 : Int32)).toInt else 0)) = f at m2
  have f1 : 0 ≤ f ∧ f ≤ 65535 := by rw [← hf]; split <;> split <;> omega
  have z : own_Rep 0 0 1074 := own_zeroJ 1074
  obtain ⟨⟨w1, w2, w3, w4, w5, w6, w7, w8⟩, s1, e1⟩ := own_pn m2 r3 f1.1 (by omega) c1 (by omega)
  obtain ⟨⟨u1, u2, u3, u4, u5, u6, u7, u8⟩, s2, e2⟩ := own_pn m2 r5 f1.1 (by omega) (by omega) (by omega)
  refine ⟨⟨own_noNaN z, own_noNaN r1, own_noNaN m1, own_noNaN r2, w1, w2, w3, w4, w5, w6, w7, w8⟩, ⟨own_noNaN z, own_noNaN r1, own_noNaN m1, own_noNaN r2, u1, u2, u3, u4, u5, u6, u7, u8⟩, own_c7 s1 s2 e1 e2 (by omega) (by omega) (by omega) (by omega) ?_⟩
  rw [show Jvm.FP.dcmp _ _ = some .lt from (own_cmp s1 s2).trans (by rw [(compare_lt_iff _ _).mpr (by omega)])]; decide
end OwnLaw
end Jvm.Pilot.@@N@@
namespace Jvm.Pilot.@@N@@
open Jvm Jvm.ClassFile Sem Op Lib Jvm.Free Jvm.Stand Jvm.LawKit Jvm.RoadKit Bundle Jvm.Pilot.@@N@@.Jvm.D
theorem d_jdk_117_6_0 : decode jdk_117_method_6_code 0 = .ok (.dload_n 0, 1) := by decide +kernel
theorem d_jdk_117_6_1 : decode jdk_117_method_6_code 1 = .ok (.dload_n 0, 1) := by decide +kernel
theorem d_jdk_117_6_2 : decode jdk_117_method_6_code 2 = .ok (.dcmp .l, 1) := by decide +kernel
theorem d_jdk_117_6_3 : decode jdk_117_method_6_code 3 = .ok (.ifCond .eq 7, 3) := by decide +kernel
theorem d_jdk_117_6_10 : decode jdk_117_method_6_code 10 = .ok (.iconst 0, 1) := by decide +kernel
theorem d_jdk_117_6_11 : decode jdk_117_method_6_code 11 = .ok (.ireturn, 1) := by decide +kernel
theorem pn_0 : plainName "java/lang/Double" = true := by first | (simp [plainName, overriddenIn]; done) | decide +kernel
theorem d_jdk_117_8_0 : decode jdk_117_method_8_code 0 = .ok (.dload_n 0, 1) := by decide +kernel
theorem d_jdk_117_8_1 : decode jdk_117_method_8_code 1 = .ok (.invokestatic 38, 3) := by decide +kernel
theorem pd_0 : parseMethodDescriptor "(D)D" = some ⟨[.double], some .double⟩ := by decide +kernel
theorem d_jdk_117_8_4 : decode jdk_117_method_8_code 4 = .ok (.ldc2_w 111, 3) := by decide +kernel
theorem d_jdk_117_8_7 : decode jdk_117_method_8_code 7 = .ok (.dcmp .g, 1) := by decide +kernel
theorem d_jdk_117_8_8 : decode jdk_117_method_8_code 8 = .ok (.ifCond .gt 7, 3) := by decide +kernel
theorem d_jdk_117_8_11 : decode jdk_117_method_8_code 11 = .ok (.iconst 1, 1) := by decide +kernel
theorem d_jdk_117_8_12 : decode jdk_117_method_8_code 12 = .ok (.goto 4, 3) := by decide +kernel
theorem d_jdk_117_8_16 : decode jdk_117_method_8_code 16 = .ok (.ireturn, 1) := by decide +kernel
theorem d_jdk_117_23_0 : decode jdk_117_method_23_code 0 = .ok (.dload_n 0, 1) := by decide +kernel
theorem d_jdk_117_23_1 : decode jdk_117_method_23_code 1 = .ok (.invokestatic 122, 3) := by decide +kernel
theorem pd_1 : parseMethodDescriptor "(D)Z" = some ⟨[.double], some .boolean⟩ := by decide +kernel
theorem d_jdk_117_23_4 : decode jdk_117_method_23_code 4 = .ok (.ifCond .ne 8, 3) := by decide +kernel
theorem d_jdk_117_23_7 : decode jdk_117_method_23_code 7 = .ok (.dload_n 0, 1) := by decide +kernel
theorem d_jdk_117_23_8 : decode jdk_117_method_23_code 8 = .ok (.invokestatic 134, 3) := by decide +kernel
theorem d_jdk_117_23_11 : decode jdk_117_method_23_code 11 = .ok (.lreturn, 1) := by decide +kernel
theorem d_jdk_117_27_0 : decode jdk_117_method_27_code 0 = .ok (.dload_n 0, 1) := by decide +kernel
theorem d_jdk_117_27_1 : decode jdk_117_method_27_code 1 = .ok (.dload_n 2, 1) := by decide +kernel
theorem d_jdk_117_27_2 : decode jdk_117_method_27_code 2 = .ok (.dcmp .g, 1) := by decide +kernel
theorem d_jdk_117_27_3 : decode jdk_117_method_27_code 3 = .ok (.ifCond .ge 5, 3) := by decide +kernel
theorem d_jdk_117_27_6 : decode jdk_117_method_27_code 6 = .ok (.iconst (-1), 1) := by decide +kernel
theorem d_jdk_117_27_7 : decode jdk_117_method_27_code 7 = .ok (.ireturn, 1) := by decide +kernel
theorem d_jdk_117_27_8 : decode jdk_117_method_27_code 8 = .ok (.dload_n 0, 1) := by decide +kernel
theorem d_jdk_117_27_9 : decode jdk_117_method_27_code 9 = .ok (.dload_n 2, 1) := by decide +kernel
theorem d_jdk_117_27_10 : decode jdk_117_method_27_code 10 = .ok (.dcmp .l, 1) := by decide +kernel
theorem d_jdk_117_27_11 : decode jdk_117_method_27_code 11 = .ok (.ifCond .le 5, 3) := by decide +kernel
theorem d_jdk_117_27_16 : decode jdk_117_method_27_code 16 = .ok (.dload_n 0, 1) := by decide +kernel
theorem d_jdk_117_27_17 : decode jdk_117_method_27_code 17 = .ok (.invokestatic 46, 3) := by decide +kernel
theorem pd_2 : parseMethodDescriptor "(D)J" = some ⟨[.double], some .long⟩ := by decide +kernel
theorem d_jdk_117_27_20 : decode jdk_117_method_27_code 20 = .ok (.lstore 4, 2) := by decide +kernel
theorem d_jdk_117_27_22 : decode jdk_117_method_27_code 22 = .ok (.dload_n 2, 1) := by decide +kernel
theorem d_jdk_117_27_23 : decode jdk_117_method_27_code 23 = .ok (.invokestatic 46, 3) := by decide +kernel
theorem d_jdk_117_27_26 : decode jdk_117_method_27_code 26 = .ok (.lstore 6, 2) := by decide +kernel
theorem d_jdk_117_27_28 : decode jdk_117_method_27_code 28 = .ok (.lload 4, 2) := by decide +kernel
theorem d_jdk_117_27_30 : decode jdk_117_method_27_code 30 = .ok (.lload 6, 2) := by decide +kernel
theorem d_jdk_117_27_32 : decode jdk_117_method_27_code 32 = .ok (.lcmp, 1) := by decide +kernel
theorem d_jdk_117_27_33 : decode jdk_117_method_27_code 33 = .ok (.ifCond .ne 7, 3) := by decide +kernel
theorem d_jdk_117_27_36 : decode jdk_117_method_27_code 36 = .ok (.iconst 0, 1) := by decide +kernel
theorem d_jdk_117_27_37 : decode jdk_117_method_27_code 37 = .ok (.goto 16, 3) := by decide +kernel
theorem d_jdk_117_27_53 : decode jdk_117_method_27_code 53 = .ok (.ireturn, 1) := by decide +kernel
theorem d_prog_11_7_0 : decode prog_11_method_7_code 0 = .ok (.aload_n 0, 1) := by decide +kernel
theorem d_prog_11_7_1 : decode prog_11_method_7_code 1 = .ok (.getfield 13, 3) := by decide +kernel
theorem d_prog_11_7_4 : decode prog_11_method_7_code 4 = .ok (.aload_n 0, 1) := by decide +kernel
theorem d_prog_11_7_5 : decode prog_11_method_7_code 5 = .ok (.getfield 7, 3) := by decide +kernel
theorem d_prog_11_7_8 : decode prog_11_method_7_code 8 = .ok (.arraylength, 1) := by decide +kernel
theorem d_prog_11_7_9 : decode prog_11_method_7_code 9 = .ok (.i2d, 1) := by decide +kernel
theorem d_prog_11_7_10 : decode prog_11_method_7_code 10 = .ok (.dmul, 1) := by decide +kernel
theorem d_prog_11_7_11 : decode prog_11_method_7_code 11 = .ok (.ldc2_w 76, 3) := by decide +kernel
theorem d_prog_11_7_14 : decode prog_11_method_7_code 14 = .ok (.dmul, 1) := by decide +kernel
theorem d_prog_11_7_15 : decode prog_11_method_7_code 15 = .ok (.dreturn, 1) := by decide +kernel
theorem pn_1 : plainName "com/example/honeyguide/honeyguide/ExactSum" = true := by first | (simp [plainName, overriddenIn]; done) | decide +kernel
theorem d_prog_11_6_0 : decode prog_11_method_6_code 0 = .ok (.aload_n 0, 1) := by decide +kernel
theorem d_prog_11_6_1 : decode prog_11_method_6_code 1 = .ok (.invokevirtual 58, 3) := by decide +kernel
theorem pd_3 : parseMethodDescriptor "()D" = some ⟨[], some .double⟩ := by decide +kernel
theorem d_prog_11_6_4 : decode prog_11_method_6_code 4 = .ok (.aload_n 1, 1) := by decide +kernel
theorem d_prog_11_6_5 : decode prog_11_method_6_code 5 = .ok (.invokevirtual 58, 3) := by decide +kernel
theorem d_prog_11_6_8 : decode prog_11_method_6_code 8 = .ok (.dadd, 1) := by decide +kernel
theorem d_prog_11_6_9 : decode prog_11_method_6_code 9 = .ok (.dstore_n 2, 1) := by decide +kernel
theorem d_prog_11_6_10 : decode prog_11_method_6_code 10 = .ok (.aload_n 0, 1) := by decide +kernel
theorem d_prog_11_6_11 : decode prog_11_method_6_code 11 = .ok (.getfield 25, 3) := by decide +kernel
theorem d_prog_11_6_14 : decode prog_11_method_6_code 14 = .ok (.invokestatic 62, 3) := by decide +kernel
theorem d_prog_11_6_17 : decode prog_11_method_6_code 17 = .ok (.ifCond .ne 52, 3) := by decide +kernel
theorem d_prog_11_6_20 : decode prog_11_method_6_code 20 = .ok (.aload_n 1, 1) := by decide +kernel
theorem d_prog_11_6_21 : decode prog_11_method_6_code 21 = .ok (.getfield 25, 3) := by decide +kernel
theorem d_prog_11_6_24 : decode prog_11_method_6_code 24 = .ok (.invokestatic 62, 3) := by decide +kernel
theorem d_prog_11_6_27 : decode prog_11_method_6_code 27 = .ok (.ifCond .ne 42, 3) := by decide +kernel
theorem d_prog_11_6_30 : decode prog_11_method_6_code 30 = .ok (.aload_n 0, 1) := by decide +kernel
theorem d_prog_11_6_31 : decode prog_11_method_6_code 31 = .ok (.getfield 13, 3) := by decide +kernel
theorem d_prog_11_6_34 : decode prog_11_method_6_code 34 = .ok (.aload_n 1, 1) := by decide +kernel
theorem d_prog_11_6_35 : decode prog_11_method_6_code 35 = .ok (.getfield 13, 3) := by decide +kernel
theorem d_prog_11_6_38 : decode prog_11_method_6_code 38 = .ok (.invokestatic 65, 3) := by decide +kernel
theorem pd_4 : parseMethodDescriptor "(DD)I" = some ⟨[.double, .double], some .int⟩ := by decide +kernel
theorem d_prog_11_6_41 : decode prog_11_method_6_code 41 = .ok (.istore 5, 2) := by decide +kernel
theorem d_prog_11_6_43 : decode prog_11_method_6_code 43 = .ok (.iload 5, 2) := by decide +kernel
theorem d_prog_11_6_45 : decode prog_11_method_6_code 45 = .ok (.ifCond .eq 8, 3) := by decide +kernel
theorem d_prog_11_6_53 : decode prog_11_method_6_code 53 = .ok (.aload_n 0, 1) := by decide +kernel
theorem d_prog_11_6_54 : decode prog_11_method_6_code 54 = .ok (.getfield 25, 3) := by decide +kernel
theorem d_prog_11_6_57 : decode prog_11_method_6_code 57 = .ok (.aload_n 1, 1) := by decide +kernel
theorem d_prog_11_6_58 : decode prog_11_method_6_code 58 = .ok (.getfield 25, 3) := by decide +kernel
theorem d_prog_11_6_61 : decode prog_11_method_6_code 61 = .ok (.invokestatic 65, 3) := by decide +kernel
theorem d_prog_11_6_64 : decode prog_11_method_6_code 64 = .ok (.istore 4, 2) := by decide +kernel
theorem d_prog_11_6_66 : decode prog_11_method_6_code 66 = .ok (.goto 56, 3) := by decide +kernel
theorem d_prog_11_6_122 : decode prog_11_method_6_code 122 = .ok (.iload 4, 2) := by decide +kernel
theorem d_prog_11_6_124 : decode prog_11_method_6_code 124 = .ok (.ireturn, 1) := by decide +kernel
theorem d_prog_11_6_48 : decode prog_11_method_6_code 48 = .ok (.iload 5, 2) := by decide +kernel
theorem d_prog_11_6_50 : decode prog_11_method_6_code 50 = .ok (.goto 14, 3) := by decide +kernel
theorem d_prog_11_1_0 : decode prog_11_method_1_code 0 = .ok (.aload_n 0, 1) := by decide +kernel
theorem d_prog_11_1_1 : decode prog_11_method_1_code 1 = .ok (.invokespecial 1, 3) := by decide +kernel
theorem d_prog_11_1_4 : decode prog_11_method_1_code 4 = .ok (.aload_n 0, 1) := by decide +kernel
theorem d_prog_11_1_5 : decode prog_11_method_1_code 5 = .ok (.aload_n 1, 1) := by decide +kernel
theorem d_prog_11_1_6 : decode prog_11_method_1_code 6 = .ok (.putfield 7, 3) := by decide +kernel
theorem d_prog_11_1_9 : decode prog_11_method_1_code 9 = .ok (.dconst 0, 1) := by decide +kernel
theorem d_prog_11_1_10 : decode prog_11_method_1_code 10 = .ok (.dstore_n 2, 1) := by decide +kernel
theorem d_prog_11_1_11 : decode prog_11_method_1_code 11 = .ok (.aload_n 1, 1) := by decide +kernel
theorem d_prog_11_1_12 : decode prog_11_method_1_code 12 = .ok (.astore 4, 2) := by decide +kernel
theorem d_prog_11_1_14 : decode prog_11_method_1_code 14 = .ok (.aload 4, 2) := by decide +kernel
theorem d_prog_11_1_16 : decode prog_11_method_1_code 16 = .ok (.arraylength, 1) := by decide +kernel
theorem d_prog_11_1_17 : decode prog_11_method_1_code 17 = .ok (.istore 5, 2) := by decide +kernel
theorem d_prog_11_1_19 : decode prog_11_method_1_code 19 = .ok (.iconst 0, 1) := by decide +kernel
theorem d_prog_11_1_20 : decode prog_11_method_1_code 20 = .ok (.istore 6, 2) := by decide +kernel
theorem d_prog_11_1_22 : decode prog_11_method_1_code 22 = .ok (.iload 6, 2) := by decide +kernel
theorem d_prog_11_1_24 : decode prog_11_method_1_code 24 = .ok (.iload 5, 2) := by decide +kernel
theorem d_prog_11_1_26 : decode prog_11_method_1_code 26 = .ok (.if_icmp .ge 21, 3) := by decide +kernel
theorem d_prog_11_1_29 : decode prog_11_method_1_code 29 = .ok (.aload 4, 2) := by decide +kernel
theorem d_prog_11_1_31 : decode prog_11_method_1_code 31 = .ok (.iload 6, 2) := by decide +kernel
theorem d_prog_11_1_33 : decode prog_11_method_1_code 33 = .ok (.daload, 1) := by decide +kernel
theorem d_prog_11_1_34 : decode prog_11_method_1_code 34 = .ok (.dstore 7, 2) := by decide +kernel
theorem d_prog_11_1_36 : decode prog_11_method_1_code 36 = .ok (.dload_n 2, 1) := by decide +kernel
theorem d_prog_11_1_37 : decode prog_11_method_1_code 37 = .ok (.dload 7, 2) := by decide +kernel
theorem d_prog_11_1_39 : decode prog_11_method_1_code 39 = .ok (.dadd, 1) := by decide +kernel
theorem d_prog_11_1_40 : decode prog_11_method_1_code 40 = .ok (.dstore_n 2, 1) := by decide +kernel
theorem d_prog_11_1_41 : decode prog_11_method_1_code 41 = .ok (.iinc 6 1, 3) := by decide +kernel
theorem d_prog_11_1_44 : decode prog_11_method_1_code 44 = .ok (.goto (-22), 3) := by decide +kernel
theorem d_prog_11_1_47 : decode prog_11_method_1_code 47 = .ok (.aload_n 0, 1) := by decide +kernel
theorem d_prog_11_1_48 : decode prog_11_method_1_code 48 = .ok (.dload_n 2, 1) := by decide +kernel
theorem d_prog_11_1_49 : decode prog_11_method_1_code 49 = .ok (.putfield 13, 3) := by decide +kernel
theorem d_prog_11_1_52 : decode prog_11_method_1_code 52 = .ok (.ldc2_w 19, 3) := by decide +kernel
theorem d_prog_11_1_55 : decode prog_11_method_1_code 55 = .ok (.dstore 4, 2) := by decide +kernel
theorem d_prog_11_1_57 : decode prog_11_method_1_code 57 = .ok (.aload_n 1, 1) := by decide +kernel
theorem d_prog_11_1_58 : decode prog_11_method_1_code 58 = .ok (.arraylength, 1) := by decide +kernel
theorem d_prog_11_1_59 : decode prog_11_method_1_code 59 = .ok (.iconst 2, 1) := by decide +kernel
theorem d_prog_11_1_60 : decode prog_11_method_1_code 60 = .ok (.if_icmp .ge 9, 3) := by decide +kernel
theorem d_prog_11_1_69 : decode prog_11_method_1_code 69 = .ok (.aload_n 1, 1) := by decide +kernel
theorem d_prog_11_1_70 : decode prog_11_method_1_code 70 = .ok (.arraylength, 1) := by decide +kernel
theorem d_prog_11_1_71 : decode prog_11_method_1_code 71 = .ok (.iconst 2, 1) := by decide +kernel
theorem d_prog_11_1_72 : decode prog_11_method_1_code 72 = .ok (.if_icmp .ne 34, 3) := by decide +kernel
theorem d_prog_11_1_75 : decode prog_11_method_1_code 75 = .ok (.dload_n 2, 1) := by decide +kernel
theorem d_prog_11_1_76 : decode prog_11_method_1_code 76 = .ok (.invokestatic 21, 3) := by decide +kernel
theorem d_prog_11_1_79 : decode prog_11_method_1_code 79 = .ok (.ifCond .eq 27, 3) := by decide +kernel
theorem d_prog_11_1_82 : decode prog_11_method_1_code 82 = .ok (.dload_n 2, 1) := by decide +kernel
theorem d_prog_11_1_83 : decode prog_11_method_1_code 83 = .ok (.aload_n 1, 1) := by decide +kernel
theorem d_prog_11_1_84 : decode prog_11_method_1_code 84 = .ok (.iconst 0, 1) := by decide +kernel
theorem d_prog_11_1_85 : decode prog_11_method_1_code 85 = .ok (.daload, 1) := by decide +kernel
theorem d_prog_11_1_86 : decode prog_11_method_1_code 86 = .ok (.dsub, 1) := by decide +kernel
theorem d_prog_11_1_87 : decode prog_11_method_1_code 87 = .ok (.dstore 6, 2) := by decide +kernel
theorem d_prog_11_1_89 : decode prog_11_method_1_code 89 = .ok (.aload_n 1, 1) := by decide +kernel
theorem d_prog_11_1_90 : decode prog_11_method_1_code 90 = .ok (.iconst 0, 1) := by decide +kernel
theorem d_prog_11_1_91 : decode prog_11_method_1_code 91 = .ok (.daload, 1) := by decide +kernel
theorem d_prog_11_1_92 : decode prog_11_method_1_code 92 = .ok (.dload_n 2, 1) := by decide +kernel
theorem d_prog_11_1_93 : decode prog_11_method_1_code 93 = .ok (.dload 6, 2) := by decide +kernel
theorem d_prog_11_1_95 : decode prog_11_method_1_code 95 = .ok (.dsub, 1) := by decide +kernel
theorem d_prog_11_1_96 : decode prog_11_method_1_code 96 = .ok (.dsub, 1) := by decide +kernel
theorem d_prog_11_1_97 : decode prog_11_method_1_code 97 = .ok (.aload_n 1, 1) := by decide +kernel
theorem d_prog_11_1_98 : decode prog_11_method_1_code 98 = .ok (.iconst 1, 1) := by decide +kernel
theorem d_prog_11_1_99 : decode prog_11_method_1_code 99 = .ok (.daload, 1) := by decide +kernel
theorem d_prog_11_1_100 : decode prog_11_method_1_code 100 = .ok (.dload 6, 2) := by decide +kernel
theorem d_prog_11_1_102 : decode prog_11_method_1_code 102 = .ok (.dsub, 1) := by decide +kernel
theorem d_prog_11_1_103 : decode prog_11_method_1_code 103 = .ok (.dadd, 1) := by decide +kernel
theorem d_prog_11_1_104 : decode prog_11_method_1_code 104 = .ok (.dstore 4, 2) := by decide +kernel
theorem d_prog_11_1_106 : decode prog_11_method_1_code 106 = .ok (.aload_n 0, 1) := by decide +kernel
theorem d_prog_11_1_107 : decode prog_11_method_1_code 107 = .ok (.dload 4, 2) := by decide +kernel
theorem d_prog_11_1_109 : decode prog_11_method_1_code 109 = .ok (.putfield 25, 3) := by decide +kernel
theorem d_prog_11_1_112 : decode prog_11_method_1_code 112 = .ok (.return_, 1) := by decide +kernel
theorem d_prog_11_2_0 : decode prog_11_method_2_code 0 = .ok (.new 8, 3) := by decide +kernel
theorem d_prog_11_2_3 : decode prog_11_method_2_code 3 = .ok (.dup, 1) := by decide +kernel
theorem d_prog_11_2_4 : decode prog_11_method_2_code 4 = .ok (.aload_n 0, 1) := by decide +kernel
theorem d_prog_11_2_5 : decode prog_11_method_2_code 5 = .ok (.invokevirtual 28, 3) := by decide +kernel
theorem d_prog_11_2_8 : decode prog_11_method_2_code 8 = .ok (.checkcast 29, 3) := by decide +kernel
theorem d_prog_11_2_11 : decode prog_11_method_2_code 11 = .ok (.invokespecial 33, 3) := by decide +kernel
theorem pd_5 : parseMethodDescriptor "([D)V" = some ⟨[(.array .double)], none⟩ := by decide +kernel
theorem d_prog_11_2_14 : decode prog_11_method_2_code 14 = .ok (.areturn, 1) := by decide +kernel
theorem d_prog_8_6_0 : decode prog_8_method_6_code 0 = .ok (.aload_n 0, 1) := by decide +kernel
theorem d_prog_8_6_1 : decode prog_8_method_6_code 1 = .ok (.getstatic 3, 3) := by decide +kernel
theorem d_prog_8_6_4 : decode prog_8_method_6_code 4 = .ok (.if_acmp .ne 12, 3) := by decide +kernel
theorem d_prog_8_6_7 : decode prog_8_method_6_code 7 = .ok (.aload_n 1, 1) := by decide +kernel
theorem d_prog_8_6_8 : decode prog_8_method_6_code 8 = .ok (.invokestatic 37, 3) := by decide +kernel
theorem pd_6 : parseMethodDescriptor "([D)Lcom/example/honeyguide/honeyguide/ExactSum;" = some ⟨[(.array .double)], some (.object "com/example/honeyguide/honeyguide/ExactSum")⟩ := by decide +kernel
theorem d_prog_8_6_11 : decode prog_8_method_6_code 11 = .ok (.astore 4, 2) := by decide +kernel
theorem d_prog_8_6_13 : decode prog_8_method_6_code 13 = .ok (.goto 63, 3) := by decide +kernel
theorem d_prog_8_6_76 : decode prog_8_method_6_code 76 = .ok (.aload 4, 2) := by decide +kernel
theorem d_prog_8_6_78 : decode prog_8_method_6_code 78 = .ok (.areturn, 1) := by decide +kernel
theorem pn_2 : plainName "com/example/honeyguide/honeyguide/CoverCost" = true := by first | (simp [plainName, overriddenIn]; done) | decide +kernel
theorem d_prog_8_6_16 : decode prog_8_method_6_code 16 = .ok (.dconst 0, 1) := by decide +kernel
theorem d_prog_8_6_17 : decode prog_8_method_6_code 17 = .ok (.dstore 5, 2) := by decide +kernel
theorem d_prog_8_6_19 : decode prog_8_method_6_code 19 = .ok (.aload_n 1, 1) := by decide +kernel
theorem d_prog_8_6_20 : decode prog_8_method_6_code 20 = .ok (.astore 7, 2) := by decide +kernel
theorem d_prog_8_6_22 : decode prog_8_method_6_code 22 = .ok (.aload 7, 2) := by decide +kernel
theorem d_prog_8_6_24 : decode prog_8_method_6_code 24 = .ok (.arraylength, 1) := by decide +kernel
theorem d_prog_8_6_25 : decode prog_8_method_6_code 25 = .ok (.istore 8, 2) := by decide +kernel
theorem d_prog_8_6_27 : decode prog_8_method_6_code 27 = .ok (.iconst 0, 1) := by decide +kernel
theorem d_prog_8_6_28 : decode prog_8_method_6_code 28 = .ok (.istore 9, 2) := by decide +kernel
theorem d_prog_8_6_30 : decode prog_8_method_6_code 30 = .ok (.iload 9, 2) := by decide +kernel
theorem d_prog_8_6_32 : decode prog_8_method_6_code 32 = .ok (.iload 8, 2) := by decide +kernel
theorem d_prog_8_6_34 : decode prog_8_method_6_code 34 = .ok (.if_icmp .ge 25, 3) := by decide +kernel
theorem d_prog_8_6_37 : decode prog_8_method_6_code 37 = .ok (.aload 7, 2) := by decide +kernel
theorem d_prog_8_6_39 : decode prog_8_method_6_code 39 = .ok (.iload 9, 2) := by decide +kernel
theorem d_prog_8_6_41 : decode prog_8_method_6_code 41 = .ok (.daload, 1) := by decide +kernel
theorem d_prog_8_6_42 : decode prog_8_method_6_code 42 = .ok (.dstore 10, 2) := by decide +kernel
theorem d_prog_8_6_44 : decode prog_8_method_6_code 44 = .ok (.dload 5, 2) := by decide +kernel
theorem d_prog_8_6_46 : decode prog_8_method_6_code 46 = .ok (.dload 10, 2) := by decide +kernel
theorem d_prog_8_6_48 : decode prog_8_method_6_code 48 = .ok (.invokestatic 43, 3) := by decide +kernel
theorem pd_7 : parseMethodDescriptor "(DD)D" = some ⟨[.double, .double], some .double⟩ := by decide +kernel
theorem d_prog_8_6_51 : decode prog_8_method_6_code 51 = .ok (.dstore 5, 2) := by decide +kernel
theorem d_prog_8_6_53 : decode prog_8_method_6_code 53 = .ok (.iinc 9 1, 3) := by decide +kernel
theorem d_prog_8_6_56 : decode prog_8_method_6_code 56 = .ok (.goto (-26), 3) := by decide +kernel
theorem d_prog_8_6_59 : decode prog_8_method_6_code 59 = .ok (.iconst 2, 1) := by decide +kernel
theorem d_prog_8_6_60 : decode prog_8_method_6_code 60 = .ok (.newarray .double, 2) := by decide +kernel
theorem d_prog_8_6_62 : decode prog_8_method_6_code 62 = .ok (.dup, 1) := by decide +kernel
theorem d_prog_8_6_63 : decode prog_8_method_6_code 63 = .ok (.iconst 0, 1) := by decide +kernel
theorem d_prog_8_6_64 : decode prog_8_method_6_code 64 = .ok (.dload 5, 2) := by decide +kernel
theorem d_prog_8_6_66 : decode prog_8_method_6_code 66 = .ok (.dastore, 1) := by decide +kernel
theorem d_prog_8_6_67 : decode prog_8_method_6_code 67 = .ok (.dup, 1) := by decide +kernel
theorem d_prog_8_6_68 : decode prog_8_method_6_code 68 = .ok (.iconst 1, 1) := by decide +kernel
theorem d_prog_8_6_69 : decode prog_8_method_6_code 69 = .ok (.dload_n 2, 1) := by decide +kernel
theorem d_prog_8_6_70 : decode prog_8_method_6_code 70 = .ok (.dastore, 1) := by decide +kernel
theorem d_prog_8_6_71 : decode prog_8_method_6_code 71 = .ok (.invokestatic 37, 3) := by decide +kernel
theorem d_prog_8_6_74 : decode prog_8_method_6_code 74 = .ok (.astore 4, 2) := by decide +kernel
theorem d_prog_8_5_0 : decode prog_8_method_5_code 0 = .ok (.aload_n 0, 1) := by decide +kernel
theorem d_prog_8_5_1 : decode prog_8_method_5_code 1 = .ok (.getstatic 7, 3) := by decide +kernel
theorem d_prog_8_5_4 : decode prog_8_method_5_code 4 = .ok (.if_acmp .ne 7, 3) := by decide +kernel
theorem d_prog_8_5_7 : decode prog_8_method_5_code 7 = .ok (.iconst 1, 1) := by decide +kernel
theorem d_prog_8_5_8 : decode prog_8_method_5_code 8 = .ok (.goto 4, 3) := by decide +kernel
theorem d_prog_8_5_12 : decode prog_8_method_5_code 12 = .ok (.ireturn, 1) := by decide +kernel
theorem d_prog_8_5_11 : decode prog_8_method_5_code 11 = .ok (.iconst 0, 1) := by decide +kernel
theorem pd_8 : parseMethodDescriptor "([DD)Lcom/example/honeyguide/honeyguide/ExactSum;" = some ⟨[(.array .double), .double], some (.object "com/example/honeyguide/honeyguide/ExactSum")⟩ := by decide +kernel
theorem pd_9 : parseMethodDescriptor "(Lcom/example/honeyguide/honeyguide/ExactSum;)I" = some ⟨[(.object "com/example/honeyguide/honeyguide/ExactSum")], some .int⟩ := by decide +kernel
theorem pd_10 : parseMethodDescriptor "()Z" = some ⟨[], some .boolean⟩ := by decide +kernel
theorem pn_3 : plainName "com/example/honeyguide/honeyguide/CoverCostWeighsDiameterPinLaw" = true := by first | (simp [plainName, overriddenIn]; done) | decide +kernel
theorem ef_n (m : MethodId) (x0 : UInt64) : entryFrame m #[(.double x0)] 2 = mkF m 0 #[.val (.double x0), .second] [] := by first | (simp [entryFrame, mkF, argsToLocals, Value.category]; done) | rfl
def Qn (Z : State) (x1 : UInt64) (h0 : Heap) (n0 : Nat) (v : Option Value) (h : Heap) (L : List Loc) : Prop := v = some (.int (0 : Int32)) ∧ Fr n0 L ∧ h = h0
set_option maxRecDepth 65536 in
set_option maxHeartbeats 40000000 in
theorem rmn (l : Launch) (Z : State) (a0 : Array Value) (hw : ∀ d ∈ tables_1, d.before a0 Z = true) (ws : List Jvm.Cond) (x1 : UInt64) (h0 : Heap) (n0 : Nat) (Z0 : n0 ≤ h0.size) (nn : Jvm.Free.Fl.NoNaN64 x1) :
    MetFree l (⟨"java/lang/Double", "isNaN", "(D)Z"⟩ : MethodName) (head1 (Jvm.Cond.code (⟨"java/lang/Double", "isNaN", "(D)Z"⟩ : MethodName) jdk_117_method_6_code 2 (some .boolean) :: ws) ({ frames := 0, cells := 0, slots := 0, locals := 0 } : Room)) (fun a U => a = #[(.double x1)] ∧ Z.Warmed39 U.vm ∧ U.heap = h0) (fun _ _ _ _ _ => True) (fun _ U o U' => ∃ v L, o = .returned v ∧ Qn Z x1 h0 n0 v U'.heap L ∧ FrameEnd U o U' L ({ frames := 0, cells := 0, slots := 0, locals := 0 } : Room).cells ({ frames := 0, cells := 0, slots := 0, locals := 0 } : Room).slots) := by
  refine MetFree.of_bodySF (plainFor_of_name pn_0) hisR ?_
  intro p e s m args below meth c s₁ Bd hml0 hP hK
  obtain ⟨rfl, hZ, hh⟩ := hP
  have hlk : meth.locks = false := BodyLoose.notSynchronized Bd
  have hx := Bd.exec
  have hby := Bd.bytes
  have hml : c.maxLocals = 2 := hml0
  have hown : s.vm.findClass "java/lang/Double" = some m.cls := findClass_of_methodNamed Bd.named
  have hnm := (name_of_methodNamed Bd.named Bd.method).1
  have X0 : Stand p l e ({ frames := 0, cells := 0, slots := 0, locals := 0 } : Room) s m #[(.double x1)] below meth c s₁ [] 0 0 := Stand.of_body Bd
  have e0 : s₁.heap = h0 := by rw [← hh, Bd.state]; rfl
  have N0 := Fr.nil n0
  obtain ⟨A, hA⟩ : ∃ A, A = s₁.setTop (mkF m 0 #[.val (.double x1), .second] []) := ⟨_, rfl⟩
  have hA0 : ∀ t, Steps p.tables e below A t → Steps p.tables e below (s₁.setTop (entryFrame m #[(.double x1)] 2)) t := fun t k => castTop (ef_n m x1) (hA ▸ k)
  have k0 : ∀ t, Steps p.tables e below (s₁.setTop (mkF m 0 #[.val (.double x1), .second] [])) t → Steps p.tables e below A t := fun t k => hA ▸ k
  obtain ⟨fs, hr, hrun, hended, hW, hsame⟩ := X0.leave (v := some (.int (0 : Int32))) (fun h => by rw [Bd.returns] at h; cases h) hlk
  refine ⟨_, _, ?_, hrun, hended, _, _, rfl, ?_, ⟨_, rfl⟩, hW, hsame.mono (by decide) (by decide)⟩
  · refine hA0 _ ?_
    refine k0 _ ?_
    refine own_f_dloadN X0.here hx (hb hby d_jdk_117_6_0) rfl (rfl : _ = 1) ?_
    refine own_f_dloadN X0.here hx (hb hby d_jdk_117_6_1) rfl (rfl : _ = 2) ?_
    refine own_f_dcmp X0.here hx (hb hby d_jdk_117_6_2) rfl (rfl : _ = 3) ?_
    refine own_f_ifYes X0.here hx (hb hby d_jdk_117_6_3) ((if0 _ _).trans (teq (dcmpV_self nn .l)).1) (by decide) (by decide : _ = 10) ?_
    refine own_f_iconst X0.here hx (hb hby d_jdk_117_6_10) (rfl : _ = (0 : Int32)) (rfl : _ = 11) ?_
    exact retN X0 hx (t := .boolean) Bd.returns (by simp) (hb hby d_jdk_117_6_11) hr
  · show Qn Z x1 h0 n0 _ s₁.heap _
    rw [e0]
    exact ⟨rfl, N0, rfl⟩
theorem ef_f (m : MethodId) (x0 : UInt64) : entryFrame m #[(.double x0)] 2 = mkF m 0 #[.val (.double x0), .second] [] := by first | (simp [entryFrame, mkF, argsToLocals, Value.category]; done) | rfl
def Qf (Z : State) (x1 : UInt64) (h0 : Heap) (n0 : Nat) (v : Option Value) (h : Heap) (L : List Loc) : Prop := v = some (.int (1 : Int32)) ∧ Fr n0 L ∧ h = h0
set_option maxRecDepth 65536 in
set_option maxHeartbeats 40000000 in
theorem rmf (l : Launch) (Z : State) (a0 : Array Value) (hw : ∀ d ∈ tables_1, d.before a0 Z = true) (ws : List Jvm.Cond) (x1 : UInt64) (h0 : Heap) (n0 : Nat) (Z0 : n0 ≤ h0.size) (nn : Jvm.Free.Fl.NoNaN64 x1) (hf : ¬ ((0 : Int32) < (cmpValue (FP.dcmp (x1 &&& 0x7fffffffffffffff) (9218868437227405311 : UInt64)) .g))) :
    MetFree l (⟨"java/lang/Double", "isFinite", "(D)Z"⟩ : MethodName) (head1 (Jvm.Cond.code (⟨"java/lang/Double", "isFinite", "(D)Z"⟩ : MethodName) jdk_117_method_8_code 2 (some .boolean) :: ws) ({ frames := 1, cells := 0, slots := 0, locals := 13 } : Room)) (fun a U => a = #[(.double x1)] ∧ Z.Warmed39 U.vm ∧ U.heap = h0) (fun _ _ _ _ _ => True) (fun _ U o U' => ∃ v L, o = .returned v ∧ Qf Z x1 h0 n0 v U'.heap L ∧ FrameEnd U o U' L ({ frames := 1, cells := 0, slots := 0, locals := 13 } : Room).cells ({ frames := 1, cells := 0, slots := 0, locals := 13 } : Room).slots) := by
  refine MetFree.of_bodySF (plainFor_of_name pn_0) hisR ?_
  intro p e s m args below meth c s₁ Bd hml0 hP hK
  obtain ⟨rfl, hZ, hh⟩ := hP
  have hlk : meth.locks = false := BodyLoose.notSynchronized Bd
  have hx := Bd.exec
  have hby := Bd.bytes
  have hml : c.maxLocals = 2 := hml0
  have hown : s.vm.findClass "java/lang/Double" = some m.cls := findClass_of_methodNamed Bd.named
  have hnm := (name_of_methodNamed Bd.named Bd.method).1
  have X0 : Stand p l e ({ frames := 1, cells := 0, slots := 0, locals := 13 } : Room) s m #[(.double x1)] below meth c s₁ [] 0 0 := Stand.of_body Bd
  have e0 : s₁.heap = h0 := by rw [← hh, Bd.state]; rfl
  have N0 := Fr.nil n0
  obtain ⟨A, hA⟩ : ∃ A, A = s₁.setTop (mkF m 0 #[.val (.double x1), .second] []) := ⟨_, rfl⟩
  have hA0 : ∀ t, Steps p.tables e below A t → Steps p.tables e below (s₁.setTop (entryFrame m #[(.double x1)] 2)) t := fun t k => castTop (ef_f m x1) (hA ▸ k)
  have k0 : ∀ t, Steps p.tables e below (s₁.setTop (mkF m 0 #[.val (.double x1), .second] [])) t → Steps p.tables e below A t := fun t k => hA ▸ k
  obtain ⟨T1, X1, e1, st1⟩ := natS X0 hx hZ hown (hw _ (List.mem_of_getElem? (i := 41) rfl)) (hw _ (List.mem_of_getElem? (i := 42) rfl)) (hw _ (List.mem_of_getElem? (i := 43) rfl)) (hw _ (List.mem_of_getElem? (i := 44) rfl)) (by decide) e0 (W := 0) (val' := (.double (x1 &&& 0x7fffffffffffffff))) (fun c => Jvm.Free.Fl.Abs.absD_pays x1 c (by decide) (by decide)) (g := (mkF m 1 #[.val (.double x1), .second] [(.double x1)])) rfl (by rw [hml]; rfl) (argsL := [(.double x1)]) (rest := []) (lenOf pd_0 rfl) rfl (by show 2 * 0 + _ ≤ _; exact Nat.le_of_eq rfl) (hb hby d_jdk_117_8_1) (by decide) (by decide) ⟨rfl, nn⟩ rfl
  obtain ⟨fs, hr, hrun, hended, hW, hsame⟩ := X1.leave (v := some (.int (1 : Int32))) (fun h => by rw [Bd.returns] at h; cases h) hlk
  refine ⟨_, _, ?_, hrun, hended, _, _, rfl, ?_, ⟨_, rfl⟩, hW, hsame.mono (by decide) (by decide)⟩
  · refine hA0 _ ?_
    refine k0 _ ?_
    refine own_f_dloadN X0.here hx (hb hby d_jdk_117_8_0) rfl (rfl : _ = 1) ?_
    refine st1 _ ?_
    show Steps p.tables e below (T1.setTop (mkF m 4 #[.val (.double x1), .second] [(.double (x1 &&& 0x7fffffffffffffff))])) _
    refine own_f_ldc2DoubleC X1 hx hown (mvT hZ (hw _ (List.mem_of_getElem? (i := 45) rfl))) (hb hby d_jdk_117_8_4) (rfl : _ = 7) ?_
    refine own_f_dcmp X1.here hx (hb hby d_jdk_117_8_7) rfl (rfl : _ = 8) ?_
    refine own_f_ifNo X1.here hx (hb hby d_jdk_117_8_8) ((if0 _ _).trans (flt (hf)).2.2.1) (rfl : _ = 11) ?_
    refine own_f_iconst X1.here hx (hb hby d_jdk_117_8_11) (rfl : _ = (1 : Int32)) (rfl : _ = 12) ?_
    refine own_f_goto X1.here hx (hb hby d_jdk_117_8_12) (by decide) (by decide : _ = 16) ?_
    exact retN X1 hx (t := .boolean) Bd.returns (by simp) (hb hby d_jdk_117_8_16) hr
  · show Qf Z x1 h0 n0 _ T1.heap _
    rw [e1]
    exact ⟨rfl, N0, rfl⟩
theorem ef_l (m : MethodId) (x0 : UInt64) : entryFrame m #[(.double x0)] 2 = mkF m 0 #[.val (.double x0), .second] [] := by first | (simp [entryFrame, mkF, argsToLocals, Value.category]; done) | rfl
def Ql (Z : State) (x1 : UInt64) (h0 : Heap) (n0 : Nat) (v : Option Value) (h : Heap) (L : List Loc) : Prop := v = some (.long (x1.toInt64)) ∧ Fr n0 L ∧ h = h0
set_option maxRecDepth 65536 in
set_option maxHeartbeats 40000000 in
theorem rml (l : Launch) (Z : State) (a0 : Array Value) (hw : ∀ d ∈ tables_1, d.before a0 Z = true) (ws : List Jvm.Cond) (x1 : UInt64) (h0 : Heap) (n0 : Nat) (Z0 : n0 ≤ h0.size) (nn : Jvm.Free.Fl.NoNaN64 x1) :
    MetFree l (⟨"java/lang/Double", "doubleToLongBits", "(D)J"⟩ : MethodName) (head1 (Jvm.Cond.code (⟨"java/lang/Double", "doubleToLongBits", "(D)J"⟩ : MethodName) jdk_117_method_23_code 2 (some .long) :: ws) ({ frames := 1, cells := 0, slots := 0, locals := 20 } : Room)) (fun a U => a = #[(.double x1)] ∧ Z.Warmed39 U.vm ∧ U.heap = h0) (fun _ _ _ _ _ => True) (fun _ U o U' => ∃ v L, o = .returned v ∧ Ql Z x1 h0 n0 v U'.heap L ∧ FrameEnd U o U' L ({ frames := 1, cells := 0, slots := 0, locals := 20 } : Room).cells ({ frames := 1, cells := 0, slots := 0, locals := 20 } : Room).slots) := by
  refine MetFree.of_bodySF (plainFor_of_name pn_0) hisR ?_
  intro p e s m args below meth c s₁ Bd hml0 hP hK
  obtain ⟨rfl, hZ, hh⟩ := hP
  have hlk : meth.locks = false := BodyLoose.notSynchronized Bd
  have hx := Bd.exec
  have hby := Bd.bytes
  have hml : c.maxLocals = 2 := hml0
  have hown : s.vm.findClass "java/lang/Double" = some m.cls := findClass_of_methodNamed Bd.named
  have hnm := (name_of_methodNamed Bd.named Bd.method).1
  have X0 : Stand p l e ({ frames := 1, cells := 0, slots := 0, locals := 20 } : Room) s m #[(.double x1)] below meth c s₁ [] 0 0 := Stand.of_body Bd
  have e0 : s₁.heap = h0 := by rw [← hh, Bd.state]; rfl
  have N0 := Fr.nil n0
  obtain ⟨A, hA⟩ : ∃ A, A = s₁.setTop (mkF m 0 #[.val (.double x1), .second] []) := ⟨_, rfl⟩
  have hA0 : ∀ t, Steps p.tables e below A t → Steps p.tables e below (s₁.setTop (entryFrame m #[(.double x1)] 2)) t := fun t k => castTop (ef_l m x1) (hA ▸ k)
  have k0 : ∀ t, Steps p.tables e below (s₁.setTop (mkF m 0 #[.val (.double x1), .second] [])) t → Steps p.tables e below A t := fun t k => hA ▸ k
  obtain ⟨_, _, ⟨T1, L1, k1_, n1⟩, -, X1, ⟨Lc1, hQ1, l1, y1, z1⟩, st1⟩ := Jvm.LawKit.callS X0 hx (y := (⟨"java/lang/Double", "isNaN", "(D)Z"⟩ : MethodName)) hown (mvT hZ (hw _ (List.mem_of_getElem? (i := 67) rfl))) (mvT hZ (hw _ (List.mem_of_getElem? (i := 59) rfl))) (mvT hZ (hw _ (List.mem_of_getElem? (i := 39) rfl))) (mvT hZ (hw _ (List.mem_of_getElem? (i := 60) rfl))) (by decide) (backOf (W := 0) (rmn l Z a0 hw [] x1  h0 n0 Z0 nn) hZ (hw _ (List.mem_of_getElem? (i := 60) rfl)) (hw _ (List.mem_of_getElem? (i := 39) rfl)) (by decide) (by decide)) (g := (mkF m 1 #[.val (.double x1), .second] [(.double x1)])) rfl (by rw [hml]; rfl) (argsL := [(.double x1)]) (rest := []) (lenOf pd_1 rfl) rfl (by show 2 * 0 + _ ≤ _; exact Nat.le_of_eq rfl) (hb hby d_jdk_117_23_1) (fun _ _ => ⟨rfl, e0, (by decide : 0 + 0 ≤ _), (by decide : 0 + 0 ≤ _)⟩)
  dsimp only [Pt.U, Pt.locs, Pt.cells, Pt.slots] at X1 l1 y1 z1 st1 hQ1
  subst l1 y1 z1
  obtain ⟨rfl, Nq1, e1⟩ := hQ1
  have N1 := Fr.app N0 Nq1
  obtain ⟨vm2, X2, st2⟩ := X1.doubleToRawLongBits hx hown (mvT hZ (hw _ (List.mem_of_getElem? (i := 68) rfl))) (mvT hZ (hw _ (List.mem_of_getElem? (i := 70) rfl))) (mvT hZ (hw _ (List.mem_of_getElem? (i := 69) rfl))) (mvT hZ (hw _ (List.mem_of_getElem? (i := 39) rfl))) (g := (mkF m 8 #[.val (.double x1), .second] [(.double x1)])) rfl (by rw [hml]; rfl) rfl (hb hby d_jdk_117_23_8) (by decide) (by show 2 * 0 + 0 + (nativeFrameWords "java/lang/Double" "doubleToRawLongBits" 2 + 11) ≤ _; decide)
  have e2 : (T1.setVm vm2).heap = h0 := e1
  obtain ⟨fs, hr, hrun, hended, hW, hsame⟩ := X2.leave (v := some (.long (x1.toInt64))) (fun h => by rw [Bd.returns] at h; cases h) hlk
  refine ⟨_, _, ?_, hrun, hended, _, _, rfl, ?_, ⟨_, rfl⟩, hW, hsame.mono (by decide) (by decide)⟩
  · refine hA0 _ ?_
    refine k0 _ ?_
    refine own_f_dloadN X0.here hx (hb hby d_jdk_117_23_0) rfl (rfl : _ = 1) ?_
    refine st1 _ ?_
    show Steps p.tables e below (T1.setTop (mkF m 4 #[.val (.double x1), .second] [(.int (0 : Int32))])) _
    refine own_f_ifNo X1.here hx (hb hby d_jdk_117_23_4) ((if0 _ _).trans (teq (rfl)).2) (rfl : _ = 7) ?_
    refine own_f_dloadN X1.here hx (hb hby d_jdk_117_23_7) rfl (rfl : _ = 8) ?_
    refine st2 _ ?_
    show Steps p.tables e below ((T1.setVm vm2).setTop (mkF m 11 #[.val (.double x1), .second] [(.long (x1.toInt64))])) _
    exact X2.lreturnOut hx Bd.returns (hb hby d_jdk_117_23_11) hr
  · show Ql Z x1 h0 n0 _ (T1.setVm vm2).heap _
    rw [e2]
    exact ⟨rfl, N1, rfl⟩
theorem ef_clt (m : MethodId) (x0 : UInt64) (x1 : UInt64) : entryFrame m #[(.double x0), (.double x1)] 8 = mkF m 0 #[.val (.double x0), .second, .val (.double x1), .second, .unset, .unset, .unset, .unset] [] := by first | (simp [entryFrame, mkF, argsToLocals, Value.category]; done) | rfl
def Qclt (Z : State) (x1 : UInt64) (x2 : UInt64) (h0 : Heap) (n0 : Nat) (v : Option Value) (h : Heap) (L : List Loc) : Prop := v = some (.int (-1 : Int32)) ∧ Fr n0 L ∧ h = h0
set_option maxRecDepth 65536 in
set_option maxHeartbeats 40000000 in
theorem rmclt (l : Launch) (Z : State) (a0 : Array Value) (hw : ∀ d ∈ tables_1, d.before a0 Z = true) (ws : List Jvm.Cond) (x1 : UInt64) (x2 : UInt64) (h0 : Heap) (n0 : Nat) (Z0 : n0 ≤ h0.size) (hlt : (cmpValue (FP.dcmp x1 x2) .g) < (0 : Int32)) :
    MetFree l (⟨"java/lang/Double", "compare", "(DD)I"⟩ : MethodName) (head1 (Jvm.Cond.code (⟨"java/lang/Double", "compare", "(DD)I"⟩ : MethodName) jdk_117_method_27_code 8 (some .int) :: ws) ({ frames := 0, cells := 0, slots := 0, locals := 0 } : Room)) (fun a U => a = #[(.double x1), (.double x2)] ∧ Z.Warmed39 U.vm ∧ U.heap = h0) (fun _ _ _ _ _ => True) (fun _ U o U' => ∃ v L, o = .returned v ∧ Qclt Z x1 x2 h0 n0 v U'.heap L ∧ FrameEnd U o U' L ({ frames := 0, cells := 0, slots := 0, locals := 0 } : Room).cells ({ frames := 0, cells := 0, slots := 0, locals := 0 } : Room).slots) := by
  refine MetFree.of_bodySF (plainFor_of_name pn_0) hisR ?_
  intro p e s m args below meth c s₁ Bd hml0 hP hK
  obtain ⟨rfl, hZ, hh⟩ := hP
  have hlk : meth.locks = false := BodyLoose.notSynchronized Bd
  have hx := Bd.exec
  have hby := Bd.bytes
  have hml : c.maxLocals = 8 := hml0
  have hown : s.vm.findClass "java/lang/Double" = some m.cls := findClass_of_methodNamed Bd.named
  have hnm := (name_of_methodNamed Bd.named Bd.method).1
  have X0 : Stand p l e ({ frames := 0, cells := 0, slots := 0, locals := 0 } : Room) s m #[(.double x1), (.double x2)] below meth c s₁ [] 0 0 := Stand.of_body Bd
  have e0 : s₁.heap = h0 := by rw [← hh, Bd.state]; rfl
  have N0 := Fr.nil n0
  obtain ⟨A, hA⟩ : ∃ A, A = s₁.setTop (mkF m 0 #[.val (.double x1), .second, .val (.double x2), .second, .unset, .unset, .unset, .unset] []) := ⟨_, rfl⟩
  have hA0 : ∀ t, Steps p.tables e below A t → Steps p.tables e below (s₁.setTop (entryFrame m #[(.double x1), (.double x2)] 8)) t := fun t k => castTop (ef_clt m x1 x2) (hA ▸ k)
  have k0 : ∀ t, Steps p.tables e below (s₁.setTop (mkF m 0 #[.val (.double x1), .second, .val (.double x2), .second, .unset, .unset, .unset, .unset] [])) t → Steps p.tables e below A t := fun t k => hA ▸ k
  obtain ⟨fs, hr, hrun, hended, hW, hsame⟩ := X0.leave (v := some (.int (-1 : Int32))) (fun h => by rw [Bd.returns] at h; cases h) hlk
  refine ⟨_, _, ?_, hrun, hended, _, _, rfl, ?_, ⟨_, rfl⟩, hW, hsame.mono (by decide) (by decide)⟩
  · refine hA0 _ ?_
    refine k0 _ ?_
    refine own_f_dloadN X0.here hx (hb hby d_jdk_117_27_0) rfl (rfl : _ = 1) ?_
    refine own_f_dloadN X0.here hx (hb hby d_jdk_117_27_1) rfl (rfl : _ = 2) ?_
    refine own_f_dcmp X0.here hx (hb hby d_jdk_117_27_2) rfl (rfl : _ = 3) ?_
    refine own_f_ifNo X0.here hx (hb hby d_jdk_117_27_3) ((if0 _ _).trans (tlt (hlt)).2.1) (rfl : _ = 6) ?_
    refine own_f_iconst X0.here hx (hb hby d_jdk_117_27_6) (rfl : _ = (-1 : Int32)) (rfl : _ = 7) ?_
    exact retI X0 hx Bd.returns (hb hby d_jdk_117_27_7) hr
  · show Qclt Z x1 x2 h0 n0 _ s₁.heap _
    rw [e0]
    exact ⟨rfl, N0, rfl⟩
theorem ef_ceq (m : MethodId) (x0 : UInt64) (x1 : UInt64) : entryFrame m #[(.double x0), (.double x1)] 8 = mkF m 0 #[.val (.double x0), .second, .val (.double x1), .second, .unset, .unset, .unset, .unset] [] := by first | (simp [entryFrame, mkF, argsToLocals, Value.category]; done) | rfl
def Qceq (Z : State) (x1 : UInt64) (x2 : UInt64) (h0 : Heap) (n0 : Nat) (v : Option Value) (h : Heap) (L : List Loc) : Prop := v = some (.int (0 : Int32)) ∧ Fr n0 L ∧ h = h0
set_option maxRecDepth 65536 in
set_option maxHeartbeats 40000000 in
theorem rmceq (l : Launch) (Z : State) (a0 : Array Value) (hw : ∀ d ∈ tables_1, d.before a0 Z = true) (ws : List Jvm.Cond) (x1 : UInt64) (x2 : UInt64) (h0 : Heap) (n0 : Nat) (Z0 : n0 ≤ h0.size) (nn : Jvm.Free.Fl.NoNaN64 x1) (he : x1 = x2) :
    MetFree l (⟨"java/lang/Double", "compare", "(DD)I"⟩ : MethodName) (head1 (Jvm.Cond.code (⟨"java/lang/Double", "compare", "(DD)I"⟩ : MethodName) jdk_117_method_27_code 8 (some .int) :: ws) ({ frames := 2, cells := 0, slots := 0, locals := 33 } : Room)) (fun a U => a = #[(.double x1), (.double x2)] ∧ Z.Warmed39 U.vm ∧ U.heap = h0) (fun _ _ _ _ _ => True) (fun _ U o U' => ∃ v L, o = .returned v ∧ Qceq Z x1 x2 h0 n0 v U'.heap L ∧ FrameEnd U o U' L ({ frames := 2, cells := 0, slots := 0, locals := 33 } : Room).cells ({ frames := 2, cells := 0, slots := 0, locals := 33 } : Room).slots) := by
  refine MetFree.of_bodySF (plainFor_of_name pn_0) hisR ?_
  intro p e s m args below meth c s₁ Bd hml0 hP hK
  obtain ⟨rfl, hZ, hh⟩ := hP
  have hlk : meth.locks = false := BodyLoose.notSynchronized Bd
  have hx := Bd.exec
  have hby := Bd.bytes
  have hml : c.maxLocals = 8 := hml0
  have hown : s.vm.findClass "java/lang/Double" = some m.cls := findClass_of_methodNamed Bd.named
  have hnm := (name_of_methodNamed Bd.named Bd.method).1
  have X0 : Stand p l e ({ frames := 2, cells := 0, slots := 0, locals := 33 } : Room) s m #[(.double x1), (.double x2)] below meth c s₁ [] 0 0 := Stand.of_body Bd
  have e0 : s₁.heap = h0 := by rw [← hh, Bd.state]; rfl
  have N0 := Fr.nil n0
  obtain ⟨A, hA⟩ : ∃ A, A = s₁.setTop (mkF m 0 #[.val (.double x1), .second, .val (.double x2), .second, .unset, .unset, .unset, .unset] []) := ⟨_, rfl⟩
  have hA0 : ∀ t, Steps p.tables e below A t → Steps p.tables e below (s₁.setTop (entryFrame m #[(.double x1), (.double x2)] 8)) t := fun t k => castTop (ef_ceq m x1 x2) (hA ▸ k)
  have k0 : ∀ t, Steps p.tables e below (s₁.setTop (mkF m 0 #[.val (.double x1), .second, .val (.double x2), .second, .unset, .unset, .unset, .unset] [])) t → Steps p.tables e below A t := fun t k => hA ▸ k
  subst he
  obtain ⟨_, _, ⟨T1, L1, k1_, n1⟩, -, X1, ⟨Lc1, hQ1, l1, y1, z1⟩, st1⟩ := Jvm.LawKit.callS X0 hx (y := (⟨"java/lang/Double", "doubleToLongBits", "(D)J"⟩ : MethodName)) hown (mvT hZ (hw _ (List.mem_of_getElem? (i := 64) rfl))) (mvT hZ (hw _ (List.mem_of_getElem? (i := 65) rfl))) (mvT hZ (hw _ (List.mem_of_getElem? (i := 39) rfl))) (mvT hZ (hw _ (List.mem_of_getElem? (i := 66) rfl))) (by decide) (backOf (W := 0) (rml l Z a0 hw [] x1  h0 n0 Z0 nn) hZ (hw _ (List.mem_of_getElem? (i := 66) rfl)) (hw _ (List.mem_of_getElem? (i := 39) rfl)) (by decide) (by decide)) (g := (mkF m 17 #[.val (.double x1), .second, .val (.double x1), .second, .unset, .unset, .unset, .unset] [(.double x1)])) rfl (by rw [hml]; rfl) (argsL := [(.double x1)]) (rest := []) (lenOf pd_2 rfl) rfl (by show 2 * 0 + _ ≤ _; exact Nat.le_of_eq rfl) (hb hby d_jdk_117_27_17) (fun _ _ => ⟨rfl, e0, (by decide : 0 + 0 ≤ _), (by decide : 0 + 0 ≤ _)⟩)
  dsimp only [Pt.U, Pt.locs, Pt.cells, Pt.slots] at X1 l1 y1 z1 st1 hQ1
  subst l1 y1 z1
  obtain ⟨rfl, Nq1, e1⟩ := hQ1
  have N1 := Fr.app N0 Nq1
  obtain ⟨_, _, ⟨T2, L2, k2_, n2⟩, -, X2, ⟨Lc2, hQ2, l2, y2, z2⟩, st2⟩ := Jvm.LawKit.callS X1 hx (y := (⟨"java/lang/Double", "doubleToLongBits", "(D)J"⟩ : MethodName)) hown (mvT hZ (hw _ (List.mem_of_getElem? (i := 64) rfl))) (mvT hZ (hw _ (List.mem_of_getElem? (i := 65) rfl))) (mvT hZ (hw _ (List.mem_of_getElem? (i := 39) rfl))) (mvT hZ (hw _ (List.mem_of_getElem? (i := 66) rfl))) (by decide) (backOf (W := 0) (rml l Z a0 hw [] x1  h0 n0 Z0 nn) hZ (hw _ (List.mem_of_getElem? (i := 66) rfl)) (hw _ (List.mem_of_getElem? (i := 39) rfl)) (by decide) (by decide)) (g := (mkF m 23 #[.val (.double x1), .second, .val (.double x1), .second, .val (.long (x1.toInt64)), .second, .unset, .unset] [(.double x1)])) rfl (by rw [hml]; rfl) (argsL := [(.double x1)]) (rest := []) (lenOf pd_2 rfl) rfl (by show 2 * 0 + _ ≤ _; exact Nat.le_of_eq rfl) (hb hby d_jdk_117_27_23) (fun _ _ => ⟨rfl, e1, (by decide : 0 + 0 ≤ _), (by decide : 0 + 0 ≤ _)⟩)
  dsimp only [Pt.U, Pt.locs, Pt.cells, Pt.slots] at X2 l2 y2 z2 st2 hQ2
  subst l2 y2 z2
  obtain ⟨rfl, Nq2, e2⟩ := hQ2
  have N2 := Fr.app N1 Nq2
  obtain ⟨fs, hr, hrun, hended, hW, hsame⟩ := X2.leave (v := some (.int (0 : Int32))) (fun h => by rw [Bd.returns] at h; cases h) hlk
  refine ⟨_, _, ?_, hrun, hended, _, _, rfl, ?_, ⟨_, rfl⟩, hW, hsame.mono (by decide) (by decide)⟩
  · refine hA0 _ ?_
    refine k0 _ ?_
    refine own_f_dloadN X0.here hx (hb hby d_jdk_117_27_0) rfl (rfl : _ = 1) ?_
    refine own_f_dloadN X0.here hx (hb hby d_jdk_117_27_1) rfl (rfl : _ = 2) ?_
    refine own_f_dcmp X0.here hx (hb hby d_jdk_117_27_2) rfl (rfl : _ = 3) ?_
    refine own_f_ifYes X0.here hx (hb hby d_jdk_117_27_3) ((if0 _ _).trans (flt (by rw [dcmpV_self nn .g]; decide)).2.1) (by decide) (by decide : _ = 8) ?_
    refine own_f_dloadN X0.here hx (hb hby d_jdk_117_27_8) rfl (rfl : _ = 9) ?_
    refine own_f_dloadN X0.here hx (hb hby d_jdk_117_27_9) rfl (rfl : _ = 10) ?_
    refine own_f_dcmp X0.here hx (hb hby d_jdk_117_27_10) rfl (rfl : _ = 11) ?_
    refine own_f_ifYes X0.here hx (hb hby d_jdk_117_27_11) ((if0 _ _).trans (flt (by rw [dcmpV_self nn .l]; decide)).2.2.2) (by decide) (by decide : _ = 16) ?_
    refine own_f_dloadN X0.here hx (hb hby d_jdk_117_27_16) rfl (rfl : _ = 17) ?_
    refine st1 _ ?_
    show Steps p.tables e below (T1.setTop (mkF m 20 #[.val (.double x1), .second, .val (.double x1), .second, .unset, .unset, .unset, .unset] [(.long (x1.toInt64))])) _
    refine own_f_lstore X1.here hx (hb hby d_jdk_117_27_20) (rfl : storeLocals _ _ _ = some #[.val (.double x1), .second, .val (.double x1), .second, .val (.long (x1.toInt64)), .second, .unset, .unset]) (rfl : _ = 22) ?_
    refine own_f_dloadN X1.here hx (hb hby d_jdk_117_27_22) rfl (rfl : _ = 23) ?_
    refine st2 _ ?_
    show Steps p.tables e below (T2.setTop (mkF m 26 #[.val (.double x1), .second, .val (.double x1), .second, .val (.long (x1.toInt64)), .second, .unset, .unset] [(.long (x1.toInt64))])) _
    refine own_f_lstore X2.here hx (hb hby d_jdk_117_27_26) (rfl : storeLocals _ _ _ = some #[.val (.double x1), .second, .val (.double x1), .second, .val (.long (x1.toInt64)), .second, .val (.long (x1.toInt64)), .second]) (rfl : _ = 28) ?_
    refine own_f_lload X2.here hx (hb hby d_jdk_117_27_28) rfl (rfl : _ = 30) ?_
    refine own_f_lload X2.here hx (hb hby d_jdk_117_27_30) rfl (rfl : _ = 32) ?_
    refine own_f_lcmp X2.here hx (hb hby d_jdk_117_27_32) (rfl : _ = 33) ?_
    refine own_f_ifNo X2.here hx (hb hby d_jdk_117_27_33) ((if0 _ _).trans (teq ((lw_eq _ _).mpr rfl)).2) (rfl : _ = 36) ?_
    refine own_f_iconst X2.here hx (hb hby d_jdk_117_27_36) (rfl : _ = (0 : Int32)) (rfl : _ = 37) ?_
    refine own_f_goto X2.here hx (hb hby d_jdk_117_27_37) (by decide) (by decide : _ = 53) ?_
    exact retI X2 hx Bd.returns (hb hby d_jdk_117_27_53) hr
  · show Qceq Z x1 x1 h0 n0 _ T2.heap _
    rw [e2]
    exact ⟨rfl, N2, rfl⟩
theorem ef_b (m : MethodId) (x0 : Addr) : entryFrame m #[(.ref x0)] 1 = mkF m 0 #[.val (.ref x0)] [] := by first | (simp [entryFrame, mkF, argsToLocals, Value.category]; done) | rfl
def Qb (Z : State) (a1 : Addr) (v1 : UInt64) (pa : Addr) (kc : ClassId) (x1 : UInt64) (x2 : UInt64) (h0 : Heap) (n0 : Nat) (v : Option Value) (h : Heap) (L : List Loc) : Prop := v = some (.double (FP.dmul (FP.dmul v1 (FP.i2d (2 : Int32))) (4382002437431492608 : UInt64))) ∧ Fr n0 L ∧ h = h0
set_option maxRecDepth 65536 in
set_option maxHeartbeats 40000000 in
theorem rmb (l : Launch) (Z : State) (a0 : Array Value) (hw : ∀ d ∈ tables_1, d.before a0 Z = true) (ws : List Jvm.Cond) (a1 : Addr) (v1 : UInt64) (pa : Addr) (kc : ClassId) (x1 : UInt64) (x2 : UInt64) (h0 : Heap) (n0 : Nat) (Z0 : n0 ≤ h0.size) (Fv : Fld Z h0 a1 "com/example/honeyguide/honeyguide/ExactSum" "value" "D" (.double v1)) (Fp : Fld Z h0 a1 "com/example/honeyguide/honeyguide/ExactSum" "parts" "[D" (.ref pa)) (Vp : Arv Z h0 pa kc .double (2 : Int32) [(.double x1), (.double x2)] (.double (0 : UInt64))) (n1 : Jvm.Free.Fl.NoNaN64 (FP.dmul v1 (FP.i2d (2 : Int32)))) (n2 : Jvm.Free.Fl.NoNaN64 (FP.dmul (FP.dmul v1 (FP.i2d (2 : Int32))) (4382002437431492608 : UInt64))) :
    MetFree l (⟨"com/example/honeyguide/honeyguide/ExactSum", "bound", "()D"⟩ : MethodName) (head1 (Jvm.Cond.code (⟨"com/example/honeyguide/honeyguide/ExactSum", "bound", "()D"⟩ : MethodName) prog_11_method_7_code 1 (some .double) :: ws) ({ frames := 0, cells := 0, slots := 0, locals := 0 } : Room)) (fun a U => a = #[(.ref a1)] ∧ Z.Warmed39 U.vm ∧ U.heap = h0) (fun _ _ _ _ _ => True) (fun _ U o U' => ∃ v L, o = .returned v ∧ Qb Z a1 v1 pa kc x1 x2 h0 n0 v U'.heap L ∧ FrameEnd U o U' L ({ frames := 0, cells := 0, slots := 0, locals := 0 } : Room).cells ({ frames := 0, cells := 0, slots := 0, locals := 0 } : Room).slots) := by
  refine MetFree.of_bodySF (plainFor_of_name pn_1) hisR ?_
  intro p e s m args below meth c s₁ Bd hml0 hP hK
  obtain ⟨rfl, hZ, hh⟩ := hP
  have hlk : meth.locks = false := BodyLoose.notSynchronized Bd
  have hx := Bd.exec
  have hby := Bd.bytes
  have hml : c.maxLocals = 1 := hml0
  have hown : s.vm.findClass "com/example/honeyguide/honeyguide/ExactSum" = some m.cls := findClass_of_methodNamed Bd.named
  have hnm := (name_of_methodNamed Bd.named Bd.method).1
  have X0 : Stand p l e ({ frames := 0, cells := 0, slots := 0, locals := 0 } : Room) s m #[(.ref a1)] below meth c s₁ [] 0 0 := Stand.of_body Bd
  have e0 : s₁.heap = h0 := by rw [← hh, Bd.state]; rfl
  have N0 := Fr.nil n0
  obtain ⟨A, hA⟩ : ∃ A, A = s₁.setTop (mkF m 0 #[.val (.ref a1)] []) := ⟨_, rfl⟩
  have hA0 : ∀ t, Steps p.tables e below A t → Steps p.tables e below (s₁.setTop (entryFrame m #[(.ref a1)] 1)) t := fun t k => castTop (ef_b m a1) (hA ▸ k)
  have k0 : ∀ t, Steps p.tables e below (s₁.setTop (mkF m 0 #[.val (.ref a1)] [])) t → Steps p.tables e below A t := fun t k => hA ▸ k
  obtain ⟨T1, X1, e1, st1⟩ := getF X0 hx hZ hown (host := "") (Or.inl (hw _ (List.mem_of_getElem? (i := 34) rfl))) Via.refl e0 Fv (g := (mkF m 1 #[.val (.ref a1)] [(.ref a1)])) rfl rfl (hb hby d_prog_11_7_1)
  obtain ⟨T2, X2, e2, st2⟩ := getF X1 hx hZ hown (host := "") (Or.inl (hw _ (List.mem_of_getElem? (i := 32) rfl))) Via.refl e1 Fp (g := (mkF m 5 #[.val (.ref a1)] [(.ref a1), (.double v1)])) rfl rfl (hb hby d_prog_11_7_5)
  obtain ⟨cl3, Ar3, -, Sz3, Ng3, -, -⟩ := id Vp
  obtain ⟨fs, hr, hrun, hended, hW, hsame⟩ := X2.leave (v := some (.double (FP.dmul (FP.dmul v1 (FP.i2d (2 : Int32))) (4382002437431492608 : UInt64)))) (fun h => by rw [Bd.returns] at h; cases h) hlk
  refine ⟨_, _, ?_, hrun, hended, _, _, rfl, ?_, ⟨_, rfl⟩, hW, hsame.mono (by decide) (by decide)⟩
  · refine hA0 _ ?_
    refine k0 _ ?_
    refine own_f_aloadN X0.here hx (hb hby d_prog_11_7_0) rfl rfl (rfl : _ = 1) ?_
    refine st1 _ ?_
    show Steps p.tables e below (T1.setTop (mkF m 4 #[.val (.ref a1)] [(.double v1)])) _
    refine own_f_aloadN X1.here hx (hb hby d_prog_11_7_4) rfl rfl (rfl : _ = 5) ?_
    refine st2 _ ?_
    show Steps p.tables e below (T2.setTop (mkF m 8 #[.val (.ref a1)] [(.ref pa), (.double v1)])) _
    refine X2.arraylength hx (by rw [e2]; exact Ar3.1) (State.isArrayOf_alike hZ.alike Ar3.2.1) (g := (mkF m 8 #[.val (.ref a1)] [(.ref pa), (.double v1)])) rfl rfl (hb hby d_prog_11_7_8) _ ?_
    rw [len_of Sz3 Ng3]
    show Steps p.tables e below (T2.setTop (mkF m 9 #[.val (.ref a1)] [(.int (2 : Int32)), (.double v1)])) _
    refine own_f_i2d X2.here hx (hb hby d_prog_11_7_9) rfl (rfl : _ = 10) ?_
    refine own_f_dmul X2.here hx (hb hby d_prog_11_7_10) (n1) rfl (rfl : _ = 11) ?_
    refine own_f_ldc2DoubleC X2 hx hown (mvT hZ (hw _ (List.mem_of_getElem? (i := 57) rfl))) (hb hby d_prog_11_7_11) (rfl : _ = 14) ?_
    refine own_f_dmul X2.here hx (hb hby d_prog_11_7_14) (n2) rfl (rfl : _ = 15) ?_
    exact retD X2 hx Bd.returns (hb hby d_prog_11_7_15) hr
  · show Qb Z a1 v1 pa kc x1 x2 h0 n0 _ T2.heap _
    rw [e2]
    exact ⟨rfl, N0, rfl⟩
theorem ef_t0 (m : MethodId) (x0 : Addr) (x1 : Addr) : entryFrame m #[(.ref x0), (.ref x1)] 6 = mkF m 0 #[.val (.ref x0), .val (.ref x1), .unset, .unset, .unset, .unset] [] := by first | (simp [entryFrame, mkF, argsToLocals, Value.category]; done) | rfl
def Qt0 (Z : State) (a1 : Addr) (a2 : Addr) (v1 : UInt64) (r1 : UInt64) (pa1 : Addr) (kc1 : ClassId) (x1 : UInt64) (y1 : UInt64) (v2 : UInt64) (r2 : UInt64) (pa2 : Addr) (kc2 : ClassId) (x2 : UInt64) (y2 : UInt64) (h0 : Heap) (n0 : Nat) (v : Option Value) (h : Heap) (L : List Loc) : Prop := v = some (.int (0 : Int32)) ∧ Fr n0 L ∧ h = h0
set_option maxRecDepth 65536 in
set_option maxHeartbeats 40000000 in
theorem rmt0 (l : Launch) (Z : State) (a0 : Array Value) (hw : ∀ d ∈ tables_1, d.before a0 Z = true) (ws : List Jvm.Cond) (a1 : Addr) (a2 : Addr) (v1 : UInt64) (r1 : UInt64) (pa1 : Addr) (kc1 : ClassId) (x1 : UInt64) (y1 : UInt64) (v2 : UInt64) (r2 : UInt64) (pa2 : Addr) (kc2 : ClassId) (x2 : UInt64) (y2 : UInt64) (h0 : Heap) (n0 : Nat) (Z0 : n0 ≤ h0.size) (E1 : Exa Z h0 a1 "com/example/honeyguide/honeyguide/ExactSum") (Fv1 : Fld Z h0 a1 "com/example/honeyguide/honeyguide/ExactSum" "value" "D" (.double v1)) (Fe1 : Fld Z h0 a1 "com/example/honeyguide/honeyguide/ExactSum" "error" "D" (.double r1)) (Fp1 : Fld Z h0 a1 "com/example/honeyguide/honeyguide/ExactSum" "parts" "[D" (.ref pa1)) (Vp1 : Arv Z h0 pa1 kc1 .double (2 : Int32) [(.double x1), (.double y1)] (.double (0 : UInt64))) (n11 : Jvm.Free.Fl.NoNaN64 (FP.dmul v1 (FP.i2d (2 : Int32)))) (n21 : Jvm.Free.Fl.NoNaN64 (FP.dmul (FP.dmul v1 (FP.i2d (2 : Int32))) (4382002437431492608 : UInt64))) (nr1 : Jvm.Free.Fl.NoNaN64 r1) (E2 : Exa Z h0 a2 "com/example/honeyguide/honeyguide/ExactSum") (Fv2 : Fld Z h0 a2 "com/example/honeyguide/honeyguide/ExactSum" "value" "D" (.double v2)) (Fe2 : Fld Z h0 a2 "com/example/honeyguide/honeyguide/ExactSum" "error" "D" (.double r2)) (Fp2 : Fld Z h0 a2 "com/example/honeyguide/honeyguide/ExactSum" "parts" "[D" (.ref pa2)) (Vp2 : Arv Z h0 pa2 kc2 .double (2 : Int32) [(.double x2), (.double y2)] (.double (0 : UInt64))) (n12 : Jvm.Free.Fl.NoNaN64 (FP.dmul v2 (FP.i2d (2 : Int32)))) (n22 : Jvm.Free.Fl.NoNaN64 (FP.dmul (FP.dmul v2 (FP.i2d (2 : Int32))) (4382002437431492608 : UInt64))) (nr2 : Jvm.Free.Fl.NoNaN64 r2) (nb : Jvm.Free.Fl.NoNaN64 (FP.dadd (FP.dmul (FP.dmul v1 (FP.i2d (2 : Int32))) (4382002437431492608 : UInt64)) (FP.dmul (FP.dmul v2 (FP.i2d (2 : Int32))) (4382002437431492608 : UInt64)))) (nv : Jvm.Free.Fl.NoNaN64 v1) (hv : v1 = v2) (hr : r1 = r2) :
    MetFree l (⟨"com/example/honeyguide/honeyguide/ExactSum", "compareTo", "(Lcom/example/honeyguide/honeyguide/ExactSum;)I"⟩ : MethodName) (head1 (Jvm.Cond.code (⟨"com/example/honeyguide/honeyguide/ExactSum", "compareTo", "(Lcom/example/honeyguide/honeyguide/ExactSum;)I"⟩ : MethodName) prog_11_method_6_code 6 (some .int) :: ws) ({ frames := 3, cells := 0, slots := 0, locals := 52 } : Room)) (fun a U => a = #[(.ref a1), (.ref a2)] ∧ Z.Warmed39 U.vm ∧ U.heap = h0) (fun _ _ _ _ _ => True) (fun _ U o U' => ∃ v L, o = .returned v ∧ Qt0 Z a1 a2 v1 r1 pa1 kc1 x1 y1 v2 r2 pa2 kc2 x2 y2 h0 n0 v U'.heap L ∧ FrameEnd U o U' L ({ frames := 3, cells := 0, slots := 0, locals := 52 } : Room).cells ({ frames := 3, cells := 0, slots := 0, locals := 52 } : Room).slots) := by
  refine MetFree.of_bodySF (plainFor_of_name pn_1) hisR ?_
  intro p e s m args below meth c s₁ Bd hml0 hP hK
  obtain ⟨rfl, hZ, hh⟩ := hP
  have hlk : meth.locks = false := BodyLoose.notSynchronized Bd
  have hx := Bd.exec
  have hby := Bd.bytes
  have hml : c.maxLocals = 6 := hml0
  have hown : s.vm.findClass "com/example/honeyguide/honeyguide/ExactSum" = some m.cls := findClass_of_methodNamed Bd.named
  have hnm := (name_of_methodNamed Bd.named Bd.method).1
  have X0 : Stand p l e ({ frames := 3, cells := 0, slots := 0, locals := 52 } : Room) s m #[(.ref a1), (.ref a2)] below meth c s₁ [] 0 0 := Stand.of_body Bd
  have e0 : s₁.heap = h0 := by rw [← hh, Bd.state]; rfl
  have N0 := Fr.nil n0
  obtain ⟨A, hA⟩ : ∃ A, A = s₁.setTop (mkF m 0 #[.val (.ref a1), .val (.ref a2), .unset, .unset, .unset, .unset] []) := ⟨_, rfl⟩
  have hA0 : ∀ t, Steps p.tables e below A t → Steps p.tables e below (s₁.setTop (entryFrame m #[(.ref a1), (.ref a2)] 6)) t := fun t k => castTop (ef_t0 m a1 a2) (hA ▸ k)
  have k0 : ∀ t, Steps p.tables e below (s₁.setTop (mkF m 0 #[.val (.ref a1), .val (.ref a2), .unset, .unset, .unset, .unset] [])) t → Steps p.tables e below A t := fun t k => hA ▸ k
  obtain ⟨cq1, kq1, q1a, q1b, q1c⟩ := isOf hZ e0 E1
  obtain ⟨cp1, qp1, qp1'⟩ := E1.cell
  obtain ⟨_, _, ⟨T1, L1, k1_, n1⟩, -, X1, ⟨Lc1, hQ1, l1, y1, z1⟩, st1⟩ := X0.privateBack hx (y := (⟨"com/example/honeyguide/honeyguide/ExactSum", "bound", "()D"⟩ : MethodName)) hown (mvT hZ (hw _ (List.mem_of_getElem? (i := 53) rfl))) (mvT hZ (hw _ (List.mem_of_getElem? (i := 54) rfl))) (own_selp (by decide) (mvT hZ (hw _ (List.mem_of_getElem? (i := 16) rfl))) (mvP hZ (hw _ (List.mem_of_getElem? (i := 55) rfl))) (mvT hZ (hw _ (List.mem_of_getElem? (i := 54) rfl)))) (Cond.privateMethod_at (mvP hZ (hw _ (List.mem_of_getElem? (i := 55) rfl)) (args := #[]))) (mvT hZ (hw _ (List.mem_of_getElem? (i := 56) rfl))) (by decide) (backOf (W := 0) (rmb l Z a0 hw [] a1 v1 pa1 kc1 x1 y1 h0 n0 Z0 Fv1 Fp1 Vp1 n11 n21) hZ (hw _ (List.mem_of_getElem? (i := 56) rfl)) (hw _ (List.mem_of_getElem? (i := 13) rfl)) (by decide) (by decide)) (g := (mkF m 1 #[.val (.ref a1), .val (.ref a2), .unset, .unset, .unset, .unset] [(.ref a1)])) rfl (by rw [hml]; rfl) (Steps.refl _) (a := a1) (by rw [e0]; exact qp1) qp1' (argsL := []) (rest := []) (lenOf pd_3 rfl) rfl (by show 2 * 0 + _ ≤ _; exact Nat.le_of_eq rfl) (hb hby d_prog_11_6_1) (fun _ _ => ⟨rfl, e0, (by decide : 0 + 0 ≤ _), (by decide : 0 + 0 ≤ _)⟩)
  dsimp only [Pt.U, Pt.locs, Pt.cells, Pt.slots] at X1 l1 y1 z1 st1 hQ1
  subst l1 y1 z1
  obtain ⟨rfl, Nq1, e1⟩ := hQ1
  have N1 := Fr.app N0 Nq1
  obtain ⟨cq2, kq2, q2a, q2b, q2c⟩ := isOf hZ e1 E2
  obtain ⟨cp2, qp2, qp2'⟩ := E2.cell
  obtain ⟨_, _, ⟨T2, L2, k2_, n2⟩, -, X2, ⟨Lc2, hQ2, l2, y2, z2⟩, st2⟩ := X1.privateBack hx (y := (⟨"com/example/honeyguide/honeyguide/ExactSum", "bound", "()D"⟩ : MethodName)) hown (mvT hZ (hw _ (List.mem_of_getElem? (i := 53) rfl))) (mvT hZ (hw _ (List.mem_of_getElem? (i := 54) rfl))) (own_selp (by decide) (mvT hZ (hw _ (List.mem_of_getElem? (i := 16) rfl))) (mvP hZ (hw _ (List.mem_of_getElem? (i := 55) rfl))) (mvT hZ (hw _ (List.mem_of_getElem? (i := 54) rfl)))) (Cond.privateMethod_at (mvP hZ (hw _ (List.mem_of_getElem? (i := 55) rfl)) (args := #[]))) (mvT hZ (hw _ (List.mem_of_getElem? (i := 56) rfl))) (by decide) (backOf (W := 2) (rmb l Z a0 hw [] a2 v2 pa2 kc2 x2 y2 h0 n0 Z0 Fv2 Fp2 Vp2 n12 n22) hZ (hw _ (List.mem_of_getElem? (i := 56) rfl)) (hw _ (List.mem_of_getElem? (i := 13) rfl)) (by decide) (by decide)) (g := (mkF m 5 #[.val (.ref a1), .val (.ref a2), .unset, .unset, .unset, .unset] [(.ref a2), (.double (FP.dmul (FP.dmul v1 (FP.i2d (2 : Int32))) (4382002437431492608 : UInt64)))])) rfl (by rw [hml]; rfl) (Steps.refl _) (a := a2) (by rw [e1]; exact qp2) qp2' (argsL := []) (rest := [(.double (FP.dmul (FP.dmul v1 (FP.i2d (2 : Int32))) (4382002437431492608 : UInt64)))]) (lenOf pd_3 rfl) rfl (by show 2 * 0 + _ ≤ _; exact Nat.le_of_eq rfl) (hb hby d_prog_11_6_5) (fun _ _ => ⟨rfl, e1, (by decide : 0 + 0 ≤ _), (by decide : 0 + 0 ≤ _)⟩)
  dsimp only [Pt.U, Pt.locs, Pt.cells, Pt.slots] at X2 l2 y2 z2 st2 hQ2
  subst l2 y2 z2
  obtain ⟨rfl, Nq2, e2⟩ := hQ2
  have N2 := Fr.app N1 Nq2
  obtain ⟨T3, X3, e3, st3⟩ := getF X2 hx hZ hown (host := "") (Or.inl (hw _ (List.mem_of_getElem? (i := 46) rfl))) Via.refl e2 Fe1 (g := (mkF m 11 #[.val (.ref a1), .val (.ref a2), .val (.double (FP.dadd (FP.dmul (FP.dmul v1 (FP.i2d (2 : Int32))) (4382002437431492608 : UInt64)) (FP.dmul (FP.dmul v2 (FP.i2d (2 : Int32))) (4382002437431492608 : UInt64)))), .second, .unset, .unset] [(.ref a1)])) rfl rfl (hb hby d_prog_11_6_11)
  obtain ⟨_, _, ⟨T4, L4, k4_, n4⟩, -, X4, ⟨Lc4, hQ4, l4, y4, z4⟩, st4⟩ := Jvm.LawKit.callS X3 hx (y := (⟨"java/lang/Double", "isNaN", "(D)Z"⟩ : MethodName)) hown (mvT hZ (hw _ (List.mem_of_getElem? (i := 58) rfl))) (mvT hZ (hw _ (List.mem_of_getElem? (i := 59) rfl))) (mvT hZ (hw _ (List.mem_of_getElem? (i := 39) rfl))) (mvT hZ (hw _ (List.mem_of_getElem? (i := 60) rfl))) (by decide) (backOf (W := 0) (rmn l Z a0 hw [] r1  h0 n0 Z0 nr1) hZ (hw _ (List.mem_of_getElem? (i := 60) rfl)) (hw _ (List.mem_of_getElem? (i := 39) rfl)) (by decide) (by decide)) (g := (mkF m 14 #[.val (.ref a1), .val (.ref a2), .val (.double (FP.dadd (FP.dmul (FP.dmul v1 (FP.i2d (2 : Int32))) (4382002437431492608 : UInt64)) (FP.dmul (FP.dmul v2 (FP.i2d (2 : Int32))) (4382002437431492608 : UInt64)))), .second, .unset, .unset] [(.double r1)])) rfl (by rw [hml]; rfl) (argsL := [(.double r1)]) (rest := []) (lenOf pd_1 rfl) rfl (by show 2 * 0 + _ ≤ _; exact Nat.le_of_eq rfl) (hb hby d_prog_11_6_14) (fun _ _ => ⟨rfl, e3, (by decide : 0 + 0 ≤ _), (by decide : 0 + 0 ≤ _)⟩)
  dsimp only [Pt.U, Pt.locs, Pt.cells, Pt.slots] at X4 l4 y4 z4 st4 hQ4
  subst l4 y4 z4
  obtain ⟨rfl, Nq4, e4⟩ := hQ4
  have N4 := Fr.app N2 Nq4
  obtain ⟨T5, X5, e5, st5⟩ := getF X4 hx hZ hown (host := "") (Or.inl (hw _ (List.mem_of_getElem? (i := 46) rfl))) Via.refl e4 Fe2 (g := (mkF m 21 #[.val (.ref a1), .val (.ref a2), .val (.double (FP.dadd (FP.dmul (FP.dmul v1 (FP.i2d (2 : Int32))) (4382002437431492608 : UInt64)) (FP.dmul (FP.dmul v2 (FP.i2d (2 : Int32))) (4382002437431492608 : UInt64)))), .second, .unset, .unset] [(.ref a2)])) rfl rfl (hb hby d_prog_11_6_21)
  obtain ⟨_, _, ⟨T6, L6, k6_, n6⟩, -, X6, ⟨Lc6, hQ6, l6, y6, z6⟩, st6⟩ := Jvm.LawKit.callS X5 hx (y := (⟨"java/lang/Double", "isNaN", "(D)Z"⟩ : MethodName)) hown (mvT hZ (hw _ (List.mem_of_getElem? (i := 58) rfl))) (mvT hZ (hw _ (List.mem_of_getElem? (i := 59) rfl))) (mvT hZ (hw _ (List.mem_of_getElem? (i := 39) rfl))) (mvT hZ (hw _ (List.mem_of_getElem? (i := 60) rfl))) (by decide) (backOf (W := 0) (rmn l Z a0 hw [] r2  h0 n0 Z0 nr2) hZ (hw _ (List.mem_of_getElem? (i := 60) rfl)) (hw _ (List.mem_of_getElem? (i := 39) rfl)) (by decide) (by decide)) (g := (mkF m 24 #[.val (.ref a1), .val (.ref a2), .val (.double (FP.dadd (FP.dmul (FP.dmul v1 (FP.i2d (2 : Int32))) (4382002437431492608 : UInt64)) (FP.dmul (FP.dmul v2 (FP.i2d (2 : Int32))) (4382002437431492608 : UInt64)))), .second, .unset, .unset] [(.double r2)])) rfl (by rw [hml]; rfl) (argsL := [(.double r2)]) (rest := []) (lenOf pd_1 rfl) rfl (by show 2 * 0 + _ ≤ _; exact Nat.le_of_eq rfl) (hb hby d_prog_11_6_24) (fun _ _ => ⟨rfl, e5, (by decide : 0 + 0 ≤ _), (by decide : 0 + 0 ≤ _)⟩)
  dsimp only [Pt.U, Pt.locs, Pt.cells, Pt.slots] at X6 l6 y6 z6 st6 hQ6
  subst l6 y6 z6
  obtain ⟨rfl, Nq6, e6⟩ := hQ6
  have N6 := Fr.app N4 Nq6
  obtain ⟨T7, X7, e7, st7⟩ := getF X6 hx hZ hown (host := "") (Or.inl (hw _ (List.mem_of_getElem? (i := 34) rfl))) Via.refl e6 Fv1 (g := (mkF m 31 #[.val (.ref a1), .val (.ref a2), .val (.double (FP.dadd (FP.dmul (FP.dmul v1 (FP.i2d (2 : Int32))) (4382002437431492608 : UInt64)) (FP.dmul (FP.dmul v2 (FP.i2d (2 : Int32))) (4382002437431492608 : UInt64)))), .second, .unset, .unset] [(.ref a1)])) rfl rfl (hb hby d_prog_11_6_31)
  obtain ⟨T8, X8, e8, st8⟩ := getF X7 hx hZ hown (host := "") (Or.inl (hw _ (List.mem_of_getElem? (i := 34) rfl))) Via.refl e7 Fv2 (g := (mkF m 35 #[.val (.ref a1), .val (.ref a2), .val (.double (FP.dadd (FP.dmul (FP.dmul v1 (FP.i2d (2 : Int32))) (4382002437431492608 : UInt64)) (FP.dmul (FP.dmul v2 (FP.i2d (2 : Int32))) (4382002437431492608 : UInt64)))), .second, .unset, .unset] [(.ref a2), (.double v1)])) rfl rfl (hb hby d_prog_11_6_35)
  obtain ⟨_, _, ⟨T9, L9, k9_, n9⟩, -, X9, ⟨Lc9, hQ9, l9, y9, z9⟩, st9⟩ := Jvm.LawKit.callS X8 hx (y := (⟨"java/lang/Double", "compare", "(DD)I"⟩ : MethodName)) hown (mvT hZ (hw _ (List.mem_of_getElem? (i := 61) rfl))) (mvT hZ (hw _ (List.mem_of_getElem? (i := 62) rfl))) (mvT hZ (hw _ (List.mem_of_getElem? (i := 39) rfl))) (mvT hZ (hw _ (List.mem_of_getElem? (i := 63) rfl))) (by decide) (backOf (W := 0) (rmceq l Z a0 hw [] v1 v2  h0 n0 Z0 nv hv) hZ (hw _ (List.mem_of_getElem? (i := 63) rfl)) (hw _ (List.mem_of_getElem? (i := 39) rfl)) (by decide) (by decide)) (g := (mkF m 38 #[.val (.ref a1), .val (.ref a2), .val (.double (FP.dadd (FP.dmul (FP.dmul v1 (FP.i2d (2 : Int32))) (4382002437431492608 : UInt64)) (FP.dmul (FP.dmul v2 (FP.i2d (2 : Int32))) (4382002437431492608 : UInt64)))), .second, .unset, .unset] [(.double v2), (.double v1)])) rfl (by rw [hml]; rfl) (argsL := [(.double v1), (.double v2)]) (rest := []) (lenOf pd_4 rfl) rfl (by show 2 * 0 + _ ≤ _; exact Nat.le_of_eq rfl) (hb hby d_prog_11_6_38) (fun _ _ => ⟨rfl, e8, (by decide : 0 + 0 ≤ _), (by decide : 0 + 0 ≤ _)⟩)
  dsimp only [Pt.U, Pt.locs, Pt.cells, Pt.slots] at X9 l9 y9 z9 st9 hQ9
  subst l9 y9 z9
  obtain ⟨rfl, Nq9, e9⟩ := hQ9
  have N9 := Fr.app N6 Nq9
  obtain ⟨T10, X10, e10, st10⟩ := getF X9 hx hZ hown (host := "") (Or.inl (hw _ (List.mem_of_getElem? (i := 46) rfl))) Via.refl e9 Fe1 (g := (mkF m 54 #[.val (.ref a1), .val (.ref a2), .val (.double (FP.dadd (FP.dmul (FP.dmul v1 (FP.i2d (2 : Int32))) (4382002437431492608 : UInt64)) (FP.dmul (FP.dmul v2 (FP.i2d (2 : Int32))) (4382002437431492608 : UInt64)))), .second, .unset, .val (.int (0 : Int32))] [(.ref a1)])) rfl rfl (hb hby d_prog_11_6_54)
  obtain ⟨T11, X11, e11, st11⟩ := getF X10 hx hZ hown (host := "") (Or.inl (hw _ (List.mem_of_getElem? (i := 46) rfl))) Via.refl e10 Fe2 (g := (mkF m 58 #[.val (.ref a1), .val (.ref a2), .val (.double (FP.dadd (FP.dmul (FP.dmul v1 (FP.i2d (2 : Int32))) (4382002437431492608 : UInt64)) (FP.dmul (FP.dmul v2 (FP.i2d (2 : Int32))) (4382002437431492608 : UInt64)))), .second, .unset, .val (.int (0 : Int32))] [(.ref a2), (.double r1)])) rfl rfl (hb hby d_prog_11_6_58)
  obtain ⟨_, _, ⟨T12, L12, k12_, n12⟩, -, X12, ⟨Lc12, hQ12, l12, y12, z12⟩, st12⟩ := Jvm.LawKit.callS X11 hx (y := (⟨"java/lang/Double", "compare", "(DD)I"⟩ : MethodName)) hown (mvT hZ (hw _ (List.mem_of_getElem? (i := 61) rfl))) (mvT hZ (hw _ (List.mem_of_getElem? (i := 62) rfl))) (mvT hZ (hw _ (List.mem_of_getElem? (i := 39) rfl))) (mvT hZ (hw _ (List.mem_of_getElem? (i := 63) rfl))) (by decide) (backOf (W := 0) (rmceq l Z a0 hw [] r1 r2  h0 n0 Z0 nr1 hr) hZ (hw _ (List.mem_of_getElem? (i := 63) rfl)) (hw _ (List.mem_of_getElem? (i := 39) rfl)) (by decide) (by decide)) (g := (mkF m 61 #[.val (.ref a1), .val (.ref a2), .val (.double (FP.dadd (FP.dmul (FP.dmul v1 (FP.i2d (2 : Int32))) (4382002437431492608 : UInt64)) (FP.dmul (FP.dmul v2 (FP.i2d (2 : Int32))) (4382002437431492608 : UInt64)))), .second, .unset, .val (.int (0 : Int32))] [(.double r2), (.double r1)])) rfl (by rw [hml]; rfl) (argsL := [(.double r1), (.double r2)]) (rest := []) (lenOf pd_4 rfl) rfl (by show 2 * 0 + _ ≤ _; exact Nat.le_of_eq rfl) (hb hby d_prog_11_6_61) (fun _ _ => ⟨rfl, e11, (by decide : 0 + 0 ≤ _), (by decide : 0 + 0 ≤ _)⟩)
  dsimp only [Pt.U, Pt.locs, Pt.cells, Pt.slots] at X12 l12 y12 z12 st12 hQ12
  subst l12 y12 z12
  obtain ⟨rfl, Nq12, e12⟩ := hQ12
  have N12 := Fr.app N9 Nq12
  obtain ⟨fs, hr, hrun, hended, hW, hsame⟩ := X12.leave (v := some (.int (0 : Int32))) (fun h => by rw [Bd.returns] at h; cases h) hlk
  refine ⟨_, _, ?_, hrun, hended, _, _, rfl, ?_, ⟨_, rfl⟩, hW, hsame.mono (by decide) (by decide)⟩
  · refine hA0 _ ?_
    refine k0 _ ?_
    refine own_f_aloadN X0.here hx (hb hby d_prog_11_6_0) rfl rfl (rfl : _ = 1) ?_
    refine st1.trans ?_
    show Steps p.tables e below (T1.setTop (mkF m 4 #[.val (.ref a1), .val (.ref a2), .unset, .unset, .unset, .unset] [(.double (FP.dmul (FP.dmul v1 (FP.i2d (2 : Int32))) (4382002437431492608 : UInt64)))])) _
    refine own_f_aloadN X1.here hx (hb hby d_prog_11_6_4) rfl rfl (rfl : _ = 5) ?_
    refine st2.trans ?_
    show Steps p.tables e below (T2.setTop (mkF m 8 #[.val (.ref a1), .val (.ref a2), .unset, .unset, .unset, .unset] [(.double (FP.dmul (FP.dmul v2 (FP.i2d (2 : Int32))) (4382002437431492608 : UInt64))), (.double (FP.dmul (FP.dmul v1 (FP.i2d (2 : Int32))) (4382002437431492608 : UInt64)))])) _
    refine own_f_dadd X2.here hx (hb hby d_prog_11_6_8) (nb) rfl (rfl : _ = 9) ?_
    refine own_f_dstoreN X2.here hx (hb hby d_prog_11_6_9) (rfl : storeLocals _ _ _ = some #[.val (.ref a1), .val (.ref a2), .val (.double (FP.dadd (FP.dmul (FP.dmul v1 (FP.i2d (2 : Int32))) (4382002437431492608 : UInt64)) (FP.dmul (FP.dmul v2 (FP.i2d (2 : Int32))) (4382002437431492608 : UInt64)))), .second, .unset, .unset]) (rfl : _ = 10) ?_
    refine own_f_aloadN X2.here hx (hb hby d_prog_11_6_10) rfl rfl (rfl : _ = 11) ?_
    refine st3 _ ?_
    show Steps p.tables e below (T3.setTop (mkF m 14 #[.val (.ref a1), .val (.ref a2), .val (.double (FP.dadd (FP.dmul (FP.dmul v1 (FP.i2d (2 : Int32))) (4382002437431492608 : UInt64)) (FP.dmul (FP.dmul v2 (FP.i2d (2 : Int32))) (4382002437431492608 : UInt64)))), .second, .unset, .unset] [(.double r1)])) _
    refine st4 _ ?_
    show Steps p.tables e below (T4.setTop (mkF m 17 #[.val (.ref a1), .val (.ref a2), .val (.double (FP.dadd (FP.dmul (FP.dmul v1 (FP.i2d (2 : Int32))) (4382002437431492608 : UInt64)) (FP.dmul (FP.dmul v2 (FP.i2d (2 : Int32))) (4382002437431492608 : UInt64)))), .second, .unset, .unset] [(.int (0 : Int32))])) _
    refine own_f_ifNo X4.here hx (hb hby d_prog_11_6_17) ((if0 _ _).trans (teq (rfl)).2) (rfl : _ = 20) ?_
    refine own_f_aloadN X4.here hx (hb hby d_prog_11_6_20) rfl rfl (rfl : _ = 21) ?_
    refine st5 _ ?_
    show Steps p.tables e below (T5.setTop (mkF m 24 #[.val (.ref a1), .val (.ref a2), .val (.double (FP.dadd (FP.dmul (FP.dmul v1 (FP.i2d (2 : Int32))) (4382002437431492608 : UInt64)) (FP.dmul (FP.dmul v2 (FP.i2d (2 : Int32))) (4382002437431492608 : UInt64)))), .second, .unset, .unset] [(.double r2)])) _
    refine st6 _ ?_
    show Steps p.tables e below (T6.setTop (mkF m 27 #[.val (.ref a1), .val (.ref a2), .val (.double (FP.dadd (FP.dmul (FP.dmul v1 (FP.i2d (2 : Int32))) (4382002437431492608 : UInt64)) (FP.dmul (FP.dmul v2 (FP.i2d (2 : Int32))) (4382002437431492608 : UInt64)))), .second, .unset, .unset] [(.int (0 : Int32))])) _
    refine own_f_ifNo X6.here hx (hb hby d_prog_11_6_27) ((if0 _ _).trans (teq (rfl)).2) (rfl : _ = 30) ?_
    refine own_f_aloadN X6.here hx (hb hby d_prog_11_6_30) rfl rfl (rfl : _ = 31) ?_
    refine st7 _ ?_
    show Steps p.tables e below (T7.setTop (mkF m 34 #[.val (.ref a1), .val (.ref a2), .val (.double (FP.dadd (FP.dmul (FP.dmul v1 (FP.i2d (2 : Int32))) (4382002437431492608 : UInt64)) (FP.dmul (FP.dmul v2 (FP.i2d (2 : Int32))) (4382002437431492608 : UInt64)))), .second, .unset, .unset] [(.double v1)])) _
    refine own_f_aloadN X7.here hx (hb hby d_prog_11_6_34) rfl rfl (rfl : _ = 35) ?_
    refine st8 _ ?_
    show Steps p.tables e below (T8.setTop (mkF m 38 #[.val (.ref a1), .val (.ref a2), .val (.double (FP.dadd (FP.dmul (FP.dmul v1 (FP.i2d (2 : Int32))) (4382002437431492608 : UInt64)) (FP.dmul (FP.dmul v2 (FP.i2d (2 : Int32))) (4382002437431492608 : UInt64)))), .second, .unset, .unset] [(.double v2), (.double v1)])) _
    refine st9 _ ?_
    show Steps p.tables e below (T9.setTop (mkF m 41 #[.val (.ref a1), .val (.ref a2), .val (.double (FP.dadd (FP.dmul (FP.dmul v1 (FP.i2d (2 : Int32))) (4382002437431492608 : UInt64)) (FP.dmul (FP.dmul v2 (FP.i2d (2 : Int32))) (4382002437431492608 : UInt64)))), .second, .unset, .unset] [(.int (0 : Int32))])) _
    refine own_f_istore X9.here hx (hb hby d_prog_11_6_41) (rfl : storeLocals _ _ _ = some #[.val (.ref a1), .val (.ref a2), .val (.double (FP.dadd (FP.dmul (FP.dmul v1 (FP.i2d (2 : Int32))) (4382002437431492608 : UInt64)) (FP.dmul (FP.dmul v2 (FP.i2d (2 : Int32))) (4382002437431492608 : UInt64)))), .second, .unset, .val (.int (0 : Int32))]) (rfl : _ = 43) ?_
    refine own_f_iload X9.here hx (hb hby d_prog_11_6_43) rfl (rfl : _ = 45) ?_
    refine own_f_ifYes X9.here hx (hb hby d_prog_11_6_45) ((if0 _ _).trans (teq (rfl)).1) (by decide) (by decide : _ = 53) ?_
    refine own_f_aloadN X9.here hx (hb hby d_prog_11_6_53) rfl rfl (rfl : _ = 54) ?_
    refine st10 _ ?_
    show Steps p.tables e below (T10.setTop (mkF m 57 #[.val (.ref a1), .val (.ref a2), .val (.double (FP.dadd (FP.dmul (FP.dmul v1 (FP.i2d (2 : Int32))) (4382002437431492608 : UInt64)) (FP.dmul (FP.dmul v2 (FP.i2d (2 : Int32))) (4382002437431492608 : UInt64)))), .second, .unset, .val (.int (0 : Int32))] [(.double r1)])) _
    refine own_f_aloadN X10.here hx (hb hby d_prog_11_6_57) rfl rfl (rfl : _ = 58) ?_
    refine st11 _ ?_
    show Steps p.tables e below (T11.setTop (mkF m 61 #[.val (.ref a1), .val (.ref a2), .val (.double (FP.dadd (FP.dmul (FP.dmul v1 (FP.i2d (2 : Int32))) (4382002437431492608 : UInt64)) (FP.dmul (FP.dmul v2 (FP.i2d (2 : Int32))) (4382002437431492608 : UInt64)))), .second, .unset, .val (.int (0 : Int32))] [(.double r2), (.double r1)])) _
    refine st12 _ ?_
    show Steps p.tables e below (T12.setTop (mkF m 64 #[.val (.ref a1), .val (.ref a2), .val (.double (FP.dadd (FP.dmul (FP.dmul v1 (FP.i2d (2 : Int32))) (4382002437431492608 : UInt64)) (FP.dmul (FP.dmul v2 (FP.i2d (2 : Int32))) (4382002437431492608 : UInt64)))), .second, .unset, .val (.int (0 : Int32))] [(.int (0 : Int32))])) _
    refine own_f_istore X12.here hx (hb hby d_prog_11_6_64) (rfl : storeLocals _ _ _ = some #[.val (.ref a1), .val (.ref a2), .val (.double (FP.dadd (FP.dmul (FP.dmul v1 (FP.i2d (2 : Int32))) (4382002437431492608 : UInt64)) (FP.dmul (FP.dmul v2 (FP.i2d (2 : Int32))) (4382002437431492608 : UInt64)))), .second, .val (.int (0 : Int32)), .val (.int (0 : Int32))]) (rfl : _ = 66) ?_
    refine own_f_goto X12.here hx (hb hby d_prog_11_6_66) (by decide) (by decide : _ = 122) ?_
    refine own_f_iload X12.here hx (hb hby d_prog_11_6_122) rfl (rfl : _ = 124) ?_
    exact retI X12 hx Bd.returns (hb hby d_prog_11_6_124) hr
  · show Qt0 Z a1 a2 v1 r1 pa1 kc1 x1 y1 v2 r2 pa2 kc2 x2 y2 h0 n0 _ T12.heap _
    rw [e12]
    exact ⟨rfl, N12, rfl⟩
theorem ef_t1 (m : MethodId) (x0 : Addr) (x1 : Addr) : entryFrame m #[(.ref x0), (.ref x1)] 6 = mkF m 0 #[.val (.ref x0), .val (.ref x1), .unset, .unset, .unset, .unset] [] := by first | (simp [entryFrame, mkF, argsToLocals, Value.category]; done) | rfl
def Qt1 (Z : State) (a1 : Addr) (a2 : Addr) (v1 : UInt64) (r1 : UInt64) (pa1 : Addr) (kc1 : ClassId) (x1 : UInt64) (y1 : UInt64) (v2 : UInt64) (r2 : UInt64) (pa2 : Addr) (kc2 : ClassId) (x2 : UInt64) (y2 : UInt64) (h0 : Heap) (n0 : Nat) (v : Option Value) (h : Heap) (L : List Loc) : Prop := v = some (.int (-1 : Int32)) ∧ Fr n0 L ∧ h = h0
set_option maxRecDepth 65536 in
set_option maxHeartbeats 40000000 in
theorem rmt1 (l : Launch) (Z : State) (a0 : Array Value) (hw : ∀ d ∈ tables_1, d.before a0 Z = true) (ws : List Jvm.Cond) (a1 : Addr) (a2 : Addr) (v1 : UInt64) (r1 : UInt64) (pa1 : Addr) (kc1 : ClassId) (x1 : UInt64) (y1 : UInt64) (v2 : UInt64) (r2 : UInt64) (pa2 : Addr) (kc2 : ClassId) (x2 : UInt64) (y2 : UInt64) (h0 : Heap) (n0 : Nat) (Z0 : n0 ≤ h0.size) (E1 : Exa Z h0 a1 "com/example/honeyguide/honeyguide/ExactSum") (Fv1 : Fld Z h0 a1 "com/example/honeyguide/honeyguide/ExactSum" "value" "D" (.double v1)) (Fe1 : Fld Z h0 a1 "com/example/honeyguide/honeyguide/ExactSum" "error" "D" (.double r1)) (Fp1 : Fld Z h0 a1 "com/example/honeyguide/honeyguide/ExactSum" "parts" "[D" (.ref pa1)) (Vp1 : Arv Z h0 pa1 kc1 .double (2 : Int32) [(.double x1), (.double y1)] (.double (0 : UInt64))) (n11 : Jvm.Free.Fl.NoNaN64 (FP.dmul v1 (FP.i2d (2 : Int32)))) (n21 : Jvm.Free.Fl.NoNaN64 (FP.dmul (FP.dmul v1 (FP.i2d (2 : Int32))) (4382002437431492608 : UInt64))) (nr1 : Jvm.Free.Fl.NoNaN64 r1) (E2 : Exa Z h0 a2 "com/example/honeyguide/honeyguide/ExactSum") (Fv2 : Fld Z h0 a2 "com/example/honeyguide/honeyguide/ExactSum" "value" "D" (.double v2)) (Fe2 : Fld Z h0 a2 "com/example/honeyguide/honeyguide/ExactSum" "error" "D" (.double r2)) (Fp2 : Fld Z h0 a2 "com/example/honeyguide/honeyguide/ExactSum" "parts" "[D" (.ref pa2)) (Vp2 : Arv Z h0 pa2 kc2 .double (2 : Int32) [(.double x2), (.double y2)] (.double (0 : UInt64))) (n12 : Jvm.Free.Fl.NoNaN64 (FP.dmul v2 (FP.i2d (2 : Int32)))) (n22 : Jvm.Free.Fl.NoNaN64 (FP.dmul (FP.dmul v2 (FP.i2d (2 : Int32))) (4382002437431492608 : UInt64))) (nr2 : Jvm.Free.Fl.NoNaN64 r2) (nb : Jvm.Free.Fl.NoNaN64 (FP.dadd (FP.dmul (FP.dmul v1 (FP.i2d (2 : Int32))) (4382002437431492608 : UInt64)) (FP.dmul (FP.dmul v2 (FP.i2d (2 : Int32))) (4382002437431492608 : UInt64)))) (hlt : (cmpValue (FP.dcmp v1 v2) .g) < (0 : Int32)) :
    MetFree l (⟨"com/example/honeyguide/honeyguide/ExactSum", "compareTo", "(Lcom/example/honeyguide/honeyguide/ExactSum;)I"⟩ : MethodName) (head1 (Jvm.Cond.code (⟨"com/example/honeyguide/honeyguide/ExactSum", "compareTo", "(Lcom/example/honeyguide/honeyguide/ExactSum;)I"⟩ : MethodName) prog_11_method_6_code 6 (some .int) :: ws) ({ frames := 1, cells := 0, slots := 0, locals := 19 } : Room)) (fun a U => a = #[(.ref a1), (.ref a2)] ∧ Z.Warmed39 U.vm ∧ U.heap = h0) (fun _ _ _ _ _ => True) (fun _ U o U' => ∃ v L, o = .returned v ∧ Qt1 Z a1 a2 v1 r1 pa1 kc1 x1 y1 v2 r2 pa2 kc2 x2 y2 h0 n0 v U'.heap L ∧ FrameEnd U o U' L ({ frames := 1, cells := 0, slots := 0, locals := 19 } : Room).cells ({ frames := 1, cells := 0, slots := 0, locals := 19 } : Room).slots) := by
  refine MetFree.of_bodySF (plainFor_of_name pn_1) hisR ?_
  intro p e s m args below meth c s₁ Bd hml0 hP hK
  obtain ⟨rfl, hZ, hh⟩ := hP
  have hlk : meth.locks = false := BodyLoose.notSynchronized Bd
  have hx := Bd.exec
  have hby := Bd.bytes
  have hml : c.maxLocals = 6 := hml0
  have hown : s.vm.findClass "com/example/honeyguide/honeyguide/ExactSum" = some m.cls := findClass_of_methodNamed Bd.named
  have hnm := (name_of_methodNamed Bd.named Bd.method).1
  have X0 : Stand p l e ({ frames := 1, cells := 0, slots := 0, locals := 19 } : Room) s m #[(.ref a1), (.ref a2)] below meth c s₁ [] 0 0 := Stand.of_body Bd
  have e0 : s₁.heap = h0 := by rw [← hh, Bd.state]; rfl
  have N0 := Fr.nil n0
  obtain ⟨A, hA⟩ : ∃ A, A = s₁.setTop (mkF m 0 #[.val (.ref a1), .val (.ref a2), .unset, .unset, .unset, .unset] []) := ⟨_, rfl⟩
  have hA0 : ∀ t, Steps p.tables e below A t → Steps p.tables e below (s₁.setTop (entryFrame m #[(.ref a1), (.ref a2)] 6)) t := fun t k => castTop (ef_t1 m a1 a2) (hA ▸ k)
  have k0 : ∀ t, Steps p.tables e below (s₁.setTop (mkF m 0 #[.val (.ref a1), .val (.ref a2), .unset, .unset, .unset, .unset] [])) t → Steps p.tables e below A t := fun t k => hA ▸ k
  obtain ⟨cq1, kq1, q1a, q1b, q1c⟩ := isOf hZ e0 E1
  obtain ⟨cp1, qp1, qp1'⟩ := E1.cell
  obtain ⟨_, _, ⟨T1, L1, k1_, n1⟩, -, X1, ⟨Lc1, hQ1, l1, y1, z1⟩, st1⟩ := X0.privateBack hx (y := (⟨"com/example/honeyguide/honeyguide/ExactSum", "bound", "()D"⟩ : MethodName)) hown (mvT hZ (hw _ (List.mem_of_getElem? (i := 53) rfl))) (mvT hZ (hw _ (List.mem_of_getElem? (i := 54) rfl))) (own_selp (by decide) (mvT hZ (hw _ (List.mem_of_getElem? (i := 16) rfl))) (mvP hZ (hw _ (List.mem_of_getElem? (i := 55) rfl))) (mvT hZ (hw _ (List.mem_of_getElem? (i := 54) rfl)))) (Cond.privateMethod_at (mvP hZ (hw _ (List.mem_of_getElem? (i := 55) rfl)) (args := #[]))) (mvT hZ (hw _ (List.mem_of_getElem? (i := 56) rfl))) (by decide) (backOf (W := 0) (rmb l Z a0 hw [] a1 v1 pa1 kc1 x1 y1 h0 n0 Z0 Fv1 Fp1 Vp1 n11 n21) hZ (hw _ (List.mem_of_getElem? (i := 56) rfl)) (hw _ (List.mem_of_getElem? (i := 13) rfl)) (by decide) (by decide)) (g := (mkF m 1 #[.val (.ref a1), .val (.ref a2), .unset, .unset, .unset, .unset] [(.ref a1)])) rfl (by rw [hml]; rfl) (Steps.refl _) (a := a1) (by rw [e0]; exact qp1) qp1' (argsL := []) (rest := []) (lenOf pd_3 rfl) rfl (by show 2 * 0 + _ ≤ _; exact Nat.le_of_eq rfl) (hb hby d_prog_11_6_1) (fun _ _ => ⟨rfl, e0, (by decide : 0 + 0 ≤ _), (by decide : 0 + 0 ≤ _)⟩)
  dsimp only [Pt.U, Pt.locs, Pt.cells, Pt.slots] at X1 l1 y1 z1 st1 hQ1
  subst l1 y1 z1
  obtain ⟨rfl, Nq1, e1⟩ := hQ1
  have N1 := Fr.app N0 Nq1
  obtain ⟨cq2, kq2, q2a, q2b, q2c⟩ := isOf hZ e1 E2
  obtain ⟨cp2, qp2, qp2'⟩ := E2.cell
  obtain ⟨_, _, ⟨T2, L2, k2_, n2⟩, -, X2, ⟨Lc2, hQ2, l2, y2, z2⟩, st2⟩ := X1.privateBack hx (y := (⟨"com/example/honeyguide/honeyguide/ExactSum", "bound", "()D"⟩ : MethodName)) hown (mvT hZ (hw _ (List.mem_of_getElem? (i := 53) rfl))) (mvT hZ (hw _ (List.mem_of_getElem? (i := 54) rfl))) (own_selp (by decide) (mvT hZ (hw _ (List.mem_of_getElem? (i := 16) rfl))) (mvP hZ (hw _ (List.mem_of_getElem? (i := 55) rfl))) (mvT hZ (hw _ (List.mem_of_getElem? (i := 54) rfl)))) (Cond.privateMethod_at (mvP hZ (hw _ (List.mem_of_getElem? (i := 55) rfl)) (args := #[]))) (mvT hZ (hw _ (List.mem_of_getElem? (i := 56) rfl))) (by decide) (backOf (W := 2) (rmb l Z a0 hw [] a2 v2 pa2 kc2 x2 y2 h0 n0 Z0 Fv2 Fp2 Vp2 n12 n22) hZ (hw _ (List.mem_of_getElem? (i := 56) rfl)) (hw _ (List.mem_of_getElem? (i := 13) rfl)) (by decide) (by decide)) (g := (mkF m 5 #[.val (.ref a1), .val (.ref a2), .unset, .unset, .unset, .unset] [(.ref a2), (.double (FP.dmul (FP.dmul v1 (FP.i2d (2 : Int32))) (4382002437431492608 : UInt64)))])) rfl (by rw [hml]; rfl) (Steps.refl _) (a := a2) (by rw [e1]; exact qp2) qp2' (argsL := []) (rest := [(.double (FP.dmul (FP.dmul v1 (FP.i2d (2 : Int32))) (4382002437431492608 : UInt64)))]) (lenOf pd_3 rfl) rfl (by show 2 * 0 + _ ≤ _; exact Nat.le_of_eq rfl) (hb hby d_prog_11_6_5) (fun _ _ => ⟨rfl, e1, (by decide : 0 + 0 ≤ _), (by decide : 0 + 0 ≤ _)⟩)
  dsimp only [Pt.U, Pt.locs, Pt.cells, Pt.slots] at X2 l2 y2 z2 st2 hQ2
  subst l2 y2 z2
  obtain ⟨rfl, Nq2, e2⟩ := hQ2
  have N2 := Fr.app N1 Nq2
  obtain ⟨T3, X3, e3, st3⟩ := getF X2 hx hZ hown (host := "") (Or.inl (hw _ (List.mem_of_getElem? (i := 46) rfl))) Via.refl e2 Fe1 (g := (mkF m 11 #[.val (.ref a1), .val (.ref a2), .val (.double (FP.dadd (FP.dmul (FP.dmul v1 (FP.i2d (2 : Int32))) (4382002437431492608 : UInt64)) (FP.dmul (FP.dmul v2 (FP.i2d (2 : Int32))) (4382002437431492608 : UInt64)))), .second, .unset, .unset] [(.ref a1)])) rfl rfl (hb hby d_prog_11_6_11)
  obtain ⟨_, _, ⟨T4, L4, k4_, n4⟩, -, X4, ⟨Lc4, hQ4, l4, y4, z4⟩, st4⟩ := Jvm.LawKit.callS X3 hx (y := (⟨"java/lang/Double", "isNaN", "(D)Z"⟩ : MethodName)) hown (mvT hZ (hw _ (List.mem_of_getElem? (i := 58) rfl))) (mvT hZ (hw _ (List.mem_of_getElem? (i := 59) rfl))) (mvT hZ (hw _ (List.mem_of_getElem? (i := 39) rfl))) (mvT hZ (hw _ (List.mem_of_getElem? (i := 60) rfl))) (by decide) (backOf (W := 0) (rmn l Z a0 hw [] r1  h0 n0 Z0 nr1) hZ (hw _ (List.mem_of_getElem? (i := 60) rfl)) (hw _ (List.mem_of_getElem? (i := 39) rfl)) (by decide) (by decide)) (g := (mkF m 14 #[.val (.ref a1), .val (.ref a2), .val (.double (FP.dadd (FP.dmul (FP.dmul v1 (FP.i2d (2 : Int32))) (4382002437431492608 : UInt64)) (FP.dmul (FP.dmul v2 (FP.i2d (2 : Int32))) (4382002437431492608 : UInt64)))), .second, .unset, .unset] [(.double r1)])) rfl (by rw [hml]; rfl) (argsL := [(.double r1)]) (rest := []) (lenOf pd_1 rfl) rfl (by show 2 * 0 + _ ≤ _; exact Nat.le_of_eq rfl) (hb hby d_prog_11_6_14) (fun _ _ => ⟨rfl, e3, (by decide : 0 + 0 ≤ _), (by decide : 0 + 0 ≤ _)⟩)
  dsimp only [Pt.U, Pt.locs, Pt.cells, Pt.slots] at X4 l4 y4 z4 st4 hQ4
  subst l4 y4 z4
  obtain ⟨rfl, Nq4, e4⟩ := hQ4
  have N4 := Fr.app N2 Nq4
  obtain ⟨T5, X5, e5, st5⟩ := getF X4 hx hZ hown (host := "") (Or.inl (hw _ (List.mem_of_getElem? (i := 46) rfl))) Via.refl e4 Fe2 (g := (mkF m 21 #[.val (.ref a1), .val (.ref a2), .val (.double (FP.dadd (FP.dmul (FP.dmul v1 (FP.i2d (2 : Int32))) (4382002437431492608 : UInt64)) (FP.dmul (FP.dmul v2 (FP.i2d (2 : Int32))) (4382002437431492608 : UInt64)))), .second, .unset, .unset] [(.ref a2)])) rfl rfl (hb hby d_prog_11_6_21)
  obtain ⟨_, _, ⟨T6, L6, k6_, n6⟩, -, X6, ⟨Lc6, hQ6, l6, y6, z6⟩, st6⟩ := Jvm.LawKit.callS X5 hx (y := (⟨"java/lang/Double", "isNaN", "(D)Z"⟩ : MethodName)) hown (mvT hZ (hw _ (List.mem_of_getElem? (i := 58) rfl))) (mvT hZ (hw _ (List.mem_of_getElem? (i := 59) rfl))) (mvT hZ (hw _ (List.mem_of_getElem? (i := 39) rfl))) (mvT hZ (hw _ (List.mem_of_getElem? (i := 60) rfl))) (by decide) (backOf (W := 0) (rmn l Z a0 hw [] r2  h0 n0 Z0 nr2) hZ (hw _ (List.mem_of_getElem? (i := 60) rfl)) (hw _ (List.mem_of_getElem? (i := 39) rfl)) (by decide) (by decide)) (g := (mkF m 24 #[.val (.ref a1), .val (.ref a2), .val (.double (FP.dadd (FP.dmul (FP.dmul v1 (FP.i2d (2 : Int32))) (4382002437431492608 : UInt64)) (FP.dmul (FP.dmul v2 (FP.i2d (2 : Int32))) (4382002437431492608 : UInt64)))), .second, .unset, .unset] [(.double r2)])) rfl (by rw [hml]; rfl) (argsL := [(.double r2)]) (rest := []) (lenOf pd_1 rfl) rfl (by show 2 * 0 + _ ≤ _; exact Nat.le_of_eq rfl) (hb hby d_prog_11_6_24) (fun _ _ => ⟨rfl, e5, (by decide : 0 + 0 ≤ _), (by decide : 0 + 0 ≤ _)⟩)
  dsimp only [Pt.U, Pt.locs, Pt.cells, Pt.slots] at X6 l6 y6 z6 st6 hQ6
  subst l6 y6 z6
  obtain ⟨rfl, Nq6, e6⟩ := hQ6
  have N6 := Fr.app N4 Nq6
  obtain ⟨T7, X7, e7, st7⟩ := getF X6 hx hZ hown (host := "") (Or.inl (hw _ (List.mem_of_getElem? (i := 34) rfl))) Via.refl e6 Fv1 (g := (mkF m 31 #[.val (.ref a1), .val (.ref a2), .val (.double (FP.dadd (FP.dmul (FP.dmul v1 (FP.i2d (2 : Int32))) (4382002437431492608 : UInt64)) (FP.dmul (FP.dmul v2 (FP.i2d (2 : Int32))) (4382002437431492608 : UInt64)))), .second, .unset, .unset] [(.ref a1)])) rfl rfl (hb hby d_prog_11_6_31)
  obtain ⟨T8, X8, e8, st8⟩ := getF X7 hx hZ hown (host := "") (Or.inl (hw _ (List.mem_of_getElem? (i := 34) rfl))) Via.refl e7 Fv2 (g := (mkF m 35 #[.val (.ref a1), .val (.ref a2), .val (.double (FP.dadd (FP.dmul (FP.dmul v1 (FP.i2d (2 : Int32))) (4382002437431492608 : UInt64)) (FP.dmul (FP.dmul v2 (FP.i2d (2 : Int32))) (4382002437431492608 : UInt64)))), .second, .unset, .unset] [(.ref a2), (.double v1)])) rfl rfl (hb hby d_prog_11_6_35)
  obtain ⟨_, _, ⟨T9, L9, k9_, n9⟩, -, X9, ⟨Lc9, hQ9, l9, y9, z9⟩, st9⟩ := Jvm.LawKit.callS X8 hx (y := (⟨"java/lang/Double", "compare", "(DD)I"⟩ : MethodName)) hown (mvT hZ (hw _ (List.mem_of_getElem? (i := 61) rfl))) (mvT hZ (hw _ (List.mem_of_getElem? (i := 62) rfl))) (mvT hZ (hw _ (List.mem_of_getElem? (i := 39) rfl))) (mvT hZ (hw _ (List.mem_of_getElem? (i := 63) rfl))) (by decide) (backOf (W := 0) (rmclt l Z a0 hw [] v1 v2  h0 n0 Z0 hlt) hZ (hw _ (List.mem_of_getElem? (i := 63) rfl)) (hw _ (List.mem_of_getElem? (i := 39) rfl)) (by decide) (by decide)) (g := (mkF m 38 #[.val (.ref a1), .val (.ref a2), .val (.double (FP.dadd (FP.dmul (FP.dmul v1 (FP.i2d (2 : Int32))) (4382002437431492608 : UInt64)) (FP.dmul (FP.dmul v2 (FP.i2d (2 : Int32))) (4382002437431492608 : UInt64)))), .second, .unset, .unset] [(.double v2), (.double v1)])) rfl (by rw [hml]; rfl) (argsL := [(.double v1), (.double v2)]) (rest := []) (lenOf pd_4 rfl) rfl (by show 2 * 0 + _ ≤ _; exact Nat.le_of_eq rfl) (hb hby d_prog_11_6_38) (fun _ _ => ⟨rfl, e8, (by decide : 0 + 0 ≤ _), (by decide : 0 + 0 ≤ _)⟩)
  dsimp only [Pt.U, Pt.locs, Pt.cells, Pt.slots] at X9 l9 y9 z9 st9 hQ9
  subst l9 y9 z9
  obtain ⟨rfl, Nq9, e9⟩ := hQ9
  have N9 := Fr.app N6 Nq9
  obtain ⟨fs, hr, hrun, hended, hW, hsame⟩ := X9.leave (v := some (.int (-1 : Int32))) (fun h => by rw [Bd.returns] at h; cases h) hlk
  refine ⟨_, _, ?_, hrun, hended, _, _, rfl, ?_, ⟨_, rfl⟩, hW, hsame.mono (by decide) (by decide)⟩
  · refine hA0 _ ?_
    refine k0 _ ?_
    refine own_f_aloadN X0.here hx (hb hby d_prog_11_6_0) rfl rfl (rfl : _ = 1) ?_
    refine st1.trans ?_
    show Steps p.tables e below (T1.setTop (mkF m 4 #[.val (.ref a1), .val (.ref a2), .unset, .unset, .unset, .unset] [(.double (FP.dmul (FP.dmul v1 (FP.i2d (2 : Int32))) (4382002437431492608 : UInt64)))])) _
    refine own_f_aloadN X1.here hx (hb hby d_prog_11_6_4) rfl rfl (rfl : _ = 5) ?_
    refine st2.trans ?_
    show Steps p.tables e below (T2.setTop (mkF m 8 #[.val (.ref a1), .val (.ref a2), .unset, .unset, .unset, .unset] [(.double (FP.dmul (FP.dmul v2 (FP.i2d (2 : Int32))) (4382002437431492608 : UInt64))), (.double (FP.dmul (FP.dmul v1 (FP.i2d (2 : Int32))) (4382002437431492608 : UInt64)))])) _
    refine own_f_dadd X2.here hx (hb hby d_prog_11_6_8) (nb) rfl (rfl : _ = 9) ?_
    refine own_f_dstoreN X2.here hx (hb hby d_prog_11_6_9) (rfl : storeLocals _ _ _ = some #[.val (.ref a1), .val (.ref a2), .val (.double (FP.dadd (FP.dmul (FP.dmul v1 (FP.i2d (2 : Int32))) (4382002437431492608 : UInt64)) (FP.dmul (FP.dmul v2 (FP.i2d (2 : Int32))) (4382002437431492608 : UInt64)))), .second, .unset, .unset]) (rfl : _ = 10) ?_
    refine own_f_aloadN X2.here hx (hb hby d_prog_11_6_10) rfl rfl (rfl : _ = 11) ?_
    refine st3 _ ?_
    show Steps p.tables e below (T3.setTop (mkF m 14 #[.val (.ref a1), .val (.ref a2), .val (.double (FP.dadd (FP.dmul (FP.dmul v1 (FP.i2d (2 : Int32))) (4382002437431492608 : UInt64)) (FP.dmul (FP.dmul v2 (FP.i2d (2 : Int32))) (4382002437431492608 : UInt64)))), .second, .unset, .unset] [(.double r1)])) _
    refine st4 _ ?_
    show Steps p.tables e below (T4.setTop (mkF m 17 #[.val (.ref a1), .val (.ref a2), .val (.double (FP.dadd (FP.dmul (FP.dmul v1 (FP.i2d (2 : Int32))) (4382002437431492608 : UInt64)) (FP.dmul (FP.dmul v2 (FP.i2d (2 : Int32))) (4382002437431492608 : UInt64)))), .second, .unset, .unset] [(.int (0 : Int32))])) _
    refine own_f_ifNo X4.here hx (hb hby d_prog_11_6_17) ((if0 _ _).trans (teq (rfl)).2) (rfl : _ = 20) ?_
    refine own_f_aloadN X4.here hx (hb hby d_prog_11_6_20) rfl rfl (rfl : _ = 21) ?_
    refine st5 _ ?_
    show Steps p.tables e below (T5.setTop (mkF m 24 #[.val (.ref a1), .val (.ref a2), .val (.double (FP.dadd (FP.dmul (FP.dmul v1 (FP.i2d (2 : Int32))) (4382002437431492608 : UInt64)) (FP.dmul (FP.dmul v2 (FP.i2d (2 : Int32))) (4382002437431492608 : UInt64)))), .second, .unset, .unset] [(.double r2)])) _
    refine st6 _ ?_
    show Steps p.tables e below (T6.setTop (mkF m 27 #[.val (.ref a1), .val (.ref a2), .val (.double (FP.dadd (FP.dmul (FP.dmul v1 (FP.i2d (2 : Int32))) (4382002437431492608 : UInt64)) (FP.dmul (FP.dmul v2 (FP.i2d (2 : Int32))) (4382002437431492608 : UInt64)))), .second, .unset, .unset] [(.int (0 : Int32))])) _
    refine own_f_ifNo X6.here hx (hb hby d_prog_11_6_27) ((if0 _ _).trans (teq (rfl)).2) (rfl : _ = 30) ?_
    refine own_f_aloadN X6.here hx (hb hby d_prog_11_6_30) rfl rfl (rfl : _ = 31) ?_
    refine st7 _ ?_
    show Steps p.tables e below (T7.setTop (mkF m 34 #[.val (.ref a1), .val (.ref a2), .val (.double (FP.dadd (FP.dmul (FP.dmul v1 (FP.i2d (2 : Int32))) (4382002437431492608 : UInt64)) (FP.dmul (FP.dmul v2 (FP.i2d (2 : Int32))) (4382002437431492608 : UInt64)))), .second, .unset, .unset] [(.double v1)])) _
    refine own_f_aloadN X7.here hx (hb hby d_prog_11_6_34) rfl rfl (rfl : _ = 35) ?_
    refine st8 _ ?_
    show Steps p.tables e below (T8.setTop (mkF m 38 #[.val (.ref a1), .val (.ref a2), .val (.double (FP.dadd (FP.dmul (FP.dmul v1 (FP.i2d (2 : Int32))) (4382002437431492608 : UInt64)) (FP.dmul (FP.dmul v2 (FP.i2d (2 : Int32))) (4382002437431492608 : UInt64)))), .second, .unset, .unset] [(.double v2), (.double v1)])) _
    refine st9 _ ?_
    show Steps p.tables e below (T9.setTop (mkF m 41 #[.val (.ref a1), .val (.ref a2), .val (.double (FP.dadd (FP.dmul (FP.dmul v1 (FP.i2d (2 : Int32))) (4382002437431492608 : UInt64)) (FP.dmul (FP.dmul v2 (FP.i2d (2 : Int32))) (4382002437431492608 : UInt64)))), .second, .unset, .unset] [(.int (-1 : Int32))])) _
    refine own_f_istore X9.here hx (hb hby d_prog_11_6_41) (rfl : storeLocals _ _ _ = some #[.val (.ref a1), .val (.ref a2), .val (.double (FP.dadd (FP.dmul (FP.dmul v1 (FP.i2d (2 : Int32))) (4382002437431492608 : UInt64)) (FP.dmul (FP.dmul v2 (FP.i2d (2 : Int32))) (4382002437431492608 : UInt64)))), .second, .unset, .val (.int (-1 : Int32))]) (rfl : _ = 43) ?_
    refine own_f_iload X9.here hx (hb hby d_prog_11_6_43) rfl (rfl : _ = 45) ?_
    refine own_f_ifNo X9.here hx (hb hby d_prog_11_6_45) ((if0 _ _).trans (feq (by decide)).1) (rfl : _ = 48) ?_
    refine own_f_iload X9.here hx (hb hby d_prog_11_6_48) rfl (rfl : _ = 50) ?_
    refine own_f_goto X9.here hx (hb hby d_prog_11_6_50) (by decide) (by decide : _ = 64) ?_
    refine own_f_istore X9.here hx (hb hby d_prog_11_6_64) (rfl : storeLocals _ _ _ = some #[.val (.ref a1), .val (.ref a2), .val (.double (FP.dadd (FP.dmul (FP.dmul v1 (FP.i2d (2 : Int32))) (4382002437431492608 : UInt64)) (FP.dmul (FP.dmul v2 (FP.i2d (2 : Int32))) (4382002437431492608 : UInt64)))), .second, .val (.int (-1 : Int32)), .val (.int (-1 : Int32))]) (rfl : _ = 66) ?_
    refine own_f_goto X9.here hx (hb hby d_prog_11_6_66) (by decide) (by decide : _ = 122) ?_
    refine own_f_iload X9.here hx (hb hby d_prog_11_6_122) rfl (rfl : _ = 124) ?_
    exact retI X9 hx Bd.returns (hb hby d_prog_11_6_124) hr
  · show Qt1 Z a1 a2 v1 r1 pa1 kc1 x1 y1 v2 r2 pa2 kc2 x2 y2 h0 n0 _ T9.heap _
    rw [e9]
    exact ⟨rfl, N9, rfl⟩
theorem ef_i (m : MethodId) (x0 : Addr) (x1 : Addr) : entryFrame m #[(.ref x0), (.ref x1)] 9 = mkF m 0 #[.val (.ref x0), .val (.ref x1), .unset, .unset, .unset, .unset, .unset, .unset, .unset] [] := by first | (simp [entryFrame, mkF, argsToLocals, Value.category]; done) | rfl
def Qi (Z : State) (a1 : Addr) (a2 : Addr) (kc : ClassId) (x1 : UInt64) (x2 : UInt64) (u1 : Value) (u2 : Value) (u3 : Value) (h0 : Heap) (n0 : Nat) (v : Option Value) (h : Heap) (L : List Loc) : Prop := v = none ∧ Fr n0 L ∧ Keep h0 h [a1] ∧ Exa Z h a1 "com/example/honeyguide/honeyguide/ExactSum" ∧ Fld Z h a1 "com/example/honeyguide/honeyguide/ExactSum" "parts" "[D" (.ref a2) ∧ Fld Z h a1 "com/example/honeyguide/honeyguide/ExactSum" "value" "D" (.double (FP.dadd (FP.dadd (0 : UInt64) x1) x2)) ∧ Fld Z h a1 "com/example/honeyguide/honeyguide/ExactSum" "error" "D" (.double (FP.dadd (FP.dsub x1 (FP.dsub (FP.dadd (FP.dadd (0 : UInt64) x1) x2) (FP.dsub (FP.dadd (FP.dadd (0 : UInt64) x1) x2) x1))) (FP.dsub x2 (FP.dsub (FP.dadd (FP.dadd (0 : UInt64) x1) x2) x1)))) ∧ Arv Z h a2 kc .double (2 : Int32) [(.double x1), (.double x2)] (.double (0 : UInt64))
set_option maxRecDepth 65536 in
set_option maxHeartbeats 40000000 in
theorem rmi (l : Launch) (Z : State) (a0 : Array Value) (hw : ∀ d ∈ tables_1, d.before a0 Z = true) (ws : List Jvm.Cond) (a1 : Addr) (a2 : Addr) (kc : ClassId) (x1 : UInt64) (x2 : UInt64) (u1 : Value) (u2 : Value) (u3 : Value) (h0 : Heap) (n0 : Nat) (Z0 : n0 ≤ h0.size) (Ea : Exa Z h0 a1 "com/example/honeyguide/honeyguide/ExactSum") (F_parts : Fld Z h0 a1 "com/example/honeyguide/honeyguide/ExactSum" "parts" "[D" u1) (F_value : Fld Z h0 a1 "com/example/honeyguide/honeyguide/ExactSum" "value" "D" u2) (F_error : Fld Z h0 a1 "com/example/honeyguide/honeyguide/ExactSum" "error" "D" u3) (Vp : Arv Z h0 a2 kc .double (2 : Int32) [(.double x1), (.double x2)] (.double (0 : UInt64))) (hne : a2 ≠ a1) (g_a1 : n0 ≤ a1) (n1 : Jvm.Free.Fl.NoNaN64 (FP.dadd (0 : UInt64) x1)) (n2 : Jvm.Free.Fl.NoNaN64 (FP.dadd (FP.dadd (0 : UInt64) x1) x2)) (n3 : Jvm.Free.Fl.NoNaN64 (FP.dsub (FP.dadd (FP.dadd (0 : UInt64) x1) x2) x1)) (n4 : Jvm.Free.Fl.NoNaN64 (FP.dsub (FP.dadd (FP.dadd (0 : UInt64) x1) x2) (FP.dsub (FP.dadd (FP.dadd (0 : UInt64) x1) x2) x1))) (n5 : Jvm.Free.Fl.NoNaN64 (FP.dsub x1 (FP.dsub (FP.dadd (FP.dadd (0 : UInt64) x1) x2) (FP.dsub (FP.dadd (FP.dadd (0 : UInt64) x1) x2) x1)))) (n6 : Jvm.Free.Fl.NoNaN64 (FP.dsub x2 (FP.dsub (FP.dadd (FP.dadd (0 : UInt64) x1) x2) x1))) (n7 : Jvm.Free.Fl.NoNaN64 (FP.dadd (FP.dsub x1 (FP.dsub (FP.dadd (FP.dadd (0 : UInt64) x1) x2) (FP.dsub (FP.dadd (FP.dadd (0 : UInt64) x1) x2) x1))) (FP.dsub x2 (FP.dsub (FP.dadd (FP.dadd (0 : UInt64) x1) x2) x1)))) (hf : ¬ ((0 : Int32) < (cmpValue (FP.dcmp ((FP.dadd (FP.dadd (0 : UInt64) x1) x2) &&& 0x7fffffffffffffff) (9218868437227405311 : UInt64)) .g))) :
    MetFree l (⟨"com/example/honeyguide/honeyguide/ExactSum", "<init>", "([D)V"⟩ : MethodName) (head1 (Jvm.Cond.code (⟨"com/example/honeyguide/honeyguide/ExactSum", "<init>", "([D)V"⟩ : MethodName) prog_11_method_1_code 9 none :: ws) ({ frames := 2, cells := 0, slots := 0, locals := 26 } : Room)) (fun a U => a = #[(.ref a1), (.ref a2)] ∧ Z.Warmed39 U.vm ∧ U.heap = h0) (fun _ _ _ _ _ => True) (fun _ U o U' => ∃ v L, o = .returned v ∧ Qi Z a1 a2 kc x1 x2 u1 u2 u3 h0 n0 v U'.heap L ∧ FrameEnd U o U' L ({ frames := 2, cells := 0, slots := 0, locals := 26 } : Room).cells ({ frames := 2, cells := 0, slots := 0, locals := 26 } : Room).slots) := by
  refine MetFree.of_bodySF (plainFor_of_name pn_1) hisR ?_
  intro p e s m args below meth c s₁ Bd hml0 hP hK
  obtain ⟨rfl, hZ, hh⟩ := hP
  have hlk : meth.locks = false := BodyLoose.notSynchronized Bd
  have hx := Bd.exec
  have hby := Bd.bytes
  have hml : c.maxLocals = 9 := hml0
  have hown : s.vm.findClass "com/example/honeyguide/honeyguide/ExactSum" = some m.cls := findClass_of_methodNamed Bd.named
  have hnm := (name_of_methodNamed Bd.named Bd.method).1
  have X0 : Stand p l e ({ frames := 2, cells := 0, slots := 0, locals := 26 } : Room) s m #[(.ref a1), (.ref a2)] below meth c s₁ [] 0 0 := Stand.of_body Bd
  have e0 : s₁.heap = h0 := by rw [← hh, Bd.state]; rfl
  have N0 := Fr.nil n0
  obtain ⟨A, hA⟩ : ∃ A, A = s₁.setTop (mkF m 0 #[.val (.ref a1), .val (.ref a2), .unset, .unset, .unset, .unset, .unset, .unset, .unset] []) := ⟨_, rfl⟩
  have hA0 : ∀ t, Steps p.tables e below A t → Steps p.tables e below (s₁.setTop (entryFrame m #[(.ref a1), (.ref a2)] 9)) t := fun t k => castTop (ef_i m a1 a2) (hA ▸ k)
  have k0 : ∀ t, Steps p.tables e below (s₁.setTop (mkF m 0 #[.val (.ref a1), .val (.ref a2), .unset, .unset, .unset, .unset, .unset, .unset, .unset] [])) t → Steps p.tables e below A t := fun t k => hA ▸ k
  have KK : Keep h0 h0 [a1] := Keep.refl h0 [a1]
  obtain ⟨T1, X1, e1, st1⟩ := initO X0 hx hZ hown (hw _ (List.mem_of_getElem? (i := 29) rfl)) (hw _ (List.mem_of_getElem? (i := 30) rfl)) (hw _ (List.mem_of_getElem? (i := 31) rfl)) e0 (g := (mkF m 1 #[.val (.ref a1), .val (.ref a2), .unset, .unset, .unset, .unset, .unset, .unset, .unset] [(.ref a1)])) rfl (by rw [hml]; rfl) rfl (hb hby d_prog_11_1_1) (by decide) (W := 0) (by show 2 * 0 + _ ≤ _; exact Nat.le_of_eq rfl) (by decide)
  obtain ⟨T2, h2, X2, e2, W2, st2⟩ := putF X1 hx hZ hown (host := "") (Or.inl (hw _ (List.mem_of_getElem? (i := 32) rfl))) Via.refl e1 F_parts Ea (Or.inr ⟨(hw _ (List.mem_of_getElem? (i := 33) rfl)), rfl, hnm⟩) (hw _ (List.mem_of_getElem? (i := 16) rfl)) (ty := (.array .double)) (by decide) rfl rfl (g := (mkF m 6 #[.val (.ref a1), .val (.ref a2), .unset, .unset, .unset, .unset, .unset, .unset, .unset] [(.ref a2), (.ref a1)])) rfl rfl (hb hby d_prog_11_1_6)
  replace Ea := Ea.wr W2
  replace F_value := F_value.other W2 (Or.inr (slot_ne (Or.inr (hw _ (List.mem_of_getElem? (i := 35) rfl))) (Or.inr (hw _ (List.mem_of_getElem? (i := 33) rfl))) (by decide) (t := .double) (t' := (.array .double)) (by decide) (by decide)))
  replace F_error := F_error.other W2 (Or.inr (slot_ne (Or.inr (hw _ (List.mem_of_getElem? (i := 47) rfl))) (Or.inr (hw _ (List.mem_of_getElem? (i := 33) rfl))) (by decide) (t := .double) (t' := (.array .double)) (by decide) (by decide)))
  replace Vp := Vp.other W2 hne
  have Zs2 := Nat.le_trans Z0 (Keep.of_wr W2).1
  replace KK := KK.wr W2 (Or.inl (by simp))
  replace F_parts := F_parts.same W2
  have N2 := Fr.snoc X2 N0 g_a1
  obtain ⟨cl3, Ar3, -, Sz3, Ng3, -, -⟩ := id Vp
  obtain ⟨cl4, Ar4, -, Sz4, Ng4, Hs4, -⟩ := id Vp
  have hin4 : ¬ ((0 : Int32) < 0 ∨ cl4.slots.size ≤ ((0 : Int32)).toNatClampNeg) := inb_of Sz4 ⟨by decide, by decide⟩
  have hat4 : cl4.slots[((0 : Int32)).toNatClampNeg]? = some (.double x1) := Hs4 _ (Nat.lt_of_not_le fun q => hin4 (Or.inr q))
  obtain ⟨cl5, Ar5, -, Sz5, Ng5, Hs5, -⟩ := id Vp
  have hin5 : ¬ ((1 : Int32) < 0 ∨ cl5.slots.size ≤ ((1 : Int32)).toNatClampNeg) := inb_of Sz5 ⟨by decide, by decide⟩
  have hat5 : cl5.slots[((1 : Int32)).toNatClampNeg]? = some (.double x2) := Hs5 _ (Nat.lt_of_not_le fun q => hin5 (Or.inr q))
  obtain ⟨T6, h6, X6, e6, W6, st6⟩ := putF X2 hx hZ hown (host := "") (Or.inl (hw _ (List.mem_of_getElem? (i := 34) rfl))) Via.refl e2 F_value Ea (Or.inr ⟨(hw _ (List.mem_of_getElem? (i := 35) rfl)), rfl, hnm⟩) (hw _ (List.mem_of_getElem? (i := 16) rfl)) (ty := .double) (by decide) rfl rfl (g := (mkF m 49 #[.val (.ref a1), .val (.ref a2), .val (.double (FP.dadd (FP.dadd (0 : UInt64) x1) x2)), .second, .val (.ref a2), .val (.int (2 : Int32)), .val (.int (2 : Int32)), .val (.double x2), .second] [(.double (FP.dadd (FP.dadd (0 : UInt64) x1) x2)), (.ref a1)])) rfl rfl (hb hby d_prog_11_1_49)
  replace Ea := Ea.wr W6
  replace F_parts := F_parts.other W6 (Or.inr (slot_ne (Or.inr (hw _ (List.mem_of_getElem? (i := 33) rfl))) (Or.inr (hw _ (List.mem_of_getElem? (i := 35) rfl))) (by decide) (t := (.array .double)) (t' := .double) (by decide) (by decide)))
  replace F_error := F_error.other W6 (Or.inr (slot_ne (Or.inr (hw _ (List.mem_of_getElem? (i := 47) rfl))) (Or.inr (hw _ (List.mem_of_getElem? (i := 35) rfl))) (by decide) (t := .double) (t' := .double) (by decide) (by decide)))
  replace Vp := Vp.other W6 hne
  have Zs6 := Nat.le_trans Zs2 (Keep.of_wr W6).1
  replace KK := KK.wr W6 (Or.inl (by simp))
  replace F_value := F_value.same W6
  have N6 := Fr.snoc X6 N2 g_a1
  obtain ⟨cl7, Ar7, -, Sz7, Ng7, -, -⟩ := id Vp
  obtain ⟨cl8, Ar8, -, Sz8, Ng8, -, -⟩ := id Vp
  obtain ⟨_, _, ⟨T9, L9, k9_, n9⟩, -, X9, ⟨Lc9, hQ9, l9, y9, z9⟩, st9⟩ := Jvm.LawKit.callS X6 hx (y := (⟨"java/lang/Double", "isFinite", "(D)Z"⟩ : MethodName)) hown (mvT hZ (hw _ (List.mem_of_getElem? (i := 37) rfl))) (mvT hZ (hw _ (List.mem_of_getElem? (i := 38) rfl))) (mvT hZ (hw _ (List.mem_of_getElem? (i := 39) rfl))) (mvT hZ (hw _ (List.mem_of_getElem? (i := 40) rfl))) (by decide) (backOf (W := 0) (rmf l Z a0 hw [] (FP.dadd (FP.dadd (0 : UInt64) x1) x2)  h6 n0 Zs6 n2 hf) hZ (hw _ (List.mem_of_getElem? (i := 40) rfl)) (hw _ (List.mem_of_getElem? (i := 39) rfl)) (by decide) (by decide)) (g := (mkF m 76 #[.val (.ref a1), .val (.ref a2), .val (.double (FP.dadd (FP.dadd (0 : UInt64) x1) x2)), .second, .val (.double (9221120237041090560 : UInt64)), .second, .val (.int (2 : Int32)), .val (.double x2), .second] [(.double (FP.dadd (FP.dadd (0 : UInt64) x1) x2))])) rfl (by rw [hml]; rfl) (argsL := [(.double (FP.dadd (FP.dadd (0 : UInt64) x1) x2))]) (rest := []) (lenOf pd_1 rfl) rfl (by show 2 * 0 + _ ≤ _; exact Nat.le_of_eq rfl) (hb hby d_prog_11_1_76) (fun _ _ => ⟨rfl, e6, (by decide : 0 + 0 ≤ _), (by decide : 0 + 0 ≤ _)⟩)
  dsimp only [Pt.U, Pt.locs, Pt.cells, Pt.slots] at X9 l9 y9 z9 st9 hQ9
  subst l9 y9 z9
  obtain ⟨rfl, Nq9, e9⟩ := hQ9
  have N9 := Fr.app N6 Nq9
  obtain ⟨cl10, Ar10, -, Sz10, Ng10, Hs10, -⟩ := id Vp
  have hin10 : ¬ ((0 : Int32) < 0 ∨ cl10.slots.size ≤ ((0 : Int32)).toNatClampNeg) := inb_of Sz10 ⟨by decide, by decide⟩
  have hat10 : cl10.slots[((0 : Int32)).toNatClampNeg]? = some (.double x1) := Hs10 _ (Nat.lt_of_not_le fun q => hin10 (Or.inr q))
  obtain ⟨cl11, Ar11, -, Sz11, Ng11, Hs11, -⟩ := id Vp
  have hin11 : ¬ ((0 : Int32) < 0 ∨ cl11.slots.size ≤ ((0 : Int32)).toNatClampNeg) := inb_of Sz11 ⟨by decide, by decide⟩
  have hat11 : cl11.slots[((0 : Int32)).toNatClampNeg]? = some (.double x1) := Hs11 _ (Nat.lt_of_not_le fun q => hin11 (Or.inr q))
  obtain ⟨cl12, Ar12, -, Sz12, Ng12, Hs12, -⟩ := id Vp
  have hin12 : ¬ ((1 : Int32) < 0 ∨ cl12.slots.size ≤ ((1 : Int32)).toNatClampNeg) := inb_of Sz12 ⟨by decide, by decide⟩
  have hat12 : cl12.slots[((1 : Int32)).toNatClampNeg]? = some (.double x2) := Hs12 _ (Nat.lt_of_not_le fun q => hin12 (Or.inr q))
  obtain ⟨T13, h13, X13, e13, W13, st13⟩ := putF X9 hx hZ hown (host := "") (Or.inl (hw _ (List.mem_of_getElem? (i := 46) rfl))) Via.refl e9 F_error Ea (Or.inr ⟨(hw _ (List.mem_of_getElem? (i := 47) rfl)), rfl, hnm⟩) (hw _ (List.mem_of_getElem? (i := 16) rfl)) (ty := .double) (by decide) rfl rfl (g := (mkF m 109 #[.val (.ref a1), .val (.ref a2), .val (.double (FP.dadd (FP.dadd (0 : UInt64) x1) x2)), .second, .val (.double (FP.dadd (FP.dsub x1 (FP.dsub (FP.dadd (FP.dadd (0 : UInt64) x1) x2) (FP.dsub (FP.dadd (FP.dadd (0 : UInt64) x1) x2) x1))) (FP.dsub x2 (FP.dsub (FP.dadd (FP.dadd (0 : UInt64) x1) x2) x1)))), .second, .val (.double (FP.dsub (FP.dadd (FP.dadd (0 : UInt64) x1) x2) x1)), .second, .unset] [(.double (FP.dadd (FP.dsub x1 (FP.dsub (FP.dadd (FP.dadd (0 : UInt64) x1) x2) (FP.dsub (FP.dadd (FP.dadd (0 : UInt64) x1) x2) x1))) (FP.dsub x2 (FP.dsub (FP.dadd (FP.dadd (0 : UInt64) x1) x2) x1)))), (.ref a1)])) rfl rfl (hb hby d_prog_11_1_109)
  replace Ea := Ea.wr W13
  replace F_parts := F_parts.other W13 (Or.inr (slot_ne (Or.inr (hw _ (List.mem_of_getElem? (i := 33) rfl))) (Or.inr (hw _ (List.mem_of_getElem? (i := 47) rfl))) (by decide) (t := (.array .double)) (t' := .double) (by decide) (by decide)))
  replace F_value := F_value.other W13 (Or.inr (slot_ne (Or.inr (hw _ (List.mem_of_getElem? (i := 35) rfl))) (Or.inr (hw _ (List.mem_of_getElem? (i := 47) rfl))) (by decide) (t := .double) (t' := .double) (by decide) (by decide)))
  replace Vp := Vp.other W13 hne
  have Zs13 := Nat.le_trans Zs6 (Keep.of_wr W13).1
  replace KK := KK.wr W13 (Or.inl (by simp))
  replace F_error := F_error.same W13
  have N13 := Fr.snoc X13 N9 g_a1
  obtain ⟨fs, hr, hrun, hended, hW, hsame⟩ := X13.leave (v := none) (fun _ => rfl) hlk
  refine ⟨_, _, ?_, hrun, hended, _, _, rfl, ?_, ⟨_, rfl⟩, hW, hsame.mono (by decide) (by decide)⟩
  · refine hA0 _ ?_
    refine k0 _ ?_
    refine own_f_aloadN X0.here hx (hb hby d_prog_11_1_0) rfl rfl (rfl : _ = 1) ?_
    refine st1 _ ?_
    show Steps p.tables e below (T1.setTop (mkF m 4 #[.val (.ref a1), .val (.ref a2), .unset, .unset, .unset, .unset, .unset, .unset, .unset] [])) _
    refine own_f_aloadN X1.here hx (hb hby d_prog_11_1_4) rfl rfl (rfl : _ = 5) ?_
    refine own_f_aloadN X1.here hx (hb hby d_prog_11_1_5) rfl rfl (rfl : _ = 6) ?_
    refine st2 _ ?_
    show Steps p.tables e below (T2.setTop (mkF m 9 #[.val (.ref a1), .val (.ref a2), .unset, .unset, .unset, .unset, .unset, .unset, .unset] [])) _
    refine own_f_dconst0 X2.here hx (hb hby d_prog_11_1_9) (rfl : _ = (0 : UInt64)) (rfl : _ = 10) ?_
    refine own_f_dstoreN X2.here hx (hb hby d_prog_11_1_10) (rfl : storeLocals _ _ _ = some #[.val (.ref a1), .val (.ref a2), .val (.double (0 : UInt64)), .second, .unset, .unset, .unset, .unset, .unset]) (rfl : _ = 11) ?_
    refine own_f_aloadN X2.here hx (hb hby d_prog_11_1_11) rfl rfl (rfl : _ = 12) ?_
    refine own_f_astore X2.here hx (hb hby d_prog_11_1_12) rfl (rfl : storeLocals _ _ _ = some #[.val (.ref a1), .val (.ref a2), .val (.double (0 : UInt64)), .second, .val (.ref a2), .unset, .unset, .unset, .unset]) (rfl : _ = 14) ?_
    refine own_f_aload X2.here hx (hb hby d_prog_11_1_14) rfl rfl (rfl : _ = 16) ?_
    refine X2.arraylength hx (by rw [e2]; exact Ar3.1) (State.isArrayOf_alike hZ.alike Ar3.2.1) (g := (mkF m 16 #[.val (.ref a1), .val (.ref a2), .val (.double (0 : UInt64)), .second, .val (.ref a2), .unset, .unset, .unset, .unset] [(.ref a2)])) rfl rfl (hb hby d_prog_11_1_16) _ ?_
    rw [len_of Sz3 Ng3]
    show Steps p.tables e below (T2.setTop (mkF m 17 #[.val (.ref a1), .val (.ref a2), .val (.double (0 : UInt64)), .second, .val (.ref a2), .unset, .unset, .unset, .unset] [(.int (2 : Int32))])) _
    refine own_f_istore X2.here hx (hb hby d_prog_11_1_17) (rfl : storeLocals _ _ _ = some #[.val (.ref a1), .val (.ref a2), .val (.double (0 : UInt64)), .second, .val (.ref a2), .val (.int (2 : Int32)), .unset, .unset, .unset]) (rfl : _ = 19) ?_
    refine own_f_iconst X2.here hx (hb hby d_prog_11_1_19) (rfl : _ = (0 : Int32)) (rfl : _ = 20) ?_
    refine own_f_istore X2.here hx (hb hby d_prog_11_1_20) (rfl : storeLocals _ _ _ = some #[.val (.ref a1), .val (.ref a2), .val (.double (0 : UInt64)), .second, .val (.ref a2), .val (.int (2 : Int32)), .val (.int (0 : Int32)), .unset, .unset]) (rfl : _ = 22) ?_
    refine own_f_iload X2.here hx (hb hby d_prog_11_1_22) rfl (rfl : _ = 24) ?_
    refine own_f_iload X2.here hx (hb hby d_prog_11_1_24) rfl (rfl : _ = 26) ?_
    refine own_f_icmpNo X2.here hx (hb hby d_prog_11_1_26) (tlt (by decide)).2.1 (rfl : _ = 29) ?_
    refine own_f_aload X2.here hx (hb hby d_prog_11_1_29) rfl rfl (rfl : _ = 31) ?_
    refine own_f_iload X2.here hx (hb hby d_prog_11_1_31) rfl (rfl : _ = 33) ?_
    refine X2.daload hx (j := (0 : Int32)) (v := (.double x1)) (by rw [e2]; exact Ar4.1) (State.isArrayOf_alike hZ.alike Ar4.2.1) Ar4.2.2 hin4 hat4 (g := (mkF m 33 #[.val (.ref a1), .val (.ref a2), .val (.double (0 : UInt64)), .second, .val (.ref a2), .val (.int (2 : Int32)), .val (.int (0 : Int32)), .unset, .unset] [(.int (0 : Int32)), (.ref a2)])) rfl rfl (hb hby d_prog_11_1_33) _ ?_
    show Steps p.tables e below (T2.setTop (mkF m 34 #[.val (.ref a1), .val (.ref a2), .val (.double (0 : UInt64)), .second, .val (.ref a2), .val (.int (2 : Int32)), .val (.int (0 : Int32)), .unset, .unset] [(.double x1)])) _
    refine own_f_dstore X2.here hx (hb hby d_prog_11_1_34) (rfl : storeLocals _ _ _ = some #[.val (.ref a1), .val (.ref a2), .val (.double (0 : UInt64)), .second, .val (.ref a2), .val (.int (2 : Int32)), .val (.int (0 : Int32)), .val (.double x1), .second]) (rfl : _ = 36) ?_
    refine own_f_dloadN X2.here hx (hb hby d_prog_11_1_36) rfl (rfl : _ = 37) ?_
    refine own_f_dload X2.here hx (hb hby d_prog_11_1_37) rfl (rfl : _ = 39) ?_
    refine own_f_dadd X2.here hx (hb hby d_prog_11_1_39) (n1) rfl (rfl : _ = 40) ?_
    refine own_f_dstoreN X2.here hx (hb hby d_prog_11_1_40) (rfl : storeLocals _ _ _ = some #[.val (.ref a1), .val (.ref a2), .val (.double (FP.dadd (0 : UInt64) x1)), .second, .val (.ref a2), .val (.int (2 : Int32)), .val (.int (0 : Int32)), .val (.double x1), .second]) (rfl : _ = 41) ?_
    refine own_f_iinc X2.here hx (hb hby d_prog_11_1_41) rfl (rfl : storeLocals _ _ _ = some #[.val (.ref a1), .val (.ref a2), .val (.double (FP.dadd (0 : UInt64) x1)), .second, .val (.ref a2), .val (.int (2 : Int32)), .val (.int (1 : Int32)), .val (.double x1), .second]) (rfl : _ = 44) ?_
    refine own_f_goto X2.here hx (hb hby d_prog_11_1_44) (by decide) (by decide : _ = 22) ?_
    refine own_f_iload X2.here hx (hb hby d_prog_11_1_22) rfl (rfl : _ = 24) ?_
    refine own_f_iload X2.here hx (hb hby d_prog_11_1_24) rfl (rfl : _ = 26) ?_
    refine own_f_icmpNo X2.here hx (hb hby d_prog_11_1_26) (tlt (by decide)).2.1 (rfl : _ = 29) ?_
    refine own_f_aload X2.here hx (hb hby d_prog_11_1_29) rfl rfl (rfl : _ = 31) ?_
    refine own_f_iload X2.here hx (hb hby d_prog_11_1_31) rfl (rfl : _ = 33) ?_
    refine X2.daload hx (j := (1 : Int32)) (v := (.double x2)) (by rw [e2]; exact Ar5.1) (State.isArrayOf_alike hZ.alike Ar5.2.1) Ar5.2.2 hin5 hat5 (g := (mkF m 33 #[.val (.ref a1), .val (.ref a2), .val (.double (FP.dadd (0 : UInt64) x1)), .second, .val (.ref a2), .val (.int (2 : Int32)), .val (.int (1 : Int32)), .val (.double x1), .second] [(.int (1 : Int32)), (.ref a2)])) rfl rfl (hb hby d_prog_11_1_33) _ ?_
    show Steps p.tables e below (T2.setTop (mkF m 34 #[.val (.ref a1), .val (.ref a2), .val (.double (FP.dadd (0 : UInt64) x1)), .second, .val (.ref a2), .val (.int (2 : Int32)), .val (.int (1 : Int32)), .val (.double x1), .second] [(.double x2)])) _
    refine own_f_dstore X2.here hx (hb hby d_prog_11_1_34) (rfl : storeLocals _ _ _ = some #[.val (.ref a1), .val (.ref a2), .val (.double (FP.dadd (0 : UInt64) x1)), .second, .val (.ref a2), .val (.int (2 : Int32)), .val (.int (1 : Int32)), .val (.double x2), .second]) (rfl : _ = 36) ?_
    refine own_f_dloadN X2.here hx (hb hby d_prog_11_1_36) rfl (rfl : _ = 37) ?_
    refine own_f_dload X2.here hx (hb hby d_prog_11_1_37) rfl (rfl : _ = 39) ?_
    refine own_f_dadd X2.here hx (hb hby d_prog_11_1_39) (n2) rfl (rfl : _ = 40) ?_
    refine own_f_dstoreN X2.here hx (hb hby d_prog_11_1_40) (rfl : storeLocals _ _ _ = some #[.val (.ref a1), .val (.ref a2), .val (.double (FP.dadd (FP.dadd (0 : UInt64) x1) x2)), .second, .val (.ref a2), .val (.int (2 : Int32)), .val (.int (1 : Int32)), .val (.double x2), .second]) (rfl : _ = 41) ?_
    refine own_f_iinc X2.here hx (hb hby d_prog_11_1_41) rfl (rfl : storeLocals _ _ _ = some #[.val (.ref a1), .val (.ref a2), .val (.double (FP.dadd (FP.dadd (0 : UInt64) x1) x2)), .second, .val (.ref a2), .val (.int (2 : Int32)), .val (.int (2 : Int32)), .val (.double x2), .second]) (rfl : _ = 44) ?_
    refine own_f_goto X2.here hx (hb hby d_prog_11_1_44) (by decide) (by decide : _ = 22) ?_
    refine own_f_iload X2.here hx (hb hby d_prog_11_1_22) rfl (rfl : _ = 24) ?_
    refine own_f_iload X2.here hx (hb hby d_prog_11_1_24) rfl (rfl : _ = 26) ?_
    refine own_f_icmpYes X2.here hx (hb hby d_prog_11_1_26) (flt (by decide)).2.1 (by decide) (by decide : _ = 47) ?_
    refine own_f_aloadN X2.here hx (hb hby d_prog_11_1_47) rfl rfl (rfl : _ = 48) ?_
    refine own_f_dloadN X2.here hx (hb hby d_prog_11_1_48) rfl (rfl : _ = 49) ?_
    refine st6 _ ?_
    show Steps p.tables e below (T6.setTop (mkF m 52 #[.val (.ref a1), .val (.ref a2), .val (.double (FP.dadd (FP.dadd (0 : UInt64) x1) x2)), .second, .val (.ref a2), .val (.int (2 : Int32)), .val (.int (2 : Int32)), .val (.double x2), .second] [])) _
    refine own_f_ldc2DoubleC X6 hx hown (mvT hZ (hw _ (List.mem_of_getElem? (i := 36) rfl))) (hb hby d_prog_11_1_52) (rfl : _ = 55) ?_
    refine own_f_dstore X6.here hx (hb hby d_prog_11_1_55) (rfl : storeLocals _ _ _ = some #[.val (.ref a1), .val (.ref a2), .val (.double (FP.dadd (FP.dadd (0 : UInt64) x1) x2)), .second, .val (.double (9221120237041090560 : UInt64)), .second, .val (.int (2 : Int32)), .val (.double x2), .second]) (rfl : _ = 57) ?_
    refine own_f_aloadN X6.here hx (hb hby d_prog_11_1_57) rfl rfl (rfl : _ = 58) ?_
    refine X6.arraylength hx (by rw [e6]; exact Ar7.1) (State.isArrayOf_alike hZ.alike Ar7.2.1) (g := (mkF m 58 #[.val (.ref a1), .val (.ref a2), .val (.double (FP.dadd (FP.dadd (0 : UInt64) x1) x2)), .second, .val (.double (9221120237041090560 : UInt64)), .second, .val (.int (2 : Int32)), .val (.double x2), .second] [(.ref a2)])) rfl rfl (hb hby d_prog_11_1_58) _ ?_
    rw [len_of Sz7 Ng7]
    show Steps p.tables e below (T6.setTop (mkF m 59 #[.val (.ref a1), .val (.ref a2), .val (.double (FP.dadd (FP.dadd (0 : UInt64) x1) x2)), .second, .val (.double (9221120237041090560 : UInt64)), .second, .val (.int (2 : Int32)), .val (.double x2), .second] [(.int (2 : Int32))])) _
    refine own_f_iconst X6.here hx (hb hby d_prog_11_1_59) (rfl : _ = (2 : Int32)) (rfl : _ = 60) ?_
    refine own_f_icmpYes X6.here hx (hb hby d_prog_11_1_60) (flt (by decide)).2.1 (by decide) (by decide : _ = 69) ?_
    refine own_f_aloadN X6.here hx (hb hby d_prog_11_1_69) rfl rfl (rfl : _ = 70) ?_
    refine X6.arraylength hx (by rw [e6]; exact Ar8.1) (State.isArrayOf_alike hZ.alike Ar8.2.1) (g := (mkF m 70 #[.val (.ref a1), .val (.ref a2), .val (.double (FP.dadd (FP.dadd (0 : UInt64) x1) x2)), .second, .val (.double (9221120237041090560 : UInt64)), .second, .val (.int (2 : Int32)), .val (.double x2), .second] [(.ref a2)])) rfl rfl (hb hby d_prog_11_1_70) _ ?_
    rw [len_of Sz8 Ng8]
    show Steps p.tables e below (T6.setTop (mkF m 71 #[.val (.ref a1), .val (.ref a2), .val (.double (FP.dadd (FP.dadd (0 : UInt64) x1) x2)), .second, .val (.double (9221120237041090560 : UInt64)), .second, .val (.int (2 : Int32)), .val (.double x2), .second] [(.int (2 : Int32))])) _
    refine own_f_iconst X6.here hx (hb hby d_prog_11_1_71) (rfl : _ = (2 : Int32)) (rfl : _ = 72) ?_
    refine own_f_icmpNo X6.here hx (hb hby d_prog_11_1_72) (teq (rfl)).2 (rfl : _ = 75) ?_
    refine own_f_dloadN X6.here hx (hb hby d_prog_11_1_75) rfl (rfl : _ = 76) ?_
    refine st9 _ ?_
    show Steps p.tables e below (T9.setTop (mkF m 79 #[.val (.ref a1), .val (.ref a2), .val (.double (FP.dadd (FP.dadd (0 : UInt64) x1) x2)), .second, .val (.double (9221120237041090560 : UInt64)), .second, .val (.int (2 : Int32)), .val (.double x2), .second] [(.int (1 : Int32))])) _
    refine own_f_ifNo X9.here hx (hb hby d_prog_11_1_79) ((if0 _ _).trans (feq (by decide)).1) (rfl : _ = 82) ?_
    refine own_f_dloadN X9.here hx (hb hby d_prog_11_1_82) rfl (rfl : _ = 83) ?_
    refine own_f_aloadN X9.here hx (hb hby d_prog_11_1_83) rfl rfl (rfl : _ = 84) ?_
    refine own_f_iconst X9.here hx (hb hby d_prog_11_1_84) (rfl : _ = (0 : Int32)) (rfl : _ = 85) ?_
    refine X9.daload hx (j := (0 : Int32)) (v := (.double x1)) (by rw [e9]; exact Ar10.1) (State.isArrayOf_alike hZ.alike Ar10.2.1) Ar10.2.2 hin10 hat10 (g := (mkF m 85 #[.val (.ref a1), .val (.ref a2), .val (.double (FP.dadd (FP.dadd (0 : UInt64) x1) x2)), .second, .val (.double (9221120237041090560 : UInt64)), .second, .val (.int (2 : Int32)), .val (.double x2), .second] [(.int (0 : Int32)), (.ref a2), (.double (FP.dadd (FP.dadd (0 : UInt64) x1) x2))])) rfl rfl (hb hby d_prog_11_1_85) _ ?_
    show Steps p.tables e below (T9.setTop (mkF m 86 #[.val (.ref a1), .val (.ref a2), .val (.double (FP.dadd (FP.dadd (0 : UInt64) x1) x2)), .second, .val (.double (9221120237041090560 : UInt64)), .second, .val (.int (2 : Int32)), .val (.double x2), .second] [(.double x1), (.double (FP.dadd (FP.dadd (0 : UInt64) x1) x2))])) _
    refine own_f_dsub X9.here hx (hb hby d_prog_11_1_86) (n3) rfl (rfl : _ = 87) ?_
    refine own_f_dstore X9.here hx (hb hby d_prog_11_1_87) (rfl : storeLocals _ _ _ = some #[.val (.ref a1), .val (.ref a2), .val (.double (FP.dadd (FP.dadd (0 : UInt64) x1) x2)), .second, .val (.double (9221120237041090560 : UInt64)), .second, .val (.double (FP.dsub (FP.dadd (FP.dadd (0 : UInt64) x1) x2) x1)), .second, .unset]) (rfl : _ = 89) ?_
    refine own_f_aloadN X9.here hx (hb hby d_prog_11_1_89) rfl rfl (rfl : _ = 90) ?_
    refine own_f_iconst X9.here hx (hb hby d_prog_11_1_90) (rfl : _ = (0 : Int32)) (rfl : _ = 91) ?_
    refine X9.daload hx (j := (0 : Int32)) (v := (.double x1)) (by rw [e9]; exact Ar11.1) (State.isArrayOf_alike hZ.alike Ar11.2.1) Ar11.2.2 hin11 hat11 (g := (mkF m 91 #[.val (.ref a1), .val (.ref a2), .val (.double (FP.dadd (FP.dadd (0 : UInt64) x1) x2)), .second, .val (.double (9221120237041090560 : UInt64)), .second, .val (.double (FP.dsub (FP.dadd (FP.dadd (0 : UInt64) x1) x2) x1)), .second, .unset] [(.int (0 : Int32)), (.ref a2)])) rfl rfl (hb hby d_prog_11_1_91) _ ?_
    show Steps p.tables e below (T9.setTop (mkF m 92 #[.val (.ref a1), .val (.ref a2), .val (.double (FP.dadd (FP.dadd (0 : UInt64) x1) x2)), .second, .val (.double (9221120237041090560 : UInt64)), .second, .val (.double (FP.dsub (FP.dadd (FP.dadd (0 : UInt64) x1) x2) x1)), .second, .unset] [(.double x1)])) _
    refine own_f_dloadN X9.here hx (hb hby d_prog_11_1_92) rfl (rfl : _ = 93) ?_
    refine own_f_dload X9.here hx (hb hby d_prog_11_1_93) rfl (rfl : _ = 95) ?_
    refine own_f_dsub X9.here hx (hb hby d_prog_11_1_95) (n4) rfl (rfl : _ = 96) ?_
    refine own_f_dsub X9.here hx (hb hby d_prog_11_1_96) (n5) rfl (rfl : _ = 97) ?_
    refine own_f_aloadN X9.here hx (hb hby d_prog_11_1_97) rfl rfl (rfl : _ = 98) ?_
    refine own_f_iconst X9.here hx (hb hby d_prog_11_1_98) (rfl : _ = (1 : Int32)) (rfl : _ = 99) ?_
    refine X9.daload hx (j := (1 : Int32)) (v := (.double x2)) (by rw [e9]; exact Ar12.1) (State.isArrayOf_alike hZ.alike Ar12.2.1) Ar12.2.2 hin12 hat12 (g := (mkF m 99 #[.val (.ref a1), .val (.ref a2), .val (.double (FP.dadd (FP.dadd (0 : UInt64) x1) x2)), .second, .val (.double (9221120237041090560 : UInt64)), .second, .val (.double (FP.dsub (FP.dadd (FP.dadd (0 : UInt64) x1) x2) x1)), .second, .unset] [(.int (1 : Int32)), (.ref a2), (.double (FP.dsub x1 (FP.dsub (FP.dadd (FP.dadd (0 : UInt64) x1) x2) (FP.dsub (FP.dadd (FP.dadd (0 : UInt64) x1) x2) x1))))])) rfl rfl (hb hby d_prog_11_1_99) _ ?_
    show Steps p.tables e below (T9.setTop (mkF m 100 #[.val (.ref a1), .val (.ref a2), .val (.double (FP.dadd (FP.dadd (0 : UInt64) x1) x2)), .second, .val (.double (9221120237041090560 : UInt64)), .second, .val (.double (FP.dsub (FP.dadd (FP.dadd (0 : UInt64) x1) x2) x1)), .second, .unset] [(.double x2), (.double (FP.dsub x1 (FP.dsub (FP.dadd (FP.dadd (0 : UInt64) x1) x2) (FP.dsub (FP.dadd (FP.dadd (0 : UInt64) x1) x2) x1))))])) _
    refine own_f_dload X9.here hx (hb hby d_prog_11_1_100) rfl (rfl : _ = 102) ?_
    refine own_f_dsub X9.here hx (hb hby d_prog_11_1_102) (n6) rfl (rfl : _ = 103) ?_
    refine own_f_dadd X9.here hx (hb hby d_prog_11_1_103) (n7) rfl (rfl : _ = 104) ?_
    refine own_f_dstore X9.here hx (hb hby d_prog_11_1_104) (rfl : storeLocals _ _ _ = some #[.val (.ref a1), .val (.ref a2), .val (.double (FP.dadd (FP.dadd (0 : UInt64) x1) x2)), .second, .val (.double (FP.dadd (FP.dsub x1 (FP.dsub (FP.dadd (FP.dadd (0 : UInt64) x1) x2) (FP.dsub (FP.dadd (FP.dadd (0 : UInt64) x1) x2) x1))) (FP.dsub x2 (FP.dsub (FP.dadd (FP.dadd (0 : UInt64) x1) x2) x1)))), .second, .val (.double (FP.dsub (FP.dadd (FP.dadd (0 : UInt64) x1) x2) x1)), .second, .unset]) (rfl : _ = 106) ?_
    refine own_f_aloadN X9.here hx (hb hby d_prog_11_1_106) rfl rfl (rfl : _ = 107) ?_
    refine own_f_dload X9.here hx (hb hby d_prog_11_1_107) rfl (rfl : _ = 109) ?_
    refine st13 _ ?_
    show Steps p.tables e below (T13.setTop (mkF m 112 #[.val (.ref a1), .val (.ref a2), .val (.double (FP.dadd (FP.dadd (0 : UInt64) x1) x2)), .second, .val (.double (FP.dadd (FP.dsub x1 (FP.dsub (FP.dadd (FP.dadd (0 : UInt64) x1) x2) (FP.dsub (FP.dadd (FP.dadd (0 : UInt64) x1) x2) x1))) (FP.dsub x2 (FP.dsub (FP.dadd (FP.dadd (0 : UInt64) x1) x2) x1)))), .second, .val (.double (FP.dsub (FP.dadd (FP.dadd (0 : UInt64) x1) x2) x1)), .second, .unset] [])) _
    exact X13.returnOut hx Bd.returns (hb hby d_prog_11_1_112) hr
  · show Qi Z a1 a2 kc x1 x2 u1 u2 u3 h0 n0 _ T13.heap _
    rw [e13]
    exact ⟨rfl, N13, KK, Ea, F_parts, F_value, F_error, Vp⟩
theorem ef_o (m : MethodId) (x0 : Addr) : entryFrame m #[(.ref x0)] 1 = mkF m 0 #[.val (.ref x0)] [] := by first | (simp [entryFrame, mkF, argsToLocals, Value.category]; done) | rfl
def Qo (Z : State) (a1 : Addr) (kc : ClassId) (x1 : UInt64) (x2 : UInt64) (h0 : Heap) (n0 : Nat) (v : Option Value) (h : Heap) (L : List Loc) : Prop := v = some (.ref h0.size) ∧ Fr n0 L ∧ Keep h0 h [] ∧ Exa Z h h0.size "com/example/honeyguide/honeyguide/ExactSum" ∧ ∃ (pa : Addr) (kp : ClassId), Fld Z h h0.size "com/example/honeyguide/honeyguide/ExactSum" "parts" "[D" (.ref pa) ∧ Fld Z h h0.size "com/example/honeyguide/honeyguide/ExactSum" "value" "D" (.double (FP.dadd (FP.dadd (0 : UInt64) x1) x2)) ∧ Fld Z h h0.size "com/example/honeyguide/honeyguide/ExactSum" "error" "D" (.double (FP.dadd (FP.dsub x1 (FP.dsub (FP.dadd (FP.dadd (0 : UInt64) x1) x2) (FP.dsub (FP.dadd (FP.dadd (0 : UInt64) x1) x2) x1))) (FP.dsub x2 (FP.dsub (FP.dadd (FP.dadd (0 : UInt64) x1) x2) x1)))) ∧ Arv Z h pa kp .double (2 : Int32) [(.double x1), (.double x2)] (.double (0 : UInt64))
set_option maxRecDepth 65536 in
set_option maxHeartbeats 40000000 in
theorem rmo (l : Launch) (Z : State) (a0 : Array Value) (hw : ∀ d ∈ tables_1, d.before a0 Z = true) (ws : List Jvm.Cond) (a1 : Addr) (kc : ClassId) (x1 : UInt64) (x2 : UInt64) (h0 : Heap) (n0 : Nat) (Z0 : n0 ≤ h0.size) (Va : Arv Z h0 a1 kc .double (2 : Int32) [(.double x1), (.double x2)] (.double (0 : UInt64))) (Ea : Exa Z h0 a1 "[D") (n1 : Jvm.Free.Fl.NoNaN64 (FP.dadd (0 : UInt64) x1)) (n2 : Jvm.Free.Fl.NoNaN64 (FP.dadd (FP.dadd (0 : UInt64) x1) x2)) (n3 : Jvm.Free.Fl.NoNaN64 (FP.dsub (FP.dadd (FP.dadd (0 : UInt64) x1) x2) x1)) (n4 : Jvm.Free.Fl.NoNaN64 (FP.dsub (FP.dadd (FP.dadd (0 : UInt64) x1) x2) (FP.dsub (FP.dadd (FP.dadd (0 : UInt64) x1) x2) x1))) (n5 : Jvm.Free.Fl.NoNaN64 (FP.dsub x1 (FP.dsub (FP.dadd (FP.dadd (0 : UInt64) x1) x2) (FP.dsub (FP.dadd (FP.dadd (0 : UInt64) x1) x2) x1)))) (n6 : Jvm.Free.Fl.NoNaN64 (FP.dsub x2 (FP.dsub (FP.dadd (FP.dadd (0 : UInt64) x1) x2) x1))) (n7 : Jvm.Free.Fl.NoNaN64 (FP.dadd (FP.dsub x1 (FP.dsub (FP.dadd (FP.dadd (0 : UInt64) x1) x2) (FP.dsub (FP.dadd (FP.dadd (0 : UInt64) x1) x2) x1))) (FP.dsub x2 (FP.dsub (FP.dadd (FP.dadd (0 : UInt64) x1) x2) x1)))) (hf : ¬ ((0 : Int32) < (cmpValue (FP.dcmp ((FP.dadd (FP.dadd (0 : UInt64) x1) x2) &&& 0x7fffffffffffffff) (9218868437227405311 : UInt64)) .g))) :
    MetFree l (⟨"com/example/honeyguide/honeyguide/ExactSum", "of", "([D)Lcom/example/honeyguide/honeyguide/ExactSum;"⟩ : MethodName) (head1 (Jvm.Cond.code (⟨"com/example/honeyguide/honeyguide/ExactSum", "of", "([D)Lcom/example/honeyguide/honeyguide/ExactSum;"⟩ : MethodName) prog_11_method_2_code 1 (some (.object "com/example/honeyguide/honeyguide/ExactSum")) :: ws) ({ frames := 3, cells := 2, slots := 6, locals := 47 } : Room)) (fun a U => a = #[(.ref a1)] ∧ Z.Warmed39 U.vm ∧ U.heap = h0) (fun _ _ _ _ _ => True) (fun _ U o U' => ∃ v L, o = .returned v ∧ Qo Z a1 kc x1 x2 h0 n0 v U'.heap L ∧ FrameEnd U o U' L ({ frames := 3, cells := 2, slots := 6, locals := 47 } : Room).cells ({ frames := 3, cells := 2, slots := 6, locals := 47 } : Room).slots) := by
  refine MetFree.of_bodySF (plainFor_of_name pn_1) hisR ?_
  intro p e s m args below meth c s₁ Bd hml0 hP hK
  obtain ⟨rfl, hZ, hh⟩ := hP
  have hlk : meth.locks = false := BodyLoose.notSynchronized Bd
  have hx := Bd.exec
  have hby := Bd.bytes
  have hml : c.maxLocals = 1 := hml0
  have hown : s.vm.findClass "com/example/honeyguide/honeyguide/ExactSum" = some m.cls := findClass_of_methodNamed Bd.named
  have hnm := (name_of_methodNamed Bd.named Bd.method).1
  have X0 : Stand p l e ({ frames := 3, cells := 2, slots := 6, locals := 47 } : Room) s m #[(.ref a1)] below meth c s₁ [] 0 0 := Stand.of_body Bd
  have e0 : s₁.heap = h0 := by rw [← hh, Bd.state]; rfl
  have N0 := Fr.nil n0
  obtain ⟨A, hA⟩ : ∃ A, A = s₁.setTop (mkF m 0 #[.val (.ref a1)] []) := ⟨_, rfl⟩
  have hA0 : ∀ t, Steps p.tables e below A t → Steps p.tables e below (s₁.setTop (entryFrame m #[(.ref a1)] 1)) t := fun t k => castTop (ef_o m a1) (hA ▸ k)
  have k0 : ∀ t, Steps p.tables e below (s₁.setTop (mkF m 0 #[.val (.ref a1)] [])) t → Steps p.tables e below A t := fun t k => hA ▸ k
  have KK : Keep h0 h0 [] := Keep.refl h0 []
  obtain ⟨T1, h1, X1, e1, E1, A1, D1, -, st1⟩ := newO X0 hx hZ hown (hw _ (List.mem_of_getElem? (i := 15) rfl)) (hw _ (List.mem_of_getElem? (i := 16) rfl)) (hw _ (List.mem_of_getElem? (i := 13) rfl)) e0 (g := (mkF m 0 #[.val (.ref a1)] [])) rfl (hb hby d_prog_11_2_0) (by decide) (by decide)
  obtain ⟨b1, g1⟩ : ∃ z, z = h0.size := ⟨_, rfl⟩
  rw [← g1] at A1 D1 st1
  have ne_a1_b1 : a1 ≠ b1 := Nat.ne_of_lt (Nat.lt_of_lt_of_le Va.lt (Nat.le_of_eq g1.symm))
  have g_b1 : n0 ≤ b1 := Nat.le_trans Z0 (Nat.le_of_eq g1.symm)
  have sz_b1 : h0.size ≤ b1 := Nat.le_trans KK.1 (Nat.le_of_eq g1.symm)
  replace Va := Va.ext E1
  replace Ea := Ea.ext E1
  have Zs1 := Nat.le_trans Z0 E1.1
  replace KK := KK.ext E1
  have Ex_b1 := A1
  have F_parts_b1 : Fld Z h1 b1 "com/example/honeyguide/honeyguide/ExactSum" "parts" "[D" .null := D1 (Or.inr (hw _ (List.mem_of_getElem? (i := 33) rfl))) (ty := (.array .double)) (by decide)
  have F_value_b1 : Fld Z h1 b1 "com/example/honeyguide/honeyguide/ExactSum" "value" "D" (.double (0 : UInt64)) := D1 (Or.inr (hw _ (List.mem_of_getElem? (i := 35) rfl))) (ty := .double) (by decide)
  have F_error_b1 : Fld Z h1 b1 "com/example/honeyguide/honeyguide/ExactSum" "error" "D" (.double (0 : UInt64)) := D1 (Or.inr (hw _ (List.mem_of_getElem? (i := 47) rfl))) (ty := .double) (by decide)
  obtain ⟨T2, h2, X2, e2, E2, A2, B2, st2⟩ := cloneH X1 hx hZ hown (hw _ (List.mem_of_getElem? (i := 17) rfl)) (hw _ (List.mem_of_getElem? (i := 18) rfl)) (hw _ (List.mem_of_getElem? (i := 22) rfl)) (hw _ (List.mem_of_getElem? (i := 20) rfl)) (hw _ (List.mem_of_getElem? (i := 21) rfl)) (hw _ (List.mem_of_getElem? (i := 23) rfl)) e1 Va.arh Ea (g := (mkF m 5 #[.val (.ref a1)] [(.ref a1), (.ref b1), (.ref b1)])) rfl (by rw [hml]; rfl) rfl (hb hby d_prog_11_2_5) (by decide) (W := 2) (cap := 2) (by show 2 * 0 + _ ≤ _; exact Nat.le_of_eq rfl) (by decide) (by decide) (by decide) (by decide)
  obtain ⟨b2, g2⟩ : ∃ z, z = h1.size := ⟨_, rfl⟩
  rw [← g2] at A2 B2 st2
  have ne_a1_b2 : a1 ≠ b2 := Nat.ne_of_lt (Nat.lt_of_lt_of_le Va.lt (Nat.le_of_eq g2.symm))
  have ne_b1_b2 : b1 ≠ b2 := Nat.ne_of_lt (Nat.lt_of_lt_of_le Ex_b1.lt (Nat.le_of_eq g2.symm))
  have g_b2 : n0 ≤ b2 := Nat.le_trans Zs1 (Nat.le_of_eq g2.symm)
  have sz_b2 : h0.size ≤ b2 := Nat.le_trans KK.1 (Nat.le_of_eq g2.symm)
  replace Va := Va.ext E2
  replace Ea := Ea.ext E2
  replace Ex_b1 := Ex_b1.ext E2
  replace F_parts_b1 := F_parts_b1.ext E2
  replace F_value_b1 := F_value_b1.ext E2
  replace F_error_b1 := F_error_b1.ext E2
  have Zs2 := Nat.le_trans Zs1 E2.1
  replace KK := KK.ext E2
  have V_b2 : Arv Z h2 b2 kc .double (2 : Int32) [(.double x1), (.double x2)] (.double (0 : UInt64)) := A2
  have Ex_b2 := B2
  obtain ⟨T3, X3, e3, st3⟩ := castY X2 hx hZ hown (hw _ (List.mem_of_getElem? (i := 24) rfl)) e2 (Ins.self Ex_b2) (g := (mkF m 8 #[.val (.ref a1)] [(.ref b2), (.ref b1), (.ref b1)])) rfl rfl (hb hby d_prog_11_2_8)
  obtain ⟨_, _, ⟨T4, L4, k4_, n4⟩, -, X4, ⟨Lc4, hQ4, l4, y4, z4⟩, st4⟩ := X3.specialBack hx (y := (⟨"com/example/honeyguide/honeyguide/ExactSum", "<init>", "([D)V"⟩ : MethodName)) rfl hown (mvT hZ (hw _ (List.mem_of_getElem? (i := 26) rfl))) (mvT hZ (hw _ (List.mem_of_getElem? (i := 27) rfl))) (mvT hZ (hw _ (List.mem_of_getElem? (i := 28) rfl))) (by decide) (backOf (W := 1) (rmi l Z a0 hw [] b1 b2 kc x1 x2 _ _ _ h2 n0 Zs2 Ex_b1 F_parts_b1 F_value_b1 F_error_b1 V_b2 (Ne.symm ne_b1_b2) g_b1 n1 n2 n3 n4 n5 n6 n7 hf) hZ (hw _ (List.mem_of_getElem? (i := 28) rfl)) (hw _ (List.mem_of_getElem? (i := 13) rfl)) (by decide) (by decide)) (g := (mkF m 11 #[.val (.ref a1)] [(.ref b2), (.ref b1), (.ref b1)])) rfl (by rw [hml]; rfl) (Steps.refl _) (a := b1) (argsL := [(.ref b2)]) (rest := [(.ref b1)]) (lenOf pd_5 rfl) rfl (by show 2 * 0 + _ ≤ _; exact Nat.le_of_eq rfl) (hb hby d_prog_11_2_11) (fun _ _ => ⟨rfl, e3, (by decide : 2 + 0 ≤ _), (by decide : 6 + 0 ≤ _)⟩)
  dsimp only [Pt.U, Pt.locs, Pt.cells, Pt.slots] at X4 l4 y4 z4 st4 hQ4
  subst l4 y4 z4
  obtain ⟨rfl, Nq4, Ki, Ei, Fpi, Fvi, Fei, Vpi⟩ := hQ4
  have N4 := Fr.app N0 Nq4
  replace Va := Va.keep Ki (by simpa using ne_a1_b1)
  replace Ea := Ea.keep Ki
  replace Ex_b1 := Ex_b1.keep Ki
  replace Ex_b2 := Ex_b2.keep Ki
  have Zs4 := Nat.le_trans Zs2 Ki.1
  replace KK := KK.trans Ki (fun x q => by cases List.mem_singleton.mp q; exact Or.inr sz_b1)
  obtain ⟨fs, hr, hrun, hended, hW, hsame⟩ := X4.leave (v := some (.ref b1)) (fun h => by rw [Bd.returns] at h; cases h) hlk
  refine ⟨_, _, ?_, hrun, hended, _, _, rfl, ?_, ⟨_, rfl⟩, hW, hsame.mono (by decide) (by decide)⟩
  · refine hA0 _ ?_
    refine k0 _ ?_
    refine st1 _ ?_
    show Steps p.tables e below (T1.setTop (mkF m 3 #[.val (.ref a1)] [(.ref b1)])) _
    refine own_f_dup X1.here hx (hb hby d_prog_11_2_3) rfl (rfl : _ = 4) ?_
    refine own_f_aloadN X1.here hx (hb hby d_prog_11_2_4) rfl rfl (rfl : _ = 5) ?_
    refine st2 _ ?_
    show Steps p.tables e below (T2.setTop (mkF m 8 #[.val (.ref a1)] [(.ref b2), (.ref b1), (.ref b1)])) _
    refine st3 _ ?_
    show Steps p.tables e below (T3.setTop (mkF m 11 #[.val (.ref a1)] [(.ref b2), (.ref b1), (.ref b1)])) _
    refine st4.trans ?_
    show Steps p.tables e below (T4.setTop (mkF m 14 #[.val (.ref a1)] [(.ref b1)])) _
    exact X4.areturnOut hx rfl Bd.returns rfl (hb hby d_prog_11_2_14) hr
  · show Qo Z a1 kc x1 x2 h0 n0 _ T4.heap _
    exact ⟨by rw [g1], N4, KK, (by rw [← g1]; exact Ei), _, _, (by rw [← g1]; exact Fpi), (by rw [← g1]; exact Fvi), (by rw [← g1]; exact Fei), Vpi⟩
theorem ef_s (m : MethodId) (x0 : Addr) (x1 : Addr) (x2 : UInt64) : entryFrame m #[(.ref x0), (.ref x1), (.double x2)] 12 = mkF m 0 #[.val (.ref x0), .val (.ref x1), .val (.double x2), .second, .unset, .unset, .unset, .unset, .unset, .unset, .unset, .unset] [] := by first | (simp [entryFrame, mkF, argsToLocals, Value.category]; done) | rfl
def Qs (Z : State) (aS : Addr) (a2 : Addr) (dm : UInt64) (kc : ClassId) (x1 : UInt64) (x2 : UInt64) (h0 : Heap) (n0 : Nat) (v : Option Value) (h : Heap) (L : List Loc) : Prop := ∃ (o : Addr), v = some (.ref o) ∧ Fr n0 L ∧ Keep h0 h [] ∧ Exa Z h o "com/example/honeyguide/honeyguide/ExactSum" ∧ ∃ (pa : Addr) (kp : ClassId), Fld Z h o "com/example/honeyguide/honeyguide/ExactSum" "parts" "[D" (.ref pa) ∧ Fld Z h o "com/example/honeyguide/honeyguide/ExactSum" "value" "D" (.double (FP.dadd (FP.dadd (0 : UInt64) x1) x2)) ∧ Fld Z h o "com/example/honeyguide/honeyguide/ExactSum" "error" "D" (.double (FP.dadd (FP.dsub x1 (FP.dsub (FP.dadd (FP.dadd (0 : UInt64) x1) x2) (FP.dsub (FP.dadd (FP.dadd (0 : UInt64) x1) x2) x1))) (FP.dsub x2 (FP.dsub (FP.dadd (FP.dadd (0 : UInt64) x1) x2) x1)))) ∧ Arv Z h pa kp .double (2 : Int32) [(.double x1), (.double x2)] (.double (0 : UInt64))
set_option maxRecDepth 65536 in
set_option maxHeartbeats 40000000 in
theorem rms (l : Launch) (Z : State) (a0 : Array Value) (hw : ∀ d ∈ tables_1, d.before a0 Z = true) (ws : List Jvm.Cond) (aS : Addr) (a2 : Addr) (dm : UInt64) (kc : ClassId) (x1 : UInt64) (x2 : UInt64) (h0 : Heap) (n0 : Nat) (Z0 : n0 ≤ h0.size) (OS : Sta Z Z.heap "com/example/honeyguide/honeyguide/CoverCost" "SUM" "Lcom/example/honeyguide/honeyguide/CoverCost;" (.ref aS)) (X00 : Old Z n0 h0) (Va : Arv Z h0 a2 kc .double (2 : Int32) [(.double x1), (.double x2)] (.double (0 : UInt64))) (Ea : Exa Z h0 a2 "[D") (n1 : Jvm.Free.Fl.NoNaN64 (FP.dadd (0 : UInt64) x1)) (n2 : Jvm.Free.Fl.NoNaN64 (FP.dadd (FP.dadd (0 : UInt64) x1) x2)) (n3 : Jvm.Free.Fl.NoNaN64 (FP.dsub (FP.dadd (FP.dadd (0 : UInt64) x1) x2) x1)) (n4 : Jvm.Free.Fl.NoNaN64 (FP.dsub (FP.dadd (FP.dadd (0 : UInt64) x1) x2) (FP.dsub (FP.dadd (FP.dadd (0 : UInt64) x1) x2) x1))) (n5 : Jvm.Free.Fl.NoNaN64 (FP.dsub x1 (FP.dsub (FP.dadd (FP.dadd (0 : UInt64) x1) x2) (FP.dsub (FP.dadd (FP.dadd (0 : UInt64) x1) x2) x1)))) (n6 : Jvm.Free.Fl.NoNaN64 (FP.dsub x2 (FP.dsub (FP.dadd (FP.dadd (0 : UInt64) x1) x2) x1))) (n7 : Jvm.Free.Fl.NoNaN64 (FP.dadd (FP.dsub x1 (FP.dsub (FP.dadd (FP.dadd (0 : UInt64) x1) x2) (FP.dsub (FP.dadd (FP.dadd (0 : UInt64) x1) x2) x1))) (FP.dsub x2 (FP.dsub (FP.dadd (FP.dadd (0 : UInt64) x1) x2) x1)))) (hf : ¬ ((0 : Int32) < (cmpValue (FP.dcmp ((FP.dadd (FP.dadd (0 : UInt64) x1) x2) &&& 0x7fffffffffffffff) (9218868437227405311 : UInt64)) .g))) :
    MetFree l (⟨"com/example/honeyguide/honeyguide/CoverCost", "of", "([DD)Lcom/example/honeyguide/honeyguide/ExactSum;"⟩ : MethodName) (head1 (Jvm.Cond.code (⟨"com/example/honeyguide/honeyguide/CoverCost", "of", "([DD)Lcom/example/honeyguide/honeyguide/ExactSum;"⟩ : MethodName) prog_8_method_6_code 12 (some (.object "com/example/honeyguide/honeyguide/ExactSum")) :: ws) ({ frames := 4, cells := 2, slots := 6, locals := 59 } : Room)) (fun a U => a = #[(.ref aS), (.ref a2), (.double dm)] ∧ Z.Warmed39 U.vm ∧ U.heap = h0) (fun _ _ _ _ _ => True) (fun _ U o U' => ∃ v L, o = .returned v ∧ Qs Z aS a2 dm kc x1 x2 h0 n0 v U'.heap L ∧ FrameEnd U o U' L ({ frames := 4, cells := 2, slots := 6, locals := 59 } : Room).cells ({ frames := 4, cells := 2, slots := 6, locals := 59 } : Room).slots) := by
  refine MetFree.of_bodySF (plainFor_of_name pn_2) hisR ?_
  intro p e s m args below meth c s₁ Bd hml0 hP hK
  obtain ⟨rfl, hZ, hh⟩ := hP
  have hlk : meth.locks = false := BodyLoose.notSynchronized Bd
  have hx := Bd.exec
  have hby := Bd.bytes
  have hml : c.maxLocals = 12 := hml0
  have hown : s.vm.findClass "com/example/honeyguide/honeyguide/CoverCost" = some m.cls := findClass_of_methodNamed Bd.named
  have hnm := (name_of_methodNamed Bd.named Bd.method).1
  have X0 : Stand p l e ({ frames := 4, cells := 2, slots := 6, locals := 59 } : Room) s m #[(.ref aS), (.ref a2), (.double dm)] below meth c s₁ [] 0 0 := Stand.of_body Bd
  have e0 : s₁.heap = h0 := by rw [← hh, Bd.state]; rfl
  have N0 := Fr.nil n0
  obtain ⟨A, hA⟩ : ∃ A, A = s₁.setTop (mkF m 0 #[.val (.ref aS), .val (.ref a2), .val (.double dm), .second, .unset, .unset, .unset, .unset, .unset, .unset, .unset, .unset] []) := ⟨_, rfl⟩
  have hA0 : ∀ t, Steps p.tables e below A t → Steps p.tables e below (s₁.setTop (entryFrame m #[(.ref aS), (.ref a2), (.double dm)] 12)) t := fun t k => castTop (ef_s m aS a2 dm) (hA ▸ k)
  have k0 : ∀ t, Steps p.tables e below (s₁.setTop (mkF m 0 #[.val (.ref aS), .val (.ref a2), .val (.double dm), .second, .unset, .unset, .unset, .unset, .unset, .unset, .unset, .unset] [])) t → Steps p.tables e below A t := fun t k => hA ▸ k
  have KK : Keep h0 h0 [] := Keep.refl h0 []
  obtain ⟨T1, X1, e1, st1⟩ := getS2 X0 hx hZ hown (host := "") (Or.inl (hw _ (List.mem_of_getElem? (i := 10) rfl))) Via.refl e0 (OS.ext X00.2) (g := (mkF m 1 #[.val (.ref aS), .val (.ref a2), .val (.double dm), .second, .unset, .unset, .unset, .unset, .unset, .unset, .unset, .unset] [(.ref aS)])) rfl (hb hby d_prog_8_6_1)
  obtain ⟨_, _, ⟨T2, L2, k2_, n2⟩, -, X2, ⟨Lc2, hQ2, l2, y2, z2⟩, st2⟩ := Jvm.LawKit.callS X1 hx (y := (⟨"com/example/honeyguide/honeyguide/ExactSum", "of", "([D)Lcom/example/honeyguide/honeyguide/ExactSum;"⟩ : MethodName)) hown (mvT hZ (hw _ (List.mem_of_getElem? (i := 11) rfl))) (mvT hZ (hw _ (List.mem_of_getElem? (i := 12) rfl))) (mvT hZ (hw _ (List.mem_of_getElem? (i := 13) rfl))) (mvT hZ (hw _ (List.mem_of_getElem? (i := 14) rfl))) (by decide) (backOf (W := 0) (rmo l Z a0 hw [] a2 kc x1 x2 h0 n0 Z0 Va Ea n1 n2 n3 n4 n5 n6 n7 hf) hZ (hw _ (List.mem_of_getElem? (i := 14) rfl)) (hw _ (List.mem_of_getElem? (i := 13) rfl)) (by decide) (by decide)) (g := (mkF m 8 #[.val (.ref aS), .val (.ref a2), .val (.double dm), .second, .unset, .unset, .unset, .unset, .unset, .unset, .unset, .unset] [(.ref a2)])) rfl (by rw [hml]; rfl) (argsL := [(.ref a2)]) (rest := []) (lenOf pd_6 rfl) rfl (by show 2 * 0 + _ ≤ _; exact Nat.le_of_eq rfl) (hb hby d_prog_8_6_8) (fun _ _ => ⟨rfl, e1, (by decide : 0 + 2 ≤ _), (by decide : 0 + 6 ≤ _)⟩)
  dsimp only [Pt.U, Pt.locs, Pt.cells, Pt.slots] at X2 l2 y2 z2 st2 hQ2
  subst l2 y2 z2
  obtain ⟨rfl, Nq2, Kq, Eo, pa, kp, Fp, Fv, Fe, Vp⟩ := hQ2
  have N2 := Fr.app N0 Nq2
  replace X00 := X00.keep Kq (by simp)
  replace Va := Va.keep Kq (by simp)
  replace Ea := Ea.keep Kq
  have Zs2 := Nat.le_trans Z0 Kq.1
  replace KK := KK.trans Kq (fun x q => nomatch q)
  obtain ⟨fs, hr, hrun, hended, hW, hsame⟩ := X2.leave (v := some (.ref h0.size)) (fun h => by rw [Bd.returns] at h; cases h) hlk
  refine ⟨_, _, ?_, hrun, hended, _, _, rfl, ?_, ⟨_, rfl⟩, hW, hsame.mono (by decide) (by decide)⟩
  · refine hA0 _ ?_
    refine k0 _ ?_
    refine own_f_aloadN X0.here hx (hb hby d_prog_8_6_0) rfl rfl (rfl : _ = 1) ?_
    refine st1 _ ?_
    show Steps p.tables e below (T1.setTop (mkF m 4 #[.val (.ref aS), .val (.ref a2), .val (.double dm), .second, .unset, .unset, .unset, .unset, .unset, .unset, .unset, .unset] [(.ref aS), (.ref aS)])) _
    refine Jvm.RoadKit.acmp (g := (mkF m 4 #[.val (.ref aS), .val (.ref a2), .val (.double dm), .second, .unset, .unset, .unset, .unset, .unset, .unset, .unset, .unset] [(.ref aS), (.ref aS)])) X1 hx rfl rfl rfl (pc0 := 4) (pc' := 7) (same := true) rfl (hb hby d_prog_8_6_4) rfl (decide_eq_true rfl) (by decide) (by decide) ?_
    show Steps p.tables e below (T1.setTop (mkF m 7 #[.val (.ref aS), .val (.ref a2), .val (.double dm), .second, .unset, .unset, .unset, .unset, .unset, .unset, .unset, .unset] [])) _
    refine own_f_aloadN X1.here hx (hb hby d_prog_8_6_7) rfl rfl (rfl : _ = 8) ?_
    refine st2 _ ?_
    show Steps p.tables e below (T2.setTop (mkF m 11 #[.val (.ref aS), .val (.ref a2), .val (.double dm), .second, .unset, .unset, .unset, .unset, .unset, .unset, .unset, .unset] [(.ref h0.size)])) _
    refine own_f_astore X2.here hx (hb hby d_prog_8_6_11) rfl (rfl : storeLocals _ _ _ = some #[.val (.ref aS), .val (.ref a2), .val (.double dm), .second, .val (.ref h0.size), .unset, .unset, .unset, .unset, .unset, .unset, .unset]) (rfl : _ = 13) ?_
    refine own_f_goto X2.here hx (hb hby d_prog_8_6_13) (by decide) (by decide : _ = 76) ?_
    refine own_f_aload X2.here hx (hb hby d_prog_8_6_76) rfl rfl (rfl : _ = 78) ?_
    exact X2.areturnOut hx rfl Bd.returns rfl (hb hby d_prog_8_6_78) hr
  · show Qs Z aS a2 dm kc x1 x2 h0 n0 _ T2.heap _
    exact ⟨_, rfl, N2, KK, Eo, pa, kp, Fp, Fv, Fe, Vp⟩
theorem ef_d (m : MethodId) (x0 : Addr) (x1 : Addr) (x2 : UInt64) : entryFrame m #[(.ref x0), (.ref x1), (.double x2)] 12 = mkF m 0 #[.val (.ref x0), .val (.ref x1), .val (.double x2), .second, .unset, .unset, .unset, .unset, .unset, .unset, .unset, .unset] [] := by first | (simp [entryFrame, mkF, argsToLocals, Value.category]; done) | rfl
def Qd (Z : State) (aD : Addr) (a2 : Addr) (dm : UInt64) (aS : Addr) (kc : ClassId) (x1 : UInt64) (x2 : UInt64) (h0 : Heap) (n0 : Nat) (v : Option Value) (h : Heap) (L : List Loc) : Prop := ∃ (o : Addr), v = some (.ref o) ∧ Fr n0 L ∧ Keep h0 h [] ∧ Exa Z h o "com/example/honeyguide/honeyguide/ExactSum" ∧ ∃ (pa : Addr) (kp : ClassId), Fld Z h o "com/example/honeyguide/honeyguide/ExactSum" "parts" "[D" (.ref pa) ∧ Fld Z h o "com/example/honeyguide/honeyguide/ExactSum" "value" "D" (.double (FP.dadd (FP.dadd (0 : UInt64) (Jvm.Native.java_lang_Math.nans.pick64 true (Jvm.Native.java_lang_Math.nans.pick64 true (0 : UInt64) x1) x2)) dm)) ∧ Fld Z h o "com/example/honeyguide/honeyguide/ExactSum" "error" "D" (.double (FP.dadd (FP.dsub (Jvm.Native.java_lang_Math.nans.pick64 true (Jvm.Native.java_lang_Math.nans.pick64 true (0 : UInt64) x1) x2) (FP.dsub (FP.dadd (FP.dadd (0 : UInt64) (Jvm.Native.java_lang_Math.nans.pick64 true (Jvm.Native.java_lang_Math.nans.pick64 true (0 : UInt64) x1) x2)) dm) (FP.dsub (FP.dadd (FP.dadd (0 : UInt64) (Jvm.Native.java_lang_Math.nans.pick64 true (Jvm.Native.java_lang_Math.nans.pick64 true (0 : UInt64) x1) x2)) dm) (Jvm.Native.java_lang_Math.nans.pick64 true (Jvm.Native.java_lang_Math.nans.pick64 true (0 : UInt64) x1) x2)))) (FP.dsub dm (FP.dsub (FP.dadd (FP.dadd (0 : UInt64) (Jvm.Native.java_lang_Math.nans.pick64 true (Jvm.Native.java_lang_Math.nans.pick64 true (0 : UInt64) x1) x2)) dm) (Jvm.Native.java_lang_Math.nans.pick64 true (Jvm.Native.java_lang_Math.nans.pick64 true (0 : UInt64) x1) x2))))) ∧ Arv Z h pa kp .double (2 : Int32) [(.double (Jvm.Native.java_lang_Math.nans.pick64 true (Jvm.Native.java_lang_Math.nans.pick64 true (0 : UInt64) x1) x2)), (.double dm)] (.double (0 : UInt64))
set_option maxRecDepth 65536 in
set_option maxHeartbeats 40000000 in
theorem rmd (l : Launch) (Z : State) (a0 : Array Value) (hw : ∀ d ∈ tables_1, d.before a0 Z = true) (ws : List Jvm.Cond) (aD : Addr) (a2 : Addr) (dm : UInt64) (aS : Addr) (kc : ClassId) (x1 : UInt64) (x2 : UInt64) (h0 : Heap) (n0 : Nat) (Z0 : n0 ≤ h0.size) (OS : Sta Z Z.heap "com/example/honeyguide/honeyguide/CoverCost" "SUM" "Lcom/example/honeyguide/honeyguide/CoverCost;" (.ref aS)) (X00 : Old Z n0 h0) (Va : Arv Z h0 a2 kc .double (2 : Int32) [(.double x1), (.double x2)] (.double (0 : UInt64))) (Ea : Exa Z h0 a2 "[D") (hne : aD ≠ aS) (m0 : Jvm.Free.Fl.NoNaN64 (0 : UInt64)) (m1 : Jvm.Free.Fl.NoNaN64 x1) (m2 : Jvm.Free.Fl.NoNaN64 (Jvm.Native.java_lang_Math.nans.pick64 true (0 : UInt64) x1)) (m3 : Jvm.Free.Fl.NoNaN64 x2) (n1 : Jvm.Free.Fl.NoNaN64 (FP.dadd (0 : UInt64) (Jvm.Native.java_lang_Math.nans.pick64 true (Jvm.Native.java_lang_Math.nans.pick64 true (0 : UInt64) x1) x2))) (n2 : Jvm.Free.Fl.NoNaN64 (FP.dadd (FP.dadd (0 : UInt64) (Jvm.Native.java_lang_Math.nans.pick64 true (Jvm.Native.java_lang_Math.nans.pick64 true (0 : UInt64) x1) x2)) dm)) (n3 : Jvm.Free.Fl.NoNaN64 (FP.dsub (FP.dadd (FP.dadd (0 : UInt64) (Jvm.Native.java_lang_Math.nans.pick64 true (Jvm.Native.java_lang_Math.nans.pick64 true (0 : UInt64) x1) x2)) dm) (Jvm.Native.java_lang_Math.nans.pick64 true (Jvm.Native.java_lang_Math.nans.pick64 true (0 : UInt64) x1) x2))) (n4 : Jvm.Free.Fl.NoNaN64 (FP.dsub (FP.dadd (FP.dadd (0 : UInt64) (Jvm.Native.java_lang_Math.nans.pick64 true (Jvm.Native.java_lang_Math.nans.pick64 true (0 : UInt64) x1) x2)) dm) (FP.dsub (FP.dadd (FP.dadd (0 : UInt64) (Jvm.Native.java_lang_Math.nans.pick64 true (Jvm.Native.java_lang_Math.nans.pick64 true (0 : UInt64) x1) x2)) dm) (Jvm.Native.java_lang_Math.nans.pick64 true (Jvm.Native.java_lang_Math.nans.pick64 true (0 : UInt64) x1) x2)))) (n5 : Jvm.Free.Fl.NoNaN64 (FP.dsub (Jvm.Native.java_lang_Math.nans.pick64 true (Jvm.Native.java_lang_Math.nans.pick64 true (0 : UInt64) x1) x2) (FP.dsub (FP.dadd (FP.dadd (0 : UInt64) (Jvm.Native.java_lang_Math.nans.pick64 true (Jvm.Native.java_lang_Math.nans.pick64 true (0 : UInt64) x1) x2)) dm) (FP.dsub (FP.dadd (FP.dadd (0 : UInt64) (Jvm.Native.java_lang_Math.nans.pick64 true (Jvm.Native.java_lang_Math.nans.pick64 true (0 : UInt64) x1) x2)) dm) (Jvm.Native.java_lang_Math.nans.pick64 true (Jvm.Native.java_lang_Math.nans.pick64 true (0 : UInt64) x1) x2))))) (n6 : Jvm.Free.Fl.NoNaN64 (FP.dsub dm (FP.dsub (FP.dadd (FP.dadd (0 : UInt64) (Jvm.Native.java_lang_Math.nans.pick64 true (Jvm.Native.java_lang_Math.nans.pick64 true (0 : UInt64) x1) x2)) dm) (Jvm.Native.java_lang_Math.nans.pick64 true (Jvm.Native.java_lang_Math.nans.pick64 true (0 : UInt64) x1) x2)))) (n7 : Jvm.Free.Fl.NoNaN64 (FP.dadd (FP.dsub (Jvm.Native.java_lang_Math.nans.pick64 true (Jvm.Native.java_lang_Math.nans.pick64 true (0 : UInt64) x1) x2) (FP.dsub (FP.dadd (FP.dadd (0 : UInt64) (Jvm.Native.java_lang_Math.nans.pick64 true (Jvm.Native.java_lang_Math.nans.pick64 true (0 : UInt64) x1) x2)) dm) (FP.dsub (FP.dadd (FP.dadd (0 : UInt64) (Jvm.Native.java_lang_Math.nans.pick64 true (Jvm.Native.java_lang_Math.nans.pick64 true (0 : UInt64) x1) x2)) dm) (Jvm.Native.java_lang_Math.nans.pick64 true (Jvm.Native.java_lang_Math.nans.pick64 true (0 : UInt64) x1) x2)))) (FP.dsub dm (FP.dsub (FP.dadd (FP.dadd (0 : UInt64) (Jvm.Native.java_lang_Math.nans.pick64 true (Jvm.Native.java_lang_Math.nans.pick64 true (0 : UInt64) x1) x2)) dm) (Jvm.Native.java_lang_Math.nans.pick64 true (Jvm.Native.java_lang_Math.nans.pick64 true (0 : UInt64) x1) x2))))) (hf : ¬ ((0 : Int32) < (cmpValue (FP.dcmp ((FP.dadd (FP.dadd (0 : UInt64) (Jvm.Native.java_lang_Math.nans.pick64 true (Jvm.Native.java_lang_Math.nans.pick64 true (0 : UInt64) x1) x2)) dm) &&& 0x7fffffffffffffff) (9218868437227405311 : UInt64)) .g))) :
    MetFree l (⟨"com/example/honeyguide/honeyguide/CoverCost", "of", "([DD)Lcom/example/honeyguide/honeyguide/ExactSum;"⟩ : MethodName) (head1 (Jvm.Cond.code (⟨"com/example/honeyguide/honeyguide/CoverCost", "of", "([DD)Lcom/example/honeyguide/honeyguide/ExactSum;"⟩ : MethodName) prog_8_method_6_code 12 (some (.object "com/example/honeyguide/honeyguide/ExactSum")) :: ws) ({ frames := 4, cells := 3, slots := 8, locals := 59 } : Room)) (fun a U => a = #[(.ref aD), (.ref a2), (.double dm)] ∧ Z.Warmed39 U.vm ∧ U.heap = h0) (fun _ _ _ _ _ => True) (fun _ U o U' => ∃ v L, o = .returned v ∧ Qd Z aD a2 dm aS kc x1 x2 h0 n0 v U'.heap L ∧ FrameEnd U o U' L ({ frames := 4, cells := 3, slots := 8, locals := 59 } : Room).cells ({ frames := 4, cells := 3, slots := 8, locals := 59 } : Room).slots) := by
  refine MetFree.of_bodySF (plainFor_of_name pn_2) hisR ?_
  intro p e s m args below meth c s₁ Bd hml0 hP hK
  obtain ⟨rfl, hZ, hh⟩ := hP
  have hlk : meth.locks = false := BodyLoose.notSynchronized Bd
  have hx := Bd.exec
  have hby := Bd.bytes
  have hml : c.maxLocals = 12 := hml0
  have hown : s.vm.findClass "com/example/honeyguide/honeyguide/CoverCost" = some m.cls := findClass_of_methodNamed Bd.named
  have hnm := (name_of_methodNamed Bd.named Bd.method).1
  have X0 : Stand p l e ({ frames := 4, cells := 3, slots := 8, locals := 59 } : Room) s m #[(.ref aD), (.ref a2), (.double dm)] below meth c s₁ [] 0 0 := Stand.of_body Bd
  have e0 : s₁.heap = h0 := by rw [← hh, Bd.state]; rfl
  have N0 := Fr.nil n0
  obtain ⟨A, hA⟩ : ∃ A, A = s₁.setTop (mkF m 0 #[.val (.ref aD), .val (.ref a2), .val (.double dm), .second, .unset, .unset, .unset, .unset, .unset, .unset, .unset, .unset] []) := ⟨_, rfl⟩
  have hA0 : ∀ t, Steps p.tables e below A t → Steps p.tables e below (s₁.setTop (entryFrame m #[(.ref aD), (.ref a2), (.double dm)] 12)) t := fun t k => castTop (ef_d m aD a2 dm) (hA ▸ k)
  have k0 : ∀ t, Steps p.tables e below (s₁.setTop (mkF m 0 #[.val (.ref aD), .val (.ref a2), .val (.double dm), .second, .unset, .unset, .unset, .unset, .unset, .unset, .unset, .unset] [])) t → Steps p.tables e below A t := fun t k => hA ▸ k
  have KK : Keep h0 h0 [] := Keep.refl h0 []
  obtain ⟨T1, X1, e1, st1⟩ := getS2 X0 hx hZ hown (host := "") (Or.inl (hw _ (List.mem_of_getElem? (i := 10) rfl))) Via.refl e0 (OS.ext X00.2) (g := (mkF m 1 #[.val (.ref aD), .val (.ref a2), .val (.double dm), .second, .unset, .unset, .unset, .unset, .unset, .unset, .unset, .unset] [(.ref aD)])) rfl (hb hby d_prog_8_6_1)
  obtain ⟨cl2, Ar2, -, Sz2, Ng2, -, -⟩ := id Va
  obtain ⟨cl3, Ar3, -, Sz3, Ng3, Hs3, -⟩ := id Va
  have hin3 : ¬ ((0 : Int32) < 0 ∨ cl3.slots.size ≤ ((0 : Int32)).toNatClampNeg) := inb_of Sz3 ⟨by decide, by decide⟩
  have hat3 : cl3.slots[((0 : Int32)).toNatClampNeg]? = some (.double x1) := Hs3 _ (Nat.lt_of_not_le fun q => hin3 (Or.inr q))
  obtain ⟨T4, X4, e4, st4⟩ := natS X1 hx hZ hown (hw _ (List.mem_of_getElem? (i := 79) rfl)) (hw _ (List.mem_of_getElem? (i := 80) rfl)) (hw _ (List.mem_of_getElem? (i := 43) rfl)) (hw _ (List.mem_of_getElem? (i := 81) rfl)) (by decide) e1 (W := 0) (val' := (.double (Jvm.Native.java_lang_Math.nans.pick64 true (0 : UInt64) x1))) (fun c => Jvm.Free.Fl.Abs.maxD_pays (0 : UInt64) x1 c (by decide) (by decide)) (g := (mkF m 48 #[.val (.ref aD), .val (.ref a2), .val (.double dm), .second, .unset, .val (.double (0 : UInt64)), .second, .val (.ref a2), .val (.int (2 : Int32)), .val (.int (0 : Int32)), .val (.double x1), .second] [(.double x1), (.double (0 : UInt64))])) rfl (by rw [hml]; rfl) (argsL := [(.double (0 : UInt64)), (.double x1)]) (rest := []) (lenOf pd_7 rfl) rfl (by show 2 * 0 + _ ≤ _; exact Nat.le_of_eq rfl) (hb hby d_prog_8_6_48) (by decide) (by decide) ⟨rfl, m0, m1⟩ rfl
  obtain ⟨cl5, Ar5, -, Sz5, Ng5, Hs5, -⟩ := id Va
  have hin5 : ¬ ((1 : Int32) < 0 ∨ cl5.slots.size ≤ ((1 : Int32)).toNatClampNeg) := inb_of Sz5 ⟨by decide, by decide⟩
  have hat5 : cl5.slots[((1 : Int32)).toNatClampNeg]? = some (.double x2) := Hs5 _ (Nat.lt_of_not_le fun q => hin5 (Or.inr q))
  obtain ⟨T6, X6, e6, st6⟩ := natS X4 hx hZ hown (hw _ (List.mem_of_getElem? (i := 79) rfl)) (hw _ (List.mem_of_getElem? (i := 80) rfl)) (hw _ (List.mem_of_getElem? (i := 43) rfl)) (hw _ (List.mem_of_getElem? (i := 81) rfl)) (by decide) e4 (W := 0) (val' := (.double (Jvm.Native.java_lang_Math.nans.pick64 true (Jvm.Native.java_lang_Math.nans.pick64 true (0 : UInt64) x1) x2))) (fun c => Jvm.Free.Fl.Abs.maxD_pays (Jvm.Native.java_lang_Math.nans.pick64 true (0 : UInt64) x1) x2 c (by decide) (by decide)) (g := (mkF m 48 #[.val (.ref aD), .val (.ref a2), .val (.double dm), .second, .unset, .val (.double (Jvm.Native.java_lang_Math.nans.pick64 true (0 : UInt64) x1)), .second, .val (.ref a2), .val (.int (2 : Int32)), .val (.int (1 : Int32)), .val (.double x2), .second] [(.double x2), (.double (Jvm.Native.java_lang_Math.nans.pick64 true (0 : UInt64) x1))])) rfl (by rw [hml]; rfl) (argsL := [(.double (Jvm.Native.java_lang_Math.nans.pick64 true (0 : UInt64) x1)), (.double x2)]) (rest := []) (lenOf pd_7 rfl) rfl (by show 2 * 0 + _ ≤ _; exact Nat.le_of_eq rfl) (hb hby d_prog_8_6_48) (by decide) (by decide) ⟨rfl, m2, m3⟩ rfl
  obtain ⟨T7, h7, c7, X7, e7, E7, A7, B7, st7⟩ := newPE X6 hx hZ (hw _ (List.mem_of_getElem? (i := 3) rfl)) e6 (g := (mkF m 60 #[.val (.ref aD), .val (.ref a2), .val (.double dm), .second, .unset, .val (.double (Jvm.Native.java_lang_Math.nans.pick64 true (Jvm.Native.java_lang_Math.nans.pick64 true (0 : UInt64) x1) x2)), .second, .val (.ref a2), .val (.int (2 : Int32)), .val (.int (2 : Int32)), .val (.double x2), .second] [(.int (2 : Int32))])) rfl (hb hby d_prog_8_6_60) rfl (by decide) (cap := 2) (by decide) (by decide) (by decide) (by decide) (ad := "[D") (by decide)
  obtain ⟨b7, g7⟩ : ∃ z, z = h0.size := ⟨_, rfl⟩
  rw [← g7] at A7 B7 st7
  have ne_a2_b7 : a2 ≠ b7 := Nat.ne_of_lt (Nat.lt_of_lt_of_le Va.lt (Nat.le_of_eq g7.symm))
  have g_b7 : n0 ≤ b7 := Nat.le_trans Z0 (Nat.le_of_eq g7.symm)
  have sz_b7 : h0.size ≤ b7 := Nat.le_trans KK.1 (Nat.le_of_eq g7.symm)
  replace X00 : Old Z n0 h7 := ⟨X00.1, Nat.le_trans X00.2.1 E7.1, fun x c r => E7.2 x c (X00.2.2 x c r)⟩
  replace Va := Va.ext E7
  replace Ea := Ea.ext E7
  have Zs7 := Nat.le_trans Z0 E7.1
  replace KK := KK.ext E7
  have Ex_b7 := B7
  have V_b7 : Arv Z h7 b7 c7 .double (2 : Int32) [(.double (0 : UInt64)), (.double (0 : UInt64))] (.double (0 : UInt64)) := (Arv.new A7 (by decide)).pad (pad_rep [] (.double (0 : UInt64)) 2)
  obtain ⟨cl8, Ar8, q8, Sz8, Ng8, Hs8, Gs8⟩ := V_b7
  have hin8 : ¬ ((0 : Int32) < 0 ∨ cl8.slots.size ≤ ((0 : Int32)).toNatClampNeg) := inb_of Sz8 ⟨by decide, by decide⟩
  obtain ⟨T9, h9, X9, e9, W9, st9⟩ := stD X7 hx hZ e7 Ar8 (j := (0 : Int32)) hin8 (g := (mkF m 66 #[.val (.ref aD), .val (.ref a2), .val (.double dm), .second, .unset, .val (.double (Jvm.Native.java_lang_Math.nans.pick64 true (Jvm.Native.java_lang_Math.nans.pick64 true (0 : UInt64) x1) x2)), .second, .val (.ref a2), .val (.int (2 : Int32)), .val (.int (2 : Int32)), .val (.double x2), .second] [(.double (Jvm.Native.java_lang_Math.nans.pick64 true (Jvm.Native.java_lang_Math.nans.pick64 true (0 : UInt64) x1) x2)), (.int (0 : Int32)), (.ref b7), (.ref b7)])) rfl rfl (hb hby d_prog_8_6_66)
  replace X00 := X00.wr W9 g_b7
  replace Va := Va.other W9 ne_a2_b7
  replace Ea := Ea.wr W9
  replace Ex_b7 := Ex_b7.wr W9
  have Zs9 := Nat.le_trans Zs7 (Keep.of_wr W9).1
  replace KK := KK.wr W9 (Or.inr sz_b7)
  have V_b7 : Arv Z h9 b7 c7 .double (2 : Int32) [(.double (Jvm.Native.java_lang_Math.nans.pick64 true (Jvm.Native.java_lang_Math.nans.pick64 true (0 : UInt64) x1) x2)), (.double (0 : UInt64))] (.double (0 : UInt64)) := Arv.set Ar8 q8 Sz8 Ng8 Hs8 Gs8 rfl W9 0 rfl (Nat.le_of_ble_eq_true rfl)
  have N9 := Fr.snoc X9 N0 g_b7
  obtain ⟨cl10, Ar10, q10, Sz10, Ng10, Hs10, Gs10⟩ := V_b7
  have hin10 : ¬ ((1 : Int32) < 0 ∨ cl10.slots.size ≤ ((1 : Int32)).toNatClampNeg) := inb_of Sz10 ⟨by decide, by decide⟩
  obtain ⟨T11, h11, X11, e11, W11, st11⟩ := stD X9 hx hZ e9 Ar10 (j := (1 : Int32)) hin10 (g := (mkF m 70 #[.val (.ref aD), .val (.ref a2), .val (.double dm), .second, .unset, .val (.double (Jvm.Native.java_lang_Math.nans.pick64 true (Jvm.Native.java_lang_Math.nans.pick64 true (0 : UInt64) x1) x2)), .second, .val (.ref a2), .val (.int (2 : Int32)), .val (.int (2 : Int32)), .val (.double x2), .second] [(.double dm), (.int (1 : Int32)), (.ref b7), (.ref b7)])) rfl rfl (hb hby d_prog_8_6_70)
  replace X00 := X00.wr W11 g_b7
  replace Va := Va.other W11 ne_a2_b7
  replace Ea := Ea.wr W11
  replace Ex_b7 := Ex_b7.wr W11
  have Zs11 := Nat.le_trans Zs9 (Keep.of_wr W11).1
  replace KK := KK.wr W11 (Or.inr sz_b7)
  have V_b7 : Arv Z h11 b7 c7 .double (2 : Int32) [(.double (Jvm.Native.java_lang_Math.nans.pick64 true (Jvm.Native.java_lang_Math.nans.pick64 true (0 : UInt64) x1) x2)), (.double dm)] (.double (0 : UInt64)) := Arv.set Ar10 q10 Sz10 Ng10 Hs10 Gs10 rfl W11 1 rfl (Nat.le_of_ble_eq_true rfl)
  have N11 := Fr.snoc X11 N9 g_b7
  obtain ⟨_, _, ⟨T12, L12, k12_, n12⟩, -, X12, ⟨Lc12, hQ12, l12, y12, z12⟩, st12⟩ := Jvm.LawKit.callS X11 hx (y := (⟨"com/example/honeyguide/honeyguide/ExactSum", "of", "([D)Lcom/example/honeyguide/honeyguide/ExactSum;"⟩ : MethodName)) hown (mvT hZ (hw _ (List.mem_of_getElem? (i := 11) rfl))) (mvT hZ (hw _ (List.mem_of_getElem? (i := 12) rfl))) (mvT hZ (hw _ (List.mem_of_getElem? (i := 13) rfl))) (mvT hZ (hw _ (List.mem_of_getElem? (i := 14) rfl))) (by decide) (backOf (W := 0) (rmo l Z a0 hw [] b7 _ (Jvm.Native.java_lang_Math.nans.pick64 true (Jvm.Native.java_lang_Math.nans.pick64 true (0 : UInt64) x1) x2) dm h11 n0 Zs11 V_b7 Ex_b7 n1 n2 n3 n4 n5 n6 n7 hf) hZ (hw _ (List.mem_of_getElem? (i := 14) rfl)) (hw _ (List.mem_of_getElem? (i := 13) rfl)) (by decide) (by decide)) (g := (mkF m 71 #[.val (.ref aD), .val (.ref a2), .val (.double dm), .second, .unset, .val (.double (Jvm.Native.java_lang_Math.nans.pick64 true (Jvm.Native.java_lang_Math.nans.pick64 true (0 : UInt64) x1) x2)), .second, .val (.ref a2), .val (.int (2 : Int32)), .val (.int (2 : Int32)), .val (.double x2), .second] [(.ref b7)])) rfl (by rw [hml]; rfl) (argsL := [(.ref b7)]) (rest := []) (lenOf pd_6 rfl) rfl (by show 2 * 0 + _ ≤ _; exact Nat.le_of_eq rfl) (hb hby d_prog_8_6_71) (fun _ _ => ⟨rfl, e11, (by decide : 1 + 2 ≤ _), (by decide : 2 + 6 ≤ _)⟩)
  dsimp only [Pt.U, Pt.locs, Pt.cells, Pt.slots] at X12 l12 y12 z12 st12 hQ12
  subst l12 y12 z12
  obtain ⟨rfl, Nq12, Kq, Eo, pa, kp, Fp, Fv, Fe, Vp⟩ := hQ12
  have N12 := Fr.app N11 Nq12
  replace X00 := X00.keep Kq (by simp)
  replace Va := Va.keep Kq (by simp)
  replace Ea := Ea.keep Kq
  replace Ex_b7 := Ex_b7.keep Kq
  replace V_b7 := V_b7.keep Kq (by simp)
  have Zs12 := Nat.le_trans Zs11 Kq.1
  replace KK := KK.trans Kq (fun x q => nomatch q)
  obtain ⟨fs, hr, hrun, hended, hW, hsame⟩ := X12.leave (v := some (.ref h11.size)) (fun h => by rw [Bd.returns] at h; cases h) hlk
  refine ⟨_, _, ?_, hrun, hended, _, _, rfl, ?_, ⟨_, rfl⟩, hW, hsame.mono (by decide) (by decide)⟩
  · refine hA0 _ ?_
    refine k0 _ ?_
    refine own_f_aloadN X0.here hx (hb hby d_prog_8_6_0) rfl rfl (rfl : _ = 1) ?_
    refine st1 _ ?_
    show Steps p.tables e below (T1.setTop (mkF m 4 #[.val (.ref aD), .val (.ref a2), .val (.double dm), .second, .unset, .unset, .unset, .unset, .unset, .unset, .unset, .unset] [(.ref aS), (.ref aD)])) _
    refine Jvm.RoadKit.acmp (g := (mkF m 4 #[.val (.ref aD), .val (.ref a2), .val (.double dm), .second, .unset, .unset, .unset, .unset, .unset, .unset, .unset, .unset] [(.ref aS), (.ref aD)])) X1 hx rfl rfl rfl (pc0 := 4) (pc' := 16) (same := false) rfl (hb hby d_prog_8_6_4) rfl (decide_eq_false (fun q => hne (Value.ref.inj q))) (by decide) (by decide) ?_
    show Steps p.tables e below (T1.setTop (mkF m 16 #[.val (.ref aD), .val (.ref a2), .val (.double dm), .second, .unset, .unset, .unset, .unset, .unset, .unset, .unset, .unset] [])) _
    refine own_f_dconst0 X1.here hx (hb hby d_prog_8_6_16) (rfl : _ = (0 : UInt64)) (rfl : _ = 17) ?_
    refine own_f_dstore X1.here hx (hb hby d_prog_8_6_17) (rfl : storeLocals _ _ _ = some #[.val (.ref aD), .val (.ref a2), .val (.double dm), .second, .unset, .val (.double (0 : UInt64)), .second, .unset, .unset, .unset, .unset, .unset]) (rfl : _ = 19) ?_
    refine own_f_aloadN X1.here hx (hb hby d_prog_8_6_19) rfl rfl (rfl : _ = 20) ?_
    refine own_f_astore X1.here hx (hb hby d_prog_8_6_20) rfl (rfl : storeLocals _ _ _ = some #[.val (.ref aD), .val (.ref a2), .val (.double dm), .second, .unset, .val (.double (0 : UInt64)), .second, .val (.ref a2), .unset, .unset, .unset, .unset]) (rfl : _ = 22) ?_
    refine own_f_aload X1.here hx (hb hby d_prog_8_6_22) rfl rfl (rfl : _ = 24) ?_
    refine X1.arraylength hx (by rw [e1]; exact Ar2.1) (State.isArrayOf_alike hZ.alike Ar2.2.1) (g := (mkF m 24 #[.val (.ref aD), .val (.ref a2), .val (.double dm), .second, .unset, .val (.double (0 : UInt64)), .second, .val (.ref a2), .unset, .unset, .unset, .unset] [(.ref a2)])) rfl rfl (hb hby d_prog_8_6_24) _ ?_
    rw [len_of Sz2 Ng2]
    show Steps p.tables e below (T1.setTop (mkF m 25 #[.val (.ref aD), .val (.ref a2), .val (.double dm), .second, .unset, .val (.double (0 : UInt64)), .second, .val (.ref a2), .unset, .unset, .unset, .unset] [(.int (2 : Int32))])) _
    refine own_f_istore X1.here hx (hb hby d_prog_8_6_25) (rfl : storeLocals _ _ _ = some #[.val (.ref aD), .val (.ref a2), .val (.double dm), .second, .unset, .val (.double (0 : UInt64)), .second, .val (.ref a2), .val (.int (2 : Int32)), .unset, .unset, .unset]) (rfl : _ = 27) ?_
    refine own_f_iconst X1.here hx (hb hby d_prog_8_6_27) (rfl : _ = (0 : Int32)) (rfl : _ = 28) ?_
    refine own_f_istore X1.here hx (hb hby d_prog_8_6_28) (rfl : storeLocals _ _ _ = some #[.val (.ref aD), .val (.ref a2), .val (.double dm), .second, .unset, .val (.double (0 : UInt64)), .second, .val (.ref a2), .val (.int (2 : Int32)), .val (.int (0 : Int32)), .unset, .unset]) (rfl : _ = 30) ?_
    refine own_f_iload X1.here hx (hb hby d_prog_8_6_30) rfl (rfl : _ = 32) ?_
    refine own_f_iload X1.here hx (hb hby d_prog_8_6_32) rfl (rfl : _ = 34) ?_
    refine own_f_icmpNo X1.here hx (hb hby d_prog_8_6_34) (tlt (by decide)).2.1 (rfl : _ = 37) ?_
    refine own_f_aload X1.here hx (hb hby d_prog_8_6_37) rfl rfl (rfl : _ = 39) ?_
    refine own_f_iload X1.here hx (hb hby d_prog_8_6_39) rfl (rfl : _ = 41) ?_
    refine X1.daload hx (j := (0 : Int32)) (v := (.double x1)) (by rw [e1]; exact Ar3.1) (State.isArrayOf_alike hZ.alike Ar3.2.1) Ar3.2.2 hin3 hat3 (g := (mkF m 41 #[.val (.ref aD), .val (.ref a2), .val (.double dm), .second, .unset, .val (.double (0 : UInt64)), .second, .val (.ref a2), .val (.int (2 : Int32)), .val (.int (0 : Int32)), .unset, .unset] [(.int (0 : Int32)), (.ref a2)])) rfl rfl (hb hby d_prog_8_6_41) _ ?_
    show Steps p.tables e below (T1.setTop (mkF m 42 #[.val (.ref aD), .val (.ref a2), .val (.double dm), .second, .unset, .val (.double (0 : UInt64)), .second, .val (.ref a2), .val (.int (2 : Int32)), .val (.int (0 : Int32)), .unset, .unset] [(.double x1)])) _
    refine own_f_dstore X1.here hx (hb hby d_prog_8_6_42) (rfl : storeLocals _ _ _ = some #[.val (.ref aD), .val (.ref a2), .val (.double dm), .second, .unset, .val (.double (0 : UInt64)), .second, .val (.ref a2), .val (.int (2 : Int32)), .val (.int (0 : Int32)), .val (.double x1), .second]) (rfl : _ = 44) ?_
    refine own_f_dload X1.here hx (hb hby d_prog_8_6_44) rfl (rfl : _ = 46) ?_
    refine own_f_dload X1.here hx (hb hby d_prog_8_6_46) rfl (rfl : _ = 48) ?_
    refine st4 _ ?_
    show Steps p.tables e below (T4.setTop (mkF m 51 #[.val (.ref aD), .val (.ref a2), .val (.double dm), .second, .unset, .val (.double (0 : UInt64)), .second, .val (.ref a2), .val (.int (2 : Int32)), .val (.int (0 : Int32)), .val (.double x1), .second] [(.double (Jvm.Native.java_lang_Math.nans.pick64 true (0 : UInt64) x1))])) _
    refine own_f_dstore X4.here hx (hb hby d_prog_8_6_51) (rfl : storeLocals _ _ _ = some #[.val (.ref aD), .val (.ref a2), .val (.double dm), .second, .unset, .val (.double (Jvm.Native.java_lang_Math.nans.pick64 true (0 : UInt64) x1)), .second, .val (.ref a2), .val (.int (2 : Int32)), .val (.int (0 : Int32)), .val (.double x1), .second]) (rfl : _ = 53) ?_
    refine own_f_iinc X4.here hx (hb hby d_prog_8_6_53) rfl (rfl : storeLocals _ _ _ = some #[.val (.ref aD), .val (.ref a2), .val (.double dm), .second, .unset, .val (.double (Jvm.Native.java_lang_Math.nans.pick64 true (0 : UInt64) x1)), .second, .val (.ref a2), .val (.int (2 : Int32)), .val (.int (1 : Int32)), .val (.double x1), .second]) (rfl : _ = 56) ?_
    refine own_f_goto X4.here hx (hb hby d_prog_8_6_56) (by decide) (by decide : _ = 30) ?_
    refine own_f_iload X4.here hx (hb hby d_prog_8_6_30) rfl (rfl : _ = 32) ?_
    refine own_f_iload X4.here hx (hb hby d_prog_8_6_32) rfl (rfl : _ = 34) ?_
    refine own_f_icmpNo X4.here hx (hb hby d_prog_8_6_34) (tlt (by decide)).2.1 (rfl : _ = 37) ?_
    refine own_f_aload X4.here hx (hb hby d_prog_8_6_37) rfl rfl (rfl : _ = 39) ?_
    refine own_f_iload X4.here hx (hb hby d_prog_8_6_39) rfl (rfl : _ = 41) ?_
    refine X4.daload hx (j := (1 : Int32)) (v := (.double x2)) (by rw [e4]; exact Ar5.1) (State.isArrayOf_alike hZ.alike Ar5.2.1) Ar5.2.2 hin5 hat5 (g := (mkF m 41 #[.val (.ref aD), .val (.ref a2), .val (.double dm), .second, .unset, .val (.double (Jvm.Native.java_lang_Math.nans.pick64 true (0 : UInt64) x1)), .second, .val (.ref a2), .val (.int (2 : Int32)), .val (.int (1 : Int32)), .val (.double x1), .second] [(.int (1 : Int32)), (.ref a2)])) rfl rfl (hb hby d_prog_8_6_41) _ ?_
    show Steps p.tables e below (T4.setTop (mkF m 42 #[.val (.ref aD), .val (.ref a2), .val (.double dm), .second, .unset, .val (.double (Jvm.Native.java_lang_Math.nans.pick64 true (0 : UInt64) x1)), .second, .val (.ref a2), .val (.int (2 : Int32)), .val (.int (1 : Int32)), .val (.double x1), .second] [(.double x2)])) _
    refine own_f_dstore X4.here hx (hb hby d_prog_8_6_42) (rfl : storeLocals _ _ _ = some #[.val (.ref aD), .val (.ref a2), .val (.double dm), .second, .unset, .val (.double (Jvm.Native.java_lang_Math.nans.pick64 true (0 : UInt64) x1)), .second, .val (.ref a2), .val (.int (2 : Int32)), .val (.int (1 : Int32)), .val (.double x2), .second]) (rfl : _ = 44) ?_
    refine own_f_dload X4.here hx (hb hby d_prog_8_6_44) rfl (rfl : _ = 46) ?_
    refine own_f_dload X4.here hx (hb hby d_prog_8_6_46) rfl (rfl : _ = 48) ?_
    refine st6 _ ?_
    show Steps p.tables e below (T6.setTop (mkF m 51 #[.val (.ref aD), .val (.ref a2), .val (.double dm), .second, .unset, .val (.double (Jvm.Native.java_lang_Math.nans.pick64 true (0 : UInt64) x1)), .second, .val (.ref a2), .val (.int (2 : Int32)), .val (.int (1 : Int32)), .val (.double x2), .second] [(.double (Jvm.Native.java_lang_Math.nans.pick64 true (Jvm.Native.java_lang_Math.nans.pick64 true (0 : UInt64) x1) x2))])) _
    refine own_f_dstore X6.here hx (hb hby d_prog_8_6_51) (rfl : storeLocals _ _ _ = some #[.val (.ref aD), .val (.ref a2), .val (.double dm), .second, .unset, .val (.double (Jvm.Native.java_lang_Math.nans.pick64 true (Jvm.Native.java_lang_Math.nans.pick64 true (0 : UInt64) x1) x2)), .second, .val (.ref a2), .val (.int (2 : Int32)), .val (.int (1 : Int32)), .val (.double x2), .second]) (rfl : _ = 53) ?_
    refine own_f_iinc X6.here hx (hb hby d_prog_8_6_53) rfl (rfl : storeLocals _ _ _ = some #[.val (.ref aD), .val (.ref a2), .val (.double dm), .second, .unset, .val (.double (Jvm.Native.java_lang_Math.nans.pick64 true (Jvm.Native.java_lang_Math.nans.pick64 true (0 : UInt64) x1) x2)), .second, .val (.ref a2), .val (.int (2 : Int32)), .val (.int (2 : Int32)), .val (.double x2), .second]) (rfl : _ = 56) ?_
    refine own_f_goto X6.here hx (hb hby d_prog_8_6_56) (by decide) (by decide : _ = 30) ?_
    refine own_f_iload X6.here hx (hb hby d_prog_8_6_30) rfl (rfl : _ = 32) ?_
    refine own_f_iload X6.here hx (hb hby d_prog_8_6_32) rfl (rfl : _ = 34) ?_
    refine own_f_icmpYes X6.here hx (hb hby d_prog_8_6_34) (flt (by decide)).2.1 (by decide) (by decide : _ = 59) ?_
    refine own_f_iconst X6.here hx (hb hby d_prog_8_6_59) (rfl : _ = (2 : Int32)) (rfl : _ = 60) ?_
    refine st7 _ ?_
    show Steps p.tables e below (T7.setTop (mkF m 62 #[.val (.ref aD), .val (.ref a2), .val (.double dm), .second, .unset, .val (.double (Jvm.Native.java_lang_Math.nans.pick64 true (Jvm.Native.java_lang_Math.nans.pick64 true (0 : UInt64) x1) x2)), .second, .val (.ref a2), .val (.int (2 : Int32)), .val (.int (2 : Int32)), .val (.double x2), .second] [(.ref b7)])) _
    refine own_f_dup X7.here hx (hb hby d_prog_8_6_62) rfl (rfl : _ = 63) ?_
    refine own_f_iconst X7.here hx (hb hby d_prog_8_6_63) (rfl : _ = (0 : Int32)) (rfl : _ = 64) ?_
    refine own_f_dload X7.here hx (hb hby d_prog_8_6_64) rfl (rfl : _ = 66) ?_
    refine st9 _ ?_
    show Steps p.tables e below (T9.setTop (mkF m 67 #[.val (.ref aD), .val (.ref a2), .val (.double dm), .second, .unset, .val (.double (Jvm.Native.java_lang_Math.nans.pick64 true (Jvm.Native.java_lang_Math.nans.pick64 true (0 : UInt64) x1) x2)), .second, .val (.ref a2), .val (.int (2 : Int32)), .val (.int (2 : Int32)), .val (.double x2), .second] [(.ref b7)])) _
    refine own_f_dup X9.here hx (hb hby d_prog_8_6_67) rfl (rfl : _ = 68) ?_
    refine own_f_iconst X9.here hx (hb hby d_prog_8_6_68) (rfl : _ = (1 : Int32)) (rfl : _ = 69) ?_
    refine own_f_dloadN X9.here hx (hb hby d_prog_8_6_69) rfl (rfl : _ = 70) ?_
    refine st11 _ ?_
    show Steps p.tables e below (T11.setTop (mkF m 71 #[.val (.ref aD), .val (.ref a2), .val (.double dm), .second, .unset, .val (.double (Jvm.Native.java_lang_Math.nans.pick64 true (Jvm.Native.java_lang_Math.nans.pick64 true (0 : UInt64) x1) x2)), .second, .val (.ref a2), .val (.int (2 : Int32)), .val (.int (2 : Int32)), .val (.double x2), .second] [(.ref b7)])) _
    refine st12 _ ?_
    show Steps p.tables e below (T12.setTop (mkF m 74 #[.val (.ref aD), .val (.ref a2), .val (.double dm), .second, .unset, .val (.double (Jvm.Native.java_lang_Math.nans.pick64 true (Jvm.Native.java_lang_Math.nans.pick64 true (0 : UInt64) x1) x2)), .second, .val (.ref a2), .val (.int (2 : Int32)), .val (.int (2 : Int32)), .val (.double x2), .second] [(.ref h11.size)])) _
    refine own_f_astore X12.here hx (hb hby d_prog_8_6_74) rfl (rfl : storeLocals _ _ _ = some #[.val (.ref aD), .val (.ref a2), .val (.double dm), .second, .val (.ref h11.size), .val (.double (Jvm.Native.java_lang_Math.nans.pick64 true (Jvm.Native.java_lang_Math.nans.pick64 true (0 : UInt64) x1) x2)), .second, .val (.ref a2), .val (.int (2 : Int32)), .val (.int (2 : Int32)), .val (.double x2), .second]) (rfl : _ = 76) ?_
    refine own_f_aload X12.here hx (hb hby d_prog_8_6_76) rfl rfl (rfl : _ = 78) ?_
    exact X12.areturnOut hx rfl Bd.returns rfl (hb hby d_prog_8_6_78) hr
  · show Qd Z aD a2 dm aS kc x1 x2 h0 n0 _ T12.heap _
    exact ⟨_, rfl, N12, KK, Eo, pa, kp, Fp, Fv, Fe, Vp⟩
theorem ef_w1 (m : MethodId) (x0 : Addr) : entryFrame m #[(.ref x0)] 1 = mkF m 0 #[.val (.ref x0)] [] := by first | (simp [entryFrame, mkF, argsToLocals, Value.category]; done) | rfl
def Qw1 (Z : State) (aD : Addr) (h0 : Heap) (n0 : Nat) (v : Option Value) (h : Heap) (L : List Loc) : Prop := v = some (.int (1 : Int32)) ∧ Fr n0 L ∧ h = h0
set_option maxRecDepth 65536 in
set_option maxHeartbeats 40000000 in
theorem rmw1 (l : Launch) (Z : State) (a0 : Array Value) (hw : ∀ d ∈ tables_1, d.before a0 Z = true) (ws : List Jvm.Cond) (aD : Addr) (h0 : Heap) (n0 : Nat) (Z0 : n0 ≤ h0.size) (OD : Sta Z Z.heap "com/example/honeyguide/honeyguide/CoverCost" "DIAMETER" "Lcom/example/honeyguide/honeyguide/CoverCost;" (.ref aD)) (X00 : Old Z n0 h0) :
    MetFree l (⟨"com/example/honeyguide/honeyguide/CoverCost", "weighsDiameter", "()Z"⟩ : MethodName) (head1 (Jvm.Cond.code (⟨"com/example/honeyguide/honeyguide/CoverCost", "weighsDiameter", "()Z"⟩ : MethodName) prog_8_method_5_code 1 (some .boolean) :: ws) ({ frames := 0, cells := 0, slots := 0, locals := 0 } : Room)) (fun a U => a = #[(.ref aD)] ∧ Z.Warmed39 U.vm ∧ U.heap = h0) (fun _ _ _ _ _ => True) (fun _ U o U' => ∃ v L, o = .returned v ∧ Qw1 Z aD h0 n0 v U'.heap L ∧ FrameEnd U o U' L ({ frames := 0, cells := 0, slots := 0, locals := 0 } : Room).cells ({ frames := 0, cells := 0, slots := 0, locals := 0 } : Room).slots) := by
  refine MetFree.of_bodySF (plainFor_of_name pn_2) hisR ?_
  intro p e s m args below meth c s₁ Bd hml0 hP hK
  obtain ⟨rfl, hZ, hh⟩ := hP
  have hlk : meth.locks = false := BodyLoose.notSynchronized Bd
  have hx := Bd.exec
  have hby := Bd.bytes
  have hml : c.maxLocals = 1 := hml0
  have hown : s.vm.findClass "com/example/honeyguide/honeyguide/CoverCost" = some m.cls := findClass_of_methodNamed Bd.named
  have hnm := (name_of_methodNamed Bd.named Bd.method).1
  have X0 : Stand p l e ({ frames := 0, cells := 0, slots := 0, locals := 0 } : Room) s m #[(.ref aD)] below meth c s₁ [] 0 0 := Stand.of_body Bd
  have e0 : s₁.heap = h0 := by rw [← hh, Bd.state]; rfl
  have N0 := Fr.nil n0
  obtain ⟨A, hA⟩ : ∃ A, A = s₁.setTop (mkF m 0 #[.val (.ref aD)] []) := ⟨_, rfl⟩
  have hA0 : ∀ t, Steps p.tables e below A t → Steps p.tables e below (s₁.setTop (entryFrame m #[(.ref aD)] 1)) t := fun t k => castTop (ef_w1 m aD) (hA ▸ k)
  have k0 : ∀ t, Steps p.tables e below (s₁.setTop (mkF m 0 #[.val (.ref aD)] [])) t → Steps p.tables e below A t := fun t k => hA ▸ k
  obtain ⟨T1, X1, e1, st1⟩ := getS2 X0 hx hZ hown (host := "") (Or.inl (hw _ (List.mem_of_getElem? (i := 76) rfl))) Via.refl e0 (OD.ext X00.2) (g := (mkF m 1 #[.val (.ref aD)] [(.ref aD)])) rfl (hb hby d_prog_8_5_1)
  obtain ⟨fs, hr, hrun, hended, hW, hsame⟩ := X1.leave (v := some (.int (1 : Int32))) (fun h => by rw [Bd.returns] at h; cases h) hlk
  refine ⟨_, _, ?_, hrun, hended, _, _, rfl, ?_, ⟨_, rfl⟩, hW, hsame.mono (by decide) (by decide)⟩
  · refine hA0 _ ?_
    refine k0 _ ?_
    refine own_f_aloadN X0.here hx (hb hby d_prog_8_5_0) rfl rfl (rfl : _ = 1) ?_
    refine st1 _ ?_
    show Steps p.tables e below (T1.setTop (mkF m 4 #[.val (.ref aD)] [(.ref aD), (.ref aD)])) _
    refine Jvm.RoadKit.acmp (g := (mkF m 4 #[.val (.ref aD)] [(.ref aD), (.ref aD)])) X1 hx rfl rfl rfl (pc0 := 4) (pc' := 7) (same := true) rfl (hb hby d_prog_8_5_4) rfl (decide_eq_true rfl) (by decide) (by decide) ?_
    show Steps p.tables e below (T1.setTop (mkF m 7 #[.val (.ref aD)] [])) _
    refine own_f_iconst X1.here hx (hb hby d_prog_8_5_7) (rfl : _ = (1 : Int32)) (rfl : _ = 8) ?_
    refine own_f_goto X1.here hx (hb hby d_prog_8_5_8) (by decide) (by decide : _ = 12) ?_
    exact retN X1 hx (t := .boolean) Bd.returns (by simp) (hb hby d_prog_8_5_12) hr
  · show Qw1 Z aD h0 n0 _ T1.heap _
    rw [e1]
    exact ⟨rfl, N0, rfl⟩
theorem ef_w0 (m : MethodId) (x0 : Addr) : entryFrame m #[(.ref x0)] 1 = mkF m 0 #[.val (.ref x0)] [] := by first | (simp [entryFrame, mkF, argsToLocals, Value.category]; done) | rfl
def Qw0 (Z : State) (aS : Addr) (aD : Addr) (h0 : Heap) (n0 : Nat) (v : Option Value) (h : Heap) (L : List Loc) : Prop := v = some (.int (0 : Int32)) ∧ Fr n0 L ∧ h = h0
set_option maxRecDepth 65536 in
set_option maxHeartbeats 40000000 in
theorem rmw0 (l : Launch) (Z : State) (a0 : Array Value) (hw : ∀ d ∈ tables_1, d.before a0 Z = true) (ws : List Jvm.Cond) (aS : Addr) (aD : Addr) (h0 : Heap) (n0 : Nat) (Z0 : n0 ≤ h0.size) (OD : Sta Z Z.heap "com/example/honeyguide/honeyguide/CoverCost" "DIAMETER" "Lcom/example/honeyguide/honeyguide/CoverCost;" (.ref aD)) (X00 : Old Z n0 h0) (hne : aS ≠ aD) :
    MetFree l (⟨"com/example/honeyguide/honeyguide/CoverCost", "weighsDiameter", "()Z"⟩ : MethodName) (head1 (Jvm.Cond.code (⟨"com/example/honeyguide/honeyguide/CoverCost", "weighsDiameter", "()Z"⟩ : MethodName) prog_8_method_5_code 1 (some .boolean) :: ws) ({ frames := 0, cells := 0, slots := 0, locals := 0 } : Room)) (fun a U => a = #[(.ref aS)] ∧ Z.Warmed39 U.vm ∧ U.heap = h0) (fun _ _ _ _ _ => True) (fun _ U o U' => ∃ v L, o = .returned v ∧ Qw0 Z aS aD h0 n0 v U'.heap L ∧ FrameEnd U o U' L ({ frames := 0, cells := 0, slots := 0, locals := 0 } : Room).cells ({ frames := 0, cells := 0, slots := 0, locals := 0 } : Room).slots) := by
  refine MetFree.of_bodySF (plainFor_of_name pn_2) hisR ?_
  intro p e s m args below meth c s₁ Bd hml0 hP hK
  obtain ⟨rfl, hZ, hh⟩ := hP
  have hlk : meth.locks = false := BodyLoose.notSynchronized Bd
  have hx := Bd.exec
  have hby := Bd.bytes
  have hml : c.maxLocals = 1 := hml0
  have hown : s.vm.findClass "com/example/honeyguide/honeyguide/CoverCost" = some m.cls := findClass_of_methodNamed Bd.named
  have hnm := (name_of_methodNamed Bd.named Bd.method).1
  have X0 : Stand p l e ({ frames := 0, cells := 0, slots := 0, locals := 0 } : Room) s m #[(.ref aS)] below meth c s₁ [] 0 0 := Stand.of_body Bd
  have e0 : s₁.heap = h0 := by rw [← hh, Bd.state]; rfl
  have N0 := Fr.nil n0
  obtain ⟨A, hA⟩ : ∃ A, A = s₁.setTop (mkF m 0 #[.val (.ref aS)] []) := ⟨_, rfl⟩
  have hA0 : ∀ t, Steps p.tables e below A t → Steps p.tables e below (s₁.setTop (entryFrame m #[(.ref aS)] 1)) t := fun t k => castTop (ef_w0 m aS) (hA ▸ k)
  have k0 : ∀ t, Steps p.tables e below (s₁.setTop (mkF m 0 #[.val (.ref aS)] [])) t → Steps p.tables e below A t := fun t k => hA ▸ k
  obtain ⟨T1, X1, e1, st1⟩ := getS2 X0 hx hZ hown (host := "") (Or.inl (hw _ (List.mem_of_getElem? (i := 76) rfl))) Via.refl e0 (OD.ext X00.2) (g := (mkF m 1 #[.val (.ref aS)] [(.ref aS)])) rfl (hb hby d_prog_8_5_1)
  obtain ⟨fs, hr, hrun, hended, hW, hsame⟩ := X1.leave (v := some (.int (0 : Int32))) (fun h => by rw [Bd.returns] at h; cases h) hlk
  refine ⟨_, _, ?_, hrun, hended, _, _, rfl, ?_, ⟨_, rfl⟩, hW, hsame.mono (by decide) (by decide)⟩
  · refine hA0 _ ?_
    refine k0 _ ?_
    refine own_f_aloadN X0.here hx (hb hby d_prog_8_5_0) rfl rfl (rfl : _ = 1) ?_
    refine st1 _ ?_
    show Steps p.tables e below (T1.setTop (mkF m 4 #[.val (.ref aS)] [(.ref aD), (.ref aS)])) _
    refine Jvm.RoadKit.acmp (g := (mkF m 4 #[.val (.ref aS)] [(.ref aD), (.ref aS)])) X1 hx rfl rfl rfl (pc0 := 4) (pc' := 11) (same := false) rfl (hb hby d_prog_8_5_4) rfl (decide_eq_false (fun q => hne (Value.ref.inj q))) (by decide) (by decide) ?_
    show Steps p.tables e below (T1.setTop (mkF m 11 #[.val (.ref aS)] [])) _
    refine own_f_iconst X1.here hx (hb hby d_prog_8_5_11) (rfl : _ = (0 : Int32)) (rfl : _ = 12) ?_
    exact retN X1 hx (t := .boolean) Bd.returns (by simp) (hb hby d_prog_8_5_12) hr
  · show Qw0 Z aS aD h0 n0 _ T1.heap _
    rw [e1]
    exact ⟨rfl, N0, rfl⟩
theorem ef_0 (m : MethodId) (x0 : Int32) (x1 : Int32) (x2 : Int32) (x3 : Int32) (x4 : Int32) : entryFrame m #[(.int x0), (.int x1), (.int x2), (.int x3), (.int x4)] maxLocals = mkF m 0 #[.val (.int x0), .val (.int x1), .val (.int x2), .val (.int x3), .val (.int x4), .unset, .unset, .unset, .unset, .unset, .unset, .unset, .unset, .unset, .unset] [] := by first | (simp [entryFrame, mkF, argsToLocals, Value.category, maxLocals]; done) | rfl
def Q0 (Z : State) (p1 : Int32) (p2 : Int32) (p3 : Int32) (p4 : Int32) (p5 : Int32) (aS : Addr) (aD : Addr) (h0 : Heap) (n0 : Nat) (v : Option Value) (h : Heap) (L : List Loc) : Prop := v = some (.int (1 : Int32)) ∧ Fr n0 L
set_option maxRecDepth 65536 in
set_option maxHeartbeats 40000000 in
theorem rm0 (l : Launch) (Z : State) (a0 : Array Value) (hw : ∀ d ∈ tables_1, d.before a0 Z = true) (ws : List Jvm.Cond) (p1 : Int32) (p2 : Int32) (p3 : Int32) (p4 : Int32) (p5 : Int32) (aS : Addr) (aD : Addr) (h0 : Heap) (n0 : Nat) (Z0 : n0 ≤ h0.size) (OS : Sta Z Z.heap "com/example/honeyguide/honeyguide/CoverCost" "SUM" "Lcom/example/honeyguide/honeyguide/CoverCost;" (.ref aS)) (OD : Sta Z Z.heap "com/example/honeyguide/honeyguide/CoverCost" "DIAMETER" "Lcom/example/honeyguide/honeyguide/CoverCost;" (.ref aD)) (X00 : Old Z n0 h0) (ExS : Exa Z h0 aS "com/example/honeyguide/honeyguide/CoverCost") (ExD : Exa Z h0 aD "com/example/honeyguide/honeyguide/CoverCost") (hne : aD ≠ aS) :
    MetFree l x (head1 (Jvm.Cond.code x code maxLocals ret :: ws) room_1) (fun a U => a = #[(.int p1), (.int p2), (.int p3), (.int p4), (.int p5)] ∧ Z.Warmed39 U.vm ∧ U.heap = h0) (fun _ _ _ _ _ => True) (fun _ U o U' => ∃ v L, o = .returned v ∧ Q0 Z p1 p2 p3 p4 p5 aS aD h0 n0 v U'.heap L ∧ FrameEnd U o U' L room_1.cells room_1.slots) := by
  refine MetFree.of_bodySF (plainFor_of_name pn_3) hisR ?_
  intro p e s m args below meth c s₁ Bd hml0 hP hK
  obtain ⟨rfl, hZ, hh⟩ := hP
  have hlk : meth.locks = false := BodyLoose.notSynchronized Bd
  have hx := Bd.exec
  have hby := Bd.bytes
  have hml : c.maxLocals = 15 := hml0
  have hown : s.vm.findClass "com/example/honeyguide/honeyguide/CoverCostWeighsDiameterPinLaw" = some m.cls := findClass_of_methodNamed Bd.named
  have hnm := (name_of_methodNamed Bd.named Bd.method).1
  have X0 : Stand p l e room_1 s m #[(.int p1), (.int p2), (.int p3), (.int p4), (.int p5)] below meth c s₁ [] 0 0 := Stand.of_body Bd
  have e0 : s₁.heap = h0 := by rw [← hh, Bd.state]; rfl
  have N0 := Fr.nil n0
  obtain ⟨A, hA⟩ : ∃ A, A = s₁.setTop (mkF m 0 #[.val (.int p1), .val (.int p2), .val (.int p3), .val (.int p4), .val (.int p5), .unset, .unset, .unset, .unset, .unset, .unset, .unset, .unset, .unset, .unset] []) := ⟨_, rfl⟩
  have hA0 : ∀ t, Steps p.tables e below A t → Steps p.tables e below (s₁.setTop (entryFrame m #[(.int p1), (.int p2), (.int p3), (.int p4), (.int p5)] maxLocals)) t := fun t k => castTop (ef_0 m p1 p2 p3 p4 p5) (hA ▸ k)
  have k0 : ∀ t, Steps p.tables e below (s₁.setTop (mkF m 0 #[.val (.int p1), .val (.int p2), .val (.int p3), .val (.int p4), .val (.int p5), .unset, .unset, .unset, .unset, .unset, .unset, .unset, .unset, .unset, .unset] [])) t → Steps p.tables e below A t := fun t k => hA ▸ k
  have k1 : ∀ t_, Steps p.tables e below (s₁.setTop (mkF m 3 #[.val (.int p1), .val (.int p2), .val (.int p3), .val (.int p4), .val (.int p5), .unset, .unset, .unset, .unset, .unset, .unset, .unset, .unset, .unset, .unset] [(.int (p1 &&& (1 : Int32)))])) t_ → Steps p.tables e below A t_ := by
    intro t_ ht_
    refine k0 t_ ?_
    refine own_f_iloadN X0.here hx (hb hby at_0) rfl (rfl : _ = 1) ?_
    refine own_f_iconst X0.here hx (hb hby at_1) (rfl : _ = (1 : Int32)) (rfl : _ = 2) ?_
    refine own_f_iand X0.here hx (hb hby at_2) rfl (rfl : _ = 3) ?_
    exact ht_
  by_cases hk0 : (p1 &&& (1 : Int32)) = (0 : Int32)
  · obtain ⟨T2, X2, e2, st2⟩ := getS2 X0 hx hZ hown (host := "") (Or.inl (hw _ (List.mem_of_getElem? (i := 0) rfl))) Via.refl e0 (OS.ext X00.2) (g := (mkF m 12 #[.val (.int p1), .val (.int p2), .val (.int p3), .val (.int p4), .val (.int p5), .unset, .unset, .unset, .unset, .unset, .unset, .unset, .unset, .unset, .unset] [])) rfl (hb hby at_12)
    obtain ⟨T3, h3, c3, X3, e3, E3, A3, B3, st3⟩ := newPE X2 hx hZ (hw _ (List.mem_of_getElem? (i := 3) rfl)) e2 (g := (mkF m 18 #[.val (.int p1), .val (.int p2), .val (.int p3), .val (.int p4), .val (.int p5), .val (.ref aS), .unset, .unset, .unset, .unset, .unset, .unset, .unset, .unset, .unset] [(.int (2 : Int32))])) rfl (hb hby at_18) rfl (by decide) (cap := 2) (by decide) (by decide) (by decide) (by decide) (ad := "[D") (by decide)
    obtain ⟨b3, g3⟩ : ∃ z, z = h0.size := ⟨_, rfl⟩
    rw [← g3] at A3 B3 st3
    have ne_aS_b3 : aS ≠ b3 := Nat.ne_of_lt (Nat.lt_of_lt_of_le ExS.lt (Nat.le_of_eq g3.symm))
    have ne_aD_b3 : aD ≠ b3 := Nat.ne_of_lt (Nat.lt_of_lt_of_le ExD.lt (Nat.le_of_eq g3.symm))
    have g_b3 : n0 ≤ b3 := Nat.le_trans Z0 (Nat.le_of_eq g3.symm)
    replace X00 : Old Z n0 h3 := ⟨X00.1, Nat.le_trans X00.2.1 E3.1, fun x c r => E3.2 x c (X00.2.2 x c r)⟩
    replace ExS := ExS.ext E3
    replace ExD := ExD.ext E3
    have Zs3 := Nat.le_trans Z0 E3.1
    have Ex_b3 := B3
    have V_b3 : Arv Z h3 b3 c3 .double (2 : Int32) [(.double (0 : UInt64)), (.double (0 : UInt64))] (.double (0 : UInt64)) := (Arv.new A3 (by decide)).pad (pad_rep [] (.double (0 : UInt64)) 2)
    obtain ⟨cl4, Ar4, q4, Sz4, Ng4, Hs4, Gs4⟩ := V_b3
    have hin4 : ¬ ((0 : Int32) < 0 ∨ cl4.slots.size ≤ ((0 : Int32)).toNatClampNeg) := inb_of Sz4 ⟨by decide, by decide⟩
    obtain ⟨T5, h5, X5, e5, W5, st5⟩ := stD X3 hx hZ e3 Ar4 (j := (0 : Int32)) hin4 (g := (mkF m 30 #[.val (.int p1), .val (.int p2), .val (.int p3), .val (.int p4), .val (.int p5), .val (.ref aS), .val (.ref b3), .unset, .unset, .unset, .unset, .unset, .unset, .unset, .unset] [(.double (FP.i2d (p2 &&& (65535 : Int32)))), (.int (0 : Int32)), (.ref b3)])) rfl rfl (hb hby at_30)
    replace X00 := X00.wr W5 g_b3
    replace ExS := ExS.wr W5
    replace ExD := ExD.wr W5
    replace Ex_b3 := Ex_b3.wr W5
    have Zs5 := Nat.le_trans Zs3 (Keep.of_wr W5).1
    have V_b3 : Arv Z h5 b3 c3 .double (2 : Int32) [(.double (FP.i2d (p2 &&& (65535 : Int32)))), (.double (0 : UInt64))] (.double (0 : UInt64)) := Arv.set Ar4 q4 Sz4 Ng4 Hs4 Gs4 rfl W5 0 rfl (Nat.le_of_ble_eq_true rfl)
    have N5 := Fr.snoc X5 N0 g_b3
    obtain ⟨cl6, Ar6, q6, Sz6, Ng6, Hs6, Gs6⟩ := V_b3
    have hin6 : ¬ ((1 : Int32) < 0 ∨ cl6.slots.size ≤ ((1 : Int32)).toNatClampNeg) := inb_of Sz6 ⟨by decide, by decide⟩
    obtain ⟨T7, h7, X7, e7, W7, st7⟩ := stD X5 hx hZ e5 Ar6 (j := (1 : Int32)) hin6 (g := (mkF m 39 #[.val (.int p1), .val (.int p2), .val (.int p3), .val (.int p4), .val (.int p5), .val (.ref aS), .val (.ref b3), .unset, .unset, .unset, .unset, .unset, .unset, .unset, .unset] [(.double (FP.i2d (p3 &&& (65535 : Int32)))), (.int (1 : Int32)), (.ref b3)])) rfl rfl (hb hby at_39)
    replace X00 := X00.wr W7 g_b3
    replace ExS := ExS.wr W7
    replace ExD := ExD.wr W7
    replace Ex_b3 := Ex_b3.wr W7
    have Zs7 := Nat.le_trans Zs5 (Keep.of_wr W7).1
    have V_b3 : Arv Z h7 b3 c3 .double (2 : Int32) [(.double (FP.i2d (p2 &&& (65535 : Int32)))), (.double (FP.i2d (p3 &&& (65535 : Int32))))] (.double (0 : UInt64)) := Arv.set Ar6 q6 Sz6 Ng6 Hs6 Gs6 rfl W7 1 rfl (Nat.le_of_ble_eq_true rfl)
    have N7 := Fr.snoc X7 N5 g_b3
    have k8 : ∀ t_, Steps p.tables e below (T7.setTop (mkF m 47 #[.val (.int p1), .val (.int p2), .val (.int p3), .val (.int p4), .val (.int p5), .val (.ref aS), .val (.ref b3), .val (.double (FP.i2d (p4 &&& (65535 : Int32)))), .second, .unset, .unset, .unset, .unset, .unset, .unset] [])) t_ → Steps p.tables e below A t_ := by
      intro t_ ht_
      refine k1 t_ ?_
      refine own_f_ifYes X0.here hx (hb hby at_3) ((if0 _ _).trans (teq (hk0)).1) (by decide) (by decide : _ = 12) ?_
      refine st2 _ ?_
      show Steps p.tables e below (T2.setTop (mkF m 15 #[.val (.int p1), .val (.int p2), .val (.int p3), .val (.int p4), .val (.int p5), .unset, .unset, .unset, .unset, .unset, .unset, .unset, .unset, .unset, .unset] [(.ref aS)])) t_
      refine own_f_astore X2.here hx (hb hby at_15) rfl (rfl : storeLocals _ _ _ = some #[.val (.int p1), .val (.int p2), .val (.int p3), .val (.int p4), .val (.int p5), .val (.ref aS), .unset, .unset, .unset, .unset, .unset, .unset, .unset, .unset, .unset]) (rfl : _ = 17) ?_
      refine own_f_iconst X2.here hx (hb hby at_17) (rfl : _ = (2 : Int32)) (rfl : _ = 18) ?_
      refine st3 _ ?_
      show Steps p.tables e below (T3.setTop (mkF m 20 #[.val (.int p1), .val (.int p2), .val (.int p3), .val (.int p4), .val (.int p5), .val (.ref aS), .unset, .unset, .unset, .unset, .unset, .unset, .unset, .unset, .unset] [(.ref b3)])) t_
      refine own_f_astore X3.here hx (hb hby at_20) rfl (rfl : storeLocals _ _ _ = some #[.val (.int p1), .val (.int p2), .val (.int p3), .val (.int p4), .val (.int p5), .val (.ref aS), .val (.ref b3), .unset, .unset, .unset, .unset, .unset, .unset, .unset, .unset]) (rfl : _ = 22) ?_
      refine own_f_aload X3.here hx (hb hby at_22) rfl rfl (rfl : _ = 24) ?_
      refine own_f_iconst X3.here hx (hb hby at_24) (rfl : _ = (0 : Int32)) (rfl : _ = 25) ?_
      refine own_f_iloadN X3.here hx (hb hby at_25) rfl (rfl : _ = 26) ?_
      refine own_f_ldcInt X3 hx hown (mvT hZ (hw _ (List.mem_of_getElem? (i := 4) rfl))) (hb hby at_26) (rfl : _ = 28) ?_
      refine own_f_iand X3.here hx (hb hby at_28) rfl (rfl : _ = 29) ?_
      refine own_f_i2d X3.here hx (hb hby at_29) rfl (rfl : _ = 30) ?_
      refine st5 _ ?_
      show Steps p.tables e below (T5.setTop (mkF m 31 #[.val (.int p1), .val (.int p2), .val (.int p3), .val (.int p4), .val (.int p5), .val (.ref aS), .val (.ref b3), .unset, .unset, .unset, .unset, .unset, .unset, .unset, .unset] [])) t_
      refine own_f_aload X5.here hx (hb hby at_31) rfl rfl (rfl : _ = 33) ?_
      refine own_f_iconst X5.here hx (hb hby at_33) (rfl : _ = (1 : Int32)) (rfl : _ = 34) ?_
      refine own_f_iloadN X5.here hx (hb hby at_34) rfl (rfl : _ = 35) ?_
      refine own_f_ldcInt X5 hx hown (mvT hZ (hw _ (List.mem_of_getElem? (i := 4) rfl))) (hb hby at_35) (rfl : _ = 37) ?_
      refine own_f_iand X5.here hx (hb hby at_37) rfl (rfl : _ = 38) ?_
      refine own_f_i2d X5.here hx (hb hby at_38) rfl (rfl : _ = 39) ?_
      refine st7 _ ?_
      show Steps p.tables e below (T7.setTop (mkF m 40 #[.val (.int p1), .val (.int p2), .val (.int p3), .val (.int p4), .val (.int p5), .val (.ref aS), .val (.ref b3), .unset, .unset, .unset, .unset, .unset, .unset, .unset, .unset] [])) t_
      refine own_f_iloadN X7.here hx (hb hby at_40) rfl (rfl : _ = 41) ?_
      refine own_f_ldcInt X7 hx hown (mvT hZ (hw _ (List.mem_of_getElem? (i := 4) rfl))) (hb hby at_41) (rfl : _ = 43) ?_
      refine own_f_iand X7.here hx (hb hby at_43) rfl (rfl : _ = 44) ?_
      refine own_f_i2d X7.here hx (hb hby at_44) rfl (rfl : _ = 45) ?_
      refine own_f_dstore X7.here hx (hb hby at_45) (rfl : storeLocals _ _ _ = some #[.val (.int p1), .val (.int p2), .val (.int p3), .val (.int p4), .val (.int p5), .val (.ref aS), .val (.ref b3), .val (.double (FP.i2d (p4 &&& (65535 : Int32)))), .second, .unset, .unset, .unset, .unset, .unset, .unset]) (rfl : _ = 47) ?_
      exact ht_
    obtain ⟨d0, hd0⟩ : ∃ z : UInt64, z = (FP.i2d (p2 &&& (65535 : Int32))) := ⟨_, rfl⟩
    obtain ⟨d1, hd1⟩ : ∃ z : UInt64, z = (FP.i2d (p3 &&& (65535 : Int32))) := ⟨_, rfl⟩
    rw [← hd0, ← hd1] at V_b3
    have k9 : ∀ t_, Steps p.tables e below (T7.setTop (mkF m 61 #[.val (.int p1), .val (.int p2), .val (.int p3), .val (.int p4), .val (.int p5), .val (.ref aS), .val (.ref b3), .val (.double (FP.i2d (p4 &&& (65535 : Int32)))), .second, .val (.double (FP.dadd (FP.i2d (p4 &&& (65535 : Int32))) (FP.i2d ((1 : Int32) + (p5 &&& (255 : Int32)))))), .second, .unset, .unset, .unset, .unset] [])) t_ → Steps p.tables e below A t_ := by
      intro t_ ht_
      refine k8 t_ ?_
      refine own_f_dload X7.here hx (hb hby at_47) rfl (rfl : _ = 49) ?_
      refine own_f_iconst X7.here hx (hb hby at_49) (rfl : _ = (1 : Int32)) (rfl : _ = 50) ?_
      refine own_f_iload X7.here hx (hb hby at_50) rfl (rfl : _ = 52) ?_
      refine own_f_sipush X7.here hx (hb hby at_52) (rfl : _ = (255 : Int32)) (rfl : _ = 55) ?_
      refine own_f_iand X7.here hx (hb hby at_55) rfl (rfl : _ = 56) ?_
      refine own_f_iadd X7.here hx (hb hby at_56) rfl (rfl : _ = 57) ?_
      refine own_f_i2d X7.here hx (hb hby at_57) rfl (rfl : _ = 58) ?_
      refine own_f_dadd X7.here hx (hb hby at_58) (own_lnn p4 p5) rfl (rfl : _ = 59) ?_
      refine own_f_dstore X7.here hx (hb hby at_59) (rfl : storeLocals _ _ _ = some #[.val (.int p1), .val (.int p2), .val (.int p3), .val (.int p4), .val (.int p5), .val (.ref aS), .val (.ref b3), .val (.double (FP.i2d (p4 &&& (65535 : Int32)))), .second, .val (.double (FP.dadd (FP.i2d (p4 &&& (65535 : Int32))) (FP.i2d ((1 : Int32) + (p5 &&& (255 : Int32)))))), .second, .unset, .unset, .unset, .unset]) (rfl : _ = 61) ?_
      exact ht_
    obtain ⟨lg, hlg⟩ : ∃ z : UInt64, z = (FP.dadd (FP.i2d (p4 &&& (65535 : Int32))) (FP.i2d ((1 : Int32) + (p5 &&& (255 : Int32))))) := ⟨_, rfl⟩
    rw [← hlg] at k9
    obtain ⟨sm, hsm⟩ : ∃ z : UInt64, z = (FP.i2d (p4 &&& (65535 : Int32))) := ⟨_, rfl⟩
    rw [← hsm] at k9
    obtain ⟨PS, PL, PLT⟩ := own_all_s hd0 hd1 hsm hlg
    obtain ⟨n1, n2, n3, n4, n5, n6, n7, hf⟩ := PS
    obtain ⟨cq10, kq10, q10a, q10b, q10c⟩ := isOf hZ e7 ExS
    obtain ⟨_, _, ⟨T10, L10, k10_, n10⟩, -, X10, ⟨Lc10, hQ10, l10, y10, z10⟩, st10⟩ := X7.virtualBack hx (y := (⟨"com/example/honeyguide/honeyguide/CoverCost", "of", "([DD)Lcom/example/honeyguide/honeyguide/ExactSum;"⟩ : MethodName)) (z := (⟨"com/example/honeyguide/honeyguide/CoverCost", "of", "([DD)Lcom/example/honeyguide/honeyguide/ExactSum;"⟩ : MethodName)) hown (mvT hZ (hw _ (List.mem_of_getElem? (i := 5) rfl))) (mvT hZ (hw _ (List.mem_of_getElem? (i := 6) rfl))) (notFace_of_selects (args := #[]) (mvT hZ (hw _ (List.mem_of_getElem? (i := 8) rfl)))) (mvT hZ (hw _ (List.mem_of_getElem? (i := 8) rfl))) (mvT hZ (hw _ (List.mem_of_getElem? (i := 7) rfl))) (by decide) (backOf (W := 0) (rms l Z a0 hw [] aS b3 sm _ d0 d1 h7 n0 Zs7 OS X00 V_b3 Ex_b3 n1 n2 n3 n4 n5 n6 n7 hf) hZ (hw _ (List.mem_of_getElem? (i := 9) rfl)) (hw _ (List.mem_of_getElem? (i := 1) rfl)) (by decide) (by decide)) q10a q10c (g := (mkF m 67 #[.val (.int p1), .val (.int p2), .val (.int p3), .val (.int p4), .val (.int p5), .val (.ref aS), .val (.ref b3), .val (.double sm), .second, .val (.double lg), .second, .unset, .unset, .unset, .unset] [(.double sm), (.ref b3), (.ref aS)])) rfl (by rw [hml]; rfl) (Steps.refl _) (argsL := [(.ref b3), (.double sm)]) (rest := []) (lenOf pd_8 rfl) rfl (by show 2 * 0 + _ ≤ _; exact Nat.le_of_eq rfl) (hb hby at_67) (fun _ _ => ⟨rfl, e7, (by decide : 1 + 2 ≤ _), (by decide : 2 + 6 ≤ _)⟩)
    dsimp only [Pt.U, Pt.locs, Pt.cells, Pt.slots] at X10 l10 y10 z10 st10 hQ10
    subst l10 y10 z10
    obtain ⟨o1, rfl, Nq10, Kq1, Eo1, pa1, kp1, Fp1, Fv1, Fe1, Vp1⟩ := hQ10
    have N10 := Fr.app N7 Nq10
    replace X00 := X00.keep Kq1 (by simp)
    replace ExS := ExS.keep Kq1
    replace ExD := ExD.keep Kq1
    replace Ex_b3 := Ex_b3.keep Kq1
    replace V_b3 := V_b3.keep Kq1 (by simp)
    have Zs10 := Nat.le_trans Zs7 Kq1.1
    obtain ⟨cq11, kq11, q11a, q11b, q11c⟩ := isOf hZ rfl ExS
    obtain ⟨_, _, ⟨T11, L11, k11_, n11⟩, -, X11, ⟨Lc11, hQ11, l11, y11, z11⟩, st11⟩ := X10.virtualBack hx (y := (⟨"com/example/honeyguide/honeyguide/CoverCost", "of", "([DD)Lcom/example/honeyguide/honeyguide/ExactSum;"⟩ : MethodName)) (z := (⟨"com/example/honeyguide/honeyguide/CoverCost", "of", "([DD)Lcom/example/honeyguide/honeyguide/ExactSum;"⟩ : MethodName)) hown (mvT hZ (hw _ (List.mem_of_getElem? (i := 5) rfl))) (mvT hZ (hw _ (List.mem_of_getElem? (i := 6) rfl))) (notFace_of_selects (args := #[]) (mvT hZ (hw _ (List.mem_of_getElem? (i := 8) rfl)))) (mvT hZ (hw _ (List.mem_of_getElem? (i := 8) rfl))) (mvT hZ (hw _ (List.mem_of_getElem? (i := 7) rfl))) (by decide) (backOf (W := 0) (rms l Z a0 hw [] aS b3 lg _ d0 d1 T10.heap n0 Zs10 OS X00 V_b3 Ex_b3 n1 n2 n3 n4 n5 n6 n7 hf) hZ (hw _ (List.mem_of_getElem? (i := 9) rfl)) (hw _ (List.mem_of_getElem? (i := 1) rfl)) (by decide) (by decide)) q11a q11c (g := (mkF m 78 #[.val (.int p1), .val (.int p2), .val (.int p3), .val (.int p4), .val (.int p5), .val (.ref aS), .val (.ref b3), .val (.double sm), .second, .val (.double lg), .second, .val (.ref o1), .unset, .unset, .unset] [(.double lg), (.ref b3), (.ref aS)])) rfl (by rw [hml]; rfl) (Steps.refl _) (argsL := [(.ref b3), (.double lg)]) (rest := []) (lenOf pd_8 rfl) rfl (by show 2 * 0 + _ ≤ _; exact Nat.le_of_eq rfl) (hb hby at_78) (fun _ _ => ⟨rfl, rfl, (by decide : 3 + 2 ≤ _), (by decide : 8 + 6 ≤ _)⟩)
    dsimp only [Pt.U, Pt.locs, Pt.cells, Pt.slots] at X11 l11 y11 z11 st11 hQ11
    subst l11 y11 z11
    obtain ⟨o2, rfl, Nq11, Kq2, Eo2, pa2, kp2, Fp2, Fv2, Fe2, Vp2⟩ := hQ11
    have N11 := Fr.app N10 Nq11
    replace X00 := X00.keep Kq2 (by simp)
    replace ExS := ExS.keep Kq2
    replace ExD := ExD.keep Kq2
    replace Ex_b3 := Ex_b3.keep Kq2
    replace V_b3 := V_b3.keep Kq2 (by simp)
    replace Eo1 := Eo1.keep Kq2
    replace Fp1 := Fp1.keep Kq2 (by simp)
    replace Fv1 := Fv1.keep Kq2 (by simp)
    replace Fe1 := Fe1.keep Kq2 (by simp)
    replace Vp1 := Vp1.keep Kq2 (by simp)
    have Zs11 := Nat.le_trans Zs10 Kq2.1
    obtain ⟨n11, n21, nr1, n12, n22, nr2, nb, hz⟩ := PLT
    obtain ⟨cq12, kq12, q12a, q12b, q12c⟩ := isOf hZ rfl Eo1
    obtain ⟨_, _, ⟨T12, L12, k12_, n12⟩, -, X12, ⟨Lc12, hQ12, l12, y12, z12⟩, st12⟩ := X11.virtualBack hx (y := (⟨"com/example/honeyguide/honeyguide/ExactSum", "compareTo", "(Lcom/example/honeyguide/honeyguide/ExactSum;)I"⟩ : MethodName)) (z := (⟨"com/example/honeyguide/honeyguide/ExactSum", "compareTo", "(Lcom/example/honeyguide/honeyguide/ExactSum;)I"⟩ : MethodName)) hown (mvT hZ (hw _ (List.mem_of_getElem? (i := 48) rfl))) (mvT hZ (hw _ (List.mem_of_getElem? (i := 49) rfl))) (notFace_of_selects (args := #[]) (mvT hZ (hw _ (List.mem_of_getElem? (i := 51) rfl)))) (mvT hZ (hw _ (List.mem_of_getElem? (i := 51) rfl))) (mvT hZ (hw _ (List.mem_of_getElem? (i := 50) rfl))) (by decide) (backOf (W := 0) (rmt0 l Z a0 hw [] o1 o2 _ _ _ _ _ _ _ _ _ _ _ _ T11.heap n0 Zs11 Eo1 Fv1 Fe1 Fp1 Vp1 n11 n21 nr1 Eo2 Fv2 Fe2 Fp2 Vp2 n12 n22 nr2 nb hz rfl rfl) hZ (hw _ (List.mem_of_getElem? (i := 52) rfl)) (hw _ (List.mem_of_getElem? (i := 13) rfl)) (by decide) (by decide)) q12a q12c (g := (mkF m 87 #[.val (.int p1), .val (.int p2), .val (.int p3), .val (.int p4), .val (.int p5), .val (.ref aS), .val (.ref b3), .val (.double sm), .second, .val (.double lg), .second, .val (.ref o1), .val (.ref o2), .unset, .unset] [(.ref o2), (.ref o1)])) rfl (by rw [hml]; rfl) (Steps.refl _) (argsL := [(.ref o2)]) (rest := []) (lenOf pd_9 rfl) rfl (by show 2 * 0 + _ ≤ _; exact Nat.le_of_eq rfl) (hb hby at_87) (fun _ _ => ⟨rfl, rfl, (by decide : 5 + 0 ≤ _), (by decide : 14 + 0 ≤ _)⟩)
    dsimp only [Pt.U, Pt.locs, Pt.cells, Pt.slots] at X12 l12 y12 z12 st12 hQ12
    subst l12 y12 z12
    obtain ⟨rfl, Nq12, e12⟩ := hQ12
    have N12 := Fr.app N11 Nq12
    obtain ⟨cq13, kq13, q13a, q13b, q13c⟩ := isOf hZ e12 ExS
    obtain ⟨_, _, ⟨T13, L13, k13_, n13⟩, -, X13, ⟨Lc13, hQ13, l13, y13, z13⟩, st13⟩ := X12.virtualBack hx (y := (⟨"com/example/honeyguide/honeyguide/CoverCost", "weighsDiameter", "()Z"⟩ : MethodName)) (z := (⟨"com/example/honeyguide/honeyguide/CoverCost", "weighsDiameter", "()Z"⟩ : MethodName)) hown (mvT hZ (hw _ (List.mem_of_getElem? (i := 71) rfl))) (mvT hZ (hw _ (List.mem_of_getElem? (i := 72) rfl))) (notFace_of_selects (args := #[]) (mvT hZ (hw _ (List.mem_of_getElem? (i := 74) rfl)))) (mvT hZ (hw _ (List.mem_of_getElem? (i := 74) rfl))) (mvT hZ (hw _ (List.mem_of_getElem? (i := 73) rfl))) (by decide) (backOf (W := 0) (rmw0 l Z a0 hw [] aS aD T11.heap n0 Zs11 OD X00 (Ne.symm hne)) hZ (hw _ (List.mem_of_getElem? (i := 75) rfl)) (hw _ (List.mem_of_getElem? (i := 1) rfl)) (by decide) (by decide)) q13a q13c (g := (mkF m 102 #[.val (.int p1), .val (.int p2), .val (.int p3), .val (.int p4), .val (.int p5), .val (.ref aS), .val (.ref b3), .val (.double sm), .second, .val (.double lg), .second, .val (.ref o1), .val (.ref o2), .val (.int (0 : Int32)), .unset] [(.ref aS)])) rfl (by rw [hml]; rfl) (Steps.refl _) (argsL := []) (rest := []) (lenOf pd_10 rfl) rfl (by show 2 * 0 + _ ≤ _; exact Nat.le_of_eq rfl) (hb hby at_102) (fun _ _ => ⟨rfl, e12, (by decide : 5 + 0 ≤ _), (by decide : 14 + 0 ≤ _)⟩)
    dsimp only [Pt.U, Pt.locs, Pt.cells, Pt.slots] at X13 l13 y13 z13 st13 hQ13
    subst l13 y13 z13
    obtain ⟨rfl, Nq13, e13⟩ := hQ13
    have N13 := Fr.app N12 Nq13
    obtain ⟨T14, X14, e14, st14⟩ := getS2 X13 hx hZ hown (host := "") (Or.inl (hw _ (List.mem_of_getElem? (i := 78) rfl))) Via.refl e13 (OD.ext X00.2) (g := (mkF m 118 #[.val (.int p1), .val (.int p2), .val (.int p3), .val (.int p4), .val (.int p5), .val (.ref aS), .val (.ref b3), .val (.double sm), .second, .val (.double lg), .second, .val (.ref o1), .val (.ref o2), .val (.int (0 : Int32)), .val (.int (0 : Int32))] [(.ref aS), (.int (0 : Int32))])) rfl (hb hby at_118)
    obtain ⟨fs, hr, hrun, hended, hW, hsame⟩ := X14.leave (v := some (.int (1 : Int32))) (fun h => by rw [Bd.returns] at h; cases h) hlk
    refine ⟨_, _, ?_, hrun, hended, _, _, rfl, ?_, ⟨_, rfl⟩, hW, hsame.mono (by decide) (by decide)⟩
    · refine hA0 _ ?_
      refine k9 _ ?_
      refine own_f_aload X7.here hx (hb hby at_61) rfl rfl (rfl : _ = 63) ?_
      refine own_f_aload X7.here hx (hb hby at_63) rfl rfl (rfl : _ = 65) ?_
      refine own_f_dload X7.here hx (hb hby at_65) rfl (rfl : _ = 67) ?_
      refine st10.trans ?_
      show Steps p.tables e below (T10.setTop (mkF m 70 #[.val (.int p1), .val (.int p2), .val (.int p3), .val (.int p4), .val (.int p5), .val (.ref aS), .val (.ref b3), .val (.double sm), .second, .val (.double lg), .second, .unset, .unset, .unset, .unset] [(.ref o1)])) _
      refine own_f_astore X10.here hx (hb hby at_70) rfl (rfl : storeLocals _ _ _ = some #[.val (.int p1), .val (.int p2), .val (.int p3), .val (.int p4), .val (.int p5), .val (.ref aS), .val (.ref b3), .val (.double sm), .second, .val (.double lg), .second, .val (.ref o1), .unset, .unset, .unset]) (rfl : _ = 72) ?_
      refine own_f_aload X10.here hx (hb hby at_72) rfl rfl (rfl : _ = 74) ?_
      refine own_f_aload X10.here hx (hb hby at_74) rfl rfl (rfl : _ = 76) ?_
      refine own_f_dload X10.here hx (hb hby at_76) rfl (rfl : _ = 78) ?_
      refine st11.trans ?_
      show Steps p.tables e below (T11.setTop (mkF m 81 #[.val (.int p1), .val (.int p2), .val (.int p3), .val (.int p4), .val (.int p5), .val (.ref aS), .val (.ref b3), .val (.double sm), .second, .val (.double lg), .second, .val (.ref o1), .unset, .unset, .unset] [(.ref o2)])) _
      refine own_f_astore X11.here hx (hb hby at_81) rfl (rfl : storeLocals _ _ _ = some #[.val (.int p1), .val (.int p2), .val (.int p3), .val (.int p4), .val (.int p5), .val (.ref aS), .val (.ref b3), .val (.double sm), .second, .val (.double lg), .second, .val (.ref o1), .val (.ref o2), .unset, .unset]) (rfl : _ = 83) ?_
      refine own_f_aload X11.here hx (hb hby at_83) rfl rfl (rfl : _ = 85) ?_
      refine own_f_aload X11.here hx (hb hby at_85) rfl rfl (rfl : _ = 87) ?_
      refine st12.trans ?_
      show Steps p.tables e below (T12.setTop (mkF m 90 #[.val (.int p1), .val (.int p2), .val (.int p3), .val (.int p4), .val (.int p5), .val (.ref aS), .val (.ref b3), .val (.double sm), .second, .val (.double lg), .second, .val (.ref o1), .val (.ref o2), .unset, .unset] [(.int (0 : Int32))])) _
      refine own_f_ifYes X12.here hx (hb hby at_90) ((if0 _ _).trans (teq (rfl)).1) (by decide) (by decide : _ = 97) ?_
      refine own_f_iconst X12.here hx (hb hby at_97) (rfl : _ = (0 : Int32)) (rfl : _ = 98) ?_
      refine own_f_istore X12.here hx (hb hby at_98) (rfl : storeLocals _ _ _ = some #[.val (.int p1), .val (.int p2), .val (.int p3), .val (.int p4), .val (.int p5), .val (.ref aS), .val (.ref b3), .val (.double sm), .second, .val (.double lg), .second, .val (.ref o1), .val (.ref o2), .val (.int (0 : Int32)), .unset]) (rfl : _ = 100) ?_
      refine own_f_aload X12.here hx (hb hby at_100) rfl rfl (rfl : _ = 102) ?_
      refine st13.trans ?_
      show Steps p.tables e below (T13.setTop (mkF m 105 #[.val (.int p1), .val (.int p2), .val (.int p3), .val (.int p4), .val (.int p5), .val (.ref aS), .val (.ref b3), .val (.double sm), .second, .val (.double lg), .second, .val (.ref o1), .val (.ref o2), .val (.int (0 : Int32)), .unset] [(.int (0 : Int32))])) _
      refine own_f_istore X13.here hx (hb hby at_105) (rfl : storeLocals _ _ _ = some #[.val (.int p1), .val (.int p2), .val (.int p3), .val (.int p4), .val (.int p5), .val (.ref aS), .val (.ref b3), .val (.double sm), .second, .val (.double lg), .second, .val (.ref o1), .val (.ref o2), .val (.int (0 : Int32)), .val (.int (0 : Int32))]) (rfl : _ = 107) ?_
      refine own_f_iload X13.here hx (hb hby at_107) rfl (rfl : _ = 109) ?_
      refine own_f_iload X13.here hx (hb hby at_109) rfl (rfl : _ = 111) ?_
      refine own_f_icmpNo X13.here hx (hb hby at_111) (teq (rfl)).2 (rfl : _ = 114) ?_
      refine own_f_iload X13.here hx (hb hby at_114) rfl (rfl : _ = 116) ?_
      refine own_f_aload X13.here hx (hb hby at_116) rfl rfl (rfl : _ = 118) ?_
      refine st14 _ ?_
      show Steps p.tables e below (T14.setTop (mkF m 121 #[.val (.int p1), .val (.int p2), .val (.int p3), .val (.int p4), .val (.int p5), .val (.ref aS), .val (.ref b3), .val (.double sm), .second, .val (.double lg), .second, .val (.ref o1), .val (.ref o2), .val (.int (0 : Int32)), .val (.int (0 : Int32))] [(.ref aD), (.ref aS), (.int (0 : Int32))])) _
      refine Jvm.RoadKit.acmp (g := (mkF m 121 #[.val (.int p1), .val (.int p2), .val (.int p3), .val (.int p4), .val (.int p5), .val (.ref aS), .val (.ref b3), .val (.double sm), .second, .val (.double lg), .second, .val (.ref o1), .val (.ref o2), .val (.int (0 : Int32)), .val (.int (0 : Int32))] [(.ref aD), (.ref aS), (.int (0 : Int32))])) X14 hx rfl rfl rfl (pc0 := 121) (pc' := 128) (same := false) rfl (hb hby at_121) rfl (decide_eq_false (fun q => hne (Value.ref.inj q).symm)) (by decide) (by decide) ?_
      show Steps p.tables e below (T14.setTop (mkF m 128 #[.val (.int p1), .val (.int p2), .val (.int p3), .val (.int p4), .val (.int p5), .val (.ref aS), .val (.ref b3), .val (.double sm), .second, .val (.double lg), .second, .val (.ref o1), .val (.ref o2), .val (.int (0 : Int32)), .val (.int (0 : Int32))] [(.int (0 : Int32))])) _
      refine own_f_iconst X14.here hx (hb hby at_128) (rfl : _ = (0 : Int32)) (rfl : _ = 129) ?_
      refine own_f_icmpNo X14.here hx (hb hby at_129) (teq (rfl)).2 (rfl : _ = 132) ?_
      refine own_f_iconst X14.here hx (hb hby at_132) (rfl : _ = (1 : Int32)) (rfl : _ = 133) ?_
      refine own_f_goto X14.here hx (hb hby at_133) (by decide) (by decide : _ = 137) ?_
      exact retN X14 hx (t := .boolean) Bd.returns (by simp) (hb hby at_137) hr
    · show Q0 Z p1 p2 p3 p4 p5 aS aD h0 n0 _ T14.heap _
      rw [e14]
      exact ⟨rfl, N13⟩
  · obtain ⟨T15, X15, e15, st15⟩ := getS2 X0 hx hZ hown (host := "") (Or.inl (hw _ (List.mem_of_getElem? (i := 78) rfl))) Via.refl e0 (OD.ext X00.2) (g := (mkF m 6 #[.val (.int p1), .val (.int p2), .val (.int p3), .val (.int p4), .val (.int p5), .unset, .unset, .unset, .unset, .unset, .unset, .unset, .unset, .unset, .unset] [])) rfl (hb hby at_6)
    obtain ⟨T16, h16, c16, X16, e16, E16, A16, B16, st16⟩ := newPE X15 hx hZ (hw _ (List.mem_of_getElem? (i := 3) rfl)) e15 (g := (mkF m 18 #[.val (.int p1), .val (.int p2), .val (.int p3), .val (.int p4), .val (.int p5), .val (.ref aD), .unset, .unset, .unset, .unset, .unset, .unset, .unset, .unset, .unset] [(.int (2 : Int32))])) rfl (hb hby at_18) rfl (by decide) (cap := 2) (by decide) (by decide) (by decide) (by decide) (ad := "[D") (by decide)
    obtain ⟨b16, g16⟩ : ∃ z, z = h0.size := ⟨_, rfl⟩
    rw [← g16] at A16 B16 st16
    have ne_aS_b16 : aS ≠ b16 := Nat.ne_of_lt (Nat.lt_of_lt_of_le ExS.lt (Nat.le_of_eq g16.symm))
    have ne_aD_b16 : aD ≠ b16 := Nat.ne_of_lt (Nat.lt_of_lt_of_le ExD.lt (Nat.le_of_eq g16.symm))
    have g_b16 : n0 ≤ b16 := Nat.le_trans Z0 (Nat.le_of_eq g16.symm)
    replace X00 : Old Z n0 h16 := ⟨X00.1, Nat.le_trans X00.2.1 E16.1, fun x c r => E16.2 x c (X00.2.2 x c r)⟩
    replace ExS := ExS.ext E16
    replace ExD := ExD.ext E16
    have Zs16 := Nat.le_trans Z0 E16.1
    have Ex_b16 := B16
    have V_b16 : Arv Z h16 b16 c16 .double (2 : Int32) [(.double (0 : UInt64)), (.double (0 : UInt64))] (.double (0 : UInt64)) := (Arv.new A16 (by decide)).pad (pad_rep [] (.double (0 : UInt64)) 2)
    obtain ⟨cl17, Ar17, q17, Sz17, Ng17, Hs17, Gs17⟩ := V_b16
    have hin17 : ¬ ((0 : Int32) < 0 ∨ cl17.slots.size ≤ ((0 : Int32)).toNatClampNeg) := inb_of Sz17 ⟨by decide, by decide⟩
    obtain ⟨T18, h18, X18, e18, W18, st18⟩ := stD X16 hx hZ e16 Ar17 (j := (0 : Int32)) hin17 (g := (mkF m 30 #[.val (.int p1), .val (.int p2), .val (.int p3), .val (.int p4), .val (.int p5), .val (.ref aD), .val (.ref b16), .unset, .unset, .unset, .unset, .unset, .unset, .unset, .unset] [(.double (FP.i2d (p2 &&& (65535 : Int32)))), (.int (0 : Int32)), (.ref b16)])) rfl rfl (hb hby at_30)
    replace X00 := X00.wr W18 g_b16
    replace ExS := ExS.wr W18
    replace ExD := ExD.wr W18
    replace Ex_b16 := Ex_b16.wr W18
    have Zs18 := Nat.le_trans Zs16 (Keep.of_wr W18).1
    have V_b16 : Arv Z h18 b16 c16 .double (2 : Int32) [(.double (FP.i2d (p2 &&& (65535 : Int32)))), (.double (0 : UInt64))] (.double (0 : UInt64)) := Arv.set Ar17 q17 Sz17 Ng17 Hs17 Gs17 rfl W18 0 rfl (Nat.le_of_ble_eq_true rfl)
    have N18 := Fr.snoc X18 N0 g_b16
    obtain ⟨cl19, Ar19, q19, Sz19, Ng19, Hs19, Gs19⟩ := V_b16
    have hin19 : ¬ ((1 : Int32) < 0 ∨ cl19.slots.size ≤ ((1 : Int32)).toNatClampNeg) := inb_of Sz19 ⟨by decide, by decide⟩
    obtain ⟨T20, h20, X20, e20, W20, st20⟩ := stD X18 hx hZ e18 Ar19 (j := (1 : Int32)) hin19 (g := (mkF m 39 #[.val (.int p1), .val (.int p2), .val (.int p3), .val (.int p4), .val (.int p5), .val (.ref aD), .val (.ref b16), .unset, .unset, .unset, .unset, .unset, .unset, .unset, .unset] [(.double (FP.i2d (p3 &&& (65535 : Int32)))), (.int (1 : Int32)), (.ref b16)])) rfl rfl (hb hby at_39)
    replace X00 := X00.wr W20 g_b16
    replace ExS := ExS.wr W20
    replace ExD := ExD.wr W20
    replace Ex_b16 := Ex_b16.wr W20
    have Zs20 := Nat.le_trans Zs18 (Keep.of_wr W20).1
    have V_b16 : Arv Z h20 b16 c16 .double (2 : Int32) [(.double (FP.i2d (p2 &&& (65535 : Int32)))), (.double (FP.i2d (p3 &&& (65535 : Int32))))] (.double (0 : UInt64)) := Arv.set Ar19 q19 Sz19 Ng19 Hs19 Gs19 rfl W20 1 rfl (Nat.le_of_ble_eq_true rfl)
    have N20 := Fr.snoc X20 N18 g_b16
    have k21 : ∀ t_, Steps p.tables e below (T20.setTop (mkF m 47 #[.val (.int p1), .val (.int p2), .val (.int p3), .val (.int p4), .val (.int p5), .val (.ref aD), .val (.ref b16), .val (.double (FP.i2d (p4 &&& (65535 : Int32)))), .second, .unset, .unset, .unset, .unset, .unset, .unset] [])) t_ → Steps p.tables e below A t_ := by
      intro t_ ht_
      refine k1 t_ ?_
      refine own_f_ifNo X0.here hx (hb hby at_3) ((if0 _ _).trans (feq (hk0)).1) (rfl : _ = 6) ?_
      refine st15 _ ?_
      show Steps p.tables e below (T15.setTop (mkF m 9 #[.val (.int p1), .val (.int p2), .val (.int p3), .val (.int p4), .val (.int p5), .unset, .unset, .unset, .unset, .unset, .unset, .unset, .unset, .unset, .unset] [(.ref aD)])) t_
      refine own_f_goto X15.here hx (hb hby at_9) (by decide) (by decide : _ = 15) ?_
      refine own_f_astore X15.here hx (hb hby at_15) rfl (rfl : storeLocals _ _ _ = some #[.val (.int p1), .val (.int p2), .val (.int p3), .val (.int p4), .val (.int p5), .val (.ref aD), .unset, .unset, .unset, .unset, .unset, .unset, .unset, .unset, .unset]) (rfl : _ = 17) ?_
      refine own_f_iconst X15.here hx (hb hby at_17) (rfl : _ = (2 : Int32)) (rfl : _ = 18) ?_
      refine st16 _ ?_
      show Steps p.tables e below (T16.setTop (mkF m 20 #[.val (.int p1), .val (.int p2), .val (.int p3), .val (.int p4), .val (.int p5), .val (.ref aD), .unset, .unset, .unset, .unset, .unset, .unset, .unset, .unset, .unset] [(.ref b16)])) t_
      refine own_f_astore X16.here hx (hb hby at_20) rfl (rfl : storeLocals _ _ _ = some #[.val (.int p1), .val (.int p2), .val (.int p3), .val (.int p4), .val (.int p5), .val (.ref aD), .val (.ref b16), .unset, .unset, .unset, .unset, .unset, .unset, .unset, .unset]) (rfl : _ = 22) ?_
      refine own_f_aload X16.here hx (hb hby at_22) rfl rfl (rfl : _ = 24) ?_
      refine own_f_iconst X16.here hx (hb hby at_24) (rfl : _ = (0 : Int32)) (rfl : _ = 25) ?_
      refine own_f_iloadN X16.here hx (hb hby at_25) rfl (rfl : _ = 26) ?_
      refine own_f_ldcInt X16 hx hown (mvT hZ (hw _ (List.mem_of_getElem? (i := 4) rfl))) (hb hby at_26) (rfl : _ = 28) ?_
      refine own_f_iand X16.here hx (hb hby at_28) rfl (rfl : _ = 29) ?_
      refine own_f_i2d X16.here hx (hb hby at_29) rfl (rfl : _ = 30) ?_
      refine st18 _ ?_
      show Steps p.tables e below (T18.setTop (mkF m 31 #[.val (.int p1), .val (.int p2), .val (.int p3), .val (.int p4), .val (.int p5), .val (.ref aD), .val (.ref b16), .unset, .unset, .unset, .unset, .unset, .unset, .unset, .unset] [])) t_
      refine own_f_aload X18.here hx (hb hby at_31) rfl rfl (rfl : _ = 33) ?_
      refine own_f_iconst X18.here hx (hb hby at_33) (rfl : _ = (1 : Int32)) (rfl : _ = 34) ?_
      refine own_f_iloadN X18.here hx (hb hby at_34) rfl (rfl : _ = 35) ?_
      refine own_f_ldcInt X18 hx hown (mvT hZ (hw _ (List.mem_of_getElem? (i := 4) rfl))) (hb hby at_35) (rfl : _ = 37) ?_
      refine own_f_iand X18.here hx (hb hby at_37) rfl (rfl : _ = 38) ?_
      refine own_f_i2d X18.here hx (hb hby at_38) rfl (rfl : _ = 39) ?_
      refine st20 _ ?_
      show Steps p.tables e below (T20.setTop (mkF m 40 #[.val (.int p1), .val (.int p2), .val (.int p3), .val (.int p4), .val (.int p5), .val (.ref aD), .val (.ref b16), .unset, .unset, .unset, .unset, .unset, .unset, .unset, .unset] [])) t_
      refine own_f_iloadN X20.here hx (hb hby at_40) rfl (rfl : _ = 41) ?_
      refine own_f_ldcInt X20 hx hown (mvT hZ (hw _ (List.mem_of_getElem? (i := 4) rfl))) (hb hby at_41) (rfl : _ = 43) ?_
      refine own_f_iand X20.here hx (hb hby at_43) rfl (rfl : _ = 44) ?_
      refine own_f_i2d X20.here hx (hb hby at_44) rfl (rfl : _ = 45) ?_
      refine own_f_dstore X20.here hx (hb hby at_45) (rfl : storeLocals _ _ _ = some #[.val (.int p1), .val (.int p2), .val (.int p3), .val (.int p4), .val (.int p5), .val (.ref aD), .val (.ref b16), .val (.double (FP.i2d (p4 &&& (65535 : Int32)))), .second, .unset, .unset, .unset, .unset, .unset, .unset]) (rfl : _ = 47) ?_
      exact ht_
    obtain ⟨d0, hd0⟩ : ∃ z : UInt64, z = (FP.i2d (p2 &&& (65535 : Int32))) := ⟨_, rfl⟩
    obtain ⟨d1, hd1⟩ : ∃ z : UInt64, z = (FP.i2d (p3 &&& (65535 : Int32))) := ⟨_, rfl⟩
    rw [← hd0, ← hd1] at V_b16
    have k22 : ∀ t_, Steps p.tables e below (T20.setTop (mkF m 61 #[.val (.int p1), .val (.int p2), .val (.int p3), .val (.int p4), .val (.int p5), .val (.ref aD), .val (.ref b16), .val (.double (FP.i2d (p4 &&& (65535 : Int32)))), .second, .val (.double (FP.dadd (FP.i2d (p4 &&& (65535 : Int32))) (FP.i2d ((1 : Int32) + (p5 &&& (255 : Int32)))))), .second, .unset, .unset, .unset, .unset] [])) t_ → Steps p.tables e below A t_ := by
      intro t_ ht_
      refine k21 t_ ?_
      refine own_f_dload X20.here hx (hb hby at_47) rfl (rfl : _ = 49) ?_
      refine own_f_iconst X20.here hx (hb hby at_49) (rfl : _ = (1 : Int32)) (rfl : _ = 50) ?_
      refine own_f_iload X20.here hx (hb hby at_50) rfl (rfl : _ = 52) ?_
      refine own_f_sipush X20.here hx (hb hby at_52) (rfl : _ = (255 : Int32)) (rfl : _ = 55) ?_
      refine own_f_iand X20.here hx (hb hby at_55) rfl (rfl : _ = 56) ?_
      refine own_f_iadd X20.here hx (hb hby at_56) rfl (rfl : _ = 57) ?_
      refine own_f_i2d X20.here hx (hb hby at_57) rfl (rfl : _ = 58) ?_
      refine own_f_dadd X20.here hx (hb hby at_58) (own_lnn p4 p5) rfl (rfl : _ = 59) ?_
      refine own_f_dstore X20.here hx (hb hby at_59) (rfl : storeLocals _ _ _ = some #[.val (.int p1), .val (.int p2), .val (.int p3), .val (.int p4), .val (.int p5), .val (.ref aD), .val (.ref b16), .val (.double (FP.i2d (p4 &&& (65535 : Int32)))), .second, .val (.double (FP.dadd (FP.i2d (p4 &&& (65535 : Int32))) (FP.i2d ((1 : Int32) + (p5 &&& (255 : Int32)))))), .second, .unset, .unset, .unset, .unset]) (rfl : _ = 61) ?_
      exact ht_
    obtain ⟨lg, hlg⟩ : ∃ z : UInt64, z = (FP.dadd (FP.i2d (p4 &&& (65535 : Int32))) (FP.i2d ((1 : Int32) + (p5 &&& (255 : Int32))))) := ⟨_, rfl⟩
    rw [← hlg] at k22
    obtain ⟨sm, hsm⟩ : ∃ z : UInt64, z = (FP.i2d (p4 &&& (65535 : Int32))) := ⟨_, rfl⟩
    rw [← hsm] at k22
    obtain ⟨PS, PL, PLT⟩ := own_all_d hd0 hd1 hsm hlg
    obtain ⟨m0, m1, m2, m3, n1, n2, n3, n4, n5, n6, n7, hf⟩ := PS
    obtain ⟨cq23, kq23, q23a, q23b, q23c⟩ := isOf hZ e20 ExD
    obtain ⟨_, _, ⟨T23, L23, k23_, n23⟩, -, X23, ⟨Lc23, hQ23, l23, y23, z23⟩, st23⟩ := X20.virtualBack hx (y := (⟨"com/example/honeyguide/honeyguide/CoverCost", "of", "([DD)Lcom/example/honeyguide/honeyguide/ExactSum;"⟩ : MethodName)) (z := (⟨"com/example/honeyguide/honeyguide/CoverCost", "of", "([DD)Lcom/example/honeyguide/honeyguide/ExactSum;"⟩ : MethodName)) hown (mvT hZ (hw _ (List.mem_of_getElem? (i := 5) rfl))) (mvT hZ (hw _ (List.mem_of_getElem? (i := 6) rfl))) (notFace_of_selects (args := #[]) (mvT hZ (hw _ (List.mem_of_getElem? (i := 8) rfl)))) (mvT hZ (hw _ (List.mem_of_getElem? (i := 8) rfl))) (mvT hZ (hw _ (List.mem_of_getElem? (i := 7) rfl))) (by decide) (backOf (W := 0) (rmd l Z a0 hw [] aD b16 sm aS _ d0 d1 h20 n0 Zs20 OS X00 V_b16 Ex_b16 hne m0 m1 m2 m3 n1 n2 n3 n4 n5 n6 n7 hf) hZ (hw _ (List.mem_of_getElem? (i := 9) rfl)) (hw _ (List.mem_of_getElem? (i := 1) rfl)) (by decide) (by decide)) q23a q23c (g := (mkF m 67 #[.val (.int p1), .val (.int p2), .val (.int p3), .val (.int p4), .val (.int p5), .val (.ref aD), .val (.ref b16), .val (.double sm), .second, .val (.double lg), .second, .unset, .unset, .unset, .unset] [(.double sm), (.ref b16), (.ref aD)])) rfl (by rw [hml]; rfl) (Steps.refl _) (argsL := [(.ref b16), (.double sm)]) (rest := []) (lenOf pd_8 rfl) rfl (by show 2 * 0 + _ ≤ _; exact Nat.le_of_eq rfl) (hb hby at_67) (fun _ _ => ⟨rfl, e20, (by decide : 1 + 3 ≤ _), (by decide : 2 + 8 ≤ _)⟩)
    dsimp only [Pt.U, Pt.locs, Pt.cells, Pt.slots] at X23 l23 y23 z23 st23 hQ23
    subst l23 y23 z23
    obtain ⟨o1, rfl, Nq23, Kq1, Eo1, pa1, kp1, Fp1, Fv1, Fe1, Vp1⟩ := hQ23
    have N23 := Fr.app N20 Nq23
    replace X00 := X00.keep Kq1 (by simp)
    replace ExS := ExS.keep Kq1
    replace ExD := ExD.keep Kq1
    replace Ex_b16 := Ex_b16.keep Kq1
    replace V_b16 := V_b16.keep Kq1 (by simp)
    have Zs23 := Nat.le_trans Zs20 Kq1.1
    obtain ⟨m0, m1, m2, m3, n1, n2, n3, n4, n5, n6, n7, hf⟩ := PL
    obtain ⟨cq24, kq24, q24a, q24b, q24c⟩ := isOf hZ rfl ExD
    obtain ⟨_, _, ⟨T24, L24, k24_, n24⟩, -, X24, ⟨Lc24, hQ24, l24, y24, z24⟩, st24⟩ := X23.virtualBack hx (y := (⟨"com/example/honeyguide/honeyguide/CoverCost", "of", "([DD)Lcom/example/honeyguide/honeyguide/ExactSum;"⟩ : MethodName)) (z := (⟨"com/example/honeyguide/honeyguide/CoverCost", "of", "([DD)Lcom/example/honeyguide/honeyguide/ExactSum;"⟩ : MethodName)) hown (mvT hZ (hw _ (List.mem_of_getElem? (i := 5) rfl))) (mvT hZ (hw _ (List.mem_of_getElem? (i := 6) rfl))) (notFace_of_selects (args := #[]) (mvT hZ (hw _ (List.mem_of_getElem? (i := 8) rfl)))) (mvT hZ (hw _ (List.mem_of_getElem? (i := 8) rfl))) (mvT hZ (hw _ (List.mem_of_getElem? (i := 7) rfl))) (by decide) (backOf (W := 0) (rmd l Z a0 hw [] aD b16 lg aS _ d0 d1 T23.heap n0 Zs23 OS X00 V_b16 Ex_b16 hne m0 m1 m2 m3 n1 n2 n3 n4 n5 n6 n7 hf) hZ (hw _ (List.mem_of_getElem? (i := 9) rfl)) (hw _ (List.mem_of_getElem? (i := 1) rfl)) (by decide) (by decide)) q24a q24c (g := (mkF m 78 #[.val (.int p1), .val (.int p2), .val (.int p3), .val (.int p4), .val (.int p5), .val (.ref aD), .val (.ref b16), .val (.double sm), .second, .val (.double lg), .second, .val (.ref o1), .unset, .unset, .unset] [(.double lg), (.ref b16), (.ref aD)])) rfl (by rw [hml]; rfl) (Steps.refl _) (argsL := [(.ref b16), (.double lg)]) (rest := []) (lenOf pd_8 rfl) rfl (by show 2 * 0 + _ ≤ _; exact Nat.le_of_eq rfl) (hb hby at_78) (fun _ _ => ⟨rfl, rfl, (by decide : 4 + 3 ≤ _), (by decide : 10 + 8 ≤ _)⟩)
    dsimp only [Pt.U, Pt.locs, Pt.cells, Pt.slots] at X24 l24 y24 z24 st24 hQ24
    subst l24 y24 z24
    obtain ⟨o2, rfl, Nq24, Kq2, Eo2, pa2, kp2, Fp2, Fv2, Fe2, Vp2⟩ := hQ24
    have N24 := Fr.app N23 Nq24
    replace X00 := X00.keep Kq2 (by simp)
    replace ExS := ExS.keep Kq2
    replace ExD := ExD.keep Kq2
    replace Ex_b16 := Ex_b16.keep Kq2
    replace V_b16 := V_b16.keep Kq2 (by simp)
    replace Eo1 := Eo1.keep Kq2
    replace Fp1 := Fp1.keep Kq2 (by simp)
    replace Fv1 := Fv1.keep Kq2 (by simp)
    replace Fe1 := Fe1.keep Kq2 (by simp)
    replace Vp1 := Vp1.keep Kq2 (by simp)
    have Zs24 := Nat.le_trans Zs23 Kq2.1
    obtain ⟨n11, n21, nr1, n12, n22, nr2, nb, hz⟩ := PLT
    obtain ⟨cq25, kq25, q25a, q25b, q25c⟩ := isOf hZ rfl Eo1
    obtain ⟨_, _, ⟨T25, L25, k25_, n25⟩, -, X25, ⟨Lc25, hQ25, l25, y25, z25⟩, st25⟩ := X24.virtualBack hx (y := (⟨"com/example/honeyguide/honeyguide/ExactSum", "compareTo", "(Lcom/example/honeyguide/honeyguide/ExactSum;)I"⟩ : MethodName)) (z := (⟨"com/example/honeyguide/honeyguide/ExactSum", "compareTo", "(Lcom/example/honeyguide/honeyguide/ExactSum;)I"⟩ : MethodName)) hown (mvT hZ (hw _ (List.mem_of_getElem? (i := 48) rfl))) (mvT hZ (hw _ (List.mem_of_getElem? (i := 49) rfl))) (notFace_of_selects (args := #[]) (mvT hZ (hw _ (List.mem_of_getElem? (i := 51) rfl)))) (mvT hZ (hw _ (List.mem_of_getElem? (i := 51) rfl))) (mvT hZ (hw _ (List.mem_of_getElem? (i := 50) rfl))) (by decide) (backOf (W := 0) (rmt1 l Z a0 hw [] o1 o2 _ _ _ _ _ _ _ _ _ _ _ _ T24.heap n0 Zs24 Eo1 Fv1 Fe1 Fp1 Vp1 n11 n21 nr1 Eo2 Fv2 Fe2 Fp2 Vp2 n12 n22 nr2 nb hz) hZ (hw _ (List.mem_of_getElem? (i := 52) rfl)) (hw _ (List.mem_of_getElem? (i := 13) rfl)) (by decide) (by decide)) q25a q25c (g := (mkF m 87 #[.val (.int p1), .val (.int p2), .val (.int p3), .val (.int p4), .val (.int p5), .val (.ref aD), .val (.ref b16), .val (.double sm), .second, .val (.double lg), .second, .val (.ref o1), .val (.ref o2), .unset, .unset] [(.ref o2), (.ref o1)])) rfl (by rw [hml]; rfl) (Steps.refl _) (argsL := [(.ref o2)]) (rest := []) (lenOf pd_9 rfl) rfl (by show 2 * 0 + _ ≤ _; exact Nat.le_of_eq rfl) (hb hby at_87) (fun _ _ => ⟨rfl, rfl, (by decide : 7 + 0 ≤ _), (by decide : 18 + 0 ≤ _)⟩)
    dsimp only [Pt.U, Pt.locs, Pt.cells, Pt.slots] at X25 l25 y25 z25 st25 hQ25
    subst l25 y25 z25
    obtain ⟨rfl, Nq25, e25⟩ := hQ25
    have N25 := Fr.app N24 Nq25
    obtain ⟨cq26, kq26, q26a, q26b, q26c⟩ := isOf hZ e25 ExD
    obtain ⟨_, _, ⟨T26, L26, k26_, n26⟩, -, X26, ⟨Lc26, hQ26, l26, y26, z26⟩, st26⟩ := X25.virtualBack hx (y := (⟨"com/example/honeyguide/honeyguide/CoverCost", "weighsDiameter", "()Z"⟩ : MethodName)) (z := (⟨"com/example/honeyguide/honeyguide/CoverCost", "weighsDiameter", "()Z"⟩ : MethodName)) hown (mvT hZ (hw _ (List.mem_of_getElem? (i := 71) rfl))) (mvT hZ (hw _ (List.mem_of_getElem? (i := 72) rfl))) (notFace_of_selects (args := #[]) (mvT hZ (hw _ (List.mem_of_getElem? (i := 74) rfl)))) (mvT hZ (hw _ (List.mem_of_getElem? (i := 74) rfl))) (mvT hZ (hw _ (List.mem_of_getElem? (i := 73) rfl))) (by decide) (backOf (W := 0) (rmw1 l Z a0 hw [] aD  T24.heap n0 Zs24 OD X00) hZ (hw _ (List.mem_of_getElem? (i := 75) rfl)) (hw _ (List.mem_of_getElem? (i := 1) rfl)) (by decide) (by decide)) q26a q26c (g := (mkF m 102 #[.val (.int p1), .val (.int p2), .val (.int p3), .val (.int p4), .val (.int p5), .val (.ref aD), .val (.ref b16), .val (.double sm), .second, .val (.double lg), .second, .val (.ref o1), .val (.ref o2), .val (.int (1 : Int32)), .unset] [(.ref aD)])) rfl (by rw [hml]; rfl) (Steps.refl _) (argsL := []) (rest := []) (lenOf pd_10 rfl) rfl (by show 2 * 0 + _ ≤ _; exact Nat.le_of_eq rfl) (hb hby at_102) (fun _ _ => ⟨rfl, e25, (by decide : 7 + 0 ≤ _), (by decide : 18 + 0 ≤ _)⟩)
    dsimp only [Pt.U, Pt.locs, Pt.cells, Pt.slots] at X26 l26 y26 z26 st26 hQ26
    subst l26 y26 z26
    obtain ⟨rfl, Nq26, e26⟩ := hQ26
    have N26 := Fr.app N25 Nq26
    obtain ⟨T27, X27, e27, st27⟩ := getS2 X26 hx hZ hown (host := "") (Or.inl (hw _ (List.mem_of_getElem? (i := 78) rfl))) Via.refl e26 (OD.ext X00.2) (g := (mkF m 118 #[.val (.int p1), .val (.int p2), .val (.int p3), .val (.int p4), .val (.int p5), .val (.ref aD), .val (.ref b16), .val (.double sm), .second, .val (.double lg), .second, .val (.ref o1), .val (.ref o2), .val (.int (1 : Int32)), .val (.int (1 : Int32))] [(.ref aD), (.int (1 : Int32))])) rfl (hb hby at_118)
    obtain ⟨fs, hr, hrun, hended, hW, hsame⟩ := X27.leave (v := some (.int (1 : Int32))) (fun h => by rw [Bd.returns] at h; cases h) hlk
    refine ⟨_, _, ?_, hrun, hended, _, _, rfl, ?_, ⟨_, rfl⟩, hW, hsame.mono (by decide) (by decide)⟩
    · refine hA0 _ ?_
      refine k22 _ ?_
      refine own_f_aload X20.here hx (hb hby at_61) rfl rfl (rfl : _ = 63) ?_
      refine own_f_aload X20.here hx (hb hby at_63) rfl rfl (rfl : _ = 65) ?_
      refine own_f_dload X20.here hx (hb hby at_65) rfl (rfl : _ = 67) ?_
      refine st23.trans ?_
      show Steps p.tables e below (T23.setTop (mkF m 70 #[.val (.int p1), .val (.int p2), .val (.int p3), .val (.int p4), .val (.int p5), .val (.ref aD), .val (.ref b16), .val (.double sm), .second, .val (.double lg), .second, .unset, .unset, .unset, .unset] [(.ref o1)])) _
      refine own_f_astore X23.here hx (hb hby at_70) rfl (rfl : storeLocals _ _ _ = some #[.val (.int p1), .val (.int p2), .val (.int p3), .val (.int p4), .val (.int p5), .val (.ref aD), .val (.ref b16), .val (.double sm), .second, .val (.double lg), .second, .val (.ref o1), .unset, .unset, .unset]) (rfl : _ = 72) ?_
      refine own_f_aload X23.here hx (hb hby at_72) rfl rfl (rfl : _ = 74) ?_
      refine own_f_aload X23.here hx (hb hby at_74) rfl rfl (rfl : _ = 76) ?_
      refine own_f_dload X23.here hx (hb hby at_76) rfl (rfl : _ = 78) ?_
      refine st24.trans ?_
      show Steps p.tables e below (T24.setTop (mkF m 81 #[.val (.int p1), .val (.int p2), .val (.int p3), .val (.int p4), .val (.int p5), .val (.ref aD), .val (.ref b16), .val (.double sm), .second, .val (.double lg), .second, .val (.ref o1), .unset, .unset, .unset] [(.ref o2)])) _
      refine own_f_astore X24.here hx (hb hby at_81) rfl (rfl : storeLocals _ _ _ = some #[.val (.int p1), .val (.int p2), .val (.int p3), .val (.int p4), .val (.int p5), .val (.ref aD), .val (.ref b16), .val (.double sm), .second, .val (.double lg), .second, .val (.ref o1), .val (.ref o2), .unset, .unset]) (rfl : _ = 83) ?_
      refine own_f_aload X24.here hx (hb hby at_83) rfl rfl (rfl : _ = 85) ?_
      refine own_f_aload X24.here hx (hb hby at_85) rfl rfl (rfl : _ = 87) ?_
      refine st25.trans ?_
      show Steps p.tables e below (T25.setTop (mkF m 90 #[.val (.int p1), .val (.int p2), .val (.int p3), .val (.int p4), .val (.int p5), .val (.ref aD), .val (.ref b16), .val (.double sm), .second, .val (.double lg), .second, .val (.ref o1), .val (.ref o2), .unset, .unset] [(.int (-1 : Int32))])) _
      refine own_f_ifNo X25.here hx (hb hby at_90) ((if0 _ _).trans (feq (by decide)).1) (rfl : _ = 93) ?_
      refine own_f_iconst X25.here hx (hb hby at_93) (rfl : _ = (1 : Int32)) (rfl : _ = 94) ?_
      refine own_f_goto X25.here hx (hb hby at_94) (by decide) (by decide : _ = 98) ?_
      refine own_f_istore X25.here hx (hb hby at_98) (rfl : storeLocals _ _ _ = some #[.val (.int p1), .val (.int p2), .val (.int p3), .val (.int p4), .val (.int p5), .val (.ref aD), .val (.ref b16), .val (.double sm), .second, .val (.double lg), .second, .val (.ref o1), .val (.ref o2), .val (.int (1 : Int32)), .unset]) (rfl : _ = 100) ?_
      refine own_f_aload X25.here hx (hb hby at_100) rfl rfl (rfl : _ = 102) ?_
      refine st26.trans ?_
      show Steps p.tables e below (T26.setTop (mkF m 105 #[.val (.int p1), .val (.int p2), .val (.int p3), .val (.int p4), .val (.int p5), .val (.ref aD), .val (.ref b16), .val (.double sm), .second, .val (.double lg), .second, .val (.ref o1), .val (.ref o2), .val (.int (1 : Int32)), .unset] [(.int (1 : Int32))])) _
      refine own_f_istore X26.here hx (hb hby at_105) (rfl : storeLocals _ _ _ = some #[.val (.int p1), .val (.int p2), .val (.int p3), .val (.int p4), .val (.int p5), .val (.ref aD), .val (.ref b16), .val (.double sm), .second, .val (.double lg), .second, .val (.ref o1), .val (.ref o2), .val (.int (1 : Int32)), .val (.int (1 : Int32))]) (rfl : _ = 107) ?_
      refine own_f_iload X26.here hx (hb hby at_107) rfl (rfl : _ = 109) ?_
      refine own_f_iload X26.here hx (hb hby at_109) rfl (rfl : _ = 111) ?_
      refine own_f_icmpNo X26.here hx (hb hby at_111) (teq (rfl)).2 (rfl : _ = 114) ?_
      refine own_f_iload X26.here hx (hb hby at_114) rfl (rfl : _ = 116) ?_
      refine own_f_aload X26.here hx (hb hby at_116) rfl rfl (rfl : _ = 118) ?_
      refine st27 _ ?_
      show Steps p.tables e below (T27.setTop (mkF m 121 #[.val (.int p1), .val (.int p2), .val (.int p3), .val (.int p4), .val (.int p5), .val (.ref aD), .val (.ref b16), .val (.double sm), .second, .val (.double lg), .second, .val (.ref o1), .val (.ref o2), .val (.int (1 : Int32)), .val (.int (1 : Int32))] [(.ref aD), (.ref aD), (.int (1 : Int32))])) _
      refine Jvm.RoadKit.acmp (g := (mkF m 121 #[.val (.int p1), .val (.int p2), .val (.int p3), .val (.int p4), .val (.int p5), .val (.ref aD), .val (.ref b16), .val (.double sm), .second, .val (.double lg), .second, .val (.ref o1), .val (.ref o2), .val (.int (1 : Int32)), .val (.int (1 : Int32))] [(.ref aD), (.ref aD), (.int (1 : Int32))])) X27 hx rfl rfl rfl (pc0 := 121) (pc' := 124) (same := true) rfl (hb hby at_121) rfl (decide_eq_true rfl) (by decide) (by decide) ?_
      show Steps p.tables e below (T27.setTop (mkF m 124 #[.val (.int p1), .val (.int p2), .val (.int p3), .val (.int p4), .val (.int p5), .val (.ref aD), .val (.ref b16), .val (.double sm), .second, .val (.double lg), .second, .val (.ref o1), .val (.ref o2), .val (.int (1 : Int32)), .val (.int (1 : Int32))] [(.int (1 : Int32))])) _
      refine own_f_iconst X27.here hx (hb hby at_124) (rfl : _ = (1 : Int32)) (rfl : _ = 125) ?_
      refine own_f_goto X27.here hx (hb hby at_125) (by decide) (by decide : _ = 129) ?_
      refine own_f_icmpNo X27.here hx (hb hby at_129) (teq (rfl)).2 (rfl : _ = 132) ?_
      refine own_f_iconst X27.here hx (hb hby at_132) (rfl : _ = (1 : Int32)) (rfl : _ = 133) ?_
      refine own_f_goto X27.here hx (hb hby at_133) (by decide) (by decide : _ = 137) ?_
      exact retN X27 hx (t := .boolean) Bd.returns (by simp) (hb hby at_137) hr
    · show Q0 Z p1 p2 p3 p4 p5 aS aD h0 n0 _ T27.heap _
      rw [e27]
      exact ⟨rfl, N26⟩
set_option maxRecDepth 65536 in
set_option maxHeartbeats 40000000 in
theorem comes_1 {Post : Tables → Env → Array Value → State → Outcome → State → Prop} (hpost : ∀ tb e args s v u, (limb_1_1.after args s (.returned v) u = true ∧ limb_1_2.after args s (.returned v) u = true ∧ True) → FrameEnd s (.returned v) u (Jvm.fieldLocs frame_1_writes args s ++ Jvm.arrayLocs frame_1_arrays args s ++ Jvm.staticLocs frame_1_statics s) 24 128 → Post tb e args s (.returned v) u) :
    ArmFor flags0 classFile x code maxLocals ret World_1 tables_1 room_1 Calls_1 rest_1 Pre_1 Post := by
  intro l hfl _ _ p e ha hc hk s m args below hf hA hF happ hP
  obtain ⟨hcalls, hrest, hpre⟩ := hP
  obtain ⟨-, -, -, hnamed, -, -, -, hat⟩ := (Spec.applies_iff hf).mp happ
  obtain ⟨hg, hn⟩ := and_e (Cond.before_iff.mp (show (Jvm.Cond.and given_1 narrow_1).before args s = true from hpre))
  obtain ⟨gc, gr0⟩ := and_e hg
  obtain ⟨g0, gr1⟩ := and_e gr0
  obtain ⟨g1, gr2⟩ := and_e gr1
  obtain ⟨g2, gr3⟩ := and_e gr2
  obtain ⟨g3, gr4⟩ := and_e gr3
  have g4 := gr4
  obtain ⟨w0, w1, w2, w3, w4, rfl⟩ : ∃ w0 w1 w2 w3 w4 : Value, args = #[w0, w1, w2, w3, w4] := by
    have hs : args.size = 5 := by simpa [Cond.value, given_1] using gc
    obtain ⟨L⟩ := args
    match L, hs with
    | [w0, w1, w2, w3, w4], _ => exact ⟨w0, w1, w2, w3, w4, rfl⟩
  have hw := fun d (hd : d ∈ tables_1) => atoms_spec (ws := Jvm.Cond.code x code maxLocals ret :: tables_1) hat d (List.mem_cons_of_mem _ hd)
  have hfit : Fit s := fun {y c} hc i hi => by
    obtain ⟨ha, rfl⟩ := Array.getElem?_eq_some_iff.mp hc
    have q := List.all_eq_true.mp ((Array.all_eq_true_iff_forall_mem.mp hF) _ (Array.getElem_mem ha)) i (List.mem_range.mpr hi)
    simpa [Array.getElem?_eq_getElem hi] using q
  obtain ⟨i0, ei0⟩ := is_v g0
  obtain rfl : w0 = (.int i0) := Option.some.inj ei0
  obtain ⟨i1, ei1⟩ := is_v g1
  obtain rfl : w1 = (.int i1) := Option.some.inj ei1
  obtain ⟨i2, ei2⟩ := is_v g2
  obtain rfl : w2 = (.int i2) := Option.some.inj ei2
  obtain ⟨i3, ei3⟩ := is_v g3
  obtain rfl : w3 = (.int i3) := Option.some.inj ei3
  obtain ⟨i4, ei4⟩ := is_v g4
  obtain rfl : w4 = (.int i4) := Option.some.inj ei4
  obtain ⟨n1, hn⟩ := and_e hn
  obtain ⟨n2, hn⟩ := and_e hn
  obtain ⟨n3, n4⟩ := and_e hn
  obtain ⟨aS, evS⟩ := exa_v n1
  have ExS := Exa.start evS n1
  have StS := Sta.start evS (Or.inr ⟨(hw _ (List.mem_of_getElem? (i := 1) rfl)), (hw _ (List.mem_of_getElem? (i := 2) rfl))⟩)
  obtain ⟨aD, evD⟩ := exa_v n2
  have ExD := Exa.start evD n2
  have StD := Sta.start evD (Or.inr ⟨(hw _ (List.mem_of_getElem? (i := 1) rfl)), (hw _ (List.mem_of_getElem? (i := 77) rfl))⟩)
  have hne : aD ≠ aS := fun q => by have u := own_feq evS n3; have u2 := own_feq evD n4; rw [q, u] at u2; exact absurd u2 (by decide)
  have X00 : Old s s.heap.size s.heap := ⟨rfl, Nat.le_refl _, fun _ _ q => q⟩
  obtain ⟨n, o, h1, h2, h3, _, L, rfl, ⟨rfl, N⟩, hq⟩ := rm0 l s _ hw tables_1 i0 i1 i2 i3 i4 aS aD s.heap s.heap.size (Nat.le_refl _) StS StD X00 ExS ExD hne p e ha hc hk s m _ below hf ((Spec.applies_iff_loose hf).mp happ).1 ⟨rfl, State.Warmed39.refl s, rfl⟩ trivial
  refine ⟨n, _, h1, h2, h3, hpost _ _ _ _ _ _ ⟨Cond.after_iff.mpr rfl, Cond.after_iff.mpr (eq_i res_at (Term.int_eval (1)) rfl), trivial⟩ ⟨hq.1, hq.2.1, (hq.2.2.sift fun y hy => Or.inr (N y hy)).mono (by decide) (by decide)⟩⟩
theorem main_1_1 : Claimed_1_1 := comes_1 fun _ _ _ _ _ _ h hF => ⟨h.1, hF⟩
theorem main_1_2 : Claimed_1_2 := comes_1 fun _ _ _ _ _ _ h hF => ⟨h.2.1, hF⟩
end Jvm.Pilot.@@N@@
namespace Jvm.Pilot.@@N@@
open Jvm Jvm.ClassFile Sem Op Lib Jvm.Free Jvm.Stand Jvm.Pilot.@@N@@.Jvm.D
/-! MADE BY PROGRAM (witnessworld.py) out of the Statement's table words and the real class files: 19 classes; the members and pool entries that the words name. The judged class is class 1, her method 1. -/
namespace start1
open Jvm.ClassFile
def u (s : String) : CpInfo := .utf8 (stringToUtf16 s)
/-- a pool by its gaps: so many unusable entries, then the entry; so many at the end -/
def gap : Nat → List CpInfo → List CpInfo
  | 0, r => r
  | n + 1, r => .unusable :: gap n r
def poolList (es : List (Nat × CpInfo)) (last : Nat) : List CpInfo := es.foldr (fun e r => gap e.1 (e.2 :: r)) (gap last [])
def pool (es : List (Nat × CpInfo)) (last : Nat) : Array CpInfo := ⟨poolList es last⟩
def fileOf (pool : Array CpInfo) (this : Nat) (attrs : Array Attribute := #[]) (ms : Array MethodInfo := #[]) (fl : Nat := 33) (sup : Nat := 0) (ifs : Array Nat := #[]) (fds : Array FieldInfo := #[]) : ClassFile where
  minorVersion := 0
  majorVersion := 65
  constantPool := pool
  accessFlags := fl
  thisClass := this
  superClass := sup
  interfaces := ifs
  fields := fds
  methods := ms
  attributes := attrs
def plain (name : String) (sup : Option ClassId) : Class where
  name := name
  kind := .ordinary
  loader := none
  accessFlags := 33
  super := sup
  interfaces := #[]
  cf := none
  fields := #[]
  methods := #[]
  instanceTypes := #[]
  staticTypes := #[]
  resolved := #[]
  callSites := []
  init := .initialized
  statics := none
  mirror := none

def pool0 : Array CpInfo := pool [(5, u "<init>"), (0, u "()V"), (1, .class_ 10), (1, u "java/lang/Object"), (85, u "clone"), (0, u "()Ljava/lang/Object;")] 26

def k0c0 : Code := { maxStack := 0, maxLocals := 1, code := object_method_1_code, exceptionTable := #[], attributes := #[] }
def k0m0 : Method := { name := "<init>", desc := "()V", sig := { parameters := [], returnType := none }, accessFlags := 1, code := some k0c0 }
def k0m1 : Method := { name := "clone", desc := "()Ljava/lang/Object;", sig := { parameters := [], returnType := some (.object "java/lang/Object") }, accessFlags := 260, code := none }
/-- java/lang/Object -/
def k0 : Class := { plain "java/lang/Object" none with
  accessFlags := 33
  interfaces := #[]
  cf := some (fileOf pool0 8 #[] #[{ accessFlags := 1, nameIndex := 5, descriptorIndex := 6, attributes := #[] }, { accessFlags := 260, nameIndex := 96, descriptorIndex := 97, attributes := #[] }] 33 0 #[] #[])
  fields := #[]
  methods := #[k0m0, k0m1]
  instanceTypes := #[]
  staticTypes := #[]
  resolved := Array.replicate 124 none
  statics := none }

def pool1 : Array CpInfo := pool [(2, .class_ 4), (1, u "java/lang/Object"), (0, u "<init>"), (0, u "()V"), (0, .fieldref 8 9), (0, .class_ 10), (0, .nameAndType 11 12), (0, u "com/example/honeyguide/honeyguide/CoverCost"), (0, u "DIAMETER"), (0, u "Lcom/example/honeyguide/honeyguide/CoverCost;"), (0, .fieldref 8 14), (0, .nameAndType 15 12), (0, u "SUM"), (0, .integer 65535), (0, .methodref 8 18), (0, .nameAndType 19 20), (0, u "of"), (0, u "([DD)Lcom/example/honeyguide/honeyguide/ExactSum;"), (0, .methodref 22 23), (0, .class_ 24), (0, .nameAndType 25 26), (0, u "com/example/honeyguide/honeyguide/ExactSum"), (0, u "compareTo"), (0, u "(Lcom/example/honeyguide/honeyguide/ExactSum;)I"), (0, .methodref 8 28), (0, .nameAndType 29 30), (0, u "weighsDiameter"), (0, u "()Z"), (0, .class_ 32), (0, u "com/example/honeyguide/honeyguide/CoverCostWeighsDiameterPinLaw"), (2, u "law"), (0, u "(IIIII)Z")] 5

def k1m0 : Method := { name := "<init>", desc := "()V", sig := { parameters := [], returnType := none }, accessFlags := 1, code := none }
def k1c1 : Code := { maxStack := 5, maxLocals := 15, code := code, exceptionTable := #[], attributes := #[] }
def k1m1 : Method := { name := "law", desc := "(IIIII)Z", sig := { parameters := [.int, .int, .int, .int, .int], returnType := some .boolean }, accessFlags := 9, code := some k1c1 }
/-- com/example/honeyguide/honeyguide/CoverCostWeighsDiameterPinLaw -/
def k1 : Class := { plain "com/example/honeyguide/honeyguide/CoverCostWeighsDiameterPinLaw" (some 0) with
  accessFlags := 49
  interfaces := #[]
  cf := some (fileOf pool1 31 #[] #[{ accessFlags := 1, nameIndex := 5, descriptorIndex := 6, attributes := #[] }, { accessFlags := 9, nameIndex := 35, descriptorIndex := 36, attributes := #[] }] 49 2 #[] #[])
  fields := #[]
  methods := #[k1m0, k1m1]
  instanceTypes := #[]
  staticTypes := #[]
  resolved := Array.replicate 42 none
  statics := none }

def pool2 : Array CpInfo := pool [(1, .class_ 2), (0, u "java/lang/constant/Constable"), (0, .class_ 4), (0, u "java/lang/Object")] 6

/-- java/lang/constant/Constable -/
def k2 : Class := { plain "java/lang/constant/Constable" (some 0) with
  accessFlags := 1537
  interfaces := #[]
  cf := some (fileOf pool2 1 #[] #[] 1537 3 #[] #[])
  fields := #[]
  methods := #[]
  instanceTypes := #[]
  staticTypes := #[]
  resolved := Array.replicate 11 none
  statics := none }

def pool3 : Array CpInfo := pool [(1, .class_ 2), (0, u "java/lang/Comparable"), (0, .class_ 4), (0, u "java/lang/Object")] 7

/-- java/lang/Comparable -/
def k3 : Class := { plain "java/lang/Comparable" (some 0) with
  accessFlags := 1537
  interfaces := #[]
  cf := some (fileOf pool3 1 #[] #[] 1537 3 #[] #[])
  fields := #[]
  methods := #[]
  instanceTypes := #[]
  staticTypes := #[]
  resolved := Array.replicate 12 none
  statics := none }

def pool4 : Array CpInfo := pool [(1, .class_ 2), (0, u "java/io/Serializable"), (0, .class_ 4), (0, u "java/lang/Object")] 2

/-- java/io/Serializable -/
def k4 : Class := { plain "java/io/Serializable" (some 0) with
  accessFlags := 1537
  interfaces := #[]
  cf := some (fileOf pool4 1 #[] #[] 1537 3 #[] #[])
  fields := #[]
  methods := #[]
  instanceTypes := #[]
  staticTypes := #[]
  resolved := Array.replicate 7 none
  statics := none }

def pool5 : Array CpInfo := pool [(2, .class_ 4), (1, u "java/lang/Enum"), (0, u "name"), (0, u "Ljava/lang/String;"), (2, u "ordinal"), (0, u "I"), (1, .class_ 14), (1, u "java/lang/Object"), (4, u "hash"), (86, .class_ 108), (1, u "java/lang/Enum$EnumDesc"), (2, .class_ 112), (0, u "java/lang/constant/Constable"), (0, .class_ 114), (0, u "java/lang/Comparable"), (0, .class_ 116), (0, u "java/io/Serializable")] 87

/-- java/lang/Enum -/
def k5 : Class := { plain "java/lang/Enum" (some 0) with
  accessFlags := 1057
  interfaces := #[2, 3, 4]
  cf := some (fileOf pool5 2 #[.nestMembers #[106]] #[] 1057 12 #[111, 113, 115] #[{ accessFlags := 18, nameIndex := 5, descriptorIndex := 6, attributes := #[] }, { accessFlags := 18, nameIndex := 9, descriptorIndex := 10, attributes := #[] }, { accessFlags := 2, nameIndex := 19, descriptorIndex := 10, attributes := #[] }])
  fields := #[{ name := "name", type := (.object "java/lang/String"), accessFlags := 18, slot := 0, constantValue := 0 }, { name := "ordinal", type := .int, accessFlags := 18, slot := 1, constantValue := 0 }, { name := "hash", type := .int, accessFlags := 2, slot := 2, constantValue := 0 }]
  methods := #[]
  instanceTypes := #[(.object "java/lang/String"), .int, .int]
  staticTypes := #[]
  resolved := Array.replicate 204 none
  statics := none }

def pool6 : Array CpInfo := pool [(1, .class_ 2), (0, u "com/example/honeyguide/honeyguide/CoverCost"), (0, .fieldref 1 4), (0, .nameAndType 5 6), (0, u "SUM"), (0, u "Lcom/example/honeyguide/honeyguide/CoverCost;"), (0, .fieldref 1 8), (0, .nameAndType 9 6), (0, u "DIAMETER"), (2, u "$VALUES"), (0, u "[Lcom/example/honeyguide/honeyguide/CoverCost;"), (6, .class_ 22), (1, u "java/lang/Enum"), (14, .methodref 38 39), (0, .class_ 40), (0, .nameAndType 41 42), (0, u "com/example/honeyguide/honeyguide/ExactSum"), (0, u "of"), (0, u "([D)Lcom/example/honeyguide/honeyguide/ExactSum;"), (0, .methodref 44 45), (0, .class_ 46), (0, .nameAndType 47 48), (0, u "java/lang/Math"), (0, u "max"), (0, u "(DD)D"), (18, u "weighsDiameter"), (0, u "()Z"), (1, u "([DD)Lcom/example/honeyguide/honeyguide/ExactSum;")] 6

def k6c0 : Code := { maxStack := 2, maxLocals := 1, code := prog_8_method_5_code, exceptionTable := #[], attributes := #[] }
def k6m0 : Method := { name := "weighsDiameter", desc := "()Z", sig := { parameters := [], returnType := some .boolean }, accessFlags := 0, code := some k6c0 }
def k6c1 : Code := { maxStack := 5, maxLocals := 12, code := prog_8_method_6_code, exceptionTable := #[], attributes := #[] }
def k6m1 : Method := { name := "of", desc := "([DD)Lcom/example/honeyguide/honeyguide/ExactSum;", sig := { parameters := [(.array .double), .double], returnType := some (.object "com/example/honeyguide/honeyguide/ExactSum") }, accessFlags := 0, code := some k6c1 }
/-- com/example/honeyguide/honeyguide/CoverCost -/
def k6 : Class := { plain "com/example/honeyguide/honeyguide/CoverCost" (some 5) with
  accessFlags := 16432
  interfaces := #[]
  cf := some (fileOf pool6 1 #[] #[{ accessFlags := 0, nameIndex := 67, descriptorIndex := 68, attributes := #[] }, { accessFlags := 0, nameIndex := 41, descriptorIndex := 70, attributes := #[] }] 16432 20 #[] #[{ accessFlags := 16409, nameIndex := 5, descriptorIndex := 6, attributes := #[] }, { accessFlags := 16409, nameIndex := 9, descriptorIndex := 6, attributes := #[] }, { accessFlags := 4122, nameIndex := 12, descriptorIndex := 13, attributes := #[] }])
  fields := #[{ name := "SUM", type := (.object "com/example/honeyguide/honeyguide/CoverCost"), accessFlags := 16409, slot := 0, constantValue := 0 }, { name := "DIAMETER", type := (.object "com/example/honeyguide/honeyguide/CoverCost"), accessFlags := 16409, slot := 1, constantValue := 0 }, { name := "$VALUES", type := (.array (.object "com/example/honeyguide/honeyguide/CoverCost")), accessFlags := 4122, slot := 2, constantValue := 0 }]
  methods := #[k6m0, k6m1]
  instanceTypes := #[(.object "java/lang/String"), .int, .int]
  staticTypes := #[(.object "com/example/honeyguide/honeyguide/CoverCost"), (.object "com/example/honeyguide/honeyguide/CoverCost"), (.array (.object "com/example/honeyguide/honeyguide/CoverCost"))]
  resolved := Array.replicate 77 none
  statics := some 0 }

def pool7 : Array CpInfo := pool [(1, .methodref 2 3), (0, .class_ 4), (0, .nameAndType 5 6), (0, u "java/lang/Object"), (0, u "<init>"), (0, u "()V"), (0, .fieldref 8 9), (0, .class_ 10), (0, .nameAndType 11 12), (0, u "com/example/honeyguide/honeyguide/ExactSum"), (0, u "parts"), (0, u "[D"), (0, .fieldref 8 14), (0, .nameAndType 15 16), (0, u "value"), (0, u "D"), (0, .class_ 18), (0, u "java/lang/Double"), (0, .double 9221120237041090560), (1, .methodref 17 22), (0, .nameAndType 23 24), (0, u "isFinite"), (0, u "(D)Z"), (0, .fieldref 8 26), (0, .nameAndType 27 16), (0, u "error"), (0, .methodref 29 30), (0, .class_ 12), (0, .nameAndType 31 32), (0, u "clone"), (0, u "()Ljava/lang/Object;"), (0, .methodref 8 34), (0, .nameAndType 5 35), (0, u "([D)V"), (8, u "exact"), (0, u "Ljava/math/BigDecimal;"), (12, .methodref 8 59), (0, .nameAndType 60 61), (0, u "bound"), (0, u "()D"), (0, .methodref 17 63), (0, .nameAndType 64 24), (0, u "isNaN"), (0, .methodref 17 66), (0, .nameAndType 67 68), (0, u "compare"), (0, u "(DD)I"), (5, u "compareTo"), (1, .double 4382002437431492608), (3, u "(Lcom/example/honeyguide/honeyguide/ExactSum;)I"), (0, .class_ 82), (0, u "java/lang/Comparable"), (0, u "ROUNDING"), (4, u "of"), (0, u "([D)Lcom/example/honeyguide/honeyguide/ExactSum;")] 8

def k7c0 : Code := { maxStack := 6, maxLocals := 9, code := prog_11_method_1_code, exceptionTable := #[], attributes := #[] }
def k7m0 : Method := { name := "<init>", desc := "([D)V", sig := { parameters := [(.array .double)], returnType := none }, accessFlags := 2, code := some k7c0 }
def k7c1 : Code := { maxStack := 3, maxLocals := 1, code := prog_11_method_2_code, exceptionTable := #[], attributes := #[] }
def k7m1 : Method := { name := "of", desc := "([D)Lcom/example/honeyguide/honeyguide/ExactSum;", sig := { parameters := [(.array .double)], returnType := some (.object "com/example/honeyguide/honeyguide/ExactSum") }, accessFlags := 136, code := some k7c1 }
def k7c2 : Code := { maxStack := 4, maxLocals := 6, code := prog_11_method_6_code, exceptionTable := #[], attributes := #[] }
def k7m2 : Method := { name := "compareTo", desc := "(Lcom/example/honeyguide/honeyguide/ExactSum;)I", sig := { parameters := [(.object "com/example/honeyguide/honeyguide/ExactSum")], returnType := some .int }, accessFlags := 1, code := some k7c2 }
def k7c3 : Code := { maxStack := 4, maxLocals := 1, code := prog_11_method_7_code, exceptionTable := #[], attributes := #[] }
def k7m3 : Method := { name := "bound", desc := "()D", sig := { parameters := [], returnType := some .double }, accessFlags := 2, code := some k7c3 }
/-- com/example/honeyguide/honeyguide/ExactSum -/
def k7 : Class := { plain "com/example/honeyguide/honeyguide/ExactSum" (some 0) with
  accessFlags := 48
  interfaces := #[3]
  cf := some (fileOf pool7 8 #[] #[{ accessFlags := 2, nameIndex := 5, descriptorIndex := 35, attributes := #[] }, { accessFlags := 136, nameIndex := 88, descriptorIndex := 89, attributes := #[] }, { accessFlags := 1, nameIndex := 74, descriptorIndex := 80, attributes := #[] }, { accessFlags := 2, nameIndex := 60, descriptorIndex := 61, attributes := #[] }] 48 2 #[81] #[{ accessFlags := 26, nameIndex := 83, descriptorIndex := 16, attributes := #[] }, { accessFlags := 18, nameIndex := 11, descriptorIndex := 12, attributes := #[] }, { accessFlags := 18, nameIndex := 15, descriptorIndex := 16, attributes := #[] }, { accessFlags := 18, nameIndex := 27, descriptorIndex := 16, attributes := #[] }, { accessFlags := 2, nameIndex := 44, descriptorIndex := 45, attributes := #[] }])
  fields := #[{ name := "ROUNDING", type := .double, accessFlags := 26, slot := 0, constantValue := 0 }, { name := "parts", type := (.array .double), accessFlags := 18, slot := 0, constantValue := 0 }, { name := "value", type := .double, accessFlags := 18, slot := 1, constantValue := 0 }, { name := "error", type := .double, accessFlags := 18, slot := 2, constantValue := 0 }, { name := "exact", type := (.object "java/math/BigDecimal"), accessFlags := 2, slot := 3, constantValue := 0 }]
  methods := #[k7m0, k7m1, k7m2, k7m3]
  instanceTypes := #[(.array .double), .double, .double, (.object "java/math/BigDecimal")]
  staticTypes := #[.double]
  resolved := Array.replicate 98 none
  statics := none }

def pool8 : Array CpInfo := pool [(1, .class_ 2), (0, u "java/lang/Cloneable"), (0, .class_ 4), (0, u "java/lang/Object")] 2

/-- java/lang/Cloneable -/
def k8 : Class := { plain "java/lang/Cloneable" (some 0) with
  accessFlags := 1537
  interfaces := #[]
  cf := some (fileOf pool8 1 #[] #[] 1537 3 #[] #[])
  fields := #[]
  methods := #[]
  instanceTypes := #[]
  staticTypes := #[]
  resolved := Array.replicate 7 none
  statics := none }

def pool9 : Array CpInfo := pool [(2, .class_ 4), (1, u "java/lang/Object"), (0, u "<init>"), (0, u "()V"), (1, .class_ 10), (1, u "java/lang/Number"), (2, .class_ 14), (0, u "java/io/Serializable"), (0, u "serialVersionUID"), (0, u "J")] 20

def k9m0 : Method := { name := "<init>", desc := "()V", sig := { parameters := [], returnType := none }, accessFlags := 1, code := none }
/-- java/lang/Number -/
def k9 : Class := { plain "java/lang/Number" (some 0) with
  accessFlags := 1057
  interfaces := #[4]
  cf := some (fileOf pool9 8 #[] #[{ accessFlags := 1, nameIndex := 5, descriptorIndex := 6, attributes := #[] }] 1057 2 #[13] #[{ accessFlags := 26, nameIndex := 15, descriptorIndex := 16, attributes := #[] }])
  fields := #[{ name := "serialVersionUID", type := .long, accessFlags := 26, slot := 0, constantValue := 0 }]
  methods := #[k9m0]
  instanceTypes := #[]
  staticTypes := #[.long]
  resolved := Array.replicate 37 none
  statics := none }

def pool10 : Array CpInfo := pool [(1, .class_ 2), (0, u "java/lang/constant/ConstantDesc"), (0, .class_ 4), (0, u "java/lang/Object")] 32

/-- java/lang/constant/ConstantDesc -/
def k10 : Class := { plain "java/lang/constant/ConstantDesc" (some 0) with
  accessFlags := 1537
  interfaces := #[]
  cf := some (fileOf pool10 1 #[] #[] 1537 3 #[] #[])
  fields := #[]
  methods := #[]
  instanceTypes := #[]
  staticTypes := #[]
  resolved := Array.replicate 37 none
  statics := none }

def pool11 : Array CpInfo := pool [(1, .class_ 2), (0, u "java/lang/Double"), (10, u "isFinite"), (0, u "(D)Z"), (8, .class_ 25), (1, u "java/lang/Math"), (12, .methodref 23 39), (0, .nameAndType 40 41), (0, u "abs"), (0, u "(D)D"), (4, .methodref 1 47), (0, .nameAndType 48 49), (0, u "doubleToLongBits"), (0, u "(D)J"), (61, .double 9218868437227405311), (2, .class_ 116), (1, u "java/lang/Number"), (3, u "value"), (0, u "D"), (0, .methodref 1 123), (0, .nameAndType 124 14), (0, u "isNaN"), (9, .methodref 1 135), (0, .nameAndType 136 49), (0, u "doubleToRawLongBits"), (4, u "compare"), (0, u "(DD)I"), (30, u "TYPE"), (0, u "Ljava/lang/Class;"), (0, .class_ 176), (0, u "java/lang/Comparable"), (0, .class_ 178), (0, u "java/lang/constant/Constable"), (0, .class_ 180), (0, u "java/lang/constant/ConstantDesc"), (0, u "POSITIVE_INFINITY"), (3, u "NEGATIVE_INFINITY"), (2, u "NaN"), (2, u "MAX_VALUE"), (0, u "MIN_NORMAL"), (0, u "MIN_VALUE"), (2, u "SIZE"), (0, u "I"), (1, u "PRECISION"), (1, u "MAX_EXPONENT"), (1, u "MIN_EXPONENT"), (1, u "BYTES"), (3, u "serialVersionUID"), (0, u "J")] 79

def k11c0 : Code := { maxStack := 4, maxLocals := 2, code := jdk_117_method_6_code, exceptionTable := #[], attributes := #[] }
def k11m0 : Method := { name := "isNaN", desc := "(D)Z", sig := { parameters := [.double], returnType := some .boolean }, accessFlags := 9, code := some k11c0 }
def k11c1 : Code := { maxStack := 4, maxLocals := 2, code := jdk_117_method_8_code, exceptionTable := #[], attributes := #[] }
def k11m1 : Method := { name := "isFinite", desc := "(D)Z", sig := { parameters := [.double], returnType := some .boolean }, accessFlags := 9, code := some k11c1 }
def k11c2 : Code := { maxStack := 2, maxLocals := 2, code := jdk_117_method_23_code, exceptionTable := #[], attributes := #[] }
def k11m2 : Method := { name := "doubleToLongBits", desc := "(D)J", sig := { parameters := [.double], returnType := some .long }, accessFlags := 9, code := some k11c2 }
def k11m3 : Method := { name := "doubleToRawLongBits", desc := "(D)J", sig := { parameters := [.double], returnType := some .long }, accessFlags := 265, code := none }
def k11c4 : Code := { maxStack := 4, maxLocals := 8, code := jdk_117_method_27_code, exceptionTable := #[], attributes := #[] }
def k11m4 : Method := { name := "compare", desc := "(DD)I", sig := { parameters := [.double, .double], returnType := some .int }, accessFlags := 9, code := some k11c4 }
/-- java/lang/Double -/
def k11 : Class := { plain "java/lang/Double" (some 9) with
  accessFlags := 49
  interfaces := #[3, 2, 10]
  cf := some (fileOf pool11 1 #[] #[{ accessFlags := 9, nameIndex := 124, descriptorIndex := 14, attributes := #[] }, { accessFlags := 9, nameIndex := 13, descriptorIndex := 14, attributes := #[] }, { accessFlags := 9, nameIndex := 48, descriptorIndex := 49, attributes := #[] }, { accessFlags := 265, nameIndex := 136, descriptorIndex := 49, attributes := #[] }, { accessFlags := 9, nameIndex := 141, descriptorIndex := 142, attributes := #[] }] 49 114 #[175, 177, 179] #[{ accessFlags := 25, nameIndex := 181, descriptorIndex := 121, attributes := #[] }, { accessFlags := 25, nameIndex := 185, descriptorIndex := 121, attributes := #[] }, { accessFlags := 25, nameIndex := 188, descriptorIndex := 121, attributes := #[] }, { accessFlags := 25, nameIndex := 191, descriptorIndex := 121, attributes := #[] }, { accessFlags := 25, nameIndex := 192, descriptorIndex := 121, attributes := #[] }, { accessFlags := 25, nameIndex := 193, descriptorIndex := 121, attributes := #[] }, { accessFlags := 25, nameIndex := 196, descriptorIndex := 197, attributes := #[] }, { accessFlags := 25, nameIndex := 199, descriptorIndex := 197, attributes := #[] }, { accessFlags := 25, nameIndex := 201, descriptorIndex := 197, attributes := #[] }, { accessFlags := 25, nameIndex := 203, descriptorIndex := 197, attributes := #[] }, { accessFlags := 25, nameIndex := 205, descriptorIndex := 197, attributes := #[] }, { accessFlags := 25, nameIndex := 173, descriptorIndex := 174, attributes := #[] }, { accessFlags := 18, nameIndex := 120, descriptorIndex := 121, attributes := #[] }, { accessFlags := 26, nameIndex := 209, descriptorIndex := 210, attributes := #[] }])
  fields := #[{ name := "POSITIVE_INFINITY", type := .double, accessFlags := 25, slot := 0, constantValue := 0 }, { name := "NEGATIVE_INFINITY", type := .double, accessFlags := 25, slot := 1, constantValue := 0 }, { name := "NaN", type := .double, accessFlags := 25, slot := 2, constantValue := 0 }, { name := "MAX_VALUE", type := .double, accessFlags := 25, slot := 3, constantValue := 0 }, { name := "MIN_NORMAL", type := .double, accessFlags := 25, slot := 4, constantValue := 0 }, { name := "MIN_VALUE", type := .double, accessFlags := 25, slot := 5, constantValue := 0 }, { name := "SIZE", type := .int, accessFlags := 25, slot := 6, constantValue := 0 }, { name := "PRECISION", type := .int, accessFlags := 25, slot := 7, constantValue := 0 }, { name := "MAX_EXPONENT", type := .int, accessFlags := 25, slot := 8, constantValue := 0 }, { name := "MIN_EXPONENT", type := .int, accessFlags := 25, slot := 9, constantValue := 0 }, { name := "BYTES", type := .int, accessFlags := 25, slot := 10, constantValue := 0 }, { name := "TYPE", type := (.object "java/lang/Class"), accessFlags := 25, slot := 11, constantValue := 0 }, { name := "value", type := .double, accessFlags := 18, slot := 0, constantValue := 0 }, { name := "serialVersionUID", type := .long, accessFlags := 26, slot := 12, constantValue := 0 }]
  methods := #[k11m0, k11m1, k11m2, k11m3, k11m4]
  instanceTypes := #[.double]
  staticTypes := #[.double, .double, .double, .double, .double, .double, .int, .int, .int, .int, .int, (.object "java/lang/Class"), .long]
  resolved := Array.replicate 290 none
  statics := none }

def pool12 : Array CpInfo := pool [(1, .class_ 2), (0, u "java/lang/Math"), (1, .class_ 6), (1, u "java/lang/Object"), (0, u "<init>"), (0, u "()V"), (5, u "(D)D"), (37, u "(DD)D"), (45, .class_ 100), (1, u "java/lang/Math$RandomNumberGeneratorHolder"), (23, u "abs"), (47, u "negativeZeroFloatBits"), (0, u "J"), (2, u "negativeZeroDoubleBits"), (21, u "max"), (46, u "$assertionsDisabled"), (0, u "Z"), (91, u "twoToTheDoubleScaleDown"), (0, u "D"), (4, u "twoToTheDoubleScaleUp"), (9, u "E"), (3, u "PI"), (2, u "TAU"), (2, u "DEGREES_TO_RADIANS"), (0, u "RADIANS_TO_DEGREES")] 94

def k12m0 : Method := { name := "<init>", desc := "()V", sig := { parameters := [], returnType := none }, accessFlags := 2, code := none }
def k12c1 : Code := { maxStack := 4, maxLocals := 2, code := jdk_29_method_64_code, exceptionTable := #[], attributes := #[] }
def k12m1 : Method := { name := "abs", desc := "(D)D", sig := { parameters := [.double], returnType := some .double }, accessFlags := 9, code := some k12c1 }
def k12c2 : Code := { maxStack := 4, maxLocals := 4, code := jdk_29_method_68_code, exceptionTable := #[], attributes := #[] }
def k12m2 : Method := { name := "max", desc := "(DD)D", sig := { parameters := [.double, .double], returnType := some .double }, accessFlags := 9, code := some k12c2 }
/-- java/lang/Math -/
def k12 : Class := { plain "java/lang/Math" (some 0) with
  accessFlags := 49
  interfaces := #[]
  cf := some (fileOf pool12 1 #[.nestMembers #[98]] #[{ accessFlags := 2, nameIndex := 7, descriptorIndex := 8, attributes := #[] }, { accessFlags := 9, nameIndex := 124, descriptorIndex := 14, attributes := #[] }, { accessFlags := 9, nameIndex := 198, descriptorIndex := 52, attributes := #[] }] 49 4 #[] #[{ accessFlags := 25, nameIndex := 354, descriptorIndex := 339, attributes := #[] }, { accessFlags := 25, nameIndex := 358, descriptorIndex := 339, attributes := #[] }, { accessFlags := 25, nameIndex := 361, descriptorIndex := 339, attributes := #[] }, { accessFlags := 26, nameIndex := 364, descriptorIndex := 339, attributes := #[] }, { accessFlags := 26, nameIndex := 365, descriptorIndex := 339, attributes := #[] }, { accessFlags := 26, nameIndex := 172, descriptorIndex := 173, attributes := #[] }, { accessFlags := 26, nameIndex := 176, descriptorIndex := 173, attributes := #[] }, { accessFlags := 8, nameIndex := 344, descriptorIndex := 339, attributes := #[] }, { accessFlags := 8, nameIndex := 338, descriptorIndex := 339, attributes := #[] }, { accessFlags := 4120, nameIndex := 245, descriptorIndex := 246, attributes := #[] }])
  fields := #[{ name := "E", type := .double, accessFlags := 25, slot := 0, constantValue := 0 }, { name := "PI", type := .double, accessFlags := 25, slot := 1, constantValue := 0 }, { name := "TAU", type := .double, accessFlags := 25, slot := 2, constantValue := 0 }, { name := "DEGREES_TO_RADIANS", type := .double, accessFlags := 26, slot := 3, constantValue := 0 }, { name := "RADIANS_TO_DEGREES", type := .double, accessFlags := 26, slot := 4, constantValue := 0 }, { name := "negativeZeroFloatBits", type := .long, accessFlags := 26, slot := 5, constantValue := 0 }, { name := "negativeZeroDoubleBits", type := .long, accessFlags := 26, slot := 6, constantValue := 0 }, { name := "twoToTheDoubleScaleUp", type := .double, accessFlags := 8, slot := 7, constantValue := 0 }, { name := "twoToTheDoubleScaleDown", type := .double, accessFlags := 8, slot := 8, constantValue := 0 }, { name := "$assertionsDisabled", type := .boolean, accessFlags := 4120, slot := 9, constantValue := 0 }]
  methods := #[k12m0, k12m1, k12m2]
  instanceTypes := #[]
  staticTypes := #[.double, .double, .double, .double, .double, .long, .long, .double, .double, .boolean]
  resolved := Array.replicate 460 none
  statics := none }

/-- the primitive byte -/
def k13 : Class := { plain "byte" none with kind := .primitive 'B', accessFlags := 0x411 }
/-- [B -/
def k14 : Class := { plain "[B" (some 0) with kind := .array 13 .byte, interfaces := #[8, 4], accessFlags := 1041 }

/-- the primitive double -/
def k15 : Class := { plain "double" none with kind := .primitive 'D', accessFlags := 0x411 }
/-- [D -/
def k16 : Class := { plain "[D" (some 0) with kind := .array 15 .double, interfaces := #[8, 4], accessFlags := 1041 }

/-- the primitive int -/
def k17 : Class := { plain "int" none with kind := .primitive 'I', accessFlags := 0x411 }
/-- [I -/
def k18 : Class := { plain "[I" (some 0) with kind := .array 17 .int, interfaces := #[8, 4], accessFlags := 1041 }

def heap : Heap := #[{ cls := 6, slots := #[.ref 1, .ref 2, .null], vm := .statics 6 },
  { cls := 6, slots := #[.null, .int 0, .int 0], vm := .none },
  { cls := 6, slots := #[.null, .int 1, .int 0], vm := .none }]
def classes : Array Class := #[k0, k1, k2, k3, k4, k5, k6, k7, k8, k9, k10, k11, k12, k13, k14, k15, k16, k17, k18]
def interned : List (Array UInt16 × Addr) := []
def slotsUsed : Nat := 9
def theMethod : MethodId := ⟨1, 1⟩
def args0 : Array Value := #[.int 1, .int 2, .int 3, .int 4, .int 5]
def aboutOver (below : List Frame) : State where
  vm := { classes := classes, interned := interned.toArray }
  heap := heap
  slotsUsed := slotsUsed
  threads := #[{ frames := .invoking theMethod args0 :: below }]
def below0 : List Frame := [.native { method := ⟨0, 0⟩, args := #[] }]
def about1 : State := aboutOver below0
def p0 : Program := .bare "" "" ""
def e0 : Env := launch0.env 0 0 0
theorem w_frames : about1.frames = Frame.invoking theMethod args0 :: below0 := rfl
set_option maxRecDepth 65536 in
theorem w_args : argsFit about1.vm theMethod args0 = true := by decide +kernel
set_option maxRecDepth 65536 in
theorem w_heap : heapFits about1 = true := by decide +kernel
set_option maxRecDepth 65536 in
theorem w_runnable : about1.curStatus? = some .runnable := by decide +kernel
set_option maxRecDepth 65536 in
theorem w_alone : about1.alone = true := by decide +kernel
set_option maxRecDepth 65536 in
theorem w_named : about1.methodNamed? x = some theMethod := by decide +kernel
set_option maxRecDepth 65536 in
theorem w_hears : about1.hears theMethod below0 = true := by decide +kernel
set_option maxRecDepth 65536 in
theorem w_ripe : about1.ripe theMethod args0 below0 = true := by decide +kernel
theorem w_running : about1.status = .running := rfl
set_option maxRecDepth 65536 in
theorem w_room : about1.hasRoom e0.platform room_1 = true :=
  launch0.hasRoom_least _ room_1 (by decide +kernel) (by decide +kernel) (by decide +kernel) (by decide +kernel) (by decide +kernel) (by decide +kernel)
theorem allAtoms_all (ts : List Jvm.Cond) (a : Array Jvm.Value) (st : Jvm.State) : (allAtoms ts).before a st = ts.all (fun c => c.before a st) := by
  induction ts with
  | nil => rfl
  | cons c t ih =>
    show (Jvm.Cond.and c (allAtoms t)).before a st = _
    rw [Jvm.Cond.before_and, ih, List.all_cons]
def words1 : List Jvm.Cond := Jvm.Cond.code x code maxLocals ret :: tables_1
/-- a 'code' word, met by the world's own term for the bytes: nothing is compared byte by byte -/
theorem code_word {y : MethodName} {bytes : ByteArray} {mx : Nat} {rt : Option FieldType} {a : Array Value} {s : State} {m : MethodId} {meth : Method} {c : Code} (h1 : s.methodNamed? y = some m) (h2 : s.vm.method? m = some meth) (h3 : meth.code = some c) (h4 : c.code = bytes)
    (h5 : (c.maxLocals == mx && c.exceptionTable.isEmpty && decide (c.maxStack ≤ mostOperands) && decide (meth.sig.returnType = rt) && !meth.locks && decide (parseMethodDescriptor y.desc = some meth.sig)) = true) : (Jvm.Cond.code y bytes mx rt).before a s = true := by
  simp only [Bool.and_eq_true, beq_iff_eq, Bool.not_eq_true', decide_eq_true_eq] at h5
  obtain ⟨⟨⟨⟨⟨g1, g2⟩, g3⟩, g4⟩, g5⟩, g6⟩ := h5
  simp [Cond.before, Cond.holds, Cond.value, h1, h2, h3, h4, g1, g2, g3, g4, g5, g6]
def isCode : Jvm.Cond → Bool
  | .code _ _ _ _ => true
  | _ => false
theorem all_split {L : List Jvm.Cond} {P : Jvm.Cond → Bool} (h1 : L.all (fun c => isCode c || P c) = true) (h2 : ∀ c ∈ L.filter isCode, P c = true) : L.all P = true := by
  refine List.all_eq_true.mpr fun c hc => ?_
  have h := List.all_eq_true.mp h1 c hc
  rcases Bool.eq_false_or_eq_true (isCode c) with hi | hi
  · exact h2 c (List.mem_filter.mpr ⟨hc, hi⟩)
  · simpa [hi] using h
set_option maxRecDepth 65536 in
theorem w_c0 : (Jvm.Cond.code x code maxLocals ret).before args0 about1 = true := code_word (m := ⟨1, 1⟩) (meth := k1m1) (c := k1c1) (by decide +kernel) rfl rfl rfl (by decide +kernel)
set_option maxRecDepth 65536 in
theorem w_c1 : (Jvm.Cond.code ({ cls := "com/example/honeyguide/honeyguide/CoverCost", name := "of", desc := "([DD)Lcom/example/honeyguide/honeyguide/ExactSum;" } : Jvm.MethodName) prog_8_method_6_code (12 : Nat) (Option.some (Jvm.ClassFile.FieldType.object "com/example/honeyguide/honeyguide/ExactSum"))).before args0 about1 = true := code_word (m := ⟨6, 1⟩) (meth := k6m1) (c := k6c1) (by decide +kernel) rfl rfl rfl (by decide +kernel)
set_option maxRecDepth 65536 in
theorem w_c2 : (Jvm.Cond.code ({ cls := "com/example/honeyguide/honeyguide/ExactSum", name := "of", desc := "([D)Lcom/example/honeyguide/honeyguide/ExactSum;" } : Jvm.MethodName) prog_11_method_2_code (1 : Nat) (Option.some (Jvm.ClassFile.FieldType.object "com/example/honeyguide/honeyguide/ExactSum"))).before args0 about1 = true := code_word (m := ⟨7, 1⟩) (meth := k7m1) (c := k7c1) (by decide +kernel) rfl rfl rfl (by decide +kernel)
set_option maxRecDepth 65536 in
theorem w_c3 : (Jvm.Cond.code ({ cls := "com/example/honeyguide/honeyguide/ExactSum", name := "<init>", desc := "([D)V" } : Jvm.MethodName) prog_11_method_1_code (9 : Nat) (Option.none : Option Jvm.ClassFile.FieldType)).before args0 about1 = true := code_word (m := ⟨7, 0⟩) (meth := k7m0) (c := k7c0) (by decide +kernel) rfl rfl rfl (by decide +kernel)
set_option maxRecDepth 65536 in
theorem w_c4 : (Jvm.Cond.code ({ cls := "java/lang/Object", name := "<init>", desc := "()V" } : Jvm.MethodName) object_method_1_code (1 : Nat) (Option.none : Option Jvm.ClassFile.FieldType)).before args0 about1 = true := code_word (m := ⟨0, 0⟩) (meth := k0m0) (c := k0c0) (by decide +kernel) rfl rfl rfl (by decide +kernel)
set_option maxRecDepth 65536 in
theorem w_c5 : (Jvm.Cond.code ({ cls := "java/lang/Double", name := "isFinite", desc := "(D)Z" } : Jvm.MethodName) jdk_117_method_8_code (2 : Nat) (Option.some Jvm.ClassFile.FieldType.boolean)).before args0 about1 = true := code_word (m := ⟨11, 1⟩) (meth := k11m1) (c := k11c1) (by decide +kernel) rfl rfl rfl (by decide +kernel)
set_option maxRecDepth 65536 in
theorem w_c6 : (Jvm.Cond.code ({ cls := "java/lang/Math", name := "abs", desc := "(D)D" } : Jvm.MethodName) jdk_29_method_64_code (2 : Nat) (Option.some Jvm.ClassFile.FieldType.double)).before args0 about1 = true := code_word (m := ⟨12, 1⟩) (meth := k12m1) (c := k12c1) (by decide +kernel) rfl rfl rfl (by decide +kernel)
set_option maxRecDepth 65536 in
theorem w_c7 : (Jvm.Cond.code ({ cls := "com/example/honeyguide/honeyguide/ExactSum", name := "compareTo", desc := "(Lcom/example/honeyguide/honeyguide/ExactSum;)I" } : Jvm.MethodName) prog_11_method_6_code (6 : Nat) (Option.some Jvm.ClassFile.FieldType.int)).before args0 about1 = true := code_word (m := ⟨7, 2⟩) (meth := k7m2) (c := k7c2) (by decide +kernel) rfl rfl rfl (by decide +kernel)
set_option maxRecDepth 65536 in
theorem w_c8 : (Jvm.Cond.code ({ cls := "com/example/honeyguide/honeyguide/ExactSum", name := "bound", desc := "()D" } : Jvm.MethodName) prog_11_method_7_code (1 : Nat) (Option.some Jvm.ClassFile.FieldType.double)).before args0 about1 = true := code_word (m := ⟨7, 3⟩) (meth := k7m3) (c := k7c3) (by decide +kernel) rfl rfl rfl (by decide +kernel)
set_option maxRecDepth 65536 in
theorem w_c9 : (Jvm.Cond.code ({ cls := "java/lang/Double", name := "isNaN", desc := "(D)Z" } : Jvm.MethodName) jdk_117_method_6_code (2 : Nat) (Option.some Jvm.ClassFile.FieldType.boolean)).before args0 about1 = true := code_word (m := ⟨11, 0⟩) (meth := k11m0) (c := k11c0) (by decide +kernel) rfl rfl rfl (by decide +kernel)
set_option maxRecDepth 65536 in
theorem w_c10 : (Jvm.Cond.code ({ cls := "java/lang/Double", name := "compare", desc := "(DD)I" } : Jvm.MethodName) jdk_117_method_27_code (8 : Nat) (Option.some Jvm.ClassFile.FieldType.int)).before args0 about1 = true := code_word (m := ⟨11, 4⟩) (meth := k11m4) (c := k11c4) (by decide +kernel) rfl rfl rfl (by decide +kernel)
set_option maxRecDepth 65536 in
theorem w_c11 : (Jvm.Cond.code ({ cls := "java/lang/Double", name := "doubleToLongBits", desc := "(D)J" } : Jvm.MethodName) jdk_117_method_23_code (2 : Nat) (Option.some Jvm.ClassFile.FieldType.long)).before args0 about1 = true := code_word (m := ⟨11, 2⟩) (meth := k11m2) (c := k11c2) (by decide +kernel) rfl rfl rfl (by decide +kernel)
set_option maxRecDepth 65536 in
theorem w_c12 : (Jvm.Cond.code ({ cls := "com/example/honeyguide/honeyguide/CoverCost", name := "weighsDiameter", desc := "()Z" } : Jvm.MethodName) prog_8_method_5_code (1 : Nat) (Option.some Jvm.ClassFile.FieldType.boolean)).before args0 about1 = true := code_word (m := ⟨6, 0⟩) (meth := k6m0) (c := k6c0) (by decide +kernel) rfl rfl rfl (by decide +kernel)
set_option maxRecDepth 65536 in
theorem w_c13 : (Jvm.Cond.code ({ cls := "java/lang/Math", name := "max", desc := "(DD)D" } : Jvm.MethodName) jdk_29_method_68_code (4 : Nat) (Option.some Jvm.ClassFile.FieldType.double)).before args0 about1 = true := code_word (m := ⟨12, 2⟩) (meth := k12m2) (c := k12c2) (by decide +kernel) rfl rfl rfl (by decide +kernel)
def codes1 : List Jvm.Cond := [Jvm.Cond.code x code maxLocals ret, Jvm.Cond.code ({ cls := "com/example/honeyguide/honeyguide/CoverCost", name := "of", desc := "([DD)Lcom/example/honeyguide/honeyguide/ExactSum;" } : Jvm.MethodName) prog_8_method_6_code (12 : Nat) (Option.some (Jvm.ClassFile.FieldType.object "com/example/honeyguide/honeyguide/ExactSum")), Jvm.Cond.code ({ cls := "com/example/honeyguide/honeyguide/ExactSum", name := "of", desc := "([D)Lcom/example/honeyguide/honeyguide/ExactSum;" } : Jvm.MethodName) prog_11_method_2_code (1 : Nat) (Option.some (Jvm.ClassFile.FieldType.object "com/example/honeyguide/honeyguide/ExactSum")), Jvm.Cond.code ({ cls := "com/example/honeyguide/honeyguide/ExactSum", name := "<init>", desc := "([D)V" } : Jvm.MethodName) prog_11_method_1_code (9 : Nat) (Option.none : Option Jvm.ClassFile.FieldType), Jvm.Cond.code ({ cls := "java/lang/Object", name := "<init>", desc := "()V" } : Jvm.MethodName) object_method_1_code (1 : Nat) (Option.none : Option Jvm.ClassFile.FieldType), Jvm.Cond.code ({ cls := "java/lang/Double", name := "isFinite", desc := "(D)Z" } : Jvm.MethodName) jdk_117_method_8_code (2 : Nat) (Option.some Jvm.ClassFile.FieldType.boolean), Jvm.Cond.code ({ cls := "java/lang/Math", name := "abs", desc := "(D)D" } : Jvm.MethodName) jdk_29_method_64_code (2 : Nat) (Option.some Jvm.ClassFile.FieldType.double), Jvm.Cond.code ({ cls := "com/example/honeyguide/honeyguide/ExactSum", name := "compareTo", desc := "(Lcom/example/honeyguide/honeyguide/ExactSum;)I" } : Jvm.MethodName) prog_11_method_6_code (6 : Nat) (Option.some Jvm.ClassFile.FieldType.int), Jvm.Cond.code ({ cls := "com/example/honeyguide/honeyguide/ExactSum", name := "bound", desc := "()D" } : Jvm.MethodName) prog_11_method_7_code (1 : Nat) (Option.some Jvm.ClassFile.FieldType.double), Jvm.Cond.code ({ cls := "java/lang/Double", name := "isNaN", desc := "(D)Z" } : Jvm.MethodName) jdk_117_method_6_code (2 : Nat) (Option.some Jvm.ClassFile.FieldType.boolean), Jvm.Cond.code ({ cls := "java/lang/Double", name := "compare", desc := "(DD)I" } : Jvm.MethodName) jdk_117_method_27_code (8 : Nat) (Option.some Jvm.ClassFile.FieldType.int), Jvm.Cond.code ({ cls := "java/lang/Double", name := "doubleToLongBits", desc := "(D)J" } : Jvm.MethodName) jdk_117_method_23_code (2 : Nat) (Option.some Jvm.ClassFile.FieldType.long), Jvm.Cond.code ({ cls := "com/example/honeyguide/honeyguide/CoverCost", name := "weighsDiameter", desc := "()Z" } : Jvm.MethodName) prog_8_method_5_code (1 : Nat) (Option.some Jvm.ClassFile.FieldType.boolean), Jvm.Cond.code ({ cls := "java/lang/Math", name := "max", desc := "(DD)D" } : Jvm.MethodName) jdk_29_method_68_code (4 : Nat) (Option.some Jvm.ClassFile.FieldType.double)]
set_option maxRecDepth 65536 in
theorem codes_eq : words1.filter isCode = codes1 := rfl
theorem w_codes : ∀ c ∈ words1.filter isCode, c.before args0 about1 = true := by
  rw [codes_eq]
  intro c hc
  simp only [codes1, List.mem_cons, List.not_mem_nil, or_false] at hc
  rcases hc with rfl | rfl | rfl | rfl | rfl | rfl | rfl | rfl | rfl | rfl | rfl | rfl | rfl | rfl
  · exact w_c0
  · exact w_c1
  · exact w_c2
  · exact w_c3
  · exact w_c4
  · exact w_c5
  · exact w_c6
  · exact w_c7
  · exact w_c8
  · exact w_c9
  · exact w_c10
  · exact w_c11
  · exact w_c12
  · exact w_c13
set_option maxRecDepth 65536 in
theorem w_t1 : (words1.take 24).all (fun c => isCode c || c.before args0 about1) = true := by decide +kernel
set_option maxRecDepth 65536 in
theorem w_t2 : ((words1.drop 24).take 24).all (fun c => isCode c || c.before args0 about1) = true := by decide +kernel
set_option maxRecDepth 65536 in
theorem w_t3 : (((words1.drop 24).drop 24).take 24).all (fun c => isCode c || c.before args0 about1) = true := by decide +kernel
set_option maxRecDepth 65536 in
theorem w_t4 : (((words1.drop 24).drop 24).drop 24).all (fun c => isCode c || c.before args0 about1) = true := by decide +kernel
theorem w_tables : (allAtoms (Jvm.Cond.code x code maxLocals ret :: tables_1)).before args0 about1 = true := by
  rw [allAtoms_all]
  show words1.all (fun c => c.before args0 about1) = true
  refine all_split ?_ w_codes
  rw [← List.take_append_drop 24 words1, List.all_append, w_t1, ← List.take_append_drop 24 (words1.drop 24), List.all_append, w_t2, ← List.take_append_drop 24 ((words1.drop 24).drop 24), List.all_append, w_t3, w_t4]
  rfl
set_option maxRecDepth 65536 in
theorem w_case : (Jvm.Cond.and given_1 narrow_1).before args0 about1 = true := by decide +kernel
theorem w_applies : (headSpec (Jvm.Cond.code x code maxLocals ret :: tables_1) room_1).applies x e0.platform about1 = true :=
  (Spec.applies_iff w_frames).mpr ⟨w_running, w_runnable, w_alone, w_named, w_hears, w_ripe, w_room, w_tables⟩
theorem atStart : AtStart classFile x code maxLocals ret World_1 tables_1 room_1 Calls_1 rest_1 Pre_1 launch0 p0 e0 about1 theMethod args0 below0 :=
  ⟨lists_1, trivial, launch0.admits_env _ _ _, launch0.least_env, fairChoices_fair.cas, fairChoices_fair.clock, w_frames, w_args, w_heap, w_applies, trivial, trivial, w_case⟩
end start1
theorem witness_1 : WitnessClaimed_1 := ⟨start1.p0, start1.e0, start1.about1, start1.theMethod, start1.args0, start1.below0, start1.atStart⟩
end Jvm.Pilot.@@N@@
