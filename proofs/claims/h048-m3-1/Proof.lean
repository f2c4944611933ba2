import JvmDerived
import JvmDerived.Pilot.@@N@@Statement
import JvmDerived.Pilot.@@N@@Code
set_option linter.unusedVariables false
set_option linter.unusedSimpArgs false
namespace Jvm.RoadKit
open Sem ClassFile Op Lib Jvm.Stand Jvm.Free Jvm.LawKit
section New
variable {p : Program} {l : Launch} {e : Env} {R : Room} {s : State} {m : MethodId} {args : Array Value} {below : List Frame} {meth : Method} {c : Code} {T : State} {locs : List Loc} {cells slots : Nat}
theorem retI (X : Stand p l e R s m args below meth c T locs cells slots) (hx : p.tables.exec = Jvm.exec) {pc : Nat} {Ls : Array Slot} {z : Int32} {rest : List Value} (hret : meth.sig.returnType = some .int) (hd : decode c.code pc = .ok (.ireturn, 1)) {fs : List Frame}
    (hl : ∀ (f : JFrame) (acts : List Action), f.method = m → f.locked = none → f.entered = [] → (doReturn e (T.setTop f) acts (some (.int z))).1 = T.setFrames fs) : Steps p.tables e below (T.setTop (mkF m pc Ls (.int z :: rest))) (T.setFrames fs) := by
  have hm' : T.vm.method? m = some meth := X.method'
  have hn : narrow .int (.int z) = .int z := rfl
  show Steps p.tables e below (T.setTop { method := m, pc := pc, locals := Ls, stack := _ :: rest, locked := none }) _
  jvm_step X.here [X.here.top, hx, hd, hm', hret, hn]
  first | (intro acts; rw [hl _ acts rfl rfl rfl]) | rw [hl _ _ rfl rfl rfl]
  exact Steps.refl _
theorem retD (X : Stand p l e R s m args below meth c T locs cells slots) (hx : p.tables.exec = Jvm.exec) {pc : Nat} {Ls : Array Slot} {z : UInt64} {rest : List Value} (hret : meth.sig.returnType = some .double) (hd : decode c.code pc = .ok (.dreturn, 1)) {fs : List Frame}
    (hl : ∀ (f : JFrame) (acts : List Action), f.method = m → f.locked = none → f.entered = [] → (doReturn e (T.setTop f) acts (some (.double z))).1 = T.setFrames fs) : Steps p.tables e below (T.setTop (mkF m pc Ls (.double z :: rest))) (T.setFrames fs) := by
  have hm' : T.vm.method? m = some meth := X.method'
  show Steps p.tables e below (T.setTop { method := m, pc := pc, locals := Ls, stack := _ :: rest, locked := none }) _
  jvm_step X.here [X.here.top, hx, hd, hm', hret]
  first | (intro acts; rw [hl _ acts rfl rfl rfl]) | rw [hl _ _ rfl rfl rfl]
  exact Steps.refl _
end New
end Jvm.RoadKit
namespace Jvm.Pilot.@@N@@
open Jvm
section OwnSteps
open Jvm Jvm.ClassFile Sem Op Lib Jvm.Free Jvm.Stand
open Jvm.RoadKit (lcmpW)
theorem own_f_iload {tb : Tables} [Ours tb] {e : Env} {below : List Frame} {T target : State} {m : MethodId} {c : Code} {Ls : Array Slot} {S : List Value} {pc pc' : Nat} {k : Nat} {v : Int32} (h : At T m c below) (hx : tb.exec = Jvm.exec) (hd : decode c.code pc = .ok (.iload k, 2)) (hl : Ls[k]? = some (.val (.int v))) (hp : pc + 2 = pc') (hr : Steps tb e below (T.setTop (mkF m pc' Ls (.int v :: S))) target) : Steps tb e below (T.setTop (mkF m pc Ls (S))) target := by subst hp; exact XS.iload h hx rfl hd hl hr
theorem own_f_iloadN {tb : Tables} [Ours tb] {e : Env} {below : List Frame} {T target : State} {m : MethodId} {c : Code} {Ls : Array Slot} {S : List Value} {pc pc' : Nat} {k : Fin 4} {v : Int32} (h : At T m c below) (hx : tb.exec = Jvm.exec) (hd : decode c.code pc = .ok (.iload_n k, 1)) (hl : Ls[k.val]? = some (.val (.int v))) (hp : pc + 1 = pc') (hr : Steps tb e below (T.setTop (mkF m pc' Ls (.int v :: S))) target) : Steps tb e below (T.setTop (mkF m pc Ls (S))) target := by subst hp; exact XS.iloadN h hx rfl hd hl hr
theorem own_f_istore {tb : Tables} [Ours tb] {e : Env} {below : List Frame} {T target : State} {m : MethodId} {c : Code} {Ls : Array Slot} {S : List Value} {pc pc' : Nat} {k : Nat} {v : Int32} {Ls' : Array Slot} (h : At T m c below) (hx : tb.exec = Jvm.exec) (hd : decode c.code pc = .ok (.istore k, 2)) (hl : storeLocals Ls k (.int v) = some Ls') (hp : pc + 2 = pc') (hr : Steps tb e below (T.setTop (mkF m pc' Ls' (S))) target) : Steps tb e below (T.setTop (mkF m pc Ls (.int v :: S))) target := by subst hp; exact XS.istore h hx rfl hd rfl hl hr
theorem own_f_istoreN {tb : Tables} [Ours tb] {e : Env} {below : List Frame} {T target : State} {m : MethodId} {c : Code} {Ls : Array Slot} {S : List Value} {pc pc' : Nat} {k : Fin 4} {v : Int32} {Ls' : Array Slot} (h : At T m c below) (hx : tb.exec = Jvm.exec) (hd : decode c.code pc = .ok (.istore_n k, 1)) (hl : storeLocals Ls k.val (.int v) = some Ls') (hp : pc + 1 = pc') (hr : Steps tb e below (T.setTop (mkF m pc' Ls' (S))) target) : Steps tb e below (T.setTop (mkF m pc Ls (.int v :: S))) target := by subst hp; exact XS.istoreN h hx rfl hd rfl hl hr
theorem own_f_lload {tb : Tables} [Ours tb] {e : Env} {below : List Frame} {T target : State} {m : MethodId} {c : Code} {Ls : Array Slot} {S : List Value} {pc pc' : Nat} {k : Nat} {v : Int64} (h : At T m c below) (hx : tb.exec = Jvm.exec) (hd : decode c.code pc = .ok (.lload k, 2)) (hl : Ls[k]? = some (.val (.long v))) (hp : pc + 2 = pc') (hr : Steps tb e below (T.setTop (mkF m pc' Ls (.long v :: S))) target) : Steps tb e below (T.setTop (mkF m pc Ls (S))) target := by subst hp; exact XS.lload h hx rfl hd hl hr
theorem own_f_lloadN {tb : Tables} [Ours tb] {e : Env} {below : List Frame} {T target : State} {m : MethodId} {c : Code} {Ls : Array Slot} {S : List Value} {pc pc' : Nat} {k : Fin 4} {v : Int64} (h : At T m c below) (hx : tb.exec = Jvm.exec) (hd : decode c.code pc = .ok (.lload_n k, 1)) (hl : Ls[k.val]? = some (.val (.long v))) (hp : pc + 1 = pc') (hr : Steps tb e below (T.setTop (mkF m pc' Ls (.long v :: S))) target) : Steps tb e below (T.setTop (mkF m pc Ls (S))) target := by subst hp; exact XS.lloadN h hx rfl hd hl hr
theorem own_f_lstore {tb : Tables} [Ours tb] {e : Env} {below : List Frame} {T target : State} {m : MethodId} {c : Code} {Ls : Array Slot} {S : List Value} {pc pc' : Nat} {k : Nat} {v : Int64} {Ls' : Array Slot} (h : At T m c below) (hx : tb.exec = Jvm.exec) (hd : decode c.code pc = .ok (.lstore k, 2)) (hl : storeLocals Ls k (.long v) = some Ls') (hp : pc + 2 = pc') (hr : Steps tb e below (T.setTop (mkF m pc' Ls' (S))) target) : Steps tb e below (T.setTop (mkF m pc Ls (.long v :: S))) target := by subst hp; exact XS.lstore h hx rfl hd rfl hl hr
theorem own_f_lstoreN {tb : Tables} [Ours tb] {e : Env} {below : List Frame} {T target : State} {m : MethodId} {c : Code} {Ls : Array Slot} {S : List Value} {pc pc' : Nat} {k : Fin 4} {v : Int64} {Ls' : Array Slot} (h : At T m c below) (hx : tb.exec = Jvm.exec) (hd : decode c.code pc = .ok (.lstore_n k, 1)) (hl : storeLocals Ls k.val (.long v) = some Ls') (hp : pc + 1 = pc') (hr : Steps tb e below (T.setTop (mkF m pc' Ls' (S))) target) : Steps tb e below (T.setTop (mkF m pc Ls (.long v :: S))) target := by subst hp; exact XS.lstoreN h hx rfl hd rfl hl hr
theorem own_f_dload {tb : Tables} [Ours tb] {e : Env} {below : List Frame} {T target : State} {m : MethodId} {c : Code} {Ls : Array Slot} {S : List Value} {pc pc' : Nat} {k : Nat} {v : UInt64} (h : At T m c below) (hx : tb.exec = Jvm.exec) (hd : decode c.code pc = .ok (.dload k, 2)) (hl : Ls[k]? = some (.val (.double v))) (hp : pc + 2 = pc') (hr : Steps tb e below (T.setTop (mkF m pc' Ls (.double v :: S))) target) : Steps tb e below (T.setTop (mkF m pc Ls (S))) target := by subst hp; exact XS.dload h hx rfl hd hl hr
theorem own_f_dloadN {tb : Tables} [Ours tb] {e : Env} {below : List Frame} {T target : State} {m : MethodId} {c : Code} {Ls : Array Slot} {S : List Value} {pc pc' : Nat} {k : Fin 4} {v : UInt64} (h : At T m c below) (hx : tb.exec = Jvm.exec) (hd : decode c.code pc = .ok (.dload_n k, 1)) (hl : Ls[k.val]? = some (.val (.double v))) (hp : pc + 1 = pc') (hr : Steps tb e below (T.setTop (mkF m pc' Ls (.double v :: S))) target) : Steps tb e below (T.setTop (mkF m pc Ls (S))) target := by subst hp; exact XS.dloadN h hx rfl hd hl hr
theorem own_f_dstore {tb : Tables} [Ours tb] {e : Env} {below : List Frame} {T target : State} {m : MethodId} {c : Code} {Ls : Array Slot} {S : List Value} {pc pc' : Nat} {k : Nat} {v : UInt64} {Ls' : Array Slot} (h : At T m c below) (hx : tb.exec = Jvm.exec) (hd : decode c.code pc = .ok (.dstore k, 2)) (hl : storeLocals Ls k (.double v) = some Ls') (hp : pc + 2 = pc') (hr : Steps tb e below (T.setTop (mkF m pc' Ls' (S))) target) : Steps tb e below (T.setTop (mkF m pc Ls (.double v :: S))) target := by subst hp; exact XS.dstore h hx rfl hd rfl hl hr
theorem own_f_dstoreN {tb : Tables} [Ours tb] {e : Env} {below : List Frame} {T target : State} {m : MethodId} {c : Code} {Ls : Array Slot} {S : List Value} {pc pc' : Nat} {k : Fin 4} {v : UInt64} {Ls' : Array Slot} (h : At T m c below) (hx : tb.exec = Jvm.exec) (hd : decode c.code pc = .ok (.dstore_n k, 1)) (hl : storeLocals Ls k.val (.double v) = some Ls') (hp : pc + 1 = pc') (hr : Steps tb e below (T.setTop (mkF m pc' Ls' (S))) target) : Steps tb e below (T.setTop (mkF m pc Ls (.double v :: S))) target := by subst hp; exact XS.dstoreN h hx rfl hd rfl hl hr
theorem own_f_aload {tb : Tables} [Ours tb] {e : Env} {below : List Frame} {T target : State} {m : MethodId} {c : Code} {Ls : Array Slot} {S : List Value} {pc pc' : Nat} {k : Nat} {v : Value} (h : At T m c below) (hx : tb.exec = Jvm.exec) (hd : decode c.code pc = .ok (.aload k, 2)) (hl : Ls[k]? = some (.val v)) (hv : v.isRef = true) (hp : pc + 2 = pc') (hr : Steps tb e below (T.setTop (mkF m pc' Ls (v :: S))) target) : Steps tb e below (T.setTop (mkF m pc Ls (S))) target := by subst hp; exact XS.aload h hx rfl hd hl hv hr
theorem own_f_aloadN {tb : Tables} [Ours tb] {e : Env} {below : List Frame} {T target : State} {m : MethodId} {c : Code} {Ls : Array Slot} {S : List Value} {pc pc' : Nat} {k : Fin 4} {v : Value} (h : At T m c below) (hx : tb.exec = Jvm.exec) (hd : decode c.code pc = .ok (.aload_n k, 1)) (hl : Ls[k.val]? = some (.val v)) (hv : v.isRef = true) (hp : pc + 1 = pc') (hr : Steps tb e below (T.setTop (mkF m pc' Ls (v :: S))) target) : Steps tb e below (T.setTop (mkF m pc Ls (S))) target := by subst hp; exact XS.aloadN h hx rfl hd hl hv hr
theorem own_f_astore {tb : Tables} [Ours tb] {e : Env} {below : List Frame} {T target : State} {m : MethodId} {c : Code} {Ls : Array Slot} {S : List Value} {pc pc' : Nat} {k : Nat} {v : Value} {Ls' : Array Slot} (h : At T m c below) (hx : tb.exec = Jvm.exec) (hd : decode c.code pc = .ok (.astore k, 2)) (hv : v.isRef = true) (hl : storeLocals Ls k v = some Ls') (hp : pc + 2 = pc') (hr : Steps tb e below (T.setTop (mkF m pc' Ls' (S))) target) : Steps tb e below (T.setTop (mkF m pc Ls (v :: S))) target := by subst hp; exact XS.astore h hx rfl hd rfl hv hl hr
theorem own_f_astoreN {tb : Tables} [Ours tb] {e : Env} {below : List Frame} {T target : State} {m : MethodId} {c : Code} {Ls : Array Slot} {S : List Value} {pc pc' : Nat} {k : Fin 4} {v : Value} {Ls' : Array Slot} (h : At T m c below) (hx : tb.exec = Jvm.exec) (hd : decode c.code pc = .ok (.astore_n k, 1)) (hv : v.isRef = true) (hl : storeLocals Ls k.val v = some Ls') (hp : pc + 1 = pc') (hr : Steps tb e below (T.setTop (mkF m pc' Ls' (S))) target) : Steps tb e below (T.setTop (mkF m pc Ls (v :: S))) target := by subst hp; exact XS.astoreN h hx rfl hd rfl hv hl hr
theorem own_f_iconst {tb : Tables} [Ours tb] {e : Env} {below : List Frame} {T target : State} {m : MethodId} {c : Code} {Ls : Array Slot} {S : List Value} {pc pc' : Nat} {i : Int} {v : Int32} (h : At T m c below) (hx : tb.exec = Jvm.exec) (hd : decode c.code pc = .ok (.iconst i, 1)) (hv : Int32.ofInt i = v) (hp : pc + 1 = pc') (hr : Steps tb e below (T.setTop (mkF m pc' Ls (.int v :: S))) target) : Steps tb e below (T.setTop (mkF m pc Ls (S))) target := by subst hp; exact XS.iconst h hx rfl hd (hv ▸ hr)
theorem own_f_bipush {tb : Tables} [Ours tb] {e : Env} {below : List Frame} {T target : State} {m : MethodId} {c : Code} {Ls : Array Slot} {S : List Value} {pc pc' : Nat} {i : Int} {v : Int32} (h : At T m c below) (hx : tb.exec = Jvm.exec) (hd : decode c.code pc = .ok (.bipush i, 2)) (hv : (Int8.ofInt i).toInt32 = v) (hp : pc + 2 = pc') (hr : Steps tb e below (T.setTop (mkF m pc' Ls (.int v :: S))) target) : Steps tb e below (T.setTop (mkF m pc Ls (S))) target := by subst hp; exact XS.bipush h hx rfl hd (hv ▸ hr)
theorem own_f_sipush {tb : Tables} [Ours tb] {e : Env} {below : List Frame} {T target : State} {m : MethodId} {c : Code} {Ls : Array Slot} {S : List Value} {pc pc' : Nat} {i : Int} {v : Int32} (h : At T m c below) (hx : tb.exec = Jvm.exec) (hd : decode c.code pc = .ok (.sipush i, 3)) (hv : (Int16.ofInt i).toInt32 = v) (hp : pc + 3 = pc') (hr : Steps tb e below (T.setTop (mkF m pc' Ls (.int v :: S))) target) : Steps tb e below (T.setTop (mkF m pc Ls (S))) target := by subst hp; exact XS.sipush h hx rfl hd (hv ▸ hr)
theorem own_f_lconst {tb : Tables} [Ours tb] {e : Env} {below : List Frame} {T target : State} {m : MethodId} {c : Code} {Ls : Array Slot} {S : List Value} {pc pc' : Nat} {k : Fin 2} {v : Int64} (h : At T m c below) (hx : tb.exec = Jvm.exec) (hd : decode c.code pc = .ok (.lconst k, 1)) (hv : Int64.ofNat k = v) (hp : pc + 1 = pc') (hr : Steps tb e below (T.setTop (mkF m pc' Ls (.long v :: S))) target) : Steps tb e below (T.setTop (mkF m pc Ls (S))) target := by subst hp; exact XS.lconst h hx rfl hd (hv ▸ hr)
theorem own_f_dconst0 {tb : Tables} [Ours tb] {e : Env} {below : List Frame} {T target : State} {m : MethodId} {c : Code} {Ls : Array Slot} {S : List Value} {pc pc' : Nat} {v : UInt64} (h : At T m c below) (hx : tb.exec = Jvm.exec) (hd : decode c.code pc = .ok (.dconst 0, 1)) (hv : FP.dconst0 = v) (hp : pc + 1 = pc') (hr : Steps tb e below (T.setTop (mkF m pc' Ls (.double v :: S))) target) : Steps tb e below (T.setTop (mkF m pc Ls (S))) target := by subst hp; exact XS.dconst0 h hx rfl hd hv hr
theorem own_f_dconst1 {tb : Tables} [Ours tb] {e : Env} {below : List Frame} {T target : State} {m : MethodId} {c : Code} {Ls : Array Slot} {S : List Value} {pc pc' : Nat} {v : UInt64} (h : At T m c below) (hx : tb.exec = Jvm.exec) (hd : decode c.code pc = .ok (.dconst 1, 1)) (hv : FP.dconst1 = v) (hp : pc + 1 = pc') (hr : Steps tb e below (T.setTop (mkF m pc' Ls (.double v :: S))) target) : Steps tb e below (T.setTop (mkF m pc Ls (S))) target := by subst hp; exact XS.dconst1 h hx rfl hd hv hr
theorem own_f_aconstNull {tb : Tables} [Ours tb] {e : Env} {below : List Frame} {T target : State} {m : MethodId} {c : Code} {Ls : Array Slot} {S : List Value} {pc pc' : Nat}  (h : At T m c below) (hx : tb.exec = Jvm.exec) (hd : decode c.code pc = .ok (.aconst_null, 1)) (hp : pc + 1 = pc') (hr : Steps tb e below (T.setTop (mkF m pc' Ls (.null :: S))) target) : Steps tb e below (T.setTop (mkF m pc Ls (S))) target := by subst hp; exact XS.aconstNull h hx rfl hd hr
theorem own_f_iadd {tb : Tables} [Ours tb] {e : Env} {below : List Frame} {T target : State} {m : MethodId} {c : Code} {Ls : Array Slot} {S : List Value} {pc pc' : Nat} {x y v : Int32} (h : At T m c below) (hx : tb.exec = Jvm.exec) (hd : decode c.code pc = .ok (.iadd, 1)) (hv : x + y = v) (hp : pc + 1 = pc') (hr : Steps tb e below (T.setTop (mkF m pc' Ls (.int v :: S))) target) : Steps tb e below (T.setTop (mkF m pc Ls (.int y :: .int x :: S))) target := by subst hp; exact XS.iadd h hx rfl hd rfl (hv ▸ hr)
theorem own_f_ladd {tb : Tables} [Ours tb] {e : Env} {below : List Frame} {T target : State} {m : MethodId} {c : Code} {Ls : Array Slot} {S : List Value} {pc pc' : Nat} {x y v : Int64} (h : At T m c below) (hx : tb.exec = Jvm.exec) (hd : decode c.code pc = .ok (.ladd, 1)) (hv : x + y = v) (hp : pc + 1 = pc') (hr : Steps tb e below (T.setTop (mkF m pc' Ls (.long v :: S))) target) : Steps tb e below (T.setTop (mkF m pc Ls (.long y :: .long x :: S))) target := by subst hp; exact XS.ladd h hx rfl hd rfl (hv ▸ hr)
theorem own_f_isub {tb : Tables} [Ours tb] {e : Env} {below : List Frame} {T target : State} {m : MethodId} {c : Code} {Ls : Array Slot} {S : List Value} {pc pc' : Nat} {x y v : Int32} (h : At T m c below) (hx : tb.exec = Jvm.exec) (hd : decode c.code pc = .ok (.isub, 1)) (hv : x - y = v) (hp : pc + 1 = pc') (hr : Steps tb e below (T.setTop (mkF m pc' Ls (.int v :: S))) target) : Steps tb e below (T.setTop (mkF m pc Ls (.int y :: .int x :: S))) target := by subst hp; exact XS.isub h hx rfl hd rfl (hv ▸ hr)
theorem own_f_lsub {tb : Tables} [Ours tb] {e : Env} {below : List Frame} {T target : State} {m : MethodId} {c : Code} {Ls : Array Slot} {S : List Value} {pc pc' : Nat} {x y v : Int64} (h : At T m c below) (hx : tb.exec = Jvm.exec) (hd : decode c.code pc = .ok (.lsub, 1)) (hv : x - y = v) (hp : pc + 1 = pc') (hr : Steps tb e below (T.setTop (mkF m pc' Ls (.long v :: S))) target) : Steps tb e below (T.setTop (mkF m pc Ls (.long y :: .long x :: S))) target := by subst hp; exact XS.lsub h hx rfl hd rfl (hv ▸ hr)
theorem own_f_imul {tb : Tables} [Ours tb] {e : Env} {below : List Frame} {T target : State} {m : MethodId} {c : Code} {Ls : Array Slot} {S : List Value} {pc pc' : Nat} {x y v : Int32} (h : At T m c below) (hx : tb.exec = Jvm.exec) (hd : decode c.code pc = .ok (.imul, 1)) (hv : x * y = v) (hp : pc + 1 = pc') (hr : Steps tb e below (T.setTop (mkF m pc' Ls (.int v :: S))) target) : Steps tb e below (T.setTop (mkF m pc Ls (.int y :: .int x :: S))) target := by subst hp; exact XS.imul h hx rfl hd rfl (hv ▸ hr)
theorem own_f_lmul {tb : Tables} [Ours tb] {e : Env} {below : List Frame} {T target : State} {m : MethodId} {c : Code} {Ls : Array Slot} {S : List Value} {pc pc' : Nat} {x y v : Int64} (h : At T m c below) (hx : tb.exec = Jvm.exec) (hd : decode c.code pc = .ok (.lmul, 1)) (hv : x * y = v) (hp : pc + 1 = pc') (hr : Steps tb e below (T.setTop (mkF m pc' Ls (.long v :: S))) target) : Steps tb e below (T.setTop (mkF m pc Ls (.long y :: .long x :: S))) target := by subst hp; exact XS.lmul h hx rfl hd rfl (hv ▸ hr)
theorem own_f_iand {tb : Tables} [Ours tb] {e : Env} {below : List Frame} {T target : State} {m : MethodId} {c : Code} {Ls : Array Slot} {S : List Value} {pc pc' : Nat} {x y v : Int32} (h : At T m c below) (hx : tb.exec = Jvm.exec) (hd : decode c.code pc = .ok (.iand, 1)) (hv : x &&& y = v) (hp : pc + 1 = pc') (hr : Steps tb e below (T.setTop (mkF m pc' Ls (.int v :: S))) target) : Steps tb e below (T.setTop (mkF m pc Ls (.int y :: .int x :: S))) target := by subst hp; exact XS.iand h hx rfl hd rfl (hv ▸ hr)
theorem own_f_land {tb : Tables} [Ours tb] {e : Env} {below : List Frame} {T target : State} {m : MethodId} {c : Code} {Ls : Array Slot} {S : List Value} {pc pc' : Nat} {x y v : Int64} (h : At T m c below) (hx : tb.exec = Jvm.exec) (hd : decode c.code pc = .ok (.land, 1)) (hv : x &&& y = v) (hp : pc + 1 = pc') (hr : Steps tb e below (T.setTop (mkF m pc' Ls (.long v :: S))) target) : Steps tb e below (T.setTop (mkF m pc Ls (.long y :: .long x :: S))) target := by subst hp; exact XS.land h hx rfl hd rfl (hv ▸ hr)
theorem own_f_ior {tb : Tables} [Ours tb] {e : Env} {below : List Frame} {T target : State} {m : MethodId} {c : Code} {Ls : Array Slot} {S : List Value} {pc pc' : Nat} {x y v : Int32} (h : At T m c below) (hx : tb.exec = Jvm.exec) (hd : decode c.code pc = .ok (.ior, 1)) (hv : x ||| y = v) (hp : pc + 1 = pc') (hr : Steps tb e below (T.setTop (mkF m pc' Ls (.int v :: S))) target) : Steps tb e below (T.setTop (mkF m pc Ls (.int y :: .int x :: S))) target := by subst hp; exact XS.ior h hx rfl hd rfl (hv ▸ hr)
theorem own_f_lor {tb : Tables} [Ours tb] {e : Env} {below : List Frame} {T target : State} {m : MethodId} {c : Code} {Ls : Array Slot} {S : List Value} {pc pc' : Nat} {x y v : Int64} (h : At T m c below) (hx : tb.exec = Jvm.exec) (hd : decode c.code pc = .ok (.lor, 1)) (hv : x ||| y = v) (hp : pc + 1 = pc') (hr : Steps tb e below (T.setTop (mkF m pc' Ls (.long v :: S))) target) : Steps tb e below (T.setTop (mkF m pc Ls (.long y :: .long x :: S))) target := by subst hp; exact XS.lor h hx rfl hd rfl (hv ▸ hr)
theorem own_f_ixor {tb : Tables} [Ours tb] {e : Env} {below : List Frame} {T target : State} {m : MethodId} {c : Code} {Ls : Array Slot} {S : List Value} {pc pc' : Nat} {x y v : Int32} (h : At T m c below) (hx : tb.exec = Jvm.exec) (hd : decode c.code pc = .ok (.ixor, 1)) (hv : x ^^^ y = v) (hp : pc + 1 = pc') (hr : Steps tb e below (T.setTop (mkF m pc' Ls (.int v :: S))) target) : Steps tb e below (T.setTop (mkF m pc Ls (.int y :: .int x :: S))) target := by subst hp; exact XS.ixor h hx rfl hd rfl (hv ▸ hr)
theorem own_f_lxor {tb : Tables} [Ours tb] {e : Env} {below : List Frame} {T target : State} {m : MethodId} {c : Code} {Ls : Array Slot} {S : List Value} {pc pc' : Nat} {x y v : Int64} (h : At T m c below) (hx : tb.exec = Jvm.exec) (hd : decode c.code pc = .ok (.lxor, 1)) (hv : x ^^^ y = v) (hp : pc + 1 = pc') (hr : Steps tb e below (T.setTop (mkF m pc' Ls (.long v :: S))) target) : Steps tb e below (T.setTop (mkF m pc Ls (.long y :: .long x :: S))) target := by subst hp; exact XS.lxor h hx rfl hd rfl (hv ▸ hr)
theorem own_f_ishl {tb : Tables} [Ours tb] {e : Env} {below : List Frame} {T target : State} {m : MethodId} {c : Code} {Ls : Array Slot} {S : List Value} {pc pc' : Nat} {x : Int32} {y : Int32} (h : At T m c below) (hx : tb.exec = Jvm.exec) (hd : decode c.code pc = .ok (.ishl, 1)) (hp : pc + 1 = pc') (hr : Steps tb e below (T.setTop (mkF m pc' Ls (.int (x <<< (y &&& 31)) :: S))) target) : Steps tb e below (T.setTop (mkF m pc Ls (.int y :: .int x :: S))) target := by subst hp; exact XS.ishl h hx rfl hd rfl hr
theorem own_f_ishr {tb : Tables} [Ours tb] {e : Env} {below : List Frame} {T target : State} {m : MethodId} {c : Code} {Ls : Array Slot} {S : List Value} {pc pc' : Nat} {x : Int32} {y : Int32} (h : At T m c below) (hx : tb.exec = Jvm.exec) (hd : decode c.code pc = .ok (.ishr, 1)) (hp : pc + 1 = pc') (hr : Steps tb e below (T.setTop (mkF m pc' Ls (.int (x >>> (y &&& 31)) :: S))) target) : Steps tb e below (T.setTop (mkF m pc Ls (.int y :: .int x :: S))) target := by subst hp; exact XS.ishr h hx rfl hd rfl hr
theorem own_f_iushr {tb : Tables} [Ours tb] {e : Env} {below : List Frame} {T target : State} {m : MethodId} {c : Code} {Ls : Array Slot} {S : List Value} {pc pc' : Nat} {x : Int32} {y : Int32} (h : At T m c below) (hx : tb.exec = Jvm.exec) (hd : decode c.code pc = .ok (.iushr, 1)) (hp : pc + 1 = pc') (hr : Steps tb e below (T.setTop (mkF m pc' Ls (.int ((x.toUInt32 >>> (y &&& 31).toUInt32).toInt32) :: S))) target) : Steps tb e below (T.setTop (mkF m pc Ls (.int y :: .int x :: S))) target := by subst hp; exact XS.iushr h hx rfl hd rfl hr
theorem own_f_lshl {tb : Tables} [Ours tb] {e : Env} {below : List Frame} {T target : State} {m : MethodId} {c : Code} {Ls : Array Slot} {S : List Value} {pc pc' : Nat} {x : Int64} {y : Int32} (h : At T m c below) (hx : tb.exec = Jvm.exec) (hd : decode c.code pc = .ok (.lshl, 1)) (hp : pc + 1 = pc') (hr : Steps tb e below (T.setTop (mkF m pc' Ls (.long (x <<< (y &&& 0x3f).toInt64) :: S))) target) : Steps tb e below (T.setTop (mkF m pc Ls (.int y :: .long x :: S))) target := by subst hp; exact XS.lshl h hx rfl hd rfl hr
theorem own_f_lshr {tb : Tables} [Ours tb] {e : Env} {below : List Frame} {T target : State} {m : MethodId} {c : Code} {Ls : Array Slot} {S : List Value} {pc pc' : Nat} {x : Int64} {y : Int32} (h : At T m c below) (hx : tb.exec = Jvm.exec) (hd : decode c.code pc = .ok (.lshr, 1)) (hp : pc + 1 = pc') (hr : Steps tb e below (T.setTop (mkF m pc' Ls (.long (x >>> (y &&& 0x3f).toInt64) :: S))) target) : Steps tb e below (T.setTop (mkF m pc Ls (.int y :: .long x :: S))) target := by subst hp; exact XS.lshr h hx rfl hd rfl hr
theorem own_f_lushr {tb : Tables} [Ours tb] {e : Env} {below : List Frame} {T target : State} {m : MethodId} {c : Code} {Ls : Array Slot} {S : List Value} {pc pc' : Nat} {x : Int64} {y : Int32} (h : At T m c below) (hx : tb.exec = Jvm.exec) (hd : decode c.code pc = .ok (.lushr, 1)) (hp : pc + 1 = pc') (hr : Steps tb e below (T.setTop (mkF m pc' Ls (.long ((x.toUInt64 >>> (y &&& 0x3f).toInt64.toUInt64).toInt64) :: S))) target) : Steps tb e below (T.setTop (mkF m pc Ls (.int y :: .long x :: S))) target := by subst hp; exact XS.lushr h hx rfl hd rfl hr
theorem own_f_idiv {tb : Tables} [Ours tb] {e : Env} {below : List Frame} {T target : State} {m : MethodId} {c : Code} {Ls : Array Slot} {S : List Value} {pc pc' : Nat} {x y : Int32} (h : At T m c below) (hx : tb.exec = Jvm.exec) (hd : decode c.code pc = .ok (.idiv, 1)) (hy : y ≠ 0) (hp : pc + 1 = pc') (hr : Steps tb e below (T.setTop (mkF m pc' Ls (.int (x / y) :: S))) target) : Steps tb e below (T.setTop (mkF m pc Ls (.int y :: .int x :: S))) target := by subst hp; exact XS.idiv h hx rfl hd rfl hy hr
theorem own_f_irem {tb : Tables} [Ours tb] {e : Env} {below : List Frame} {T target : State} {m : MethodId} {c : Code} {Ls : Array Slot} {S : List Value} {pc pc' : Nat} {x y : Int32} (h : At T m c below) (hx : tb.exec = Jvm.exec) (hd : decode c.code pc = .ok (.irem, 1)) (hy : y ≠ 0) (hp : pc + 1 = pc') (hr : Steps tb e below (T.setTop (mkF m pc' Ls (.int (x - (x / y) * y) :: S))) target) : Steps tb e below (T.setTop (mkF m pc Ls (.int y :: .int x :: S))) target := by subst hp; exact XS.irem h hx rfl hd rfl hy hr
theorem own_f_ldiv {tb : Tables} [Ours tb] {e : Env} {below : List Frame} {T target : State} {m : MethodId} {c : Code} {Ls : Array Slot} {S : List Value} {pc pc' : Nat} {x y : Int64} (h : At T m c below) (hx : tb.exec = Jvm.exec) (hd : decode c.code pc = .ok (.ldiv, 1)) (hy : y ≠ 0) (hp : pc + 1 = pc') (hr : Steps tb e below (T.setTop (mkF m pc' Ls (.long (x / y) :: S))) target) : Steps tb e below (T.setTop (mkF m pc Ls (.long y :: .long x :: S))) target := by subst hp; exact XS.ldiv h hx rfl hd rfl hy hr
theorem own_f_lrem {tb : Tables} [Ours tb] {e : Env} {below : List Frame} {T target : State} {m : MethodId} {c : Code} {Ls : Array Slot} {S : List Value} {pc pc' : Nat} {x y : Int64} (h : At T m c below) (hx : tb.exec = Jvm.exec) (hd : decode c.code pc = .ok (.lrem, 1)) (hy : y ≠ 0) (hp : pc + 1 = pc') (hr : Steps tb e below (T.setTop (mkF m pc' Ls (.long (x - (x / y) * y) :: S))) target) : Steps tb e below (T.setTop (mkF m pc Ls (.long y :: .long x :: S))) target := by subst hp; exact XS.lrem h hx rfl hd rfl hy hr
theorem own_f_ineg {tb : Tables} [Ours tb] {e : Env} {below : List Frame} {T target : State} {m : MethodId} {c : Code} {Ls : Array Slot} {S : List Value} {pc pc' : Nat} {x : Int32} (h : At T m c below) (hx : tb.exec = Jvm.exec) (hd : decode c.code pc = .ok (.ineg, 1)) (hp : pc + 1 = pc') (hr : Steps tb e below (T.setTop (mkF m pc' Ls (.int (-x) :: S))) target) : Steps tb e below (T.setTop (mkF m pc Ls (.int x :: S))) target := by subst hp; exact XS.ineg h hx rfl hd rfl hr
theorem own_f_lneg {tb : Tables} [Ours tb] {e : Env} {below : List Frame} {T target : State} {m : MethodId} {c : Code} {Ls : Array Slot} {S : List Value} {pc pc' : Nat} {x : Int64} (h : At T m c below) (hx : tb.exec = Jvm.exec) (hd : decode c.code pc = .ok (.lneg, 1)) (hp : pc + 1 = pc') (hr : Steps tb e below (T.setTop (mkF m pc' Ls (.long (-x) :: S))) target) : Steps tb e below (T.setTop (mkF m pc Ls (.long x :: S))) target := by subst hp; exact XS.lneg h hx rfl hd rfl hr
theorem own_f_i2l {tb : Tables} [Ours tb] {e : Env} {below : List Frame} {T target : State} {m : MethodId} {c : Code} {Ls : Array Slot} {S : List Value} {pc pc' : Nat} {x : Int32} (h : At T m c below) (hx : tb.exec = Jvm.exec) (hd : decode c.code pc = .ok (.i2l, 1)) (hp : pc + 1 = pc') (hr : Steps tb e below (T.setTop (mkF m pc' Ls (.long (x.toInt64) :: S))) target) : Steps tb e below (T.setTop (mkF m pc Ls (.int x :: S))) target := by subst hp; exact XS.i2l h hx rfl hd rfl hr
theorem own_f_l2i {tb : Tables} [Ours tb] {e : Env} {below : List Frame} {T target : State} {m : MethodId} {c : Code} {Ls : Array Slot} {S : List Value} {pc pc' : Nat} {x : Int64} (h : At T m c below) (hx : tb.exec = Jvm.exec) (hd : decode c.code pc = .ok (.l2i, 1)) (hp : pc + 1 = pc') (hr : Steps tb e below (T.setTop (mkF m pc' Ls (.int (x.toInt32) :: S))) target) : Steps tb e below (T.setTop (mkF m pc Ls (.long x :: S))) target := by subst hp; exact XS.l2i h hx rfl hd rfl hr
theorem own_f_i2b {tb : Tables} [Ours tb] {e : Env} {below : List Frame} {T target : State} {m : MethodId} {c : Code} {Ls : Array Slot} {S : List Value} {pc pc' : Nat} {x : Int32} (h : At T m c below) (hx : tb.exec = Jvm.exec) (hd : decode c.code pc = .ok (.i2b, 1)) (hp : pc + 1 = pc') (hr : Steps tb e below (T.setTop (mkF m pc' Ls (.int (x.toInt8.toInt32) :: S))) target) : Steps tb e below (T.setTop (mkF m pc Ls (.int x :: S))) target := by subst hp; exact XS.i2b h hx rfl hd rfl hr
theorem own_f_i2s {tb : Tables} [Ours tb] {e : Env} {below : List Frame} {T target : State} {m : MethodId} {c : Code} {Ls : Array Slot} {S : List Value} {pc pc' : Nat} {x : Int32} (h : At T m c below) (hx : tb.exec = Jvm.exec) (hd : decode c.code pc = .ok (.i2s, 1)) (hp : pc + 1 = pc') (hr : Steps tb e below (T.setTop (mkF m pc' Ls (.int (x.toInt16.toInt32) :: S))) target) : Steps tb e below (T.setTop (mkF m pc Ls (.int x :: S))) target := by subst hp; exact XS.i2s h hx rfl hd rfl hr
theorem own_f_i2c {tb : Tables} [Ours tb] {e : Env} {below : List Frame} {T target : State} {m : MethodId} {c : Code} {Ls : Array Slot} {S : List Value} {pc pc' : Nat} {x : Int32} (h : At T m c below) (hx : tb.exec = Jvm.exec) (hd : decode c.code pc = .ok (.i2c, 1)) (hp : pc + 1 = pc') (hr : Steps tb e below (T.setTop (mkF m pc' Ls (.int (x.toUInt32.toUInt16.toUInt32.toInt32) :: S))) target) : Steps tb e below (T.setTop (mkF m pc Ls (.int x :: S))) target := by subst hp; exact XS.i2c h hx rfl hd rfl hr
theorem own_f_lcmp {tb : Tables} [Ours tb] {e : Env} {below : List Frame} {T target : State} {m : MethodId} {c : Code} {Ls : Array Slot} {S : List Value} {pc pc' : Nat} {x y : Int64} (h : At T m c below) (hx : tb.exec = Jvm.exec) (hd : decode c.code pc = .ok (.lcmp, 1)) (hp : pc + 1 = pc') (hr : Steps tb e below (T.setTop (mkF m pc' Ls (.int (lcmpW x y) :: S))) target) : Steps tb e below (T.setTop (mkF m pc Ls (.long y :: .long x :: S))) target := by subst hp; exact XS.lcmp h hx rfl hd rfl hr
theorem own_f_i2d {tb : Tables} [Ours tb] {e : Env} {below : List Frame} {T target : State} {m : MethodId} {c : Code} {Ls : Array Slot} {S : List Value} {pc pc' : Nat} {x : Int32} {v : UInt64} (h : At T m c below) (hx : tb.exec = Jvm.exec) (hd : decode c.code pc = .ok (.i2d, 1)) (hv : FP.i2d x = v) (hp : pc + 1 = pc') (hr : Steps tb e below (T.setTop (mkF m pc' Ls (.double v :: S))) target) : Steps tb e below (T.setTop (mkF m pc Ls (.int x :: S))) target := by subst hp; exact XS.i2dS h hx rfl hd rfl hv hr
theorem own_f_l2d {tb : Tables} [Ours tb] {e : Env} {below : List Frame} {T target : State} {m : MethodId} {c : Code} {Ls : Array Slot} {S : List Value} {pc pc' : Nat} {x : Int64} {v : UInt64} (h : At T m c below) (hx : tb.exec = Jvm.exec) (hd : decode c.code pc = .ok (.l2d, 1)) (hv : FP.l2d x = v) (hp : pc + 1 = pc') (hr : Steps tb e below (T.setTop (mkF m pc' Ls (.double v :: S))) target) : Steps tb e below (T.setTop (mkF m pc Ls (.long x :: S))) target := by subst hp; exact XS.l2dS h hx rfl hd rfl hv hr
theorem own_f_d2i {tb : Tables} [Ours tb] {e : Env} {below : List Frame} {T target : State} {m : MethodId} {c : Code} {Ls : Array Slot} {S : List Value} {pc pc' : Nat} {x : UInt64} {v : Int32} (h : At T m c below) (hx : tb.exec = Jvm.exec) (hd : decode c.code pc = .ok (.d2i, 1)) (hv : FP.d2i x = v) (hp : pc + 1 = pc') (hr : Steps tb e below (T.setTop (mkF m pc' Ls (.int v :: S))) target) : Steps tb e below (T.setTop (mkF m pc Ls (.double x :: S))) target := by subst hp; exact XS.d2iS h hx rfl hd rfl hv hr
theorem own_f_d2l {tb : Tables} [Ours tb] {e : Env} {below : List Frame} {T target : State} {m : MethodId} {c : Code} {Ls : Array Slot} {S : List Value} {pc pc' : Nat} {x : UInt64} {v : Int64} (h : At T m c below) (hx : tb.exec = Jvm.exec) (hd : decode c.code pc = .ok (.d2l, 1)) (hv : FP.d2l x = v) (hp : pc + 1 = pc') (hr : Steps tb e below (T.setTop (mkF m pc' Ls (.long v :: S))) target) : Steps tb e below (T.setTop (mkF m pc Ls (.double x :: S))) target := by subst hp; exact XS.d2lS h hx rfl hd rfl hv hr
theorem own_f_dneg {tb : Tables} [Ours tb] {e : Env} {below : List Frame} {T target : State} {m : MethodId} {c : Code} {Ls : Array Slot} {S : List Value} {pc pc' : Nat} {x : UInt64} {v : UInt64} (h : At T m c below) (hx : tb.exec = Jvm.exec) (hd : decode c.code pc = .ok (.dneg, 1)) (hv : FP.dneg x = v) (hp : pc + 1 = pc') (hr : Steps tb e below (T.setTop (mkF m pc' Ls (.double v :: S))) target) : Steps tb e below (T.setTop (mkF m pc Ls (.double x :: S))) target := by subst hp; exact XS.dnegS h hx rfl hd rfl hv hr
theorem own_f_dadd {tb : Tables} [Ours tb] {e : Env} {below : List Frame} {T target : State} {m : MethodId} {c : Code} {Ls : Array Slot} {S : List Value} {pc pc' : Nat} {x y v : UInt64} (h : At T m c below) (hx : tb.exec = Jvm.exec) (hd : decode c.code pc = .ok (.dadd, 1)) (hn : Jvm.Free.Fl.NoNaN64 (FP.dadd x y)) (hv : FP.dadd x y = v) (hp : pc + 1 = pc') (hr : Steps tb e below (T.setTop (mkF m pc' Ls (.double v :: S))) target) : Steps tb e below (T.setTop (mkF m pc Ls (.double y :: .double x :: S))) target := by subst hp; exact XS.daddS h hx rfl hd rfl hn hv hr
theorem own_f_dsub {tb : Tables} [Ours tb] {e : Env} {below : List Frame} {T target : State} {m : MethodId} {c : Code} {Ls : Array Slot} {S : List Value} {pc pc' : Nat} {x y v : UInt64} (h : At T m c below) (hx : tb.exec = Jvm.exec) (hd : decode c.code pc = .ok (.dsub, 1)) (hn : Jvm.Free.Fl.NoNaN64 (FP.dsub x y)) (hv : FP.dsub x y = v) (hp : pc + 1 = pc') (hr : Steps tb e below (T.setTop (mkF m pc' Ls (.double v :: S))) target) : Steps tb e below (T.setTop (mkF m pc Ls (.double y :: .double x :: S))) target := by subst hp; exact XS.dsubS h hx rfl hd rfl hn hv hr
theorem own_f_dmul {tb : Tables} [Ours tb] {e : Env} {below : List Frame} {T target : State} {m : MethodId} {c : Code} {Ls : Array Slot} {S : List Value} {pc pc' : Nat} {x y v : UInt64} (h : At T m c below) (hx : tb.exec = Jvm.exec) (hd : decode c.code pc = .ok (.dmul, 1)) (hn : Jvm.Free.Fl.NoNaN64 (FP.dmul x y)) (hv : FP.dmul x y = v) (hp : pc + 1 = pc') (hr : Steps tb e below (T.setTop (mkF m pc' Ls (.double v :: S))) target) : Steps tb e below (T.setTop (mkF m pc Ls (.double y :: .double x :: S))) target := by subst hp; exact XS.dmulS h hx rfl hd rfl hn hv hr
theorem own_f_ddiv {tb : Tables} [Ours tb] {e : Env} {below : List Frame} {T target : State} {m : MethodId} {c : Code} {Ls : Array Slot} {S : List Value} {pc pc' : Nat} {x y v : UInt64} (h : At T m c below) (hx : tb.exec = Jvm.exec) (hd : decode c.code pc = .ok (.ddiv, 1)) (hn : Jvm.Free.Fl.NoNaN64 (FP.ddiv x y)) (hv : FP.ddiv x y = v) (hp : pc + 1 = pc') (hr : Steps tb e below (T.setTop (mkF m pc' Ls (.double v :: S))) target) : Steps tb e below (T.setTop (mkF m pc Ls (.double y :: .double x :: S))) target := by subst hp; exact XS.ddivS h hx rfl hd rfl hn hv hr
theorem own_f_dcmp {tb : Tables} [Ours tb] {e : Env} {below : List Frame} {T target : State} {m : MethodId} {c : Code} {Ls : Array Slot} {S : List Value} {pc pc' : Nat} {o : CmpOp} {x y : UInt64} {v : Int32} (h : At T m c below) (hx : tb.exec = Jvm.exec) (hd : decode c.code pc = .ok (.dcmp o, 1)) (hv : cmpValue (FP.dcmp x y) o = v) (hp : pc + 1 = pc') (hr : Steps tb e below (T.setTop (mkF m pc' Ls (.int v :: S))) target) : Steps tb e below (T.setTop (mkF m pc Ls (.double y :: .double x :: S))) target := by subst hp; exact XS.dcmpS h hx rfl hd rfl hv hr
theorem own_f_iinc {tb : Tables} [Ours tb] {e : Env} {below : List Frame} {T target : State} {m : MethodId} {c : Code} {Ls : Array Slot} {S : List Value} {pc pc' : Nat} {k : Nat} {cst : Int} {x : Int32} {Ls' : Array Slot} (h : At T m c below) (hx : tb.exec = Jvm.exec) (hd : decode c.code pc = .ok (.iinc k cst, 3)) (hl : Ls[k]? = some (.val (.int x))) (hl' : storeLocals Ls k (.int (x + Int32.ofInt cst)) = some Ls') (hp : pc + 3 = pc') (hr : Steps tb e below (T.setTop (mkF m pc' Ls' (S))) target) : Steps tb e below (T.setTop (mkF m pc Ls (S))) target := by subst hp; exact XS.iinc h hx rfl hd hl hl' hr
theorem own_f_dup {tb : Tables} [Ours tb] {e : Env} {below : List Frame} {T target : State} {m : MethodId} {c : Code} {Ls : Array Slot} {S : List Value} {pc pc' : Nat} {v : Value} (h : At T m c below) (hx : tb.exec = Jvm.exec) (hd : decode c.code pc = .ok (.dup, 1)) (hc : v.category = 1) (hp : pc + 1 = pc') (hr : Steps tb e below (T.setTop (mkF m pc' Ls (v :: v :: S))) target) : Steps tb e below (T.setTop (mkF m pc Ls (v :: S))) target := by subst hp; exact XS.dup h hx rfl hd rfl hc hr
theorem own_f_dupX1 {tb : Tables} [Ours tb] {e : Env} {below : List Frame} {T target : State} {m : MethodId} {c : Code} {Ls : Array Slot} {S : List Value} {pc pc' : Nat} {x y : Value} (h : At T m c below) (hx : tb.exec = Jvm.exec) (hd : decode c.code pc = .ok (.dup_x1, 1)) (hc : x.category = 1) (hc' : y.category = 1) (hp : pc + 1 = pc') (hr : Steps tb e below (T.setTop (mkF m pc' Ls (x :: y :: x :: S))) target) : Steps tb e below (T.setTop (mkF m pc Ls (x :: y :: S))) target := by subst hp; exact XS.dupX1 h hx rfl hd rfl hc hc' hr
theorem own_f_pop {tb : Tables} [Ours tb] {e : Env} {below : List Frame} {T target : State} {m : MethodId} {c : Code} {Ls : Array Slot} {S : List Value} {pc pc' : Nat} {x : Value} (h : At T m c below) (hx : tb.exec = Jvm.exec) (hd : decode c.code pc = .ok (.pop, 1)) (hc : x.category = 1) (hp : pc + 1 = pc') (hr : Steps tb e below (T.setTop (mkF m pc' Ls (S))) target) : Steps tb e below (T.setTop (mkF m pc Ls (x :: S))) target := by subst hp; exact XS.pop h hx rfl hd rfl hc hr
theorem own_f_goto {tb : Tables} [Ours tb] {e : Env} {below : List Frame} {T target : State} {m : MethodId} {c : Code} {Ls : Array Slot} {S : List Value} {pc pc' : Nat} {o : Int} (h : At T m c below) (hx : tb.exec = Jvm.exec) (hd : decode c.code pc = .ok (.goto o, 3)) (ho : 0 ≤ (pc : Int) + o) (hp : ((pc : Int) + o).toNat = pc') (hr : Steps tb e below (T.setTop (mkF m pc' Ls S)) target) : Steps tb e below (T.setTop (mkF m pc Ls (S))) target := XS.goto h hx rfl rfl hd ho hp hr
theorem own_f_ifYes {tb : Tables} [Ours tb] {e : Env} {below : List Frame} {T target : State} {m : MethodId} {c : Code} {Ls : Array Slot} {S : List Value} {pc pc' : Nat} {o : Int} {cd : ClassFile.Cond} {x : Int32} (h : At T m c below) (hx : tb.exec = Jvm.exec) (hd : decode c.code pc = .ok (.ifCond cd o, 3)) (hc : ifCond.holds cd x = true) (ho : 0 ≤ (pc : Int) + o) (hp : ((pc : Int) + o).toNat = pc') (hr : Steps tb e below (T.setTop (mkF m pc' Ls S)) target) : Steps tb e below (T.setTop (mkF m pc Ls (.int x :: S))) target := XS.ifYes h hx rfl rfl hd rfl hc ho hp hr
theorem own_f_icmpYes {tb : Tables} [Ours tb] {e : Env} {below : List Frame} {T target : State} {m : MethodId} {c : Code} {Ls : Array Slot} {S : List Value} {pc pc' : Nat} {o : Int} {cd : ClassFile.Cond} {x y : Int32} (h : At T m c below) (hx : tb.exec = Jvm.exec) (hd : decode c.code pc = .ok (.if_icmp cd o, 3)) (hc : if_icmp.holds cd x y = true) (ho : 0 ≤ (pc : Int) + o) (hp : ((pc : Int) + o).toNat = pc') (hr : Steps tb e below (T.setTop (mkF m pc' Ls S)) target) : Steps tb e below (T.setTop (mkF m pc Ls (.int y :: .int x :: S))) target := XS.icmpYes h hx rfl rfl hd rfl hc ho hp hr
theorem own_f_ifNo {tb : Tables} [Ours tb] {e : Env} {below : List Frame} {T target : State} {m : MethodId} {c : Code} {Ls : Array Slot} {S : List Value} {pc pc' : Nat} {o : Int} {cd : ClassFile.Cond} {x : Int32} (h : At T m c below) (hx : tb.exec = Jvm.exec) (hd : decode c.code pc = .ok (.ifCond cd o, 3)) (hc : ifCond.holds cd x = false) (hp : pc + 3 = pc') (hr : Steps tb e below (T.setTop (mkF m pc' Ls (S))) target) : Steps tb e below (T.setTop (mkF m pc Ls (.int x :: S))) target := by subst hp; exact XS.ifNo h hx rfl hd rfl hc hr
theorem own_f_icmpNo {tb : Tables} [Ours tb] {e : Env} {below : List Frame} {T target : State} {m : MethodId} {c : Code} {Ls : Array Slot} {S : List Value} {pc pc' : Nat} {o : Int} {cd : ClassFile.Cond} {x y : Int32} (h : At T m c below) (hx : tb.exec = Jvm.exec) (hd : decode c.code pc = .ok (.if_icmp cd o, 3)) (hc : if_icmp.holds cd x y = false) (hp : pc + 3 = pc') (hr : Steps tb e below (T.setTop (mkF m pc' Ls (S))) target) : Steps tb e below (T.setTop (mkF m pc Ls (.int y :: .int x :: S))) target := by subst hp; exact XS.icmpNo h hx rfl hd rfl hc hr
variable {p : Program} {l : Launch} {e : Env} {R : Room} {s : State} {m : MethodId} {args : Array Value} {below : List Frame} {meth : Method} {c : Code} {T target : State} {locs : List Loc} {cells slots : Nat} {Ls : Array Slot} {S : List Value} {pc pc' : Nat} {own : String} {index : Nat}
theorem own_f_ldcInt (X : Stand p l e R s m args below meth c T locs cells slots) (hx : p.tables.exec = Jvm.exec) {v : Int32} (hown : s.vm.findClass own = some m.cls) (hc : (Jvm.Cond.constant own index v).before args s = true) (hd : decode c.code pc = .ok (.ldc index, 2)) (hp : pc + 2 = pc') (hr : Steps p.tables e below (T.setTop (mkF m pc' Ls (.int v :: S))) target) : Steps p.tables e below (T.setTop (mkF m pc Ls S)) target := by subst hp; exact X.ldcInt hx hown hc (g := mkF m pc Ls S) rfl hd _ hr
theorem own_f_ldcwInt (X : Stand p l e R s m args below meth c T locs cells slots) (hx : p.tables.exec = Jvm.exec) {v : Int32} (hown : s.vm.findClass own = some m.cls) (hc : (Jvm.Cond.constant own index v).before args s = true) (hd : decode c.code pc = .ok (.ldc_w index, 3)) (hp : pc + 3 = pc') (hr : Steps p.tables e below (T.setTop (mkF m pc' Ls (.int v :: S))) target) : Steps p.tables e below (T.setTop (mkF m pc Ls S)) target := by subst hp; exact X.ldcwInt hx hown hc (g := mkF m pc Ls S) rfl hd _ hr
theorem own_f_ldc2Long (X : Stand p l e R s m args below meth c T locs cells slots) (hx : p.tables.exec = Jvm.exec) {v : Int64} (hown : s.vm.findClass own = some m.cls) (hc : (Jvm.Cond.constantLong own index v).before args s = true) (hd : decode c.code pc = .ok (.ldc2_w index, 3)) (hp : pc + 3 = pc') (hr : Steps p.tables e below (T.setTop (mkF m pc' Ls (.long v :: S))) target) : Steps p.tables e below (T.setTop (mkF m pc Ls S)) target := by subst hp; exact X.ldc2Long hx hown hc (g := mkF m pc Ls S) rfl hd _ hr
theorem own_f_ldc2DoubleC (X : Stand p l e R s m args below meth c T locs cells slots) (hx : p.tables.exec = Jvm.exec) {v : UInt64} (hown : s.vm.findClass own = some m.cls) (hc : (Jvm.Cond.constantDouble own index v).before args s = true) (hd : decode c.code pc = .ok (.ldc2_w index, 3)) (hp : pc + 3 = pc') (hr : Steps p.tables e below (T.setTop (mkF m pc' Ls (.double v :: S))) target) : Steps p.tables e below (T.setTop (mkF m pc Ls S)) target := by subst hp; exact X.ldc2DoubleC hx hown hc (g := mkF m pc Ls S) rfl hd _ hr
end OwnSteps
section OwnFloat
open Jvm.FP.Core
/-! a double as n * 2^(j - 1074) -/
def own_Rep (x : UInt64) (n : Int) (j : Nat) : Prop := DFin x ∧ zval b64 (val64 x) = n * ((2 ^ j : Nat) : Int)
theorem own_cancel {P Q u v : Nat} (h : P * 2 ^ u = Q * 2 ^ v) : P * 2 ^ (u - v) = Q * 2 ^ (v - u) := by
  rcases Nat.le_total u v with q | q
  · obtain ⟨d, rfl⟩ := Nat.exists_eq_add_of_le q
    rw [show u - (u + d) = 0 by omega, show u + d - u = d by omega]
    refine Nat.eq_of_mul_eq_mul_right (Nat.two_pow_pos u) ?_
    rw [Nat.pow_zero, Nat.mul_one, h, Nat.pow_add]; ac_rfl
  · obtain ⟨d, rfl⟩ := Nat.exists_eq_add_of_le q
    rw [show v - (v + d) = 0 by omega, show v + d - v = d by omega]
    refine Nat.eq_of_mul_eq_mul_right (Nat.two_pow_pos v) ?_
    rw [Nat.pow_zero, Nat.mul_one, ← h, Nat.pow_add]; ac_rfl
theorem own_qmax : b64.qmax = 971 := by decide
theorem own_natAbs_pow (n : Int) (j : Nat) : (n * ((2 ^ j : Nat) : Int)).natAbs = n.natAbs * 2 ^ j := by
  rw [Int.natAbs_mul, Int.natAbs_natCast]
theorem own_rr_exact {s : Bool} {A B M j u v : Nat} {e : Int} (hB : 0 < B) (hM : M < 2 ^ 53) (hj : j ≤ 2045) (h : A * 2 ^ u = M * B * 2 ^ v) (hu : (u : Int) - v = e - ((j : Int) - 1074)) :
    ∃ c q, roundRatio b64 s A B e = .fin s c q ∧ inUnits c q b64.qmin = M * 2 ^ j := by
  have h1 := own_cancel h
  rw [roundRatio_congr (A' := M) (B' := 1) (e' := (j : Int) - 1074) hB (by decide) (by rw [Nat.mul_one, show (e - ((j : Int) - 1074)).toNat = u - v by omega, show (((j : Int) - 1074) - e).toNat = v - u by omega]; exact h1)]
  have hp : b64.p = 53 := rfl
  obtain ⟨c, q, h3, h4⟩ := round_exact good_b64 s (c := M) (q := (j : Int) - 1074) (by rw [hp]; exact hM) (by rw [qmin_b64]; omega) (by rw [own_qmax]; omega)
  refine ⟨c, q, h3, ?_⟩
  rw [h4]; unfold inUnits; rw [qmin_b64, show ((j : Int) - 1074 - -1074).toNat = j by omega]
theorem own_round {z : UInt64} {sg : Bool} {N : Nat} {e n : Int} {j : Nat} (hv : val64 z = round b64 (.fin sg N e)) (h2 : b64.qmin ≤ e) (hs : n.natAbs < 2 ^ 53) (hj : j ≤ 2045)
    (h3 : signed sg (inUnits N e b64.qmin) = n * ((2 ^ j : Nat) : Int)) : own_Rep z n j := by
  have h4 : inUnits N e b64.qmin = n.natAbs * 2 ^ j := by
    have := congrArg Int.natAbs h3
    rwa [natAbs_signed, own_natAbs_pow] at this
  rw [qmin_b64] at h2
  have h5 : N * 2 ^ (e + 1074).toNat = n.natAbs * 1 * 2 ^ j := by
    rw [Nat.mul_one, ← h4]; unfold inUnits; rw [qmin_b64, show (e - -1074).toNat = (e + 1074).toNat by omega]
  obtain ⟨c, q, h6, h7⟩ := own_rr_exact (s := sg) (A := N) (B := 1) (e := e) (by decide) hs hj h5 (by omega)
  have h8 : val64 z = .fin sg c q := hv.trans h6
  refine ⟨⟨sg, c, q, h8⟩, ?_⟩
  rw [h8]
  show signed sg (inUnits c q b64.qmin) = _
  rw [h7, ← h4]; exact h3
theorem own_add {x y : UInt64} {n m : Int} {j : Nat} (hx : own_Rep x n j) (hy : own_Rep y m j) (hs : (n + m).natAbs < 2 ^ 53) (hj : j ≤ 2045) : own_Rep (dadd x y) (n + m) j := by
  obtain ⟨⟨s, c, q, ex⟩, zx⟩ := hx
  obtain ⟨⟨t, d, r, ey⟩, zy⟩ := hy
  have fx := val64_fits x; have fy := val64_fits y
  rw [ex] at fx zx; rw [ey] at fy zy
  obtain ⟨sg, N, e, h1, h2, h3⟩ := sum_units fx fy
  have hv : val64 (dadd x y) = round b64 (.fin sg N e) := by rw [val64_dadd, ex, ey, h1]
  rw [zx, zy, ← Int.add_mul] at h3
  exact own_round hv h2 hs hj h3
theorem own_sub {x y : UInt64} {n m : Int} {j : Nat} (hx : own_Rep x n j) (hy : own_Rep y m j) (hs : (n - m).natAbs < 2 ^ 53) (hj : j ≤ 2045) : own_Rep (dsub x y) (n - m) j := by
  obtain ⟨⟨s, c, q, ex⟩, zx⟩ := hx
  obtain ⟨⟨t, d, r, ey⟩, zy⟩ := hy
  have fx := val64_fits x; have fy := negate_fits (val64_fits y)
  have zy2 := zval_negate b64 (val64 y)
  rw [ex] at fx zx; rw [ey] at fy zy zy2
  rw [zy] at zy2
  obtain ⟨sg, N, e, h1, h2, h3⟩ := sum_units fx fy
  have hv : val64 (dsub x y) = round b64 (.fin sg N e) := by rw [val64_dsub, ex, ey]; exact congrArg (round b64) h1
  rw [zx, show zval b64 (.fin (!t) d r) = -(m * ((2 ^ j : Nat) : Int)) from zy2, ← Int.sub_eq_add_neg, ← Int.sub_mul] at h3
  exact own_round hv h2 hs hj h3
theorem own_zmag {x : UInt64} {n : Int} {j : Nat} (hx : own_Rep x n j) : zmag b64 (val64 x) = n.natAbs * 2 ^ j := by
  have := congrArg Int.natAbs hx.2
  rwa [zval, natAbs_signed, own_natAbs_pow] at this
theorem own_sgn {x : UInt64} {n : Int} {j : Nat} (hx : own_Rep x n j) (hn : n ≠ 0) : sgn (val64 x) = decide (n < 0) := by
  have h := hx.2
  have h0 := own_zmag hx
  unfold zval at h
  rw [h0] at h
  have hp : (0 : Int) < ((2 ^ j : Nat) : Int) := by exact_mod_cast Nat.two_pow_pos j
  have hq : 0 < n.natAbs * 2 ^ j := Nat.mul_pos (by omega) (Nat.two_pow_pos j)
  cases hS : sgn (val64 x)
  · rw [hS] at h
    simp only [signed, Bool.false_eq_true, if_false] at h
    have : ¬ n < 0 := fun q => by have := Int.mul_neg_of_neg_of_pos q hp; omega
    simp [this]
  · rw [hS] at h
    simp only [signed, if_true] at h
    have : n < 0 := by
      rcases (by omega : n < 0 ∨ 0 ≤ n) with q | q
      · exact q
      · have := Int.mul_nonneg q (Int.le_of_lt hp); omega
    simp [this]
theorem own_mul {x y : UInt64} {n m : Int} {j i k : Nat} (hx : own_Rep x n j) (hy : own_Rep y m i) (hk : k + 1074 = j + i) (hs : (n * m).natAbs < 2 ^ 53) (hk2 : k ≤ 2045) : own_Rep (dmul x y) (n * m) k := by
  have zx := own_zmag hx; have zy := own_zmag hy
  have sx := @own_sgn x n j hx; have sy := @own_sgn y m i hy
  obtain ⟨⟨s, c, q, ex⟩, -⟩ := hx
  obtain ⟨⟨t, d, r, ey⟩, -⟩ := hy
  have fx := val64_fits x; have fy := val64_fits y
  rw [ex] at fx zx sx; rw [ey] at fy zy sy
  obtain ⟨h1, h2, h3⟩ := product_units fx fy
  rw [zx, zy, qmin_b64] at h3
  rw [qmin_b64] at h2
  have hv : val64 (dmul x y) = roundRatio b64 (s != t) (c * d) 1 (q + r) := by rw [val64_dmul, ex, ey, h1]; rfl
  have h5 : c * d * 2 ^ (q + r + 2148).toNat = (n * m).natAbs * 1 * 2 ^ (j + i) := by
    have : inUnits (c * d) (q + r) (2 * -1074) = c * d * 2 ^ (q + r + 2148).toNat := by unfold inUnits; rw [show (q + r - 2 * -1074).toNat = (q + r + 2148).toNat by omega]
    rw [← this, h3, Int.natAbs_mul, Nat.pow_add]; ac_rfl
  obtain ⟨c', q', h6, h7⟩ := own_rr_exact (s := s != t) (B := 1) (e := q + r) (by decide) hs hk2 h5 (by omega)
  have h8 : val64 (dmul x y) = .fin (s != t) c' q' := hv.trans h6
  refine ⟨⟨_, _, _, h8⟩, ?_⟩
  rw [h8]
  show signed (s != t) (inUnits c' q' b64.qmin) = _
  rw [h7]
  by_cases hn : n = 0
  · subst hn; simp [signed]
  by_cases hm : m = 0
  · subst hm; simp [signed]
  have sx' : s = decide (n < 0) := sx hn
  have sy' : t = decide (m < 0) := sy hm
  subst sx' sy'
  rw [signed_mul]
  congr 1
  rcases Int.lt_or_gt_of_ne hn with a | a <;> rcases Int.lt_or_gt_of_ne hm with b | b
  · have := Int.mul_pos_of_neg_of_neg a b; simp only [a, b, decide_true, bne_self_eq_false, signed, Bool.false_eq_true, if_false]; omega
  · have := Int.mul_neg_of_neg_of_pos a b; have b' : ¬ m < 0 := by omega
    simp only [a, b', decide_true, decide_false, signed]; simp; omega
  · have := Int.mul_neg_of_pos_of_neg a b; have a' : ¬ n < 0 := by omega
    simp only [a', b, decide_true, decide_false, signed]; simp; omega
  · have := Int.mul_pos a b; have a' : ¬ n < 0 := by omega
    have b' : ¬ m < 0 := by omega
    simp only [a', b', decide_false, bne_self_eq_false, signed, Bool.false_eq_true, if_false]; omega
/-- the quotient, rounded once -/
theorem own_div_val {x y : UInt64} {n m : Int} {j i : Nat} (hx : own_Rep x n j) (hy : own_Rep y m i) (hm : m ≠ 0) :
    ∃ sg, val64 (ddiv x y) = roundRatio b64 sg n.natAbs m.natAbs ((j : Int) - i) ∧ (n ≠ 0 → sg = (decide (n < 0) != decide (m < 0))) := by
  have zx := own_zmag hx; have zy := own_zmag hy
  have sx := @own_sgn x n j hx; have sy := @own_sgn y m i hy
  obtain ⟨⟨s, c, q, ex⟩, -⟩ := hx
  obtain ⟨⟨t, d, r, ey⟩, -⟩ := hy
  have fx := val64_fits x; have fy := val64_fits y
  rw [ex] at fx zx sx; rw [ey] at fy zy sy
  have f1 : b64.qmin ≤ q := fx.2.1
  have f2 : b64.qmin ≤ r := fy.2.1
  rw [qmin_b64] at f1 f2
  have zx' : c * 2 ^ (q + 1074).toNat = n.natAbs * 2 ^ j := by rw [← zx]; show _ = inUnits c q b64.qmin; unfold inUnits; rw [qmin_b64, show (q - -1074).toNat = (q + 1074).toNat by omega]
  have zy' : d * 2 ^ (r + 1074).toNat = m.natAbs * 2 ^ i := by rw [← zy]; show _ = inUnits d r b64.qmin; unfold inUnits; rw [qmin_b64, show (r - -1074).toNat = (r + 1074).toNat by omega]
  have hd : d ≠ 0 := by
    rintro rfl
    rw [Nat.zero_mul] at zy'
    have := Nat.mul_pos (show 0 < m.natAbs by omega) (Nat.two_pow_pos i)
    omega
  refine ⟨s != t, ?_, fun hn => ?_⟩
  · rw [val64_ddiv, ex, ey]
    show (if d = 0 then _ else roundRatio b64 (s != t) c d (q - r)) = _
    rw [if_neg hd]
    have h1 : c * m.natAbs * 2 ^ ((q + 1074).toNat + i) = n.natAbs * d * 2 ^ ((r + 1074).toNat + j) := by
      rw [Nat.pow_add, Nat.pow_add]
      calc c * m.natAbs * (2 ^ (q + 1074).toNat * 2 ^ i) = (c * 2 ^ (q + 1074).toNat) * (m.natAbs * 2 ^ i) := by ac_rfl
        _ = (n.natAbs * 2 ^ j) * (d * 2 ^ (r + 1074).toNat) := by rw [zx', zy']
        _ = _ := by ac_rfl
    have h2 := own_cancel h1
    refine roundRatio_congr (Nat.pos_of_ne_zero hd) (by omega) ?_
    rw [show (q - r - ((j : Int) - i)).toNat = (q + 1074).toNat + i - ((r + 1074).toNat + j) by omega, show (((j : Int) - i) - (q - r)).toNat = (r + 1074).toNat + j - ((q + 1074).toNat + i) by omega]
    exact h2
  · rw [← show s = decide (n < 0) from sx hn, ← show t = decide (m < 0) from sy hm]
theorem own_signed_bne {n m : Int} (hn : n ≠ 0) (hm : m ≠ 0) {a : Int} (h : n = a * m) : signed (decide (n < 0) != decide (m < 0)) a.natAbs = a := by
  rcases Int.lt_or_gt_of_ne hn with p | p <;> rcases Int.lt_or_gt_of_ne hm with b | b
  · have : 0 ≤ a := by rcases (by omega : a < 0 ∨ 0 ≤ a) with q | q; (have := Int.mul_pos_of_neg_of_neg q b; omega); exact q
    simp only [p, b, decide_true, bne_self_eq_false, signed, Bool.false_eq_true, if_false]; omega
  · have : a < 0 := by rcases (by omega : a < 0 ∨ 0 ≤ a) with q | q; exact q; (have := Int.mul_nonneg q (Int.le_of_lt b); omega)
    have b' : ¬ m < 0 := by omega
    simp only [p, b', decide_true, decide_false, signed]; simp; omega
  · have : a < 0 := by rcases (by omega : a < 0 ∨ 0 ≤ a) with q | q; exact q; (have := Int.mul_nonpos_of_nonneg_of_nonpos q (Int.le_of_lt b); omega)
    have p' : ¬ n < 0 := by omega
    simp only [p', b, decide_true, decide_false, signed]; simp; omega
  · have : 0 ≤ a := by rcases (by omega : a < 0 ∨ 0 ≤ a) with q | q; (have := Int.mul_neg_of_neg_of_pos q b; omega); exact q
    have p' : ¬ n < 0 := by omega
    have b' : ¬ m < 0 := by omega
    simp only [p', b', decide_false, bne_self_eq_false, signed, Bool.false_eq_true, if_false]; omega
theorem own_div {x y : UInt64} {a m : Int} {j i k : Nat} (hx : own_Rep x (a * m) j) (hy : own_Rep y m i) (hm : m ≠ 0) (hk : k + i = j + 1074) (ha : a.natAbs < 2 ^ 53) (hk2 : k ≤ 2045) : own_Rep (ddiv x y) a k := by
  obtain ⟨sg, h1, h2⟩ := own_div_val hx hy hm
  have h3 : (a * m).natAbs * 2 ^ j = a.natAbs * m.natAbs * 2 ^ j := by rw [Int.natAbs_mul]
  obtain ⟨c, q, h4, h5⟩ := own_rr_exact (s := sg) (A := (a * m).natAbs) (B := m.natAbs) (e := (j : Int) - i) (M := a.natAbs) (j := k) (by omega) ha hk2 h3 (by omega)
  have h6 : val64 (ddiv x y) = .fin sg c q := h1.trans h4
  refine ⟨⟨_, _, _, h6⟩, ?_⟩
  rw [h6]
  show signed sg (inUnits c q b64.qmin) = _
  rw [h5, signed_mul]
  by_cases h0 : a = 0
  · subst h0; cases sg <;> simp [signed]
  · have hne : a * m ≠ 0 := Int.mul_ne_zero h0 hm
    rw [h2 hne, own_signed_bne hne hm rfl]
theorem own_ne_nan {x : UInt64} {n : Int} {j : Nat} (hx : own_Rep x n j) : val64 x ≠ .nan := hx.1.ne_nan
theorem own_cmp {x y : UInt64} {n m : Int} {j : Nat} (hx : own_Rep x n j) (hy : own_Rep y m j) : dcmp x y = some (compare n m) := by
  rw [dcmp_zval (own_ne_nan hx) (own_ne_nan hy), hx.2, hy.2]
  refine congrArg some ?_
  have hp : (0 : Int) < ((2 ^ j : Nat) : Int) := by exact_mod_cast Nat.two_pow_pos j
  exact compare_congr (Int.mul_lt_mul_right hp) (Int.mul_eq_mul_right_iff (by omega))
theorem own_cmp_eq {x y : UInt64} {n : Int} {j : Nat} {o : Jvm.ClassFile.CmpOp} (hx : own_Rep x n j) (hy : own_Rep y n j) : Jvm.Op.cmpValue (Jvm.FP.dcmp x y) o = (0 : Int32) := by
  rw [show Jvm.FP.dcmp x y = some .eq from (own_cmp hx hy).trans (by rw [(compare_eq_iff _ _).mpr rfl])]; rfl
theorem own_l2d {a : Int64} (h1 : -9007199254740992 < a.toInt) (h2 : a.toInt < 9007199254740992) : own_Rep (l2d a) a.toInt 1074 :=
  ⟨l2d_fin a, DInt_zval (l2d_whole ⟨h1, h2⟩)⟩
theorem own_i2d (a : Int32) : own_Rep (i2d a) a.toInt 1074 := by
  have h1 := a.le_toInt; have h2 := a.toInt_lt
  have := @own_l2d a.toInt64 (by rw [Int32.toInt_toInt64]; omega) (by rw [Int32.toInt_toInt64]; omega)
  rwa [← i2d_l2d, Int32.toInt_toInt64] at this
theorem own_shift {x : UInt64} {n : Int} {j i k : Nat} (hx : own_Rep x n j) (hk : k + i = j) : own_Rep x (n * ((2 ^ i : Nat) : Int)) k := by
  refine ⟨hx.1, ?_⟩
  rw [hx.2, ← hk, Nat.pow_add, Int.natCast_mul]; ac_rfl
theorem own_noNaN {x : UInt64} {n : Int} {j : Nat} (hx : own_Rep x n j) : Jvm.Free.Fl.NoNaN64 x := (Jvm.Free.Fl.fin64_core.mpr hx.1).noNaN
theorem own_fin {x : UInt64} {n : Int} {j : Nat} (hx : own_Rep x n j) : Jvm.Free.Fl.Fin64 x := Jvm.Free.Fl.fin64_core.mpr hx.1
/-- a rounded magnitude against a number of the format -/
theorem own_rr_ge {s : Bool} {A B v j E : Nat} {e : Int} (hB : 0 < B) (hv : v < 2 ^ 53) (hj : j ≤ 2045) (he : e + 1074 = (E : Int)) (h : v * 2 ^ j * B ≤ A * 2 ^ E) : v * 2 ^ j ≤ zmag b64 (roundRatio b64 s A B e) := by
  obtain ⟨c, q, h1, h2⟩ := own_rr_exact (s := false) (A := v) (B := 1) (M := v) (j := j) (u := 0) (v := 0) (e := (j : Int) - 1074) (by decide) hv hj (by simp) (by omega)
  have hf : Jvm.FP.Core.fits b64 (Datum.fin false c q) := h1 ▸ roundRatio_fits good_b64 false v (by decide) _
  have := zmag_roundRatio_ge good_b64 (s := s) (A := A) (B := B) (e := e) (e0 := b64.qmin) hB hf (Int.le_refl _) (by rw [qmin_b64]; omega) (by
    show inUnits c q b64.qmin * _ * B ≤ inUnits A e b64.qmin
    rw [h2, Int.sub_self]; unfold inUnits; rw [qmin_b64, show (e - -1074).toNat = E by omega]; simpa using h)
  exact h2 ▸ this
theorem own_rr_le {s : Bool} {A B v j E : Nat} {e : Int} (hB : 0 < B) (hv : v < 2 ^ 53) (hj : j ≤ 2045) (he : e + 1074 = (E : Int)) (h : A * 2 ^ E ≤ v * 2 ^ j * B) : zmag b64 (roundRatio b64 s A B e) ≤ v * 2 ^ j := by
  obtain ⟨c, q, h1, h2⟩ := own_rr_exact (s := false) (A := v) (B := 1) (M := v) (j := j) (u := 0) (v := 0) (e := (j : Int) - 1074) (by decide) hv hj (by simp) (by omega)
  have hf : Jvm.FP.Core.fits b64 (Datum.fin false c q) := h1 ▸ roundRatio_fits good_b64 false v (by decide) _
  have := zmag_roundRatio_le good_b64 (s := s) (A := A) (B := B) (e := e) (e0 := b64.qmin) hB hf Datum.noConfusion (Int.le_refl _) (by rw [qmin_b64]; omega) (by
    show inUnits A e b64.qmin ≤ inUnits c q b64.qmin * _ * B
    rw [h2, Int.sub_self]; unfold inUnits; rw [qmin_b64, show (e - -1074).toNat = E by omega]; simpa using h)
  exact h2 ▸ this
end OwnFloat
section OwnFloat2
open Jvm.FP.Core
theorem own_neg {x : UInt64} {n : Int} {j : Nat} (hx : own_Rep x n j) : own_Rep (dneg x) (-n) j := by
  obtain ⟨⟨s, c, q, ex⟩, zx⟩ := hx
  refine ⟨⟨!s, c, q, by rw [val64_dneg, ex]; rfl⟩, ?_⟩
  rw [val64_dneg, zval_negate, zx, Int.neg_mul]
theorem own_zeroJ (j : Nat) : own_Rep 0 0 j := ⟨⟨false, 0, b64.qmin, val64_zero⟩, by rw [zval64_zero, Int.zero_mul]⟩
theorem own_abs {x : UInt64} {n : Int} {j : Nat} (hx : own_Rep x n j) : own_Rep (x &&& 0x7fffffffffffffff) ((n.natAbs : Nat) : Int) j := by
  have h := own_cmp hx (own_zeroJ j)
  rcases Int.lt_trichotomy n 0 with a | a | a
  · rw [(compare_lt_iff _ _).mpr a] at h
    rw [Jvm.FP.Core.abs_neg h, show ((n.natAbs : Nat) : Int) = -n by omega]; exact own_neg hx
  · rw [(compare_eq_iff _ _).mpr a] at h
    rw [Jvm.FP.Core.abs_zero h, a]; exact own_zeroJ j
  · rw [(compare_gt_iff _ _).mpr a] at h
    rw [Jvm.FP.Core.abs_pos h, show ((n.natAbs : Nat) : Int) = n by omega]; exact hx
theorem own_pick {x y : UInt64} {n m : Int} {j : Nat} (hx : own_Rep x n j) (hy : own_Rep y m j) : own_Rep (Jvm.Native.java_lang_Math.nans.pick64 true x y) (if n < m then m else n) j := by
  have h := own_cmp hx hy
  rcases Int.lt_trichotomy n m with a | a | a
  · rw [(compare_lt_iff _ _).mpr a] at h
    rw [if_pos a, show Jvm.Native.java_lang_Math.nans.pick64 true x y = y by unfold Jvm.Native.java_lang_Math.nans.pick64; rw [show Jvm.FP.dcmp x y = some .lt from h]; rfl]; exact hy
  · rw [if_neg (by omega)]
    rcases Jvm.Free.Fl.pick64_or true x y with z | z
    · rw [z]; exact hx
    · rw [z, a]; exact hy
  · rw [(compare_gt_iff _ _).mpr a] at h
    rw [if_neg (by omega), show Jvm.Native.java_lang_Math.nans.pick64 true x y = x by unfold Jvm.Native.java_lang_Math.nans.pick64; rw [show Jvm.FP.dcmp x y = some .gt from h]; rfl]; exact hx
/-- a number of the format as a datum -/
theorem own_datum (v : Int) (i : Nat) (hv : v.natAbs < 2 ^ 53) (hi : i ≤ 2045) : ∃ V, Jvm.FP.Core.fits b64 V ∧ V ≠ .nan ∧ zval b64 V = v * ((2 ^ i : Nat) : Int) := by
  obtain ⟨c, q, h1, h2⟩ := own_rr_exact (s := decide (v < 0)) (A := v.natAbs) (B := 1) (M := v.natAbs) (j := i) (u := 0) (v := 0) (e := (i : Int) - 1074) (by decide) hv hi (by simp) (by omega)
  refine ⟨.fin (decide (v < 0)) c q, h1 ▸ roundRatio_fits good_b64 _ _ (by decide) _, Datum.noConfusion, ?_⟩
  show signed (decide (v < 0)) (inUnits c q b64.qmin) = _
  rw [h2, signed_mul]
  congr 1
  by_cases h : v < 0
  · simp only [h, decide_true, signed, if_true]; omega
  · simp only [h, decide_false, signed, Bool.false_eq_true, if_false]; omega
theorem own_dadd_nn {x y : UInt64} {n m : Int} {j i : Nat} (hx : own_Rep x n j) (hy : own_Rep y m i) : val64 (dadd x y) ≠ .nan := by
  obtain ⟨⟨s, c, q, ex⟩, zx⟩ := hx
  obtain ⟨⟨t, d, r, ey⟩, zy⟩ := hy
  rw [val64_dadd, ex, ey]
  exact roundRatio_ne_nan _ _ _ _ _
theorem own_dadd_le {x y : UInt64} {n m v : Int} {j i : Nat} (hx : own_Rep x n j) (hy : own_Rep y m j) (hv : v.natAbs < 2 ^ 53) (hi : i ≤ 2045) (h : (n + m) * ((2 ^ j : Nat) : Int) ≤ v * ((2 ^ i : Nat) : Int)) : zval b64 (val64 (dadd x y)) ≤ v * ((2 ^ i : Nat) : Int) := by
  obtain ⟨V, h1, h2, h3⟩ := own_datum v i hv hi
  obtain ⟨⟨s, c, q, ex⟩, zx⟩ := hx
  obtain ⟨⟨t, d, r, ey⟩, zy⟩ := hy
  have fx := val64_fits x; have fy := val64_fits y
  rw [ex] at fx zx; rw [ey] at fy zy
  obtain ⟨sg, N, e, k1, k2, k3⟩ := sum_units fx fy
  rw [val64_dadd, ex, ey, k1, ← h3]
  refine zval_round_le good_b64 h1 h2 (Int.le_refl _) k2 ?_
  rw [k3, zx, zy, ← Int.add_mul, h3, Int.sub_self]
  simpa using h
theorem own_dadd_ge {x y : UInt64} {n m v : Int} {j i : Nat} (hx : own_Rep x n j) (hy : own_Rep y m j) (hv : v.natAbs < 2 ^ 53) (hi : i ≤ 2045) (h : v * ((2 ^ i : Nat) : Int) ≤ (n + m) * ((2 ^ j : Nat) : Int)) : v * ((2 ^ i : Nat) : Int) ≤ zval b64 (val64 (dadd x y)) := by
  obtain ⟨V, h1, h2, h3⟩ := own_datum v i hv hi
  obtain ⟨⟨s, c, q, ex⟩, zx⟩ := hx
  obtain ⟨⟨t, d, r, ey⟩, zy⟩ := hy
  have fx := val64_fits x; have fy := val64_fits y
  rw [ex] at fx zx; rw [ey] at fy zy
  obtain ⟨sg, N, e, k1, k2, k3⟩ := sum_units fx fy
  rw [val64_dadd, ex, ey, k1, ← h3]
  refine zval_round_ge good_b64 h1 h2 (Int.le_refl _) k2 ?_
  rw [k3, zx, zy, ← Int.add_mul, h3, Int.sub_self]
  simpa using h
theorem own_nn_of {x : UInt64} (h : val64 x ≠ .nan) : Jvm.Free.Fl.NoNaN64 x := Jvm.Free.Fl.noNaN64_no.mpr ((notNaN_iff _).mpr h)
end OwnFloat2
section OwnLaw
open Jvm.FP.Core Jvm.Op
open Jvm.RoadKit (lcmpW)
def own_labs (x : Int64) : Int64 := if lcmpW x 0 < 0 then -x else x
def own_lmax (x y : Int64) : Int64 := if lcmpW x y < 0 then y else x
theorem own_one : own_Rep 4607182418800017408 1 1074 := ⟨⟨false, 2 ^ 52, -52, val64_dconst1⟩, DInt_zval dint_one⟩
theorem own_s970 : own_Rep 8975674057349398528 1 2044 := ⟨⟨false, 2 ^ 52, 918, by decide +kernel⟩, by decide +kernel⟩
theorem own_s971 : own_Rep 8980177656976769024 1 2045 := ⟨⟨false, 2 ^ 52, 919, by decide +kernel⟩, by decide +kernel⟩
theorem own_lim : own_Rep 9214364837600034815 9007199254740991 2044 := ⟨⟨false, 9007199254740991, 970, by decide +kernel⟩, by decide +kernel⟩
theorem own_53 {q v : Int64} (h : v = ((q <<< ((11 : Int32) &&& 0x3f).toInt64) >>> ((11 : Int32) &&& 0x3f).toInt64)) : -4503599627370496 ≤ v.toInt ∧ v.toInt < 4503599627370496 := by
  have a := Jvm.RoadKit.c_lshr (q <<< ((11 : Int32) &&& 0x3f).toInt64) 11 11 (by decide)
  rw [← h] at a
  have b := Jvm.RoadKit.rng64 (q <<< ((11 : Int32) &&& 0x3f).toInt64)
  omega
theorem own_scaled {x : Int64} {c : UInt64} {j : Nat} (b : -4503599627370496 ≤ x.toInt ∧ x.toInt < 4503599627370496) (hc : own_Rep c 1 j) (hj : j ≤ 2045) : own_Rep (Jvm.FP.dmul (Jvm.FP.l2d x) c) x.toInt j := by
  have h := own_mul (own_l2d (a := x) (by omega) (by omega)) hc (k := j) (by omega) (by omega) hj
  rwa [Int.mul_one] at h
theorem own_labs_val {x : Int64} (h : -9007199254740992 < x.toInt) (h2 : x.toInt < 9007199254740992) : (own_labs x).toInt = ((x.toInt.natAbs : Nat) : Int) := by
  unfold own_labs
  have z : (0 : Int64).toInt = 0 := by decide
  by_cases c : lcmpW x 0 < 0
  · rw [if_pos c]
    rw [Jvm.RoadKit.lw_lt, Int64.lt_iff_toInt_lt, z] at c
    have := Jvm.RoadKit.c_lneg x
    have := Jvm.RoadKit.rng64 (-x)
    omega
  · rw [if_neg c]
    rw [Jvm.RoadKit.lw_lt, Int64.lt_iff_toInt_lt, z] at c
    omega
theorem own_lmax_val (x y : Int64) : (own_lmax x y).toInt = if x.toInt < y.toInt then y.toInt else x.toInt := by
  unfold own_lmax
  by_cases c : lcmpW x y < 0
  · rw [if_pos c]; rw [Jvm.RoadKit.lw_lt, Int64.lt_iff_toInt_lt] at c; rw [if_pos c]
  · rw [if_neg c]; rw [Jvm.RoadKit.lw_lt, Int64.lt_iff_toInt_lt] at c; rw [if_neg c]
theorem own_leg {x s l : Int64} {X S L : UInt64} {j : Nat} (bx : -4503599627370496 ≤ x.toInt ∧ x.toInt < 4503599627370496) (bs : -4503599627370496 ≤ s.toInt ∧ s.toInt < 4503599627370496) (bl : -4503599627370496 ≤ l.toInt ∧ l.toInt < 4503599627370496)
    (rx : own_Rep X x.toInt j) (rs : own_Rep S s.toInt j) (rl : own_Rep L l.toInt j) (hj : j ≤ 2045) :
    Jvm.Free.Fl.NoNaN64 (Jvm.FP.dsub S X) ∧ Jvm.Free.Fl.NoNaN64 (Jvm.FP.dsub L X) ∧ Jvm.Free.Fl.NoNaN64 (Jvm.FP.dsub S X &&& 0x7fffffffffffffff) ∧ Jvm.Free.Fl.NoNaN64 (Jvm.FP.dsub L X &&& 0x7fffffffffffffff) ∧
      ∃ A : Int, 0 ≤ A ∧ A < 9007199254740992 ∧ (own_lmax (own_labs (s - x)) (own_labs (l - x))).toInt = A ∧ own_Rep (Jvm.Native.java_lang_Math.nans.pick64 true (Jvm.FP.dsub S X &&& 0x7fffffffffffffff) (Jvm.FP.dsub L X &&& 0x7fffffffffffffff)) A j := by
  have r1 := own_sub rs rx (by omega) hj
  have r2 := own_sub rl rx (by omega) hj
  have p1 := own_abs r1; have p2 := own_abs r2
  have e1 := Jvm.RoadKit.c_lsub s x; have e2 := Jvm.RoadKit.rng64 (s - x)
  have e3 := Jvm.RoadKit.c_lsub l x; have e4 := Jvm.RoadKit.rng64 (l - x)
  have d1 : (s - x).toInt = s.toInt - x.toInt := by omega
  have d2 : (l - x).toInt = l.toInt - x.toInt := by omega
  refine ⟨own_noNaN r1, own_noNaN r2, own_noNaN p1, own_noNaN p2, _, ?_, ?_, ?_, own_pick p1 p2⟩
  · split <;> omega
  · split <;> omega
  · rw [own_lmax_val, own_labs_val (by omega) (by omega), own_labs_val (by omega) (by omega), d1, d2]
theorem own_madd {u v : Int64} {A B : Int} (a1 : 0 ≤ A) (a2 : A < 9007199254740992) (b1 : 0 ≤ B) (b2 : B < 9007199254740992) (hu : u.toInt = A) (hv : v.toInt = B) : (u + v).toInt = A + B := by
  have c1 := Jvm.RoadKit.c_ladd u v
  have c2 := Jvm.RoadKit.rng64 (u + v)
  omega
theorem own_pow_pos (j : Nat) : (0 : Int) < ((2 ^ j : Nat) : Int) := by exact_mod_cast Nat.two_pow_pos j
theorem own_res0 {P Q : UInt64} {u v : Int64} {A B : Int} (rp : own_Rep P A 1074) (rq : own_Rep Q B 1074) (a1 : 0 ≤ A) (a2 : A < 9007199254740992) (b1 : 0 ≤ B) (b2 : B < 9007199254740992) (hu : u.toInt = A) (hv : v.toInt = B) :
    Jvm.Free.Fl.NoNaN64 (Jvm.FP.dadd P Q) ∧ (cmpValue (Jvm.FP.dcmp (Jvm.FP.dadd P Q) (9214364837600034815 : UInt64)) .g) < 0 := by
  have nn := own_dadd_nn rp rq
  have e : ((2 ^ 1076 : Nat) : Int) = 4 * ((2 ^ 1074 : Nat) : Int) := by rw [show (1076 : Nat) = 2 + 1074 from rfl, Nat.pow_add, Int.natCast_mul]; rfl
  have q := own_dadd_le rp rq (v := 4503599627370496) (i := 1076) (by decide) (by decide) (by
    rw [e]
    have := own_pow_pos 1074
    rw [← Int.mul_assoc]
    exact Int.mul_le_mul_of_nonneg_right (by omega) (by omega))
  have h : dcmp (dadd P Q) 9214364837600034815 = some .lt := dcmp_lt.mpr ⟨nn, own_ne_nan own_lim, by
    rw [own_lim.2]
    refine Int.lt_of_le_of_lt q ?_
    have e2 : ((2 ^ 2044 : Nat) : Int) = ((2 ^ 968 : Nat) : Int) * ((2 ^ 1076 : Nat) : Int) := by rw [← Int.natCast_mul, ← Nat.pow_add]
    rw [e2, ← Int.mul_assoc]
    refine Int.mul_lt_mul_of_pos_right ?_ (own_pow_pos 1076)
    have := own_pow_pos 968
    omega⟩
  refine ⟨own_nn_of nn, ?_⟩
  rw [show Jvm.FP.dcmp (Jvm.FP.dadd P Q) (9214364837600034815 : UInt64) = some .lt from h]; decide
theorem own_cmp_lt {x y : UInt64} (h : dcmp x y = some .lt) : (cmpValue (Jvm.FP.dcmp x y) .g) < 0 := by rw [show Jvm.FP.dcmp x y = some .lt from h]; decide
theorem own_cmp_nlt {x y : UInt64} (h : dcmp x y ≠ some .lt) (nx : val64 x ≠ .nan) (ny : val64 y ≠ .nan) : ¬ (cmpValue (Jvm.FP.dcmp x y) .g) < 0 := by
  have := dcmp_zval nx ny
  rcases hh : compare (zval b64 (val64 x)) (zval b64 (val64 y)) with _ | _ | _
  · rw [hh] at this; exact absurd this h
  · rw [show Jvm.FP.dcmp x y = some .eq from this.trans (by rw [hh])]; decide
  · rw [show Jvm.FP.dcmp x y = some .gt from this.trans (by rw [hh])]; decide
theorem own_res1 {P Q : UInt64} {u v : Int64} {A B : Int} (rp : own_Rep P A 2044) (rq : own_Rep Q B 2044) (a1 : 0 ≤ A) (a2 : A < 9007199254740992) (b1 : 0 ≤ B) (b2 : B < 9007199254740992) (hu : u.toInt = A) (hv : v.toInt = B) :
    Jvm.Free.Fl.NoNaN64 (Jvm.FP.dadd P Q) ∧ ((lcmpW (u + v) (9007199254740991 : Int64)) < (0 : Int32) → (cmpValue (Jvm.FP.dcmp (Jvm.FP.dadd P Q) (9214364837600034815 : UInt64)) .g) < 0) ∧ (¬ ((lcmpW (u + v) (9007199254740991 : Int64)) < (0 : Int32)) → ¬ (cmpValue (Jvm.FP.dcmp (Jvm.FP.dadd P Q) (9214364837600034815 : UInt64)) .g) < 0) := by
  have nn := own_dadd_nn rp rq
  have hs := own_madd a1 a2 b1 b2 hu hv
  refine ⟨own_nn_of nn, fun c => ?_, fun c => ?_⟩ <;> rw [Jvm.RoadKit.lw_lt, Int64.lt_iff_toInt_lt, hs, show (9007199254740991 : Int64).toInt = 9007199254740991 by decide] at c
  · have r := own_add rp rq (by omega) (by decide)
    exact own_cmp_lt (by rw [own_cmp r own_lim, (compare_lt_iff _ _).mpr c])
  · have q := own_dadd_ge rp rq (v := 9007199254740991) (i := 2044) (by decide) (by decide) (Int.mul_le_mul_of_nonneg_right (by omega) (Int.le_of_lt (own_pow_pos 2044)))
    refine own_cmp_nlt (fun z => ?_) nn (own_ne_nan own_lim)
    exact absurd (dcmp_lt.mp z).2.2 (Int.not_lt.mpr (by rw [own_lim.2]; exact q))
theorem own_res2 {P Q : UInt64} {u v : Int64} {A B : Int} (rp : own_Rep P A 2045) (rq : own_Rep Q B 2045) (a1 : 0 ≤ A) (a2 : A < 9007199254740992) (b1 : 0 ≤ B) (b2 : B < 9007199254740992) (hu : u.toInt = A) (hv : v.toInt = B) :
    Jvm.Free.Fl.NoNaN64 (Jvm.FP.dadd P Q) ∧ ((lcmpW ((2 : Int64) * (u + v)) (9007199254740991 : Int64)) < (0 : Int32) → (cmpValue (Jvm.FP.dcmp (Jvm.FP.dadd P Q) (9214364837600034815 : UInt64)) .g) < 0) ∧ (¬ ((lcmpW ((2 : Int64) * (u + v)) (9007199254740991 : Int64)) < (0 : Int32)) → ¬ (cmpValue (Jvm.FP.dcmp (Jvm.FP.dadd P Q) (9214364837600034815 : UInt64)) .g) < 0) := by
  have nn := own_dadd_nn rp rq
  have hs := own_madd a1 a2 b1 b2 hu hv
  have m1 := Jvm.RoadKit.c_lmul 2 (u + v)
  rw [hs, show (2 : Int64).toInt = 2 by decide] at m1
  have m2 := Jvm.RoadKit.rng64 (2 * (u + v))
  have hm : ((2 : Int64) * (u + v)).toInt = 2 * (A + B) := by omega
  refine ⟨own_nn_of nn, fun c => ?_, fun c => ?_⟩ <;> rw [Jvm.RoadKit.lw_lt, Int64.lt_iff_toInt_lt, hm, show (9007199254740991 : Int64).toInt = 9007199254740991 by decide] at c
  · have r := own_shift (own_add rp rq (by omega) (by decide)) (i := 1) (k := 2044) (by decide)
    exact own_cmp_lt (by rw [own_cmp r own_lim, (compare_lt_iff _ _).mpr (by omega)])
  · have e2 : ((2 ^ 2045 : Nat) : Int) = 2 * ((2 ^ 2044 : Nat) : Int) := by rw [show (2045 : Nat) = 1 + 2044 from rfl, Nat.pow_add, Int.natCast_mul]; rfl
    have q := own_dadd_ge rp rq (v := 9007199254740991) (i := 2044) (by decide) (by decide) (by
      rw [e2, ← Int.mul_assoc]
      exact Int.mul_le_mul_of_nonneg_right (by omega) (Int.le_of_lt (own_pow_pos 2044)))
    refine own_cmp_nlt (fun z => ?_) nn (own_ne_nan own_lim)
    exact absurd (dcmp_lt.mp z).2.2 (Int.not_lt.mpr (by rw [own_lim.2]; exact q))
end OwnLaw
end Jvm.Pilot.@@N@@
namespace Jvm.Pilot.@@N@@
open Jvm Jvm.ClassFile Sem Op Lib Jvm.Free Jvm.Stand Jvm.LawKit Jvm.RoadKit Bundle Jvm.Pilot.@@N@@.Jvm.D
theorem d_jdk_29_61_0 : decode jdk_29_method_61_code 0 = .ok (.lload_n 0, 1) := by decide +kernel
theorem d_jdk_29_61_1 : decode jdk_29_method_61_code 1 = .ok (.lconst 0, 1) := by decide +kernel
theorem d_jdk_29_61_2 : decode jdk_29_method_61_code 2 = .ok (.lcmp, 1) := by decide +kernel
theorem d_jdk_29_61_3 : decode jdk_29_method_61_code 3 = .ok (.ifCond .ge 8, 3) := by decide +kernel
theorem d_jdk_29_61_11 : decode jdk_29_method_61_code 11 = .ok (.lload_n 0, 1) := by decide +kernel
theorem d_jdk_29_61_12 : decode jdk_29_method_61_code 12 = .ok (.lreturn, 1) := by decide +kernel
theorem d_jdk_29_61_6 : decode jdk_29_method_61_code 6 = .ok (.lload_n 0, 1) := by decide +kernel
theorem d_jdk_29_61_7 : decode jdk_29_method_61_code 7 = .ok (.lneg, 1) := by decide +kernel
theorem d_jdk_29_61_8 : decode jdk_29_method_61_code 8 = .ok (.goto 4, 3) := by decide +kernel
theorem d_jdk_29_66_0 : decode jdk_29_method_66_code 0 = .ok (.lload_n 0, 1) := by decide +kernel
theorem d_jdk_29_66_1 : decode jdk_29_method_66_code 1 = .ok (.lload_n 2, 1) := by decide +kernel
theorem d_jdk_29_66_2 : decode jdk_29_method_66_code 2 = .ok (.lcmp, 1) := by decide +kernel
theorem d_jdk_29_66_3 : decode jdk_29_method_66_code 3 = .ok (.ifCond .lt 7, 3) := by decide +kernel
theorem d_jdk_29_66_10 : decode jdk_29_method_66_code 10 = .ok (.lload_n 2, 1) := by decide +kernel
theorem d_jdk_29_66_11 : decode jdk_29_method_66_code 11 = .ok (.lreturn, 1) := by decide +kernel
theorem d_jdk_29_66_6 : decode jdk_29_method_66_code 6 = .ok (.lload_n 0, 1) := by decide +kernel
theorem d_jdk_29_66_7 : decode jdk_29_method_66_code 7 = .ok (.goto 4, 3) := by decide +kernel
theorem d_prog_4_7_0 : decode prog_4_method_7_code 0 = .ok (.dload 5, 2) := by decide +kernel
theorem d_prog_4_7_2 : decode prog_4_method_7_code 2 = .ok (.dload_n 1, 1) := by decide +kernel
theorem d_prog_4_7_3 : decode prog_4_method_7_code 3 = .ok (.dsub, 1) := by decide +kernel
theorem d_prog_4_7_4 : decode prog_4_method_7_code 4 = .ok (.invokestatic 29, 3) := by decide +kernel
theorem pd_0 : parseMethodDescriptor "(D)D" = some ⟨[.double], some .double⟩ := by decide +kernel
theorem d_prog_4_7_7 : decode prog_4_method_7_code 7 = .ok (.dload 9, 2) := by decide +kernel
theorem d_prog_4_7_9 : decode prog_4_method_7_code 9 = .ok (.dload_n 1, 1) := by decide +kernel
theorem d_prog_4_7_10 : decode prog_4_method_7_code 10 = .ok (.dsub, 1) := by decide +kernel
theorem d_prog_4_7_11 : decode prog_4_method_7_code 11 = .ok (.invokestatic 29, 3) := by decide +kernel
theorem d_prog_4_7_14 : decode prog_4_method_7_code 14 = .ok (.invokestatic 35, 3) := by decide +kernel
theorem pd_1 : parseMethodDescriptor "(DD)D" = some ⟨[.double, .double], some .double⟩ := by decide +kernel
theorem d_prog_4_7_17 : decode prog_4_method_7_code 17 = .ok (.dstore 13, 2) := by decide +kernel
theorem d_prog_4_7_19 : decode prog_4_method_7_code 19 = .ok (.dload 7, 2) := by decide +kernel
theorem d_prog_4_7_21 : decode prog_4_method_7_code 21 = .ok (.dload_n 3, 1) := by decide +kernel
theorem d_prog_4_7_22 : decode prog_4_method_7_code 22 = .ok (.dsub, 1) := by decide +kernel
theorem d_prog_4_7_23 : decode prog_4_method_7_code 23 = .ok (.invokestatic 29, 3) := by decide +kernel
theorem d_prog_4_7_26 : decode prog_4_method_7_code 26 = .ok (.dload 11, 2) := by decide +kernel
theorem d_prog_4_7_28 : decode prog_4_method_7_code 28 = .ok (.dload_n 3, 1) := by decide +kernel
theorem d_prog_4_7_29 : decode prog_4_method_7_code 29 = .ok (.dsub, 1) := by decide +kernel
theorem d_prog_4_7_30 : decode prog_4_method_7_code 30 = .ok (.invokestatic 29, 3) := by decide +kernel
theorem d_prog_4_7_33 : decode prog_4_method_7_code 33 = .ok (.invokestatic 35, 3) := by decide +kernel
theorem d_prog_4_7_36 : decode prog_4_method_7_code 36 = .ok (.dstore 15, 2) := by decide +kernel
theorem d_prog_4_7_38 : decode prog_4_method_7_code 38 = .ok (.dload 13, 2) := by decide +kernel
theorem d_prog_4_7_40 : decode prog_4_method_7_code 40 = .ok (.dload 15, 2) := by decide +kernel
theorem d_prog_4_7_42 : decode prog_4_method_7_code 42 = .ok (.dadd, 1) := by decide +kernel
theorem d_prog_4_7_43 : decode prog_4_method_7_code 43 = .ok (.ldc2_w 41, 3) := by decide +kernel
theorem d_prog_4_7_46 : decode prog_4_method_7_code 46 = .ok (.dcmp .g, 1) := by decide +kernel
theorem d_prog_4_7_47 : decode prog_4_method_7_code 47 = .ok (.ifCond .ge 7, 3) := by decide +kernel
theorem d_prog_4_7_54 : decode prog_4_method_7_code 54 = .ok (.iconst 0, 1) := by decide +kernel
theorem d_prog_4_7_55 : decode prog_4_method_7_code 55 = .ok (.ireturn, 1) := by decide +kernel
theorem d_prog_4_7_50 : decode prog_4_method_7_code 50 = .ok (.iconst 1, 1) := by decide +kernel
theorem d_prog_4_7_51 : decode prog_4_method_7_code 51 = .ok (.goto 4, 3) := by decide +kernel
theorem pn_0 : plainName "com/example/honeyguide/honeyguide/CoordinateSystem" = true := by first | (simp [plainName, overriddenIn]; done) | decide +kernel
theorem pd_2 : parseMethodDescriptor "(DDDDDD)Z" = some ⟨[.double, .double, .double, .double, .double, .double], some .boolean⟩ := by decide +kernel
theorem pd_3 : parseMethodDescriptor "(J)J" = some ⟨[.long], some .long⟩ := by decide +kernel
theorem pd_4 : parseMethodDescriptor "(JJ)J" = some ⟨[.long, .long], some .long⟩ := by decide +kernel
theorem pn_1 : plainName "com/example/honeyguide/honeyguide/CoordinateSystemMeasurablePinLaw" = true := by first | (simp [plainName, overriddenIn]; done) | decide +kernel
theorem ef_4 (m : MethodId) (x0 : Int64) : entryFrame m #[(.long x0)] 2 = mkF m 0 #[.val (.long x0), .second] [] := by first | (simp [entryFrame, mkF, argsToLocals, Value.category]; done) | rfl
def Q4 (Z : State) (q1 : Int64) (h0 : Heap) (n0 : Nat) (v : Option Value) (h : Heap) (L : List Loc) : Prop := v = some (.long (own_labs q1)) ∧ Fr n0 L ∧ h = h0
set_option maxRecDepth 65536 in
set_option maxHeartbeats 40000000 in
theorem rm4 (l : Launch) (Z : State) (a0 : Array Value) (hw : ∀ d ∈ tables_1, d.before a0 Z = true) (ws : List Jvm.Cond) (q1 : Int64) (h0 : Heap) (n0 : Nat) (Z0 : n0 ≤ h0.size) :
    MetFree l (⟨"java/lang/Math", "abs", "(J)J"⟩ : MethodName) (head1 (Jvm.Cond.code (⟨"java/lang/Math", "abs", "(J)J"⟩ : MethodName) jdk_29_method_61_code 2 (some .long) :: ws) ({ frames := 0, cells := 0, slots := 0, locals := 0 } : Room)) (fun a U => a = #[(.long q1)] ∧ Z.Warmed39 U.vm ∧ U.heap = h0) (fun _ _ _ _ _ => True) (fun _ U o U' => ∃ v L, o = .returned v ∧ Q4 Z q1 h0 n0 v U'.heap L ∧ FrameEnd U o U' L ({ frames := 0, cells := 0, slots := 0, locals := 0 } : Room).cells ({ frames := 0, cells := 0, slots := 0, locals := 0 } : Room).slots) := by
  refine MetFree.of_bodySF (Jvm.Free.JP.mathPlain rfl (by decide +kernel)) hisR ?_
  intro p e s m args below meth c s₁ Bd hml0 hP hK
  obtain ⟨rfl, hZ, hh⟩ := hP
  have hlk : meth.locks = false := BodyLoose.notSynchronized Bd
  have hx := Bd.exec
  have hby := Bd.bytes
  have hml : c.maxLocals = 2 := hml0
  have hown : s.vm.findClass "java/lang/Math" = some m.cls := findClass_of_methodNamed Bd.named
  have hnm := (name_of_methodNamed Bd.named Bd.method).1
  have X0 : Stand p l e ({ frames := 0, cells := 0, slots := 0, locals := 0 } : Room) s m #[(.long q1)] below meth c s₁ [] 0 0 := Stand.of_body Bd
  have e0 : s₁.heap = h0 := by rw [← hh, Bd.state]; rfl
  have N0 := Fr.nil n0
  obtain ⟨A, hA⟩ : ∃ A, A = s₁.setTop (mkF m 0 #[.val (.long q1), .second] []) := ⟨_, rfl⟩
  have hA0 : ∀ t, Steps p.tables e below A t → Steps p.tables e below (s₁.setTop (entryFrame m #[(.long q1)] 2)) t := fun t k => castTop (ef_4 m q1) (hA ▸ k)
  have k0 : ∀ t, Steps p.tables e below (s₁.setTop (mkF m 0 #[.val (.long q1), .second] [])) t → Steps p.tables e below A t := fun t k => hA ▸ k
  have k1 : ∀ t_, Steps p.tables e below (s₁.setTop (mkF m 3 #[.val (.long q1), .second] [(.int (lcmpW q1 (0 : Int64)))])) t_ → Steps p.tables e below A t_ := by
    intro t_ ht_
    refine k0 t_ ?_
    refine own_f_lloadN X0.here hx (hb hby d_jdk_29_61_0) rfl (rfl : _ = 1) ?_
    refine own_f_lconst X0.here hx (hb hby d_jdk_29_61_1) (rfl : _ = (0 : Int64)) (rfl : _ = 2) ?_
    refine own_f_lcmp X0.here hx (hb hby d_jdk_29_61_2) (rfl : _ = 3) ?_
    exact ht_
  by_cases hc : (lcmpW q1 (0 : Int64)) < (0 : Int32)
  · obtain ⟨fs, hr, hrun, hended, hW, hsame⟩ := X0.leave (v := some (.long (-q1))) (fun h => by rw [Bd.returns] at h; cases h) hlk
    refine ⟨_, _, ?_, hrun, hended, _, _, rfl, ?_, ⟨_, rfl⟩, hW, hsame.mono (by decide) (by decide)⟩
    · refine hA0 _ ?_
      refine k1 _ ?_
      refine own_f_ifNo X0.here hx (hb hby d_jdk_29_61_3) ((if0 _ _).trans (tlt (hc)).2.1) (rfl : _ = 6) ?_
      refine own_f_lloadN X0.here hx (hb hby d_jdk_29_61_6) rfl (rfl : _ = 7) ?_
      refine own_f_lneg X0.here hx (hb hby d_jdk_29_61_7) (rfl : _ = 8) ?_
      refine own_f_goto X0.here hx (hb hby d_jdk_29_61_8) (by decide) (by decide : _ = 12) ?_
      exact X0.lreturnOut hx Bd.returns (hb hby d_jdk_29_61_12) hr
    · show Q4 Z q1 h0 n0 _ s₁.heap _
      rw [e0]
      exact ⟨by unfold own_labs; rw [if_pos hc], N0, rfl⟩
  · obtain ⟨fs, hr, hrun, hended, hW, hsame⟩ := X0.leave (v := some (.long q1)) (fun h => by rw [Bd.returns] at h; cases h) hlk
    refine ⟨_, _, ?_, hrun, hended, _, _, rfl, ?_, ⟨_, rfl⟩, hW, hsame.mono (by decide) (by decide)⟩
    · refine hA0 _ ?_
      refine k1 _ ?_
      refine own_f_ifYes X0.here hx (hb hby d_jdk_29_61_3) ((if0 _ _).trans (flt (hc)).2.1) (by decide) (by decide : _ = 11) ?_
      refine own_f_lloadN X0.here hx (hb hby d_jdk_29_61_11) rfl (rfl : _ = 12) ?_
      exact X0.lreturnOut hx Bd.returns (hb hby d_jdk_29_61_12) hr
    · show Q4 Z q1 h0 n0 _ s₁.heap _
      rw [e0]
      exact ⟨by unfold own_labs; rw [if_neg hc], N0, rfl⟩
theorem ef_5 (m : MethodId) (x0 : Int64) (x1 : Int64) : entryFrame m #[(.long x0), (.long x1)] 4 = mkF m 0 #[.val (.long x0), .second, .val (.long x1), .second] [] := by first | (simp [entryFrame, mkF, argsToLocals, Value.category]; done) | rfl
def Q5 (Z : State) (q1 : Int64) (q2 : Int64) (h0 : Heap) (n0 : Nat) (v : Option Value) (h : Heap) (L : List Loc) : Prop := v = some (.long (own_lmax q1 q2)) ∧ Fr n0 L ∧ h = h0
set_option maxRecDepth 65536 in
set_option maxHeartbeats 40000000 in
theorem rm5 (l : Launch) (Z : State) (a0 : Array Value) (hw : ∀ d ∈ tables_1, d.before a0 Z = true) (ws : List Jvm.Cond) (q1 : Int64) (q2 : Int64) (h0 : Heap) (n0 : Nat) (Z0 : n0 ≤ h0.size) :
    MetFree l (⟨"java/lang/Math", "max", "(JJ)J"⟩ : MethodName) (head1 (Jvm.Cond.code (⟨"java/lang/Math", "max", "(JJ)J"⟩ : MethodName) jdk_29_method_66_code 4 (some .long) :: ws) ({ frames := 0, cells := 0, slots := 0, locals := 0 } : Room)) (fun a U => a = #[(.long q1), (.long q2)] ∧ Z.Warmed39 U.vm ∧ U.heap = h0) (fun _ _ _ _ _ => True) (fun _ U o U' => ∃ v L, o = .returned v ∧ Q5 Z q1 q2 h0 n0 v U'.heap L ∧ FrameEnd U o U' L ({ frames := 0, cells := 0, slots := 0, locals := 0 } : Room).cells ({ frames := 0, cells := 0, slots := 0, locals := 0 } : Room).slots) := by
  refine MetFree.of_bodySF (Jvm.Free.JP.mathPlain rfl (by decide +kernel)) hisR ?_
  intro p e s m args below meth c s₁ Bd hml0 hP hK
  obtain ⟨rfl, hZ, hh⟩ := hP
  have hlk : meth.locks = false := BodyLoose.notSynchronized Bd
  have hx := Bd.exec
  have hby := Bd.bytes
  have hml : c.maxLocals = 4 := hml0
  have hown : s.vm.findClass "java/lang/Math" = some m.cls := findClass_of_methodNamed Bd.named
  have hnm := (name_of_methodNamed Bd.named Bd.method).1
  have X0 : Stand p l e ({ frames := 0, cells := 0, slots := 0, locals := 0 } : Room) s m #[(.long q1), (.long q2)] below meth c s₁ [] 0 0 := Stand.of_body Bd
  have e0 : s₁.heap = h0 := by rw [← hh, Bd.state]; rfl
  have N0 := Fr.nil n0
  obtain ⟨A, hA⟩ : ∃ A, A = s₁.setTop (mkF m 0 #[.val (.long q1), .second, .val (.long q2), .second] []) := ⟨_, rfl⟩
  have hA0 : ∀ t, Steps p.tables e below A t → Steps p.tables e below (s₁.setTop (entryFrame m #[(.long q1), (.long q2)] 4)) t := fun t k => castTop (ef_5 m q1 q2) (hA ▸ k)
  have k0 : ∀ t, Steps p.tables e below (s₁.setTop (mkF m 0 #[.val (.long q1), .second, .val (.long q2), .second] [])) t → Steps p.tables e below A t := fun t k => hA ▸ k
  have k1 : ∀ t_, Steps p.tables e below (s₁.setTop (mkF m 3 #[.val (.long q1), .second, .val (.long q2), .second] [(.int (lcmpW q1 q2))])) t_ → Steps p.tables e below A t_ := by
    intro t_ ht_
    refine k0 t_ ?_
    refine own_f_lloadN X0.here hx (hb hby d_jdk_29_66_0) rfl (rfl : _ = 1) ?_
    refine own_f_lloadN X0.here hx (hb hby d_jdk_29_66_1) rfl (rfl : _ = 2) ?_
    refine own_f_lcmp X0.here hx (hb hby d_jdk_29_66_2) (rfl : _ = 3) ?_
    exact ht_
  by_cases hc : (lcmpW q1 q2) < (0 : Int32)
  · obtain ⟨fs, hr, hrun, hended, hW, hsame⟩ := X0.leave (v := some (.long q2)) (fun h => by rw [Bd.returns] at h; cases h) hlk
    refine ⟨_, _, ?_, hrun, hended, _, _, rfl, ?_, ⟨_, rfl⟩, hW, hsame.mono (by decide) (by decide)⟩
    · refine hA0 _ ?_
      refine k1 _ ?_
      refine own_f_ifYes X0.here hx (hb hby d_jdk_29_66_3) ((if0 _ _).trans (tlt (hc)).1) (by decide) (by decide : _ = 10) ?_
      refine own_f_lloadN X0.here hx (hb hby d_jdk_29_66_10) rfl (rfl : _ = 11) ?_
      exact X0.lreturnOut hx Bd.returns (hb hby d_jdk_29_66_11) hr
    · show Q5 Z q1 q2 h0 n0 _ s₁.heap _
      rw [e0]
      exact ⟨by unfold own_lmax; rw [if_pos hc], N0, rfl⟩
  · obtain ⟨fs, hr, hrun, hended, hW, hsame⟩ := X0.leave (v := some (.long q1)) (fun h => by rw [Bd.returns] at h; cases h) hlk
    refine ⟨_, _, ?_, hrun, hended, _, _, rfl, ?_, ⟨_, rfl⟩, hW, hsame.mono (by decide) (by decide)⟩
    · refine hA0 _ ?_
      refine k1 _ ?_
      refine own_f_ifNo X0.here hx (hb hby d_jdk_29_66_3) ((if0 _ _).trans (flt (hc)).1) (rfl : _ = 6) ?_
      refine own_f_lloadN X0.here hx (hb hby d_jdk_29_66_6) rfl (rfl : _ = 7) ?_
      refine own_f_goto X0.here hx (hb hby d_jdk_29_66_7) (by decide) (by decide : _ = 11) ?_
      exact X0.lreturnOut hx Bd.returns (hb hby d_jdk_29_66_11) hr
    · show Q5 Z q1 q2 h0 n0 _ s₁.heap _
      rw [e0]
      exact ⟨by unfold own_lmax; rw [if_neg hc], N0, rfl⟩
theorem ef_1 (m : MethodId) (x0 : Addr) (x1 : UInt64) (x2 : UInt64) (x3 : UInt64) (x4 : UInt64) (x5 : UInt64) (x6 : UInt64) : entryFrame m #[(.ref x0), (.double x1), (.double x2), (.double x3), (.double x4), (.double x5), (.double x6)] 17 = mkF m 0 #[.val (.ref x0), .val (.double x1), .second, .val (.double x2), .second, .val (.double x3), .second, .val (.double x4), .second, .val (.double x5), .second, .val (.double x6), .second, .unset, .unset, .unset, .unset] [] := by first | (simp [entryFrame, mkF, argsToLocals, Value.category]; done) | rfl
def Q1 (Z : State) (a1 : Addr) (x : UInt64) (y : UInt64) (sx : UInt64) (sy : UInt64) (lx : UInt64) (ly : UInt64) (h0 : Heap) (n0 : Nat) (v : Option Value) (h : Heap) (L : List Loc) : Prop := v = some (.int (if (cmpValue (FP.dcmp (FP.dadd (Jvm.Native.java_lang_Math.nans.pick64 true ((FP.dsub sx x) &&& 0x7fffffffffffffff) ((FP.dsub lx x) &&& 0x7fffffffffffffff)) (Jvm.Native.java_lang_Math.nans.pick64 true ((FP.dsub sy y) &&& 0x7fffffffffffffff) ((FP.dsub ly y) &&& 0x7fffffffffffffff))) (9214364837600034815 : UInt64)) .g) < 0 then 1 else 0)) ∧ Fr n0 L ∧ h = h0
set_option maxRecDepth 65536 in
set_option maxHeartbeats 40000000 in
theorem rm1 (l : Launch) (Z : State) (a0 : Array Value) (hw : ∀ d ∈ tables_1, d.before a0 Z = true) (ws : List Jvm.Cond) (a1 : Addr) (x : UInt64) (y : UInt64) (sx : UInt64) (sy : UInt64) (lx : UInt64) (ly : UInt64) (h0 : Heap) (n0 : Nat) (Z0 : n0 ≤ h0.size) (n1 : Jvm.Free.Fl.NoNaN64 (FP.dsub sx x)) (n2 : Jvm.Free.Fl.NoNaN64 (FP.dsub lx x)) (n3 : Jvm.Free.Fl.NoNaN64 ((FP.dsub sx x) &&& 0x7fffffffffffffff)) (n4 : Jvm.Free.Fl.NoNaN64 ((FP.dsub lx x) &&& 0x7fffffffffffffff)) (n5 : Jvm.Free.Fl.NoNaN64 (FP.dsub sy y)) (n6 : Jvm.Free.Fl.NoNaN64 (FP.dsub ly y)) (n7 : Jvm.Free.Fl.NoNaN64 ((FP.dsub sy y) &&& 0x7fffffffffffffff)) (n8 : Jvm.Free.Fl.NoNaN64 ((FP.dsub ly y) &&& 0x7fffffffffffffff)) (n9 : Jvm.Free.Fl.NoNaN64 (FP.dadd (Jvm.Native.java_lang_Math.nans.pick64 true ((FP.dsub sx x) &&& 0x7fffffffffffffff) ((FP.dsub lx x) &&& 0x7fffffffffffffff)) (Jvm.Native.java_lang_Math.nans.pick64 true ((FP.dsub sy y) &&& 0x7fffffffffffffff) ((FP.dsub ly y) &&& 0x7fffffffffffffff)))) :
    MetFree l (⟨"com/example/honeyguide/honeyguide/CoordinateSystem", "measurable", "(DDDDDD)Z"⟩ : MethodName) (head1 (Jvm.Cond.code (⟨"com/example/honeyguide/honeyguide/CoordinateSystem", "measurable", "(DDDDDD)Z"⟩ : MethodName) prog_4_method_7_code 17 (some .boolean) :: ws) ({ frames := 1, cells := 0, slots := 0, locals := 15 } : Room)) (fun a U => a = #[(.ref a1), (.double x), (.double y), (.double sx), (.double sy), (.double lx), (.double ly)] ∧ Z.Warmed39 U.vm ∧ U.heap = h0) (fun _ _ _ _ _ => True) (fun _ U o U' => ∃ v L, o = .returned v ∧ Q1 Z a1 x y sx sy lx ly h0 n0 v U'.heap L ∧ FrameEnd U o U' L ({ frames := 1, cells := 0, slots := 0, locals := 15 } : Room).cells ({ frames := 1, cells := 0, slots := 0, locals := 15 } : Room).slots) := by
  refine MetFree.of_bodySF (plainFor_of_name pn_0) hisR ?_
  intro p e s m args below meth c s₁ Bd hml0 hP hK
  obtain ⟨rfl, hZ, hh⟩ := hP
  have hlk : meth.locks = false := BodyLoose.notSynchronized Bd
  have hx := Bd.exec
  have hby := Bd.bytes
  have hml : c.maxLocals = 17 := hml0
  have hown : s.vm.findClass "com/example/honeyguide/honeyguide/CoordinateSystem" = some m.cls := findClass_of_methodNamed Bd.named
  have hnm := (name_of_methodNamed Bd.named Bd.method).1
  have X0 : Stand p l e ({ frames := 1, cells := 0, slots := 0, locals := 15 } : Room) s m #[(.ref a1), (.double x), (.double y), (.double sx), (.double sy), (.double lx), (.double ly)] below meth c s₁ [] 0 0 := Stand.of_body Bd
  have e0 : s₁.heap = h0 := by rw [← hh, Bd.state]; rfl
  have N0 := Fr.nil n0
  obtain ⟨A, hA⟩ : ∃ A, A = s₁.setTop (mkF m 0 #[.val (.ref a1), .val (.double x), .second, .val (.double y), .second, .val (.double sx), .second, .val (.double sy), .second, .val (.double lx), .second, .val (.double ly), .second, .unset, .unset, .unset, .unset] []) := ⟨_, rfl⟩
  have hA0 : ∀ t, Steps p.tables e below A t → Steps p.tables e below (s₁.setTop (entryFrame m #[(.ref a1), (.double x), (.double y), (.double sx), (.double sy), (.double lx), (.double ly)] 17)) t := fun t k => castTop (ef_1 m a1 x y sx sy lx ly) (hA ▸ k)
  have k0 : ∀ t, Steps p.tables e below (s₁.setTop (mkF m 0 #[.val (.ref a1), .val (.double x), .second, .val (.double y), .second, .val (.double sx), .second, .val (.double sy), .second, .val (.double lx), .second, .val (.double ly), .second, .unset, .unset, .unset, .unset] [])) t → Steps p.tables e below A t := fun t k => hA ▸ k
  obtain ⟨T1, X1, e1, st1⟩ := natS X0 hx hZ hown (hw _ (List.mem_of_getElem? (i := 9) rfl)) (hw _ (List.mem_of_getElem? (i := 10) rfl)) (hw _ (List.mem_of_getElem? (i := 11) rfl)) (hw _ (List.mem_of_getElem? (i := 12) rfl)) (by decide) e0 (W := 0) (val' := (.double ((FP.dsub sx x) &&& 0x7fffffffffffffff))) (fun c => Jvm.Free.Fl.Abs.absD_pays (FP.dsub sx x) c (by decide) (by decide)) (g := (mkF m 4 #[.val (.ref a1), .val (.double x), .second, .val (.double y), .second, .val (.double sx), .second, .val (.double sy), .second, .val (.double lx), .second, .val (.double ly), .second, .unset, .unset, .unset, .unset] [(.double (FP.dsub sx x))])) rfl (by rw [hml]; rfl) (argsL := [(.double (FP.dsub sx x))]) (rest := []) (lenOf pd_0 rfl) rfl (by show 2 * 0 + _ ≤ _; exact Nat.le_of_eq rfl) (hb hby d_prog_4_7_4) (by decide) (by decide) ⟨rfl, n1⟩ rfl
  obtain ⟨T2, X2, e2, st2⟩ := natS X1 hx hZ hown (hw _ (List.mem_of_getElem? (i := 9) rfl)) (hw _ (List.mem_of_getElem? (i := 10) rfl)) (hw _ (List.mem_of_getElem? (i := 11) rfl)) (hw _ (List.mem_of_getElem? (i := 12) rfl)) (by decide) e1 (W := 2) (val' := (.double ((FP.dsub lx x) &&& 0x7fffffffffffffff))) (fun c => Jvm.Free.Fl.Abs.absD_pays (FP.dsub lx x) c (by decide) (by decide)) (g := (mkF m 11 #[.val (.ref a1), .val (.double x), .second, .val (.double y), .second, .val (.double sx), .second, .val (.double sy), .second, .val (.double lx), .second, .val (.double ly), .second, .unset, .unset, .unset, .unset] [(.double (FP.dsub lx x)), (.double ((FP.dsub sx x) &&& 0x7fffffffffffffff))])) rfl (by rw [hml]; rfl) (argsL := [(.double (FP.dsub lx x))]) (rest := [(.double ((FP.dsub sx x) &&& 0x7fffffffffffffff))]) (lenOf pd_0 rfl) rfl (by show 2 * 0 + _ ≤ _; exact Nat.le_of_eq rfl) (hb hby d_prog_4_7_11) (by decide) (by decide) ⟨rfl, n2⟩ rfl
  obtain ⟨T3, X3, e3, st3⟩ := natS X2 hx hZ hown (hw _ (List.mem_of_getElem? (i := 13) rfl)) (hw _ (List.mem_of_getElem? (i := 14) rfl)) (hw _ (List.mem_of_getElem? (i := 11) rfl)) (hw _ (List.mem_of_getElem? (i := 15) rfl)) (by decide) e2 (W := 0) (val' := (.double (Jvm.Native.java_lang_Math.nans.pick64 true ((FP.dsub sx x) &&& 0x7fffffffffffffff) ((FP.dsub lx x) &&& 0x7fffffffffffffff)))) (fun c => Jvm.Free.Fl.Abs.maxD_pays ((FP.dsub sx x) &&& 0x7fffffffffffffff) ((FP.dsub lx x) &&& 0x7fffffffffffffff) c (by decide) (by decide)) (g := (mkF m 14 #[.val (.ref a1), .val (.double x), .second, .val (.double y), .second, .val (.double sx), .second, .val (.double sy), .second, .val (.double lx), .second, .val (.double ly), .second, .unset, .unset, .unset, .unset] [(.double ((FP.dsub lx x) &&& 0x7fffffffffffffff)), (.double ((FP.dsub sx x) &&& 0x7fffffffffffffff))])) rfl (by rw [hml]; rfl) (argsL := [(.double ((FP.dsub sx x) &&& 0x7fffffffffffffff)), (.double ((FP.dsub lx x) &&& 0x7fffffffffffffff))]) (rest := []) (lenOf pd_1 rfl) rfl (by show 2 * 0 + _ ≤ _; exact Nat.le_of_eq rfl) (hb hby d_prog_4_7_14) (by decide) (by decide) ⟨rfl, n3, n4⟩ rfl
  obtain ⟨T4, X4, e4, st4⟩ := natS X3 hx hZ hown (hw _ (List.mem_of_getElem? (i := 9) rfl)) (hw _ (List.mem_of_getElem? (i := 10) rfl)) (hw _ (List.mem_of_getElem? (i := 11) rfl)) (hw _ (List.mem_of_getElem? (i := 12) rfl)) (by decide) e3 (W := 0) (val' := (.double ((FP.dsub sy y) &&& 0x7fffffffffffffff))) (fun c => Jvm.Free.Fl.Abs.absD_pays (FP.dsub sy y) c (by decide) (by decide)) (g := (mkF m 23 #[.val (.ref a1), .val (.double x), .second, .val (.double y), .second, .val (.double sx), .second, .val (.double sy), .second, .val (.double lx), .second, .val (.double ly), .second, .val (.double (Jvm.Native.java_lang_Math.nans.pick64 true ((FP.dsub sx x) &&& 0x7fffffffffffffff) ((FP.dsub lx x) &&& 0x7fffffffffffffff))), .second, .unset, .unset] [(.double (FP.dsub sy y))])) rfl (by rw [hml]; rfl) (argsL := [(.double (FP.dsub sy y))]) (rest := []) (lenOf pd_0 rfl) rfl (by show 2 * 0 + _ ≤ _; exact Nat.le_of_eq rfl) (hb hby d_prog_4_7_23) (by decide) (by decide) ⟨rfl, n5⟩ rfl
  obtain ⟨T5, X5, e5, st5⟩ := natS X4 hx hZ hown (hw _ (List.mem_of_getElem? (i := 9) rfl)) (hw _ (List.mem_of_getElem? (i := 10) rfl)) (hw _ (List.mem_of_getElem? (i := 11) rfl)) (hw _ (List.mem_of_getElem? (i := 12) rfl)) (by decide) e4 (W := 2) (val' := (.double ((FP.dsub ly y) &&& 0x7fffffffffffffff))) (fun c => Jvm.Free.Fl.Abs.absD_pays (FP.dsub ly y) c (by decide) (by decide)) (g := (mkF m 30 #[.val (.ref a1), .val (.double x), .second, .val (.double y), .second, .val (.double sx), .second, .val (.double sy), .second, .val (.double lx), .second, .val (.double ly), .second, .val (.double (Jvm.Native.java_lang_Math.nans.pick64 true ((FP.dsub sx x) &&& 0x7fffffffffffffff) ((FP.dsub lx x) &&& 0x7fffffffffffffff))), .second, .unset, .unset] [(.double (FP.dsub ly y)), (.double ((FP.dsub sy y) &&& 0x7fffffffffffffff))])) rfl (by rw [hml]; rfl) (argsL := [(.double (FP.dsub ly y))]) (rest := [(.double ((FP.dsub sy y) &&& 0x7fffffffffffffff))]) (lenOf pd_0 rfl) rfl (by show 2 * 0 + _ ≤ _; exact Nat.le_of_eq rfl) (hb hby d_prog_4_7_30) (by decide) (by decide) ⟨rfl, n6⟩ rfl
  obtain ⟨T6, X6, e6, st6⟩ := natS X5 hx hZ hown (hw _ (List.mem_of_getElem? (i := 13) rfl)) (hw _ (List.mem_of_getElem? (i := 14) rfl)) (hw _ (List.mem_of_getElem? (i := 11) rfl)) (hw _ (List.mem_of_getElem? (i := 15) rfl)) (by decide) e5 (W := 0) (val' := (.double (Jvm.Native.java_lang_Math.nans.pick64 true ((FP.dsub sy y) &&& 0x7fffffffffffffff) ((FP.dsub ly y) &&& 0x7fffffffffffffff)))) (fun c => Jvm.Free.Fl.Abs.maxD_pays ((FP.dsub sy y) &&& 0x7fffffffffffffff) ((FP.dsub ly y) &&& 0x7fffffffffffffff) c (by decide) (by decide)) (g := (mkF m 33 #[.val (.ref a1), .val (.double x), .second, .val (.double y), .second, .val (.double sx), .second, .val (.double sy), .second, .val (.double lx), .second, .val (.double ly), .second, .val (.double (Jvm.Native.java_lang_Math.nans.pick64 true ((FP.dsub sx x) &&& 0x7fffffffffffffff) ((FP.dsub lx x) &&& 0x7fffffffffffffff))), .second, .unset, .unset] [(.double ((FP.dsub ly y) &&& 0x7fffffffffffffff)), (.double ((FP.dsub sy y) &&& 0x7fffffffffffffff))])) rfl (by rw [hml]; rfl) (argsL := [(.double ((FP.dsub sy y) &&& 0x7fffffffffffffff)), (.double ((FP.dsub ly y) &&& 0x7fffffffffffffff))]) (rest := []) (lenOf pd_1 rfl) rfl (by show 2 * 0 + _ ≤ _; exact Nat.le_of_eq rfl) (hb hby d_prog_4_7_33) (by decide) (by decide) ⟨rfl, n7, n8⟩ rfl
  have k7 : ∀ t_, Steps p.tables e below (T6.setTop (mkF m 47 #[.val (.ref a1), .val (.double x), .second, .val (.double y), .second, .val (.double sx), .second, .val (.double sy), .second, .val (.double lx), .second, .val (.double ly), .second, .val (.double (Jvm.Native.java_lang_Math.nans.pick64 true ((FP.dsub sx x) &&& 0x7fffffffffffffff) ((FP.dsub lx x) &&& 0x7fffffffffffffff))), .second, .val (.double (Jvm.Native.java_lang_Math.nans.pick64 true ((FP.dsub sy y) &&& 0x7fffffffffffffff) ((FP.dsub ly y) &&& 0x7fffffffffffffff))), .second] [(.int (cmpValue (FP.dcmp (FP.dadd (Jvm.Native.java_lang_Math.nans.pick64 true ((FP.dsub sx x) &&& 0x7fffffffffffffff) ((FP.dsub lx x) &&& 0x7fffffffffffffff)) (Jvm.Native.java_lang_Math.nans.pick64 true ((FP.dsub sy y) &&& 0x7fffffffffffffff) ((FP.dsub ly y) &&& 0x7fffffffffffffff))) (9214364837600034815 : UInt64)) .g))])) t_ → Steps p.tables e below A t_ := by
    intro t_ ht_
    refine k0 t_ ?_
    refine own_f_dload X0.here hx (hb hby d_prog_4_7_0) rfl (rfl : _ = 2) ?_
    refine own_f_dloadN X0.here hx (hb hby d_prog_4_7_2) rfl (rfl : _ = 3) ?_
    refine own_f_dsub X0.here hx (hb hby d_prog_4_7_3) (n1) rfl (rfl : _ = 4) ?_
    refine st1 _ ?_
    show Steps p.tables e below (T1.setTop (mkF m 7 #[.val (.ref a1), .val (.double x), .second, .val (.double y), .second, .val (.double sx), .second, .val (.double sy), .second, .val (.double lx), .second, .val (.double ly), .second, .unset, .unset, .unset, .unset] [(.double ((FP.dsub sx x) &&& 0x7fffffffffffffff))])) t_
    refine own_f_dload X1.here hx (hb hby d_prog_4_7_7) rfl (rfl : _ = 9) ?_
    refine own_f_dloadN X1.here hx (hb hby d_prog_4_7_9) rfl (rfl : _ = 10) ?_
    refine own_f_dsub X1.here hx (hb hby d_prog_4_7_10) (n2) rfl (rfl : _ = 11) ?_
    refine st2 _ ?_
    show Steps p.tables e below (T2.setTop (mkF m 14 #[.val (.ref a1), .val (.double x), .second, .val (.double y), .second, .val (.double sx), .second, .val (.double sy), .second, .val (.double lx), .second, .val (.double ly), .second, .unset, .unset, .unset, .unset] [(.double ((FP.dsub lx x) &&& 0x7fffffffffffffff)), (.double ((FP.dsub sx x) &&& 0x7fffffffffffffff))])) t_
    refine st3 _ ?_
    show Steps p.tables e below (T3.setTop (mkF m 17 #[.val (.ref a1), .val (.double x), .second, .val (.double y), .second, .val (.double sx), .second, .val (.double sy), .second, .val (.double lx), .second, .val (.double ly), .second, .unset, .unset, .unset, .unset] [(.double (Jvm.Native.java_lang_Math.nans.pick64 true ((FP.dsub sx x) &&& 0x7fffffffffffffff) ((FP.dsub lx x) &&& 0x7fffffffffffffff)))])) t_
    refine own_f_dstore X3.here hx (hb hby d_prog_4_7_17) (rfl : storeLocals _ _ _ = some #[.val (.ref a1), .val (.double x), .second, .val (.double y), .second, .val (.double sx), .second, .val (.double sy), .second, .val (.double lx), .second, .val (.double ly), .second, .val (.double (Jvm.Native.java_lang_Math.nans.pick64 true ((FP.dsub sx x) &&& 0x7fffffffffffffff) ((FP.dsub lx x) &&& 0x7fffffffffffffff))), .second, .unset, .unset]) (rfl : _ = 19) ?_
    refine own_f_dload X3.here hx (hb hby d_prog_4_7_19) rfl (rfl : _ = 21) ?_
    refine own_f_dloadN X3.here hx (hb hby d_prog_4_7_21) rfl (rfl : _ = 22) ?_
    refine own_f_dsub X3.here hx (hb hby d_prog_4_7_22) (n5) rfl (rfl : _ = 23) ?_
    refine st4 _ ?_
    show Steps p.tables e below (T4.setTop (mkF m 26 #[.val (.ref a1), .val (.double x), .second, .val (.double y), .second, .val (.double sx), .second, .val (.double sy), .second, .val (.double lx), .second, .val (.double ly), .second, .val (.double (Jvm.Native.java_lang_Math.nans.pick64 true ((FP.dsub sx x) &&& 0x7fffffffffffffff) ((FP.dsub lx x) &&& 0x7fffffffffffffff))), .second, .unset, .unset] [(.double ((FP.dsub sy y) &&& 0x7fffffffffffffff))])) t_
    refine own_f_dload X4.here hx (hb hby d_prog_4_7_26) rfl (rfl : _ = 28) ?_
    refine own_f_dloadN X4.here hx (hb hby d_prog_4_7_28) rfl (rfl : _ = 29) ?_
    refine own_f_dsub X4.here hx (hb hby d_prog_4_7_29) (n6) rfl (rfl : _ = 30) ?_
    refine st5 _ ?_
    show Steps p.tables e below (T5.setTop (mkF m 33 #[.val (.ref a1), .val (.double x), .second, .val (.double y), .second, .val (.double sx), .second, .val (.double sy), .second, .val (.double lx), .second, .val (.double ly), .second, .val (.double (Jvm.Native.java_lang_Math.nans.pick64 true ((FP.dsub sx x) &&& 0x7fffffffffffffff) ((FP.dsub lx x) &&& 0x7fffffffffffffff))), .second, .unset, .unset] [(.double ((FP.dsub ly y) &&& 0x7fffffffffffffff)), (.double ((FP.dsub sy y) &&& 0x7fffffffffffffff))])) t_
    refine st6 _ ?_
    show Steps p.tables e below (T6.setTop (mkF m 36 #[.val (.ref a1), .val (.double x), .second, .val (.double y), .second, .val (.double sx), .second, .val (.double sy), .second, .val (.double lx), .second, .val (.double ly), .second, .val (.double (Jvm.Native.java_lang_Math.nans.pick64 true ((FP.dsub sx x) &&& 0x7fffffffffffffff) ((FP.dsub lx x) &&& 0x7fffffffffffffff))), .second, .unset, .unset] [(.double (Jvm.Native.java_lang_Math.nans.pick64 true ((FP.dsub sy y) &&& 0x7fffffffffffffff) ((FP.dsub ly y) &&& 0x7fffffffffffffff)))])) t_
    refine own_f_dstore X6.here hx (hb hby d_prog_4_7_36) (rfl : storeLocals _ _ _ = some #[.val (.ref a1), .val (.double x), .second, .val (.double y), .second, .val (.double sx), .second, .val (.double sy), .second, .val (.double lx), .second, .val (.double ly), .second, .val (.double (Jvm.Native.java_lang_Math.nans.pick64 true ((FP.dsub sx x) &&& 0x7fffffffffffffff) ((FP.dsub lx x) &&& 0x7fffffffffffffff))), .second, .val (.double (Jvm.Native.java_lang_Math.nans.pick64 true ((FP.dsub sy y) &&& 0x7fffffffffffffff) ((FP.dsub ly y) &&& 0x7fffffffffffffff))), .second]) (rfl : _ = 38) ?_
    refine own_f_dload X6.here hx (hb hby d_prog_4_7_38) rfl (rfl : _ = 40) ?_
    refine own_f_dload X6.here hx (hb hby d_prog_4_7_40) rfl (rfl : _ = 42) ?_
    refine own_f_dadd X6.here hx (hb hby d_prog_4_7_42) (n9) rfl (rfl : _ = 43) ?_
    refine own_f_ldc2DoubleC X6 hx hown (mvT hZ (hw _ (List.mem_of_getElem? (i := 16) rfl))) (hb hby d_prog_4_7_43) (rfl : _ = 46) ?_
    refine own_f_dcmp X6.here hx (hb hby d_prog_4_7_46) rfl (rfl : _ = 47) ?_
    exact ht_
  by_cases hc : (cmpValue (FP.dcmp (FP.dadd (Jvm.Native.java_lang_Math.nans.pick64 true ((FP.dsub sx x) &&& 0x7fffffffffffffff) ((FP.dsub lx x) &&& 0x7fffffffffffffff)) (Jvm.Native.java_lang_Math.nans.pick64 true ((FP.dsub sy y) &&& 0x7fffffffffffffff) ((FP.dsub ly y) &&& 0x7fffffffffffffff))) (9214364837600034815 : UInt64)) .g) < (0 : Int32)
  · obtain ⟨fs, hr, hrun, hended, hW, hsame⟩ := X6.leave (v := some (.int (1 : Int32))) (fun h => by rw [Bd.returns] at h; cases h) hlk
    refine ⟨_, _, ?_, hrun, hended, _, _, rfl, ?_, ⟨_, rfl⟩, hW, hsame.mono (by decide) (by decide)⟩
    · refine hA0 _ ?_
      refine k7 _ ?_
      refine own_f_ifNo X6.here hx (hb hby d_prog_4_7_47) ((if0 _ _).trans (tlt (hc)).2.1) (rfl : _ = 50) ?_
      refine own_f_iconst X6.here hx (hb hby d_prog_4_7_50) (rfl : _ = (1 : Int32)) (rfl : _ = 51) ?_
      refine own_f_goto X6.here hx (hb hby d_prog_4_7_51) (by decide) (by decide : _ = 55) ?_
      exact retN X6 hx (t := .boolean) Bd.returns (by simp) (hb hby d_prog_4_7_55) hr
    · show Q1 Z a1 x y sx sy lx ly h0 n0 _ T6.heap _
      rw [e6]
      exact ⟨by rw [if_pos hc], N0, rfl⟩
  · obtain ⟨fs, hr, hrun, hended, hW, hsame⟩ := X6.leave (v := some (.int (0 : Int32))) (fun h => by rw [Bd.returns] at h; cases h) hlk
    refine ⟨_, _, ?_, hrun, hended, _, _, rfl, ?_, ⟨_, rfl⟩, hW, hsame.mono (by decide) (by decide)⟩
    · refine hA0 _ ?_
      refine k7 _ ?_
      refine own_f_ifYes X6.here hx (hb hby d_prog_4_7_47) ((if0 _ _).trans (flt (hc)).2.1) (by decide) (by decide : _ = 54) ?_
      refine own_f_iconst X6.here hx (hb hby d_prog_4_7_54) (rfl : _ = (0 : Int32)) (rfl : _ = 55) ?_
      exact retN X6 hx (t := .boolean) Bd.returns (by simp) (hb hby d_prog_4_7_55) hr
    · show Q1 Z a1 x y sx sy lx ly h0 n0 _ T6.heap _
      rw [e6]
      exact ⟨by rw [if_neg hc], N0, rfl⟩
theorem ef_0 (m : MethodId) (x0 : Int64) (x1 : Int64) (x2 : Int64) (x3 : Int64) (x4 : Int64) (x5 : Int64) : entryFrame m #[(.long x0), (.long x1), (.long x2), (.long x3), (.long x4), (.long x5)] maxLocals = mkF m 0 #[.val (.long x0), .second, .val (.long x1), .second, .val (.long x2), .second, .val (.long x3), .second, .val (.long x4), .second, .val (.long x5), .second, .unset, .unset, .unset, .unset, .unset, .unset, .unset, .unset, .unset, .unset, .unset, .unset, .unset, .unset, .unset, .unset, .unset, .unset, .unset, .unset, .unset, .unset] [] := by first | (simp [entryFrame, mkF, argsToLocals, Value.category, maxLocals]; done) | rfl
def Q0 (Z : State) (q1 : Int64) (q2 : Int64) (q3 : Int64) (q4 : Int64) (q5 : Int64) (q6 : Int64) (aG : Addr) (aP : Addr) (h0 : Heap) (n0 : Nat) (v : Option Value) (h : Heap) (L : List Loc) : Prop := v = some (.int (1 : Int32)) ∧ Fr n0 L
set_option maxRecDepth 65536 in
set_option maxHeartbeats 40000000 in
theorem rm0 (l : Launch) (Z : State) (a0 : Array Value) (hw : ∀ d ∈ tables_1, d.before a0 Z = true) (ws : List Jvm.Cond) (q1 : Int64) (q2 : Int64) (q3 : Int64) (q4 : Int64) (q5 : Int64) (q6 : Int64) (aG : Addr) (aP : Addr) (h0 : Heap) (n0 : Nat) (Z0 : n0 ≤ h0.size) (Sg : Sta Z h0 "com/example/honeyguide/honeyguide/CoordinateSystem" "GEOGRAPHIC" "Lcom/example/honeyguide/honeyguide/CoordinateSystem;" (.ref aG)) (Sp : Sta Z h0 "com/example/honeyguide/honeyguide/CoordinateSystem" "PLANAR" "Lcom/example/honeyguide/honeyguide/CoordinateSystem;" (.ref aP)) (ExG : Exa Z h0 aG "com/example/honeyguide/honeyguide/CoordinateSystem$1") (ExP : Exa Z h0 aP "com/example/honeyguide/honeyguide/CoordinateSystem$2") :
    MetFree l x (head1 (Jvm.Cond.code x code maxLocals ret :: ws) room_1) (fun a U => a = #[(.long q1), (.long q2), (.long q3), (.long q4), (.long q5), (.long q6)] ∧ Z.Warmed39 U.vm ∧ U.heap = h0) (fun _ _ _ _ _ => True) (fun _ U o U' => ∃ v L, o = .returned v ∧ Q0 Z q1 q2 q3 q4 q5 q6 aG aP h0 n0 v U'.heap L ∧ FrameEnd U o U' L room_1.cells room_1.slots) := by
  refine MetFree.of_bodySF (plainFor_of_name pn_1) hisR ?_
  intro p e s m args below meth c s₁ Bd hml0 hP hK
  obtain ⟨rfl, hZ, hh⟩ := hP
  have hlk : meth.locks = false := BodyLoose.notSynchronized Bd
  have hx := Bd.exec
  have hby := Bd.bytes
  have hml : c.maxLocals = 34 := hml0
  have hown : s.vm.findClass "com/example/honeyguide/honeyguide/CoordinateSystemMeasurablePinLaw" = some m.cls := findClass_of_methodNamed Bd.named
  have hnm := (name_of_methodNamed Bd.named Bd.method).1
  have X0 : Stand p l e room_1 s m #[(.long q1), (.long q2), (.long q3), (.long q4), (.long q5), (.long q6)] below meth c s₁ [] 0 0 := Stand.of_body Bd
  have e0 : s₁.heap = h0 := by rw [← hh, Bd.state]; rfl
  have N0 := Fr.nil n0
  obtain ⟨A, hA⟩ : ∃ A, A = s₁.setTop (mkF m 0 #[.val (.long q1), .second, .val (.long q2), .second, .val (.long q3), .second, .val (.long q4), .second, .val (.long q5), .second, .val (.long q6), .second, .unset, .unset, .unset, .unset, .unset, .unset, .unset, .unset, .unset, .unset, .unset, .unset, .unset, .unset, .unset, .unset, .unset, .unset, .unset, .unset, .unset, .unset] []) := ⟨_, rfl⟩
  have hA0 : ∀ t, Steps p.tables e below A t → Steps p.tables e below (s₁.setTop (entryFrame m #[(.long q1), (.long q2), (.long q3), (.long q4), (.long q5), (.long q6)] maxLocals)) t := fun t k => castTop (ef_0 m q1 q2 q3 q4 q5 q6) (hA ▸ k)
  have k0 : ∀ t, Steps p.tables e below (s₁.setTop (mkF m 0 #[.val (.long q1), .second, .val (.long q2), .second, .val (.long q3), .second, .val (.long q4), .second, .val (.long q5), .second, .val (.long q6), .second, .unset, .unset, .unset, .unset, .unset, .unset, .unset, .unset, .unset, .unset, .unset, .unset, .unset, .unset, .unset, .unset, .unset, .unset, .unset, .unset, .unset, .unset] [])) t → Steps p.tables e below A t := fun t k => hA ▸ k
  have k1 : ∀ t_, Steps p.tables e below (s₁.setTop (mkF m 6 #[.val (.long q1), .second, .val (.long q2), .second, .val (.long q3), .second, .val (.long q4), .second, .val (.long q5), .second, .val (.long q6), .second, .unset, .unset, .unset, .unset, .unset, .unset, .unset, .unset, .unset, .unset, .unset, .unset, .unset, .unset, .unset, .unset, .unset, .unset, .unset, .unset, .unset, .unset] [(.int (lcmpW ((q1.toUInt64 >>> ((63 : Int32) &&& 0x3f).toInt64.toUInt64).toInt64) (0 : Int64)))])) t_ → Steps p.tables e below A t_ := by
    intro t_ ht_
    refine k0 t_ ?_
    refine own_f_lloadN X0.here hx (hb hby at_0) rfl (rfl : _ = 1) ?_
    refine own_f_bipush X0.here hx (hb hby at_1) (rfl : _ = (63 : Int32)) (rfl : _ = 3) ?_
    refine own_f_lushr X0.here hx (hb hby at_3) (rfl : _ = 4) ?_
    refine own_f_lconst X0.here hx (hb hby at_4) (rfl : _ = (0 : Int64)) (rfl : _ = 5) ?_
    refine own_f_lcmp X0.here hx (hb hby at_5) (rfl : _ = 6) ?_
    exact ht_
  by_cases hG : (lcmpW ((q1.toUInt64 >>> ((63 : Int32) &&& 0x3f).toInt64.toUInt64).toInt64) (0 : Int64)) = (0 : Int32)
  · obtain ⟨T35, X35, e35, st35⟩ := getS2 X0 hx hZ hown (host := "") (Or.inl (hw _ (List.mem_of_getElem? (i := 0) rfl))) Via.refl e0 Sg (g := (mkF m 9 #[.val (.long q1), .second, .val (.long q2), .second, .val (.long q3), .second, .val (.long q4), .second, .val (.long q5), .second, .val (.long q6), .second, .unset, .unset, .unset, .unset, .unset, .unset, .unset, .unset, .unset, .unset, .unset, .unset, .unset, .unset, .unset, .unset, .unset, .unset, .unset, .unset, .unset, .unset] [])) rfl (hb hby at_9)
    have k36 : ∀ t_, Steps p.tables e below (T35.setTop (mkF m 31 #[.val (.long q1), .second, .val (.long q2), .second, .val (.long q3), .second, .val (.long q4), .second, .val (.long q5), .second, .val (.long q6), .second, .val (.ref aG), .val (.int ((((q2.toUInt64 >>> ((61 : Int32) &&& 0x3f).toInt64.toUInt64).toInt64) &&& (3 : Int64)).toInt32)), .unset, .unset, .unset, .unset, .unset, .unset, .unset, .unset, .unset, .unset, .unset, .unset, .unset, .unset, .unset, .unset, .unset, .unset, .unset, .unset] [])) t_ → Steps p.tables e below A t_ := by
      intro t_ ht_
      refine k1 t_ ?_
      refine own_f_ifNo X0.here hx (hb hby at_6) ((if0 _ _).trans (teq (hG)).2) (rfl : _ = 9) ?_
      refine st35 _ ?_
      show Steps p.tables e below (T35.setTop (mkF m 12 #[.val (.long q1), .second, .val (.long q2), .second, .val (.long q3), .second, .val (.long q4), .second, .val (.long q5), .second, .val (.long q6), .second, .unset, .unset, .unset, .unset, .unset, .unset, .unset, .unset, .unset, .unset, .unset, .unset, .unset, .unset, .unset, .unset, .unset, .unset, .unset, .unset, .unset, .unset] [(.ref aG)])) t_
      refine own_f_goto X35.here hx (hb hby at_12) (by decide) (by decide : _ = 18) ?_
      refine own_f_astore X35.here hx (hb hby at_18) rfl (rfl : storeLocals _ _ _ = some #[.val (.long q1), .second, .val (.long q2), .second, .val (.long q3), .second, .val (.long q4), .second, .val (.long q5), .second, .val (.long q6), .second, .val (.ref aG), .unset, .unset, .unset, .unset, .unset, .unset, .unset, .unset, .unset, .unset, .unset, .unset, .unset, .unset, .unset, .unset, .unset, .unset, .unset, .unset, .unset]) (rfl : _ = 20) ?_
      refine own_f_lloadN X35.here hx (hb hby at_20) rfl (rfl : _ = 21) ?_
      refine own_f_bipush X35.here hx (hb hby at_21) (rfl : _ = (61 : Int32)) (rfl : _ = 23) ?_
      refine own_f_lushr X35.here hx (hb hby at_23) (rfl : _ = 24) ?_
      refine own_f_ldc2Long X35 hx hown (mvT hZ (hw _ (List.mem_of_getElem? (i := 3) rfl))) (hb hby at_24) (rfl : _ = 27) ?_
      refine own_f_land X35.here hx (hb hby at_27) rfl (rfl : _ = 28) ?_
      refine own_f_l2i X35.here hx (hb hby at_28) (rfl : _ = 29) ?_
      refine own_f_istore X35.here hx (hb hby at_29) (rfl : storeLocals _ _ _ = some #[.val (.long q1), .second, .val (.long q2), .second, .val (.long q3), .second, .val (.long q4), .second, .val (.long q5), .second, .val (.long q6), .second, .val (.ref aG), .val (.int ((((q2.toUInt64 >>> ((61 : Int32) &&& 0x3f).toInt64.toUInt64).toInt64) &&& (3 : Int64)).toInt32)), .unset, .unset, .unset, .unset, .unset, .unset, .unset, .unset, .unset, .unset, .unset, .unset, .unset, .unset, .unset, .unset, .unset, .unset, .unset, .unset]) (rfl : _ = 31) ?_
      exact ht_
    obtain ⟨sel, hsel⟩ : ∃ z : Int32, z = ((((q2.toUInt64 >>> ((61 : Int32) &&& 0x3f).toInt64.toUInt64).toInt64) &&& (3 : Int64)).toInt32) := ⟨_, rfl⟩
    rw [← hsel] at k36
    have k37 : ∀ t_, Steps p.tables e below (T35.setTop (mkF m 40 #[.val (.long q1), .second, .val (.long q2), .second, .val (.long q3), .second, .val (.long q4), .second, .val (.long q5), .second, .val (.long q6), .second, .val (.ref aG), .val (.int sel), .val (.long ((q1 <<< ((11 : Int32) &&& 0x3f).toInt64) >>> ((11 : Int32) &&& 0x3f).toInt64)), .second, .unset, .unset, .unset, .unset, .unset, .unset, .unset, .unset, .unset, .unset, .unset, .unset, .unset, .unset, .unset, .unset, .unset, .unset] [])) t_ → Steps p.tables e below A t_ := by
      intro t_ ht_
      refine k36 t_ ?_
      refine own_f_lloadN X35.here hx (hb hby at_31) rfl (rfl : _ = 32) ?_
      refine own_f_bipush X35.here hx (hb hby at_32) (rfl : _ = (11 : Int32)) (rfl : _ = 34) ?_
      refine own_f_lshl X35.here hx (hb hby at_34) (rfl : _ = 35) ?_
      refine own_f_bipush X35.here hx (hb hby at_35) (rfl : _ = (11 : Int32)) (rfl : _ = 37) ?_
      refine own_f_lshr X35.here hx (hb hby at_37) (rfl : _ = 38) ?_
      refine own_f_lstore X35.here hx (hb hby at_38) (rfl : storeLocals _ _ _ = some #[.val (.long q1), .second, .val (.long q2), .second, .val (.long q3), .second, .val (.long q4), .second, .val (.long q5), .second, .val (.long q6), .second, .val (.ref aG), .val (.int sel), .val (.long ((q1 <<< ((11 : Int32) &&& 0x3f).toInt64) >>> ((11 : Int32) &&& 0x3f).toInt64)), .second, .unset, .unset, .unset, .unset, .unset, .unset, .unset, .unset, .unset, .unset, .unset, .unset, .unset, .unset, .unset, .unset, .unset, .unset]) (rfl : _ = 40) ?_
      exact ht_
    obtain ⟨vx, hvx⟩ : ∃ z : Int64, z = ((q1 <<< ((11 : Int32) &&& 0x3f).toInt64) >>> ((11 : Int32) &&& 0x3f).toInt64) := ⟨_, rfl⟩
    rw [← hvx] at k37
    have b_x := own_53 hvx
    have k38 : ∀ t_, Steps p.tables e below (T35.setTop (mkF m 49 #[.val (.long q1), .second, .val (.long q2), .second, .val (.long q3), .second, .val (.long q4), .second, .val (.long q5), .second, .val (.long q6), .second, .val (.ref aG), .val (.int sel), .val (.long vx), .second, .val (.long ((q2 <<< ((11 : Int32) &&& 0x3f).toInt64) >>> ((11 : Int32) &&& 0x3f).toInt64)), .second, .unset, .unset, .unset, .unset, .unset, .unset, .unset, .unset, .unset, .unset, .unset, .unset, .unset, .unset, .unset, .unset] [])) t_ → Steps p.tables e below A t_ := by
      intro t_ ht_
      refine k37 t_ ?_
      refine own_f_lloadN X35.here hx (hb hby at_40) rfl (rfl : _ = 41) ?_
      refine own_f_bipush X35.here hx (hb hby at_41) (rfl : _ = (11 : Int32)) (rfl : _ = 43) ?_
      refine own_f_lshl X35.here hx (hb hby at_43) (rfl : _ = 44) ?_
      refine own_f_bipush X35.here hx (hb hby at_44) (rfl : _ = (11 : Int32)) (rfl : _ = 46) ?_
      refine own_f_lshr X35.here hx (hb hby at_46) (rfl : _ = 47) ?_
      refine own_f_lstore X35.here hx (hb hby at_47) (rfl : storeLocals _ _ _ = some #[.val (.long q1), .second, .val (.long q2), .second, .val (.long q3), .second, .val (.long q4), .second, .val (.long q5), .second, .val (.long q6), .second, .val (.ref aG), .val (.int sel), .val (.long vx), .second, .val (.long ((q2 <<< ((11 : Int32) &&& 0x3f).toInt64) >>> ((11 : Int32) &&& 0x3f).toInt64)), .second, .unset, .unset, .unset, .unset, .unset, .unset, .unset, .unset, .unset, .unset, .unset, .unset, .unset, .unset, .unset, .unset]) (rfl : _ = 49) ?_
      exact ht_
    obtain ⟨vy, hvy⟩ : ∃ z : Int64, z = ((q2 <<< ((11 : Int32) &&& 0x3f).toInt64) >>> ((11 : Int32) &&& 0x3f).toInt64) := ⟨_, rfl⟩
    rw [← hvy] at k38
    have b_y := own_53 hvy
    have k39 : ∀ t_, Steps p.tables e below (T35.setTop (mkF m 59 #[.val (.long q1), .second, .val (.long q2), .second, .val (.long q3), .second, .val (.long q4), .second, .val (.long q5), .second, .val (.long q6), .second, .val (.ref aG), .val (.int sel), .val (.long vx), .second, .val (.long vy), .second, .val (.long ((q3 <<< ((11 : Int32) &&& 0x3f).toInt64) >>> ((11 : Int32) &&& 0x3f).toInt64)), .second, .unset, .unset, .unset, .unset, .unset, .unset, .unset, .unset, .unset, .unset, .unset, .unset, .unset, .unset] [])) t_ → Steps p.tables e below A t_ := by
      intro t_ ht_
      refine k38 t_ ?_
      refine own_f_lload X35.here hx (hb hby at_49) rfl (rfl : _ = 51) ?_
      refine own_f_bipush X35.here hx (hb hby at_51) (rfl : _ = (11 : Int32)) (rfl : _ = 53) ?_
      refine own_f_lshl X35.here hx (hb hby at_53) (rfl : _ = 54) ?_
      refine own_f_bipush X35.here hx (hb hby at_54) (rfl : _ = (11 : Int32)) (rfl : _ = 56) ?_
      refine own_f_lshr X35.here hx (hb hby at_56) (rfl : _ = 57) ?_
      refine own_f_lstore X35.here hx (hb hby at_57) (rfl : storeLocals _ _ _ = some #[.val (.long q1), .second, .val (.long q2), .second, .val (.long q3), .second, .val (.long q4), .second, .val (.long q5), .second, .val (.long q6), .second, .val (.ref aG), .val (.int sel), .val (.long vx), .second, .val (.long vy), .second, .val (.long ((q3 <<< ((11 : Int32) &&& 0x3f).toInt64) >>> ((11 : Int32) &&& 0x3f).toInt64)), .second, .unset, .unset, .unset, .unset, .unset, .unset, .unset, .unset, .unset, .unset, .unset, .unset, .unset, .unset]) (rfl : _ = 59) ?_
      exact ht_
    obtain ⟨vsx, hvsx⟩ : ∃ z : Int64, z = ((q3 <<< ((11 : Int32) &&& 0x3f).toInt64) >>> ((11 : Int32) &&& 0x3f).toInt64) := ⟨_, rfl⟩
    rw [← hvsx] at k39
    have b_sx := own_53 hvsx
    have k40 : ∀ t_, Steps p.tables e below (T35.setTop (mkF m 69 #[.val (.long q1), .second, .val (.long q2), .second, .val (.long q3), .second, .val (.long q4), .second, .val (.long q5), .second, .val (.long q6), .second, .val (.ref aG), .val (.int sel), .val (.long vx), .second, .val (.long vy), .second, .val (.long vsx), .second, .val (.long ((q4 <<< ((11 : Int32) &&& 0x3f).toInt64) >>> ((11 : Int32) &&& 0x3f).toInt64)), .second, .unset, .unset, .unset, .unset, .unset, .unset, .unset, .unset, .unset, .unset, .unset, .unset] [])) t_ → Steps p.tables e below A t_ := by
      intro t_ ht_
      refine k39 t_ ?_
      refine own_f_lload X35.here hx (hb hby at_59) rfl (rfl : _ = 61) ?_
      refine own_f_bipush X35.here hx (hb hby at_61) (rfl : _ = (11 : Int32)) (rfl : _ = 63) ?_
      refine own_f_lshl X35.here hx (hb hby at_63) (rfl : _ = 64) ?_
      refine own_f_bipush X35.here hx (hb hby at_64) (rfl : _ = (11 : Int32)) (rfl : _ = 66) ?_
      refine own_f_lshr X35.here hx (hb hby at_66) (rfl : _ = 67) ?_
      refine own_f_lstore X35.here hx (hb hby at_67) (rfl : storeLocals _ _ _ = some #[.val (.long q1), .second, .val (.long q2), .second, .val (.long q3), .second, .val (.long q4), .second, .val (.long q5), .second, .val (.long q6), .second, .val (.ref aG), .val (.int sel), .val (.long vx), .second, .val (.long vy), .second, .val (.long vsx), .second, .val (.long ((q4 <<< ((11 : Int32) &&& 0x3f).toInt64) >>> ((11 : Int32) &&& 0x3f).toInt64)), .second, .unset, .unset, .unset, .unset, .unset, .unset, .unset, .unset, .unset, .unset, .unset, .unset]) (rfl : _ = 69) ?_
      exact ht_
    obtain ⟨vsy, hvsy⟩ : ∃ z : Int64, z = ((q4 <<< ((11 : Int32) &&& 0x3f).toInt64) >>> ((11 : Int32) &&& 0x3f).toInt64) := ⟨_, rfl⟩
    rw [← hvsy] at k40
    have b_sy := own_53 hvsy
    have k41 : ∀ t_, Steps p.tables e below (T35.setTop (mkF m 79 #[.val (.long q1), .second, .val (.long q2), .second, .val (.long q3), .second, .val (.long q4), .second, .val (.long q5), .second, .val (.long q6), .second, .val (.ref aG), .val (.int sel), .val (.long vx), .second, .val (.long vy), .second, .val (.long vsx), .second, .val (.long vsy), .second, .val (.long ((q5 <<< ((11 : Int32) &&& 0x3f).toInt64) >>> ((11 : Int32) &&& 0x3f).toInt64)), .second, .unset, .unset, .unset, .unset, .unset, .unset, .unset, .unset, .unset, .unset] [])) t_ → Steps p.tables e below A t_ := by
      intro t_ ht_
      refine k40 t_ ?_
      refine own_f_lload X35.here hx (hb hby at_69) rfl (rfl : _ = 71) ?_
      refine own_f_bipush X35.here hx (hb hby at_71) (rfl : _ = (11 : Int32)) (rfl : _ = 73) ?_
      refine own_f_lshl X35.here hx (hb hby at_73) (rfl : _ = 74) ?_
      refine own_f_bipush X35.here hx (hb hby at_74) (rfl : _ = (11 : Int32)) (rfl : _ = 76) ?_
      refine own_f_lshr X35.here hx (hb hby at_76) (rfl : _ = 77) ?_
      refine own_f_lstore X35.here hx (hb hby at_77) (rfl : storeLocals _ _ _ = some #[.val (.long q1), .second, .val (.long q2), .second, .val (.long q3), .second, .val (.long q4), .second, .val (.long q5), .second, .val (.long q6), .second, .val (.ref aG), .val (.int sel), .val (.long vx), .second, .val (.long vy), .second, .val (.long vsx), .second, .val (.long vsy), .second, .val (.long ((q5 <<< ((11 : Int32) &&& 0x3f).toInt64) >>> ((11 : Int32) &&& 0x3f).toInt64)), .second, .unset, .unset, .unset, .unset, .unset, .unset, .unset, .unset, .unset, .unset]) (rfl : _ = 79) ?_
      exact ht_
    obtain ⟨vlx, hvlx⟩ : ∃ z : Int64, z = ((q5 <<< ((11 : Int32) &&& 0x3f).toInt64) >>> ((11 : Int32) &&& 0x3f).toInt64) := ⟨_, rfl⟩
    rw [← hvlx] at k41
    have b_lx := own_53 hvlx
    have k42 : ∀ t_, Steps p.tables e below (T35.setTop (mkF m 89 #[.val (.long q1), .second, .val (.long q2), .second, .val (.long q3), .second, .val (.long q4), .second, .val (.long q5), .second, .val (.long q6), .second, .val (.ref aG), .val (.int sel), .val (.long vx), .second, .val (.long vy), .second, .val (.long vsx), .second, .val (.long vsy), .second, .val (.long vlx), .second, .val (.long ((q6 <<< ((11 : Int32) &&& 0x3f).toInt64) >>> ((11 : Int32) &&& 0x3f).toInt64)), .second, .unset, .unset, .unset, .unset, .unset, .unset, .unset, .unset] [])) t_ → Steps p.tables e below A t_ := by
      intro t_ ht_
      refine k41 t_ ?_
      refine own_f_lload X35.here hx (hb hby at_79) rfl (rfl : _ = 81) ?_
      refine own_f_bipush X35.here hx (hb hby at_81) (rfl : _ = (11 : Int32)) (rfl : _ = 83) ?_
      refine own_f_lshl X35.here hx (hb hby at_83) (rfl : _ = 84) ?_
      refine own_f_bipush X35.here hx (hb hby at_84) (rfl : _ = (11 : Int32)) (rfl : _ = 86) ?_
      refine own_f_lshr X35.here hx (hb hby at_86) (rfl : _ = 87) ?_
      refine own_f_lstore X35.here hx (hb hby at_87) (rfl : storeLocals _ _ _ = some #[.val (.long q1), .second, .val (.long q2), .second, .val (.long q3), .second, .val (.long q4), .second, .val (.long q5), .second, .val (.long q6), .second, .val (.ref aG), .val (.int sel), .val (.long vx), .second, .val (.long vy), .second, .val (.long vsx), .second, .val (.long vsy), .second, .val (.long vlx), .second, .val (.long ((q6 <<< ((11 : Int32) &&& 0x3f).toInt64) >>> ((11 : Int32) &&& 0x3f).toInt64)), .second, .unset, .unset, .unset, .unset, .unset, .unset, .unset, .unset]) (rfl : _ = 89) ?_
      exact ht_
    obtain ⟨vly, hvly⟩ : ∃ z : Int64, z = ((q6 <<< ((11 : Int32) &&& 0x3f).toInt64) >>> ((11 : Int32) &&& 0x3f).toInt64) := ⟨_, rfl⟩
    rw [← hvly] at k42
    have b_ly := own_53 hvly
    have k43 : ∀ t_, Steps p.tables e below (T35.setTop (mkF m 92 #[.val (.long q1), .second, .val (.long q2), .second, .val (.long q3), .second, .val (.long q4), .second, .val (.long q5), .second, .val (.long q6), .second, .val (.ref aG), .val (.int sel), .val (.long vx), .second, .val (.long vy), .second, .val (.long vsx), .second, .val (.long vsy), .second, .val (.long vlx), .second, .val (.long vly), .second, .unset, .unset, .unset, .unset, .unset, .unset, .unset, .unset] [(.int (1 : Int32)), (.int sel)])) t_ → Steps p.tables e below A t_ := by
      intro t_ ht_
      refine k42 t_ ?_
      refine own_f_iload X35.here hx (hb hby at_89) rfl (rfl : _ = 91) ?_
      refine own_f_iconst X35.here hx (hb hby at_91) (rfl : _ = (1 : Int32)) (rfl : _ = 92) ?_
      exact ht_
    by_cases h1 : sel = (1 : Int32)
    · have hS := own_s970
      have m_x := own_scaled b_x hS (by decide)
      have m_y := own_scaled b_y hS (by decide)
      have m_sx := own_scaled b_sx hS (by decide)
      have m_sy := own_scaled b_sy hS (by decide)
      have m_lx := own_scaled b_lx hS (by decide)
      have m_ly := own_scaled b_ly hS (by decide)
      obtain ⟨n1, n2, n3, n4, iA, a1, a2, a3, RA⟩ := own_leg b_x b_sx b_lx m_x m_sx m_lx (by decide)
      obtain ⟨n5, n6, n7, n8, iB, c1, c2, c3, RB⟩ := own_leg b_y b_sy b_ly m_y m_sy m_ly (by decide)
      obtain ⟨n9, hres⟩ := own_res1 RA RB a1 a2 c1 c2 a3 c3
      obtain ⟨cq44, kq44, q44a, q44b, q44c⟩ := isOf hZ e35 ExG
      obtain ⟨_, _, ⟨T44, L44, k44_, n44⟩, -, X44, ⟨Lc44, hQ44, l44, y44, z44⟩, st44⟩ := X35.virtualBack hx (y := (⟨"com/example/honeyguide/honeyguide/CoordinateSystem", "measurable", "(DDDDDD)Z"⟩ : MethodName)) (z := (⟨"com/example/honeyguide/honeyguide/CoordinateSystem", "measurable", "(DDDDDD)Z"⟩ : MethodName)) hown (mvT hZ (hw _ (List.mem_of_getElem? (i := 4) rfl))) (mvT hZ (hw _ (List.mem_of_getElem? (i := 5) rfl))) (notFace_of_selects (args := #[]) (mvT hZ (hw _ (List.mem_of_getElem? (i := 7) rfl)))) (mvT hZ (hw _ (List.mem_of_getElem? (i := 7) rfl))) (mvT hZ (hw _ (List.mem_of_getElem? (i := 6) rfl))) (by decide) (backOf (W := 0) (rm1 l Z a0 hw [] aG (FP.dmul (FP.l2d vx) (8975674057349398528 : UInt64)) (FP.dmul (FP.l2d vy) (8975674057349398528 : UInt64)) (FP.dmul (FP.l2d vsx) (8975674057349398528 : UInt64)) (FP.dmul (FP.l2d vsy) (8975674057349398528 : UInt64)) (FP.dmul (FP.l2d vlx) (8975674057349398528 : UInt64)) (FP.dmul (FP.l2d vly) (8975674057349398528 : UInt64))  h0 n0 Z0 n1 n2 n3 n4 n5 n6 n7 n8 n9) hZ (hw _ (List.mem_of_getElem? (i := 8) rfl)) (hw _ (List.mem_of_getElem? (i := 1) rfl)) (by decide) (by decide)) q44a q44c (g := (mkF m 154 #[.val (.long q1), .second, .val (.long q2), .second, .val (.long q3), .second, .val (.long q4), .second, .val (.long q5), .second, .val (.long q6), .second, .val (.ref aG), .val (.int sel), .val (.long vx), .second, .val (.long vy), .second, .val (.long vsx), .second, .val (.long vsy), .second, .val (.long vlx), .second, .val (.long vly), .second, .val (.double (8975674057349398528 : UInt64)), .second, .unset, .unset, .unset, .unset, .unset, .unset] [(.double (FP.dmul (FP.l2d vly) (8975674057349398528 : UInt64))), (.double (FP.dmul (FP.l2d vlx) (8975674057349398528 : UInt64))), (.double (FP.dmul (FP.l2d vsy) (8975674057349398528 : UInt64))), (.double (FP.dmul (FP.l2d vsx) (8975674057349398528 : UInt64))), (.double (FP.dmul (FP.l2d vy) (8975674057349398528 : UInt64))), (.double (FP.dmul (FP.l2d vx) (8975674057349398528 : UInt64))), (.ref aG)])) rfl (by rw [hml]; rfl) (Steps.refl _) (argsL := [(.double (FP.dmul (FP.l2d vx) (8975674057349398528 : UInt64))), (.double (FP.dmul (FP.l2d vy) (8975674057349398528 : UInt64))), (.double (FP.dmul (FP.l2d vsx) (8975674057349398528 : UInt64))), (.double (FP.dmul (FP.l2d vsy) (8975674057349398528 : UInt64))), (.double (FP.dmul (FP.l2d vlx) (8975674057349398528 : UInt64))), (.double (FP.dmul (FP.l2d vly) (8975674057349398528 : UInt64)))]) (rest := []) (lenOf pd_2 rfl) rfl (by show 2 * 0 + _ ≤ _; exact Nat.le_of_eq rfl) (hb hby at_154) (fun _ _ => ⟨rfl, e35, (by decide : 0 + 0 ≤ _), (by decide : 0 + 0 ≤ _)⟩)
      dsimp only [Pt.U, Pt.locs, Pt.cells, Pt.slots] at X44 l44 y44 z44 st44 hQ44
      subst l44 y44 z44
      obtain ⟨rfl, Nq44, e44⟩ := hQ44
      have N44 := Fr.app N0 Nq44
      obtain ⟨_, _, ⟨T45, L45, k45_, n45⟩, -, X45, ⟨Lc45, hQ45, l45, y45, z45⟩, st45⟩ := Jvm.LawKit.callS X44 hx (y := (⟨"java/lang/Math", "abs", "(J)J"⟩ : MethodName)) hown (mvT hZ (hw _ (List.mem_of_getElem? (i := 17) rfl))) (mvT hZ (hw _ (List.mem_of_getElem? (i := 18) rfl))) (mvT hZ (hw _ (List.mem_of_getElem? (i := 11) rfl))) (mvT hZ (hw _ (List.mem_of_getElem? (i := 19) rfl))) (by decide) (backOf (W := 0) (rm4 l Z a0 hw [] (vsx - vx)  h0 n0 Z0) hZ (hw _ (List.mem_of_getElem? (i := 19) rfl)) (hw _ (List.mem_of_getElem? (i := 11) rfl)) (by decide) (by decide)) (g := (mkF m 164 #[.val (.long q1), .second, .val (.long q2), .second, .val (.long q3), .second, .val (.long q4), .second, .val (.long q5), .second, .val (.long q6), .second, .val (.ref aG), .val (.int sel), .val (.long vx), .second, .val (.long vy), .second, .val (.long vsx), .second, .val (.long vsy), .second, .val (.long vlx), .second, .val (.long vly), .second, .val (.double (8975674057349398528 : UInt64)), .second, .val (.int (if (cmpValue (FP.dcmp (FP.dadd (Jvm.Native.java_lang_Math.nans.pick64 true ((FP.dsub (FP.dmul (FP.l2d vsx) (8975674057349398528 : UInt64)) (FP.dmul (FP.l2d vx) (8975674057349398528 : UInt64))) &&& 0x7fffffffffffffff) ((FP.dsub (FP.dmul (FP.l2d vlx) (8975674057349398528 : UInt64)) (FP.dmul (FP.l2d vx) (8975674057349398528 : UInt64))) &&& 0x7fffffffffffffff)) (Jvm.Native.java_lang_Math.nans.pick64 true ((FP.dsub (FP.dmul (FP.l2d vsy) (8975674057349398528 : UInt64)) (FP.dmul (FP.l2d vy) (8975674057349398528 : UInt64))) &&& 0x7fffffffffffffff) ((FP.dsub (FP.dmul (FP.l2d vly) (8975674057349398528 : UInt64)) (FP.dmul (FP.l2d vy) (8975674057349398528 : UInt64))) &&& 0x7fffffffffffffff))) (9214364837600034815 : UInt64)) .g) < 0 then 1 else 0)), .unset, .unset, .unset, .unset, .unset] [(.long (vsx - vx))])) rfl (by rw [hml]; rfl) (argsL := [(.long (vsx - vx))]) (rest := []) (lenOf pd_3 rfl) rfl (by show 2 * 0 + _ ≤ _; exact Nat.le_of_eq rfl) (hb hby at_164) (fun _ _ => ⟨rfl, e44, (by decide : 0 + 0 ≤ _), (by decide : 0 + 0 ≤ _)⟩)
      dsimp only [Pt.U, Pt.locs, Pt.cells, Pt.slots] at X45 l45 y45 z45 st45 hQ45
      subst l45 y45 z45
      obtain ⟨rfl, Nq45, e45⟩ := hQ45
      have N45 := Fr.app N44 Nq45
      obtain ⟨_, _, ⟨T46, L46, k46_, n46⟩, -, X46, ⟨Lc46, hQ46, l46, y46, z46⟩, st46⟩ := Jvm.LawKit.callS X45 hx (y := (⟨"java/lang/Math", "abs", "(J)J"⟩ : MethodName)) hown (mvT hZ (hw _ (List.mem_of_getElem? (i := 17) rfl))) (mvT hZ (hw _ (List.mem_of_getElem? (i := 18) rfl))) (mvT hZ (hw _ (List.mem_of_getElem? (i := 11) rfl))) (mvT hZ (hw _ (List.mem_of_getElem? (i := 19) rfl))) (by decide) (backOf (W := 2) (rm4 l Z a0 hw [] (vlx - vx)  h0 n0 Z0) hZ (hw _ (List.mem_of_getElem? (i := 19) rfl)) (hw _ (List.mem_of_getElem? (i := 11) rfl)) (by decide) (by decide)) (g := (mkF m 172 #[.val (.long q1), .second, .val (.long q2), .second, .val (.long q3), .second, .val (.long q4), .second, .val (.long q5), .second, .val (.long q6), .second, .val (.ref aG), .val (.int sel), .val (.long vx), .second, .val (.long vy), .second, .val (.long vsx), .second, .val (.long vsy), .second, .val (.long vlx), .second, .val (.long vly), .second, .val (.double (8975674057349398528 : UInt64)), .second, .val (.int (if (cmpValue (FP.dcmp (FP.dadd (Jvm.Native.java_lang_Math.nans.pick64 true ((FP.dsub (FP.dmul (FP.l2d vsx) (8975674057349398528 : UInt64)) (FP.dmul (FP.l2d vx) (8975674057349398528 : UInt64))) &&& 0x7fffffffffffffff) ((FP.dsub (FP.dmul (FP.l2d vlx) (8975674057349398528 : UInt64)) (FP.dmul (FP.l2d vx) (8975674057349398528 : UInt64))) &&& 0x7fffffffffffffff)) (Jvm.Native.java_lang_Math.nans.pick64 true ((FP.dsub (FP.dmul (FP.l2d vsy) (8975674057349398528 : UInt64)) (FP.dmul (FP.l2d vy) (8975674057349398528 : UInt64))) &&& 0x7fffffffffffffff) ((FP.dsub (FP.dmul (FP.l2d vly) (8975674057349398528 : UInt64)) (FP.dmul (FP.l2d vy) (8975674057349398528 : UInt64))) &&& 0x7fffffffffffffff))) (9214364837600034815 : UInt64)) .g) < 0 then 1 else 0)), .unset, .unset, .unset, .unset, .unset] [(.long (vlx - vx)), (.long (own_labs (vsx - vx)))])) rfl (by rw [hml]; rfl) (argsL := [(.long (vlx - vx))]) (rest := [(.long (own_labs (vsx - vx)))]) (lenOf pd_3 rfl) rfl (by show 2 * 0 + _ ≤ _; exact Nat.le_of_eq rfl) (hb hby at_172) (fun _ _ => ⟨rfl, e45, (by decide : 0 + 0 ≤ _), (by decide : 0 + 0 ≤ _)⟩)
      dsimp only [Pt.U, Pt.locs, Pt.cells, Pt.slots] at X46 l46 y46 z46 st46 hQ46
      subst l46 y46 z46
      obtain ⟨rfl, Nq46, e46⟩ := hQ46
      have N46 := Fr.app N45 Nq46
      obtain ⟨_, _, ⟨T47, L47, k47_, n47⟩, -, X47, ⟨Lc47, hQ47, l47, y47, z47⟩, st47⟩ := Jvm.LawKit.callS X46 hx (y := (⟨"java/lang/Math", "max", "(JJ)J"⟩ : MethodName)) hown (mvT hZ (hw _ (List.mem_of_getElem? (i := 20) rfl))) (mvT hZ (hw _ (List.mem_of_getElem? (i := 21) rfl))) (mvT hZ (hw _ (List.mem_of_getElem? (i := 11) rfl))) (mvT hZ (hw _ (List.mem_of_getElem? (i := 22) rfl))) (by decide) (backOf (W := 0) (rm5 l Z a0 hw [] (own_labs (vsx - vx)) (own_labs (vlx - vx))  h0 n0 Z0) hZ (hw _ (List.mem_of_getElem? (i := 22) rfl)) (hw _ (List.mem_of_getElem? (i := 11) rfl)) (by decide) (by decide)) (g := (mkF m 175 #[.val (.long q1), .second, .val (.long q2), .second, .val (.long q3), .second, .val (.long q4), .second, .val (.long q5), .second, .val (.long q6), .second, .val (.ref aG), .val (.int sel), .val (.long vx), .second, .val (.long vy), .second, .val (.long vsx), .second, .val (.long vsy), .second, .val (.long vlx), .second, .val (.long vly), .second, .val (.double (8975674057349398528 : UInt64)), .second, .val (.int (if (cmpValue (FP.dcmp (FP.dadd (Jvm.Native.java_lang_Math.nans.pick64 true ((FP.dsub (FP.dmul (FP.l2d vsx) (8975674057349398528 : UInt64)) (FP.dmul (FP.l2d vx) (8975674057349398528 : UInt64))) &&& 0x7fffffffffffffff) ((FP.dsub (FP.dmul (FP.l2d vlx) (8975674057349398528 : UInt64)) (FP.dmul (FP.l2d vx) (8975674057349398528 : UInt64))) &&& 0x7fffffffffffffff)) (Jvm.Native.java_lang_Math.nans.pick64 true ((FP.dsub (FP.dmul (FP.l2d vsy) (8975674057349398528 : UInt64)) (FP.dmul (FP.l2d vy) (8975674057349398528 : UInt64))) &&& 0x7fffffffffffffff) ((FP.dsub (FP.dmul (FP.l2d vly) (8975674057349398528 : UInt64)) (FP.dmul (FP.l2d vy) (8975674057349398528 : UInt64))) &&& 0x7fffffffffffffff))) (9214364837600034815 : UInt64)) .g) < 0 then 1 else 0)), .unset, .unset, .unset, .unset, .unset] [(.long (own_labs (vlx - vx))), (.long (own_labs (vsx - vx)))])) rfl (by rw [hml]; rfl) (argsL := [(.long (own_labs (vsx - vx))), (.long (own_labs (vlx - vx)))]) (rest := []) (lenOf pd_4 rfl) rfl (by show 2 * 0 + _ ≤ _; exact Nat.le_of_eq rfl) (hb hby at_175) (fun _ _ => ⟨rfl, e46, (by decide : 0 + 0 ≤ _), (by decide : 0 + 0 ≤ _)⟩)
      dsimp only [Pt.U, Pt.locs, Pt.cells, Pt.slots] at X47 l47 y47 z47 st47 hQ47
      subst l47 y47 z47
      obtain ⟨rfl, Nq47, e47⟩ := hQ47
      have N47 := Fr.app N46 Nq47
      obtain ⟨_, _, ⟨T48, L48, k48_, n48⟩, -, X48, ⟨Lc48, hQ48, l48, y48, z48⟩, st48⟩ := Jvm.LawKit.callS X47 hx (y := (⟨"java/lang/Math", "abs", "(J)J"⟩ : MethodName)) hown (mvT hZ (hw _ (List.mem_of_getElem? (i := 17) rfl))) (mvT hZ (hw _ (List.mem_of_getElem? (i := 18) rfl))) (mvT hZ (hw _ (List.mem_of_getElem? (i := 11) rfl))) (mvT hZ (hw _ (List.mem_of_getElem? (i := 19) rfl))) (by decide) (backOf (W := 2) (rm4 l Z a0 hw [] (vsy - vy)  h0 n0 Z0) hZ (hw _ (List.mem_of_getElem? (i := 19) rfl)) (hw _ (List.mem_of_getElem? (i := 11) rfl)) (by decide) (by decide)) (g := (mkF m 183 #[.val (.long q1), .second, .val (.long q2), .second, .val (.long q3), .second, .val (.long q4), .second, .val (.long q5), .second, .val (.long q6), .second, .val (.ref aG), .val (.int sel), .val (.long vx), .second, .val (.long vy), .second, .val (.long vsx), .second, .val (.long vsy), .second, .val (.long vlx), .second, .val (.long vly), .second, .val (.double (8975674057349398528 : UInt64)), .second, .val (.int (if (cmpValue (FP.dcmp (FP.dadd (Jvm.Native.java_lang_Math.nans.pick64 true ((FP.dsub (FP.dmul (FP.l2d vsx) (8975674057349398528 : UInt64)) (FP.dmul (FP.l2d vx) (8975674057349398528 : UInt64))) &&& 0x7fffffffffffffff) ((FP.dsub (FP.dmul (FP.l2d vlx) (8975674057349398528 : UInt64)) (FP.dmul (FP.l2d vx) (8975674057349398528 : UInt64))) &&& 0x7fffffffffffffff)) (Jvm.Native.java_lang_Math.nans.pick64 true ((FP.dsub (FP.dmul (FP.l2d vsy) (8975674057349398528 : UInt64)) (FP.dmul (FP.l2d vy) (8975674057349398528 : UInt64))) &&& 0x7fffffffffffffff) ((FP.dsub (FP.dmul (FP.l2d vly) (8975674057349398528 : UInt64)) (FP.dmul (FP.l2d vy) (8975674057349398528 : UInt64))) &&& 0x7fffffffffffffff))) (9214364837600034815 : UInt64)) .g) < 0 then 1 else 0)), .unset, .unset, .unset, .unset, .unset] [(.long (vsy - vy)), (.long (own_lmax (own_labs (vsx - vx)) (own_labs (vlx - vx))))])) rfl (by rw [hml]; rfl) (argsL := [(.long (vsy - vy))]) (rest := [(.long (own_lmax (own_labs (vsx - vx)) (own_labs (vlx - vx))))]) (lenOf pd_3 rfl) rfl (by show 2 * 0 + _ ≤ _; exact Nat.le_of_eq rfl) (hb hby at_183) (fun _ _ => ⟨rfl, e47, (by decide : 0 + 0 ≤ _), (by decide : 0 + 0 ≤ _)⟩)
      dsimp only [Pt.U, Pt.locs, Pt.cells, Pt.slots] at X48 l48 y48 z48 st48 hQ48
      subst l48 y48 z48
      obtain ⟨rfl, Nq48, e48⟩ := hQ48
      have N48 := Fr.app N47 Nq48
      obtain ⟨_, _, ⟨T49, L49, k49_, n49⟩, -, X49, ⟨Lc49, hQ49, l49, y49, z49⟩, st49⟩ := Jvm.LawKit.callS X48 hx (y := (⟨"java/lang/Math", "abs", "(J)J"⟩ : MethodName)) hown (mvT hZ (hw _ (List.mem_of_getElem? (i := 17) rfl))) (mvT hZ (hw _ (List.mem_of_getElem? (i := 18) rfl))) (mvT hZ (hw _ (List.mem_of_getElem? (i := 11) rfl))) (mvT hZ (hw _ (List.mem_of_getElem? (i := 19) rfl))) (by decide) (backOf (W := 4) (rm4 l Z a0 hw [] (vly - vy)  h0 n0 Z0) hZ (hw _ (List.mem_of_getElem? (i := 19) rfl)) (hw _ (List.mem_of_getElem? (i := 11) rfl)) (by decide) (by decide)) (g := (mkF m 191 #[.val (.long q1), .second, .val (.long q2), .second, .val (.long q3), .second, .val (.long q4), .second, .val (.long q5), .second, .val (.long q6), .second, .val (.ref aG), .val (.int sel), .val (.long vx), .second, .val (.long vy), .second, .val (.long vsx), .second, .val (.long vsy), .second, .val (.long vlx), .second, .val (.long vly), .second, .val (.double (8975674057349398528 : UInt64)), .second, .val (.int (if (cmpValue (FP.dcmp (FP.dadd (Jvm.Native.java_lang_Math.nans.pick64 true ((FP.dsub (FP.dmul (FP.l2d vsx) (8975674057349398528 : UInt64)) (FP.dmul (FP.l2d vx) (8975674057349398528 : UInt64))) &&& 0x7fffffffffffffff) ((FP.dsub (FP.dmul (FP.l2d vlx) (8975674057349398528 : UInt64)) (FP.dmul (FP.l2d vx) (8975674057349398528 : UInt64))) &&& 0x7fffffffffffffff)) (Jvm.Native.java_lang_Math.nans.pick64 true ((FP.dsub (FP.dmul (FP.l2d vsy) (8975674057349398528 : UInt64)) (FP.dmul (FP.l2d vy) (8975674057349398528 : UInt64))) &&& 0x7fffffffffffffff) ((FP.dsub (FP.dmul (FP.l2d vly) (8975674057349398528 : UInt64)) (FP.dmul (FP.l2d vy) (8975674057349398528 : UInt64))) &&& 0x7fffffffffffffff))) (9214364837600034815 : UInt64)) .g) < 0 then 1 else 0)), .unset, .unset, .unset, .unset, .unset] [(.long (vly - vy)), (.long (own_labs (vsy - vy))), (.long (own_lmax (own_labs (vsx - vx)) (own_labs (vlx - vx))))])) rfl (by rw [hml]; rfl) (argsL := [(.long (vly - vy))]) (rest := [(.long (own_labs (vsy - vy))), (.long (own_lmax (own_labs (vsx - vx)) (own_labs (vlx - vx))))]) (lenOf pd_3 rfl) rfl (by show 2 * 0 + _ ≤ _; exact Nat.le_of_eq rfl) (hb hby at_191) (fun _ _ => ⟨rfl, e48, (by decide : 0 + 0 ≤ _), (by decide : 0 + 0 ≤ _)⟩)
      dsimp only [Pt.U, Pt.locs, Pt.cells, Pt.slots] at X49 l49 y49 z49 st49 hQ49
      subst l49 y49 z49
      obtain ⟨rfl, Nq49, e49⟩ := hQ49
      have N49 := Fr.app N48 Nq49
      obtain ⟨_, _, ⟨T50, L50, k50_, n50⟩, -, X50, ⟨Lc50, hQ50, l50, y50, z50⟩, st50⟩ := Jvm.LawKit.callS X49 hx (y := (⟨"java/lang/Math", "max", "(JJ)J"⟩ : MethodName)) hown (mvT hZ (hw _ (List.mem_of_getElem? (i := 20) rfl))) (mvT hZ (hw _ (List.mem_of_getElem? (i := 21) rfl))) (mvT hZ (hw _ (List.mem_of_getElem? (i := 11) rfl))) (mvT hZ (hw _ (List.mem_of_getElem? (i := 22) rfl))) (by decide) (backOf (W := 2) (rm5 l Z a0 hw [] (own_labs (vsy - vy)) (own_labs (vly - vy))  h0 n0 Z0) hZ (hw _ (List.mem_of_getElem? (i := 22) rfl)) (hw _ (List.mem_of_getElem? (i := 11) rfl)) (by decide) (by decide)) (g := (mkF m 194 #[.val (.long q1), .second, .val (.long q2), .second, .val (.long q3), .second, .val (.long q4), .second, .val (.long q5), .second, .val (.long q6), .second, .val (.ref aG), .val (.int sel), .val (.long vx), .second, .val (.long vy), .second, .val (.long vsx), .second, .val (.long vsy), .second, .val (.long vlx), .second, .val (.long vly), .second, .val (.double (8975674057349398528 : UInt64)), .second, .val (.int (if (cmpValue (FP.dcmp (FP.dadd (Jvm.Native.java_lang_Math.nans.pick64 true ((FP.dsub (FP.dmul (FP.l2d vsx) (8975674057349398528 : UInt64)) (FP.dmul (FP.l2d vx) (8975674057349398528 : UInt64))) &&& 0x7fffffffffffffff) ((FP.dsub (FP.dmul (FP.l2d vlx) (8975674057349398528 : UInt64)) (FP.dmul (FP.l2d vx) (8975674057349398528 : UInt64))) &&& 0x7fffffffffffffff)) (Jvm.Native.java_lang_Math.nans.pick64 true ((FP.dsub (FP.dmul (FP.l2d vsy) (8975674057349398528 : UInt64)) (FP.dmul (FP.l2d vy) (8975674057349398528 : UInt64))) &&& 0x7fffffffffffffff) ((FP.dsub (FP.dmul (FP.l2d vly) (8975674057349398528 : UInt64)) (FP.dmul (FP.l2d vy) (8975674057349398528 : UInt64))) &&& 0x7fffffffffffffff))) (9214364837600034815 : UInt64)) .g) < 0 then 1 else 0)), .unset, .unset, .unset, .unset, .unset] [(.long (own_labs (vly - vy))), (.long (own_labs (vsy - vy))), (.long (own_lmax (own_labs (vsx - vx)) (own_labs (vlx - vx))))])) rfl (by rw [hml]; rfl) (argsL := [(.long (own_labs (vsy - vy))), (.long (own_labs (vly - vy)))]) (rest := [(.long (own_lmax (own_labs (vsx - vx)) (own_labs (vlx - vx))))]) (lenOf pd_4 rfl) rfl (by show 2 * 0 + _ ≤ _; exact Nat.le_of_eq rfl) (hb hby at_194) (fun _ _ => ⟨rfl, e49, (by decide : 0 + 0 ≤ _), (by decide : 0 + 0 ≤ _)⟩)
      dsimp only [Pt.U, Pt.locs, Pt.cells, Pt.slots] at X50 l50 y50 z50 st50 hQ50
      subst l50 y50 z50
      obtain ⟨rfl, Nq50, e50⟩ := hQ50
      have N50 := Fr.app N49 Nq50
      have k51 : ∀ t_, Steps p.tables e below (T50.setTop (mkF m 216 #[.val (.long q1), .second, .val (.long q2), .second, .val (.long q3), .second, .val (.long q4), .second, .val (.long q5), .second, .val (.long q6), .second, .val (.ref aG), .val (.int sel), .val (.long vx), .second, .val (.long vy), .second, .val (.long vsx), .second, .val (.long vsy), .second, .val (.long vlx), .second, .val (.long vly), .second, .val (.double (8975674057349398528 : UInt64)), .second, .val (.int (if (cmpValue (FP.dcmp (FP.dadd (Jvm.Native.java_lang_Math.nans.pick64 true ((FP.dsub (FP.dmul (FP.l2d vsx) (8975674057349398528 : UInt64)) (FP.dmul (FP.l2d vx) (8975674057349398528 : UInt64))) &&& 0x7fffffffffffffff) ((FP.dsub (FP.dmul (FP.l2d vlx) (8975674057349398528 : UInt64)) (FP.dmul (FP.l2d vx) (8975674057349398528 : UInt64))) &&& 0x7fffffffffffffff)) (Jvm.Native.java_lang_Math.nans.pick64 true ((FP.dsub (FP.dmul (FP.l2d vsy) (8975674057349398528 : UInt64)) (FP.dmul (FP.l2d vy) (8975674057349398528 : UInt64))) &&& 0x7fffffffffffffff) ((FP.dsub (FP.dmul (FP.l2d vly) (8975674057349398528 : UInt64)) (FP.dmul (FP.l2d vy) (8975674057349398528 : UInt64))) &&& 0x7fffffffffffffff))) (9214364837600034815 : UInt64)) .g) < 0 then 1 else 0)), .val (.long ((own_lmax (own_labs (vsx - vx)) (own_labs (vlx - vx))) + (own_lmax (own_labs (vsy - vy)) (own_labs (vly - vy))))), .second, .val (.long (9007199254740991 : Int64)), .second, .unset] [(.int (lcmpW ((own_lmax (own_labs (vsx - vx)) (own_labs (vlx - vx))) + (own_lmax (own_labs (vsy - vy)) (own_labs (vly - vy)))) (9007199254740991 : Int64)))])) t_ → Steps p.tables e below A t_ := by
        intro t_ ht_
        refine k43 t_ ?_
        refine own_f_icmpNo X35.here hx (hb hby at_92) (teq (h1)).2 (rfl : _ = 95) ?_
        refine own_f_ldc2DoubleC X35 hx hown (mvT hZ (hw _ (List.mem_of_getElem? (i := 29) rfl))) (hb hby at_95) (rfl : _ = 98) ?_
        refine own_f_goto X35.here hx (hb hby at_98) (by decide) (by decide : _ = 114) ?_
        refine own_f_dstore X35.here hx (hb hby at_114) (rfl : storeLocals _ _ _ = some #[.val (.long q1), .second, .val (.long q2), .second, .val (.long q3), .second, .val (.long q4), .second, .val (.long q5), .second, .val (.long q6), .second, .val (.ref aG), .val (.int sel), .val (.long vx), .second, .val (.long vy), .second, .val (.long vsx), .second, .val (.long vsy), .second, .val (.long vlx), .second, .val (.long vly), .second, .val (.double (8975674057349398528 : UInt64)), .second, .unset, .unset, .unset, .unset, .unset, .unset]) (rfl : _ = 116) ?_
        refine own_f_aload X35.here hx (hb hby at_116) rfl rfl (rfl : _ = 118) ?_
        refine own_f_lload X35.here hx (hb hby at_118) rfl (rfl : _ = 120) ?_
        refine own_f_l2d X35.here hx (hb hby at_120) rfl (rfl : _ = 121) ?_
        refine own_f_dload X35.here hx (hb hby at_121) rfl (rfl : _ = 123) ?_
        refine own_f_dmul X35.here hx (hb hby at_123) (own_noNaN m_x) rfl (rfl : _ = 124) ?_
        refine own_f_lload X35.here hx (hb hby at_124) rfl (rfl : _ = 126) ?_
        refine own_f_l2d X35.here hx (hb hby at_126) rfl (rfl : _ = 127) ?_
        refine own_f_dload X35.here hx (hb hby at_127) rfl (rfl : _ = 129) ?_
        refine own_f_dmul X35.here hx (hb hby at_129) (own_noNaN m_y) rfl (rfl : _ = 130) ?_
        refine own_f_lload X35.here hx (hb hby at_130) rfl (rfl : _ = 132) ?_
        refine own_f_l2d X35.here hx (hb hby at_132) rfl (rfl : _ = 133) ?_
        refine own_f_dload X35.here hx (hb hby at_133) rfl (rfl : _ = 135) ?_
        refine own_f_dmul X35.here hx (hb hby at_135) (own_noNaN m_sx) rfl (rfl : _ = 136) ?_
        refine own_f_lload X35.here hx (hb hby at_136) rfl (rfl : _ = 138) ?_
        refine own_f_l2d X35.here hx (hb hby at_138) rfl (rfl : _ = 139) ?_
        refine own_f_dload X35.here hx (hb hby at_139) rfl (rfl : _ = 141) ?_
        refine own_f_dmul X35.here hx (hb hby at_141) (own_noNaN m_sy) rfl (rfl : _ = 142) ?_
        refine own_f_lload X35.here hx (hb hby at_142) rfl (rfl : _ = 144) ?_
        refine own_f_l2d X35.here hx (hb hby at_144) rfl (rfl : _ = 145) ?_
        refine own_f_dload X35.here hx (hb hby at_145) rfl (rfl : _ = 147) ?_
        refine own_f_dmul X35.here hx (hb hby at_147) (own_noNaN m_lx) rfl (rfl : _ = 148) ?_
        refine own_f_lload X35.here hx (hb hby at_148) rfl (rfl : _ = 150) ?_
        refine own_f_l2d X35.here hx (hb hby at_150) rfl (rfl : _ = 151) ?_
        refine own_f_dload X35.here hx (hb hby at_151) rfl (rfl : _ = 153) ?_
        refine own_f_dmul X35.here hx (hb hby at_153) (own_noNaN m_ly) rfl (rfl : _ = 154) ?_
        refine st44.trans ?_
        show Steps p.tables e below (T44.setTop (mkF m 157 #[.val (.long q1), .second, .val (.long q2), .second, .val (.long q3), .second, .val (.long q4), .second, .val (.long q5), .second, .val (.long q6), .second, .val (.ref aG), .val (.int sel), .val (.long vx), .second, .val (.long vy), .second, .val (.long vsx), .second, .val (.long vsy), .second, .val (.long vlx), .second, .val (.long vly), .second, .val (.double (8975674057349398528 : UInt64)), .second, .unset, .unset, .unset, .unset, .unset, .unset] [(.int (if (cmpValue (FP.dcmp (FP.dadd (Jvm.Native.java_lang_Math.nans.pick64 true ((FP.dsub (FP.dmul (FP.l2d vsx) (8975674057349398528 : UInt64)) (FP.dmul (FP.l2d vx) (8975674057349398528 : UInt64))) &&& 0x7fffffffffffffff) ((FP.dsub (FP.dmul (FP.l2d vlx) (8975674057349398528 : UInt64)) (FP.dmul (FP.l2d vx) (8975674057349398528 : UInt64))) &&& 0x7fffffffffffffff)) (Jvm.Native.java_lang_Math.nans.pick64 true ((FP.dsub (FP.dmul (FP.l2d vsy) (8975674057349398528 : UInt64)) (FP.dmul (FP.l2d vy) (8975674057349398528 : UInt64))) &&& 0x7fffffffffffffff) ((FP.dsub (FP.dmul (FP.l2d vly) (8975674057349398528 : UInt64)) (FP.dmul (FP.l2d vy) (8975674057349398528 : UInt64))) &&& 0x7fffffffffffffff))) (9214364837600034815 : UInt64)) .g) < 0 then 1 else 0))])) t_
        refine own_f_istore X44.here hx (hb hby at_157) (rfl : storeLocals _ _ _ = some #[.val (.long q1), .second, .val (.long q2), .second, .val (.long q3), .second, .val (.long q4), .second, .val (.long q5), .second, .val (.long q6), .second, .val (.ref aG), .val (.int sel), .val (.long vx), .second, .val (.long vy), .second, .val (.long vsx), .second, .val (.long vsy), .second, .val (.long vlx), .second, .val (.long vly), .second, .val (.double (8975674057349398528 : UInt64)), .second, .val (.int (if (cmpValue (FP.dcmp (FP.dadd (Jvm.Native.java_lang_Math.nans.pick64 true ((FP.dsub (FP.dmul (FP.l2d vsx) (8975674057349398528 : UInt64)) (FP.dmul (FP.l2d vx) (8975674057349398528 : UInt64))) &&& 0x7fffffffffffffff) ((FP.dsub (FP.dmul (FP.l2d vlx) (8975674057349398528 : UInt64)) (FP.dmul (FP.l2d vx) (8975674057349398528 : UInt64))) &&& 0x7fffffffffffffff)) (Jvm.Native.java_lang_Math.nans.pick64 true ((FP.dsub (FP.dmul (FP.l2d vsy) (8975674057349398528 : UInt64)) (FP.dmul (FP.l2d vy) (8975674057349398528 : UInt64))) &&& 0x7fffffffffffffff) ((FP.dsub (FP.dmul (FP.l2d vly) (8975674057349398528 : UInt64)) (FP.dmul (FP.l2d vy) (8975674057349398528 : UInt64))) &&& 0x7fffffffffffffff))) (9214364837600034815 : UInt64)) .g) < 0 then 1 else 0)), .unset, .unset, .unset, .unset, .unset]) (rfl : _ = 159) ?_
        refine own_f_lload X44.here hx (hb hby at_159) rfl (rfl : _ = 161) ?_
        refine own_f_lload X44.here hx (hb hby at_161) rfl (rfl : _ = 163) ?_
        refine own_f_lsub X44.here hx (hb hby at_163) rfl (rfl : _ = 164) ?_
        refine st45 _ ?_
        show Steps p.tables e below (T45.setTop (mkF m 167 #[.val (.long q1), .second, .val (.long q2), .second, .val (.long q3), .second, .val (.long q4), .second, .val (.long q5), .second, .val (.long q6), .second, .val (.ref aG), .val (.int sel), .val (.long vx), .second, .val (.long vy), .second, .val (.long vsx), .second, .val (.long vsy), .second, .val (.long vlx), .second, .val (.long vly), .second, .val (.double (8975674057349398528 : UInt64)), .second, .val (.int (if (cmpValue (FP.dcmp (FP.dadd (Jvm.Native.java_lang_Math.nans.pick64 true ((FP.dsub (FP.dmul (FP.l2d vsx) (8975674057349398528 : UInt64)) (FP.dmul (FP.l2d vx) (8975674057349398528 : UInt64))) &&& 0x7fffffffffffffff) ((FP.dsub (FP.dmul (FP.l2d vlx) (8975674057349398528 : UInt64)) (FP.dmul (FP.l2d vx) (8975674057349398528 : UInt64))) &&& 0x7fffffffffffffff)) (Jvm.Native.java_lang_Math.nans.pick64 true ((FP.dsub (FP.dmul (FP.l2d vsy) (8975674057349398528 : UInt64)) (FP.dmul (FP.l2d vy) (8975674057349398528 : UInt64))) &&& 0x7fffffffffffffff) ((FP.dsub (FP.dmul (FP.l2d vly) (8975674057349398528 : UInt64)) (FP.dmul (FP.l2d vy) (8975674057349398528 : UInt64))) &&& 0x7fffffffffffffff))) (9214364837600034815 : UInt64)) .g) < 0 then 1 else 0)), .unset, .unset, .unset, .unset, .unset] [(.long (own_labs (vsx - vx)))])) t_
        refine own_f_lload X45.here hx (hb hby at_167) rfl (rfl : _ = 169) ?_
        refine own_f_lload X45.here hx (hb hby at_169) rfl (rfl : _ = 171) ?_
        refine own_f_lsub X45.here hx (hb hby at_171) rfl (rfl : _ = 172) ?_
        refine st46 _ ?_
        show Steps p.tables e below (T46.setTop (mkF m 175 #[.val (.long q1), .second, .val (.long q2), .second, .val (.long q3), .second, .val (.long q4), .second, .val (.long q5), .second, .val (.long q6), .second, .val (.ref aG), .val (.int sel), .val (.long vx), .second, .val (.long vy), .second, .val (.long vsx), .second, .val (.long vsy), .second, .val (.long vlx), .second, .val (.long vly), .second, .val (.double (8975674057349398528 : UInt64)), .second, .val (.int (if (cmpValue (FP.dcmp (FP.dadd (Jvm.Native.java_lang_Math.nans.pick64 true ((FP.dsub (FP.dmul (FP.l2d vsx) (8975674057349398528 : UInt64)) (FP.dmul (FP.l2d vx) (8975674057349398528 : UInt64))) &&& 0x7fffffffffffffff) ((FP.dsub (FP.dmul (FP.l2d vlx) (8975674057349398528 : UInt64)) (FP.dmul (FP.l2d vx) (8975674057349398528 : UInt64))) &&& 0x7fffffffffffffff)) (Jvm.Native.java_lang_Math.nans.pick64 true ((FP.dsub (FP.dmul (FP.l2d vsy) (8975674057349398528 : UInt64)) (FP.dmul (FP.l2d vy) (8975674057349398528 : UInt64))) &&& 0x7fffffffffffffff) ((FP.dsub (FP.dmul (FP.l2d vly) (8975674057349398528 : UInt64)) (FP.dmul (FP.l2d vy) (8975674057349398528 : UInt64))) &&& 0x7fffffffffffffff))) (9214364837600034815 : UInt64)) .g) < 0 then 1 else 0)), .unset, .unset, .unset, .unset, .unset] [(.long (own_labs (vlx - vx))), (.long (own_labs (vsx - vx)))])) t_
        refine st47 _ ?_
        show Steps p.tables e below (T47.setTop (mkF m 178 #[.val (.long q1), .second, .val (.long q2), .second, .val (.long q3), .second, .val (.long q4), .second, .val (.long q5), .second, .val (.long q6), .second, .val (.ref aG), .val (.int sel), .val (.long vx), .second, .val (.long vy), .second, .val (.long vsx), .second, .val (.long vsy), .second, .val (.long vlx), .second, .val (.long vly), .second, .val (.double (8975674057349398528 : UInt64)), .second, .val (.int (if (cmpValue (FP.dcmp (FP.dadd (Jvm.Native.java_lang_Math.nans.pick64 true ((FP.dsub (FP.dmul (FP.l2d vsx) (8975674057349398528 : UInt64)) (FP.dmul (FP.l2d vx) (8975674057349398528 : UInt64))) &&& 0x7fffffffffffffff) ((FP.dsub (FP.dmul (FP.l2d vlx) (8975674057349398528 : UInt64)) (FP.dmul (FP.l2d vx) (8975674057349398528 : UInt64))) &&& 0x7fffffffffffffff)) (Jvm.Native.java_lang_Math.nans.pick64 true ((FP.dsub (FP.dmul (FP.l2d vsy) (8975674057349398528 : UInt64)) (FP.dmul (FP.l2d vy) (8975674057349398528 : UInt64))) &&& 0x7fffffffffffffff) ((FP.dsub (FP.dmul (FP.l2d vly) (8975674057349398528 : UInt64)) (FP.dmul (FP.l2d vy) (8975674057349398528 : UInt64))) &&& 0x7fffffffffffffff))) (9214364837600034815 : UInt64)) .g) < 0 then 1 else 0)), .unset, .unset, .unset, .unset, .unset] [(.long (own_lmax (own_labs (vsx - vx)) (own_labs (vlx - vx))))])) t_
        refine own_f_lload X47.here hx (hb hby at_178) rfl (rfl : _ = 180) ?_
        refine own_f_lload X47.here hx (hb hby at_180) rfl (rfl : _ = 182) ?_
        refine own_f_lsub X47.here hx (hb hby at_182) rfl (rfl : _ = 183) ?_
        refine st48 _ ?_
        show Steps p.tables e below (T48.setTop (mkF m 186 #[.val (.long q1), .second, .val (.long q2), .second, .val (.long q3), .second, .val (.long q4), .second, .val (.long q5), .second, .val (.long q6), .second, .val (.ref aG), .val (.int sel), .val (.long vx), .second, .val (.long vy), .second, .val (.long vsx), .second, .val (.long vsy), .second, .val (.long vlx), .second, .val (.long vly), .second, .val (.double (8975674057349398528 : UInt64)), .second, .val (.int (if (cmpValue (FP.dcmp (FP.dadd (Jvm.Native.java_lang_Math.nans.pick64 true ((FP.dsub (FP.dmul (FP.l2d vsx) (8975674057349398528 : UInt64)) (FP.dmul (FP.l2d vx) (8975674057349398528 : UInt64))) &&& 0x7fffffffffffffff) ((FP.dsub (FP.dmul (FP.l2d vlx) (8975674057349398528 : UInt64)) (FP.dmul (FP.l2d vx) (8975674057349398528 : UInt64))) &&& 0x7fffffffffffffff)) (Jvm.Native.java_lang_Math.nans.pick64 true ((FP.dsub (FP.dmul (FP.l2d vsy) (8975674057349398528 : UInt64)) (FP.dmul (FP.l2d vy) (8975674057349398528 : UInt64))) &&& 0x7fffffffffffffff) ((FP.dsub (FP.dmul (FP.l2d vly) (8975674057349398528 : UInt64)) (FP.dmul (FP.l2d vy) (8975674057349398528 : UInt64))) &&& 0x7fffffffffffffff))) (9214364837600034815 : UInt64)) .g) < 0 then 1 else 0)), .unset, .unset, .unset, .unset, .unset] [(.long (own_labs (vsy - vy))), (.long (own_lmax (own_labs (vsx - vx)) (own_labs (vlx - vx))))])) t_
        refine own_f_lload X48.here hx (hb hby at_186) rfl (rfl : _ = 188) ?_
        refine own_f_lload X48.here hx (hb hby at_188) rfl (rfl : _ = 190) ?_
        refine own_f_lsub X48.here hx (hb hby at_190) rfl (rfl : _ = 191) ?_
        refine st49 _ ?_
        show Steps p.tables e below (T49.setTop (mkF m 194 #[.val (.long q1), .second, .val (.long q2), .second, .val (.long q3), .second, .val (.long q4), .second, .val (.long q5), .second, .val (.long q6), .second, .val (.ref aG), .val (.int sel), .val (.long vx), .second, .val (.long vy), .second, .val (.long vsx), .second, .val (.long vsy), .second, .val (.long vlx), .second, .val (.long vly), .second, .val (.double (8975674057349398528 : UInt64)), .second, .val (.int (if (cmpValue (FP.dcmp (FP.dadd (Jvm.Native.java_lang_Math.nans.pick64 true ((FP.dsub (FP.dmul (FP.l2d vsx) (8975674057349398528 : UInt64)) (FP.dmul (FP.l2d vx) (8975674057349398528 : UInt64))) &&& 0x7fffffffffffffff) ((FP.dsub (FP.dmul (FP.l2d vlx) (8975674057349398528 : UInt64)) (FP.dmul (FP.l2d vx) (8975674057349398528 : UInt64))) &&& 0x7fffffffffffffff)) (Jvm.Native.java_lang_Math.nans.pick64 true ((FP.dsub (FP.dmul (FP.l2d vsy) (8975674057349398528 : UInt64)) (FP.dmul (FP.l2d vy) (8975674057349398528 : UInt64))) &&& 0x7fffffffffffffff) ((FP.dsub (FP.dmul (FP.l2d vly) (8975674057349398528 : UInt64)) (FP.dmul (FP.l2d vy) (8975674057349398528 : UInt64))) &&& 0x7fffffffffffffff))) (9214364837600034815 : UInt64)) .g) < 0 then 1 else 0)), .unset, .unset, .unset, .unset, .unset] [(.long (own_labs (vly - vy))), (.long (own_labs (vsy - vy))), (.long (own_lmax (own_labs (vsx - vx)) (own_labs (vlx - vx))))])) t_
        refine st50 _ ?_
        show Steps p.tables e below (T50.setTop (mkF m 197 #[.val (.long q1), .second, .val (.long q2), .second, .val (.long q3), .second, .val (.long q4), .second, .val (.long q5), .second, .val (.long q6), .second, .val (.ref aG), .val (.int sel), .val (.long vx), .second, .val (.long vy), .second, .val (.long vsx), .second, .val (.long vsy), .second, .val (.long vlx), .second, .val (.long vly), .second, .val (.double (8975674057349398528 : UInt64)), .second, .val (.int (if (cmpValue (FP.dcmp (FP.dadd (Jvm.Native.java_lang_Math.nans.pick64 true ((FP.dsub (FP.dmul (FP.l2d vsx) (8975674057349398528 : UInt64)) (FP.dmul (FP.l2d vx) (8975674057349398528 : UInt64))) &&& 0x7fffffffffffffff) ((FP.dsub (FP.dmul (FP.l2d vlx) (8975674057349398528 : UInt64)) (FP.dmul (FP.l2d vx) (8975674057349398528 : UInt64))) &&& 0x7fffffffffffffff)) (Jvm.Native.java_lang_Math.nans.pick64 true ((FP.dsub (FP.dmul (FP.l2d vsy) (8975674057349398528 : UInt64)) (FP.dmul (FP.l2d vy) (8975674057349398528 : UInt64))) &&& 0x7fffffffffffffff) ((FP.dsub (FP.dmul (FP.l2d vly) (8975674057349398528 : UInt64)) (FP.dmul (FP.l2d vy) (8975674057349398528 : UInt64))) &&& 0x7fffffffffffffff))) (9214364837600034815 : UInt64)) .g) < 0 then 1 else 0)), .unset, .unset, .unset, .unset, .unset] [(.long (own_lmax (own_labs (vsy - vy)) (own_labs (vly - vy)))), (.long (own_lmax (own_labs (vsx - vx)) (own_labs (vlx - vx))))])) t_
        refine own_f_ladd X50.here hx (hb hby at_197) rfl (rfl : _ = 198) ?_
        refine own_f_lstore X50.here hx (hb hby at_198) (rfl : storeLocals _ _ _ = some #[.val (.long q1), .second, .val (.long q2), .second, .val (.long q3), .second, .val (.long q4), .second, .val (.long q5), .second, .val (.long q6), .second, .val (.ref aG), .val (.int sel), .val (.long vx), .second, .val (.long vy), .second, .val (.long vsx), .second, .val (.long vsy), .second, .val (.long vlx), .second, .val (.long vly), .second, .val (.double (8975674057349398528 : UInt64)), .second, .val (.int (if (cmpValue (FP.dcmp (FP.dadd (Jvm.Native.java_lang_Math.nans.pick64 true ((FP.dsub (FP.dmul (FP.l2d vsx) (8975674057349398528 : UInt64)) (FP.dmul (FP.l2d vx) (8975674057349398528 : UInt64))) &&& 0x7fffffffffffffff) ((FP.dsub (FP.dmul (FP.l2d vlx) (8975674057349398528 : UInt64)) (FP.dmul (FP.l2d vx) (8975674057349398528 : UInt64))) &&& 0x7fffffffffffffff)) (Jvm.Native.java_lang_Math.nans.pick64 true ((FP.dsub (FP.dmul (FP.l2d vsy) (8975674057349398528 : UInt64)) (FP.dmul (FP.l2d vy) (8975674057349398528 : UInt64))) &&& 0x7fffffffffffffff) ((FP.dsub (FP.dmul (FP.l2d vly) (8975674057349398528 : UInt64)) (FP.dmul (FP.l2d vy) (8975674057349398528 : UInt64))) &&& 0x7fffffffffffffff))) (9214364837600034815 : UInt64)) .g) < 0 then 1 else 0)), .val (.long ((own_lmax (own_labs (vsx - vx)) (own_labs (vlx - vx))) + (own_lmax (own_labs (vsy - vy)) (own_labs (vly - vy))))), .second, .unset, .unset, .unset]) (rfl : _ = 200) ?_
        refine own_f_ldc2Long X50 hx hown (mvT hZ (hw _ (List.mem_of_getElem? (i := 23) rfl))) (hb hby at_200) (rfl : _ = 203) ?_
        refine own_f_lstore X50.here hx (hb hby at_203) (rfl : storeLocals _ _ _ = some #[.val (.long q1), .second, .val (.long q2), .second, .val (.long q3), .second, .val (.long q4), .second, .val (.long q5), .second, .val (.long q6), .second, .val (.ref aG), .val (.int sel), .val (.long vx), .second, .val (.long vy), .second, .val (.long vsx), .second, .val (.long vsy), .second, .val (.long vlx), .second, .val (.long vly), .second, .val (.double (8975674057349398528 : UInt64)), .second, .val (.int (if (cmpValue (FP.dcmp (FP.dadd (Jvm.Native.java_lang_Math.nans.pick64 true ((FP.dsub (FP.dmul (FP.l2d vsx) (8975674057349398528 : UInt64)) (FP.dmul (FP.l2d vx) (8975674057349398528 : UInt64))) &&& 0x7fffffffffffffff) ((FP.dsub (FP.dmul (FP.l2d vlx) (8975674057349398528 : UInt64)) (FP.dmul (FP.l2d vx) (8975674057349398528 : UInt64))) &&& 0x7fffffffffffffff)) (Jvm.Native.java_lang_Math.nans.pick64 true ((FP.dsub (FP.dmul (FP.l2d vsy) (8975674057349398528 : UInt64)) (FP.dmul (FP.l2d vy) (8975674057349398528 : UInt64))) &&& 0x7fffffffffffffff) ((FP.dsub (FP.dmul (FP.l2d vly) (8975674057349398528 : UInt64)) (FP.dmul (FP.l2d vy) (8975674057349398528 : UInt64))) &&& 0x7fffffffffffffff))) (9214364837600034815 : UInt64)) .g) < 0 then 1 else 0)), .val (.long ((own_lmax (own_labs (vsx - vx)) (own_labs (vlx - vx))) + (own_lmax (own_labs (vsy - vy)) (own_labs (vly - vy))))), .second, .val (.long (9007199254740991 : Int64)), .second, .unset]) (rfl : _ = 205) ?_
        refine own_f_iload X50.here hx (hb hby at_205) rfl (rfl : _ = 207) ?_
        refine own_f_iconst X50.here hx (hb hby at_207) (rfl : _ = (1 : Int32)) (rfl : _ = 208) ?_
        refine own_f_icmpNo X50.here hx (hb hby at_208) (teq (h1)).2 (rfl : _ = 211) ?_
        refine own_f_lload X50.here hx (hb hby at_211) rfl (rfl : _ = 213) ?_
        refine own_f_lload X50.here hx (hb hby at_213) rfl (rfl : _ = 215) ?_
        refine own_f_lcmp X50.here hx (hb hby at_215) (rfl : _ = 216) ?_
        exact ht_
      by_cases hm : (lcmpW ((own_lmax (own_labs (vsx - vx)) (own_labs (vlx - vx))) + (own_lmax (own_labs (vsy - vy)) (own_labs (vly - vy)))) (9007199254740991 : Int64)) < (0 : Int32)
      · obtain ⟨fs, hr, hrun, hended, hW, hsame⟩ := X50.leave (v := some (.int (1 : Int32))) (fun h => by rw [Bd.returns] at h; cases h) hlk
        refine ⟨_, _, ?_, hrun, hended, _, _, rfl, ?_, ⟨_, rfl⟩, hW, hsame.mono (by decide) (by decide)⟩
        · refine hA0 _ ?_
          refine k51 _ ?_
          refine own_f_ifNo X50.here hx (hb hby at_216) ((if0 _ _).trans (tlt (hm)).2.1) (rfl : _ = 219) ?_
          refine own_f_iconst X50.here hx (hb hby at_219) (rfl : _ = (1 : Int32)) (rfl : _ = 220) ?_
          refine own_f_goto X50.here hx (hb hby at_220) (by decide) (by decide : _ = 224) ?_
          refine own_f_istore X50.here hx (hb hby at_224) (rfl : storeLocals _ _ _ = some #[.val (.long q1), .second, .val (.long q2), .second, .val (.long q3), .second, .val (.long q4), .second, .val (.long q5), .second, .val (.long q6), .second, .val (.ref aG), .val (.int sel), .val (.long vx), .second, .val (.long vy), .second, .val (.long vsx), .second, .val (.long vsy), .second, .val (.long vlx), .second, .val (.long vly), .second, .val (.double (8975674057349398528 : UInt64)), .second, .val (.int (if (cmpValue (FP.dcmp (FP.dadd (Jvm.Native.java_lang_Math.nans.pick64 true ((FP.dsub (FP.dmul (FP.l2d vsx) (8975674057349398528 : UInt64)) (FP.dmul (FP.l2d vx) (8975674057349398528 : UInt64))) &&& 0x7fffffffffffffff) ((FP.dsub (FP.dmul (FP.l2d vlx) (8975674057349398528 : UInt64)) (FP.dmul (FP.l2d vx) (8975674057349398528 : UInt64))) &&& 0x7fffffffffffffff)) (Jvm.Native.java_lang_Math.nans.pick64 true ((FP.dsub (FP.dmul (FP.l2d vsy) (8975674057349398528 : UInt64)) (FP.dmul (FP.l2d vy) (8975674057349398528 : UInt64))) &&& 0x7fffffffffffffff) ((FP.dsub (FP.dmul (FP.l2d vly) (8975674057349398528 : UInt64)) (FP.dmul (FP.l2d vy) (8975674057349398528 : UInt64))) &&& 0x7fffffffffffffff))) (9214364837600034815 : UInt64)) .g) < 0 then 1 else 0)), .val (.long ((own_lmax (own_labs (vsx - vx)) (own_labs (vlx - vx))) + (own_lmax (own_labs (vsy - vy)) (own_labs (vly - vy))))), .second, .val (.long (9007199254740991 : Int64)), .second, .val (.int (1 : Int32))]) (rfl : _ = 226) ?_
          refine own_f_goto X50.here hx (hb hby at_226) (by decide) (by decide : _ = 260) ?_
          refine own_f_iload X50.here hx (hb hby at_260) rfl (rfl : _ = 262) ?_
          refine own_f_iload X50.here hx (hb hby at_262) rfl (rfl : _ = 264) ?_
          refine own_f_icmpNo X50.here hx (hb hby at_264) (teq (if_pos (hres.1 hm))).2 (rfl : _ = 267) ?_
          refine own_f_iconst X50.here hx (hb hby at_267) (rfl : _ = (1 : Int32)) (rfl : _ = 268) ?_
          refine own_f_goto X50.here hx (hb hby at_268) (by decide) (by decide : _ = 272) ?_
          exact retN X50 hx (t := .boolean) Bd.returns (by simp) (hb hby at_272) hr
        · show Q0 Z q1 q2 q3 q4 q5 q6 aG aP h0 n0 _ T50.heap _
          rw [e50]
          exact ⟨rfl, N50⟩
      · obtain ⟨fs, hr, hrun, hended, hW, hsame⟩ := X50.leave (v := some (.int (1 : Int32))) (fun h => by rw [Bd.returns] at h; cases h) hlk
        refine ⟨_, _, ?_, hrun, hended, _, _, rfl, ?_, ⟨_, rfl⟩, hW, hsame.mono (by decide) (by decide)⟩
        · refine hA0 _ ?_
          refine k51 _ ?_
          refine own_f_ifYes X50.here hx (hb hby at_216) ((if0 _ _).trans (flt (hm)).2.1) (by decide) (by decide : _ = 223) ?_
          refine own_f_iconst X50.here hx (hb hby at_223) (rfl : _ = (0 : Int32)) (rfl : _ = 224) ?_
          refine own_f_istore X50.here hx (hb hby at_224) (rfl : storeLocals _ _ _ = some #[.val (.long q1), .second, .val (.long q2), .second, .val (.long q3), .second, .val (.long q4), .second, .val (.long q5), .second, .val (.long q6), .second, .val (.ref aG), .val (.int sel), .val (.long vx), .second, .val (.long vy), .second, .val (.long vsx), .second, .val (.long vsy), .second, .val (.long vlx), .second, .val (.long vly), .second, .val (.double (8975674057349398528 : UInt64)), .second, .val (.int (if (cmpValue (FP.dcmp (FP.dadd (Jvm.Native.java_lang_Math.nans.pick64 true ((FP.dsub (FP.dmul (FP.l2d vsx) (8975674057349398528 : UInt64)) (FP.dmul (FP.l2d vx) (8975674057349398528 : UInt64))) &&& 0x7fffffffffffffff) ((FP.dsub (FP.dmul (FP.l2d vlx) (8975674057349398528 : UInt64)) (FP.dmul (FP.l2d vx) (8975674057349398528 : UInt64))) &&& 0x7fffffffffffffff)) (Jvm.Native.java_lang_Math.nans.pick64 true ((FP.dsub (FP.dmul (FP.l2d vsy) (8975674057349398528 : UInt64)) (FP.dmul (FP.l2d vy) (8975674057349398528 : UInt64))) &&& 0x7fffffffffffffff) ((FP.dsub (FP.dmul (FP.l2d vly) (8975674057349398528 : UInt64)) (FP.dmul (FP.l2d vy) (8975674057349398528 : UInt64))) &&& 0x7fffffffffffffff))) (9214364837600034815 : UInt64)) .g) < 0 then 1 else 0)), .val (.long ((own_lmax (own_labs (vsx - vx)) (own_labs (vlx - vx))) + (own_lmax (own_labs (vsy - vy)) (own_labs (vly - vy))))), .second, .val (.long (9007199254740991 : Int64)), .second, .val (.int (0 : Int32))]) (rfl : _ = 226) ?_
          refine own_f_goto X50.here hx (hb hby at_226) (by decide) (by decide : _ = 260) ?_
          refine own_f_iload X50.here hx (hb hby at_260) rfl (rfl : _ = 262) ?_
          refine own_f_iload X50.here hx (hb hby at_262) rfl (rfl : _ = 264) ?_
          refine own_f_icmpNo X50.here hx (hb hby at_264) (teq (if_neg (hres.2 hm))).2 (rfl : _ = 267) ?_
          refine own_f_iconst X50.here hx (hb hby at_267) (rfl : _ = (1 : Int32)) (rfl : _ = 268) ?_
          refine own_f_goto X50.here hx (hb hby at_268) (by decide) (by decide : _ = 272) ?_
          exact retN X50 hx (t := .boolean) Bd.returns (by simp) (hb hby at_272) hr
        · show Q0 Z q1 q2 q3 q4 q5 q6 aG aP h0 n0 _ T50.heap _
          rw [e50]
          exact ⟨rfl, N50⟩
    · have k52 : ∀ t_, Steps p.tables e below (T35.setTop (mkF m 104 #[.val (.long q1), .second, .val (.long q2), .second, .val (.long q3), .second, .val (.long q4), .second, .val (.long q5), .second, .val (.long q6), .second, .val (.ref aG), .val (.int sel), .val (.long vx), .second, .val (.long vy), .second, .val (.long vsx), .second, .val (.long vsy), .second, .val (.long vlx), .second, .val (.long vly), .second, .unset, .unset, .unset, .unset, .unset, .unset, .unset, .unset] [(.int (2 : Int32)), (.int sel)])) t_ → Steps p.tables e below A t_ := by
        intro t_ ht_
        refine k43 t_ ?_
        refine own_f_icmpYes X35.here hx (hb hby at_92) (feq (h1)).2 (by decide) (by decide : _ = 101) ?_
        refine own_f_iload X35.here hx (hb hby at_101) rfl (rfl : _ = 103) ?_
        refine own_f_iconst X35.here hx (hb hby at_103) (rfl : _ = (2 : Int32)) (rfl : _ = 104) ?_
        exact ht_
      by_cases h2 : sel = (2 : Int32)
      · have hS := own_s971
        have m_x := own_scaled b_x hS (by decide)
        have m_y := own_scaled b_y hS (by decide)
        have m_sx := own_scaled b_sx hS (by decide)
        have m_sy := own_scaled b_sy hS (by decide)
        have m_lx := own_scaled b_lx hS (by decide)
        have m_ly := own_scaled b_ly hS (by decide)
        obtain ⟨n1, n2, n3, n4, iA, a1, a2, a3, RA⟩ := own_leg b_x b_sx b_lx m_x m_sx m_lx (by decide)
        obtain ⟨n5, n6, n7, n8, iB, c1, c2, c3, RB⟩ := own_leg b_y b_sy b_ly m_y m_sy m_ly (by decide)
        obtain ⟨n9, hres⟩ := own_res2 RA RB a1 a2 c1 c2 a3 c3
        obtain ⟨cq53, kq53, q53a, q53b, q53c⟩ := isOf hZ e35 ExG
        obtain ⟨_, _, ⟨T53, L53, k53_, n53⟩, -, X53, ⟨Lc53, hQ53, l53, y53, z53⟩, st53⟩ := X35.virtualBack hx (y := (⟨"com/example/honeyguide/honeyguide/CoordinateSystem", "measurable", "(DDDDDD)Z"⟩ : MethodName)) (z := (⟨"com/example/honeyguide/honeyguide/CoordinateSystem", "measurable", "(DDDDDD)Z"⟩ : MethodName)) hown (mvT hZ (hw _ (List.mem_of_getElem? (i := 4) rfl))) (mvT hZ (hw _ (List.mem_of_getElem? (i := 5) rfl))) (notFace_of_selects (args := #[]) (mvT hZ (hw _ (List.mem_of_getElem? (i := 7) rfl)))) (mvT hZ (hw _ (List.mem_of_getElem? (i := 7) rfl))) (mvT hZ (hw _ (List.mem_of_getElem? (i := 6) rfl))) (by decide) (backOf (W := 0) (rm1 l Z a0 hw [] aG (FP.dmul (FP.l2d vx) (8980177656976769024 : UInt64)) (FP.dmul (FP.l2d vy) (8980177656976769024 : UInt64)) (FP.dmul (FP.l2d vsx) (8980177656976769024 : UInt64)) (FP.dmul (FP.l2d vsy) (8980177656976769024 : UInt64)) (FP.dmul (FP.l2d vlx) (8980177656976769024 : UInt64)) (FP.dmul (FP.l2d vly) (8980177656976769024 : UInt64))  h0 n0 Z0 n1 n2 n3 n4 n5 n6 n7 n8 n9) hZ (hw _ (List.mem_of_getElem? (i := 8) rfl)) (hw _ (List.mem_of_getElem? (i := 1) rfl)) (by decide) (by decide)) q53a q53c (g := (mkF m 154 #[.val (.long q1), .second, .val (.long q2), .second, .val (.long q3), .second, .val (.long q4), .second, .val (.long q5), .second, .val (.long q6), .second, .val (.ref aG), .val (.int sel), .val (.long vx), .second, .val (.long vy), .second, .val (.long vsx), .second, .val (.long vsy), .second, .val (.long vlx), .second, .val (.long vly), .second, .val (.double (8980177656976769024 : UInt64)), .second, .unset, .unset, .unset, .unset, .unset, .unset] [(.double (FP.dmul (FP.l2d vly) (8980177656976769024 : UInt64))), (.double (FP.dmul (FP.l2d vlx) (8980177656976769024 : UInt64))), (.double (FP.dmul (FP.l2d vsy) (8980177656976769024 : UInt64))), (.double (FP.dmul (FP.l2d vsx) (8980177656976769024 : UInt64))), (.double (FP.dmul (FP.l2d vy) (8980177656976769024 : UInt64))), (.double (FP.dmul (FP.l2d vx) (8980177656976769024 : UInt64))), (.ref aG)])) rfl (by rw [hml]; rfl) (Steps.refl _) (argsL := [(.double (FP.dmul (FP.l2d vx) (8980177656976769024 : UInt64))), (.double (FP.dmul (FP.l2d vy) (8980177656976769024 : UInt64))), (.double (FP.dmul (FP.l2d vsx) (8980177656976769024 : UInt64))), (.double (FP.dmul (FP.l2d vsy) (8980177656976769024 : UInt64))), (.double (FP.dmul (FP.l2d vlx) (8980177656976769024 : UInt64))), (.double (FP.dmul (FP.l2d vly) (8980177656976769024 : UInt64)))]) (rest := []) (lenOf pd_2 rfl) rfl (by show 2 * 0 + _ ≤ _; exact Nat.le_of_eq rfl) (hb hby at_154) (fun _ _ => ⟨rfl, e35, (by decide : 0 + 0 ≤ _), (by decide : 0 + 0 ≤ _)⟩)
        dsimp only [Pt.U, Pt.locs, Pt.cells, Pt.slots] at X53 l53 y53 z53 st53 hQ53
        subst l53 y53 z53
        obtain ⟨rfl, Nq53, e53⟩ := hQ53
        have N53 := Fr.app N0 Nq53
        obtain ⟨_, _, ⟨T54, L54, k54_, n54⟩, -, X54, ⟨Lc54, hQ54, l54, y54, z54⟩, st54⟩ := Jvm.LawKit.callS X53 hx (y := (⟨"java/lang/Math", "abs", "(J)J"⟩ : MethodName)) hown (mvT hZ (hw _ (List.mem_of_getElem? (i := 17) rfl))) (mvT hZ (hw _ (List.mem_of_getElem? (i := 18) rfl))) (mvT hZ (hw _ (List.mem_of_getElem? (i := 11) rfl))) (mvT hZ (hw _ (List.mem_of_getElem? (i := 19) rfl))) (by decide) (backOf (W := 0) (rm4 l Z a0 hw [] (vsx - vx)  h0 n0 Z0) hZ (hw _ (List.mem_of_getElem? (i := 19) rfl)) (hw _ (List.mem_of_getElem? (i := 11) rfl)) (by decide) (by decide)) (g := (mkF m 164 #[.val (.long q1), .second, .val (.long q2), .second, .val (.long q3), .second, .val (.long q4), .second, .val (.long q5), .second, .val (.long q6), .second, .val (.ref aG), .val (.int sel), .val (.long vx), .second, .val (.long vy), .second, .val (.long vsx), .second, .val (.long vsy), .second, .val (.long vlx), .second, .val (.long vly), .second, .val (.double (8980177656976769024 : UInt64)), .second, .val (.int (if (cmpValue (FP.dcmp (FP.dadd (Jvm.Native.java_lang_Math.nans.pick64 true ((FP.dsub (FP.dmul (FP.l2d vsx) (8980177656976769024 : UInt64)) (FP.dmul (FP.l2d vx) (8980177656976769024 : UInt64))) &&& 0x7fffffffffffffff) ((FP.dsub (FP.dmul (FP.l2d vlx) (8980177656976769024 : UInt64)) (FP.dmul (FP.l2d vx) (8980177656976769024 : UInt64))) &&& 0x7fffffffffffffff)) (Jvm.Native.java_lang_Math.nans.pick64 true ((FP.dsub (FP.dmul (FP.l2d vsy) (8980177656976769024 : UInt64)) (FP.dmul (FP.l2d vy) (8980177656976769024 : UInt64))) &&& 0x7fffffffffffffff) ((FP.dsub (FP.dmul (FP.l2d vly) (8980177656976769024 : UInt64)) (FP.dmul (FP.l2d vy) (8980177656976769024 : UInt64))) &&& 0x7fffffffffffffff))) (9214364837600034815 : UInt64)) .g) < 0 then 1 else 0)), .unset, .unset, .unset, .unset, .unset] [(.long (vsx - vx))])) rfl (by rw [hml]; rfl) (argsL := [(.long (vsx - vx))]) (rest := []) (lenOf pd_3 rfl) rfl (by show 2 * 0 + _ ≤ _; exact Nat.le_of_eq rfl) (hb hby at_164) (fun _ _ => ⟨rfl, e53, (by decide : 0 + 0 ≤ _), (by decide : 0 + 0 ≤ _)⟩)
        dsimp only [Pt.U, Pt.locs, Pt.cells, Pt.slots] at X54 l54 y54 z54 st54 hQ54
        subst l54 y54 z54
        obtain ⟨rfl, Nq54, e54⟩ := hQ54
        have N54 := Fr.app N53 Nq54
        obtain ⟨_, _, ⟨T55, L55, k55_, n55⟩, -, X55, ⟨Lc55, hQ55, l55, y55, z55⟩, st55⟩ := Jvm.LawKit.callS X54 hx (y := (⟨"java/lang/Math", "abs", "(J)J"⟩ : MethodName)) hown (mvT hZ (hw _ (List.mem_of_getElem? (i := 17) rfl))) (mvT hZ (hw _ (List.mem_of_getElem? (i := 18) rfl))) (mvT hZ (hw _ (List.mem_of_getElem? (i := 11) rfl))) (mvT hZ (hw _ (List.mem_of_getElem? (i := 19) rfl))) (by decide) (backOf (W := 2) (rm4 l Z a0 hw [] (vlx - vx)  h0 n0 Z0) hZ (hw _ (List.mem_of_getElem? (i := 19) rfl)) (hw _ (List.mem_of_getElem? (i := 11) rfl)) (by decide) (by decide)) (g := (mkF m 172 #[.val (.long q1), .second, .val (.long q2), .second, .val (.long q3), .second, .val (.long q4), .second, .val (.long q5), .second, .val (.long q6), .second, .val (.ref aG), .val (.int sel), .val (.long vx), .second, .val (.long vy), .second, .val (.long vsx), .second, .val (.long vsy), .second, .val (.long vlx), .second, .val (.long vly), .second, .val (.double (8980177656976769024 : UInt64)), .second, .val (.int (if (cmpValue (FP.dcmp (FP.dadd (Jvm.Native.java_lang_Math.nans.pick64 true ((FP.dsub (FP.dmul (FP.l2d vsx) (8980177656976769024 : UInt64)) (FP.dmul (FP.l2d vx) (8980177656976769024 : UInt64))) &&& 0x7fffffffffffffff) ((FP.dsub (FP.dmul (FP.l2d vlx) (8980177656976769024 : UInt64)) (FP.dmul (FP.l2d vx) (8980177656976769024 : UInt64))) &&& 0x7fffffffffffffff)) (Jvm.Native.java_lang_Math.nans.pick64 true ((FP.dsub (FP.dmul (FP.l2d vsy) (8980177656976769024 : UInt64)) (FP.dmul (FP.l2d vy) (8980177656976769024 : UInt64))) &&& 0x7fffffffffffffff) ((FP.dsub (FP.dmul (FP.l2d vly) (8980177656976769024 : UInt64)) (FP.dmul (FP.l2d vy) (8980177656976769024 : UInt64))) &&& 0x7fffffffffffffff))) (9214364837600034815 : UInt64)) .g) < 0 then 1 else 0)), .unset, .unset, .unset, .unset, .unset] [(.long (vlx - vx)), (.long (own_labs (vsx - vx)))])) rfl (by rw [hml]; rfl) (argsL := [(.long (vlx - vx))]) (rest := [(.long (own_labs (vsx - vx)))]) (lenOf pd_3 rfl) rfl (by show 2 * 0 + _ ≤ _; exact Nat.le_of_eq rfl) (hb hby at_172) (fun _ _ => ⟨rfl, e54, (by decide : 0 + 0 ≤ _), (by decide : 0 + 0 ≤ _)⟩)
        dsimp only [Pt.U, Pt.locs, Pt.cells, Pt.slots] at X55 l55 y55 z55 st55 hQ55
        subst l55 y55 z55
        obtain ⟨rfl, Nq55, e55⟩ := hQ55
        have N55 := Fr.app N54 Nq55
        obtain ⟨_, _, ⟨T56, L56, k56_, n56⟩, -, X56, ⟨Lc56, hQ56, l56, y56, z56⟩, st56⟩ := Jvm.LawKit.callS X55 hx (y := (⟨"java/lang/Math", "max", "(JJ)J"⟩ : MethodName)) hown (mvT hZ (hw _ (List.mem_of_getElem? (i := 20) rfl))) (mvT hZ (hw _ (List.mem_of_getElem? (i := 21) rfl))) (mvT hZ (hw _ (List.mem_of_getElem? (i := 11) rfl))) (mvT hZ (hw _ (List.mem_of_getElem? (i := 22) rfl))) (by decide) (backOf (W := 0) (rm5 l Z a0 hw [] (own_labs (vsx - vx)) (own_labs (vlx - vx))  h0 n0 Z0) hZ (hw _ (List.mem_of_getElem? (i := 22) rfl)) (hw _ (List.mem_of_getElem? (i := 11) rfl)) (by decide) (by decide)) (g := (mkF m 175 #[.val (.long q1), .second, .val (.long q2), .second, .val (.long q3), .second, .val (.long q4), .second, .val (.long q5), .second, .val (.long q6), .second, .val (.ref aG), .val (.int sel), .val (.long vx), .second, .val (.long vy), .second, .val (.long vsx), .second, .val (.long vsy), .second, .val (.long vlx), .second, .val (.long vly), .second, .val (.double (8980177656976769024 : UInt64)), .second, .val (.int (if (cmpValue (FP.dcmp (FP.dadd (Jvm.Native.java_lang_Math.nans.pick64 true ((FP.dsub (FP.dmul (FP.l2d vsx) (8980177656976769024 : UInt64)) (FP.dmul (FP.l2d vx) (8980177656976769024 : UInt64))) &&& 0x7fffffffffffffff) ((FP.dsub (FP.dmul (FP.l2d vlx) (8980177656976769024 : UInt64)) (FP.dmul (FP.l2d vx) (8980177656976769024 : UInt64))) &&& 0x7fffffffffffffff)) (Jvm.Native.java_lang_Math.nans.pick64 true ((FP.dsub (FP.dmul (FP.l2d vsy) (8980177656976769024 : UInt64)) (FP.dmul (FP.l2d vy) (8980177656976769024 : UInt64))) &&& 0x7fffffffffffffff) ((FP.dsub (FP.dmul (FP.l2d vly) (8980177656976769024 : UInt64)) (FP.dmul (FP.l2d vy) (8980177656976769024 : UInt64))) &&& 0x7fffffffffffffff))) (9214364837600034815 : UInt64)) .g) < 0 then 1 else 0)), .unset, .unset, .unset, .unset, .unset] [(.long (own_labs (vlx - vx))), (.long (own_labs (vsx - vx)))])) rfl (by rw [hml]; rfl) (argsL := [(.long (own_labs (vsx - vx))), (.long (own_labs (vlx - vx)))]) (rest := []) (lenOf pd_4 rfl) rfl (by show 2 * 0 + _ ≤ _; exact Nat.le_of_eq rfl) (hb hby at_175) (fun _ _ => ⟨rfl, e55, (by decide : 0 + 0 ≤ _), (by decide : 0 + 0 ≤ _)⟩)
        dsimp only [Pt.U, Pt.locs, Pt.cells, Pt.slots] at X56 l56 y56 z56 st56 hQ56
        subst l56 y56 z56
        obtain ⟨rfl, Nq56, e56⟩ := hQ56
        have N56 := Fr.app N55 Nq56
        obtain ⟨_, _, ⟨T57, L57, k57_, n57⟩, -, X57, ⟨Lc57, hQ57, l57, y57, z57⟩, st57⟩ := Jvm.LawKit.callS X56 hx (y := (⟨"java/lang/Math", "abs", "(J)J"⟩ : MethodName)) hown (mvT hZ (hw _ (List.mem_of_getElem? (i := 17) rfl))) (mvT hZ (hw _ (List.mem_of_getElem? (i := 18) rfl))) (mvT hZ (hw _ (List.mem_of_getElem? (i := 11) rfl))) (mvT hZ (hw _ (List.mem_of_getElem? (i := 19) rfl))) (by decide) (backOf (W := 2) (rm4 l Z a0 hw [] (vsy - vy)  h0 n0 Z0) hZ (hw _ (List.mem_of_getElem? (i := 19) rfl)) (hw _ (List.mem_of_getElem? (i := 11) rfl)) (by decide) (by decide)) (g := (mkF m 183 #[.val (.long q1), .second, .val (.long q2), .second, .val (.long q3), .second, .val (.long q4), .second, .val (.long q5), .second, .val (.long q6), .second, .val (.ref aG), .val (.int sel), .val (.long vx), .second, .val (.long vy), .second, .val (.long vsx), .second, .val (.long vsy), .second, .val (.long vlx), .second, .val (.long vly), .second, .val (.double (8980177656976769024 : UInt64)), .second, .val (.int (if (cmpValue (FP.dcmp (FP.dadd (Jvm.Native.java_lang_Math.nans.pick64 true ((FP.dsub (FP.dmul (FP.l2d vsx) (8980177656976769024 : UInt64)) (FP.dmul (FP.l2d vx) (8980177656976769024 : UInt64))) &&& 0x7fffffffffffffff) ((FP.dsub (FP.dmul (FP.l2d vlx) (8980177656976769024 : UInt64)) (FP.dmul (FP.l2d vx) (8980177656976769024 : UInt64))) &&& 0x7fffffffffffffff)) (Jvm.Native.java_lang_Math.nans.pick64 true ((FP.dsub (FP.dmul (FP.l2d vsy) (8980177656976769024 : UInt64)) (FP.dmul (FP.l2d vy) (8980177656976769024 : UInt64))) &&& 0x7fffffffffffffff) ((FP.dsub (FP.dmul (FP.l2d vly) (8980177656976769024 : UInt64)) (FP.dmul (FP.l2d vy) (8980177656976769024 : UInt64))) &&& 0x7fffffffffffffff))) (9214364837600034815 : UInt64)) .g) < 0 then 1 else 0)), .unset, .unset, .unset, .unset, .unset] [(.long (vsy - vy)), (.long (own_lmax (own_labs (vsx - vx)) (own_labs (vlx - vx))))])) rfl (by rw [hml]; rfl) (argsL := [(.long (vsy - vy))]) (rest := [(.long (own_lmax (own_labs (vsx - vx)) (own_labs (vlx - vx))))]) (lenOf pd_3 rfl) rfl (by show 2 * 0 + _ ≤ _; exact Nat.le_of_eq rfl) (hb hby at_183) (fun _ _ => ⟨rfl, e56, (by decide : 0 + 0 ≤ _), (by decide : 0 + 0 ≤ _)⟩)
        dsimp only [Pt.U, Pt.locs, Pt.cells, Pt.slots] at X57 l57 y57 z57 st57 hQ57
        subst l57 y57 z57
        obtain ⟨rfl, Nq57, e57⟩ := hQ57
        have N57 := Fr.app N56 Nq57
        obtain ⟨_, _, ⟨T58, L58, k58_, n58⟩, -, X58, ⟨Lc58, hQ58, l58, y58, z58⟩, st58⟩ := Jvm.LawKit.callS X57 hx (y := (⟨"java/lang/Math", "abs", "(J)J"⟩ : MethodName)) hown (mvT hZ (hw _ (List.mem_of_getElem? (i := 17) rfl))) (mvT hZ (hw _ (List.mem_of_getElem? (i := 18) rfl))) (mvT hZ (hw _ (List.mem_of_getElem? (i := 11) rfl))) (mvT hZ (hw _ (List.mem_of_getElem? (i := 19) rfl))) (by decide) (backOf (W := 4) (rm4 l Z a0 hw [] (vly - vy)  h0 n0 Z0) hZ (hw _ (List.mem_of_getElem? (i := 19) rfl)) (hw _ (List.mem_of_getElem? (i := 11) rfl)) (by decide) (by decide)) (g := (mkF m 191 #[.val (.long q1), .second, .val (.long q2), .second, .val (.long q3), .second, .val (.long q4), .second, .val (.long q5), .second, .val (.long q6), .second, .val (.ref aG), .val (.int sel), .val (.long vx), .second, .val (.long vy), .second, .val (.long vsx), .second, .val (.long vsy), .second, .val (.long vlx), .second, .val (.long vly), .second, .val (.double (8980177656976769024 : UInt64)), .second, .val (.int (if (cmpValue (FP.dcmp (FP.dadd (Jvm.Native.java_lang_Math.nans.pick64 true ((FP.dsub (FP.dmul (FP.l2d vsx) (8980177656976769024 : UInt64)) (FP.dmul (FP.l2d vx) (8980177656976769024 : UInt64))) &&& 0x7fffffffffffffff) ((FP.dsub (FP.dmul (FP.l2d vlx) (8980177656976769024 : UInt64)) (FP.dmul (FP.l2d vx) (8980177656976769024 : UInt64))) &&& 0x7fffffffffffffff)) (Jvm.Native.java_lang_Math.nans.pick64 true ((FP.dsub (FP.dmul (FP.l2d vsy) (8980177656976769024 : UInt64)) (FP.dmul (FP.l2d vy) (8980177656976769024 : UInt64))) &&& 0x7fffffffffffffff) ((FP.dsub (FP.dmul (FP.l2d vly) (8980177656976769024 : UInt64)) (FP.dmul (FP.l2d vy) (8980177656976769024 : UInt64))) &&& 0x7fffffffffffffff))) (9214364837600034815 : UInt64)) .g) < 0 then 1 else 0)), .unset, .unset, .unset, .unset, .unset] [(.long (vly - vy)), (.long (own_labs (vsy - vy))), (.long (own_lmax (own_labs (vsx - vx)) (own_labs (vlx - vx))))])) rfl (by rw [hml]; rfl) (argsL := [(.long (vly - vy))]) (rest := [(.long (own_labs (vsy - vy))), (.long (own_lmax (own_labs (vsx - vx)) (own_labs (vlx - vx))))]) (lenOf pd_3 rfl) rfl (by show 2 * 0 + _ ≤ _; exact Nat.le_of_eq rfl) (hb hby at_191) (fun _ _ => ⟨rfl, e57, (by decide : 0 + 0 ≤ _), (by decide : 0 + 0 ≤ _)⟩)
        dsimp only [Pt.U, Pt.locs, Pt.cells, Pt.slots] at X58 l58 y58 z58 st58 hQ58
        subst l58 y58 z58
        obtain ⟨rfl, Nq58, e58⟩ := hQ58
        have N58 := Fr.app N57 Nq58
        obtain ⟨_, _, ⟨T59, L59, k59_, n59⟩, -, X59, ⟨Lc59, hQ59, l59, y59, z59⟩, st59⟩ := Jvm.LawKit.callS X58 hx (y := (⟨"java/lang/Math", "max", "(JJ)J"⟩ : MethodName)) hown (mvT hZ (hw _ (List.mem_of_getElem? (i := 20) rfl))) (mvT hZ (hw _ (List.mem_of_getElem? (i := 21) rfl))) (mvT hZ (hw _ (List.mem_of_getElem? (i := 11) rfl))) (mvT hZ (hw _ (List.mem_of_getElem? (i := 22) rfl))) (by decide) (backOf (W := 2) (rm5 l Z a0 hw [] (own_labs (vsy - vy)) (own_labs (vly - vy))  h0 n0 Z0) hZ (hw _ (List.mem_of_getElem? (i := 22) rfl)) (hw _ (List.mem_of_getElem? (i := 11) rfl)) (by decide) (by decide)) (g := (mkF m 194 #[.val (.long q1), .second, .val (.long q2), .second, .val (.long q3), .second, .val (.long q4), .second, .val (.long q5), .second, .val (.long q6), .second, .val (.ref aG), .val (.int sel), .val (.long vx), .second, .val (.long vy), .second, .val (.long vsx), .second, .val (.long vsy), .second, .val (.long vlx), .second, .val (.long vly), .second, .val (.double (8980177656976769024 : UInt64)), .second, .val (.int (if (cmpValue (FP.dcmp (FP.dadd (Jvm.Native.java_lang_Math.nans.pick64 true ((FP.dsub (FP.dmul (FP.l2d vsx) (8980177656976769024 : UInt64)) (FP.dmul (FP.l2d vx) (8980177656976769024 : UInt64))) &&& 0x7fffffffffffffff) ((FP.dsub (FP.dmul (FP.l2d vlx) (8980177656976769024 : UInt64)) (FP.dmul (FP.l2d vx) (8980177656976769024 : UInt64))) &&& 0x7fffffffffffffff)) (Jvm.Native.java_lang_Math.nans.pick64 true ((FP.dsub (FP.dmul (FP.l2d vsy) (8980177656976769024 : UInt64)) (FP.dmul (FP.l2d vy) (8980177656976769024 : UInt64))) &&& 0x7fffffffffffffff) ((FP.dsub (FP.dmul (FP.l2d vly) (8980177656976769024 : UInt64)) (FP.dmul (FP.l2d vy) (8980177656976769024 : UInt64))) &&& 0x7fffffffffffffff))) (9214364837600034815 : UInt64)) .g) < 0 then 1 else 0)), .unset, .unset, .unset, .unset, .unset] [(.long (own_labs (vly - vy))), (.long (own_labs (vsy - vy))), (.long (own_lmax (own_labs (vsx - vx)) (own_labs (vlx - vx))))])) rfl (by rw [hml]; rfl) (argsL := [(.long (own_labs (vsy - vy))), (.long (own_labs (vly - vy)))]) (rest := [(.long (own_lmax (own_labs (vsx - vx)) (own_labs (vlx - vx))))]) (lenOf pd_4 rfl) rfl (by show 2 * 0 + _ ≤ _; exact Nat.le_of_eq rfl) (hb hby at_194) (fun _ _ => ⟨rfl, e58, (by decide : 0 + 0 ≤ _), (by decide : 0 + 0 ≤ _)⟩)
        dsimp only [Pt.U, Pt.locs, Pt.cells, Pt.slots] at X59 l59 y59 z59 st59 hQ59
        subst l59 y59 z59
        obtain ⟨rfl, Nq59, e59⟩ := hQ59
        have N59 := Fr.app N58 Nq59
        have k60 : ∀ t_, Steps p.tables e below (T59.setTop (mkF m 244 #[.val (.long q1), .second, .val (.long q2), .second, .val (.long q3), .second, .val (.long q4), .second, .val (.long q5), .second, .val (.long q6), .second, .val (.ref aG), .val (.int sel), .val (.long vx), .second, .val (.long vy), .second, .val (.long vsx), .second, .val (.long vsy), .second, .val (.long vlx), .second, .val (.long vly), .second, .val (.double (8980177656976769024 : UInt64)), .second, .val (.int (if (cmpValue (FP.dcmp (FP.dadd (Jvm.Native.java_lang_Math.nans.pick64 true ((FP.dsub (FP.dmul (FP.l2d vsx) (8980177656976769024 : UInt64)) (FP.dmul (FP.l2d vx) (8980177656976769024 : UInt64))) &&& 0x7fffffffffffffff) ((FP.dsub (FP.dmul (FP.l2d vlx) (8980177656976769024 : UInt64)) (FP.dmul (FP.l2d vx) (8980177656976769024 : UInt64))) &&& 0x7fffffffffffffff)) (Jvm.Native.java_lang_Math.nans.pick64 true ((FP.dsub (FP.dmul (FP.l2d vsy) (8980177656976769024 : UInt64)) (FP.dmul (FP.l2d vy) (8980177656976769024 : UInt64))) &&& 0x7fffffffffffffff) ((FP.dsub (FP.dmul (FP.l2d vly) (8980177656976769024 : UInt64)) (FP.dmul (FP.l2d vy) (8980177656976769024 : UInt64))) &&& 0x7fffffffffffffff))) (9214364837600034815 : UInt64)) .g) < 0 then 1 else 0)), .val (.long ((own_lmax (own_labs (vsx - vx)) (own_labs (vlx - vx))) + (own_lmax (own_labs (vsy - vy)) (own_labs (vly - vy))))), .second, .val (.long (9007199254740991 : Int64)), .second, .unset] [(.int (lcmpW ((2 : Int64) * ((own_lmax (own_labs (vsx - vx)) (own_labs (vlx - vx))) + (own_lmax (own_labs (vsy - vy)) (own_labs (vly - vy))))) (9007199254740991 : Int64)))])) t_ → Steps p.tables e below A t_ := by
          intro t_ ht_
          refine k52 t_ ?_
          refine own_f_icmpNo X35.here hx (hb hby at_104) (teq (h2)).2 (rfl : _ = 107) ?_
          refine own_f_ldc2DoubleC X35 hx hown (mvT hZ (hw _ (List.mem_of_getElem? (i := 27) rfl))) (hb hby at_107) (rfl : _ = 110) ?_
          refine own_f_goto X35.here hx (hb hby at_110) (by decide) (by decide : _ = 114) ?_
          refine own_f_dstore X35.here hx (hb hby at_114) (rfl : storeLocals _ _ _ = some #[.val (.long q1), .second, .val (.long q2), .second, .val (.long q3), .second, .val (.long q4), .second, .val (.long q5), .second, .val (.long q6), .second, .val (.ref aG), .val (.int sel), .val (.long vx), .second, .val (.long vy), .second, .val (.long vsx), .second, .val (.long vsy), .second, .val (.long vlx), .second, .val (.long vly), .second, .val (.double (8980177656976769024 : UInt64)), .second, .unset, .unset, .unset, .unset, .unset, .unset]) (rfl : _ = 116) ?_
          refine own_f_aload X35.here hx (hb hby at_116) rfl rfl (rfl : _ = 118) ?_
          refine own_f_lload X35.here hx (hb hby at_118) rfl (rfl : _ = 120) ?_
          refine own_f_l2d X35.here hx (hb hby at_120) rfl (rfl : _ = 121) ?_
          refine own_f_dload X35.here hx (hb hby at_121) rfl (rfl : _ = 123) ?_
          refine own_f_dmul X35.here hx (hb hby at_123) (own_noNaN m_x) rfl (rfl : _ = 124) ?_
          refine own_f_lload X35.here hx (hb hby at_124) rfl (rfl : _ = 126) ?_
          refine own_f_l2d X35.here hx (hb hby at_126) rfl (rfl : _ = 127) ?_
          refine own_f_dload X35.here hx (hb hby at_127) rfl (rfl : _ = 129) ?_
          refine own_f_dmul X35.here hx (hb hby at_129) (own_noNaN m_y) rfl (rfl : _ = 130) ?_
          refine own_f_lload X35.here hx (hb hby at_130) rfl (rfl : _ = 132) ?_
          refine own_f_l2d X35.here hx (hb hby at_132) rfl (rfl : _ = 133) ?_
          refine own_f_dload X35.here hx (hb hby at_133) rfl (rfl : _ = 135) ?_
          refine own_f_dmul X35.here hx (hb hby at_135) (own_noNaN m_sx) rfl (rfl : _ = 136) ?_
          refine own_f_lload X35.here hx (hb hby at_136) rfl (rfl : _ = 138) ?_
          refine own_f_l2d X35.here hx (hb hby at_138) rfl (rfl : _ = 139) ?_
          refine own_f_dload X35.here hx (hb hby at_139) rfl (rfl : _ = 141) ?_
          refine own_f_dmul X35.here hx (hb hby at_141) (own_noNaN m_sy) rfl (rfl : _ = 142) ?_
          refine own_f_lload X35.here hx (hb hby at_142) rfl (rfl : _ = 144) ?_
          refine own_f_l2d X35.here hx (hb hby at_144) rfl (rfl : _ = 145) ?_
          refine own_f_dload X35.here hx (hb hby at_145) rfl (rfl : _ = 147) ?_
          refine own_f_dmul X35.here hx (hb hby at_147) (own_noNaN m_lx) rfl (rfl : _ = 148) ?_
          refine own_f_lload X35.here hx (hb hby at_148) rfl (rfl : _ = 150) ?_
          refine own_f_l2d X35.here hx (hb hby at_150) rfl (rfl : _ = 151) ?_
          refine own_f_dload X35.here hx (hb hby at_151) rfl (rfl : _ = 153) ?_
          refine own_f_dmul X35.here hx (hb hby at_153) (own_noNaN m_ly) rfl (rfl : _ = 154) ?_
          refine st53.trans ?_
          show Steps p.tables e below (T53.setTop (mkF m 157 #[.val (.long q1), .second, .val (.long q2), .second, .val (.long q3), .second, .val (.long q4), .second, .val (.long q5), .second, .val (.long q6), .second, .val (.ref aG), .val (.int sel), .val (.long vx), .second, .val (.long vy), .second, .val (.long vsx), .second, .val (.long vsy), .second, .val (.long vlx), .second, .val (.long vly), .second, .val (.double (8980177656976769024 : UInt64)), .second, .unset, .unset, .unset, .unset, .unset, .unset] [(.int (if (cmpValue (FP.dcmp (FP.dadd (Jvm.Native.java_lang_Math.nans.pick64 true ((FP.dsub (FP.dmul (FP.l2d vsx) (8980177656976769024 : UInt64)) (FP.dmul (FP.l2d vx) (8980177656976769024 : UInt64))) &&& 0x7fffffffffffffff) ((FP.dsub (FP.dmul (FP.l2d vlx) (8980177656976769024 : UInt64)) (FP.dmul (FP.l2d vx) (8980177656976769024 : UInt64))) &&& 0x7fffffffffffffff)) (Jvm.Native.java_lang_Math.nans.pick64 true ((FP.dsub (FP.dmul (FP.l2d vsy) (8980177656976769024 : UInt64)) (FP.dmul (FP.l2d vy) (8980177656976769024 : UInt64))) &&& 0x7fffffffffffffff) ((FP.dsub (FP.dmul (FP.l2d vly) (8980177656976769024 : UInt64)) (FP.dmul (FP.l2d vy) (8980177656976769024 : UInt64))) &&& 0x7fffffffffffffff))) (9214364837600034815 : UInt64)) .g) < 0 then 1 else 0))])) t_
          refine own_f_istore X53.here hx (hb hby at_157) (rfl : storeLocals _ _ _ = some #[.val (.long q1), .second, .val (.long q2), .second, .val (.long q3), .second, .val (.long q4), .second, .val (.long q5), .second, .val (.long q6), .second, .val (.ref aG), .val (.int sel), .val (.long vx), .second, .val (.long vy), .second, .val (.long vsx), .second, .val (.long vsy), .second, .val (.long vlx), .second, .val (.long vly), .second, .val (.double (8980177656976769024 : UInt64)), .second, .val (.int (if (cmpValue (FP.dcmp (FP.dadd (Jvm.Native.java_lang_Math.nans.pick64 true ((FP.dsub (FP.dmul (FP.l2d vsx) (8980177656976769024 : UInt64)) (FP.dmul (FP.l2d vx) (8980177656976769024 : UInt64))) &&& 0x7fffffffffffffff) ((FP.dsub (FP.dmul (FP.l2d vlx) (8980177656976769024 : UInt64)) (FP.dmul (FP.l2d vx) (8980177656976769024 : UInt64))) &&& 0x7fffffffffffffff)) (Jvm.Native.java_lang_Math.nans.pick64 true ((FP.dsub (FP.dmul (FP.l2d vsy) (8980177656976769024 : UInt64)) (FP.dmul (FP.l2d vy) (8980177656976769024 : UInt64))) &&& 0x7fffffffffffffff) ((FP.dsub (FP.dmul (FP.l2d vly) (8980177656976769024 : UInt64)) (FP.dmul (FP.l2d vy) (8980177656976769024 : UInt64))) &&& 0x7fffffffffffffff))) (9214364837600034815 : UInt64)) .g) < 0 then 1 else 0)), .unset, .unset, .unset, .unset, .unset]) (rfl : _ = 159) ?_
          refine own_f_lload X53.here hx (hb hby at_159) rfl (rfl : _ = 161) ?_
          refine own_f_lload X53.here hx (hb hby at_161) rfl (rfl : _ = 163) ?_
          refine own_f_lsub X53.here hx (hb hby at_163) rfl (rfl : _ = 164) ?_
          refine st54 _ ?_
          show Steps p.tables e below (T54.setTop (mkF m 167 #[.val (.long q1), .second, .val (.long q2), .second, .val (.long q3), .second, .val (.long q4), .second, .val (.long q5), .second, .val (.long q6), .second, .val (.ref aG), .val (.int sel), .val (.long vx), .second, .val (.long vy), .second, .val (.long vsx), .second, .val (.long vsy), .second, .val (.long vlx), .second, .val (.long vly), .second, .val (.double (8980177656976769024 : UInt64)), .second, .val (.int (if (cmpValue (FP.dcmp (FP.dadd (Jvm.Native.java_lang_Math.nans.pick64 true ((FP.dsub (FP.dmul (FP.l2d vsx) (8980177656976769024 : UInt64)) (FP.dmul (FP.l2d vx) (8980177656976769024 : UInt64))) &&& 0x7fffffffffffffff) ((FP.dsub (FP.dmul (FP.l2d vlx) (8980177656976769024 : UInt64)) (FP.dmul (FP.l2d vx) (8980177656976769024 : UInt64))) &&& 0x7fffffffffffffff)) (Jvm.Native.java_lang_Math.nans.pick64 true ((FP.dsub (FP.dmul (FP.l2d vsy) (8980177656976769024 : UInt64)) (FP.dmul (FP.l2d vy) (8980177656976769024 : UInt64))) &&& 0x7fffffffffffffff) ((FP.dsub (FP.dmul (FP.l2d vly) (8980177656976769024 : UInt64)) (FP.dmul (FP.l2d vy) (8980177656976769024 : UInt64))) &&& 0x7fffffffffffffff))) (9214364837600034815 : UInt64)) .g) < 0 then 1 else 0)), .unset, .unset, .unset, .unset, .unset] [(.long (own_labs (vsx - vx)))])) t_
          refine own_f_lload X54.here hx (hb hby at_167) rfl (rfl : _ = 169) ?_
          refine own_f_lload X54.here hx (hb hby at_169) rfl (rfl : _ = 171) ?_
          refine own_f_lsub X54.here hx (hb hby at_171) rfl (rfl : _ = 172) ?_
          refine st55 _ ?_
          show Steps p.tables e below (T55.setTop (mkF m 175 #[.val (.long q1), .second, .val (.long q2), .second, .val (.long q3), .second, .val (.long q4), .second, .val (.long q5), .second, .val (.long q6), .second, .val (.ref aG), .val (.int sel), .val (.long vx), .second, .val (.long vy), .second, .val (.long vsx), .second, .val (.long vsy), .second, .val (.long vlx), .second, .val (.long vly), .second, .val (.double (8980177656976769024 : UInt64)), .second, .val (.int (if (cmpValue (FP.dcmp (FP.dadd (Jvm.Native.java_lang_Math.nans.pick64 true ((FP.dsub (FP.dmul (FP.l2d vsx) (8980177656976769024 : UInt64)) (FP.dmul (FP.l2d vx) (8980177656976769024 : UInt64))) &&& 0x7fffffffffffffff) ((FP.dsub (FP.dmul (FP.l2d vlx) (8980177656976769024 : UInt64)) (FP.dmul (FP.l2d vx) (8980177656976769024 : UInt64))) &&& 0x7fffffffffffffff)) (Jvm.Native.java_lang_Math.nans.pick64 true ((FP.dsub (FP.dmul (FP.l2d vsy) (8980177656976769024 : UInt64)) (FP.dmul (FP.l2d vy) (8980177656976769024 : UInt64))) &&& 0x7fffffffffffffff) ((FP.dsub (FP.dmul (FP.l2d vly) (8980177656976769024 : UInt64)) (FP.dmul (FP.l2d vy) (8980177656976769024 : UInt64))) &&& 0x7fffffffffffffff))) (9214364837600034815 : UInt64)) .g) < 0 then 1 else 0)), .unset, .unset, .unset, .unset, .unset] [(.long (own_labs (vlx - vx))), (.long (own_labs (vsx - vx)))])) t_
          refine st56 _ ?_
          show Steps p.tables e below (T56.setTop (mkF m 178 #[.val (.long q1), .second, .val (.long q2), .second, .val (.long q3), .second, .val (.long q4), .second, .val (.long q5), .second, .val (.long q6), .second, .val (.ref aG), .val (.int sel), .val (.long vx), .second, .val (.long vy), .second, .val (.long vsx), .second, .val (.long vsy), .second, .val (.long vlx), .second, .val (.long vly), .second, .val (.double (8980177656976769024 : UInt64)), .second, .val (.int (if (cmpValue (FP.dcmp (FP.dadd (Jvm.Native.java_lang_Math.nans.pick64 true ((FP.dsub (FP.dmul (FP.l2d vsx) (8980177656976769024 : UInt64)) (FP.dmul (FP.l2d vx) (8980177656976769024 : UInt64))) &&& 0x7fffffffffffffff) ((FP.dsub (FP.dmul (FP.l2d vlx) (8980177656976769024 : UInt64)) (FP.dmul (FP.l2d vx) (8980177656976769024 : UInt64))) &&& 0x7fffffffffffffff)) (Jvm.Native.java_lang_Math.nans.pick64 true ((FP.dsub (FP.dmul (FP.l2d vsy) (8980177656976769024 : UInt64)) (FP.dmul (FP.l2d vy) (8980177656976769024 : UInt64))) &&& 0x7fffffffffffffff) ((FP.dsub (FP.dmul (FP.l2d vly) (8980177656976769024 : UInt64)) (FP.dmul (FP.l2d vy) (8980177656976769024 : UInt64))) &&& 0x7fffffffffffffff))) (9214364837600034815 : UInt64)) .g) < 0 then 1 else 0)), .unset, .unset, .unset, .unset, .unset] [(.long (own_lmax (own_labs (vsx - vx)) (own_labs (vlx - vx))))])) t_
          refine own_f_lload X56.here hx (hb hby at_178) rfl (rfl : _ = 180) ?_
          refine own_f_lload X56.here hx (hb hby at_180) rfl (rfl : _ = 182) ?_
          refine own_f_lsub X56.here hx (hb hby at_182) rfl (rfl : _ = 183) ?_
          refine st57 _ ?_
          show Steps p.tables e below (T57.setTop (mkF m 186 #[.val (.long q1), .second, .val (.long q2), .second, .val (.long q3), .second, .val (.long q4), .second, .val (.long q5), .second, .val (.long q6), .second, .val (.ref aG), .val (.int sel), .val (.long vx), .second, .val (.long vy), .second, .val (.long vsx), .second, .val (.long vsy), .second, .val (.long vlx), .second, .val (.long vly), .second, .val (.double (8980177656976769024 : UInt64)), .second, .val (.int (if (cmpValue (FP.dcmp (FP.dadd (Jvm.Native.java_lang_Math.nans.pick64 true ((FP.dsub (FP.dmul (FP.l2d vsx) (8980177656976769024 : UInt64)) (FP.dmul (FP.l2d vx) (8980177656976769024 : UInt64))) &&& 0x7fffffffffffffff) ((FP.dsub (FP.dmul (FP.l2d vlx) (8980177656976769024 : UInt64)) (FP.dmul (FP.l2d vx) (8980177656976769024 : UInt64))) &&& 0x7fffffffffffffff)) (Jvm.Native.java_lang_Math.nans.pick64 true ((FP.dsub (FP.dmul (FP.l2d vsy) (8980177656976769024 : UInt64)) (FP.dmul (FP.l2d vy) (8980177656976769024 : UInt64))) &&& 0x7fffffffffffffff) ((FP.dsub (FP.dmul (FP.l2d vly) (8980177656976769024 : UInt64)) (FP.dmul (FP.l2d vy) (8980177656976769024 : UInt64))) &&& 0x7fffffffffffffff))) (9214364837600034815 : UInt64)) .g) < 0 then 1 else 0)), .unset, .unset, .unset, .unset, .unset] [(.long (own_labs (vsy - vy))), (.long (own_lmax (own_labs (vsx - vx)) (own_labs (vlx - vx))))])) t_
          refine own_f_lload X57.here hx (hb hby at_186) rfl (rfl : _ = 188) ?_
          refine own_f_lload X57.here hx (hb hby at_188) rfl (rfl : _ = 190) ?_
          refine own_f_lsub X57.here hx (hb hby at_190) rfl (rfl : _ = 191) ?_
          refine st58 _ ?_
          show Steps p.tables e below (T58.setTop (mkF m 194 #[.val (.long q1), .second, .val (.long q2), .second, .val (.long q3), .second, .val (.long q4), .second, .val (.long q5), .second, .val (.long q6), .second, .val (.ref aG), .val (.int sel), .val (.long vx), .second, .val (.long vy), .second, .val (.long vsx), .second, .val (.long vsy), .second, .val (.long vlx), .second, .val (.long vly), .second, .val (.double (8980177656976769024 : UInt64)), .second, .val (.int (if (cmpValue (FP.dcmp (FP.dadd (Jvm.Native.java_lang_Math.nans.pick64 true ((FP.dsub (FP.dmul (FP.l2d vsx) (8980177656976769024 : UInt64)) (FP.dmul (FP.l2d vx) (8980177656976769024 : UInt64))) &&& 0x7fffffffffffffff) ((FP.dsub (FP.dmul (FP.l2d vlx) (8980177656976769024 : UInt64)) (FP.dmul (FP.l2d vx) (8980177656976769024 : UInt64))) &&& 0x7fffffffffffffff)) (Jvm.Native.java_lang_Math.nans.pick64 true ((FP.dsub (FP.dmul (FP.l2d vsy) (8980177656976769024 : UInt64)) (FP.dmul (FP.l2d vy) (8980177656976769024 : UInt64))) &&& 0x7fffffffffffffff) ((FP.dsub (FP.dmul (FP.l2d vly) (8980177656976769024 : UInt64)) (FP.dmul (FP.l2d vy) (8980177656976769024 : UInt64))) &&& 0x7fffffffffffffff))) (9214364837600034815 : UInt64)) .g) < 0 then 1 else 0)), .unset, .unset, .unset, .unset, .unset] [(.long (own_labs (vly - vy))), (.long (own_labs (vsy - vy))), (.long (own_lmax (own_labs (vsx - vx)) (own_labs (vlx - vx))))])) t_
          refine st59 _ ?_
          show Steps p.tables e below (T59.setTop (mkF m 197 #[.val (.long q1), .second, .val (.long q2), .second, .val (.long q3), .second, .val (.long q4), .second, .val (.long q5), .second, .val (.long q6), .second, .val (.ref aG), .val (.int sel), .val (.long vx), .second, .val (.long vy), .second, .val (.long vsx), .second, .val (.long vsy), .second, .val (.long vlx), .second, .val (.long vly), .second, .val (.double (8980177656976769024 : UInt64)), .second, .val (.int (if (cmpValue (FP.dcmp (FP.dadd (Jvm.Native.java_lang_Math.nans.pick64 true ((FP.dsub (FP.dmul (FP.l2d vsx) (8980177656976769024 : UInt64)) (FP.dmul (FP.l2d vx) (8980177656976769024 : UInt64))) &&& 0x7fffffffffffffff) ((FP.dsub (FP.dmul (FP.l2d vlx) (8980177656976769024 : UInt64)) (FP.dmul (FP.l2d vx) (8980177656976769024 : UInt64))) &&& 0x7fffffffffffffff)) (Jvm.Native.java_lang_Math.nans.pick64 true ((FP.dsub (FP.dmul (FP.l2d vsy) (8980177656976769024 : UInt64)) (FP.dmul (FP.l2d vy) (8980177656976769024 : UInt64))) &&& 0x7fffffffffffffff) ((FP.dsub (FP.dmul (FP.l2d vly) (8980177656976769024 : UInt64)) (FP.dmul (FP.l2d vy) (8980177656976769024 : UInt64))) &&& 0x7fffffffffffffff))) (9214364837600034815 : UInt64)) .g) < 0 then 1 else 0)), .unset, .unset, .unset, .unset, .unset] [(.long (own_lmax (own_labs (vsy - vy)) (own_labs (vly - vy)))), (.long (own_lmax (own_labs (vsx - vx)) (own_labs (vlx - vx))))])) t_
          refine own_f_ladd X59.here hx (hb hby at_197) rfl (rfl : _ = 198) ?_
          refine own_f_lstore X59.here hx (hb hby at_198) (rfl : storeLocals _ _ _ = some #[.val (.long q1), .second, .val (.long q2), .second, .val (.long q3), .second, .val (.long q4), .second, .val (.long q5), .second, .val (.long q6), .second, .val (.ref aG), .val (.int sel), .val (.long vx), .second, .val (.long vy), .second, .val (.long vsx), .second, .val (.long vsy), .second, .val (.long vlx), .second, .val (.long vly), .second, .val (.double (8980177656976769024 : UInt64)), .second, .val (.int (if (cmpValue (FP.dcmp (FP.dadd (Jvm.Native.java_lang_Math.nans.pick64 true ((FP.dsub (FP.dmul (FP.l2d vsx) (8980177656976769024 : UInt64)) (FP.dmul (FP.l2d vx) (8980177656976769024 : UInt64))) &&& 0x7fffffffffffffff) ((FP.dsub (FP.dmul (FP.l2d vlx) (8980177656976769024 : UInt64)) (FP.dmul (FP.l2d vx) (8980177656976769024 : UInt64))) &&& 0x7fffffffffffffff)) (Jvm.Native.java_lang_Math.nans.pick64 true ((FP.dsub (FP.dmul (FP.l2d vsy) (8980177656976769024 : UInt64)) (FP.dmul (FP.l2d vy) (8980177656976769024 : UInt64))) &&& 0x7fffffffffffffff) ((FP.dsub (FP.dmul (FP.l2d vly) (8980177656976769024 : UInt64)) (FP.dmul (FP.l2d vy) (8980177656976769024 : UInt64))) &&& 0x7fffffffffffffff))) (9214364837600034815 : UInt64)) .g) < 0 then 1 else 0)), .val (.long ((own_lmax (own_labs (vsx - vx)) (own_labs (vlx - vx))) + (own_lmax (own_labs (vsy - vy)) (own_labs (vly - vy))))), .second, .unset, .unset, .unset]) (rfl : _ = 200) ?_
          refine own_f_ldc2Long X59 hx hown (mvT hZ (hw _ (List.mem_of_getElem? (i := 23) rfl))) (hb hby at_200) (rfl : _ = 203) ?_
          refine own_f_lstore X59.here hx (hb hby at_203) (rfl : storeLocals _ _ _ = some #[.val (.long q1), .second, .val (.long q2), .second, .val (.long q3), .second, .val (.long q4), .second, .val (.long q5), .second, .val (.long q6), .second, .val (.ref aG), .val (.int sel), .val (.long vx), .second, .val (.long vy), .second, .val (.long vsx), .second, .val (.long vsy), .second, .val (.long vlx), .second, .val (.long vly), .second, .val (.double (8980177656976769024 : UInt64)), .second, .val (.int (if (cmpValue (FP.dcmp (FP.dadd (Jvm.Native.java_lang_Math.nans.pick64 true ((FP.dsub (FP.dmul (FP.l2d vsx) (8980177656976769024 : UInt64)) (FP.dmul (FP.l2d vx) (8980177656976769024 : UInt64))) &&& 0x7fffffffffffffff) ((FP.dsub (FP.dmul (FP.l2d vlx) (8980177656976769024 : UInt64)) (FP.dmul (FP.l2d vx) (8980177656976769024 : UInt64))) &&& 0x7fffffffffffffff)) (Jvm.Native.java_lang_Math.nans.pick64 true ((FP.dsub (FP.dmul (FP.l2d vsy) (8980177656976769024 : UInt64)) (FP.dmul (FP.l2d vy) (8980177656976769024 : UInt64))) &&& 0x7fffffffffffffff) ((FP.dsub (FP.dmul (FP.l2d vly) (8980177656976769024 : UInt64)) (FP.dmul (FP.l2d vy) (8980177656976769024 : UInt64))) &&& 0x7fffffffffffffff))) (9214364837600034815 : UInt64)) .g) < 0 then 1 else 0)), .val (.long ((own_lmax (own_labs (vsx - vx)) (own_labs (vlx - vx))) + (own_lmax (own_labs (vsy - vy)) (own_labs (vly - vy))))), .second, .val (.long (9007199254740991 : Int64)), .second, .unset]) (rfl : _ = 205) ?_
          refine own_f_iload X59.here hx (hb hby at_205) rfl (rfl : _ = 207) ?_
          refine own_f_iconst X59.here hx (hb hby at_207) (rfl : _ = (1 : Int32)) (rfl : _ = 208) ?_
          refine own_f_icmpYes X59.here hx (hb hby at_208) (feq (h1)).2 (by decide) (by decide : _ = 229) ?_
          refine own_f_iload X59.here hx (hb hby at_229) rfl (rfl : _ = 231) ?_
          refine own_f_iconst X59.here hx (hb hby at_231) (rfl : _ = (2 : Int32)) (rfl : _ = 232) ?_
          refine own_f_icmpNo X59.here hx (hb hby at_232) (teq (h2)).2 (rfl : _ = 235) ?_
          refine own_f_ldc2Long X59 hx hown (mvT hZ (hw _ (List.mem_of_getElem? (i := 28) rfl))) (hb hby at_235) (rfl : _ = 238) ?_
          refine own_f_lload X59.here hx (hb hby at_238) rfl (rfl : _ = 240) ?_
          refine own_f_lmul X59.here hx (hb hby at_240) rfl (rfl : _ = 241) ?_
          refine own_f_lload X59.here hx (hb hby at_241) rfl (rfl : _ = 243) ?_
          refine own_f_lcmp X59.here hx (hb hby at_243) (rfl : _ = 244) ?_
          exact ht_
        by_cases hm : (lcmpW ((2 : Int64) * ((own_lmax (own_labs (vsx - vx)) (own_labs (vlx - vx))) + (own_lmax (own_labs (vsy - vy)) (own_labs (vly - vy))))) (9007199254740991 : Int64)) < (0 : Int32)
        · obtain ⟨fs, hr, hrun, hended, hW, hsame⟩ := X59.leave (v := some (.int (1 : Int32))) (fun h => by rw [Bd.returns] at h; cases h) hlk
          refine ⟨_, _, ?_, hrun, hended, _, _, rfl, ?_, ⟨_, rfl⟩, hW, hsame.mono (by decide) (by decide)⟩
          · refine hA0 _ ?_
            refine k60 _ ?_
            refine own_f_ifNo X59.here hx (hb hby at_244) ((if0 _ _).trans (tlt (hm)).2.1) (rfl : _ = 247) ?_
            refine own_f_iconst X59.here hx (hb hby at_247) (rfl : _ = (1 : Int32)) (rfl : _ = 248) ?_
            refine own_f_goto X59.here hx (hb hby at_248) (by decide) (by decide : _ = 252) ?_
            refine own_f_istore X59.here hx (hb hby at_252) (rfl : storeLocals _ _ _ = some #[.val (.long q1), .second, .val (.long q2), .second, .val (.long q3), .second, .val (.long q4), .second, .val (.long q5), .second, .val (.long q6), .second, .val (.ref aG), .val (.int sel), .val (.long vx), .second, .val (.long vy), .second, .val (.long vsx), .second, .val (.long vsy), .second, .val (.long vlx), .second, .val (.long vly), .second, .val (.double (8980177656976769024 : UInt64)), .second, .val (.int (if (cmpValue (FP.dcmp (FP.dadd (Jvm.Native.java_lang_Math.nans.pick64 true ((FP.dsub (FP.dmul (FP.l2d vsx) (8980177656976769024 : UInt64)) (FP.dmul (FP.l2d vx) (8980177656976769024 : UInt64))) &&& 0x7fffffffffffffff) ((FP.dsub (FP.dmul (FP.l2d vlx) (8980177656976769024 : UInt64)) (FP.dmul (FP.l2d vx) (8980177656976769024 : UInt64))) &&& 0x7fffffffffffffff)) (Jvm.Native.java_lang_Math.nans.pick64 true ((FP.dsub (FP.dmul (FP.l2d vsy) (8980177656976769024 : UInt64)) (FP.dmul (FP.l2d vy) (8980177656976769024 : UInt64))) &&& 0x7fffffffffffffff) ((FP.dsub (FP.dmul (FP.l2d vly) (8980177656976769024 : UInt64)) (FP.dmul (FP.l2d vy) (8980177656976769024 : UInt64))) &&& 0x7fffffffffffffff))) (9214364837600034815 : UInt64)) .g) < 0 then 1 else 0)), .val (.long ((own_lmax (own_labs (vsx - vx)) (own_labs (vlx - vx))) + (own_lmax (own_labs (vsy - vy)) (own_labs (vly - vy))))), .second, .val (.long (9007199254740991 : Int64)), .second, .val (.int (1 : Int32))]) (rfl : _ = 254) ?_
            refine own_f_goto X59.here hx (hb hby at_254) (by decide) (by decide : _ = 260) ?_
            refine own_f_iload X59.here hx (hb hby at_260) rfl (rfl : _ = 262) ?_
            refine own_f_iload X59.here hx (hb hby at_262) rfl (rfl : _ = 264) ?_
            refine own_f_icmpNo X59.here hx (hb hby at_264) (teq (if_pos (hres.1 hm))).2 (rfl : _ = 267) ?_
            refine own_f_iconst X59.here hx (hb hby at_267) (rfl : _ = (1 : Int32)) (rfl : _ = 268) ?_
            refine own_f_goto X59.here hx (hb hby at_268) (by decide) (by decide : _ = 272) ?_
            exact retN X59 hx (t := .boolean) Bd.returns (by simp) (hb hby at_272) hr
          · show Q0 Z q1 q2 q3 q4 q5 q6 aG aP h0 n0 _ T59.heap _
            rw [e59]
            exact ⟨rfl, N59⟩
        · obtain ⟨fs, hr, hrun, hended, hW, hsame⟩ := X59.leave (v := some (.int (1 : Int32))) (fun h => by rw [Bd.returns] at h; cases h) hlk
          refine ⟨_, _, ?_, hrun, hended, _, _, rfl, ?_, ⟨_, rfl⟩, hW, hsame.mono (by decide) (by decide)⟩
          · refine hA0 _ ?_
            refine k60 _ ?_
            refine own_f_ifYes X59.here hx (hb hby at_244) ((if0 _ _).trans (flt (hm)).2.1) (by decide) (by decide : _ = 251) ?_
            refine own_f_iconst X59.here hx (hb hby at_251) (rfl : _ = (0 : Int32)) (rfl : _ = 252) ?_
            refine own_f_istore X59.here hx (hb hby at_252) (rfl : storeLocals _ _ _ = some #[.val (.long q1), .second, .val (.long q2), .second, .val (.long q3), .second, .val (.long q4), .second, .val (.long q5), .second, .val (.long q6), .second, .val (.ref aG), .val (.int sel), .val (.long vx), .second, .val (.long vy), .second, .val (.long vsx), .second, .val (.long vsy), .second, .val (.long vlx), .second, .val (.long vly), .second, .val (.double (8980177656976769024 : UInt64)), .second, .val (.int (if (cmpValue (FP.dcmp (FP.dadd (Jvm.Native.java_lang_Math.nans.pick64 true ((FP.dsub (FP.dmul (FP.l2d vsx) (8980177656976769024 : UInt64)) (FP.dmul (FP.l2d vx) (8980177656976769024 : UInt64))) &&& 0x7fffffffffffffff) ((FP.dsub (FP.dmul (FP.l2d vlx) (8980177656976769024 : UInt64)) (FP.dmul (FP.l2d vx) (8980177656976769024 : UInt64))) &&& 0x7fffffffffffffff)) (Jvm.Native.java_lang_Math.nans.pick64 true ((FP.dsub (FP.dmul (FP.l2d vsy) (8980177656976769024 : UInt64)) (FP.dmul (FP.l2d vy) (8980177656976769024 : UInt64))) &&& 0x7fffffffffffffff) ((FP.dsub (FP.dmul (FP.l2d vly) (8980177656976769024 : UInt64)) (FP.dmul (FP.l2d vy) (8980177656976769024 : UInt64))) &&& 0x7fffffffffffffff))) (9214364837600034815 : UInt64)) .g) < 0 then 1 else 0)), .val (.long ((own_lmax (own_labs (vsx - vx)) (own_labs (vlx - vx))) + (own_lmax (own_labs (vsy - vy)) (own_labs (vly - vy))))), .second, .val (.long (9007199254740991 : Int64)), .second, .val (.int (0 : Int32))]) (rfl : _ = 254) ?_
            refine own_f_goto X59.here hx (hb hby at_254) (by decide) (by decide : _ = 260) ?_
            refine own_f_iload X59.here hx (hb hby at_260) rfl (rfl : _ = 262) ?_
            refine own_f_iload X59.here hx (hb hby at_262) rfl (rfl : _ = 264) ?_
            refine own_f_icmpNo X59.here hx (hb hby at_264) (teq (if_neg (hres.2 hm))).2 (rfl : _ = 267) ?_
            refine own_f_iconst X59.here hx (hb hby at_267) (rfl : _ = (1 : Int32)) (rfl : _ = 268) ?_
            refine own_f_goto X59.here hx (hb hby at_268) (by decide) (by decide : _ = 272) ?_
            exact retN X59 hx (t := .boolean) Bd.returns (by simp) (hb hby at_272) hr
          · show Q0 Z q1 q2 q3 q4 q5 q6 aG aP h0 n0 _ T59.heap _
            rw [e59]
            exact ⟨rfl, N59⟩
      · have hS := own_one
        have m_x := own_scaled b_x hS (by decide)
        have m_y := own_scaled b_y hS (by decide)
        have m_sx := own_scaled b_sx hS (by decide)
        have m_sy := own_scaled b_sy hS (by decide)
        have m_lx := own_scaled b_lx hS (by decide)
        have m_ly := own_scaled b_ly hS (by decide)
        obtain ⟨n1, n2, n3, n4, iA, a1, a2, a3, RA⟩ := own_leg b_x b_sx b_lx m_x m_sx m_lx (by decide)
        obtain ⟨n5, n6, n7, n8, iB, c1, c2, c3, RB⟩ := own_leg b_y b_sy b_ly m_y m_sy m_ly (by decide)
        obtain ⟨n9, hres⟩ := own_res0 RA RB a1 a2 c1 c2 a3 c3
        obtain ⟨cq61, kq61, q61a, q61b, q61c⟩ := isOf hZ e35 ExG
        obtain ⟨_, _, ⟨T61, L61, k61_, n61⟩, -, X61, ⟨Lc61, hQ61, l61, y61, z61⟩, st61⟩ := X35.virtualBack hx (y := (⟨"com/example/honeyguide/honeyguide/CoordinateSystem", "measurable", "(DDDDDD)Z"⟩ : MethodName)) (z := (⟨"com/example/honeyguide/honeyguide/CoordinateSystem", "measurable", "(DDDDDD)Z"⟩ : MethodName)) hown (mvT hZ (hw _ (List.mem_of_getElem? (i := 4) rfl))) (mvT hZ (hw _ (List.mem_of_getElem? (i := 5) rfl))) (notFace_of_selects (args := #[]) (mvT hZ (hw _ (List.mem_of_getElem? (i := 7) rfl)))) (mvT hZ (hw _ (List.mem_of_getElem? (i := 7) rfl))) (mvT hZ (hw _ (List.mem_of_getElem? (i := 6) rfl))) (by decide) (backOf (W := 0) (rm1 l Z a0 hw [] aG (FP.dmul (FP.l2d vx) (4607182418800017408 : UInt64)) (FP.dmul (FP.l2d vy) (4607182418800017408 : UInt64)) (FP.dmul (FP.l2d vsx) (4607182418800017408 : UInt64)) (FP.dmul (FP.l2d vsy) (4607182418800017408 : UInt64)) (FP.dmul (FP.l2d vlx) (4607182418800017408 : UInt64)) (FP.dmul (FP.l2d vly) (4607182418800017408 : UInt64))  h0 n0 Z0 n1 n2 n3 n4 n5 n6 n7 n8 n9) hZ (hw _ (List.mem_of_getElem? (i := 8) rfl)) (hw _ (List.mem_of_getElem? (i := 1) rfl)) (by decide) (by decide)) q61a q61c (g := (mkF m 154 #[.val (.long q1), .second, .val (.long q2), .second, .val (.long q3), .second, .val (.long q4), .second, .val (.long q5), .second, .val (.long q6), .second, .val (.ref aG), .val (.int sel), .val (.long vx), .second, .val (.long vy), .second, .val (.long vsx), .second, .val (.long vsy), .second, .val (.long vlx), .second, .val (.long vly), .second, .val (.double (4607182418800017408 : UInt64)), .second, .unset, .unset, .unset, .unset, .unset, .unset] [(.double (FP.dmul (FP.l2d vly) (4607182418800017408 : UInt64))), (.double (FP.dmul (FP.l2d vlx) (4607182418800017408 : UInt64))), (.double (FP.dmul (FP.l2d vsy) (4607182418800017408 : UInt64))), (.double (FP.dmul (FP.l2d vsx) (4607182418800017408 : UInt64))), (.double (FP.dmul (FP.l2d vy) (4607182418800017408 : UInt64))), (.double (FP.dmul (FP.l2d vx) (4607182418800017408 : UInt64))), (.ref aG)])) rfl (by rw [hml]; rfl) (Steps.refl _) (argsL := [(.double (FP.dmul (FP.l2d vx) (4607182418800017408 : UInt64))), (.double (FP.dmul (FP.l2d vy) (4607182418800017408 : UInt64))), (.double (FP.dmul (FP.l2d vsx) (4607182418800017408 : UInt64))), (.double (FP.dmul (FP.l2d vsy) (4607182418800017408 : UInt64))), (.double (FP.dmul (FP.l2d vlx) (4607182418800017408 : UInt64))), (.double (FP.dmul (FP.l2d vly) (4607182418800017408 : UInt64)))]) (rest := []) (lenOf pd_2 rfl) rfl (by show 2 * 0 + _ ≤ _; exact Nat.le_of_eq rfl) (hb hby at_154) (fun _ _ => ⟨rfl, e35, (by decide : 0 + 0 ≤ _), (by decide : 0 + 0 ≤ _)⟩)
        dsimp only [Pt.U, Pt.locs, Pt.cells, Pt.slots] at X61 l61 y61 z61 st61 hQ61
        subst l61 y61 z61
        obtain ⟨rfl, Nq61, e61⟩ := hQ61
        have N61 := Fr.app N0 Nq61
        obtain ⟨_, _, ⟨T62, L62, k62_, n62⟩, -, X62, ⟨Lc62, hQ62, l62, y62, z62⟩, st62⟩ := Jvm.LawKit.callS X61 hx (y := (⟨"java/lang/Math", "abs", "(J)J"⟩ : MethodName)) hown (mvT hZ (hw _ (List.mem_of_getElem? (i := 17) rfl))) (mvT hZ (hw _ (List.mem_of_getElem? (i := 18) rfl))) (mvT hZ (hw _ (List.mem_of_getElem? (i := 11) rfl))) (mvT hZ (hw _ (List.mem_of_getElem? (i := 19) rfl))) (by decide) (backOf (W := 0) (rm4 l Z a0 hw [] (vsx - vx)  h0 n0 Z0) hZ (hw _ (List.mem_of_getElem? (i := 19) rfl)) (hw _ (List.mem_of_getElem? (i := 11) rfl)) (by decide) (by decide)) (g := (mkF m 164 #[.val (.long q1), .second, .val (.long q2), .second, .val (.long q3), .second, .val (.long q4), .second, .val (.long q5), .second, .val (.long q6), .second, .val (.ref aG), .val (.int sel), .val (.long vx), .second, .val (.long vy), .second, .val (.long vsx), .second, .val (.long vsy), .second, .val (.long vlx), .second, .val (.long vly), .second, .val (.double (4607182418800017408 : UInt64)), .second, .val (.int (if (cmpValue (FP.dcmp (FP.dadd (Jvm.Native.java_lang_Math.nans.pick64 true ((FP.dsub (FP.dmul (FP.l2d vsx) (4607182418800017408 : UInt64)) (FP.dmul (FP.l2d vx) (4607182418800017408 : UInt64))) &&& 0x7fffffffffffffff) ((FP.dsub (FP.dmul (FP.l2d vlx) (4607182418800017408 : UInt64)) (FP.dmul (FP.l2d vx) (4607182418800017408 : UInt64))) &&& 0x7fffffffffffffff)) (Jvm.Native.java_lang_Math.nans.pick64 true ((FP.dsub (FP.dmul (FP.l2d vsy) (4607182418800017408 : UInt64)) (FP.dmul (FP.l2d vy) (4607182418800017408 : UInt64))) &&& 0x7fffffffffffffff) ((FP.dsub (FP.dmul (FP.l2d vly) (4607182418800017408 : UInt64)) (FP.dmul (FP.l2d vy) (4607182418800017408 : UInt64))) &&& 0x7fffffffffffffff))) (9214364837600034815 : UInt64)) .g) < 0 then 1 else 0)), .unset, .unset, .unset, .unset, .unset] [(.long (vsx - vx))])) rfl (by rw [hml]; rfl) (argsL := [(.long (vsx - vx))]) (rest := []) (lenOf pd_3 rfl) rfl (by show 2 * 0 + _ ≤ _; exact Nat.le_of_eq rfl) (hb hby at_164) (fun _ _ => ⟨rfl, e61, (by decide : 0 + 0 ≤ _), (by decide : 0 + 0 ≤ _)⟩)
        dsimp only [Pt.U, Pt.locs, Pt.cells, Pt.slots] at X62 l62 y62 z62 st62 hQ62
        subst l62 y62 z62
        obtain ⟨rfl, Nq62, e62⟩ := hQ62
        have N62 := Fr.app N61 Nq62
        obtain ⟨_, _, ⟨T63, L63, k63_, n63⟩, -, X63, ⟨Lc63, hQ63, l63, y63, z63⟩, st63⟩ := Jvm.LawKit.callS X62 hx (y := (⟨"java/lang/Math", "abs", "(J)J"⟩ : MethodName)) hown (mvT hZ (hw _ (List.mem_of_getElem? (i := 17) rfl))) (mvT hZ (hw _ (List.mem_of_getElem? (i := 18) rfl))) (mvT hZ (hw _ (List.mem_of_getElem? (i := 11) rfl))) (mvT hZ (hw _ (List.mem_of_getElem? (i := 19) rfl))) (by decide) (backOf (W := 2) (rm4 l Z a0 hw [] (vlx - vx)  h0 n0 Z0) hZ (hw _ (List.mem_of_getElem? (i := 19) rfl)) (hw _ (List.mem_of_getElem? (i := 11) rfl)) (by decide) (by decide)) (g := (mkF m 172 #[.val (.long q1), .second, .val (.long q2), .second, .val (.long q3), .second, .val (.long q4), .second, .val (.long q5), .second, .val (.long q6), .second, .val (.ref aG), .val (.int sel), .val (.long vx), .second, .val (.long vy), .second, .val (.long vsx), .second, .val (.long vsy), .second, .val (.long vlx), .second, .val (.long vly), .second, .val (.double (4607182418800017408 : UInt64)), .second, .val (.int (if (cmpValue (FP.dcmp (FP.dadd (Jvm.Native.java_lang_Math.nans.pick64 true ((FP.dsub (FP.dmul (FP.l2d vsx) (4607182418800017408 : UInt64)) (FP.dmul (FP.l2d vx) (4607182418800017408 : UInt64))) &&& 0x7fffffffffffffff) ((FP.dsub (FP.dmul (FP.l2d vlx) (4607182418800017408 : UInt64)) (FP.dmul (FP.l2d vx) (4607182418800017408 : UInt64))) &&& 0x7fffffffffffffff)) (Jvm.Native.java_lang_Math.nans.pick64 true ((FP.dsub (FP.dmul (FP.l2d vsy) (4607182418800017408 : UInt64)) (FP.dmul (FP.l2d vy) (4607182418800017408 : UInt64))) &&& 0x7fffffffffffffff) ((FP.dsub (FP.dmul (FP.l2d vly) (4607182418800017408 : UInt64)) (FP.dmul (FP.l2d vy) (4607182418800017408 : UInt64))) &&& 0x7fffffffffffffff))) (9214364837600034815 : UInt64)) .g) < 0 then 1 else 0)), .unset, .unset, .unset, .unset, .unset] [(.long (vlx - vx)), (.long (own_labs (vsx - vx)))])) rfl (by rw [hml]; rfl) (argsL := [(.long (vlx - vx))]) (rest := [(.long (own_labs (vsx - vx)))]) (lenOf pd_3 rfl) rfl (by show 2 * 0 + _ ≤ _; exact Nat.le_of_eq rfl) (hb hby at_172) (fun _ _ => ⟨rfl, e62, (by decide : 0 + 0 ≤ _), (by decide : 0 + 0 ≤ _)⟩)
        dsimp only [Pt.U, Pt.locs, Pt.cells, Pt.slots] at X63 l63 y63 z63 st63 hQ63
        subst l63 y63 z63
        obtain ⟨rfl, Nq63, e63⟩ := hQ63
        have N63 := Fr.app N62 Nq63
        obtain ⟨_, _, ⟨T64, L64, k64_, n64⟩, -, X64, ⟨Lc64, hQ64, l64, y64, z64⟩, st64⟩ := Jvm.LawKit.callS X63 hx (y := (⟨"java/lang/Math", "max", "(JJ)J"⟩ : MethodName)) hown (mvT hZ (hw _ (List.mem_of_getElem? (i := 20) rfl))) (mvT hZ (hw _ (List.mem_of_getElem? (i := 21) rfl))) (mvT hZ (hw _ (List.mem_of_getElem? (i := 11) rfl))) (mvT hZ (hw _ (List.mem_of_getElem? (i := 22) rfl))) (by decide) (backOf (W := 0) (rm5 l Z a0 hw [] (own_labs (vsx - vx)) (own_labs (vlx - vx))  h0 n0 Z0) hZ (hw _ (List.mem_of_getElem? (i := 22) rfl)) (hw _ (List.mem_of_getElem? (i := 11) rfl)) (by decide) (by decide)) (g := (mkF m 175 #[.val (.long q1), .second, .val (.long q2), .second, .val (.long q3), .second, .val (.long q4), .second, .val (.long q5), .second, .val (.long q6), .second, .val (.ref aG), .val (.int sel), .val (.long vx), .second, .val (.long vy), .second, .val (.long vsx), .second, .val (.long vsy), .second, .val (.long vlx), .second, .val (.long vly), .second, .val (.double (4607182418800017408 : UInt64)), .second, .val (.int (if (cmpValue (FP.dcmp (FP.dadd (Jvm.Native.java_lang_Math.nans.pick64 true ((FP.dsub (FP.dmul (FP.l2d vsx) (4607182418800017408 : UInt64)) (FP.dmul (FP.l2d vx) (4607182418800017408 : UInt64))) &&& 0x7fffffffffffffff) ((FP.dsub (FP.dmul (FP.l2d vlx) (4607182418800017408 : UInt64)) (FP.dmul (FP.l2d vx) (4607182418800017408 : UInt64))) &&& 0x7fffffffffffffff)) (Jvm.Native.java_lang_Math.nans.pick64 true ((FP.dsub (FP.dmul (FP.l2d vsy) (4607182418800017408 : UInt64)) (FP.dmul (FP.l2d vy) (4607182418800017408 : UInt64))) &&& 0x7fffffffffffffff) ((FP.dsub (FP.dmul (FP.l2d vly) (4607182418800017408 : UInt64)) (FP.dmul (FP.l2d vy) (4607182418800017408 : UInt64))) &&& 0x7fffffffffffffff))) (9214364837600034815 : UInt64)) .g) < 0 then 1 else 0)), .unset, .unset, .unset, .unset, .unset] [(.long (own_labs (vlx - vx))), (.long (own_labs (vsx - vx)))])) rfl (by rw [hml]; rfl) (argsL := [(.long (own_labs (vsx - vx))), (.long (own_labs (vlx - vx)))]) (rest := []) (lenOf pd_4 rfl) rfl (by show 2 * 0 + _ ≤ _; exact Nat.le_of_eq rfl) (hb hby at_175) (fun _ _ => ⟨rfl, e63, (by decide : 0 + 0 ≤ _), (by decide : 0 + 0 ≤ _)⟩)
        dsimp only [Pt.U, Pt.locs, Pt.cells, Pt.slots] at X64 l64 y64 z64 st64 hQ64
        subst l64 y64 z64
        obtain ⟨rfl, Nq64, e64⟩ := hQ64
        have N64 := Fr.app N63 Nq64
        obtain ⟨_, _, ⟨T65, L65, k65_, n65⟩, -, X65, ⟨Lc65, hQ65, l65, y65, z65⟩, st65⟩ := Jvm.LawKit.callS X64 hx (y := (⟨"java/lang/Math", "abs", "(J)J"⟩ : MethodName)) hown (mvT hZ (hw _ (List.mem_of_getElem? (i := 17) rfl))) (mvT hZ (hw _ (List.mem_of_getElem? (i := 18) rfl))) (mvT hZ (hw _ (List.mem_of_getElem? (i := 11) rfl))) (mvT hZ (hw _ (List.mem_of_getElem? (i := 19) rfl))) (by decide) (backOf (W := 2) (rm4 l Z a0 hw [] (vsy - vy)  h0 n0 Z0) hZ (hw _ (List.mem_of_getElem? (i := 19) rfl)) (hw _ (List.mem_of_getElem? (i := 11) rfl)) (by decide) (by decide)) (g := (mkF m 183 #[.val (.long q1), .second, .val (.long q2), .second, .val (.long q3), .second, .val (.long q4), .second, .val (.long q5), .second, .val (.long q6), .second, .val (.ref aG), .val (.int sel), .val (.long vx), .second, .val (.long vy), .second, .val (.long vsx), .second, .val (.long vsy), .second, .val (.long vlx), .second, .val (.long vly), .second, .val (.double (4607182418800017408 : UInt64)), .second, .val (.int (if (cmpValue (FP.dcmp (FP.dadd (Jvm.Native.java_lang_Math.nans.pick64 true ((FP.dsub (FP.dmul (FP.l2d vsx) (4607182418800017408 : UInt64)) (FP.dmul (FP.l2d vx) (4607182418800017408 : UInt64))) &&& 0x7fffffffffffffff) ((FP.dsub (FP.dmul (FP.l2d vlx) (4607182418800017408 : UInt64)) (FP.dmul (FP.l2d vx) (4607182418800017408 : UInt64))) &&& 0x7fffffffffffffff)) (Jvm.Native.java_lang_Math.nans.pick64 true ((FP.dsub (FP.dmul (FP.l2d vsy) (4607182418800017408 : UInt64)) (FP.dmul (FP.l2d vy) (4607182418800017408 : UInt64))) &&& 0x7fffffffffffffff) ((FP.dsub (FP.dmul (FP.l2d vly) (4607182418800017408 : UInt64)) (FP.dmul (FP.l2d vy) (4607182418800017408 : UInt64))) &&& 0x7fffffffffffffff))) (9214364837600034815 : UInt64)) .g) < 0 then 1 else 0)), .unset, .unset, .unset, .unset, .unset] [(.long (vsy - vy)), (.long (own_lmax (own_labs (vsx - vx)) (own_labs (vlx - vx))))])) rfl (by rw [hml]; rfl) (argsL := [(.long (vsy - vy))]) (rest := [(.long (own_lmax (own_labs (vsx - vx)) (own_labs (vlx - vx))))]) (lenOf pd_3 rfl) rfl (by show 2 * 0 + _ ≤ _; exact Nat.le_of_eq rfl) (hb hby at_183) (fun _ _ => ⟨rfl, e64, (by decide : 0 + 0 ≤ _), (by decide : 0 + 0 ≤ _)⟩)
        dsimp only [Pt.U, Pt.locs, Pt.cells, Pt.slots] at X65 l65 y65 z65 st65 hQ65
        subst l65 y65 z65
        obtain ⟨rfl, Nq65, e65⟩ := hQ65
        have N65 := Fr.app N64 Nq65
        obtain ⟨_, _, ⟨T66, L66, k66_, n66⟩, -, X66, ⟨Lc66, hQ66, l66, y66, z66⟩, st66⟩ := Jvm.LawKit.callS X65 hx (y := (⟨"java/lang/Math", "abs", "(J)J"⟩ : MethodName)) hown (mvT hZ (hw _ (List.mem_of_getElem? (i := 17) rfl))) (mvT hZ (hw _ (List.mem_of_getElem? (i := 18) rfl))) (mvT hZ (hw _ (List.mem_of_getElem? (i := 11) rfl))) (mvT hZ (hw _ (List.mem_of_getElem? (i := 19) rfl))) (by decide) (backOf (W := 4) (rm4 l Z a0 hw [] (vly - vy)  h0 n0 Z0) hZ (hw _ (List.mem_of_getElem? (i := 19) rfl)) (hw _ (List.mem_of_getElem? (i := 11) rfl)) (by decide) (by decide)) (g := (mkF m 191 #[.val (.long q1), .second, .val (.long q2), .second, .val (.long q3), .second, .val (.long q4), .second, .val (.long q5), .second, .val (.long q6), .second, .val (.ref aG), .val (.int sel), .val (.long vx), .second, .val (.long vy), .second, .val (.long vsx), .second, .val (.long vsy), .second, .val (.long vlx), .second, .val (.long vly), .second, .val (.double (4607182418800017408 : UInt64)), .second, .val (.int (if (cmpValue (FP.dcmp (FP.dadd (Jvm.Native.java_lang_Math.nans.pick64 true ((FP.dsub (FP.dmul (FP.l2d vsx) (4607182418800017408 : UInt64)) (FP.dmul (FP.l2d vx) (4607182418800017408 : UInt64))) &&& 0x7fffffffffffffff) ((FP.dsub (FP.dmul (FP.l2d vlx) (4607182418800017408 : UInt64)) (FP.dmul (FP.l2d vx) (4607182418800017408 : UInt64))) &&& 0x7fffffffffffffff)) (Jvm.Native.java_lang_Math.nans.pick64 true ((FP.dsub (FP.dmul (FP.l2d vsy) (4607182418800017408 : UInt64)) (FP.dmul (FP.l2d vy) (4607182418800017408 : UInt64))) &&& 0x7fffffffffffffff) ((FP.dsub (FP.dmul (FP.l2d vly) (4607182418800017408 : UInt64)) (FP.dmul (FP.l2d vy) (4607182418800017408 : UInt64))) &&& 0x7fffffffffffffff))) (9214364837600034815 : UInt64)) .g) < 0 then 1 else 0)), .unset, .unset, .unset, .unset, .unset] [(.long (vly - vy)), (.long (own_labs (vsy - vy))), (.long (own_lmax (own_labs (vsx - vx)) (own_labs (vlx - vx))))])) rfl (by rw [hml]; rfl) (argsL := [(.long (vly - vy))]) (rest := [(.long (own_labs (vsy - vy))), (.long (own_lmax (own_labs (vsx - vx)) (own_labs (vlx - vx))))]) (lenOf pd_3 rfl) rfl (by show 2 * 0 + _ ≤ _; exact Nat.le_of_eq rfl) (hb hby at_191) (fun _ _ => ⟨rfl, e65, (by decide : 0 + 0 ≤ _), (by decide : 0 + 0 ≤ _)⟩)
        dsimp only [Pt.U, Pt.locs, Pt.cells, Pt.slots] at X66 l66 y66 z66 st66 hQ66
        subst l66 y66 z66
        obtain ⟨rfl, Nq66, e66⟩ := hQ66
        have N66 := Fr.app N65 Nq66
        obtain ⟨_, _, ⟨T67, L67, k67_, n67⟩, -, X67, ⟨Lc67, hQ67, l67, y67, z67⟩, st67⟩ := Jvm.LawKit.callS X66 hx (y := (⟨"java/lang/Math", "max", "(JJ)J"⟩ : MethodName)) hown (mvT hZ (hw _ (List.mem_of_getElem? (i := 20) rfl))) (mvT hZ (hw _ (List.mem_of_getElem? (i := 21) rfl))) (mvT hZ (hw _ (List.mem_of_getElem? (i := 11) rfl))) (mvT hZ (hw _ (List.mem_of_getElem? (i := 22) rfl))) (by decide) (backOf (W := 2) (rm5 l Z a0 hw [] (own_labs (vsy - vy)) (own_labs (vly - vy))  h0 n0 Z0) hZ (hw _ (List.mem_of_getElem? (i := 22) rfl)) (hw _ (List.mem_of_getElem? (i := 11) rfl)) (by decide) (by decide)) (g := (mkF m 194 #[.val (.long q1), .second, .val (.long q2), .second, .val (.long q3), .second, .val (.long q4), .second, .val (.long q5), .second, .val (.long q6), .second, .val (.ref aG), .val (.int sel), .val (.long vx), .second, .val (.long vy), .second, .val (.long vsx), .second, .val (.long vsy), .second, .val (.long vlx), .second, .val (.long vly), .second, .val (.double (4607182418800017408 : UInt64)), .second, .val (.int (if (cmpValue (FP.dcmp (FP.dadd (Jvm.Native.java_lang_Math.nans.pick64 true ((FP.dsub (FP.dmul (FP.l2d vsx) (4607182418800017408 : UInt64)) (FP.dmul (FP.l2d vx) (4607182418800017408 : UInt64))) &&& 0x7fffffffffffffff) ((FP.dsub (FP.dmul (FP.l2d vlx) (4607182418800017408 : UInt64)) (FP.dmul (FP.l2d vx) (4607182418800017408 : UInt64))) &&& 0x7fffffffffffffff)) (Jvm.Native.java_lang_Math.nans.pick64 true ((FP.dsub (FP.dmul (FP.l2d vsy) (4607182418800017408 : UInt64)) (FP.dmul (FP.l2d vy) (4607182418800017408 : UInt64))) &&& 0x7fffffffffffffff) ((FP.dsub (FP.dmul (FP.l2d vly) (4607182418800017408 : UInt64)) (FP.dmul (FP.l2d vy) (4607182418800017408 : UInt64))) &&& 0x7fffffffffffffff))) (9214364837600034815 : UInt64)) .g) < 0 then 1 else 0)), .unset, .unset, .unset, .unset, .unset] [(.long (own_labs (vly - vy))), (.long (own_labs (vsy - vy))), (.long (own_lmax (own_labs (vsx - vx)) (own_labs (vlx - vx))))])) rfl (by rw [hml]; rfl) (argsL := [(.long (own_labs (vsy - vy))), (.long (own_labs (vly - vy)))]) (rest := [(.long (own_lmax (own_labs (vsx - vx)) (own_labs (vlx - vx))))]) (lenOf pd_4 rfl) rfl (by show 2 * 0 + _ ≤ _; exact Nat.le_of_eq rfl) (hb hby at_194) (fun _ _ => ⟨rfl, e66, (by decide : 0 + 0 ≤ _), (by decide : 0 + 0 ≤ _)⟩)
        dsimp only [Pt.U, Pt.locs, Pt.cells, Pt.slots] at X67 l67 y67 z67 st67 hQ67
        subst l67 y67 z67
        obtain ⟨rfl, Nq67, e67⟩ := hQ67
        have N67 := Fr.app N66 Nq67
        obtain ⟨fs, hr, hrun, hended, hW, hsame⟩ := X67.leave (v := some (.int (1 : Int32))) (fun h => by rw [Bd.returns] at h; cases h) hlk
        refine ⟨_, _, ?_, hrun, hended, _, _, rfl, ?_, ⟨_, rfl⟩, hW, hsame.mono (by decide) (by decide)⟩
        · refine hA0 _ ?_
          refine k52 _ ?_
          refine own_f_icmpYes X35.here hx (hb hby at_104) (feq (h2)).2 (by decide) (by decide : _ = 113) ?_
          refine own_f_dconst1 X35.here hx (hb hby at_113) (rfl : _ = (4607182418800017408 : UInt64)) (rfl : _ = 114) ?_
          refine own_f_dstore X35.here hx (hb hby at_114) (rfl : storeLocals _ _ _ = some #[.val (.long q1), .second, .val (.long q2), .second, .val (.long q3), .second, .val (.long q4), .second, .val (.long q5), .second, .val (.long q6), .second, .val (.ref aG), .val (.int sel), .val (.long vx), .second, .val (.long vy), .second, .val (.long vsx), .second, .val (.long vsy), .second, .val (.long vlx), .second, .val (.long vly), .second, .val (.double (4607182418800017408 : UInt64)), .second, .unset, .unset, .unset, .unset, .unset, .unset]) (rfl : _ = 116) ?_
          refine own_f_aload X35.here hx (hb hby at_116) rfl rfl (rfl : _ = 118) ?_
          refine own_f_lload X35.here hx (hb hby at_118) rfl (rfl : _ = 120) ?_
          refine own_f_l2d X35.here hx (hb hby at_120) rfl (rfl : _ = 121) ?_
          refine own_f_dload X35.here hx (hb hby at_121) rfl (rfl : _ = 123) ?_
          refine own_f_dmul X35.here hx (hb hby at_123) (own_noNaN m_x) rfl (rfl : _ = 124) ?_
          refine own_f_lload X35.here hx (hb hby at_124) rfl (rfl : _ = 126) ?_
          refine own_f_l2d X35.here hx (hb hby at_126) rfl (rfl : _ = 127) ?_
          refine own_f_dload X35.here hx (hb hby at_127) rfl (rfl : _ = 129) ?_
          refine own_f_dmul X35.here hx (hb hby at_129) (own_noNaN m_y) rfl (rfl : _ = 130) ?_
          refine own_f_lload X35.here hx (hb hby at_130) rfl (rfl : _ = 132) ?_
          refine own_f_l2d X35.here hx (hb hby at_132) rfl (rfl : _ = 133) ?_
          refine own_f_dload X35.here hx (hb hby at_133) rfl (rfl : _ = 135) ?_
          refine own_f_dmul X35.here hx (hb hby at_135) (own_noNaN m_sx) rfl (rfl : _ = 136) ?_
          refine own_f_lload X35.here hx (hb hby at_136) rfl (rfl : _ = 138) ?_
          refine own_f_l2d X35.here hx (hb hby at_138) rfl (rfl : _ = 139) ?_
          refine own_f_dload X35.here hx (hb hby at_139) rfl (rfl : _ = 141) ?_
          refine own_f_dmul X35.here hx (hb hby at_141) (own_noNaN m_sy) rfl (rfl : _ = 142) ?_
          refine own_f_lload X35.here hx (hb hby at_142) rfl (rfl : _ = 144) ?_
          refine own_f_l2d X35.here hx (hb hby at_144) rfl (rfl : _ = 145) ?_
          refine own_f_dload X35.here hx (hb hby at_145) rfl (rfl : _ = 147) ?_
          refine own_f_dmul X35.here hx (hb hby at_147) (own_noNaN m_lx) rfl (rfl : _ = 148) ?_
          refine own_f_lload X35.here hx (hb hby at_148) rfl (rfl : _ = 150) ?_
          refine own_f_l2d X35.here hx (hb hby at_150) rfl (rfl : _ = 151) ?_
          refine own_f_dload X35.here hx (hb hby at_151) rfl (rfl : _ = 153) ?_
          refine own_f_dmul X35.here hx (hb hby at_153) (own_noNaN m_ly) rfl (rfl : _ = 154) ?_
          refine st61.trans ?_
          show Steps p.tables e below (T61.setTop (mkF m 157 #[.val (.long q1), .second, .val (.long q2), .second, .val (.long q3), .second, .val (.long q4), .second, .val (.long q5), .second, .val (.long q6), .second, .val (.ref aG), .val (.int sel), .val (.long vx), .second, .val (.long vy), .second, .val (.long vsx), .second, .val (.long vsy), .second, .val (.long vlx), .second, .val (.long vly), .second, .val (.double (4607182418800017408 : UInt64)), .second, .unset, .unset, .unset, .unset, .unset, .unset] [(.int (if (cmpValue (FP.dcmp (FP.dadd (Jvm.Native.java_lang_Math.nans.pick64 true ((FP.dsub (FP.dmul (FP.l2d vsx) (4607182418800017408 : UInt64)) (FP.dmul (FP.l2d vx) (4607182418800017408 : UInt64))) &&& 0x7fffffffffffffff) ((FP.dsub (FP.dmul (FP.l2d vlx) (4607182418800017408 : UInt64)) (FP.dmul (FP.l2d vx) (4607182418800017408 : UInt64))) &&& 0x7fffffffffffffff)) (Jvm.Native.java_lang_Math.nans.pick64 true ((FP.dsub (FP.dmul (FP.l2d vsy) (4607182418800017408 : UInt64)) (FP.dmul (FP.l2d vy) (4607182418800017408 : UInt64))) &&& 0x7fffffffffffffff) ((FP.dsub (FP.dmul (FP.l2d vly) (4607182418800017408 : UInt64)) (FP.dmul (FP.l2d vy) (4607182418800017408 : UInt64))) &&& 0x7fffffffffffffff))) (9214364837600034815 : UInt64)) .g) < 0 then 1 else 0))])) _
          refine own_f_istore X61.here hx (hb hby at_157) (rfl : storeLocals _ _ _ = some #[.val (.long q1), .second, .val (.long q2), .second, .val (.long q3), .second, .val (.long q4), .second, .val (.long q5), .second, .val (.long q6), .second, .val (.ref aG), .val (.int sel), .val (.long vx), .second, .val (.long vy), .second, .val (.long vsx), .second, .val (.long vsy), .second, .val (.long vlx), .second, .val (.long vly), .second, .val (.double (4607182418800017408 : UInt64)), .second, .val (.int (if (cmpValue (FP.dcmp (FP.dadd (Jvm.Native.java_lang_Math.nans.pick64 true ((FP.dsub (FP.dmul (FP.l2d vsx) (4607182418800017408 : UInt64)) (FP.dmul (FP.l2d vx) (4607182418800017408 : UInt64))) &&& 0x7fffffffffffffff) ((FP.dsub (FP.dmul (FP.l2d vlx) (4607182418800017408 : UInt64)) (FP.dmul (FP.l2d vx) (4607182418800017408 : UInt64))) &&& 0x7fffffffffffffff)) (Jvm.Native.java_lang_Math.nans.pick64 true ((FP.dsub (FP.dmul (FP.l2d vsy) (4607182418800017408 : UInt64)) (FP.dmul (FP.l2d vy) (4607182418800017408 : UInt64))) &&& 0x7fffffffffffffff) ((FP.dsub (FP.dmul (FP.l2d vly) (4607182418800017408 : UInt64)) (FP.dmul (FP.l2d vy) (4607182418800017408 : UInt64))) &&& 0x7fffffffffffffff))) (9214364837600034815 : UInt64)) .g) < 0 then 1 else 0)), .unset, .unset, .unset, .unset, .unset]) (rfl : _ = 159) ?_
          refine own_f_lload X61.here hx (hb hby at_159) rfl (rfl : _ = 161) ?_
          refine own_f_lload X61.here hx (hb hby at_161) rfl (rfl : _ = 163) ?_
          refine own_f_lsub X61.here hx (hb hby at_163) rfl (rfl : _ = 164) ?_
          refine st62 _ ?_
          show Steps p.tables e below (T62.setTop (mkF m 167 #[.val (.long q1), .second, .val (.long q2), .second, .val (.long q3), .second, .val (.long q4), .second, .val (.long q5), .second, .val (.long q6), .second, .val (.ref aG), .val (.int sel), .val (.long vx), .second, .val (.long vy), .second, .val (.long vsx), .second, .val (.long vsy), .second, .val (.long vlx), .second, .val (.long vly), .second, .val (.double (4607182418800017408 : UInt64)), .second, .val (.int (if (cmpValue (FP.dcmp (FP.dadd (Jvm.Native.java_lang_Math.nans.pick64 true ((FP.dsub (FP.dmul (FP.l2d vsx) (4607182418800017408 : UInt64)) (FP.dmul (FP.l2d vx) (4607182418800017408 : UInt64))) &&& 0x7fffffffffffffff) ((FP.dsub (FP.dmul (FP.l2d vlx) (4607182418800017408 : UInt64)) (FP.dmul (FP.l2d vx) (4607182418800017408 : UInt64))) &&& 0x7fffffffffffffff)) (Jvm.Native.java_lang_Math.nans.pick64 true ((FP.dsub (FP.dmul (FP.l2d vsy) (4607182418800017408 : UInt64)) (FP.dmul (FP.l2d vy) (4607182418800017408 : UInt64))) &&& 0x7fffffffffffffff) ((FP.dsub (FP.dmul (FP.l2d vly) (4607182418800017408 : UInt64)) (FP.dmul (FP.l2d vy) (4607182418800017408 : UInt64))) &&& 0x7fffffffffffffff))) (9214364837600034815 : UInt64)) .g) < 0 then 1 else 0)), .unset, .unset, .unset, .unset, .unset] [(.long (own_labs (vsx - vx)))])) _
          refine own_f_lload X62.here hx (hb hby at_167) rfl (rfl : _ = 169) ?_
          refine own_f_lload X62.here hx (hb hby at_169) rfl (rfl : _ = 171) ?_
          refine own_f_lsub X62.here hx (hb hby at_171) rfl (rfl : _ = 172) ?_
          refine st63 _ ?_
          show Steps p.tables e below (T63.setTop (mkF m 175 #[.val (.long q1), .second, .val (.long q2), .second, .val (.long q3), .second, .val (.long q4), .second, .val (.long q5), .second, .val (.long q6), .second, .val (.ref aG), .val (.int sel), .val (.long vx), .second, .val (.long vy), .second, .val (.long vsx), .second, .val (.long vsy), .second, .val (.long vlx), .second, .val (.long vly), .second, .val (.double (4607182418800017408 : UInt64)), .second, .val (.int (if (cmpValue (FP.dcmp (FP.dadd (Jvm.Native.java_lang_Math.nans.pick64 true ((FP.dsub (FP.dmul (FP.l2d vsx) (4607182418800017408 : UInt64)) (FP.dmul (FP.l2d vx) (4607182418800017408 : UInt64))) &&& 0x7fffffffffffffff) ((FP.dsub (FP.dmul (FP.l2d vlx) (4607182418800017408 : UInt64)) (FP.dmul (FP.l2d vx) (4607182418800017408 : UInt64))) &&& 0x7fffffffffffffff)) (Jvm.Native.java_lang_Math.nans.pick64 true ((FP.dsub (FP.dmul (FP.l2d vsy) (4607182418800017408 : UInt64)) (FP.dmul (FP.l2d vy) (4607182418800017408 : UInt64))) &&& 0x7fffffffffffffff) ((FP.dsub (FP.dmul (FP.l2d vly) (4607182418800017408 : UInt64)) (FP.dmul (FP.l2d vy) (4607182418800017408 : UInt64))) &&& 0x7fffffffffffffff))) (9214364837600034815 : UInt64)) .g) < 0 then 1 else 0)), .unset, .unset, .unset, .unset, .unset] [(.long (own_labs (vlx - vx))), (.long (own_labs (vsx - vx)))])) _
          refine st64 _ ?_
          show Steps p.tables e below (T64.setTop (mkF m 178 #[.val (.long q1), .second, .val (.long q2), .second, .val (.long q3), .second, .val (.long q4), .second, .val (.long q5), .second, .val (.long q6), .second, .val (.ref aG), .val (.int sel), .val (.long vx), .second, .val (.long vy), .second, .val (.long vsx), .second, .val (.long vsy), .second, .val (.long vlx), .second, .val (.long vly), .second, .val (.double (4607182418800017408 : UInt64)), .second, .val (.int (if (cmpValue (FP.dcmp (FP.dadd (Jvm.Native.java_lang_Math.nans.pick64 true ((FP.dsub (FP.dmul (FP.l2d vsx) (4607182418800017408 : UInt64)) (FP.dmul (FP.l2d vx) (4607182418800017408 : UInt64))) &&& 0x7fffffffffffffff) ((FP.dsub (FP.dmul (FP.l2d vlx) (4607182418800017408 : UInt64)) (FP.dmul (FP.l2d vx) (4607182418800017408 : UInt64))) &&& 0x7fffffffffffffff)) (Jvm.Native.java_lang_Math.nans.pick64 true ((FP.dsub (FP.dmul (FP.l2d vsy) (4607182418800017408 : UInt64)) (FP.dmul (FP.l2d vy) (4607182418800017408 : UInt64))) &&& 0x7fffffffffffffff) ((FP.dsub (FP.dmul (FP.l2d vly) (4607182418800017408 : UInt64)) (FP.dmul (FP.l2d vy) (4607182418800017408 : UInt64))) &&& 0x7fffffffffffffff))) (9214364837600034815 : UInt64)) .g) < 0 then 1 else 0)), .unset, .unset, .unset, .unset, .unset] [(.long (own_lmax (own_labs (vsx - vx)) (own_labs (vlx - vx))))])) _
          refine own_f_lload X64.here hx (hb hby at_178) rfl (rfl : _ = 180) ?_
          refine own_f_lload X64.here hx (hb hby at_180) rfl (rfl : _ = 182) ?_
          refine own_f_lsub X64.here hx (hb hby at_182) rfl (rfl : _ = 183) ?_
          refine st65 _ ?_
          show Steps p.tables e below (T65.setTop (mkF m 186 #[.val (.long q1), .second, .val (.long q2), .second, .val (.long q3), .second, .val (.long q4), .second, .val (.long q5), .second, .val (.long q6), .second, .val (.ref aG), .val (.int sel), .val (.long vx), .second, .val (.long vy), .second, .val (.long vsx), .second, .val (.long vsy), .second, .val (.long vlx), .second, .val (.long vly), .second, .val (.double (4607182418800017408 : UInt64)), .second, .val (.int (if (cmpValue (FP.dcmp (FP.dadd (Jvm.Native.java_lang_Math.nans.pick64 true ((FP.dsub (FP.dmul (FP.l2d vsx) (4607182418800017408 : UInt64)) (FP.dmul (FP.l2d vx) (4607182418800017408 : UInt64))) &&& 0x7fffffffffffffff) ((FP.dsub (FP.dmul (FP.l2d vlx) (4607182418800017408 : UInt64)) (FP.dmul (FP.l2d vx) (4607182418800017408 : UInt64))) &&& 0x7fffffffffffffff)) (Jvm.Native.java_lang_Math.nans.pick64 true ((FP.dsub (FP.dmul (FP.l2d vsy) (4607182418800017408 : UInt64)) (FP.dmul (FP.l2d vy) (4607182418800017408 : UInt64))) &&& 0x7fffffffffffffff) ((FP.dsub (FP.dmul (FP.l2d vly) (4607182418800017408 : UInt64)) (FP.dmul (FP.l2d vy) (4607182418800017408 : UInt64))) &&& 0x7fffffffffffffff))) (9214364837600034815 : UInt64)) .g) < 0 then 1 else 0)), .unset, .unset, .unset, .unset, .unset] [(.long (own_labs (vsy - vy))), (.long (own_lmax (own_labs (vsx - vx)) (own_labs (vlx - vx))))])) _
          refine own_f_lload X65.here hx (hb hby at_186) rfl (rfl : _ = 188) ?_
          refine own_f_lload X65.here hx (hb hby at_188) rfl (rfl : _ = 190) ?_
          refine own_f_lsub X65.here hx (hb hby at_190) rfl (rfl : _ = 191) ?_
          refine st66 _ ?_
          show Steps p.tables e below (T66.setTop (mkF m 194 #[.val (.long q1), .second, .val (.long q2), .second, .val (.long q3), .second, .val (.long q4), .second, .val (.long q5), .second, .val (.long q6), .second, .val (.ref aG), .val (.int sel), .val (.long vx), .second, .val (.long vy), .second, .val (.long vsx), .second, .val (.long vsy), .second, .val (.long vlx), .second, .val (.long vly), .second, .val (.double (4607182418800017408 : UInt64)), .second, .val (.int (if (cmpValue (FP.dcmp (FP.dadd (Jvm.Native.java_lang_Math.nans.pick64 true ((FP.dsub (FP.dmul (FP.l2d vsx) (4607182418800017408 : UInt64)) (FP.dmul (FP.l2d vx) (4607182418800017408 : UInt64))) &&& 0x7fffffffffffffff) ((FP.dsub (FP.dmul (FP.l2d vlx) (4607182418800017408 : UInt64)) (FP.dmul (FP.l2d vx) (4607182418800017408 : UInt64))) &&& 0x7fffffffffffffff)) (Jvm.Native.java_lang_Math.nans.pick64 true ((FP.dsub (FP.dmul (FP.l2d vsy) (4607182418800017408 : UInt64)) (FP.dmul (FP.l2d vy) (4607182418800017408 : UInt64))) &&& 0x7fffffffffffffff) ((FP.dsub (FP.dmul (FP.l2d vly) (4607182418800017408 : UInt64)) (FP.dmul (FP.l2d vy) (4607182418800017408 : UInt64))) &&& 0x7fffffffffffffff))) (9214364837600034815 : UInt64)) .g) < 0 then 1 else 0)), .unset, .unset, .unset, .unset, .unset] [(.long (own_labs (vly - vy))), (.long (own_labs (vsy - vy))), (.long (own_lmax (own_labs (vsx - vx)) (own_labs (vlx - vx))))])) _
          refine st67 _ ?_
          show Steps p.tables e below (T67.setTop (mkF m 197 #[.val (.long q1), .second, .val (.long q2), .second, .val (.long q3), .second, .val (.long q4), .second, .val (.long q5), .second, .val (.long q6), .second, .val (.ref aG), .val (.int sel), .val (.long vx), .second, .val (.long vy), .second, .val (.long vsx), .second, .val (.long vsy), .second, .val (.long vlx), .second, .val (.long vly), .second, .val (.double (4607182418800017408 : UInt64)), .second, .val (.int (if (cmpValue (FP.dcmp (FP.dadd (Jvm.Native.java_lang_Math.nans.pick64 true ((FP.dsub (FP.dmul (FP.l2d vsx) (4607182418800017408 : UInt64)) (FP.dmul (FP.l2d vx) (4607182418800017408 : UInt64))) &&& 0x7fffffffffffffff) ((FP.dsub (FP.dmul (FP.l2d vlx) (4607182418800017408 : UInt64)) (FP.dmul (FP.l2d vx) (4607182418800017408 : UInt64))) &&& 0x7fffffffffffffff)) (Jvm.Native.java_lang_Math.nans.pick64 true ((FP.dsub (FP.dmul (FP.l2d vsy) (4607182418800017408 : UInt64)) (FP.dmul (FP.l2d vy) (4607182418800017408 : UInt64))) &&& 0x7fffffffffffffff) ((FP.dsub (FP.dmul (FP.l2d vly) (4607182418800017408 : UInt64)) (FP.dmul (FP.l2d vy) (4607182418800017408 : UInt64))) &&& 0x7fffffffffffffff))) (9214364837600034815 : UInt64)) .g) < 0 then 1 else 0)), .unset, .unset, .unset, .unset, .unset] [(.long (own_lmax (own_labs (vsy - vy)) (own_labs (vly - vy)))), (.long (own_lmax (own_labs (vsx - vx)) (own_labs (vlx - vx))))])) _
          refine own_f_ladd X67.here hx (hb hby at_197) rfl (rfl : _ = 198) ?_
          refine own_f_lstore X67.here hx (hb hby at_198) (rfl : storeLocals _ _ _ = some #[.val (.long q1), .second, .val (.long q2), .second, .val (.long q3), .second, .val (.long q4), .second, .val (.long q5), .second, .val (.long q6), .second, .val (.ref aG), .val (.int sel), .val (.long vx), .second, .val (.long vy), .second, .val (.long vsx), .second, .val (.long vsy), .second, .val (.long vlx), .second, .val (.long vly), .second, .val (.double (4607182418800017408 : UInt64)), .second, .val (.int (if (cmpValue (FP.dcmp (FP.dadd (Jvm.Native.java_lang_Math.nans.pick64 true ((FP.dsub (FP.dmul (FP.l2d vsx) (4607182418800017408 : UInt64)) (FP.dmul (FP.l2d vx) (4607182418800017408 : UInt64))) &&& 0x7fffffffffffffff) ((FP.dsub (FP.dmul (FP.l2d vlx) (4607182418800017408 : UInt64)) (FP.dmul (FP.l2d vx) (4607182418800017408 : UInt64))) &&& 0x7fffffffffffffff)) (Jvm.Native.java_lang_Math.nans.pick64 true ((FP.dsub (FP.dmul (FP.l2d vsy) (4607182418800017408 : UInt64)) (FP.dmul (FP.l2d vy) (4607182418800017408 : UInt64))) &&& 0x7fffffffffffffff) ((FP.dsub (FP.dmul (FP.l2d vly) (4607182418800017408 : UInt64)) (FP.dmul (FP.l2d vy) (4607182418800017408 : UInt64))) &&& 0x7fffffffffffffff))) (9214364837600034815 : UInt64)) .g) < 0 then 1 else 0)), .val (.long ((own_lmax (own_labs (vsx - vx)) (own_labs (vlx - vx))) + (own_lmax (own_labs (vsy - vy)) (own_labs (vly - vy))))), .second, .unset, .unset, .unset]) (rfl : _ = 200) ?_
          refine own_f_ldc2Long X67 hx hown (mvT hZ (hw _ (List.mem_of_getElem? (i := 23) rfl))) (hb hby at_200) (rfl : _ = 203) ?_
          refine own_f_lstore X67.here hx (hb hby at_203) (rfl : storeLocals _ _ _ = some #[.val (.long q1), .second, .val (.long q2), .second, .val (.long q3), .second, .val (.long q4), .second, .val (.long q5), .second, .val (.long q6), .second, .val (.ref aG), .val (.int sel), .val (.long vx), .second, .val (.long vy), .second, .val (.long vsx), .second, .val (.long vsy), .second, .val (.long vlx), .second, .val (.long vly), .second, .val (.double (4607182418800017408 : UInt64)), .second, .val (.int (if (cmpValue (FP.dcmp (FP.dadd (Jvm.Native.java_lang_Math.nans.pick64 true ((FP.dsub (FP.dmul (FP.l2d vsx) (4607182418800017408 : UInt64)) (FP.dmul (FP.l2d vx) (4607182418800017408 : UInt64))) &&& 0x7fffffffffffffff) ((FP.dsub (FP.dmul (FP.l2d vlx) (4607182418800017408 : UInt64)) (FP.dmul (FP.l2d vx) (4607182418800017408 : UInt64))) &&& 0x7fffffffffffffff)) (Jvm.Native.java_lang_Math.nans.pick64 true ((FP.dsub (FP.dmul (FP.l2d vsy) (4607182418800017408 : UInt64)) (FP.dmul (FP.l2d vy) (4607182418800017408 : UInt64))) &&& 0x7fffffffffffffff) ((FP.dsub (FP.dmul (FP.l2d vly) (4607182418800017408 : UInt64)) (FP.dmul (FP.l2d vy) (4607182418800017408 : UInt64))) &&& 0x7fffffffffffffff))) (9214364837600034815 : UInt64)) .g) < 0 then 1 else 0)), .val (.long ((own_lmax (own_labs (vsx - vx)) (own_labs (vlx - vx))) + (own_lmax (own_labs (vsy - vy)) (own_labs (vly - vy))))), .second, .val (.long (9007199254740991 : Int64)), .second, .unset]) (rfl : _ = 205) ?_
          refine own_f_iload X67.here hx (hb hby at_205) rfl (rfl : _ = 207) ?_
          refine own_f_iconst X67.here hx (hb hby at_207) (rfl : _ = (1 : Int32)) (rfl : _ = 208) ?_
          refine own_f_icmpYes X67.here hx (hb hby at_208) (feq (h1)).2 (by decide) (by decide : _ = 229) ?_
          refine own_f_iload X67.here hx (hb hby at_229) rfl (rfl : _ = 231) ?_
          refine own_f_iconst X67.here hx (hb hby at_231) (rfl : _ = (2 : Int32)) (rfl : _ = 232) ?_
          refine own_f_icmpYes X67.here hx (hb hby at_232) (feq (h2)).2 (by decide) (by decide : _ = 257) ?_
          refine own_f_iconst X67.here hx (hb hby at_257) (rfl : _ = (1 : Int32)) (rfl : _ = 258) ?_
          refine own_f_istore X67.here hx (hb hby at_258) (rfl : storeLocals _ _ _ = some #[.val (.long q1), .second, .val (.long q2), .second, .val (.long q3), .second, .val (.long q4), .second, .val (.long q5), .second, .val (.long q6), .second, .val (.ref aG), .val (.int sel), .val (.long vx), .second, .val (.long vy), .second, .val (.long vsx), .second, .val (.long vsy), .second, .val (.long vlx), .second, .val (.long vly), .second, .val (.double (4607182418800017408 : UInt64)), .second, .val (.int (if (cmpValue (FP.dcmp (FP.dadd (Jvm.Native.java_lang_Math.nans.pick64 true ((FP.dsub (FP.dmul (FP.l2d vsx) (4607182418800017408 : UInt64)) (FP.dmul (FP.l2d vx) (4607182418800017408 : UInt64))) &&& 0x7fffffffffffffff) ((FP.dsub (FP.dmul (FP.l2d vlx) (4607182418800017408 : UInt64)) (FP.dmul (FP.l2d vx) (4607182418800017408 : UInt64))) &&& 0x7fffffffffffffff)) (Jvm.Native.java_lang_Math.nans.pick64 true ((FP.dsub (FP.dmul (FP.l2d vsy) (4607182418800017408 : UInt64)) (FP.dmul (FP.l2d vy) (4607182418800017408 : UInt64))) &&& 0x7fffffffffffffff) ((FP.dsub (FP.dmul (FP.l2d vly) (4607182418800017408 : UInt64)) (FP.dmul (FP.l2d vy) (4607182418800017408 : UInt64))) &&& 0x7fffffffffffffff))) (9214364837600034815 : UInt64)) .g) < 0 then 1 else 0)), .val (.long ((own_lmax (own_labs (vsx - vx)) (own_labs (vlx - vx))) + (own_lmax (own_labs (vsy - vy)) (own_labs (vly - vy))))), .second, .val (.long (9007199254740991 : Int64)), .second, .val (.int (1 : Int32))]) (rfl : _ = 260) ?_
          refine own_f_iload X67.here hx (hb hby at_260) rfl (rfl : _ = 262) ?_
          refine own_f_iload X67.here hx (hb hby at_262) rfl (rfl : _ = 264) ?_
          refine own_f_icmpNo X67.here hx (hb hby at_264) (teq (if_pos hres)).2 (rfl : _ = 267) ?_
          refine own_f_iconst X67.here hx (hb hby at_267) (rfl : _ = (1 : Int32)) (rfl : _ = 268) ?_
          refine own_f_goto X67.here hx (hb hby at_268) (by decide) (by decide : _ = 272) ?_
          exact retN X67 hx (t := .boolean) Bd.returns (by simp) (hb hby at_272) hr
        · show Q0 Z q1 q2 q3 q4 q5 q6 aG aP h0 n0 _ T67.heap _
          rw [e67]
          exact ⟨rfl, N67⟩
  · obtain ⟨T2, X2, e2, st2⟩ := getS2 X0 hx hZ hown (host := "") (Or.inl (hw _ (List.mem_of_getElem? (i := 24) rfl))) Via.refl e0 Sp (g := (mkF m 15 #[.val (.long q1), .second, .val (.long q2), .second, .val (.long q3), .second, .val (.long q4), .second, .val (.long q5), .second, .val (.long q6), .second, .unset, .unset, .unset, .unset, .unset, .unset, .unset, .unset, .unset, .unset, .unset, .unset, .unset, .unset, .unset, .unset, .unset, .unset, .unset, .unset, .unset, .unset] [])) rfl (hb hby at_15)
    have k3 : ∀ t_, Steps p.tables e below (T2.setTop (mkF m 31 #[.val (.long q1), .second, .val (.long q2), .second, .val (.long q3), .second, .val (.long q4), .second, .val (.long q5), .second, .val (.long q6), .second, .val (.ref aP), .val (.int ((((q2.toUInt64 >>> ((61 : Int32) &&& 0x3f).toInt64.toUInt64).toInt64) &&& (3 : Int64)).toInt32)), .unset, .unset, .unset, .unset, .unset, .unset, .unset, .unset, .unset, .unset, .unset, .unset, .unset, .unset, .unset, .unset, .unset, .unset, .unset, .unset] [])) t_ → Steps p.tables e below A t_ := by
      intro t_ ht_
      refine k1 t_ ?_
      refine own_f_ifYes X0.here hx (hb hby at_6) ((if0 _ _).trans (feq (hG)).2) (by decide) (by decide : _ = 15) ?_
      refine st2 _ ?_
      show Steps p.tables e below (T2.setTop (mkF m 18 #[.val (.long q1), .second, .val (.long q2), .second, .val (.long q3), .second, .val (.long q4), .second, .val (.long q5), .second, .val (.long q6), .second, .unset, .unset, .unset, .unset, .unset, .unset, .unset, .unset, .unset, .unset, .unset, .unset, .unset, .unset, .unset, .unset, .unset, .unset, .unset, .unset, .unset, .unset] [(.ref aP)])) t_
      refine own_f_astore X2.here hx (hb hby at_18) rfl (rfl : storeLocals _ _ _ = some #[.val (.long q1), .second, .val (.long q2), .second, .val (.long q3), .second, .val (.long q4), .second, .val (.long q5), .second, .val (.long q6), .second, .val (.ref aP), .unset, .unset, .unset, .unset, .unset, .unset, .unset, .unset, .unset, .unset, .unset, .unset, .unset, .unset, .unset, .unset, .unset, .unset, .unset, .unset, .unset]) (rfl : _ = 20) ?_
      refine own_f_lloadN X2.here hx (hb hby at_20) rfl (rfl : _ = 21) ?_
      refine own_f_bipush X2.here hx (hb hby at_21) (rfl : _ = (61 : Int32)) (rfl : _ = 23) ?_
      refine own_f_lushr X2.here hx (hb hby at_23) (rfl : _ = 24) ?_
      refine own_f_ldc2Long X2 hx hown (mvT hZ (hw _ (List.mem_of_getElem? (i := 3) rfl))) (hb hby at_24) (rfl : _ = 27) ?_
      refine own_f_land X2.here hx (hb hby at_27) rfl (rfl : _ = 28) ?_
      refine own_f_l2i X2.here hx (hb hby at_28) (rfl : _ = 29) ?_
      refine own_f_istore X2.here hx (hb hby at_29) (rfl : storeLocals _ _ _ = some #[.val (.long q1), .second, .val (.long q2), .second, .val (.long q3), .second, .val (.long q4), .second, .val (.long q5), .second, .val (.long q6), .second, .val (.ref aP), .val (.int ((((q2.toUInt64 >>> ((61 : Int32) &&& 0x3f).toInt64.toUInt64).toInt64) &&& (3 : Int64)).toInt32)), .unset, .unset, .unset, .unset, .unset, .unset, .unset, .unset, .unset, .unset, .unset, .unset, .unset, .unset, .unset, .unset, .unset, .unset, .unset, .unset]) (rfl : _ = 31) ?_
      exact ht_
    obtain ⟨sel, hsel⟩ : ∃ z : Int32, z = ((((q2.toUInt64 >>> ((61 : Int32) &&& 0x3f).toInt64.toUInt64).toInt64) &&& (3 : Int64)).toInt32) := ⟨_, rfl⟩
    rw [← hsel] at k3
    have k4 : ∀ t_, Steps p.tables e below (T2.setTop (mkF m 40 #[.val (.long q1), .second, .val (.long q2), .second, .val (.long q3), .second, .val (.long q4), .second, .val (.long q5), .second, .val (.long q6), .second, .val (.ref aP), .val (.int sel), .val (.long ((q1 <<< ((11 : Int32) &&& 0x3f).toInt64) >>> ((11 : Int32) &&& 0x3f).toInt64)), .second, .unset, .unset, .unset, .unset, .unset, .unset, .unset, .unset, .unset, .unset, .unset, .unset, .unset, .unset, .unset, .unset, .unset, .unset] [])) t_ → Steps p.tables e below A t_ := by
      intro t_ ht_
      refine k3 t_ ?_
      refine own_f_lloadN X2.here hx (hb hby at_31) rfl (rfl : _ = 32) ?_
      refine own_f_bipush X2.here hx (hb hby at_32) (rfl : _ = (11 : Int32)) (rfl : _ = 34) ?_
      refine own_f_lshl X2.here hx (hb hby at_34) (rfl : _ = 35) ?_
      refine own_f_bipush X2.here hx (hb hby at_35) (rfl : _ = (11 : Int32)) (rfl : _ = 37) ?_
      refine own_f_lshr X2.here hx (hb hby at_37) (rfl : _ = 38) ?_
      refine own_f_lstore X2.here hx (hb hby at_38) (rfl : storeLocals _ _ _ = some #[.val (.long q1), .second, .val (.long q2), .second, .val (.long q3), .second, .val (.long q4), .second, .val (.long q5), .second, .val (.long q6), .second, .val (.ref aP), .val (.int sel), .val (.long ((q1 <<< ((11 : Int32) &&& 0x3f).toInt64) >>> ((11 : Int32) &&& 0x3f).toInt64)), .second, .unset, .unset, .unset, .unset, .unset, .unset, .unset, .unset, .unset, .unset, .unset, .unset, .unset, .unset, .unset, .unset, .unset, .unset]) (rfl : _ = 40) ?_
      exact ht_
    obtain ⟨vx, hvx⟩ : ∃ z : Int64, z = ((q1 <<< ((11 : Int32) &&& 0x3f).toInt64) >>> ((11 : Int32) &&& 0x3f).toInt64) := ⟨_, rfl⟩
    rw [← hvx] at k4
    have b_x := own_53 hvx
    have k5 : ∀ t_, Steps p.tables e below (T2.setTop (mkF m 49 #[.val (.long q1), .second, .val (.long q2), .second, .val (.long q3), .second, .val (.long q4), .second, .val (.long q5), .second, .val (.long q6), .second, .val (.ref aP), .val (.int sel), .val (.long vx), .second, .val (.long ((q2 <<< ((11 : Int32) &&& 0x3f).toInt64) >>> ((11 : Int32) &&& 0x3f).toInt64)), .second, .unset, .unset, .unset, .unset, .unset, .unset, .unset, .unset, .unset, .unset, .unset, .unset, .unset, .unset, .unset, .unset] [])) t_ → Steps p.tables e below A t_ := by
      intro t_ ht_
      refine k4 t_ ?_
      refine own_f_lloadN X2.here hx (hb hby at_40) rfl (rfl : _ = 41) ?_
      refine own_f_bipush X2.here hx (hb hby at_41) (rfl : _ = (11 : Int32)) (rfl : _ = 43) ?_
      refine own_f_lshl X2.here hx (hb hby at_43) (rfl : _ = 44) ?_
      refine own_f_bipush X2.here hx (hb hby at_44) (rfl : _ = (11 : Int32)) (rfl : _ = 46) ?_
      refine own_f_lshr X2.here hx (hb hby at_46) (rfl : _ = 47) ?_
      refine own_f_lstore X2.here hx (hb hby at_47) (rfl : storeLocals _ _ _ = some #[.val (.long q1), .second, .val (.long q2), .second, .val (.long q3), .second, .val (.long q4), .second, .val (.long q5), .second, .val (.long q6), .second, .val (.ref aP), .val (.int sel), .val (.long vx), .second, .val (.long ((q2 <<< ((11 : Int32) &&& 0x3f).toInt64) >>> ((11 : Int32) &&& 0x3f).toInt64)), .second, .unset, .unset, .unset, .unset, .unset, .unset, .unset, .unset, .unset, .unset, .unset, .unset, .unset, .unset, .unset, .unset]) (rfl : _ = 49) ?_
      exact ht_
    obtain ⟨vy, hvy⟩ : ∃ z : Int64, z = ((q2 <<< ((11 : Int32) &&& 0x3f).toInt64) >>> ((11 : Int32) &&& 0x3f).toInt64) := ⟨_, rfl⟩
    rw [← hvy] at k5
    have b_y := own_53 hvy
    have k6 : ∀ t_, Steps p.tables e below (T2.setTop (mkF m 59 #[.val (.long q1), .second, .val (.long q2), .second, .val (.long q3), .second, .val (.long q4), .second, .val (.long q5), .second, .val (.long q6), .second, .val (.ref aP), .val (.int sel), .val (.long vx), .second, .val (.long vy), .second, .val (.long ((q3 <<< ((11 : Int32) &&& 0x3f).toInt64) >>> ((11 : Int32) &&& 0x3f).toInt64)), .second, .unset, .unset, .unset, .unset, .unset, .unset, .unset, .unset, .unset, .unset, .unset, .unset, .unset, .unset] [])) t_ → Steps p.tables e below A t_ := by
      intro t_ ht_
      refine k5 t_ ?_
      refine own_f_lload X2.here hx (hb hby at_49) rfl (rfl : _ = 51) ?_
      refine own_f_bipush X2.here hx (hb hby at_51) (rfl : _ = (11 : Int32)) (rfl : _ = 53) ?_
      refine own_f_lshl X2.here hx (hb hby at_53) (rfl : _ = 54) ?_
      refine own_f_bipush X2.here hx (hb hby at_54) (rfl : _ = (11 : Int32)) (rfl : _ = 56) ?_
      refine own_f_lshr X2.here hx (hb hby at_56) (rfl : _ = 57) ?_
      refine own_f_lstore X2.here hx (hb hby at_57) (rfl : storeLocals _ _ _ = some #[.val (.long q1), .second, .val (.long q2), .second, .val (.long q3), .second, .val (.long q4), .second, .val (.long q5), .second, .val (.long q6), .second, .val (.ref aP), .val (.int sel), .val (.long vx), .second, .val (.long vy), .second, .val (.long ((q3 <<< ((11 : Int32) &&& 0x3f).toInt64) >>> ((11 : Int32) &&& 0x3f).toInt64)), .second, .unset, .unset, .unset, .unset, .unset, .unset, .unset, .unset, .unset, .unset, .unset, .unset, .unset, .unset]) (rfl : _ = 59) ?_
      exact ht_
    obtain ⟨vsx, hvsx⟩ : ∃ z : Int64, z = ((q3 <<< ((11 : Int32) &&& 0x3f).toInt64) >>> ((11 : Int32) &&& 0x3f).toInt64) := ⟨_, rfl⟩
    rw [← hvsx] at k6
    have b_sx := own_53 hvsx
    have k7 : ∀ t_, Steps p.tables e below (T2.setTop (mkF m 69 #[.val (.long q1), .second, .val (.long q2), .second, .val (.long q3), .second, .val (.long q4), .second, .val (.long q5), .second, .val (.long q6), .second, .val (.ref aP), .val (.int sel), .val (.long vx), .second, .val (.long vy), .second, .val (.long vsx), .second, .val (.long ((q4 <<< ((11 : Int32) &&& 0x3f).toInt64) >>> ((11 : Int32) &&& 0x3f).toInt64)), .second, .unset, .unset, .unset, .unset, .unset, .unset, .unset, .unset, .unset, .unset, .unset, .unset] [])) t_ → Steps p.tables e below A t_ := by
      intro t_ ht_
      refine k6 t_ ?_
      refine own_f_lload X2.here hx (hb hby at_59) rfl (rfl : _ = 61) ?_
      refine own_f_bipush X2.here hx (hb hby at_61) (rfl : _ = (11 : Int32)) (rfl : _ = 63) ?_
      refine own_f_lshl X2.here hx (hb hby at_63) (rfl : _ = 64) ?_
      refine own_f_bipush X2.here hx (hb hby at_64) (rfl : _ = (11 : Int32)) (rfl : _ = 66) ?_
      refine own_f_lshr X2.here hx (hb hby at_66) (rfl : _ = 67) ?_
      refine own_f_lstore X2.here hx (hb hby at_67) (rfl : storeLocals _ _ _ = some #[.val (.long q1), .second, .val (.long q2), .second, .val (.long q3), .second, .val (.long q4), .second, .val (.long q5), .second, .val (.long q6), .second, .val (.ref aP), .val (.int sel), .val (.long vx), .second, .val (.long vy), .second, .val (.long vsx), .second, .val (.long ((q4 <<< ((11 : Int32) &&& 0x3f).toInt64) >>> ((11 : Int32) &&& 0x3f).toInt64)), .second, .unset, .unset, .unset, .unset, .unset, .unset, .unset, .unset, .unset, .unset, .unset, .unset]) (rfl : _ = 69) ?_
      exact ht_
    obtain ⟨vsy, hvsy⟩ : ∃ z : Int64, z = ((q4 <<< ((11 : Int32) &&& 0x3f).toInt64) >>> ((11 : Int32) &&& 0x3f).toInt64) := ⟨_, rfl⟩
    rw [← hvsy] at k7
    have b_sy := own_53 hvsy
    have k8 : ∀ t_, Steps p.tables e below (T2.setTop (mkF m 79 #[.val (.long q1), .second, .val (.long q2), .second, .val (.long q3), .second, .val (.long q4), .second, .val (.long q5), .second, .val (.long q6), .second, .val (.ref aP), .val (.int sel), .val (.long vx), .second, .val (.long vy), .second, .val (.long vsx), .second, .val (.long vsy), .second, .val (.long ((q5 <<< ((11 : Int32) &&& 0x3f).toInt64) >>> ((11 : Int32) &&& 0x3f).toInt64)), .second, .unset, .unset, .unset, .unset, .unset, .unset, .unset, .unset, .unset, .unset] [])) t_ → Steps p.tables e below A t_ := by
      intro t_ ht_
      refine k7 t_ ?_
      refine own_f_lload X2.here hx (hb hby at_69) rfl (rfl : _ = 71) ?_
      refine own_f_bipush X2.here hx (hb hby at_71) (rfl : _ = (11 : Int32)) (rfl : _ = 73) ?_
      refine own_f_lshl X2.here hx (hb hby at_73) (rfl : _ = 74) ?_
      refine own_f_bipush X2.here hx (hb hby at_74) (rfl : _ = (11 : Int32)) (rfl : _ = 76) ?_
      refine own_f_lshr X2.here hx (hb hby at_76) (rfl : _ = 77) ?_
      refine own_f_lstore X2.here hx (hb hby at_77) (rfl : storeLocals _ _ _ = some #[.val (.long q1), .second, .val (.long q2), .second, .val (.long q3), .second, .val (.long q4), .second, .val (.long q5), .second, .val (.long q6), .second, .val (.ref aP), .val (.int sel), .val (.long vx), .second, .val (.long vy), .second, .val (.long vsx), .second, .val (.long vsy), .second, .val (.long ((q5 <<< ((11 : Int32) &&& 0x3f).toInt64) >>> ((11 : Int32) &&& 0x3f).toInt64)), .second, .unset, .unset, .unset, .unset, .unset, .unset, .unset, .unset, .unset, .unset]) (rfl : _ = 79) ?_
      exact ht_
    obtain ⟨vlx, hvlx⟩ : ∃ z : Int64, z = ((q5 <<< ((11 : Int32) &&& 0x3f).toInt64) >>> ((11 : Int32) &&& 0x3f).toInt64) := ⟨_, rfl⟩
    rw [← hvlx] at k8
    have b_lx := own_53 hvlx
    have k9 : ∀ t_, Steps p.tables e below (T2.setTop (mkF m 89 #[.val (.long q1), .second, .val (.long q2), .second, .val (.long q3), .second, .val (.long q4), .second, .val (.long q5), .second, .val (.long q6), .second, .val (.ref aP), .val (.int sel), .val (.long vx), .second, .val (.long vy), .second, .val (.long vsx), .second, .val (.long vsy), .second, .val (.long vlx), .second, .val (.long ((q6 <<< ((11 : Int32) &&& 0x3f).toInt64) >>> ((11 : Int32) &&& 0x3f).toInt64)), .second, .unset, .unset, .unset, .unset, .unset, .unset, .unset, .unset] [])) t_ → Steps p.tables e below A t_ := by
      intro t_ ht_
      refine k8 t_ ?_
      refine own_f_lload X2.here hx (hb hby at_79) rfl (rfl : _ = 81) ?_
      refine own_f_bipush X2.here hx (hb hby at_81) (rfl : _ = (11 : Int32)) (rfl : _ = 83) ?_
      refine own_f_lshl X2.here hx (hb hby at_83) (rfl : _ = 84) ?_
      refine own_f_bipush X2.here hx (hb hby at_84) (rfl : _ = (11 : Int32)) (rfl : _ = 86) ?_
      refine own_f_lshr X2.here hx (hb hby at_86) (rfl : _ = 87) ?_
      refine own_f_lstore X2.here hx (hb hby at_87) (rfl : storeLocals _ _ _ = some #[.val (.long q1), .second, .val (.long q2), .second, .val (.long q3), .second, .val (.long q4), .second, .val (.long q5), .second, .val (.long q6), .second, .val (.ref aP), .val (.int sel), .val (.long vx), .second, .val (.long vy), .second, .val (.long vsx), .second, .val (.long vsy), .second, .val (.long vlx), .second, .val (.long ((q6 <<< ((11 : Int32) &&& 0x3f).toInt64) >>> ((11 : Int32) &&& 0x3f).toInt64)), .second, .unset, .unset, .unset, .unset, .unset, .unset, .unset, .unset]) (rfl : _ = 89) ?_
      exact ht_
    obtain ⟨vly, hvly⟩ : ∃ z : Int64, z = ((q6 <<< ((11 : Int32) &&& 0x3f).toInt64) >>> ((11 : Int32) &&& 0x3f).toInt64) := ⟨_, rfl⟩
    rw [← hvly] at k9
    have b_ly := own_53 hvly
    have k10 : ∀ t_, Steps p.tables e below (T2.setTop (mkF m 92 #[.val (.long q1), .second, .val (.long q2), .second, .val (.long q3), .second, .val (.long q4), .second, .val (.long q5), .second, .val (.long q6), .second, .val (.ref aP), .val (.int sel), .val (.long vx), .second, .val (.long vy), .second, .val (.long vsx), .second, .val (.long vsy), .second, .val (.long vlx), .second, .val (.long vly), .second, .unset, .unset, .unset, .unset, .unset, .unset, .unset, .unset] [(.int (1 : Int32)), (.int sel)])) t_ → Steps p.tables e below A t_ := by
      intro t_ ht_
      refine k9 t_ ?_
      refine own_f_iload X2.here hx (hb hby at_89) rfl (rfl : _ = 91) ?_
      refine own_f_iconst X2.here hx (hb hby at_91) (rfl : _ = (1 : Int32)) (rfl : _ = 92) ?_
      exact ht_
    by_cases h1 : sel = (1 : Int32)
    · have hS := own_s970
      have m_x := own_scaled b_x hS (by decide)
      have m_y := own_scaled b_y hS (by decide)
      have m_sx := own_scaled b_sx hS (by decide)
      have m_sy := own_scaled b_sy hS (by decide)
      have m_lx := own_scaled b_lx hS (by decide)
      have m_ly := own_scaled b_ly hS (by decide)
      obtain ⟨n1, n2, n3, n4, iA, a1, a2, a3, RA⟩ := own_leg b_x b_sx b_lx m_x m_sx m_lx (by decide)
      obtain ⟨n5, n6, n7, n8, iB, c1, c2, c3, RB⟩ := own_leg b_y b_sy b_ly m_y m_sy m_ly (by decide)
      obtain ⟨n9, hres⟩ := own_res1 RA RB a1 a2 c1 c2 a3 c3
      obtain ⟨cq11, kq11, q11a, q11b, q11c⟩ := isOf hZ e2 ExP
      obtain ⟨_, _, ⟨T11, L11, k11_, n11⟩, -, X11, ⟨Lc11, hQ11, l11, y11, z11⟩, st11⟩ := X2.virtualBack hx (y := (⟨"com/example/honeyguide/honeyguide/CoordinateSystem", "measurable", "(DDDDDD)Z"⟩ : MethodName)) (z := (⟨"com/example/honeyguide/honeyguide/CoordinateSystem", "measurable", "(DDDDDD)Z"⟩ : MethodName)) hown (mvT hZ (hw _ (List.mem_of_getElem? (i := 4) rfl))) (mvT hZ (hw _ (List.mem_of_getElem? (i := 5) rfl))) (notFace_of_selects (args := #[]) (mvT hZ (hw _ (List.mem_of_getElem? (i := 26) rfl)))) (mvT hZ (hw _ (List.mem_of_getElem? (i := 26) rfl))) (mvT hZ (hw _ (List.mem_of_getElem? (i := 6) rfl))) (by decide) (backOf (W := 0) (rm1 l Z a0 hw [] aP (FP.dmul (FP.l2d vx) (8975674057349398528 : UInt64)) (FP.dmul (FP.l2d vy) (8975674057349398528 : UInt64)) (FP.dmul (FP.l2d vsx) (8975674057349398528 : UInt64)) (FP.dmul (FP.l2d vsy) (8975674057349398528 : UInt64)) (FP.dmul (FP.l2d vlx) (8975674057349398528 : UInt64)) (FP.dmul (FP.l2d vly) (8975674057349398528 : UInt64))  h0 n0 Z0 n1 n2 n3 n4 n5 n6 n7 n8 n9) hZ (hw _ (List.mem_of_getElem? (i := 8) rfl)) (hw _ (List.mem_of_getElem? (i := 1) rfl)) (by decide) (by decide)) q11a q11c (g := (mkF m 154 #[.val (.long q1), .second, .val (.long q2), .second, .val (.long q3), .second, .val (.long q4), .second, .val (.long q5), .second, .val (.long q6), .second, .val (.ref aP), .val (.int sel), .val (.long vx), .second, .val (.long vy), .second, .val (.long vsx), .second, .val (.long vsy), .second, .val (.long vlx), .second, .val (.long vly), .second, .val (.double (8975674057349398528 : UInt64)), .second, .unset, .unset, .unset, .unset, .unset, .unset] [(.double (FP.dmul (FP.l2d vly) (8975674057349398528 : UInt64))), (.double (FP.dmul (FP.l2d vlx) (8975674057349398528 : UInt64))), (.double (FP.dmul (FP.l2d vsy) (8975674057349398528 : UInt64))), (.double (FP.dmul (FP.l2d vsx) (8975674057349398528 : UInt64))), (.double (FP.dmul (FP.l2d vy) (8975674057349398528 : UInt64))), (.double (FP.dmul (FP.l2d vx) (8975674057349398528 : UInt64))), (.ref aP)])) rfl (by rw [hml]; rfl) (Steps.refl _) (argsL := [(.double (FP.dmul (FP.l2d vx) (8975674057349398528 : UInt64))), (.double (FP.dmul (FP.l2d vy) (8975674057349398528 : UInt64))), (.double (FP.dmul (FP.l2d vsx) (8975674057349398528 : UInt64))), (.double (FP.dmul (FP.l2d vsy) (8975674057349398528 : UInt64))), (.double (FP.dmul (FP.l2d vlx) (8975674057349398528 : UInt64))), (.double (FP.dmul (FP.l2d vly) (8975674057349398528 : UInt64)))]) (rest := []) (lenOf pd_2 rfl) rfl (by show 2 * 0 + _ ≤ _; exact Nat.le_of_eq rfl) (hb hby at_154) (fun _ _ => ⟨rfl, e2, (by decide : 0 + 0 ≤ _), (by decide : 0 + 0 ≤ _)⟩)
      dsimp only [Pt.U, Pt.locs, Pt.cells, Pt.slots] at X11 l11 y11 z11 st11 hQ11
      subst l11 y11 z11
      obtain ⟨rfl, Nq11, e11⟩ := hQ11
      have N11 := Fr.app N0 Nq11
      obtain ⟨_, _, ⟨T12, L12, k12_, n12⟩, -, X12, ⟨Lc12, hQ12, l12, y12, z12⟩, st12⟩ := Jvm.LawKit.callS X11 hx (y := (⟨"java/lang/Math", "abs", "(J)J"⟩ : MethodName)) hown (mvT hZ (hw _ (List.mem_of_getElem? (i := 17) rfl))) (mvT hZ (hw _ (List.mem_of_getElem? (i := 18) rfl))) (mvT hZ (hw _ (List.mem_of_getElem? (i := 11) rfl))) (mvT hZ (hw _ (List.mem_of_getElem? (i := 19) rfl))) (by decide) (backOf (W := 0) (rm4 l Z a0 hw [] (vsx - vx)  h0 n0 Z0) hZ (hw _ (List.mem_of_getElem? (i := 19) rfl)) (hw _ (List.mem_of_getElem? (i := 11) rfl)) (by decide) (by decide)) (g := (mkF m 164 #[.val (.long q1), .second, .val (.long q2), .second, .val (.long q3), .second, .val (.long q4), .second, .val (.long q5), .second, .val (.long q6), .second, .val (.ref aP), .val (.int sel), .val (.long vx), .second, .val (.long vy), .second, .val (.long vsx), .second, .val (.long vsy), .second, .val (.long vlx), .second, .val (.long vly), .second, .val (.double (8975674057349398528 : UInt64)), .second, .val (.int (if (cmpValue (FP.dcmp (FP.dadd (Jvm.Native.java_lang_Math.nans.pick64 true ((FP.dsub (FP.dmul (FP.l2d vsx) (8975674057349398528 : UInt64)) (FP.dmul (FP.l2d vx) (8975674057349398528 : UInt64))) &&& 0x7fffffffffffffff) ((FP.dsub (FP.dmul (FP.l2d vlx) (8975674057349398528 : UInt64)) (FP.dmul (FP.l2d vx) (8975674057349398528 : UInt64))) &&& 0x7fffffffffffffff)) (Jvm.Native.java_lang_Math.nans.pick64 true ((FP.dsub (FP.dmul (FP.l2d vsy) (8975674057349398528 : UInt64)) (FP.dmul (FP.l2d vy) (8975674057349398528 : UInt64))) &&& 0x7fffffffffffffff) ((FP.dsub (FP.dmul (FP.l2d vly) (8975674057349398528 : UInt64)) (FP.dmul (FP.l2d vy) (8975674057349398528 : UInt64))) &&& 0x7fffffffffffffff))) (9214364837600034815 : UInt64)) .g) < 0 then 1 else 0)), .unset, .unset, .unset, .unset, .unset] [(.long (vsx - vx))])) rfl (by rw [hml]; rfl) (argsL := [(.long (vsx - vx))]) (rest := []) (lenOf pd_3 rfl) rfl (by show 2 * 0 + _ ≤ _; exact Nat.le_of_eq rfl) (hb hby at_164) (fun _ _ => ⟨rfl, e11, (by decide : 0 + 0 ≤ _), (by decide : 0 + 0 ≤ _)⟩)
      dsimp only [Pt.U, Pt.locs, Pt.cells, Pt.slots] at X12 l12 y12 z12 st12 hQ12
      subst l12 y12 z12
      obtain ⟨rfl, Nq12, e12⟩ := hQ12
      have N12 := Fr.app N11 Nq12
      obtain ⟨_, _, ⟨T13, L13, k13_, n13⟩, -, X13, ⟨Lc13, hQ13, l13, y13, z13⟩, st13⟩ := Jvm.LawKit.callS X12 hx (y := (⟨"java/lang/Math", "abs", "(J)J"⟩ : MethodName)) hown (mvT hZ (hw _ (List.mem_of_getElem? (i := 17) rfl))) (mvT hZ (hw _ (List.mem_of_getElem? (i := 18) rfl))) (mvT hZ (hw _ (List.mem_of_getElem? (i := 11) rfl))) (mvT hZ (hw _ (List.mem_of_getElem? (i := 19) rfl))) (by decide) (backOf (W := 2) (rm4 l Z a0 hw [] (vlx - vx)  h0 n0 Z0) hZ (hw _ (List.mem_of_getElem? (i := 19) rfl)) (hw _ (List.mem_of_getElem? (i := 11) rfl)) (by decide) (by decide)) (g := (mkF m 172 #[.val (.long q1), .second, .val (.long q2), .second, .val (.long q3), .second, .val (.long q4), .second, .val (.long q5), .second, .val (.long q6), .second, .val (.ref aP), .val (.int sel), .val (.long vx), .second, .val (.long vy), .second, .val (.long vsx), .second, .val (.long vsy), .second, .val (.long vlx), .second, .val (.long vly), .second, .val (.double (8975674057349398528 : UInt64)), .second, .val (.int (if (cmpValue (FP.dcmp (FP.dadd (Jvm.Native.java_lang_Math.nans.pick64 true ((FP.dsub (FP.dmul (FP.l2d vsx) (8975674057349398528 : UInt64)) (FP.dmul (FP.l2d vx) (8975674057349398528 : UInt64))) &&& 0x7fffffffffffffff) ((FP.dsub (FP.dmul (FP.l2d vlx) (8975674057349398528 : UInt64)) (FP.dmul (FP.l2d vx) (8975674057349398528 : UInt64))) &&& 0x7fffffffffffffff)) (Jvm.Native.java_lang_Math.nans.pick64 true ((FP.dsub (FP.dmul (FP.l2d vsy) (8975674057349398528 : UInt64)) (FP.dmul (FP.l2d vy) (8975674057349398528 : UInt64))) &&& 0x7fffffffffffffff) ((FP.dsub (FP.dmul (FP.l2d vly) (8975674057349398528 : UInt64)) (FP.dmul (FP.l2d vy) (8975674057349398528 : UInt64))) &&& 0x7fffffffffffffff))) (9214364837600034815 : UInt64)) .g) < 0 then 1 else 0)), .unset, .unset, .unset, .unset, .unset] [(.long (vlx - vx)), (.long (own_labs (vsx - vx)))])) rfl (by rw [hml]; rfl) (argsL := [(.long (vlx - vx))]) (rest := [(.long (own_labs (vsx - vx)))]) (lenOf pd_3 rfl) rfl (by show 2 * 0 + _ ≤ _; exact Nat.le_of_eq rfl) (hb hby at_172) (fun _ _ => ⟨rfl, e12, (by decide : 0 + 0 ≤ _), (by decide : 0 + 0 ≤ _)⟩)
      dsimp only [Pt.U, Pt.locs, Pt.cells, Pt.slots] at X13 l13 y13 z13 st13 hQ13
      subst l13 y13 z13
      obtain ⟨rfl, Nq13, e13⟩ := hQ13
      have N13 := Fr.app N12 Nq13
      obtain ⟨_, _, ⟨T14, L14, k14_, n14⟩, -, X14, ⟨Lc14, hQ14, l14, y14, z14⟩, st14⟩ := Jvm.LawKit.callS X13 hx (y := (⟨"java/lang/Math", "max", "(JJ)J"⟩ : MethodName)) hown (mvT hZ (hw _ (List.mem_of_getElem? (i := 20) rfl))) (mvT hZ (hw _ (List.mem_of_getElem? (i := 21) rfl))) (mvT hZ (hw _ (List.mem_of_getElem? (i := 11) rfl))) (mvT hZ (hw _ (List.mem_of_getElem? (i := 22) rfl))) (by decide) (backOf (W := 0) (rm5 l Z a0 hw [] (own_labs (vsx - vx)) (own_labs (vlx - vx))  h0 n0 Z0) hZ (hw _ (List.mem_of_getElem? (i := 22) rfl)) (hw _ (List.mem_of_getElem? (i := 11) rfl)) (by decide) (by decide)) (g := (mkF m 175 #[.val (.long q1), .second, .val (.long q2), .second, .val (.long q3), .second, .val (.long q4), .second, .val (.long q5), .second, .val (.long q6), .second, .val (.ref aP), .val (.int sel), .val (.long vx), .second, .val (.long vy), .second, .val (.long vsx), .second, .val (.long vsy), .second, .val (.long vlx), .second, .val (.long vly), .second, .val (.double (8975674057349398528 : UInt64)), .second, .val (.int (if (cmpValue (FP.dcmp (FP.dadd (Jvm.Native.java_lang_Math.nans.pick64 true ((FP.dsub (FP.dmul (FP.l2d vsx) (8975674057349398528 : UInt64)) (FP.dmul (FP.l2d vx) (8975674057349398528 : UInt64))) &&& 0x7fffffffffffffff) ((FP.dsub (FP.dmul (FP.l2d vlx) (8975674057349398528 : UInt64)) (FP.dmul (FP.l2d vx) (8975674057349398528 : UInt64))) &&& 0x7fffffffffffffff)) (Jvm.Native.java_lang_Math.nans.pick64 true ((FP.dsub (FP.dmul (FP.l2d vsy) (8975674057349398528 : UInt64)) (FP.dmul (FP.l2d vy) (8975674057349398528 : UInt64))) &&& 0x7fffffffffffffff) ((FP.dsub (FP.dmul (FP.l2d vly) (8975674057349398528 : UInt64)) (FP.dmul (FP.l2d vy) (8975674057349398528 : UInt64))) &&& 0x7fffffffffffffff))) (9214364837600034815 : UInt64)) .g) < 0 then 1 else 0)), .unset, .unset, .unset, .unset, .unset] [(.long (own_labs (vlx - vx))), (.long (own_labs (vsx - vx)))])) rfl (by rw [hml]; rfl) (argsL := [(.long (own_labs (vsx - vx))), (.long (own_labs (vlx - vx)))]) (rest := []) (lenOf pd_4 rfl) rfl (by show 2 * 0 + _ ≤ _; exact Nat.le_of_eq rfl) (hb hby at_175) (fun _ _ => ⟨rfl, e13, (by decide : 0 + 0 ≤ _), (by decide : 0 + 0 ≤ _)⟩)
      dsimp only [Pt.U, Pt.locs, Pt.cells, Pt.slots] at X14 l14 y14 z14 st14 hQ14
      subst l14 y14 z14
      obtain ⟨rfl, Nq14, e14⟩ := hQ14
      have N14 := Fr.app N13 Nq14
      obtain ⟨_, _, ⟨T15, L15, k15_, n15⟩, -, X15, ⟨Lc15, hQ15, l15, y15, z15⟩, st15⟩ := Jvm.LawKit.callS X14 hx (y := (⟨"java/lang/Math", "abs", "(J)J"⟩ : MethodName)) hown (mvT hZ (hw _ (List.mem_of_getElem? (i := 17) rfl))) (mvT hZ (hw _ (List.mem_of_getElem? (i := 18) rfl))) (mvT hZ (hw _ (List.mem_of_getElem? (i := 11) rfl))) (mvT hZ (hw _ (List.mem_of_getElem? (i := 19) rfl))) (by decide) (backOf (W := 2) (rm4 l Z a0 hw [] (vsy - vy)  h0 n0 Z0) hZ (hw _ (List.mem_of_getElem? (i := 19) rfl)) (hw _ (List.mem_of_getElem? (i := 11) rfl)) (by decide) (by decide)) (g := (mkF m 183 #[.val (.long q1), .second, .val (.long q2), .second, .val (.long q3), .second, .val (.long q4), .second, .val (.long q5), .second, .val (.long q6), .second, .val (.ref aP), .val (.int sel), .val (.long vx), .second, .val (.long vy), .second, .val (.long vsx), .second, .val (.long vsy), .second, .val (.long vlx), .second, .val (.long vly), .second, .val (.double (8975674057349398528 : UInt64)), .second, .val (.int (if (cmpValue (FP.dcmp (FP.dadd (Jvm.Native.java_lang_Math.nans.pick64 true ((FP.dsub (FP.dmul (FP.l2d vsx) (8975674057349398528 : UInt64)) (FP.dmul (FP.l2d vx) (8975674057349398528 : UInt64))) &&& 0x7fffffffffffffff) ((FP.dsub (FP.dmul (FP.l2d vlx) (8975674057349398528 : UInt64)) (FP.dmul (FP.l2d vx) (8975674057349398528 : UInt64))) &&& 0x7fffffffffffffff)) (Jvm.Native.java_lang_Math.nans.pick64 true ((FP.dsub (FP.dmul (FP.l2d vsy) (8975674057349398528 : UInt64)) (FP.dmul (FP.l2d vy) (8975674057349398528 : UInt64))) &&& 0x7fffffffffffffff) ((FP.dsub (FP.dmul (FP.l2d vly) (8975674057349398528 : UInt64)) (FP.dmul (FP.l2d vy) (8975674057349398528 : UInt64))) &&& 0x7fffffffffffffff))) (9214364837600034815 : UInt64)) .g) < 0 then 1 else 0)), .unset, .unset, .unset, .unset, .unset] [(.long (vsy - vy)), (.long (own_lmax (own_labs (vsx - vx)) (own_labs (vlx - vx))))])) rfl (by rw [hml]; rfl) (argsL := [(.long (vsy - vy))]) (rest := [(.long (own_lmax (own_labs (vsx - vx)) (own_labs (vlx - vx))))]) (lenOf pd_3 rfl) rfl (by show 2 * 0 + _ ≤ _; exact Nat.le_of_eq rfl) (hb hby at_183) (fun _ _ => ⟨rfl, e14, (by decide : 0 + 0 ≤ _), (by decide : 0 + 0 ≤ _)⟩)
      dsimp only [Pt.U, Pt.locs, Pt.cells, Pt.slots] at X15 l15 y15 z15 st15 hQ15
      subst l15 y15 z15
      obtain ⟨rfl, Nq15, e15⟩ := hQ15
      have N15 := Fr.app N14 Nq15
      obtain ⟨_, _, ⟨T16, L16, k16_, n16⟩, -, X16, ⟨Lc16, hQ16, l16, y16, z16⟩, st16⟩ := Jvm.LawKit.callS X15 hx (y := (⟨"java/lang/Math", "abs", "(J)J"⟩ : MethodName)) hown (mvT hZ (hw _ (List.mem_of_getElem? (i := 17) rfl))) (mvT hZ (hw _ (List.mem_of_getElem? (i := 18) rfl))) (mvT hZ (hw _ (List.mem_of_getElem? (i := 11) rfl))) (mvT hZ (hw _ (List.mem_of_getElem? (i := 19) rfl))) (by decide) (backOf (W := 4) (rm4 l Z a0 hw [] (vly - vy)  h0 n0 Z0) hZ (hw _ (List.mem_of_getElem? (i := 19) rfl)) (hw _ (List.mem_of_getElem? (i := 11) rfl)) (by decide) (by decide)) (g := (mkF m 191 #[.val (.long q1), .second, .val (.long q2), .second, .val (.long q3), .second, .val (.long q4), .second, .val (.long q5), .second, .val (.long q6), .second, .val (.ref aP), .val (.int sel), .val (.long vx), .second, .val (.long vy), .second, .val (.long vsx), .second, .val (.long vsy), .second, .val (.long vlx), .second, .val (.long vly), .second, .val (.double (8975674057349398528 : UInt64)), .second, .val (.int (if (cmpValue (FP.dcmp (FP.dadd (Jvm.Native.java_lang_Math.nans.pick64 true ((FP.dsub (FP.dmul (FP.l2d vsx) (8975674057349398528 : UInt64)) (FP.dmul (FP.l2d vx) (8975674057349398528 : UInt64))) &&& 0x7fffffffffffffff) ((FP.dsub (FP.dmul (FP.l2d vlx) (8975674057349398528 : UInt64)) (FP.dmul (FP.l2d vx) (8975674057349398528 : UInt64))) &&& 0x7fffffffffffffff)) (Jvm.Native.java_lang_Math.nans.pick64 true ((FP.dsub (FP.dmul (FP.l2d vsy) (8975674057349398528 : UInt64)) (FP.dmul (FP.l2d vy) (8975674057349398528 : UInt64))) &&& 0x7fffffffffffffff) ((FP.dsub (FP.dmul (FP.l2d vly) (8975674057349398528 : UInt64)) (FP.dmul (FP.l2d vy) (8975674057349398528 : UInt64))) &&& 0x7fffffffffffffff))) (9214364837600034815 : UInt64)) .g) < 0 then 1 else 0)), .unset, .unset, .unset, .unset, .unset] [(.long (vly - vy)), (.long (own_labs (vsy - vy))), (.long (own_lmax (own_labs (vsx - vx)) (own_labs (vlx - vx))))])) rfl (by rw [hml]; rfl) (argsL := [(.long (vly - vy))]) (rest := [(.long (own_labs (vsy - vy))), (.long (own_lmax (own_labs (vsx - vx)) (own_labs (vlx - vx))))]) (lenOf pd_3 rfl) rfl (by show 2 * 0 + _ ≤ _; exact Nat.le_of_eq rfl) (hb hby at_191) (fun _ _ => ⟨rfl, e15, (by decide : 0 + 0 ≤ _), (by decide : 0 + 0 ≤ _)⟩)
      dsimp only [Pt.U, Pt.locs, Pt.cells, Pt.slots] at X16 l16 y16 z16 st16 hQ16
      subst l16 y16 z16
      obtain ⟨rfl, Nq16, e16⟩ := hQ16
      have N16 := Fr.app N15 Nq16
      obtain ⟨_, _, ⟨T17, L17, k17_, n17⟩, -, X17, ⟨Lc17, hQ17, l17, y17, z17⟩, st17⟩ := Jvm.LawKit.callS X16 hx (y := (⟨"java/lang/Math", "max", "(JJ)J"⟩ : MethodName)) hown (mvT hZ (hw _ (List.mem_of_getElem? (i := 20) rfl))) (mvT hZ (hw _ (List.mem_of_getElem? (i := 21) rfl))) (mvT hZ (hw _ (List.mem_of_getElem? (i := 11) rfl))) (mvT hZ (hw _ (List.mem_of_getElem? (i := 22) rfl))) (by decide) (backOf (W := 2) (rm5 l Z a0 hw [] (own_labs (vsy - vy)) (own_labs (vly - vy))  h0 n0 Z0) hZ (hw _ (List.mem_of_getElem? (i := 22) rfl)) (hw _ (List.mem_of_getElem? (i := 11) rfl)) (by decide) (by decide)) (g := (mkF m 194 #[.val (.long q1), .second, .val (.long q2), .second, .val (.long q3), .second, .val (.long q4), .second, .val (.long q5), .second, .val (.long q6), .second, .val (.ref aP), .val (.int sel), .val (.long vx), .second, .val (.long vy), .second, .val (.long vsx), .second, .val (.long vsy), .second, .val (.long vlx), .second, .val (.long vly), .second, .val (.double (8975674057349398528 : UInt64)), .second, .val (.int (if (cmpValue (FP.dcmp (FP.dadd (Jvm.Native.java_lang_Math.nans.pick64 true ((FP.dsub (FP.dmul (FP.l2d vsx) (8975674057349398528 : UInt64)) (FP.dmul (FP.l2d vx) (8975674057349398528 : UInt64))) &&& 0x7fffffffffffffff) ((FP.dsub (FP.dmul (FP.l2d vlx) (8975674057349398528 : UInt64)) (FP.dmul (FP.l2d vx) (8975674057349398528 : UInt64))) &&& 0x7fffffffffffffff)) (Jvm.Native.java_lang_Math.nans.pick64 true ((FP.dsub (FP.dmul (FP.l2d vsy) (8975674057349398528 : UInt64)) (FP.dmul (FP.l2d vy) (8975674057349398528 : UInt64))) &&& 0x7fffffffffffffff) ((FP.dsub (FP.dmul (FP.l2d vly) (8975674057349398528 : UInt64)) (FP.dmul (FP.l2d vy) (8975674057349398528 : UInt64))) &&& 0x7fffffffffffffff))) (9214364837600034815 : UInt64)) .g) < 0 then 1 else 0)), .unset, .unset, .unset, .unset, .unset] [(.long (own_labs (vly - vy))), (.long (own_labs (vsy - vy))), (.long (own_lmax (own_labs (vsx - vx)) (own_labs (vlx - vx))))])) rfl (by rw [hml]; rfl) (argsL := [(.long (own_labs (vsy - vy))), (.long (own_labs (vly - vy)))]) (rest := [(.long (own_lmax (own_labs (vsx - vx)) (own_labs (vlx - vx))))]) (lenOf pd_4 rfl) rfl (by show 2 * 0 + _ ≤ _; exact Nat.le_of_eq rfl) (hb hby at_194) (fun _ _ => ⟨rfl, e16, (by decide : 0 + 0 ≤ _), (by decide : 0 + 0 ≤ _)⟩)
      dsimp only [Pt.U, Pt.locs, Pt.cells, Pt.slots] at X17 l17 y17 z17 st17 hQ17
      subst l17 y17 z17
      obtain ⟨rfl, Nq17, e17⟩ := hQ17
      have N17 := Fr.app N16 Nq17
      have k18 : ∀ t_, Steps p.tables e below (T17.setTop (mkF m 216 #[.val (.long q1), .second, .val (.long q2), .second, .val (.long q3), .second, .val (.long q4), .second, .val (.long q5), .second, .val (.long q6), .second, .val (.ref aP), .val (.int sel), .val (.long vx), .second, .val (.long vy), .second, .val (.long vsx), .second, .val (.long vsy), .second, .val (.long vlx), .second, .val (.long vly), .second, .val (.double (8975674057349398528 : UInt64)), .second, .val (.int (if (cmpValue (FP.dcmp (FP.dadd (Jvm.Native.java_lang_Math.nans.pick64 true ((FP.dsub (FP.dmul (FP.l2d vsx) (8975674057349398528 : UInt64)) (FP.dmul (FP.l2d vx) (8975674057349398528 : UInt64))) &&& 0x7fffffffffffffff) ((FP.dsub (FP.dmul (FP.l2d vlx) (8975674057349398528 : UInt64)) (FP.dmul (FP.l2d vx) (8975674057349398528 : UInt64))) &&& 0x7fffffffffffffff)) (Jvm.Native.java_lang_Math.nans.pick64 true ((FP.dsub (FP.dmul (FP.l2d vsy) (8975674057349398528 : UInt64)) (FP.dmul (FP.l2d vy) (8975674057349398528 : UInt64))) &&& 0x7fffffffffffffff) ((FP.dsub (FP.dmul (FP.l2d vly) (8975674057349398528 : UInt64)) (FP.dmul (FP.l2d vy) (8975674057349398528 : UInt64))) &&& 0x7fffffffffffffff))) (9214364837600034815 : UInt64)) .g) < 0 then 1 else 0)), .val (.long ((own_lmax (own_labs (vsx - vx)) (own_labs (vlx - vx))) + (own_lmax (own_labs (vsy - vy)) (own_labs (vly - vy))))), .second, .val (.long (9007199254740991 : Int64)), .second, .unset] [(.int (lcmpW ((own_lmax (own_labs (vsx - vx)) (own_labs (vlx - vx))) + (own_lmax (own_labs (vsy - vy)) (own_labs (vly - vy)))) (9007199254740991 : Int64)))])) t_ → Steps p.tables e below A t_ := by
        intro t_ ht_
        refine k10 t_ ?_
        refine own_f_icmpNo X2.here hx (hb hby at_92) (teq (h1)).2 (rfl : _ = 95) ?_
        refine own_f_ldc2DoubleC X2 hx hown (mvT hZ (hw _ (List.mem_of_getElem? (i := 29) rfl))) (hb hby at_95) (rfl : _ = 98) ?_
        refine own_f_goto X2.here hx (hb hby at_98) (by decide) (by decide : _ = 114) ?_
        refine own_f_dstore X2.here hx (hb hby at_114) (rfl : storeLocals _ _ _ = some #[.val (.long q1), .second, .val (.long q2), .second, .val (.long q3), .second, .val (.long q4), .second, .val (.long q5), .second, .val (.long q6), .second, .val (.ref aP), .val (.int sel), .val (.long vx), .second, .val (.long vy), .second, .val (.long vsx), .second, .val (.long vsy), .second, .val (.long vlx), .second, .val (.long vly), .second, .val (.double (8975674057349398528 : UInt64)), .second, .unset, .unset, .unset, .unset, .unset, .unset]) (rfl : _ = 116) ?_
        refine own_f_aload X2.here hx (hb hby at_116) rfl rfl (rfl : _ = 118) ?_
        refine own_f_lload X2.here hx (hb hby at_118) rfl (rfl : _ = 120) ?_
        refine own_f_l2d X2.here hx (hb hby at_120) rfl (rfl : _ = 121) ?_
        refine own_f_dload X2.here hx (hb hby at_121) rfl (rfl : _ = 123) ?_
        refine own_f_dmul X2.here hx (hb hby at_123) (own_noNaN m_x) rfl (rfl : _ = 124) ?_
        refine own_f_lload X2.here hx (hb hby at_124) rfl (rfl : _ = 126) ?_
        refine own_f_l2d X2.here hx (hb hby at_126) rfl (rfl : _ = 127) ?_
        refine own_f_dload X2.here hx (hb hby at_127) rfl (rfl : _ = 129) ?_
        refine own_f_dmul X2.here hx (hb hby at_129) (own_noNaN m_y) rfl (rfl : _ = 130) ?_
        refine own_f_lload X2.here hx (hb hby at_130) rfl (rfl : _ = 132) ?_
        refine own_f_l2d X2.here hx (hb hby at_132) rfl (rfl : _ = 133) ?_
        refine own_f_dload X2.here hx (hb hby at_133) rfl (rfl : _ = 135) ?_
        refine own_f_dmul X2.here hx (hb hby at_135) (own_noNaN m_sx) rfl (rfl : _ = 136) ?_
        refine own_f_lload X2.here hx (hb hby at_136) rfl (rfl : _ = 138) ?_
        refine own_f_l2d X2.here hx (hb hby at_138) rfl (rfl : _ = 139) ?_
        refine own_f_dload X2.here hx (hb hby at_139) rfl (rfl : _ = 141) ?_
        refine own_f_dmul X2.here hx (hb hby at_141) (own_noNaN m_sy) rfl (rfl : _ = 142) ?_
        refine own_f_lload X2.here hx (hb hby at_142) rfl (rfl : _ = 144) ?_
        refine own_f_l2d X2.here hx (hb hby at_144) rfl (rfl : _ = 145) ?_
        refine own_f_dload X2.here hx (hb hby at_145) rfl (rfl : _ = 147) ?_
        refine own_f_dmul X2.here hx (hb hby at_147) (own_noNaN m_lx) rfl (rfl : _ = 148) ?_
        refine own_f_lload X2.here hx (hb hby at_148) rfl (rfl : _ = 150) ?_
        refine own_f_l2d X2.here hx (hb hby at_150) rfl (rfl : _ = 151) ?_
        refine own_f_dload X2.here hx (hb hby at_151) rfl (rfl : _ = 153) ?_
        refine own_f_dmul X2.here hx (hb hby at_153) (own_noNaN m_ly) rfl (rfl : _ = 154) ?_
        refine st11.trans ?_
        show Steps p.tables e below (T11.setTop (mkF m 157 #[.val (.long q1), .second, .val (.long q2), .second, .val (.long q3), .second, .val (.long q4), .second, .val (.long q5), .second, .val (.long q6), .second, .val (.ref aP), .val (.int sel), .val (.long vx), .second, .val (.long vy), .second, .val (.long vsx), .second, .val (.long vsy), .second, .val (.long vlx), .second, .val (.long vly), .second, .val (.double (8975674057349398528 : UInt64)), .second, .unset, .unset, .unset, .unset, .unset, .unset] [(.int (if (cmpValue (FP.dcmp (FP.dadd (Jvm.Native.java_lang_Math.nans.pick64 true ((FP.dsub (FP.dmul (FP.l2d vsx) (8975674057349398528 : UInt64)) (FP.dmul (FP.l2d vx) (8975674057349398528 : UInt64))) &&& 0x7fffffffffffffff) ((FP.dsub (FP.dmul (FP.l2d vlx) (8975674057349398528 : UInt64)) (FP.dmul (FP.l2d vx) (8975674057349398528 : UInt64))) &&& 0x7fffffffffffffff)) (Jvm.Native.java_lang_Math.nans.pick64 true ((FP.dsub (FP.dmul (FP.l2d vsy) (8975674057349398528 : UInt64)) (FP.dmul (FP.l2d vy) (8975674057349398528 : UInt64))) &&& 0x7fffffffffffffff) ((FP.dsub (FP.dmul (FP.l2d vly) (8975674057349398528 : UInt64)) (FP.dmul (FP.l2d vy) (8975674057349398528 : UInt64))) &&& 0x7fffffffffffffff))) (9214364837600034815 : UInt64)) .g) < 0 then 1 else 0))])) t_
        refine own_f_istore X11.here hx (hb hby at_157) (rfl : storeLocals _ _ _ = some #[.val (.long q1), .second, .val (.long q2), .second, .val (.long q3), .second, .val (.long q4), .second, .val (.long q5), .second, .val (.long q6), .second, .val (.ref aP), .val (.int sel), .val (.long vx), .second, .val (.long vy), .second, .val (.long vsx), .second, .val (.long vsy), .second, .val (.long vlx), .second, .val (.long vly), .second, .val (.double (8975674057349398528 : UInt64)), .second, .val (.int (if (cmpValue (FP.dcmp (FP.dadd (Jvm.Native.java_lang_Math.nans.pick64 true ((FP.dsub (FP.dmul (FP.l2d vsx) (8975674057349398528 : UInt64)) (FP.dmul (FP.l2d vx) (8975674057349398528 : UInt64))) &&& 0x7fffffffffffffff) ((FP.dsub (FP.dmul (FP.l2d vlx) (8975674057349398528 : UInt64)) (FP.dmul (FP.l2d vx) (8975674057349398528 : UInt64))) &&& 0x7fffffffffffffff)) (Jvm.Native.java_lang_Math.nans.pick64 true ((FP.dsub (FP.dmul (FP.l2d vsy) (8975674057349398528 : UInt64)) (FP.dmul (FP.l2d vy) (8975674057349398528 : UInt64))) &&& 0x7fffffffffffffff) ((FP.dsub (FP.dmul (FP.l2d vly) (8975674057349398528 : UInt64)) (FP.dmul (FP.l2d vy) (8975674057349398528 : UInt64))) &&& 0x7fffffffffffffff))) (9214364837600034815 : UInt64)) .g) < 0 then 1 else 0)), .unset, .unset, .unset, .unset, .unset]) (rfl : _ = 159) ?_
        refine own_f_lload X11.here hx (hb hby at_159) rfl (rfl : _ = 161) ?_
        refine own_f_lload X11.here hx (hb hby at_161) rfl (rfl : _ = 163) ?_
        refine own_f_lsub X11.here hx (hb hby at_163) rfl (rfl : _ = 164) ?_
        refine st12 _ ?_
        show Steps p.tables e below (T12.setTop (mkF m 167 #[.val (.long q1), .second, .val (.long q2), .second, .val (.long q3), .second, .val (.long q4), .second, .val (.long q5), .second, .val (.long q6), .second, .val (.ref aP), .val (.int sel), .val (.long vx), .second, .val (.long vy), .second, .val (.long vsx), .second, .val (.long vsy), .second, .val (.long vlx), .second, .val (.long vly), .second, .val (.double (8975674057349398528 : UInt64)), .second, .val (.int (if (cmpValue (FP.dcmp (FP.dadd (Jvm.Native.java_lang_Math.nans.pick64 true ((FP.dsub (FP.dmul (FP.l2d vsx) (8975674057349398528 : UInt64)) (FP.dmul (FP.l2d vx) (8975674057349398528 : UInt64))) &&& 0x7fffffffffffffff) ((FP.dsub (FP.dmul (FP.l2d vlx) (8975674057349398528 : UInt64)) (FP.dmul (FP.l2d vx) (8975674057349398528 : UInt64))) &&& 0x7fffffffffffffff)) (Jvm.Native.java_lang_Math.nans.pick64 true ((FP.dsub (FP.dmul (FP.l2d vsy) (8975674057349398528 : UInt64)) (FP.dmul (FP.l2d vy) (8975674057349398528 : UInt64))) &&& 0x7fffffffffffffff) ((FP.dsub (FP.dmul (FP.l2d vly) (8975674057349398528 : UInt64)) (FP.dmul (FP.l2d vy) (8975674057349398528 : UInt64))) &&& 0x7fffffffffffffff))) (9214364837600034815 : UInt64)) .g) < 0 then 1 else 0)), .unset, .unset, .unset, .unset, .unset] [(.long (own_labs (vsx - vx)))])) t_
        refine own_f_lload X12.here hx (hb hby at_167) rfl (rfl : _ = 169) ?_
        refine own_f_lload X12.here hx (hb hby at_169) rfl (rfl : _ = 171) ?_
        refine own_f_lsub X12.here hx (hb hby at_171) rfl (rfl : _ = 172) ?_
        refine st13 _ ?_
        show Steps p.tables e below (T13.setTop (mkF m 175 #[.val (.long q1), .second, .val (.long q2), .second, .val (.long q3), .second, .val (.long q4), .second, .val (.long q5), .second, .val (.long q6), .second, .val (.ref aP), .val (.int sel), .val (.long vx), .second, .val (.long vy), .second, .val (.long vsx), .second, .val (.long vsy), .second, .val (.long vlx), .second, .val (.long vly), .second, .val (.double (8975674057349398528 : UInt64)), .second, .val (.int (if (cmpValue (FP.dcmp (FP.dadd (Jvm.Native.java_lang_Math.nans.pick64 true ((FP.dsub (FP.dmul (FP.l2d vsx) (8975674057349398528 : UInt64)) (FP.dmul (FP.l2d vx) (8975674057349398528 : UInt64))) &&& 0x7fffffffffffffff) ((FP.dsub (FP.dmul (FP.l2d vlx) (8975674057349398528 : UInt64)) (FP.dmul (FP.l2d vx) (8975674057349398528 : UInt64))) &&& 0x7fffffffffffffff)) (Jvm.Native.java_lang_Math.nans.pick64 true ((FP.dsub (FP.dmul (FP.l2d vsy) (8975674057349398528 : UInt64)) (FP.dmul (FP.l2d vy) (8975674057349398528 : UInt64))) &&& 0x7fffffffffffffff) ((FP.dsub (FP.dmul (FP.l2d vly) (8975674057349398528 : UInt64)) (FP.dmul (FP.l2d vy) (8975674057349398528 : UInt64))) &&& 0x7fffffffffffffff))) (9214364837600034815 : UInt64)) .g) < 0 then 1 else 0)), .unset, .unset, .unset, .unset, .unset] [(.long (own_labs (vlx - vx))), (.long (own_labs (vsx - vx)))])) t_
        refine st14 _ ?_
        show Steps p.tables e below (T14.setTop (mkF m 178 #[.val (.long q1), .second, .val (.long q2), .second, .val (.long q3), .second, .val (.long q4), .second, .val (.long q5), .second, .val (.long q6), .second, .val (.ref aP), .val (.int sel), .val (.long vx), .second, .val (.long vy), .second, .val (.long vsx), .second, .val (.long vsy), .second, .val (.long vlx), .second, .val (.long vly), .second, .val (.double (8975674057349398528 : UInt64)), .second, .val (.int (if (cmpValue (FP.dcmp (FP.dadd (Jvm.Native.java_lang_Math.nans.pick64 true ((FP.dsub (FP.dmul (FP.l2d vsx) (8975674057349398528 : UInt64)) (FP.dmul (FP.l2d vx) (8975674057349398528 : UInt64))) &&& 0x7fffffffffffffff) ((FP.dsub (FP.dmul (FP.l2d vlx) (8975674057349398528 : UInt64)) (FP.dmul (FP.l2d vx) (8975674057349398528 : UInt64))) &&& 0x7fffffffffffffff)) (Jvm.Native.java_lang_Math.nans.pick64 true ((FP.dsub (FP.dmul (FP.l2d vsy) (8975674057349398528 : UInt64)) (FP.dmul (FP.l2d vy) (8975674057349398528 : UInt64))) &&& 0x7fffffffffffffff) ((FP.dsub (FP.dmul (FP.l2d vly) (8975674057349398528 : UInt64)) (FP.dmul (FP.l2d vy) (8975674057349398528 : UInt64))) &&& 0x7fffffffffffffff))) (9214364837600034815 : UInt64)) .g) < 0 then 1 else 0)), .unset, .unset, .unset, .unset, .unset] [(.long (own_lmax (own_labs (vsx - vx)) (own_labs (vlx - vx))))])) t_
        refine own_f_lload X14.here hx (hb hby at_178) rfl (rfl : _ = 180) ?_
        refine own_f_lload X14.here hx (hb hby at_180) rfl (rfl : _ = 182) ?_
        refine own_f_lsub X14.here hx (hb hby at_182) rfl (rfl : _ = 183) ?_
        refine st15 _ ?_
        show Steps p.tables e below (T15.setTop (mkF m 186 #[.val (.long q1), .second, .val (.long q2), .second, .val (.long q3), .second, .val (.long q4), .second, .val (.long q5), .second, .val (.long q6), .second, .val (.ref aP), .val (.int sel), .val (.long vx), .second, .val (.long vy), .second, .val (.long vsx), .second, .val (.long vsy), .second, .val (.long vlx), .second, .val (.long vly), .second, .val (.double (8975674057349398528 : UInt64)), .second, .val (.int (if (cmpValue (FP.dcmp (FP.dadd (Jvm.Native.java_lang_Math.nans.pick64 true ((FP.dsub (FP.dmul (FP.l2d vsx) (8975674057349398528 : UInt64)) (FP.dmul (FP.l2d vx) (8975674057349398528 : UInt64))) &&& 0x7fffffffffffffff) ((FP.dsub (FP.dmul (FP.l2d vlx) (8975674057349398528 : UInt64)) (FP.dmul (FP.l2d vx) (8975674057349398528 : UInt64))) &&& 0x7fffffffffffffff)) (Jvm.Native.java_lang_Math.nans.pick64 true ((FP.dsub (FP.dmul (FP.l2d vsy) (8975674057349398528 : UInt64)) (FP.dmul (FP.l2d vy) (8975674057349398528 : UInt64))) &&& 0x7fffffffffffffff) ((FP.dsub (FP.dmul (FP.l2d vly) (8975674057349398528 : UInt64)) (FP.dmul (FP.l2d vy) (8975674057349398528 : UInt64))) &&& 0x7fffffffffffffff))) (9214364837600034815 : UInt64)) .g) < 0 then 1 else 0)), .unset, .unset, .unset, .unset, .unset] [(.long (own_labs (vsy - vy))), (.long (own_lmax (own_labs (vsx - vx)) (own_labs (vlx - vx))))])) t_
        refine own_f_lload X15.here hx (hb hby at_186) rfl (rfl : _ = 188) ?_
        refine own_f_lload X15.here hx (hb hby at_188) rfl (rfl : _ = 190) ?_
        refine own_f_lsub X15.here hx (hb hby at_190) rfl (rfl : _ = 191) ?_
        refine st16 _ ?_
        show Steps p.tables e below (T16.setTop (mkF m 194 #[.val (.long q1), .second, .val (.long q2), .second, .val (.long q3), .second, .val (.long q4), .second, .val (.long q5), .second, .val (.long q6), .second, .val (.ref aP), .val (.int sel), .val (.long vx), .second, .val (.long vy), .second, .val (.long vsx), .second, .val (.long vsy), .second, .val (.long vlx), .second, .val (.long vly), .second, .val (.double (8975674057349398528 : UInt64)), .second, .val (.int (if (cmpValue (FP.dcmp (FP.dadd (Jvm.Native.java_lang_Math.nans.pick64 true ((FP.dsub (FP.dmul (FP.l2d vsx) (8975674057349398528 : UInt64)) (FP.dmul (FP.l2d vx) (8975674057349398528 : UInt64))) &&& 0x7fffffffffffffff) ((FP.dsub (FP.dmul (FP.l2d vlx) (8975674057349398528 : UInt64)) (FP.dmul (FP.l2d vx) (8975674057349398528 : UInt64))) &&& 0x7fffffffffffffff)) (Jvm.Native.java_lang_Math.nans.pick64 true ((FP.dsub (FP.dmul (FP.l2d vsy) (8975674057349398528 : UInt64)) (FP.dmul (FP.l2d vy) (8975674057349398528 : UInt64))) &&& 0x7fffffffffffffff) ((FP.dsub (FP.dmul (FP.l2d vly) (8975674057349398528 : UInt64)) (FP.dmul (FP.l2d vy) (8975674057349398528 : UInt64))) &&& 0x7fffffffffffffff))) (9214364837600034815 : UInt64)) .g) < 0 then 1 else 0)), .unset, .unset, .unset, .unset, .unset] [(.long (own_labs (vly - vy))), (.long (own_labs (vsy - vy))), (.long (own_lmax (own_labs (vsx - vx)) (own_labs (vlx - vx))))])) t_
        refine st17 _ ?_
        show Steps p.tables e below (T17.setTop (mkF m 197 #[.val (.long q1), .second, .val (.long q2), .second, .val (.long q3), .second, .val (.long q4), .second, .val (.long q5), .second, .val (.long q6), .second, .val (.ref aP), .val (.int sel), .val (.long vx), .second, .val (.long vy), .second, .val (.long vsx), .second, .val (.long vsy), .second, .val (.long vlx), .second, .val (.long vly), .second, .val (.double (8975674057349398528 : UInt64)), .second, .val (.int (if (cmpValue (FP.dcmp (FP.dadd (Jvm.Native.java_lang_Math.nans.pick64 true ((FP.dsub (FP.dmul (FP.l2d vsx) (8975674057349398528 : UInt64)) (FP.dmul (FP.l2d vx) (8975674057349398528 : UInt64))) &&& 0x7fffffffffffffff) ((FP.dsub (FP.dmul (FP.l2d vlx) (8975674057349398528 : UInt64)) (FP.dmul (FP.l2d vx) (8975674057349398528 : UInt64))) &&& 0x7fffffffffffffff)) (Jvm.Native.java_lang_Math.nans.pick64 true ((FP.dsub (FP.dmul (FP.l2d vsy) (8975674057349398528 : UInt64)) (FP.dmul (FP.l2d vy) (8975674057349398528 : UInt64))) &&& 0x7fffffffffffffff) ((FP.dsub (FP.dmul (FP.l2d vly) (8975674057349398528 : UInt64)) (FP.dmul (FP.l2d vy) (8975674057349398528 : UInt64))) &&& 0x7fffffffffffffff))) (9214364837600034815 : UInt64)) .g) < 0 then 1 else 0)), .unset, .unset, .unset, .unset, .unset] [(.long (own_lmax (own_labs (vsy - vy)) (own_labs (vly - vy)))), (.long (own_lmax (own_labs (vsx - vx)) (own_labs (vlx - vx))))])) t_
        refine own_f_ladd X17.here hx (hb hby at_197) rfl (rfl : _ = 198) ?_
        refine own_f_lstore X17.here hx (hb hby at_198) (rfl : storeLocals _ _ _ = some #[.val (.long q1), .second, .val (.long q2), .second, .val (.long q3), .second, .val (.long q4), .second, .val (.long q5), .second, .val (.long q6), .second, .val (.ref aP), .val (.int sel), .val (.long vx), .second, .val (.long vy), .second, .val (.long vsx), .second, .val (.long vsy), .second, .val (.long vlx), .second, .val (.long vly), .second, .val (.double (8975674057349398528 : UInt64)), .second, .val (.int (if (cmpValue (FP.dcmp (FP.dadd (Jvm.Native.java_lang_Math.nans.pick64 true ((FP.dsub (FP.dmul (FP.l2d vsx) (8975674057349398528 : UInt64)) (FP.dmul (FP.l2d vx) (8975674057349398528 : UInt64))) &&& 0x7fffffffffffffff) ((FP.dsub (FP.dmul (FP.l2d vlx) (8975674057349398528 : UInt64)) (FP.dmul (FP.l2d vx) (8975674057349398528 : UInt64))) &&& 0x7fffffffffffffff)) (Jvm.Native.java_lang_Math.nans.pick64 true ((FP.dsub (FP.dmul (FP.l2d vsy) (8975674057349398528 : UInt64)) (FP.dmul (FP.l2d vy) (8975674057349398528 : UInt64))) &&& 0x7fffffffffffffff) ((FP.dsub (FP.dmul (FP.l2d vly) (8975674057349398528 : UInt64)) (FP.dmul (FP.l2d vy) (8975674057349398528 : UInt64))) &&& 0x7fffffffffffffff))) (9214364837600034815 : UInt64)) .g) < 0 then 1 else 0)), .val (.long ((own_lmax (own_labs (vsx - vx)) (own_labs (vlx - vx))) + (own_lmax (own_labs (vsy - vy)) (own_labs (vly - vy))))), .second, .unset, .unset, .unset]) (rfl : _ = 200) ?_
        refine own_f_ldc2Long X17 hx hown (mvT hZ (hw _ (List.mem_of_getElem? (i := 23) rfl))) (hb hby at_200) (rfl : _ = 203) ?_
        refine own_f_lstore X17.here hx (hb hby at_203) (rfl : storeLocals _ _ _ = some #[.val (.long q1), .second, .val (.long q2), .second, .val (.long q3), .second, .val (.long q4), .second, .val (.long q5), .second, .val (.long q6), .second, .val (.ref aP), .val (.int sel), .val (.long vx), .second, .val (.long vy), .second, .val (.long vsx), .second, .val (.long vsy), .second, .val (.long vlx), .second, .val (.long vly), .second, .val (.double (8975674057349398528 : UInt64)), .second, .val (.int (if (cmpValue (FP.dcmp (FP.dadd (Jvm.Native.java_lang_Math.nans.pick64 true ((FP.dsub (FP.dmul (FP.l2d vsx) (8975674057349398528 : UInt64)) (FP.dmul (FP.l2d vx) (8975674057349398528 : UInt64))) &&& 0x7fffffffffffffff) ((FP.dsub (FP.dmul (FP.l2d vlx) (8975674057349398528 : UInt64)) (FP.dmul (FP.l2d vx) (8975674057349398528 : UInt64))) &&& 0x7fffffffffffffff)) (Jvm.Native.java_lang_Math.nans.pick64 true ((FP.dsub (FP.dmul (FP.l2d vsy) (8975674057349398528 : UInt64)) (FP.dmul (FP.l2d vy) (8975674057349398528 : UInt64))) &&& 0x7fffffffffffffff) ((FP.dsub (FP.dmul (FP.l2d vly) (8975674057349398528 : UInt64)) (FP.dmul (FP.l2d vy) (8975674057349398528 : UInt64))) &&& 0x7fffffffffffffff))) (9214364837600034815 : UInt64)) .g) < 0 then 1 else 0)), .val (.long ((own_lmax (own_labs (vsx - vx)) (own_labs (vlx - vx))) + (own_lmax (own_labs (vsy - vy)) (own_labs (vly - vy))))), .second, .val (.long (9007199254740991 : Int64)), .second, .unset]) (rfl : _ = 205) ?_
        refine own_f_iload X17.here hx (hb hby at_205) rfl (rfl : _ = 207) ?_
        refine own_f_iconst X17.here hx (hb hby at_207) (rfl : _ = (1 : Int32)) (rfl : _ = 208) ?_
        refine own_f_icmpNo X17.here hx (hb hby at_208) (teq (h1)).2 (rfl : _ = 211) ?_
        refine own_f_lload X17.here hx (hb hby at_211) rfl (rfl : _ = 213) ?_
        refine own_f_lload X17.here hx (hb hby at_213) rfl (rfl : _ = 215) ?_
        refine own_f_lcmp X17.here hx (hb hby at_215) (rfl : _ = 216) ?_
        exact ht_
      by_cases hm : (lcmpW ((own_lmax (own_labs (vsx - vx)) (own_labs (vlx - vx))) + (own_lmax (own_labs (vsy - vy)) (own_labs (vly - vy)))) (9007199254740991 : Int64)) < (0 : Int32)
      · obtain ⟨fs, hr, hrun, hended, hW, hsame⟩ := X17.leave (v := some (.int (1 : Int32))) (fun h => by rw [Bd.returns] at h; cases h) hlk
        refine ⟨_, _, ?_, hrun, hended, _, _, rfl, ?_, ⟨_, rfl⟩, hW, hsame.mono (by decide) (by decide)⟩
        · refine hA0 _ ?_
          refine k18 _ ?_
          refine own_f_ifNo X17.here hx (hb hby at_216) ((if0 _ _).trans (tlt (hm)).2.1) (rfl : _ = 219) ?_
          refine own_f_iconst X17.here hx (hb hby at_219) (rfl : _ = (1 : Int32)) (rfl : _ = 220) ?_
          refine own_f_goto X17.here hx (hb hby at_220) (by decide) (by decide : _ = 224) ?_
          refine own_f_istore X17.here hx (hb hby at_224) (rfl : storeLocals _ _ _ = some #[.val (.long q1), .second, .val (.long q2), .second, .val (.long q3), .second, .val (.long q4), .second, .val (.long q5), .second, .val (.long q6), .second, .val (.ref aP), .val (.int sel), .val (.long vx), .second, .val (.long vy), .second, .val (.long vsx), .second, .val (.long vsy), .second, .val (.long vlx), .second, .val (.long vly), .second, .val (.double (8975674057349398528 : UInt64)), .second, .val (.int (if (cmpValue (FP.dcmp (FP.dadd (Jvm.Native.java_lang_Math.nans.pick64 true ((FP.dsub (FP.dmul (FP.l2d vsx) (8975674057349398528 : UInt64)) (FP.dmul (FP.l2d vx) (8975674057349398528 : UInt64))) &&& 0x7fffffffffffffff) ((FP.dsub (FP.dmul (FP.l2d vlx) (8975674057349398528 : UInt64)) (FP.dmul (FP.l2d vx) (8975674057349398528 : UInt64))) &&& 0x7fffffffffffffff)) (Jvm.Native.java_lang_Math.nans.pick64 true ((FP.dsub (FP.dmul (FP.l2d vsy) (8975674057349398528 : UInt64)) (FP.dmul (FP.l2d vy) (8975674057349398528 : UInt64))) &&& 0x7fffffffffffffff) ((FP.dsub (FP.dmul (FP.l2d vly) (8975674057349398528 : UInt64)) (FP.dmul (FP.l2d vy) (8975674057349398528 : UInt64))) &&& 0x7fffffffffffffff))) (9214364837600034815 : UInt64)) .g) < 0 then 1 else 0)), .val (.long ((own_lmax (own_labs (vsx - vx)) (own_labs (vlx - vx))) + (own_lmax (own_labs (vsy - vy)) (own_labs (vly - vy))))), .second, .val (.long (9007199254740991 : Int64)), .second, .val (.int (1 : Int32))]) (rfl : _ = 226) ?_
          refine own_f_goto X17.here hx (hb hby at_226) (by decide) (by decide : _ = 260) ?_
          refine own_f_iload X17.here hx (hb hby at_260) rfl (rfl : _ = 262) ?_
          refine own_f_iload X17.here hx (hb hby at_262) rfl (rfl : _ = 264) ?_
          refine own_f_icmpNo X17.here hx (hb hby at_264) (teq (if_pos (hres.1 hm))).2 (rfl : _ = 267) ?_
          refine own_f_iconst X17.here hx (hb hby at_267) (rfl : _ = (1 : Int32)) (rfl : _ = 268) ?_
          refine own_f_goto X17.here hx (hb hby at_268) (by decide) (by decide : _ = 272) ?_
          exact retN X17 hx (t := .boolean) Bd.returns (by simp) (hb hby at_272) hr
        · show Q0 Z q1 q2 q3 q4 q5 q6 aG aP h0 n0 _ T17.heap _
          rw [e17]
          exact ⟨rfl, N17⟩
      · obtain ⟨fs, hr, hrun, hended, hW, hsame⟩ := X17.leave (v := some (.int (1 : Int32))) (fun h => by rw [Bd.returns] at h; cases h) hlk
        refine ⟨_, _, ?_, hrun, hended, _, _, rfl, ?_, ⟨_, rfl⟩, hW, hsame.mono (by decide) (by decide)⟩
        · refine hA0 _ ?_
          refine k18 _ ?_
          refine own_f_ifYes X17.here hx (hb hby at_216) ((if0 _ _).trans (flt (hm)).2.1) (by decide) (by decide : _ = 223) ?_
          refine own_f_iconst X17.here hx (hb hby at_223) (rfl : _ = (0 : Int32)) (rfl : _ = 224) ?_
          refine own_f_istore X17.here hx (hb hby at_224) (rfl : storeLocals _ _ _ = some #[.val (.long q1), .second, .val (.long q2), .second, .val (.long q3), .second, .val (.long q4), .second, .val (.long q5), .second, .val (.long q6), .second, .val (.ref aP), .val (.int sel), .val (.long vx), .second, .val (.long vy), .second, .val (.long vsx), .second, .val (.long vsy), .second, .val (.long vlx), .second, .val (.long vly), .second, .val (.double (8975674057349398528 : UInt64)), .second, .val (.int (if (cmpValue (FP.dcmp (FP.dadd (Jvm.Native.java_lang_Math.nans.pick64 true ((FP.dsub (FP.dmul (FP.l2d vsx) (8975674057349398528 : UInt64)) (FP.dmul (FP.l2d vx) (8975674057349398528 : UInt64))) &&& 0x7fffffffffffffff) ((FP.dsub (FP.dmul (FP.l2d vlx) (8975674057349398528 : UInt64)) (FP.dmul (FP.l2d vx) (8975674057349398528 : UInt64))) &&& 0x7fffffffffffffff)) (Jvm.Native.java_lang_Math.nans.pick64 true ((FP.dsub (FP.dmul (FP.l2d vsy) (8975674057349398528 : UInt64)) (FP.dmul (FP.l2d vy) (8975674057349398528 : UInt64))) &&& 0x7fffffffffffffff) ((FP.dsub (FP.dmul (FP.l2d vly) (8975674057349398528 : UInt64)) (FP.dmul (FP.l2d vy) (8975674057349398528 : UInt64))) &&& 0x7fffffffffffffff))) (9214364837600034815 : UInt64)) .g) < 0 then 1 else 0)), .val (.long ((own_lmax (own_labs (vsx - vx)) (own_labs (vlx - vx))) + (own_lmax (own_labs (vsy - vy)) (own_labs (vly - vy))))), .second, .val (.long (9007199254740991 : Int64)), .second, .val (.int (0 : Int32))]) (rfl : _ = 226) ?_
          refine own_f_goto X17.here hx (hb hby at_226) (by decide) (by decide : _ = 260) ?_
          refine own_f_iload X17.here hx (hb hby at_260) rfl (rfl : _ = 262) ?_
          refine own_f_iload X17.here hx (hb hby at_262) rfl (rfl : _ = 264) ?_
          refine own_f_icmpNo X17.here hx (hb hby at_264) (teq (if_neg (hres.2 hm))).2 (rfl : _ = 267) ?_
          refine own_f_iconst X17.here hx (hb hby at_267) (rfl : _ = (1 : Int32)) (rfl : _ = 268) ?_
          refine own_f_goto X17.here hx (hb hby at_268) (by decide) (by decide : _ = 272) ?_
          exact retN X17 hx (t := .boolean) Bd.returns (by simp) (hb hby at_272) hr
        · show Q0 Z q1 q2 q3 q4 q5 q6 aG aP h0 n0 _ T17.heap _
          rw [e17]
          exact ⟨rfl, N17⟩
    · have k19 : ∀ t_, Steps p.tables e below (T2.setTop (mkF m 104 #[.val (.long q1), .second, .val (.long q2), .second, .val (.long q3), .second, .val (.long q4), .second, .val (.long q5), .second, .val (.long q6), .second, .val (.ref aP), .val (.int sel), .val (.long vx), .second, .val (.long vy), .second, .val (.long vsx), .second, .val (.long vsy), .second, .val (.long vlx), .second, .val (.long vly), .second, .unset, .unset, .unset, .unset, .unset, .unset, .unset, .unset] [(.int (2 : Int32)), (.int sel)])) t_ → Steps p.tables e below A t_ := by
        intro t_ ht_
        refine k10 t_ ?_
        refine own_f_icmpYes X2.here hx (hb hby at_92) (feq (h1)).2 (by decide) (by decide : _ = 101) ?_
        refine own_f_iload X2.here hx (hb hby at_101) rfl (rfl : _ = 103) ?_
        refine own_f_iconst X2.here hx (hb hby at_103) (rfl : _ = (2 : Int32)) (rfl : _ = 104) ?_
        exact ht_
      by_cases h2 : sel = (2 : Int32)
      · have hS := own_s971
        have m_x := own_scaled b_x hS (by decide)
        have m_y := own_scaled b_y hS (by decide)
        have m_sx := own_scaled b_sx hS (by decide)
        have m_sy := own_scaled b_sy hS (by decide)
        have m_lx := own_scaled b_lx hS (by decide)
        have m_ly := own_scaled b_ly hS (by decide)
        obtain ⟨n1, n2, n3, n4, iA, a1, a2, a3, RA⟩ := own_leg b_x b_sx b_lx m_x m_sx m_lx (by decide)
        obtain ⟨n5, n6, n7, n8, iB, c1, c2, c3, RB⟩ := own_leg b_y b_sy b_ly m_y m_sy m_ly (by decide)
        obtain ⟨n9, hres⟩ := own_res2 RA RB a1 a2 c1 c2 a3 c3
        obtain ⟨cq20, kq20, q20a, q20b, q20c⟩ := isOf hZ e2 ExP
        obtain ⟨_, _, ⟨T20, L20, k20_, n20⟩, -, X20, ⟨Lc20, hQ20, l20, y20, z20⟩, st20⟩ := X2.virtualBack hx (y := (⟨"com/example/honeyguide/honeyguide/CoordinateSystem", "measurable", "(DDDDDD)Z"⟩ : MethodName)) (z := (⟨"com/example/honeyguide/honeyguide/CoordinateSystem", "measurable", "(DDDDDD)Z"⟩ : MethodName)) hown (mvT hZ (hw _ (List.mem_of_getElem? (i := 4) rfl))) (mvT hZ (hw _ (List.mem_of_getElem? (i := 5) rfl))) (notFace_of_selects (args := #[]) (mvT hZ (hw _ (List.mem_of_getElem? (i := 26) rfl)))) (mvT hZ (hw _ (List.mem_of_getElem? (i := 26) rfl))) (mvT hZ (hw _ (List.mem_of_getElem? (i := 6) rfl))) (by decide) (backOf (W := 0) (rm1 l Z a0 hw [] aP (FP.dmul (FP.l2d vx) (8980177656976769024 : UInt64)) (FP.dmul (FP.l2d vy) (8980177656976769024 : UInt64)) (FP.dmul (FP.l2d vsx) (8980177656976769024 : UInt64)) (FP.dmul (FP.l2d vsy) (8980177656976769024 : UInt64)) (FP.dmul (FP.l2d vlx) (8980177656976769024 : UInt64)) (FP.dmul (FP.l2d vly) (8980177656976769024 : UInt64))  h0 n0 Z0 n1 n2 n3 n4 n5 n6 n7 n8 n9) hZ (hw _ (List.mem_of_getElem? (i := 8) rfl)) (hw _ (List.mem_of_getElem? (i := 1) rfl)) (by decide) (by decide)) q20a q20c (g := (mkF m 154 #[.val (.long q1), .second, .val (.long q2), .second, .val (.long q3), .second, .val (.long q4), .second, .val (.long q5), .second, .val (.long q6), .second, .val (.ref aP), .val (.int sel), .val (.long vx), .second, .val (.long vy), .second, .val (.long vsx), .second, .val (.long vsy), .second, .val (.long vlx), .second, .val (.long vly), .second, .val (.double (8980177656976769024 : UInt64)), .second, .unset, .unset, .unset, .unset, .unset, .unset] [(.double (FP.dmul (FP.l2d vly) (8980177656976769024 : UInt64))), (.double (FP.dmul (FP.l2d vlx) (8980177656976769024 : UInt64))), (.double (FP.dmul (FP.l2d vsy) (8980177656976769024 : UInt64))), (.double (FP.dmul (FP.l2d vsx) (8980177656976769024 : UInt64))), (.double (FP.dmul (FP.l2d vy) (8980177656976769024 : UInt64))), (.double (FP.dmul (FP.l2d vx) (8980177656976769024 : UInt64))), (.ref aP)])) rfl (by rw [hml]; rfl) (Steps.refl _) (argsL := [(.double (FP.dmul (FP.l2d vx) (8980177656976769024 : UInt64))), (.double (FP.dmul (FP.l2d vy) (8980177656976769024 : UInt64))), (.double (FP.dmul (FP.l2d vsx) (8980177656976769024 : UInt64))), (.double (FP.dmul (FP.l2d vsy) (8980177656976769024 : UInt64))), (.double (FP.dmul (FP.l2d vlx) (8980177656976769024 : UInt64))), (.double (FP.dmul (FP.l2d vly) (8980177656976769024 : UInt64)))]) (rest := []) (lenOf pd_2 rfl) rfl (by show 2 * 0 + _ ≤ _; exact Nat.le_of_eq rfl) (hb hby at_154) (fun _ _ => ⟨rfl, e2, (by decide : 0 + 0 ≤ _), (by decide : 0 + 0 ≤ _)⟩)
        dsimp only [Pt.U, Pt.locs, Pt.cells, Pt.slots] at X20 l20 y20 z20 st20 hQ20
        subst l20 y20 z20
        obtain ⟨rfl, Nq20, e20⟩ := hQ20
        have N20 := Fr.app N0 Nq20
        obtain ⟨_, _, ⟨T21, L21, k21_, n21⟩, -, X21, ⟨Lc21, hQ21, l21, y21, z21⟩, st21⟩ := Jvm.LawKit.callS X20 hx (y := (⟨"java/lang/Math", "abs", "(J)J"⟩ : MethodName)) hown (mvT hZ (hw _ (List.mem_of_getElem? (i := 17) rfl))) (mvT hZ (hw _ (List.mem_of_getElem? (i := 18) rfl))) (mvT hZ (hw _ (List.mem_of_getElem? (i := 11) rfl))) (mvT hZ (hw _ (List.mem_of_getElem? (i := 19) rfl))) (by decide) (backOf (W := 0) (rm4 l Z a0 hw [] (vsx - vx)  h0 n0 Z0) hZ (hw _ (List.mem_of_getElem? (i := 19) rfl)) (hw _ (List.mem_of_getElem? (i := 11) rfl)) (by decide) (by decide)) (g := (mkF m 164 #[.val (.long q1), .second, .val (.long q2), .second, .val (.long q3), .second, .val (.long q4), .second, .val (.long q5), .second, .val (.long q6), .second, .val (.ref aP), .val (.int sel), .val (.long vx), .second, .val (.long vy), .second, .val (.long vsx), .second, .val (.long vsy), .second, .val (.long vlx), .second, .val (.long vly), .second, .val (.double (8980177656976769024 : UInt64)), .second, .val (.int (if (cmpValue (FP.dcmp (FP.dadd (Jvm.Native.java_lang_Math.nans.pick64 true ((FP.dsub (FP.dmul (FP.l2d vsx) (8980177656976769024 : UInt64)) (FP.dmul (FP.l2d vx) (8980177656976769024 : UInt64))) &&& 0x7fffffffffffffff) ((FP.dsub (FP.dmul (FP.l2d vlx) (8980177656976769024 : UInt64)) (FP.dmul (FP.l2d vx) (8980177656976769024 : UInt64))) &&& 0x7fffffffffffffff)) (Jvm.Native.java_lang_Math.nans.pick64 true ((FP.dsub (FP.dmul (FP.l2d vsy) (8980177656976769024 : UInt64)) (FP.dmul (FP.l2d vy) (8980177656976769024 : UInt64))) &&& 0x7fffffffffffffff) ((FP.dsub (FP.dmul (FP.l2d vly) (8980177656976769024 : UInt64)) (FP.dmul (FP.l2d vy) (8980177656976769024 : UInt64))) &&& 0x7fffffffffffffff))) (9214364837600034815 : UInt64)) .g) < 0 then 1 else 0)), .unset, .unset, .unset, .unset, .unset] [(.long (vsx - vx))])) rfl (by rw [hml]; rfl) (argsL := [(.long (vsx - vx))]) (rest := []) (lenOf pd_3 rfl) rfl (by show 2 * 0 + _ ≤ _; exact Nat.le_of_eq rfl) (hb hby at_164) (fun _ _ => ⟨rfl, e20, (by decide : 0 + 0 ≤ _), (by decide : 0 + 0 ≤ _)⟩)
        dsimp only [Pt.U, Pt.locs, Pt.cells, Pt.slots] at X21 l21 y21 z21 st21 hQ21
        subst l21 y21 z21
        obtain ⟨rfl, Nq21, e21⟩ := hQ21
        have N21 := Fr.app N20 Nq21
        obtain ⟨_, _, ⟨T22, L22, k22_, n22⟩, -, X22, ⟨Lc22, hQ22, l22, y22, z22⟩, st22⟩ := Jvm.LawKit.callS X21 hx (y := (⟨"java/lang/Math", "abs", "(J)J"⟩ : MethodName)) hown (mvT hZ (hw _ (List.mem_of_getElem? (i := 17) rfl))) (mvT hZ (hw _ (List.mem_of_getElem? (i := 18) rfl))) (mvT hZ (hw _ (List.mem_of_getElem? (i := 11) rfl))) (mvT hZ (hw _ (List.mem_of_getElem? (i := 19) rfl))) (by decide) (backOf (W := 2) (rm4 l Z a0 hw [] (vlx - vx)  h0 n0 Z0) hZ (hw _ (List.mem_of_getElem? (i := 19) rfl)) (hw _ (List.mem_of_getElem? (i := 11) rfl)) (by decide) (by decide)) (g := (mkF m 172 #[.val (.long q1), .second, .val (.long q2), .second, .val (.long q3), .second, .val (.long q4), .second, .val (.long q5), .second, .val (.long q6), .second, .val (.ref aP), .val (.int sel), .val (.long vx), .second, .val (.long vy), .second, .val (.long vsx), .second, .val (.long vsy), .second, .val (.long vlx), .second, .val (.long vly), .second, .val (.double (8980177656976769024 : UInt64)), .second, .val (.int (if (cmpValue (FP.dcmp (FP.dadd (Jvm.Native.java_lang_Math.nans.pick64 true ((FP.dsub (FP.dmul (FP.l2d vsx) (8980177656976769024 : UInt64)) (FP.dmul (FP.l2d vx) (8980177656976769024 : UInt64))) &&& 0x7fffffffffffffff) ((FP.dsub (FP.dmul (FP.l2d vlx) (8980177656976769024 : UInt64)) (FP.dmul (FP.l2d vx) (8980177656976769024 : UInt64))) &&& 0x7fffffffffffffff)) (Jvm.Native.java_lang_Math.nans.pick64 true ((FP.dsub (FP.dmul (FP.l2d vsy) (8980177656976769024 : UInt64)) (FP.dmul (FP.l2d vy) (8980177656976769024 : UInt64))) &&& 0x7fffffffffffffff) ((FP.dsub (FP.dmul (FP.l2d vly) (8980177656976769024 : UInt64)) (FP.dmul (FP.l2d vy) (8980177656976769024 : UInt64))) &&& 0x7fffffffffffffff))) (9214364837600034815 : UInt64)) .g) < 0 then 1 else 0)), .unset, .unset, .unset, .unset, .unset] [(.long (vlx - vx)), (.long (own_labs (vsx - vx)))])) rfl (by rw [hml]; rfl) (argsL := [(.long (vlx - vx))]) (rest := [(.long (own_labs (vsx - vx)))]) (lenOf pd_3 rfl) rfl (by show 2 * 0 + _ ≤ _; exact Nat.le_of_eq rfl) (hb hby at_172) (fun _ _ => ⟨rfl, e21, (by decide : 0 + 0 ≤ _), (by decide : 0 + 0 ≤ _)⟩)
        dsimp only [Pt.U, Pt.locs, Pt.cells, Pt.slots] at X22 l22 y22 z22 st22 hQ22
        subst l22 y22 z22
        obtain ⟨rfl, Nq22, e22⟩ := hQ22
        have N22 := Fr.app N21 Nq22
        obtain ⟨_, _, ⟨T23, L23, k23_, n23⟩, -, X23, ⟨Lc23, hQ23, l23, y23, z23⟩, st23⟩ := Jvm.LawKit.callS X22 hx (y := (⟨"java/lang/Math", "max", "(JJ)J"⟩ : MethodName)) hown (mvT hZ (hw _ (List.mem_of_getElem? (i := 20) rfl))) (mvT hZ (hw _ (List.mem_of_getElem? (i := 21) rfl))) (mvT hZ (hw _ (List.mem_of_getElem? (i := 11) rfl))) (mvT hZ (hw _ (List.mem_of_getElem? (i := 22) rfl))) (by decide) (backOf (W := 0) (rm5 l Z a0 hw [] (own_labs (vsx - vx)) (own_labs (vlx - vx))  h0 n0 Z0) hZ (hw _ (List.mem_of_getElem? (i := 22) rfl)) (hw _ (List.mem_of_getElem? (i := 11) rfl)) (by decide) (by decide)) (g := (mkF m 175 #[.val (.long q1), .second, .val (.long q2), .second, .val (.long q3), .second, .val (.long q4), .second, .val (.long q5), .second, .val (.long q6), .second, .val (.ref aP), .val (.int sel), .val (.long vx), .second, .val (.long vy), .second, .val (.long vsx), .second, .val (.long vsy), .second, .val (.long vlx), .second, .val (.long vly), .second, .val (.double (8980177656976769024 : UInt64)), .second, .val (.int (if (cmpValue (FP.dcmp (FP.dadd (Jvm.Native.java_lang_Math.nans.pick64 true ((FP.dsub (FP.dmul (FP.l2d vsx) (8980177656976769024 : UInt64)) (FP.dmul (FP.l2d vx) (8980177656976769024 : UInt64))) &&& 0x7fffffffffffffff) ((FP.dsub (FP.dmul (FP.l2d vlx) (8980177656976769024 : UInt64)) (FP.dmul (FP.l2d vx) (8980177656976769024 : UInt64))) &&& 0x7fffffffffffffff)) (Jvm.Native.java_lang_Math.nans.pick64 true ((FP.dsub (FP.dmul (FP.l2d vsy) (8980177656976769024 : UInt64)) (FP.dmul (FP.l2d vy) (8980177656976769024 : UInt64))) &&& 0x7fffffffffffffff) ((FP.dsub (FP.dmul (FP.l2d vly) (8980177656976769024 : UInt64)) (FP.dmul (FP.l2d vy) (8980177656976769024 : UInt64))) &&& 0x7fffffffffffffff))) (9214364837600034815 : UInt64)) .g) < 0 then 1 else 0)), .unset, .unset, .unset, .unset, .unset] [(.long (own_labs (vlx - vx))), (.long (own_labs (vsx - vx)))])) rfl (by rw [hml]; rfl) (argsL := [(.long (own_labs (vsx - vx))), (.long (own_labs (vlx - vx)))]) (rest := []) (lenOf pd_4 rfl) rfl (by show 2 * 0 + _ ≤ _; exact Nat.le_of_eq rfl) (hb hby at_175) (fun _ _ => ⟨rfl, e22, (by decide : 0 + 0 ≤ _), (by decide : 0 + 0 ≤ _)⟩)
        dsimp only [Pt.U, Pt.locs, Pt.cells, Pt.slots] at X23 l23 y23 z23 st23 hQ23
        subst l23 y23 z23
        obtain ⟨rfl, Nq23, e23⟩ := hQ23
        have N23 := Fr.app N22 Nq23
        obtain ⟨_, _, ⟨T24, L24, k24_, n24⟩, -, X24, ⟨Lc24, hQ24, l24, y24, z24⟩, st24⟩ := Jvm.LawKit.callS X23 hx (y := (⟨"java/lang/Math", "abs", "(J)J"⟩ : MethodName)) hown (mvT hZ (hw _ (List.mem_of_getElem? (i := 17) rfl))) (mvT hZ (hw _ (List.mem_of_getElem? (i := 18) rfl))) (mvT hZ (hw _ (List.mem_of_getElem? (i := 11) rfl))) (mvT hZ (hw _ (List.mem_of_getElem? (i := 19) rfl))) (by decide) (backOf (W := 2) (rm4 l Z a0 hw [] (vsy - vy)  h0 n0 Z0) hZ (hw _ (List.mem_of_getElem? (i := 19) rfl)) (hw _ (List.mem_of_getElem? (i := 11) rfl)) (by decide) (by decide)) (g := (mkF m 183 #[.val (.long q1), .second, .val (.long q2), .second, .val (.long q3), .second, .val (.long q4), .second, .val (.long q5), .second, .val (.long q6), .second, .val (.ref aP), .val (.int sel), .val (.long vx), .second, .val (.long vy), .second, .val (.long vsx), .second, .val (.long vsy), .second, .val (.long vlx), .second, .val (.long vly), .second, .val (.double (8980177656976769024 : UInt64)), .second, .val (.int (if (cmpValue (FP.dcmp (FP.dadd (Jvm.Native.java_lang_Math.nans.pick64 true ((FP.dsub (FP.dmul (FP.l2d vsx) (8980177656976769024 : UInt64)) (FP.dmul (FP.l2d vx) (8980177656976769024 : UInt64))) &&& 0x7fffffffffffffff) ((FP.dsub (FP.dmul (FP.l2d vlx) (8980177656976769024 : UInt64)) (FP.dmul (FP.l2d vx) (8980177656976769024 : UInt64))) &&& 0x7fffffffffffffff)) (Jvm.Native.java_lang_Math.nans.pick64 true ((FP.dsub (FP.dmul (FP.l2d vsy) (8980177656976769024 : UInt64)) (FP.dmul (FP.l2d vy) (8980177656976769024 : UInt64))) &&& 0x7fffffffffffffff) ((FP.dsub (FP.dmul (FP.l2d vly) (8980177656976769024 : UInt64)) (FP.dmul (FP.l2d vy) (8980177656976769024 : UInt64))) &&& 0x7fffffffffffffff))) (9214364837600034815 : UInt64)) .g) < 0 then 1 else 0)), .unset, .unset, .unset, .unset, .unset] [(.long (vsy - vy)), (.long (own_lmax (own_labs (vsx - vx)) (own_labs (vlx - vx))))])) rfl (by rw [hml]; rfl) (argsL := [(.long (vsy - vy))]) (rest := [(.long (own_lmax (own_labs (vsx - vx)) (own_labs (vlx - vx))))]) (lenOf pd_3 rfl) rfl (by show 2 * 0 + _ ≤ _; exact Nat.le_of_eq rfl) (hb hby at_183) (fun _ _ => ⟨rfl, e23, (by decide : 0 + 0 ≤ _), (by decide : 0 + 0 ≤ _)⟩)
        dsimp only [Pt.U, Pt.locs, Pt.cells, Pt.slots] at X24 l24 y24 z24 st24 hQ24
        subst l24 y24 z24
        obtain ⟨rfl, Nq24, e24⟩ := hQ24
        have N24 := Fr.app N23 Nq24
        obtain ⟨_, _, ⟨T25, L25, k25_, n25⟩, -, X25, ⟨Lc25, hQ25, l25, y25, z25⟩, st25⟩ := Jvm.LawKit.callS X24 hx (y := (⟨"java/lang/Math", "abs", "(J)J"⟩ : MethodName)) hown (mvT hZ (hw _ (List.mem_of_getElem? (i := 17) rfl))) (mvT hZ (hw _ (List.mem_of_getElem? (i := 18) rfl))) (mvT hZ (hw _ (List.mem_of_getElem? (i := 11) rfl))) (mvT hZ (hw _ (List.mem_of_getElem? (i := 19) rfl))) (by decide) (backOf (W := 4) (rm4 l Z a0 hw [] (vly - vy)  h0 n0 Z0) hZ (hw _ (List.mem_of_getElem? (i := 19) rfl)) (hw _ (List.mem_of_getElem? (i := 11) rfl)) (by decide) (by decide)) (g := (mkF m 191 #[.val (.long q1), .second, .val (.long q2), .second, .val (.long q3), .second, .val (.long q4), .second, .val (.long q5), .second, .val (.long q6), .second, .val (.ref aP), .val (.int sel), .val (.long vx), .second, .val (.long vy), .second, .val (.long vsx), .second, .val (.long vsy), .second, .val (.long vlx), .second, .val (.long vly), .second, .val (.double (8980177656976769024 : UInt64)), .second, .val (.int (if (cmpValue (FP.dcmp (FP.dadd (Jvm.Native.java_lang_Math.nans.pick64 true ((FP.dsub (FP.dmul (FP.l2d vsx) (8980177656976769024 : UInt64)) (FP.dmul (FP.l2d vx) (8980177656976769024 : UInt64))) &&& 0x7fffffffffffffff) ((FP.dsub (FP.dmul (FP.l2d vlx) (8980177656976769024 : UInt64)) (FP.dmul (FP.l2d vx) (8980177656976769024 : UInt64))) &&& 0x7fffffffffffffff)) (Jvm.Native.java_lang_Math.nans.pick64 true ((FP.dsub (FP.dmul (FP.l2d vsy) (8980177656976769024 : UInt64)) (FP.dmul (FP.l2d vy) (8980177656976769024 : UInt64))) &&& 0x7fffffffffffffff) ((FP.dsub (FP.dmul (FP.l2d vly) (8980177656976769024 : UInt64)) (FP.dmul (FP.l2d vy) (8980177656976769024 : UInt64))) &&& 0x7fffffffffffffff))) (9214364837600034815 : UInt64)) .g) < 0 then 1 else 0)), .unset, .unset, .unset, .unset, .unset] [(.long (vly - vy)), (.long (own_labs (vsy - vy))), (.long (own_lmax (own_labs (vsx - vx)) (own_labs (vlx - vx))))])) rfl (by rw [hml]; rfl) (argsL := [(.long (vly - vy))]) (rest := [(.long (own_labs (vsy - vy))), (.long (own_lmax (own_labs (vsx - vx)) (own_labs (vlx - vx))))]) (lenOf pd_3 rfl) rfl (by show 2 * 0 + _ ≤ _; exact Nat.le_of_eq rfl) (hb hby at_191) (fun _ _ => ⟨rfl, e24, (by decide : 0 + 0 ≤ _), (by decide : 0 + 0 ≤ _)⟩)
        dsimp only [Pt.U, Pt.locs, Pt.cells, Pt.slots] at X25 l25 y25 z25 st25 hQ25
        subst l25 y25 z25
        obtain ⟨rfl, Nq25, e25⟩ := hQ25
        have N25 := Fr.app N24 Nq25
        obtain ⟨_, _, ⟨T26, L26, k26_, n26⟩, -, X26, ⟨Lc26, hQ26, l26, y26, z26⟩, st26⟩ := Jvm.LawKit.callS X25 hx (y := (⟨"java/lang/Math", "max", "(JJ)J"⟩ : MethodName)) hown (mvT hZ (hw _ (List.mem_of_getElem? (i := 20) rfl))) (mvT hZ (hw _ (List.mem_of_getElem? (i := 21) rfl))) (mvT hZ (hw _ (List.mem_of_getElem? (i := 11) rfl))) (mvT hZ (hw _ (List.mem_of_getElem? (i := 22) rfl))) (by decide) (backOf (W := 2) (rm5 l Z a0 hw [] (own_labs (vsy - vy)) (own_labs (vly - vy))  h0 n0 Z0) hZ (hw _ (List.mem_of_getElem? (i := 22) rfl)) (hw _ (List.mem_of_getElem? (i := 11) rfl)) (by decide) (by decide)) (g := (mkF m 194 #[.val (.long q1), .second, .val (.long q2), .second, .val (.long q3), .second, .val (.long q4), .second, .val (.long q5), .second, .val (.long q6), .second, .val (.ref aP), .val (.int sel), .val (.long vx), .second, .val (.long vy), .second, .val (.long vsx), .second, .val (.long vsy), .second, .val (.long vlx), .second, .val (.long vly), .second, .val (.double (8980177656976769024 : UInt64)), .second, .val (.int (if (cmpValue (FP.dcmp (FP.dadd (Jvm.Native.java_lang_Math.nans.pick64 true ((FP.dsub (FP.dmul (FP.l2d vsx) (8980177656976769024 : UInt64)) (FP.dmul (FP.l2d vx) (8980177656976769024 : UInt64))) &&& 0x7fffffffffffffff) ((FP.dsub (FP.dmul (FP.l2d vlx) (8980177656976769024 : UInt64)) (FP.dmul (FP.l2d vx) (8980177656976769024 : UInt64))) &&& 0x7fffffffffffffff)) (Jvm.Native.java_lang_Math.nans.pick64 true ((FP.dsub (FP.dmul (FP.l2d vsy) (8980177656976769024 : UInt64)) (FP.dmul (FP.l2d vy) (8980177656976769024 : UInt64))) &&& 0x7fffffffffffffff) ((FP.dsub (FP.dmul (FP.l2d vly) (8980177656976769024 : UInt64)) (FP.dmul (FP.l2d vy) (8980177656976769024 : UInt64))) &&& 0x7fffffffffffffff))) (9214364837600034815 : UInt64)) .g) < 0 then 1 else 0)), .unset, .unset, .unset, .unset, .unset] [(.long (own_labs (vly - vy))), (.long (own_labs (vsy - vy))), (.long (own_lmax (own_labs (vsx - vx)) (own_labs (vlx - vx))))])) rfl (by rw [hml]; rfl) (argsL := [(.long (own_labs (vsy - vy))), (.long (own_labs (vly - vy)))]) (rest := [(.long (own_lmax (own_labs (vsx - vx)) (own_labs (vlx - vx))))]) (lenOf pd_4 rfl) rfl (by show 2 * 0 + _ ≤ _; exact Nat.le_of_eq rfl) (hb hby at_194) (fun _ _ => ⟨rfl, e25, (by decide : 0 + 0 ≤ _), (by decide : 0 + 0 ≤ _)⟩)
        dsimp only [Pt.U, Pt.locs, Pt.cells, Pt.slots] at X26 l26 y26 z26 st26 hQ26
        subst l26 y26 z26
        obtain ⟨rfl, Nq26, e26⟩ := hQ26
        have N26 := Fr.app N25 Nq26
        have k27 : ∀ t_, Steps p.tables e below (T26.setTop (mkF m 244 #[.val (.long q1), .second, .val (.long q2), .second, .val (.long q3), .second, .val (.long q4), .second, .val (.long q5), .second, .val (.long q6), .second, .val (.ref aP), .val (.int sel), .val (.long vx), .second, .val (.long vy), .second, .val (.long vsx), .second, .val (.long vsy), .second, .val (.long vlx), .second, .val (.long vly), .second, .val (.double (8980177656976769024 : UInt64)), .second, .val (.int (if (cmpValue (FP.dcmp (FP.dadd (Jvm.Native.java_lang_Math.nans.pick64 true ((FP.dsub (FP.dmul (FP.l2d vsx) (8980177656976769024 : UInt64)) (FP.dmul (FP.l2d vx) (8980177656976769024 : UInt64))) &&& 0x7fffffffffffffff) ((FP.dsub (FP.dmul (FP.l2d vlx) (8980177656976769024 : UInt64)) (FP.dmul (FP.l2d vx) (8980177656976769024 : UInt64))) &&& 0x7fffffffffffffff)) (Jvm.Native.java_lang_Math.nans.pick64 true ((FP.dsub (FP.dmul (FP.l2d vsy) (8980177656976769024 : UInt64)) (FP.dmul (FP.l2d vy) (8980177656976769024 : UInt64))) &&& 0x7fffffffffffffff) ((FP.dsub (FP.dmul (FP.l2d vly) (8980177656976769024 : UInt64)) (FP.dmul (FP.l2d vy) (8980177656976769024 : UInt64))) &&& 0x7fffffffffffffff))) (9214364837600034815 : UInt64)) .g) < 0 then 1 else 0)), .val (.long ((own_lmax (own_labs (vsx - vx)) (own_labs (vlx - vx))) + (own_lmax (own_labs (vsy - vy)) (own_labs (vly - vy))))), .second, .val (.long (9007199254740991 : Int64)), .second, .unset] [(.int (lcmpW ((2 : Int64) * ((own_lmax (own_labs (vsx - vx)) (own_labs (vlx - vx))) + (own_lmax (own_labs (vsy - vy)) (own_labs (vly - vy))))) (9007199254740991 : Int64)))])) t_ → Steps p.tables e below A t_ := by
          intro t_ ht_
          refine k19 t_ ?_
          refine own_f_icmpNo X2.here hx (hb hby at_104) (teq (h2)).2 (rfl : _ = 107) ?_
          refine own_f_ldc2DoubleC X2 hx hown (mvT hZ (hw _ (List.mem_of_getElem? (i := 27) rfl))) (hb hby at_107) (rfl : _ = 110) ?_
          refine own_f_goto X2.here hx (hb hby at_110) (by decide) (by decide : _ = 114) ?_
          refine own_f_dstore X2.here hx (hb hby at_114) (rfl : storeLocals _ _ _ = some #[.val (.long q1), .second, .val (.long q2), .second, .val (.long q3), .second, .val (.long q4), .second, .val (.long q5), .second, .val (.long q6), .second, .val (.ref aP), .val (.int sel), .val (.long vx), .second, .val (.long vy), .second, .val (.long vsx), .second, .val (.long vsy), .second, .val (.long vlx), .second, .val (.long vly), .second, .val (.double (8980177656976769024 : UInt64)), .second, .unset, .unset, .unset, .unset, .unset, .unset]) (rfl : _ = 116) ?_
          refine own_f_aload X2.here hx (hb hby at_116) rfl rfl (rfl : _ = 118) ?_
          refine own_f_lload X2.here hx (hb hby at_118) rfl (rfl : _ = 120) ?_
          refine own_f_l2d X2.here hx (hb hby at_120) rfl (rfl : _ = 121) ?_
          refine own_f_dload X2.here hx (hb hby at_121) rfl (rfl : _ = 123) ?_
          refine own_f_dmul X2.here hx (hb hby at_123) (own_noNaN m_x) rfl (rfl : _ = 124) ?_
          refine own_f_lload X2.here hx (hb hby at_124) rfl (rfl : _ = 126) ?_
          refine own_f_l2d X2.here hx (hb hby at_126) rfl (rfl : _ = 127) ?_
          refine own_f_dload X2.here hx (hb hby at_127) rfl (rfl : _ = 129) ?_
          refine own_f_dmul X2.here hx (hb hby at_129) (own_noNaN m_y) rfl (rfl : _ = 130) ?_
          refine own_f_lload X2.here hx (hb hby at_130) rfl (rfl : _ = 132) ?_
          refine own_f_l2d X2.here hx (hb hby at_132) rfl (rfl : _ = 133) ?_
          refine own_f_dload X2.here hx (hb hby at_133) rfl (rfl : _ = 135) ?_
          refine own_f_dmul X2.here hx (hb hby at_135) (own_noNaN m_sx) rfl (rfl : _ = 136) ?_
          refine own_f_lload X2.here hx (hb hby at_136) rfl (rfl : _ = 138) ?_
          refine own_f_l2d X2.here hx (hb hby at_138) rfl (rfl : _ = 139) ?_
          refine own_f_dload X2.here hx (hb hby at_139) rfl (rfl : _ = 141) ?_
          refine own_f_dmul X2.here hx (hb hby at_141) (own_noNaN m_sy) rfl (rfl : _ = 142) ?_
          refine own_f_lload X2.here hx (hb hby at_142) rfl (rfl : _ = 144) ?_
          refine own_f_l2d X2.here hx (hb hby at_144) rfl (rfl : _ = 145) ?_
          refine own_f_dload X2.here hx (hb hby at_145) rfl (rfl : _ = 147) ?_
          refine own_f_dmul X2.here hx (hb hby at_147) (own_noNaN m_lx) rfl (rfl : _ = 148) ?_
          refine own_f_lload X2.here hx (hb hby at_148) rfl (rfl : _ = 150) ?_
          refine own_f_l2d X2.here hx (hb hby at_150) rfl (rfl : _ = 151) ?_
          refine own_f_dload X2.here hx (hb hby at_151) rfl (rfl : _ = 153) ?_
          refine own_f_dmul X2.here hx (hb hby at_153) (own_noNaN m_ly) rfl (rfl : _ = 154) ?_
          refine st20.trans ?_
          show Steps p.tables e below (T20.setTop (mkF m 157 #[.val (.long q1), .second, .val (.long q2), .second, .val (.long q3), .second, .val (.long q4), .second, .val (.long q5), .second, .val (.long q6), .second, .val (.ref aP), .val (.int sel), .val (.long vx), .second, .val (.long vy), .second, .val (.long vsx), .second, .val (.long vsy), .second, .val (.long vlx), .second, .val (.long vly), .second, .val (.double (8980177656976769024 : UInt64)), .second, .unset, .unset, .unset, .unset, .unset, .unset] [(.int (if (cmpValue (FP.dcmp (FP.dadd (Jvm.Native.java_lang_Math.nans.pick64 true ((FP.dsub (FP.dmul (FP.l2d vsx) (8980177656976769024 : UInt64)) (FP.dmul (FP.l2d vx) (8980177656976769024 : UInt64))) &&& 0x7fffffffffffffff) ((FP.dsub (FP.dmul (FP.l2d vlx) (8980177656976769024 : UInt64)) (FP.dmul (FP.l2d vx) (8980177656976769024 : UInt64))) &&& 0x7fffffffffffffff)) (Jvm.Native.java_lang_Math.nans.pick64 true ((FP.dsub (FP.dmul (FP.l2d vsy) (8980177656976769024 : UInt64)) (FP.dmul (FP.l2d vy) (8980177656976769024 : UInt64))) &&& 0x7fffffffffffffff) ((FP.dsub (FP.dmul (FP.l2d vly) (8980177656976769024 : UInt64)) (FP.dmul (FP.l2d vy) (8980177656976769024 : UInt64))) &&& 0x7fffffffffffffff))) (9214364837600034815 : UInt64)) .g) < 0 then 1 else 0))])) t_
          refine own_f_istore X20.here hx (hb hby at_157) (rfl : storeLocals _ _ _ = some #[.val (.long q1), .second, .val (.long q2), .second, .val (.long q3), .second, .val (.long q4), .second, .val (.long q5), .second, .val (.long q6), .second, .val (.ref aP), .val (.int sel), .val (.long vx), .second, .val (.long vy), .second, .val (.long vsx), .second, .val (.long vsy), .second, .val (.long vlx), .second, .val (.long vly), .second, .val (.double (8980177656976769024 : UInt64)), .second, .val (.int (if (cmpValue (FP.dcmp (FP.dadd (Jvm.Native.java_lang_Math.nans.pick64 true ((FP.dsub (FP.dmul (FP.l2d vsx) (8980177656976769024 : UInt64)) (FP.dmul (FP.l2d vx) (8980177656976769024 : UInt64))) &&& 0x7fffffffffffffff) ((FP.dsub (FP.dmul (FP.l2d vlx) (8980177656976769024 : UInt64)) (FP.dmul (FP.l2d vx) (8980177656976769024 : UInt64))) &&& 0x7fffffffffffffff)) (Jvm.Native.java_lang_Math.nans.pick64 true ((FP.dsub (FP.dmul (FP.l2d vsy) (8980177656976769024 : UInt64)) (FP.dmul (FP.l2d vy) (8980177656976769024 : UInt64))) &&& 0x7fffffffffffffff) ((FP.dsub (FP.dmul (FP.l2d vly) (8980177656976769024 : UInt64)) (FP.dmul (FP.l2d vy) (8980177656976769024 : UInt64))) &&& 0x7fffffffffffffff))) (9214364837600034815 : UInt64)) .g) < 0 then 1 else 0)), .unset, .unset, .unset, .unset, .unset]) (rfl : _ = 159) ?_
          refine own_f_lload X20.here hx (hb hby at_159) rfl (rfl : _ = 161) ?_
          refine own_f_lload X20.here hx (hb hby at_161) rfl (rfl : _ = 163) ?_
          refine own_f_lsub X20.here hx (hb hby at_163) rfl (rfl : _ = 164) ?_
          refine st21 _ ?_
          show Steps p.tables e below (T21.setTop (mkF m 167 #[.val (.long q1), .second, .val (.long q2), .second, .val (.long q3), .second, .val (.long q4), .second, .val (.long q5), .second, .val (.long q6), .second, .val (.ref aP), .val (.int sel), .val (.long vx), .second, .val (.long vy), .second, .val (.long vsx), .second, .val (.long vsy), .second, .val (.long vlx), .second, .val (.long vly), .second, .val (.double (8980177656976769024 : UInt64)), .second, .val (.int (if (cmpValue (FP.dcmp (FP.dadd (Jvm.Native.java_lang_Math.nans.pick64 true ((FP.dsub (FP.dmul (FP.l2d vsx) (8980177656976769024 : UInt64)) (FP.dmul (FP.l2d vx) (8980177656976769024 : UInt64))) &&& 0x7fffffffffffffff) ((FP.dsub (FP.dmul (FP.l2d vlx) (8980177656976769024 : UInt64)) (FP.dmul (FP.l2d vx) (8980177656976769024 : UInt64))) &&& 0x7fffffffffffffff)) (Jvm.Native.java_lang_Math.nans.pick64 true ((FP.dsub (FP.dmul (FP.l2d vsy) (8980177656976769024 : UInt64)) (FP.dmul (FP.l2d vy) (8980177656976769024 : UInt64))) &&& 0x7fffffffffffffff) ((FP.dsub (FP.dmul (FP.l2d vly) (8980177656976769024 : UInt64)) (FP.dmul (FP.l2d vy) (8980177656976769024 : UInt64))) &&& 0x7fffffffffffffff))) (9214364837600034815 : UInt64)) .g) < 0 then 1 else 0)), .unset, .unset, .unset, .unset, .unset] [(.long (own_labs (vsx - vx)))])) t_
          refine own_f_lload X21.here hx (hb hby at_167) rfl (rfl : _ = 169) ?_
          refine own_f_lload X21.here hx (hb hby at_169) rfl (rfl : _ = 171) ?_
          refine own_f_lsub X21.here hx (hb hby at_171) rfl (rfl : _ = 172) ?_
          refine st22 _ ?_
          show Steps p.tables e below (T22.setTop (mkF m 175 #[.val (.long q1), .second, .val (.long q2), .second, .val (.long q3), .second, .val (.long q4), .second, .val (.long q5), .second, .val (.long q6), .second, .val (.ref aP), .val (.int sel), .val (.long vx), .second, .val (.long vy), .second, .val (.long vsx), .second, .val (.long vsy), .second, .val (.long vlx), .second, .val (.long vly), .second, .val (.double (8980177656976769024 : UInt64)), .second, .val (.int (if (cmpValue (FP.dcmp (FP.dadd (Jvm.Native.java_lang_Math.nans.pick64 true ((FP.dsub (FP.dmul (FP.l2d vsx) (8980177656976769024 : UInt64)) (FP.dmul (FP.l2d vx) (8980177656976769024 : UInt64))) &&& 0x7fffffffffffffff) ((FP.dsub (FP.dmul (FP.l2d vlx) (8980177656976769024 : UInt64)) (FP.dmul (FP.l2d vx) (8980177656976769024 : UInt64))) &&& 0x7fffffffffffffff)) (Jvm.Native.java_lang_Math.nans.pick64 true ((FP.dsub (FP.dmul (FP.l2d vsy) (8980177656976769024 : UInt64)) (FP.dmul (FP.l2d vy) (8980177656976769024 : UInt64))) &&& 0x7fffffffffffffff) ((FP.dsub (FP.dmul (FP.l2d vly) (8980177656976769024 : UInt64)) (FP.dmul (FP.l2d vy) (8980177656976769024 : UInt64))) &&& 0x7fffffffffffffff))) (9214364837600034815 : UInt64)) .g) < 0 then 1 else 0)), .unset, .unset, .unset, .unset, .unset] [(.long (own_labs (vlx - vx))), (.long (own_labs (vsx - vx)))])) t_
          refine st23 _ ?_
          show Steps p.tables e below (T23.setTop (mkF m 178 #[.val (.long q1), .second, .val (.long q2), .second, .val (.long q3), .second, .val (.long q4), .second, .val (.long q5), .second, .val (.long q6), .second, .val (.ref aP), .val (.int sel), .val (.long vx), .second, .val (.long vy), .second, .val (.long vsx), .second, .val (.long vsy), .second, .val (.long vlx), .second, .val (.long vly), .second, .val (.double (8980177656976769024 : UInt64)), .second, .val (.int (if (cmpValue (FP.dcmp (FP.dadd (Jvm.Native.java_lang_Math.nans.pick64 true ((FP.dsub (FP.dmul (FP.l2d vsx) (8980177656976769024 : UInt64)) (FP.dmul (FP.l2d vx) (8980177656976769024 : UInt64))) &&& 0x7fffffffffffffff) ((FP.dsub (FP.dmul (FP.l2d vlx) (8980177656976769024 : UInt64)) (FP.dmul (FP.l2d vx) (8980177656976769024 : UInt64))) &&& 0x7fffffffffffffff)) (Jvm.Native.java_lang_Math.nans.pick64 true ((FP.dsub (FP.dmul (FP.l2d vsy) (8980177656976769024 : UInt64)) (FP.dmul (FP.l2d vy) (8980177656976769024 : UInt64))) &&& 0x7fffffffffffffff) ((FP.dsub (FP.dmul (FP.l2d vly) (8980177656976769024 : UInt64)) (FP.dmul (FP.l2d vy) (8980177656976769024 : UInt64))) &&& 0x7fffffffffffffff))) (9214364837600034815 : UInt64)) .g) < 0 then 1 else 0)), .unset, .unset, .unset, .unset, .unset] [(.long (own_lmax (own_labs (vsx - vx)) (own_labs (vlx - vx))))])) t_
          refine own_f_lload X23.here hx (hb hby at_178) rfl (rfl : _ = 180) ?_
          refine own_f_lload X23.here hx (hb hby at_180) rfl (rfl : _ = 182) ?_
          refine own_f_lsub X23.here hx (hb hby at_182) rfl (rfl : _ = 183) ?_
          refine st24 _ ?_
          show Steps p.tables e below (T24.setTop (mkF m 186 #[.val (.long q1), .second, .val (.long q2), .second, .val (.long q3), .second, .val (.long q4), .second, .val (.long q5), .second, .val (.long q6), .second, .val (.ref aP), .val (.int sel), .val (.long vx), .second, .val (.long vy), .second, .val (.long vsx), .second, .val (.long vsy), .second, .val (.long vlx), .second, .val (.long vly), .second, .val (.double (8980177656976769024 : UInt64)), .second, .val (.int (if (cmpValue (FP.dcmp (FP.dadd (Jvm.Native.java_lang_Math.nans.pick64 true ((FP.dsub (FP.dmul (FP.l2d vsx) (8980177656976769024 : UInt64)) (FP.dmul (FP.l2d vx) (8980177656976769024 : UInt64))) &&& 0x7fffffffffffffff) ((FP.dsub (FP.dmul (FP.l2d vlx) (8980177656976769024 : UInt64)) (FP.dmul (FP.l2d vx) (8980177656976769024 : UInt64))) &&& 0x7fffffffffffffff)) (Jvm.Native.java_lang_Math.nans.pick64 true ((FP.dsub (FP.dmul (FP.l2d vsy) (8980177656976769024 : UInt64)) (FP.dmul (FP.l2d vy) (8980177656976769024 : UInt64))) &&& 0x7fffffffffffffff) ((FP.dsub (FP.dmul (FP.l2d vly) (8980177656976769024 : UInt64)) (FP.dmul (FP.l2d vy) (8980177656976769024 : UInt64))) &&& 0x7fffffffffffffff))) (9214364837600034815 : UInt64)) .g) < 0 then 1 else 0)), .unset, .unset, .unset, .unset, .unset] [(.long (own_labs (vsy - vy))), (.long (own_lmax (own_labs (vsx - vx)) (own_labs (vlx - vx))))])) t_
          refine own_f_lload X24.here hx (hb hby at_186) rfl (rfl : _ = 188) ?_
          refine own_f_lload X24.here hx (hb hby at_188) rfl (rfl : _ = 190) ?_
          refine own_f_lsub X24.here hx (hb hby at_190) rfl (rfl : _ = 191) ?_
          refine st25 _ ?_
          show Steps p.tables e below (T25.setTop (mkF m 194 #[.val (.long q1), .second, .val (.long q2), .second, .val (.long q3), .second, .val (.long q4), .second, .val (.long q5), .second, .val (.long q6), .second, .val (.ref aP), .val (.int sel), .val (.long vx), .second, .val (.long vy), .second, .val (.long vsx), .second, .val (.long vsy), .second, .val (.long vlx), .second, .val (.long vly), .second, .val (.double (8980177656976769024 : UInt64)), .second, .val (.int (if (cmpValue (FP.dcmp (FP.dadd (Jvm.Native.java_lang_Math.nans.pick64 true ((FP.dsub (FP.dmul (FP.l2d vsx) (8980177656976769024 : UInt64)) (FP.dmul (FP.l2d vx) (8980177656976769024 : UInt64))) &&& 0x7fffffffffffffff) ((FP.dsub (FP.dmul (FP.l2d vlx) (8980177656976769024 : UInt64)) (FP.dmul (FP.l2d vx) (8980177656976769024 : UInt64))) &&& 0x7fffffffffffffff)) (Jvm.Native.java_lang_Math.nans.pick64 true ((FP.dsub (FP.dmul (FP.l2d vsy) (8980177656976769024 : UInt64)) (FP.dmul (FP.l2d vy) (8980177656976769024 : UInt64))) &&& 0x7fffffffffffffff) ((FP.dsub (FP.dmul (FP.l2d vly) (8980177656976769024 : UInt64)) (FP.dmul (FP.l2d vy) (8980177656976769024 : UInt64))) &&& 0x7fffffffffffffff))) (9214364837600034815 : UInt64)) .g) < 0 then 1 else 0)), .unset, .unset, .unset, .unset, .unset] [(.long (own_labs (vly - vy))), (.long (own_labs (vsy - vy))), (.long (own_lmax (own_labs (vsx - vx)) (own_labs (vlx - vx))))])) t_
          refine st26 _ ?_
          show Steps p.tables e below (T26.setTop (mkF m 197 #[.val (.long q1), .second, .val (.long q2), .second, .val (.long q3), .second, .val (.long q4), .second, .val (.long q5), .second, .val (.long q6), .second, .val (.ref aP), .val (.int sel), .val (.long vx), .second, .val (.long vy), .second, .val (.long vsx), .second, .val (.long vsy), .second, .val (.long vlx), .second, .val (.long vly), .second, .val (.double (8980177656976769024 : UInt64)), .second, .val (.int (if (cmpValue (FP.dcmp (FP.dadd (Jvm.Native.java_lang_Math.nans.pick64 true ((FP.dsub (FP.dmul (FP.l2d vsx) (8980177656976769024 : UInt64)) (FP.dmul (FP.l2d vx) (8980177656976769024 : UInt64))) &&& 0x7fffffffffffffff) ((FP.dsub (FP.dmul (FP.l2d vlx) (8980177656976769024 : UInt64)) (FP.dmul (FP.l2d vx) (8980177656976769024 : UInt64))) &&& 0x7fffffffffffffff)) (Jvm.Native.java_lang_Math.nans.pick64 true ((FP.dsub (FP.dmul (FP.l2d vsy) (8980177656976769024 : UInt64)) (FP.dmul (FP.l2d vy) (8980177656976769024 : UInt64))) &&& 0x7fffffffffffffff) ((FP.dsub (FP.dmul (FP.l2d vly) (8980177656976769024 : UInt64)) (FP.dmul (FP.l2d vy) (8980177656976769024 : UInt64))) &&& 0x7fffffffffffffff))) (9214364837600034815 : UInt64)) .g) < 0 then 1 else 0)), .unset, .unset, .unset, .unset, .unset] [(.long (own_lmax (own_labs (vsy - vy)) (own_labs (vly - vy)))), (.long (own_lmax (own_labs (vsx - vx)) (own_labs (vlx - vx))))])) t_
          refine own_f_ladd X26.here hx (hb hby at_197) rfl (rfl : _ = 198) ?_
          refine own_f_lstore X26.here hx (hb hby at_198) (rfl : storeLocals _ _ _ = some #[.val (.long q1), .second, .val (.long q2), .second, .val (.long q3), .second, .val (.long q4), .second, .val (.long q5), .second, .val (.long q6), .second, .val (.ref aP), .val (.int sel), .val (.long vx), .second, .val (.long vy), .second, .val (.long vsx), .second, .val (.long vsy), .second, .val (.long vlx), .second, .val (.long vly), .second, .val (.double (8980177656976769024 : UInt64)), .second, .val (.int (if (cmpValue (FP.dcmp (FP.dadd (Jvm.Native.java_lang_Math.nans.pick64 true ((FP.dsub (FP.dmul (FP.l2d vsx) (8980177656976769024 : UInt64)) (FP.dmul (FP.l2d vx) (8980177656976769024 : UInt64))) &&& 0x7fffffffffffffff) ((FP.dsub (FP.dmul (FP.l2d vlx) (8980177656976769024 : UInt64)) (FP.dmul (FP.l2d vx) (8980177656976769024 : UInt64))) &&& 0x7fffffffffffffff)) (Jvm.Native.java_lang_Math.nans.pick64 true ((FP.dsub (FP.dmul (FP.l2d vsy) (8980177656976769024 : UInt64)) (FP.dmul (FP.l2d vy) (8980177656976769024 : UInt64))) &&& 0x7fffffffffffffff) ((FP.dsub (FP.dmul (FP.l2d vly) (8980177656976769024 : UInt64)) (FP.dmul (FP.l2d vy) (8980177656976769024 : UInt64))) &&& 0x7fffffffffffffff))) (9214364837600034815 : UInt64)) .g) < 0 then 1 else 0)), .val (.long ((own_lmax (own_labs (vsx - vx)) (own_labs (vlx - vx))) + (own_lmax (own_labs (vsy - vy)) (own_labs (vly - vy))))), .second, .unset, .unset, .unset]) (rfl : _ = 200) ?_
          refine own_f_ldc2Long X26 hx hown (mvT hZ (hw _ (List.mem_of_getElem? (i := 23) rfl))) (hb hby at_200) (rfl : _ = 203) ?_
          refine own_f_lstore X26.here hx (hb hby at_203) (rfl : storeLocals _ _ _ = some #[.val (.long q1), .second, .val (.long q2), .second, .val (.long q3), .second, .val (.long q4), .second, .val (.long q5), .second, .val (.long q6), .second, .val (.ref aP), .val (.int sel), .val (.long vx), .second, .val (.long vy), .second, .val (.long vsx), .second, .val (.long vsy), .second, .val (.long vlx), .second, .val (.long vly), .second, .val (.double (8980177656976769024 : UInt64)), .second, .val (.int (if (cmpValue (FP.dcmp (FP.dadd (Jvm.Native.java_lang_Math.nans.pick64 true ((FP.dsub (FP.dmul (FP.l2d vsx) (8980177656976769024 : UInt64)) (FP.dmul (FP.l2d vx) (8980177656976769024 : UInt64))) &&& 0x7fffffffffffffff) ((FP.dsub (FP.dmul (FP.l2d vlx) (8980177656976769024 : UInt64)) (FP.dmul (FP.l2d vx) (8980177656976769024 : UInt64))) &&& 0x7fffffffffffffff)) (Jvm.Native.java_lang_Math.nans.pick64 true ((FP.dsub (FP.dmul (FP.l2d vsy) (8980177656976769024 : UInt64)) (FP.dmul (FP.l2d vy) (8980177656976769024 : UInt64))) &&& 0x7fffffffffffffff) ((FP.dsub (FP.dmul (FP.l2d vly) (8980177656976769024 : UInt64)) (FP.dmul (FP.l2d vy) (8980177656976769024 : UInt64))) &&& 0x7fffffffffffffff))) (9214364837600034815 : UInt64)) .g) < 0 then 1 else 0)), .val (.long ((own_lmax (own_labs (vsx - vx)) (own_labs (vlx - vx))) + (own_lmax (own_labs (vsy - vy)) (own_labs (vly - vy))))), .second, .val (.long (9007199254740991 : Int64)), .second, .unset]) (rfl : _ = 205) ?_
          refine own_f_iload X26.here hx (hb hby at_205) rfl (rfl : _ = 207) ?_
          refine own_f_iconst X26.here hx (hb hby at_207) (rfl : _ = (1 : Int32)) (rfl : _ = 208) ?_
          refine own_f_icmpYes X26.here hx (hb hby at_208) (feq (h1)).2 (by decide) (by decide : _ = 229) ?_
          refine own_f_iload X26.here hx (hb hby at_229) rfl (rfl : _ = 231) ?_
          refine own_f_iconst X26.here hx (hb hby at_231) (rfl : _ = (2 : Int32)) (rfl : _ = 232) ?_
          refine own_f_icmpNo X26.here hx (hb hby at_232) (teq (h2)).2 (rfl : _ = 235) ?_
          refine own_f_ldc2Long X26 hx hown (mvT hZ (hw _ (List.mem_of_getElem? (i := 28) rfl))) (hb hby at_235) (rfl : _ = 238) ?_
          refine own_f_lload X26.here hx (hb hby at_238) rfl (rfl : _ = 240) ?_
          refine own_f_lmul X26.here hx (hb hby at_240) rfl (rfl : _ = 241) ?_
          refine own_f_lload X26.here hx (hb hby at_241) rfl (rfl : _ = 243) ?_
          refine own_f_lcmp X26.here hx (hb hby at_243) (rfl : _ = 244) ?_
          exact ht_
        by_cases hm : (lcmpW ((2 : Int64) * ((own_lmax (own_labs (vsx - vx)) (own_labs (vlx - vx))) + (own_lmax (own_labs (vsy - vy)) (own_labs (vly - vy))))) (9007199254740991 : Int64)) < (0 : Int32)
        · obtain ⟨fs, hr, hrun, hended, hW, hsame⟩ := X26.leave (v := some (.int (1 : Int32))) (fun h => by rw [Bd.returns] at h; cases h) hlk
          refine ⟨_, _, ?_, hrun, hended, _, _, rfl, ?_, ⟨_, rfl⟩, hW, hsame.mono (by decide) (by decide)⟩
          · refine hA0 _ ?_
            refine k27 _ ?_
            refine own_f_ifNo X26.here hx (hb hby at_244) ((if0 _ _).trans (tlt (hm)).2.1) (rfl : _ = 247) ?_
            refine own_f_iconst X26.here hx (hb hby at_247) (rfl : _ = (1 : Int32)) (rfl : _ = 248) ?_
            refine own_f_goto X26.here hx (hb hby at_248) (by decide) (by decide : _ = 252) ?_
            refine own_f_istore X26.here hx (hb hby at_252) (rfl : storeLocals _ _ _ = some #[.val (.long q1), .second, .val (.long q2), .second, .val (.long q3), .second, .val (.long q4), .second, .val (.long q5), .second, .val (.long q6), .second, .val (.ref aP), .val (.int sel), .val (.long vx), .second, .val (.long vy), .second, .val (.long vsx), .second, .val (.long vsy), .second, .val (.long vlx), .second, .val (.long vly), .second, .val (.double (8980177656976769024 : UInt64)), .second, .val (.int (if (cmpValue (FP.dcmp (FP.dadd (Jvm.Native.java_lang_Math.nans.pick64 true ((FP.dsub (FP.dmul (FP.l2d vsx) (8980177656976769024 : UInt64)) (FP.dmul (FP.l2d vx) (8980177656976769024 : UInt64))) &&& 0x7fffffffffffffff) ((FP.dsub (FP.dmul (FP.l2d vlx) (8980177656976769024 : UInt64)) (FP.dmul (FP.l2d vx) (8980177656976769024 : UInt64))) &&& 0x7fffffffffffffff)) (Jvm.Native.java_lang_Math.nans.pick64 true ((FP.dsub (FP.dmul (FP.l2d vsy) (8980177656976769024 : UInt64)) (FP.dmul (FP.l2d vy) (8980177656976769024 : UInt64))) &&& 0x7fffffffffffffff) ((FP.dsub (FP.dmul (FP.l2d vly) (8980177656976769024 : UInt64)) (FP.dmul (FP.l2d vy) (8980177656976769024 : UInt64))) &&& 0x7fffffffffffffff))) (9214364837600034815 : UInt64)) .g) < 0 then 1 else 0)), .val (.long ((own_lmax (own_labs (vsx - vx)) (own_labs (vlx - vx))) + (own_lmax (own_labs (vsy - vy)) (own_labs (vly - vy))))), .second, .val (.long (9007199254740991 : Int64)), .second, .val (.int (1 : Int32))]) (rfl : _ = 254) ?_
            refine own_f_goto X26.here hx (hb hby at_254) (by decide) (by decide : _ = 260) ?_
            refine own_f_iload X26.here hx (hb hby at_260) rfl (rfl : _ = 262) ?_
            refine own_f_iload X26.here hx (hb hby at_262) rfl (rfl : _ = 264) ?_
            refine own_f_icmpNo X26.here hx (hb hby at_264) (teq (if_pos (hres.1 hm))).2 (rfl : _ = 267) ?_
            refine own_f_iconst X26.here hx (hb hby at_267) (rfl : _ = (1 : Int32)) (rfl : _ = 268) ?_
            refine own_f_goto X26.here hx (hb hby at_268) (by decide) (by decide : _ = 272) ?_
            exact retN X26 hx (t := .boolean) Bd.returns (by simp) (hb hby at_272) hr
          · show Q0 Z q1 q2 q3 q4 q5 q6 aG aP h0 n0 _ T26.heap _
            rw [e26]
            exact ⟨rfl, N26⟩
        · obtain ⟨fs, hr, hrun, hended, hW, hsame⟩ := X26.leave (v := some (.int (1 : Int32))) (fun h => by rw [Bd.returns] at h; cases h) hlk
          refine ⟨_, _, ?_, hrun, hended, _, _, rfl, ?_, ⟨_, rfl⟩, hW, hsame.mono (by decide) (by decide)⟩
          · refine hA0 _ ?_
            refine k27 _ ?_
            refine own_f_ifYes X26.here hx (hb hby at_244) ((if0 _ _).trans (flt (hm)).2.1) (by decide) (by decide : _ = 251) ?_
            refine own_f_iconst X26.here hx (hb hby at_251) (rfl : _ = (0 : Int32)) (rfl : _ = 252) ?_
            refine own_f_istore X26.here hx (hb hby at_252) (rfl : storeLocals _ _ _ = some #[.val (.long q1), .second, .val (.long q2), .second, .val (.long q3), .second, .val (.long q4), .second, .val (.long q5), .second, .val (.long q6), .second, .val (.ref aP), .val (.int sel), .val (.long vx), .second, .val (.long vy), .second, .val (.long vsx), .second, .val (.long vsy), .second, .val (.long vlx), .second, .val (.long vly), .second, .val (.double (8980177656976769024 : UInt64)), .second, .val (.int (if (cmpValue (FP.dcmp (FP.dadd (Jvm.Native.java_lang_Math.nans.pick64 true ((FP.dsub (FP.dmul (FP.l2d vsx) (8980177656976769024 : UInt64)) (FP.dmul (FP.l2d vx) (8980177656976769024 : UInt64))) &&& 0x7fffffffffffffff) ((FP.dsub (FP.dmul (FP.l2d vlx) (8980177656976769024 : UInt64)) (FP.dmul (FP.l2d vx) (8980177656976769024 : UInt64))) &&& 0x7fffffffffffffff)) (Jvm.Native.java_lang_Math.nans.pick64 true ((FP.dsub (FP.dmul (FP.l2d vsy) (8980177656976769024 : UInt64)) (FP.dmul (FP.l2d vy) (8980177656976769024 : UInt64))) &&& 0x7fffffffffffffff) ((FP.dsub (FP.dmul (FP.l2d vly) (8980177656976769024 : UInt64)) (FP.dmul (FP.l2d vy) (8980177656976769024 : UInt64))) &&& 0x7fffffffffffffff))) (9214364837600034815 : UInt64)) .g) < 0 then 1 else 0)), .val (.long ((own_lmax (own_labs (vsx - vx)) (own_labs (vlx - vx))) + (own_lmax (own_labs (vsy - vy)) (own_labs (vly - vy))))), .second, .val (.long (9007199254740991 : Int64)), .second, .val (.int (0 : Int32))]) (rfl : _ = 254) ?_
            refine own_f_goto X26.here hx (hb hby at_254) (by decide) (by decide : _ = 260) ?_
            refine own_f_iload X26.here hx (hb hby at_260) rfl (rfl : _ = 262) ?_
            refine own_f_iload X26.here hx (hb hby at_262) rfl (rfl : _ = 264) ?_
            refine own_f_icmpNo X26.here hx (hb hby at_264) (teq (if_neg (hres.2 hm))).2 (rfl : _ = 267) ?_
            refine own_f_iconst X26.here hx (hb hby at_267) (rfl : _ = (1 : Int32)) (rfl : _ = 268) ?_
            refine own_f_goto X26.here hx (hb hby at_268) (by decide) (by decide : _ = 272) ?_
            exact retN X26 hx (t := .boolean) Bd.returns (by simp) (hb hby at_272) hr
          · show Q0 Z q1 q2 q3 q4 q5 q6 aG aP h0 n0 _ T26.heap _
            rw [e26]
            exact ⟨rfl, N26⟩
      · have hS := own_one
        have m_x := own_scaled b_x hS (by decide)
        have m_y := own_scaled b_y hS (by decide)
        have m_sx := own_scaled b_sx hS (by decide)
        have m_sy := own_scaled b_sy hS (by decide)
        have m_lx := own_scaled b_lx hS (by decide)
        have m_ly := own_scaled b_ly hS (by decide)
        obtain ⟨n1, n2, n3, n4, iA, a1, a2, a3, RA⟩ := own_leg b_x b_sx b_lx m_x m_sx m_lx (by decide)
        obtain ⟨n5, n6, n7, n8, iB, c1, c2, c3, RB⟩ := own_leg b_y b_sy b_ly m_y m_sy m_ly (by decide)
        obtain ⟨n9, hres⟩ := own_res0 RA RB a1 a2 c1 c2 a3 c3
        obtain ⟨cq28, kq28, q28a, q28b, q28c⟩ := isOf hZ e2 ExP
        obtain ⟨_, _, ⟨T28, L28, k28_, n28⟩, -, X28, ⟨Lc28, hQ28, l28, y28, z28⟩, st28⟩ := X2.virtualBack hx (y := (⟨"com/example/honeyguide/honeyguide/CoordinateSystem", "measurable", "(DDDDDD)Z"⟩ : MethodName)) (z := (⟨"com/example/honeyguide/honeyguide/CoordinateSystem", "measurable", "(DDDDDD)Z"⟩ : MethodName)) hown (mvT hZ (hw _ (List.mem_of_getElem? (i := 4) rfl))) (mvT hZ (hw _ (List.mem_of_getElem? (i := 5) rfl))) (notFace_of_selects (args := #[]) (mvT hZ (hw _ (List.mem_of_getElem? (i := 26) rfl)))) (mvT hZ (hw _ (List.mem_of_getElem? (i := 26) rfl))) (mvT hZ (hw _ (List.mem_of_getElem? (i := 6) rfl))) (by decide) (backOf (W := 0) (rm1 l Z a0 hw [] aP (FP.dmul (FP.l2d vx) (4607182418800017408 : UInt64)) (FP.dmul (FP.l2d vy) (4607182418800017408 : UInt64)) (FP.dmul (FP.l2d vsx) (4607182418800017408 : UInt64)) (FP.dmul (FP.l2d vsy) (4607182418800017408 : UInt64)) (FP.dmul (FP.l2d vlx) (4607182418800017408 : UInt64)) (FP.dmul (FP.l2d vly) (4607182418800017408 : UInt64))  h0 n0 Z0 n1 n2 n3 n4 n5 n6 n7 n8 n9) hZ (hw _ (List.mem_of_getElem? (i := 8) rfl)) (hw _ (List.mem_of_getElem? (i := 1) rfl)) (by decide) (by decide)) q28a q28c (g := (mkF m 154 #[.val (.long q1), .second, .val (.long q2), .second, .val (.long q3), .second, .val (.long q4), .second, .val (.long q5), .second, .val (.long q6), .second, .val (.ref aP), .val (.int sel), .val (.long vx), .second, .val (.long vy), .second, .val (.long vsx), .second, .val (.long vsy), .second, .val (.long vlx), .second, .val (.long vly), .second, .val (.double (4607182418800017408 : UInt64)), .second, .unset, .unset, .unset, .unset, .unset, .unset] [(.double (FP.dmul (FP.l2d vly) (4607182418800017408 : UInt64))), (.double (FP.dmul (FP.l2d vlx) (4607182418800017408 : UInt64))), (.double (FP.dmul (FP.l2d vsy) (4607182418800017408 : UInt64))), (.double (FP.dmul (FP.l2d vsx) (4607182418800017408 : UInt64))), (.double (FP.dmul (FP.l2d vy) (4607182418800017408 : UInt64))), (.double (FP.dmul (FP.l2d vx) (4607182418800017408 : UInt64))), (.ref aP)])) rfl (by rw [hml]; rfl) (Steps.refl _) (argsL := [(.double (FP.dmul (FP.l2d vx) (4607182418800017408 : UInt64))), (.double (FP.dmul (FP.l2d vy) (4607182418800017408 : UInt64))), (.double (FP.dmul (FP.l2d vsx) (4607182418800017408 : UInt64))), (.double (FP.dmul (FP.l2d vsy) (4607182418800017408 : UInt64))), (.double (FP.dmul (FP.l2d vlx) (4607182418800017408 : UInt64))), (.double (FP.dmul (FP.l2d vly) (4607182418800017408 : UInt64)))]) (rest := []) (lenOf pd_2 rfl) rfl (by show 2 * 0 + _ ≤ _; exact Nat.le_of_eq rfl) (hb hby at_154) (fun _ _ => ⟨rfl, e2, (by decide : 0 + 0 ≤ _), (by decide : 0 + 0 ≤ _)⟩)
        dsimp only [Pt.U, Pt.locs, Pt.cells, Pt.slots] at X28 l28 y28 z28 st28 hQ28
        subst l28 y28 z28
        obtain ⟨rfl, Nq28, e28⟩ := hQ28
        have N28 := Fr.app N0 Nq28
        obtain ⟨_, _, ⟨T29, L29, k29_, n29⟩, -, X29, ⟨Lc29, hQ29, l29, y29, z29⟩, st29⟩ := Jvm.LawKit.callS X28 hx (y := (⟨"java/lang/Math", "abs", "(J)J"⟩ : MethodName)) hown (mvT hZ (hw _ (List.mem_of_getElem? (i := 17) rfl))) (mvT hZ (hw _ (List.mem_of_getElem? (i := 18) rfl))) (mvT hZ (hw _ (List.mem_of_getElem? (i := 11) rfl))) (mvT hZ (hw _ (List.mem_of_getElem? (i := 19) rfl))) (by decide) (backOf (W := 0) (rm4 l Z a0 hw [] (vsx - vx)  h0 n0 Z0) hZ (hw _ (List.mem_of_getElem? (i := 19) rfl)) (hw _ (List.mem_of_getElem? (i := 11) rfl)) (by decide) (by decide)) (g := (mkF m 164 #[.val (.long q1), .second, .val (.long q2), .second, .val (.long q3), .second, .val (.long q4), .second, .val (.long q5), .second, .val (.long q6), .second, .val (.ref aP), .val (.int sel), .val (.long vx), .second, .val (.long vy), .second, .val (.long vsx), .second, .val (.long vsy), .second, .val (.long vlx), .second, .val (.long vly), .second, .val (.double (4607182418800017408 : UInt64)), .second, .val (.int (if (cmpValue (FP.dcmp (FP.dadd (Jvm.Native.java_lang_Math.nans.pick64 true ((FP.dsub (FP.dmul (FP.l2d vsx) (4607182418800017408 : UInt64)) (FP.dmul (FP.l2d vx) (4607182418800017408 : UInt64))) &&& 0x7fffffffffffffff) ((FP.dsub (FP.dmul (FP.l2d vlx) (4607182418800017408 : UInt64)) (FP.dmul (FP.l2d vx) (4607182418800017408 : UInt64))) &&& 0x7fffffffffffffff)) (Jvm.Native.java_lang_Math.nans.pick64 true ((FP.dsub (FP.dmul (FP.l2d vsy) (4607182418800017408 : UInt64)) (FP.dmul (FP.l2d vy) (4607182418800017408 : UInt64))) &&& 0x7fffffffffffffff) ((FP.dsub (FP.dmul (FP.l2d vly) (4607182418800017408 : UInt64)) (FP.dmul (FP.l2d vy) (4607182418800017408 : UInt64))) &&& 0x7fffffffffffffff))) (9214364837600034815 : UInt64)) .g) < 0 then 1 else 0)), .unset, .unset, .unset, .unset, .unset] [(.long (vsx - vx))])) rfl (by rw [hml]; rfl) (argsL := [(.long (vsx - vx))]) (rest := []) (lenOf pd_3 rfl) rfl (by show 2 * 0 + _ ≤ _; exact Nat.le_of_eq rfl) (hb hby at_164) (fun _ _ => ⟨rfl, e28, (by decide : 0 + 0 ≤ _), (by decide : 0 + 0 ≤ _)⟩)
        dsimp only [Pt.U, Pt.locs, Pt.cells, Pt.slots] at X29 l29 y29 z29 st29 hQ29
        subst l29 y29 z29
        obtain ⟨rfl, Nq29, e29⟩ := hQ29
        have N29 := Fr.app N28 Nq29
        obtain ⟨_, _, ⟨T30, L30, k30_, n30⟩, -, X30, ⟨Lc30, hQ30, l30, y30, z30⟩, st30⟩ := Jvm.LawKit.callS X29 hx (y := (⟨"java/lang/Math", "abs", "(J)J"⟩ : MethodName)) hown (mvT hZ (hw _ (List.mem_of_getElem? (i := 17) rfl))) (mvT hZ (hw _ (List.mem_of_getElem? (i := 18) rfl))) (mvT hZ (hw _ (List.mem_of_getElem? (i := 11) rfl))) (mvT hZ (hw _ (List.mem_of_getElem? (i := 19) rfl))) (by decide) (backOf (W := 2) (rm4 l Z a0 hw [] (vlx - vx)  h0 n0 Z0) hZ (hw _ (List.mem_of_getElem? (i := 19) rfl)) (hw _ (List.mem_of_getElem? (i := 11) rfl)) (by decide) (by decide)) (g := (mkF m 172 #[.val (.long q1), .second, .val (.long q2), .second, .val (.long q3), .second, .val (.long q4), .second, .val (.long q5), .second, .val (.long q6), .second, .val (.ref aP), .val (.int sel), .val (.long vx), .second, .val (.long vy), .second, .val (.long vsx), .second, .val (.long vsy), .second, .val (.long vlx), .second, .val (.long vly), .second, .val (.double (4607182418800017408 : UInt64)), .second, .val (.int (if (cmpValue (FP.dcmp (FP.dadd (Jvm.Native.java_lang_Math.nans.pick64 true ((FP.dsub (FP.dmul (FP.l2d vsx) (4607182418800017408 : UInt64)) (FP.dmul (FP.l2d vx) (4607182418800017408 : UInt64))) &&& 0x7fffffffffffffff) ((FP.dsub (FP.dmul (FP.l2d vlx) (4607182418800017408 : UInt64)) (FP.dmul (FP.l2d vx) (4607182418800017408 : UInt64))) &&& 0x7fffffffffffffff)) (Jvm.Native.java_lang_Math.nans.pick64 true ((FP.dsub (FP.dmul (FP.l2d vsy) (4607182418800017408 : UInt64)) (FP.dmul (FP.l2d vy) (4607182418800017408 : UInt64))) &&& 0x7fffffffffffffff) ((FP.dsub (FP.dmul (FP.l2d vly) (4607182418800017408 : UInt64)) (FP.dmul (FP.l2d vy) (4607182418800017408 : UInt64))) &&& 0x7fffffffffffffff))) (9214364837600034815 : UInt64)) .g) < 0 then 1 else 0)), .unset, .unset, .unset, .unset, .unset] [(.long (vlx - vx)), (.long (own_labs (vsx - vx)))])) rfl (by rw [hml]; rfl) (argsL := [(.long (vlx - vx))]) (rest := [(.long (own_labs (vsx - vx)))]) (lenOf pd_3 rfl) rfl (by show 2 * 0 + _ ≤ _; exact Nat.le_of_eq rfl) (hb hby at_172) (fun _ _ => ⟨rfl, e29, (by decide : 0 + 0 ≤ _), (by decide : 0 + 0 ≤ _)⟩)
        dsimp only [Pt.U, Pt.locs, Pt.cells, Pt.slots] at X30 l30 y30 z30 st30 hQ30
        subst l30 y30 z30
        obtain ⟨rfl, Nq30, e30⟩ := hQ30
        have N30 := Fr.app N29 Nq30
        obtain ⟨_, _, ⟨T31, L31, k31_, n31⟩, -, X31, ⟨Lc31, hQ31, l31, y31, z31⟩, st31⟩ := Jvm.LawKit.callS X30 hx (y := (⟨"java/lang/Math", "max", "(JJ)J"⟩ : MethodName)) hown (mvT hZ (hw _ (List.mem_of_getElem? (i := 20) rfl))) (mvT hZ (hw _ (List.mem_of_getElem? (i := 21) rfl))) (mvT hZ (hw _ (List.mem_of_getElem? (i := 11) rfl))) (mvT hZ (hw _ (List.mem_of_getElem? (i := 22) rfl))) (by decide) (backOf (W := 0) (rm5 l Z a0 hw [] (own_labs (vsx - vx)) (own_labs (vlx - vx))  h0 n0 Z0) hZ (hw _ (List.mem_of_getElem? (i := 22) rfl)) (hw _ (List.mem_of_getElem? (i := 11) rfl)) (by decide) (by decide)) (g := (mkF m 175 #[.val (.long q1), .second, .val (.long q2), .second, .val (.long q3), .second, .val (.long q4), .second, .val (.long q5), .second, .val (.long q6), .second, .val (.ref aP), .val (.int sel), .val (.long vx), .second, .val (.long vy), .second, .val (.long vsx), .second, .val (.long vsy), .second, .val (.long vlx), .second, .val (.long vly), .second, .val (.double (4607182418800017408 : UInt64)), .second, .val (.int (if (cmpValue (FP.dcmp (FP.dadd (Jvm.Native.java_lang_Math.nans.pick64 true ((FP.dsub (FP.dmul (FP.l2d vsx) (4607182418800017408 : UInt64)) (FP.dmul (FP.l2d vx) (4607182418800017408 : UInt64))) &&& 0x7fffffffffffffff) ((FP.dsub (FP.dmul (FP.l2d vlx) (4607182418800017408 : UInt64)) (FP.dmul (FP.l2d vx) (4607182418800017408 : UInt64))) &&& 0x7fffffffffffffff)) (Jvm.Native.java_lang_Math.nans.pick64 true ((FP.dsub (FP.dmul (FP.l2d vsy) (4607182418800017408 : UInt64)) (FP.dmul (FP.l2d vy) (4607182418800017408 : UInt64))) &&& 0x7fffffffffffffff) ((FP.dsub (FP.dmul (FP.l2d vly) (4607182418800017408 : UInt64)) (FP.dmul (FP.l2d vy) (4607182418800017408 : UInt64))) &&& 0x7fffffffffffffff))) (9214364837600034815 : UInt64)) .g) < 0 then 1 else 0)), .unset, .unset, .unset, .unset, .unset] [(.long (own_labs (vlx - vx))), (.long (own_labs (vsx - vx)))])) rfl (by rw [hml]; rfl) (argsL := [(.long (own_labs (vsx - vx))), (.long (own_labs (vlx - vx)))]) (rest := []) (lenOf pd_4 rfl) rfl (by show 2 * 0 + _ ≤ _; exact Nat.le_of_eq rfl) (hb hby at_175) (fun _ _ => ⟨rfl, e30, (by decide : 0 + 0 ≤ _), (by decide : 0 + 0 ≤ _)⟩)
        dsimp only [Pt.U, Pt.locs, Pt.cells, Pt.slots] at X31 l31 y31 z31 st31 hQ31
        subst l31 y31 z31
        obtain ⟨rfl, Nq31, e31⟩ := hQ31
        have N31 := Fr.app N30 Nq31
        obtain ⟨_, _, ⟨T32, L32, k32_, n32⟩, -, X32, ⟨Lc32, hQ32, l32, y32, z32⟩, st32⟩ := Jvm.LawKit.callS X31 hx (y := (⟨"java/lang/Math", "abs", "(J)J"⟩ : MethodName)) hown (mvT hZ (hw _ (List.mem_of_getElem? (i := 17) rfl))) (mvT hZ (hw _ (List.mem_of_getElem? (i := 18) rfl))) (mvT hZ (hw _ (List.mem_of_getElem? (i := 11) rfl))) (mvT hZ (hw _ (List.mem_of_getElem? (i := 19) rfl))) (by decide) (backOf (W := 2) (rm4 l Z a0 hw [] (vsy - vy)  h0 n0 Z0) hZ (hw _ (List.mem_of_getElem? (i := 19) rfl)) (hw _ (List.mem_of_getElem? (i := 11) rfl)) (by decide) (by decide)) (g := (mkF m 183 #[.val (.long q1), .second, .val (.long q2), .second, .val (.long q3), .second, .val (.long q4), .second, .val (.long q5), .second, .val (.long q6), .second, .val (.ref aP), .val (.int sel), .val (.long vx), .second, .val (.long vy), .second, .val (.long vsx), .second, .val (.long vsy), .second, .val (.long vlx), .second, .val (.long vly), .second, .val (.double (4607182418800017408 : UInt64)), .second, .val (.int (if (cmpValue (FP.dcmp (FP.dadd (Jvm.Native.java_lang_Math.nans.pick64 true ((FP.dsub (FP.dmul (FP.l2d vsx) (4607182418800017408 : UInt64)) (FP.dmul (FP.l2d vx) (4607182418800017408 : UInt64))) &&& 0x7fffffffffffffff) ((FP.dsub (FP.dmul (FP.l2d vlx) (4607182418800017408 : UInt64)) (FP.dmul (FP.l2d vx) (4607182418800017408 : UInt64))) &&& 0x7fffffffffffffff)) (Jvm.Native.java_lang_Math.nans.pick64 true ((FP.dsub (FP.dmul (FP.l2d vsy) (4607182418800017408 : UInt64)) (FP.dmul (FP.l2d vy) (4607182418800017408 : UInt64))) &&& 0x7fffffffffffffff) ((FP.dsub (FP.dmul (FP.l2d vly) (4607182418800017408 : UInt64)) (FP.dmul (FP.l2d vy) (4607182418800017408 : UInt64))) &&& 0x7fffffffffffffff))) (9214364837600034815 : UInt64)) .g) < 0 then 1 else 0)), .unset, .unset, .unset, .unset, .unset] [(.long (vsy - vy)), (.long (own_lmax (own_labs (vsx - vx)) (own_labs (vlx - vx))))])) rfl (by rw [hml]; rfl) (argsL := [(.long (vsy - vy))]) (rest := [(.long (own_lmax (own_labs (vsx - vx)) (own_labs (vlx - vx))))]) (lenOf pd_3 rfl) rfl (by show 2 * 0 + _ ≤ _; exact Nat.le_of_eq rfl) (hb hby at_183) (fun _ _ => ⟨rfl, e31, (by decide : 0 + 0 ≤ _), (by decide : 0 + 0 ≤ _)⟩)
        dsimp only [Pt.U, Pt.locs, Pt.cells, Pt.slots] at X32 l32 y32 z32 st32 hQ32
        subst l32 y32 z32
        obtain ⟨rfl, Nq32, e32⟩ := hQ32
        have N32 := Fr.app N31 Nq32
        obtain ⟨_, _, ⟨T33, L33, k33_, n33⟩, -, X33, ⟨Lc33, hQ33, l33, y33, z33⟩, st33⟩ := Jvm.LawKit.callS X32 hx (y := (⟨"java/lang/Math", "abs", "(J)J"⟩ : MethodName)) hown (mvT hZ (hw _ (List.mem_of_getElem? (i := 17) rfl))) (mvT hZ (hw _ (List.mem_of_getElem? (i := 18) rfl))) (mvT hZ (hw _ (List.mem_of_getElem? (i := 11) rfl))) (mvT hZ (hw _ (List.mem_of_getElem? (i := 19) rfl))) (by decide) (backOf (W := 4) (rm4 l Z a0 hw [] (vly - vy)  h0 n0 Z0) hZ (hw _ (List.mem_of_getElem? (i := 19) rfl)) (hw _ (List.mem_of_getElem? (i := 11) rfl)) (by decide) (by decide)) (g := (mkF m 191 #[.val (.long q1), .second, .val (.long q2), .second, .val (.long q3), .second, .val (.long q4), .second, .val (.long q5), .second, .val (.long q6), .second, .val (.ref aP), .val (.int sel), .val (.long vx), .second, .val (.long vy), .second, .val (.long vsx), .second, .val (.long vsy), .second, .val (.long vlx), .second, .val (.long vly), .second, .val (.double (4607182418800017408 : UInt64)), .second, .val (.int (if (cmpValue (FP.dcmp (FP.dadd (Jvm.Native.java_lang_Math.nans.pick64 true ((FP.dsub (FP.dmul (FP.l2d vsx) (4607182418800017408 : UInt64)) (FP.dmul (FP.l2d vx) (4607182418800017408 : UInt64))) &&& 0x7fffffffffffffff) ((FP.dsub (FP.dmul (FP.l2d vlx) (4607182418800017408 : UInt64)) (FP.dmul (FP.l2d vx) (4607182418800017408 : UInt64))) &&& 0x7fffffffffffffff)) (Jvm.Native.java_lang_Math.nans.pick64 true ((FP.dsub (FP.dmul (FP.l2d vsy) (4607182418800017408 : UInt64)) (FP.dmul (FP.l2d vy) (4607182418800017408 : UInt64))) &&& 0x7fffffffffffffff) ((FP.dsub (FP.dmul (FP.l2d vly) (4607182418800017408 : UInt64)) (FP.dmul (FP.l2d vy) (4607182418800017408 : UInt64))) &&& 0x7fffffffffffffff))) (9214364837600034815 : UInt64)) .g) < 0 then 1 else 0)), .unset, .unset, .unset, .unset, .unset] [(.long (vly - vy)), (.long (own_labs (vsy - vy))), (.long (own_lmax (own_labs (vsx - vx)) (own_labs (vlx - vx))))])) rfl (by rw [hml]; rfl) (argsL := [(.long (vly - vy))]) (rest := [(.long (own_labs (vsy - vy))), (.long (own_lmax (own_labs (vsx - vx)) (own_labs (vlx - vx))))]) (lenOf pd_3 rfl) rfl (by show 2 * 0 + _ ≤ _; exact Nat.le_of_eq rfl) (hb hby at_191) (fun _ _ => ⟨rfl, e32, (by decide : 0 + 0 ≤ _), (by decide : 0 + 0 ≤ _)⟩)
        dsimp only [Pt.U, Pt.locs, Pt.cells, Pt.slots] at X33 l33 y33 z33 st33 hQ33
        subst l33 y33 z33
        obtain ⟨rfl, Nq33, e33⟩ := hQ33
        have N33 := Fr.app N32 Nq33
        obtain ⟨_, _, ⟨T34, L34, k34_, n34⟩, -, X34, ⟨Lc34, hQ34, l34, y34, z34⟩, st34⟩ := Jvm.LawKit.callS X33 hx (y := (⟨"java/lang/Math", "max", "(JJ)J"⟩ : MethodName)) hown (mvT hZ (hw _ (List.mem_of_getElem? (i := 20) rfl))) (mvT hZ (hw _ (List.mem_of_getElem? (i := 21) rfl))) (mvT hZ (hw _ (List.mem_of_getElem? (i := 11) rfl))) (mvT hZ (hw _ (List.mem_of_getElem? (i := 22) rfl))) (by decide) (backOf (W := 2) (rm5 l Z a0 hw [] (own_labs (vsy - vy)) (own_labs (vly - vy))  h0 n0 Z0) hZ (hw _ (List.mem_of_getElem? (i := 22) rfl)) (hw _ (List.mem_of_getElem? (i := 11) rfl)) (by decide) (by decide)) (g := (mkF m 194 #[.val (.long q1), .second, .val (.long q2), .second, .val (.long q3), .second, .val (.long q4), .second, .val (.long q5), .second, .val (.long q6), .second, .val (.ref aP), .val (.int sel), .val (.long vx), .second, .val (.long vy), .second, .val (.long vsx), .second, .val (.long vsy), .second, .val (.long vlx), .second, .val (.long vly), .second, .val (.double (4607182418800017408 : UInt64)), .second, .val (.int (if (cmpValue (FP.dcmp (FP.dadd (Jvm.Native.java_lang_Math.nans.pick64 true ((FP.dsub (FP.dmul (FP.l2d vsx) (4607182418800017408 : UInt64)) (FP.dmul (FP.l2d vx) (4607182418800017408 : UInt64))) &&& 0x7fffffffffffffff) ((FP.dsub (FP.dmul (FP.l2d vlx) (4607182418800017408 : UInt64)) (FP.dmul (FP.l2d vx) (4607182418800017408 : UInt64))) &&& 0x7fffffffffffffff)) (Jvm.Native.java_lang_Math.nans.pick64 true ((FP.dsub (FP.dmul (FP.l2d vsy) (4607182418800017408 : UInt64)) (FP.dmul (FP.l2d vy) (4607182418800017408 : UInt64))) &&& 0x7fffffffffffffff) ((FP.dsub (FP.dmul (FP.l2d vly) (4607182418800017408 : UInt64)) (FP.dmul (FP.l2d vy) (4607182418800017408 : UInt64))) &&& 0x7fffffffffffffff))) (9214364837600034815 : UInt64)) .g) < 0 then 1 else 0)), .unset, .unset, .unset, .unset, .unset] [(.long (own_labs (vly - vy))), (.long (own_labs (vsy - vy))), (.long (own_lmax (own_labs (vsx - vx)) (own_labs (vlx - vx))))])) rfl (by rw [hml]; rfl) (argsL := [(.long (own_labs (vsy - vy))), (.long (own_labs (vly - vy)))]) (rest := [(.long (own_lmax (own_labs (vsx - vx)) (own_labs (vlx - vx))))]) (lenOf pd_4 rfl) rfl (by show 2 * 0 + _ ≤ _; exact Nat.le_of_eq rfl) (hb hby at_194) (fun _ _ => ⟨rfl, e33, (by decide : 0 + 0 ≤ _), (by decide : 0 + 0 ≤ _)⟩)
        dsimp only [Pt.U, Pt.locs, Pt.cells, Pt.slots] at X34 l34 y34 z34 st34 hQ34
        subst l34 y34 z34
        obtain ⟨rfl, Nq34, e34⟩ := hQ34
        have N34 := Fr.app N33 Nq34
        obtain ⟨fs, hr, hrun, hended, hW, hsame⟩ := X34.leave (v := some (.int (1 : Int32))) (fun h => by rw [Bd.returns] at h; cases h) hlk
        refine ⟨_, _, ?_, hrun, hended, _, _, rfl, ?_, ⟨_, rfl⟩, hW, hsame.mono (by decide) (by decide)⟩
        · refine hA0 _ ?_
          refine k19 _ ?_
          refine own_f_icmpYes X2.here hx (hb hby at_104) (feq (h2)).2 (by decide) (by decide : _ = 113) ?_
          refine own_f_dconst1 X2.here hx (hb hby at_113) (rfl : _ = (4607182418800017408 : UInt64)) (rfl : _ = 114) ?_
          refine own_f_dstore X2.here hx (hb hby at_114) (rfl : storeLocals _ _ _ = some #[.val (.long q1), .second, .val (.long q2), .second, .val (.long q3), .second, .val (.long q4), .second, .val (.long q5), .second, .val (.long q6), .second, .val (.ref aP), .val (.int sel), .val (.long vx), .second, .val (.long vy), .second, .val (.long vsx), .second, .val (.long vsy), .second, .val (.long vlx), .second, .val (.long vly), .second, .val (.double (4607182418800017408 : UInt64)), .second, .unset, .unset, .unset, .unset, .unset, .unset]) (rfl : _ = 116) ?_
          refine own_f_aload X2.here hx (hb hby at_116) rfl rfl (rfl : _ = 118) ?_
          refine own_f_lload X2.here hx (hb hby at_118) rfl (rfl : _ = 120) ?_
          refine own_f_l2d X2.here hx (hb hby at_120) rfl (rfl : _ = 121) ?_
          refine own_f_dload X2.here hx (hb hby at_121) rfl (rfl : _ = 123) ?_
          refine own_f_dmul X2.here hx (hb hby at_123) (own_noNaN m_x) rfl (rfl : _ = 124) ?_
          refine own_f_lload X2.here hx (hb hby at_124) rfl (rfl : _ = 126) ?_
          refine own_f_l2d X2.here hx (hb hby at_126) rfl (rfl : _ = 127) ?_
          refine own_f_dload X2.here hx (hb hby at_127) rfl (rfl : _ = 129) ?_
          refine own_f_dmul X2.here hx (hb hby at_129) (own_noNaN m_y) rfl (rfl : _ = 130) ?_
          refine own_f_lload X2.here hx (hb hby at_130) rfl (rfl : _ = 132) ?_
          refine own_f_l2d X2.here hx (hb hby at_132) rfl (rfl : _ = 133) ?_
          refine own_f_dload X2.here hx (hb hby at_133) rfl (rfl : _ = 135) ?_
          refine own_f_dmul X2.here hx (hb hby at_135) (own_noNaN m_sx) rfl (rfl : _ = 136) ?_
          refine own_f_lload X2.here hx (hb hby at_136) rfl (rfl : _ = 138) ?_
          refine own_f_l2d X2.here hx (hb hby at_138) rfl (rfl : _ = 139) ?_
          refine own_f_dload X2.here hx (hb hby at_139) rfl (rfl : _ = 141) ?_
          refine own_f_dmul X2.here hx (hb hby at_141) (own_noNaN m_sy) rfl (rfl : _ = 142) ?_
          refine own_f_lload X2.here hx (hb hby at_142) rfl (rfl : _ = 144) ?_
          refine own_f_l2d X2.here hx (hb hby at_144) rfl (rfl : _ = 145) ?_
          refine own_f_dload X2.here hx (hb hby at_145) rfl (rfl : _ = 147) ?_
          refine own_f_dmul X2.here hx (hb hby at_147) (own_noNaN m_lx) rfl (rfl : _ = 148) ?_
          refine own_f_lload X2.here hx (hb hby at_148) rfl (rfl : _ = 150) ?_
          refine own_f_l2d X2.here hx (hb hby at_150) rfl (rfl : _ = 151) ?_
          refine own_f_dload X2.here hx (hb hby at_151) rfl (rfl : _ = 153) ?_
          refine own_f_dmul X2.here hx (hb hby at_153) (own_noNaN m_ly) rfl (rfl : _ = 154) ?_
          refine st28.trans ?_
          show Steps p.tables e below (T28.setTop (mkF m 157 #[.val (.long q1), .second, .val (.long q2), .second, .val (.long q3), .second, .val (.long q4), .second, .val (.long q5), .second, .val (.long q6), .second, .val (.ref aP), .val (.int sel), .val (.long vx), .second, .val (.long vy), .second, .val (.long vsx), .second, .val (.long vsy), .second, .val (.long vlx), .second, .val (.long vly), .second, .val (.double (4607182418800017408 : UInt64)), .second, .unset, .unset, .unset, .unset, .unset, .unset] [(.int (if (cmpValue (FP.dcmp (FP.dadd (Jvm.Native.java_lang_Math.nans.pick64 true ((FP.dsub (FP.dmul (FP.l2d vsx) (4607182418800017408 : UInt64)) (FP.dmul (FP.l2d vx) (4607182418800017408 : UInt64))) &&& 0x7fffffffffffffff) ((FP.dsub (FP.dmul (FP.l2d vlx) (4607182418800017408 : UInt64)) (FP.dmul (FP.l2d vx) (4607182418800017408 : UInt64))) &&& 0x7fffffffffffffff)) (Jvm.Native.java_lang_Math.nans.pick64 true ((FP.dsub (FP.dmul (FP.l2d vsy) (4607182418800017408 : UInt64)) (FP.dmul (FP.l2d vy) (4607182418800017408 : UInt64))) &&& 0x7fffffffffffffff) ((FP.dsub (FP.dmul (FP.l2d vly) (4607182418800017408 : UInt64)) (FP.dmul (FP.l2d vy) (4607182418800017408 : UInt64))) &&& 0x7fffffffffffffff))) (9214364837600034815 : UInt64)) .g) < 0 then 1 else 0))])) _
          refine own_f_istore X28.here hx (hb hby at_157) (rfl : storeLocals _ _ _ = some #[.val (.long q1), .second, .val (.long q2), .second, .val (.long q3), .second, .val (.long q4), .second, .val (.long q5), .second, .val (.long q6), .second, .val (.ref aP), .val (.int sel), .val (.long vx), .second, .val (.long vy), .second, .val (.long vsx), .second, .val (.long vsy), .second, .val (.long vlx), .second, .val (.long vly), .second, .val (.double (4607182418800017408 : UInt64)), .second, .val (.int (if (cmpValue (FP.dcmp (FP.dadd (Jvm.Native.java_lang_Math.nans.pick64 true ((FP.dsub (FP.dmul (FP.l2d vsx) (4607182418800017408 : UInt64)) (FP.dmul (FP.l2d vx) (4607182418800017408 : UInt64))) &&& 0x7fffffffffffffff) ((FP.dsub (FP.dmul (FP.l2d vlx) (4607182418800017408 : UInt64)) (FP.dmul (FP.l2d vx) (4607182418800017408 : UInt64))) &&& 0x7fffffffffffffff)) (Jvm.Native.java_lang_Math.nans.pick64 true ((FP.dsub (FP.dmul (FP.l2d vsy) (4607182418800017408 : UInt64)) (FP.dmul (FP.l2d vy) (4607182418800017408 : UInt64))) &&& 0x7fffffffffffffff) ((FP.dsub (FP.dmul (FP.l2d vly) (4607182418800017408 : UInt64)) (FP.dmul (FP.l2d vy) (4607182418800017408 : UInt64))) &&& 0x7fffffffffffffff))) (9214364837600034815 : UInt64)) .g) < 0 then 1 else 0)), .unset, .unset, .unset, .unset, .unset]) (rfl : _ = 159) ?_
          refine own_f_lload X28.here hx (hb hby at_159) rfl (rfl : _ = 161) ?_
          refine own_f_lload X28.here hx (hb hby at_161) rfl (rfl : _ = 163) ?_
          refine own_f_lsub X28.here hx (hb hby at_163) rfl (rfl : _ = 164) ?_
          refine st29 _ ?_
          show Steps p.tables e below (T29.setTop (mkF m 167 #[.val (.long q1), .second, .val (.long q2), .second, .val (.long q3), .second, .val (.long q4), .second, .val (.long q5), .second, .val (.long q6), .second, .val (.ref aP), .val (.int sel), .val (.long vx), .second, .val (.long vy), .second, .val (.long vsx), .second, .val (.long vsy), .second, .val (.long vlx), .second, .val (.long vly), .second, .val (.double (4607182418800017408 : UInt64)), .second, .val (.int (if (cmpValue (FP.dcmp (FP.dadd (Jvm.Native.java_lang_Math.nans.pick64 true ((FP.dsub (FP.dmul (FP.l2d vsx) (4607182418800017408 : UInt64)) (FP.dmul (FP.l2d vx) (4607182418800017408 : UInt64))) &&& 0x7fffffffffffffff) ((FP.dsub (FP.dmul (FP.l2d vlx) (4607182418800017408 : UInt64)) (FP.dmul (FP.l2d vx) (4607182418800017408 : UInt64))) &&& 0x7fffffffffffffff)) (Jvm.Native.java_lang_Math.nans.pick64 true ((FP.dsub (FP.dmul (FP.l2d vsy) (4607182418800017408 : UInt64)) (FP.dmul (FP.l2d vy) (4607182418800017408 : UInt64))) &&& 0x7fffffffffffffff) ((FP.dsub (FP.dmul (FP.l2d vly) (4607182418800017408 : UInt64)) (FP.dmul (FP.l2d vy) (4607182418800017408 : UInt64))) &&& 0x7fffffffffffffff))) (9214364837600034815 : UInt64)) .g) < 0 then 1 else 0)), .unset, .unset, .unset, .unset, .unset] [(.long (own_labs (vsx - vx)))])) _
          refine own_f_lload X29.here hx (hb hby at_167) rfl (rfl : _ = 169) ?_
          refine own_f_lload X29.here hx (hb hby at_169) rfl (rfl : _ = 171) ?_
          refine own_f_lsub X29.here hx (hb hby at_171) rfl (rfl : _ = 172) ?_
          refine st30 _ ?_
          show Steps p.tables e below (T30.setTop (mkF m 175 #[.val (.long q1), .second, .val (.long q2), .second, .val (.long q3), .second, .val (.long q4), .second, .val (.long q5), .second, .val (.long q6), .second, .val (.ref aP), .val (.int sel), .val (.long vx), .second, .val (.long vy), .second, .val (.long vsx), .second, .val (.long vsy), .second, .val (.long vlx), .second, .val (.long vly), .second, .val (.double (4607182418800017408 : UInt64)), .second, .val (.int (if (cmpValue (FP.dcmp (FP.dadd (Jvm.Native.java_lang_Math.nans.pick64 true ((FP.dsub (FP.dmul (FP.l2d vsx) (4607182418800017408 : UInt64)) (FP.dmul (FP.l2d vx) (4607182418800017408 : UInt64))) &&& 0x7fffffffffffffff) ((FP.dsub (FP.dmul (FP.l2d vlx) (4607182418800017408 : UInt64)) (FP.dmul (FP.l2d vx) (4607182418800017408 : UInt64))) &&& 0x7fffffffffffffff)) (Jvm.Native.java_lang_Math.nans.pick64 true ((FP.dsub (FP.dmul (FP.l2d vsy) (4607182418800017408 : UInt64)) (FP.dmul (FP.l2d vy) (4607182418800017408 : UInt64))) &&& 0x7fffffffffffffff) ((FP.dsub (FP.dmul (FP.l2d vly) (4607182418800017408 : UInt64)) (FP.dmul (FP.l2d vy) (4607182418800017408 : UInt64))) &&& 0x7fffffffffffffff))) (9214364837600034815 : UInt64)) .g) < 0 then 1 else 0)), .unset, .unset, .unset, .unset, .unset] [(.long (own_labs (vlx - vx))), (.long (own_labs (vsx - vx)))])) _
          refine st31 _ ?_
          show Steps p.tables e below (T31.setTop (mkF m 178 #[.val (.long q1), .second, .val (.long q2), .second, .val (.long q3), .second, .val (.long q4), .second, .val (.long q5), .second, .val (.long q6), .second, .val (.ref aP), .val (.int sel), .val (.long vx), .second, .val (.long vy), .second, .val (.long vsx), .second, .val (.long vsy), .second, .val (.long vlx), .second, .val (.long vly), .second, .val (.double (4607182418800017408 : UInt64)), .second, .val (.int (if (cmpValue (FP.dcmp (FP.dadd (Jvm.Native.java_lang_Math.nans.pick64 true ((FP.dsub (FP.dmul (FP.l2d vsx) (4607182418800017408 : UInt64)) (FP.dmul (FP.l2d vx) (4607182418800017408 : UInt64))) &&& 0x7fffffffffffffff) ((FP.dsub (FP.dmul (FP.l2d vlx) (4607182418800017408 : UInt64)) (FP.dmul (FP.l2d vx) (4607182418800017408 : UInt64))) &&& 0x7fffffffffffffff)) (Jvm.Native.java_lang_Math.nans.pick64 true ((FP.dsub (FP.dmul (FP.l2d vsy) (4607182418800017408 : UInt64)) (FP.dmul (FP.l2d vy) (4607182418800017408 : UInt64))) &&& 0x7fffffffffffffff) ((FP.dsub (FP.dmul (FP.l2d vly) (4607182418800017408 : UInt64)) (FP.dmul (FP.l2d vy) (4607182418800017408 : UInt64))) &&& 0x7fffffffffffffff))) (9214364837600034815 : UInt64)) .g) < 0 then 1 else 0)), .unset, .unset, .unset, .unset, .unset] [(.long (own_lmax (own_labs (vsx - vx)) (own_labs (vlx - vx))))])) _
          refine own_f_lload X31.here hx (hb hby at_178) rfl (rfl : _ = 180) ?_
          refine own_f_lload X31.here hx (hb hby at_180) rfl (rfl : _ = 182) ?_
          refine own_f_lsub X31.here hx (hb hby at_182) rfl (rfl : _ = 183) ?_
          refine st32 _ ?_
          show Steps p.tables e below (T32.setTop (mkF m 186 #[.val (.long q1), .second, .val (.long q2), .second, .val (.long q3), .second, .val (.long q4), .second, .val (.long q5), .second, .val (.long q6), .second, .val (.ref aP), .val (.int sel), .val (.long vx), .second, .val (.long vy), .second, .val (.long vsx), .second, .val (.long vsy), .second, .val (.long vlx), .second, .val (.long vly), .second, .val (.double (4607182418800017408 : UInt64)), .second, .val (.int (if (cmpValue (FP.dcmp (FP.dadd (Jvm.Native.java_lang_Math.nans.pick64 true ((FP.dsub (FP.dmul (FP.l2d vsx) (4607182418800017408 : UInt64)) (FP.dmul (FP.l2d vx) (4607182418800017408 : UInt64))) &&& 0x7fffffffffffffff) ((FP.dsub (FP.dmul (FP.l2d vlx) (4607182418800017408 : UInt64)) (FP.dmul (FP.l2d vx) (4607182418800017408 : UInt64))) &&& 0x7fffffffffffffff)) (Jvm.Native.java_lang_Math.nans.pick64 true ((FP.dsub (FP.dmul (FP.l2d vsy) (4607182418800017408 : UInt64)) (FP.dmul (FP.l2d vy) (4607182418800017408 : UInt64))) &&& 0x7fffffffffffffff) ((FP.dsub (FP.dmul (FP.l2d vly) (4607182418800017408 : UInt64)) (FP.dmul (FP.l2d vy) (4607182418800017408 : UInt64))) &&& 0x7fffffffffffffff))) (9214364837600034815 : UInt64)) .g) < 0 then 1 else 0)), .unset, .unset, .unset, .unset, .unset] [(.long (own_labs (vsy - vy))), (.long (own_lmax (own_labs (vsx - vx)) (own_labs (vlx - vx))))])) _
          refine own_f_lload X32.here hx (hb hby at_186) rfl (rfl : _ = 188) ?_
          refine own_f_lload X32.here hx (hb hby at_188) rfl (rfl : _ = 190) ?_
          refine own_f_lsub X32.here hx (hb hby at_190) rfl (rfl : _ = 191) ?_
          refine st33 _ ?_
          show Steps p.tables e below (T33.setTop (mkF m 194 #[.val (.long q1), .second, .val (.long q2), .second, .val (.long q3), .second, .val (.long q4), .second, .val (.long q5), .second, .val (.long q6), .second, .val (.ref aP), .val (.int sel), .val (.long vx), .second, .val (.long vy), .second, .val (.long vsx), .second, .val (.long vsy), .second, .val (.long vlx), .second, .val (.long vly), .second, .val (.double (4607182418800017408 : UInt64)), .second, .val (.int (if (cmpValue (FP.dcmp (FP.dadd (Jvm.Native.java_lang_Math.nans.pick64 true ((FP.dsub (FP.dmul (FP.l2d vsx) (4607182418800017408 : UInt64)) (FP.dmul (FP.l2d vx) (4607182418800017408 : UInt64))) &&& 0x7fffffffffffffff) ((FP.dsub (FP.dmul (FP.l2d vlx) (4607182418800017408 : UInt64)) (FP.dmul (FP.l2d vx) (4607182418800017408 : UInt64))) &&& 0x7fffffffffffffff)) (Jvm.Native.java_lang_Math.nans.pick64 true ((FP.dsub (FP.dmul (FP.l2d vsy) (4607182418800017408 : UInt64)) (FP.dmul (FP.l2d vy) (4607182418800017408 : UInt64))) &&& 0x7fffffffffffffff) ((FP.dsub (FP.dmul (FP.l2d vly) (4607182418800017408 : UInt64)) (FP.dmul (FP.l2d vy) (4607182418800017408 : UInt64))) &&& 0x7fffffffffffffff))) (9214364837600034815 : UInt64)) .g) < 0 then 1 else 0)), .unset, .unset, .unset, .unset, .unset] [(.long (own_labs (vly - vy))), (.long (own_labs (vsy - vy))), (.long (own_lmax (own_labs (vsx - vx)) (own_labs (vlx - vx))))])) _
          refine st34 _ ?_
          show Steps p.tables e below (T34.setTop (mkF m 197 #[.val (.long q1), .second, .val (.long q2), .second, .val (.long q3), .second, .val (.long q4), .second, .val (.long q5), .second, .val (.long q6), .second, .val (.ref aP), .val (.int sel), .val (.long vx), .second, .val (.long vy), .second, .val (.long vsx), .second, .val (.long vsy), .second, .val (.long vlx), .second, .val (.long vly), .second, .val (.double (4607182418800017408 : UInt64)), .second, .val (.int (if (cmpValue (FP.dcmp (FP.dadd (Jvm.Native.java_lang_Math.nans.pick64 true ((FP.dsub (FP.dmul (FP.l2d vsx) (4607182418800017408 : UInt64)) (FP.dmul (FP.l2d vx) (4607182418800017408 : UInt64))) &&& 0x7fffffffffffffff) ((FP.dsub (FP.dmul (FP.l2d vlx) (4607182418800017408 : UInt64)) (FP.dmul (FP.l2d vx) (4607182418800017408 : UInt64))) &&& 0x7fffffffffffffff)) (Jvm.Native.java_lang_Math.nans.pick64 true ((FP.dsub (FP.dmul (FP.l2d vsy) (4607182418800017408 : UInt64)) (FP.dmul (FP.l2d vy) (4607182418800017408 : UInt64))) &&& 0x7fffffffffffffff) ((FP.dsub (FP.dmul (FP.l2d vly) (4607182418800017408 : UInt64)) (FP.dmul (FP.l2d vy) (4607182418800017408 : UInt64))) &&& 0x7fffffffffffffff))) (9214364837600034815 : UInt64)) .g) < 0 then 1 else 0)), .unset, .unset, .unset, .unset, .unset] [(.long (own_lmax (own_labs (vsy - vy)) (own_labs (vly - vy)))), (.long (own_lmax (own_labs (vsx - vx)) (own_labs (vlx - vx))))])) _
          refine own_f_ladd X34.here hx (hb hby at_197) rfl (rfl : _ = 198) ?_
          refine own_f_lstore X34.here hx (hb hby at_198) (rfl : storeLocals _ _ _ = some #[.val (.long q1), .second, .val (.long q2), .second, .val (.long q3), .second, .val (.long q4), .second, .val (.long q5), .second, .val (.long q6), .second, .val (.ref aP), .val (.int sel), .val (.long vx), .second, .val (.long vy), .second, .val (.long vsx), .second, .val (.long vsy), .second, .val (.long vlx), .second, .val (.long vly), .second, .val (.double (4607182418800017408 : UInt64)), .second, .val (.int (if (cmpValue (FP.dcmp (FP.dadd (Jvm.Native.java_lang_Math.nans.pick64 true ((FP.dsub (FP.dmul (FP.l2d vsx) (4607182418800017408 : UInt64)) (FP.dmul (FP.l2d vx) (4607182418800017408 : UInt64))) &&& 0x7fffffffffffffff) ((FP.dsub (FP.dmul (FP.l2d vlx) (4607182418800017408 : UInt64)) (FP.dmul (FP.l2d vx) (4607182418800017408 : UInt64))) &&& 0x7fffffffffffffff)) (Jvm.Native.java_lang_Math.nans.pick64 true ((FP.dsub (FP.dmul (FP.l2d vsy) (4607182418800017408 : UInt64)) (FP.dmul (FP.l2d vy) (4607182418800017408 : UInt64))) &&& 0x7fffffffffffffff) ((FP.dsub (FP.dmul (FP.l2d vly) (4607182418800017408 : UInt64)) (FP.dmul (FP.l2d vy) (4607182418800017408 : UInt64))) &&& 0x7fffffffffffffff))) (9214364837600034815 : UInt64)) .g) < 0 then 1 else 0)), .val (.long ((own_lmax (own_labs (vsx - vx)) (own_labs (vlx - vx))) + (own_lmax (own_labs (vsy - vy)) (own_labs (vly - vy))))), .second, .unset, .unset, .unset]) (rfl : _ = 200) ?_
          refine own_f_ldc2Long X34 hx hown (mvT hZ (hw _ (List.mem_of_getElem? (i := 23) rfl))) (hb hby at_200) (rfl : _ = 203) ?_
          refine own_f_lstore X34.here hx (hb hby at_203) (rfl : storeLocals _ _ _ = some #[.val (.long q1), .second, .val (.long q2), .second, .val (.long q3), .second, .val (.long q4), .second, .val (.long q5), .second, .val (.long q6), .second, .val (.ref aP), .val (.int sel), .val (.long vx), .second, .val (.long vy), .second, .val (.long vsx), .second, .val (.long vsy), .second, .val (.long vlx), .second, .val (.long vly), .second, .val (.double (4607182418800017408 : UInt64)), .second, .val (.int (if (cmpValue (FP.dcmp (FP.dadd (Jvm.Native.java_lang_Math.nans.pick64 true ((FP.dsub (FP.dmul (FP.l2d vsx) (4607182418800017408 : UInt64)) (FP.dmul (FP.l2d vx) (4607182418800017408 : UInt64))) &&& 0x7fffffffffffffff) ((FP.dsub (FP.dmul (FP.l2d vlx) (4607182418800017408 : UInt64)) (FP.dmul (FP.l2d vx) (4607182418800017408 : UInt64))) &&& 0x7fffffffffffffff)) (Jvm.Native.java_lang_Math.nans.pick64 true ((FP.dsub (FP.dmul (FP.l2d vsy) (4607182418800017408 : UInt64)) (FP.dmul (FP.l2d vy) (4607182418800017408 : UInt64))) &&& 0x7fffffffffffffff) ((FP.dsub (FP.dmul (FP.l2d vly) (4607182418800017408 : UInt64)) (FP.dmul (FP.l2d vy) (4607182418800017408 : UInt64))) &&& 0x7fffffffffffffff))) (9214364837600034815 : UInt64)) .g) < 0 then 1 else 0)), .val (.long ((own_lmax (own_labs (vsx - vx)) (own_labs (vlx - vx))) + (own_lmax (own_labs (vsy - vy)) (own_labs (vly - vy))))), .second, .val (.long (9007199254740991 : Int64)), .second, .unset]) (rfl : _ = 205) ?_
          refine own_f_iload X34.here hx (hb hby at_205) rfl (rfl : _ = 207) ?_
          refine own_f_iconst X34.here hx (hb hby at_207) (rfl : _ = (1 : Int32)) (rfl : _ = 208) ?_
          refine own_f_icmpYes X34.here hx (hb hby at_208) (feq (h1)).2 (by decide) (by decide : _ = 229) ?_
          refine own_f_iload X34.here hx (hb hby at_229) rfl (rfl : _ = 231) ?_
          refine own_f_iconst X34.here hx (hb hby at_231) (rfl : _ = (2 : Int32)) (rfl : _ = 232) ?_
          refine own_f_icmpYes X34.here hx (hb hby at_232) (feq (h2)).2 (by decide) (by decide : _ = 257) ?_
          refine own_f_iconst X34.here hx (hb hby at_257) (rfl : _ = (1 : Int32)) (rfl : _ = 258) ?_
          refine own_f_istore X34.here hx (hb hby at_258) (rfl : storeLocals _ _ _ = some #[.val (.long q1), .second, .val (.long q2), .second, .val (.long q3), .second, .val (.long q4), .second, .val (.long q5), .second, .val (.long q6), .second, .val (.ref aP), .val (.int sel), .val (.long vx), .second, .val (.long vy), .second, .val (.long vsx), .second, .val (.long vsy), .second, .val (.long vlx), .second, .val (.long vly), .second, .val (.double (4607182418800017408 : UInt64)), .second, .val (.int (if (cmpValue (FP.dcmp (FP.dadd (Jvm.Native.java_lang_Math.nans.pick64 true ((FP.dsub (FP.dmul (FP.l2d vsx) (4607182418800017408 : UInt64)) (FP.dmul (FP.l2d vx) (4607182418800017408 : UInt64))) &&& 0x7fffffffffffffff) ((FP.dsub (FP.dmul (FP.l2d vlx) (4607182418800017408 : UInt64)) (FP.dmul (FP.l2d vx) (4607182418800017408 : UInt64))) &&& 0x7fffffffffffffff)) (Jvm.Native.java_lang_Math.nans.pick64 true ((FP.dsub (FP.dmul (FP.l2d vsy) (4607182418800017408 : UInt64)) (FP.dmul (FP.l2d vy) (4607182418800017408 : UInt64))) &&& 0x7fffffffffffffff) ((FP.dsub (FP.dmul (FP.l2d vly) (4607182418800017408 : UInt64)) (FP.dmul (FP.l2d vy) (4607182418800017408 : UInt64))) &&& 0x7fffffffffffffff))) (9214364837600034815 : UInt64)) .g) < 0 then 1 else 0)), .val (.long ((own_lmax (own_labs (vsx - vx)) (own_labs (vlx - vx))) + (own_lmax (own_labs (vsy - vy)) (own_labs (vly - vy))))), .second, .val (.long (9007199254740991 : Int64)), .second, .val (.int (1 : Int32))]) (rfl : _ = 260) ?_
          refine own_f_iload X34.here hx (hb hby at_260) rfl (rfl : _ = 262) ?_
          refine own_f_iload X34.here hx (hb hby at_262) rfl (rfl : _ = 264) ?_
          refine own_f_icmpNo X34.here hx (hb hby at_264) (teq (if_pos hres)).2 (rfl : _ = 267) ?_
          refine own_f_iconst X34.here hx (hb hby at_267) (rfl : _ = (1 : Int32)) (rfl : _ = 268) ?_
          refine own_f_goto X34.here hx (hb hby at_268) (by decide) (by decide : _ = 272) ?_
          exact retN X34 hx (t := .boolean) Bd.returns (by simp) (hb hby at_272) hr
        · show Q0 Z q1 q2 q3 q4 q5 q6 aG aP h0 n0 _ T34.heap _
          rw [e34]
          exact ⟨rfl, N34⟩
set_option maxRecDepth 65536 in
set_option maxHeartbeats 40000000 in
theorem comes_1 {Post : Tables → Env → Array Value → State → Outcome → State → Prop} (hpost : ∀ tb e args s v u, (limb_1_1.after args s (.returned v) u = true ∧ limb_1_2.after args s (.returned v) u = true ∧ True) → FrameEnd s (.returned v) u (Jvm.fieldLocs frame_1_writes args s ++ Jvm.arrayLocs frame_1_arrays args s ++ Jvm.staticLocs frame_1_statics s) 0 0 → Post tb e args s (.returned v) u) :
    ArmFor flags0 classFile x code maxLocals ret World_1 tables_1 room_1 Calls_1 rest_1 Pre_1 Post := by
  intro l hfl _ _ p e ha hc hk s m args below hf hA hF happ hP
  obtain ⟨hcalls, hrest, hpre⟩ := hP
  obtain ⟨-, -, -, hnamed, -, -, -, hat⟩ := (Spec.applies_iff hf).mp happ
  obtain ⟨hg, hn⟩ := and_e (Cond.before_iff.mp (show (Jvm.Cond.and given_1 narrow_1).before args s = true from hpre))
  obtain ⟨gc, gr0⟩ := and_e hg
  obtain ⟨g0, gr1⟩ := and_e gr0
  obtain ⟨g1, gr2⟩ := and_e gr1
  obtain ⟨g2, gr3⟩ := and_e gr2
  obtain ⟨g3, gr4⟩ := and_e gr3
  obtain ⟨g4, gr5⟩ := and_e gr4
  have g5 := gr5
  obtain ⟨w0, w1, w2, w3, w4, w5, rfl⟩ : ∃ w0 w1 w2 w3 w4 w5 : Value, args = #[w0, w1, w2, w3, w4, w5] := by
    have hs : args.size = 6 := by simpa [Cond.value, given_1] using gc
    obtain ⟨L⟩ := args
    match L, hs with
    | [w0, w1, w2, w3, w4, w5], _ => exact ⟨w0, w1, w2, w3, w4, w5, rfl⟩
  have hw := fun d (hd : d ∈ tables_1) => atoms_spec (ws := Jvm.Cond.code x code maxLocals ret :: tables_1) hat d (List.mem_cons_of_mem _ hd)
  have hfit : Fit s := fun {y c} hc i hi => by
    obtain ⟨ha, rfl⟩ := Array.getElem?_eq_some_iff.mp hc
    have q := List.all_eq_true.mp ((Array.all_eq_true_iff_forall_mem.mp hF) _ (Array.getElem_mem ha)) i (List.mem_range.mpr hi)
    simpa [Array.getElem?_eq_getElem hi] using q
  obtain ⟨i0, ei0⟩ := isL_v g0
  obtain rfl : w0 = (.long i0) := Option.some.inj ei0
  obtain ⟨i1, ei1⟩ := isL_v g1
  obtain rfl : w1 = (.long i1) := Option.some.inj ei1
  obtain ⟨i2, ei2⟩ := isL_v g2
  obtain rfl : w2 = (.long i2) := Option.some.inj ei2
  obtain ⟨i3, ei3⟩ := isL_v g3
  obtain rfl : w3 = (.long i3) := Option.some.inj ei3
  obtain ⟨i4, ei4⟩ := isL_v g4
  obtain rfl : w4 = (.long i4) := Option.some.inj ei4
  obtain ⟨i5, ei5⟩ := isL_v g5
  obtain rfl : w5 = (.long i5) := Option.some.inj ei5
  obtain ⟨n1, n2⟩ := and_e hn
  obtain ⟨aG, evG⟩ := exa_v n1
  have ExG := Exa.start evG n1
  have StG := Sta.start evG (Or.inr ⟨(hw _ (List.mem_of_getElem? (i := 1) rfl)), (hw _ (List.mem_of_getElem? (i := 2) rfl))⟩)
  obtain ⟨aP, evP⟩ := exa_v n2
  have ExP := Exa.start evP n2
  have StP := Sta.start evP (Or.inr ⟨(hw _ (List.mem_of_getElem? (i := 1) rfl)), (hw _ (List.mem_of_getElem? (i := 25) rfl))⟩)
  obtain ⟨n, o, h1, h2, h3, _, L, rfl, ⟨rfl, N⟩, hq⟩ := rm0 l s _ hw tables_1 i0 i1 i2 i3 i4 i5 aG aP s.heap s.heap.size (Nat.le_refl _) StG StP ExG ExP p e ha hc hk s m _ below hf ((Spec.applies_iff_loose hf).mp happ).1 ⟨rfl, State.Warmed39.refl s, rfl⟩ trivial
  refine ⟨n, _, h1, h2, h3, hpost _ _ _ _ _ _ ⟨Cond.after_iff.mpr rfl, Cond.after_iff.mpr (eq_i res_at (Term.int_eval (1)) rfl), trivial⟩ ⟨hq.1, hq.2.1, (hq.2.2.sift fun y hy => Or.inr (N y hy)).mono (by decide) (by decide)⟩⟩
theorem main_1_1 : Claimed_1_1 := comes_1 fun _ _ _ _ _ _ h hF => ⟨h.1, hF⟩
theorem main_1_2 : Claimed_1_2 := comes_1 fun _ _ _ _ _ _ h hF => ⟨h.2.1, hF⟩
end Jvm.Pilot.@@N@@
namespace Jvm.Pilot.@@N@@
open Jvm Jvm.ClassFile Sem Op Lib Jvm.Free Jvm.Stand Jvm.Pilot.@@N@@.Jvm.D
/-! MADE BY PROGRAM (witnessworld.py) out of the Statement's table words and the real class files: 15 classes; the members and pool entries that the words name. The judged class is class 1, her method 1. -/
namespace start1
open Jvm.ClassFile
def u (s : String) : CpInfo := .utf8 (stringToUtf16 s)
/-- a pool by its gaps: so many unusable entries, then the entry; so many at the end -/
def gap : Nat → List CpInfo → List CpInfo
  | 0, r => r
  | n + 1, r => .unusable :: gap n r
def poolList (es : List (Nat × CpInfo)) (last : Nat) : List CpInfo := es.foldr (fun e r => gap e.1 (e.2 :: r)) (gap last [])
def pool (es : List (Nat × CpInfo)) (last : Nat) : Array CpInfo := ⟨poolList es last⟩
def fileOf (pool : Array CpInfo) (this : Nat) (attrs : Array Attribute := #[]) (ms : Array MethodInfo := #[]) (fl : Nat := 33) (sup : Nat := 0) (ifs : Array Nat := #[]) (fds : Array FieldInfo := #[]) : ClassFile where
  minorVersion := 0
  majorVersion := 65
  constantPool := pool
  accessFlags := fl
  thisClass := this
  superClass := sup
  interfaces := ifs
  fields := fds
  methods := ms
  attributes := attrs
def plain (name : String) (sup : Option ClassId) : Class where
  name := name
  kind := .ordinary
  loader := none
  accessFlags := 33
  super := sup
  interfaces := #[]
  cf := none
  fields := #[]
  methods := #[]
  instanceTypes := #[]
  staticTypes := #[]
  resolved := #[]
  callSites := []
  init := .initialized
  statics := none
  mirror := none

def pool0 : Array CpInfo := pool [(5, u "<init>"), (0, u "()V"), (1, .class_ 10), (1, u "java/lang/Object")] 113

def k0m0 : Method := { name := "<init>", desc := "()V", sig := { parameters := [], returnType := none }, accessFlags := 1, code := none }
/-- java/lang/Object -/
def k0 : Class := { plain "java/lang/Object" none with
  accessFlags := 33
  interfaces := #[]
  cf := some (fileOf pool0 8 #[] #[{ accessFlags := 1, nameIndex := 5, descriptorIndex := 6, attributes := #[] }] 33 0 #[] #[])
  fields := #[]
  methods := #[k0m0]
  instanceTypes := #[]
  staticTypes := #[]
  resolved := Array.replicate 124 none
  statics := none }

def pool1 : Array CpInfo := pool [(2, .class_ 4), (1, u "java/lang/Object"), (0, u "<init>"), (0, u "()V"), (0, .fieldref 8 9), (0, .class_ 10), (0, .nameAndType 11 12), (0, u "com/example/honeyguide/honeyguide/CoordinateSystem"), (0, u "GEOGRAPHIC"), (0, u "Lcom/example/honeyguide/honeyguide/CoordinateSystem;"), (0, .fieldref 8 14), (0, .nameAndType 15 12), (0, u "PLANAR"), (0, .long 3), (1, .double 8975674057349398528), (1, .double 8980177656976769024), (1, .methodref 8 23), (0, .nameAndType 24 25), (0, u "measurable"), (0, u "(DDDDDD)Z"), (0, .methodref 27 28), (0, .class_ 29), (0, .nameAndType 30 31), (0, u "java/lang/Math"), (0, u "abs"), (0, u "(J)J"), (0, .methodref 27 33), (0, .nameAndType 34 35), (0, u "max"), (0, u "(JJ)J"), (0, .long 9007199254740991), (1, .long 2), (1, .class_ 41), (0, u "com/example/honeyguide/honeyguide/CoordinateSystemMeasurablePinLaw"), (2, u "law"), (0, u "(JJJJJJ)Z")] 3

def k1m0 : Method := { name := "<init>", desc := "()V", sig := { parameters := [], returnType := none }, accessFlags := 1, code := none }
def k1c1 : Code := { maxStack := 15, maxLocals := 34, code := code, exceptionTable := #[], attributes := #[] }
def k1m1 : Method := { name := "law", desc := "(JJJJJJ)Z", sig := { parameters := [.long, .long, .long, .long, .long, .long], returnType := some .boolean }, accessFlags := 9, code := some k1c1 }
/-- com/example/honeyguide/honeyguide/CoordinateSystemMeasurablePinLaw -/
def k1 : Class := { plain "com/example/honeyguide/honeyguide/CoordinateSystemMeasurablePinLaw" (some 0) with
  accessFlags := 49
  interfaces := #[]
  cf := some (fileOf pool1 40 #[] #[{ accessFlags := 1, nameIndex := 5, descriptorIndex := 6, attributes := #[] }, { accessFlags := 9, nameIndex := 44, descriptorIndex := 45, attributes := #[] }] 49 2 #[] #[])
  fields := #[]
  methods := #[k1m0, k1m1]
  instanceTypes := #[]
  staticTypes := #[]
  resolved := Array.replicate 49 none
  statics := none }

def pool2 : Array CpInfo := pool [(1, .class_ 2), (0, u "java/lang/constant/Constable"), (0, .class_ 4), (0, u "java/lang/Object")] 6

/-- java/lang/constant/Constable -/
def k2 : Class := { plain "java/lang/constant/Constable" (some 0) with
  accessFlags := 1537
  interfaces := #[]
  cf := some (fileOf pool2 1 #[] #[] 1537 3 #[] #[])
  fields := #[]
  methods := #[]
  instanceTypes := #[]
  staticTypes := #[]
  resolved := Array.replicate 11 none
  statics := none }

def pool3 : Array CpInfo := pool [(1, .class_ 2), (0, u "java/lang/Comparable"), (0, .class_ 4), (0, u "java/lang/Object")] 7

/-- java/lang/Comparable -/
def k3 : Class := { plain "java/lang/Comparable" (some 0) with
  accessFlags := 1537
  interfaces := #[]
  cf := some (fileOf pool3 1 #[] #[] 1537 3 #[] #[])
  fields := #[]
  methods := #[]
  instanceTypes := #[]
  staticTypes := #[]
  resolved := Array.replicate 12 none
  statics := none }

def pool4 : Array CpInfo := pool [(1, .class_ 2), (0, u "java/io/Serializable"), (0, .class_ 4), (0, u "java/lang/Object")] 2

/-- java/io/Serializable -/
def k4 : Class := { plain "java/io/Serializable" (some 0) with
  accessFlags := 1537
  interfaces := #[]
  cf := some (fileOf pool4 1 #[] #[] 1537 3 #[] #[])
  fields := #[]
  methods := #[]
  instanceTypes := #[]
  staticTypes := #[]
  resolved := Array.replicate 7 none
  statics := none }

def pool5 : Array CpInfo := pool [(2, .class_ 4), (1, u "java/lang/Enum"), (0, u "name"), (0, u "Ljava/lang/String;"), (2, u "ordinal"), (0, u "I"), (1, .class_ 14), (1, u "java/lang/Object"), (4, u "hash"), (86, .class_ 108), (1, u "java/lang/Enum$EnumDesc"), (2, .class_ 112), (0, u "java/lang/constant/Constable"), (0, .class_ 114), (0, u "java/lang/Comparable"), (0, .class_ 116), (0, u "java/io/Serializable")] 87

/-- java/lang/Enum -/
def k5 : Class := { plain "java/lang/Enum" (some 0) with
  accessFlags := 1057
  interfaces := #[2, 3, 4]
  cf := some (fileOf pool5 2 #[.nestMembers #[106]] #[] 1057 12 #[111, 113, 115] #[{ accessFlags := 18, nameIndex := 5, descriptorIndex := 6, attributes := #[] }, { accessFlags := 18, nameIndex := 9, descriptorIndex := 10, attributes := #[] }, { accessFlags := 2, nameIndex := 19, descriptorIndex := 10, attributes := #[] }])
  fields := #[{ name := "name", type := (.object "java/lang/String"), accessFlags := 18, slot := 0, constantValue := 0 }, { name := "ordinal", type := .int, accessFlags := 18, slot := 1, constantValue := 0 }, { name := "hash", type := .int, accessFlags := 2, slot := 2, constantValue := 0 }]
  methods := #[]
  instanceTypes := #[(.object "java/lang/String"), .int, .int]
  staticTypes := #[]
  resolved := Array.replicate 204 none
  statics := none }

def pool6 : Array CpInfo := pool [(1, .class_ 2), (0, u "com/example/honeyguide/honeyguide/CoordinateSystem"), (2, u "GEOGRAPHIC"), (0, u "Lcom/example/honeyguide/honeyguide/CoordinateSystem;"), (2, u "PLANAR"), (2, u "$VALUES"), (0, u "[Lcom/example/honeyguide/honeyguide/CoordinateSystem;"), (6, .class_ 22), (1, u "java/lang/Enum"), (6, .methodref 30 31), (0, .class_ 32), (0, .nameAndType 33 34), (0, u "java/lang/Math"), (0, u "abs"), (0, u "(D)D"), (0, .methodref 30 36), (0, .nameAndType 37 38), (0, u "max"), (0, u "(DD)D"), (2, .double 9214364837600034815), (30, .class_ 73), (0, u "com/example/honeyguide/honeyguide/CoordinateSystem$1"), (2, .class_ 77), (0, u "com/example/honeyguide/honeyguide/CoordinateSystem$2"), (6, u "EARTH_RADIUS_METRES"), (0, u "D"), (15, u "measurable"), (0, u "(DDDDDD)Z")] 28

def k6c0 : Code := { maxStack := 6, maxLocals := 17, code := prog_4_method_7_code, exceptionTable := #[], attributes := #[] }
def k6m0 : Method := { name := "measurable", desc := "(DDDDDD)Z", sig := { parameters := [.double, .double, .double, .double, .double, .double], returnType := some .boolean }, accessFlags := 0, code := some k6c0 }
/-- com/example/honeyguide/honeyguide/CoordinateSystem -/
def k6 : Class := { plain "com/example/honeyguide/honeyguide/CoordinateSystem" (some 5) with
  accessFlags := 17441
  interfaces := #[]
  cf := some (fileOf pool6 1 #[.nestMembers #[76, 72]] #[{ accessFlags := 0, nameIndex := 101, descriptorIndex := 102, attributes := #[] }] 17441 20 #[] #[{ accessFlags := 16409, nameIndex := 5, descriptorIndex := 6, attributes := #[] }, { accessFlags := 16409, nameIndex := 9, descriptorIndex := 6, attributes := #[] }, { accessFlags := 25, nameIndex := 84, descriptorIndex := 85, attributes := #[] }, { accessFlags := 4122, nameIndex := 12, descriptorIndex := 13, attributes := #[] }])
  fields := #[{ name := "GEOGRAPHIC", type := (.object "com/example/honeyguide/honeyguide/CoordinateSystem"), accessFlags := 16409, slot := 0, constantValue := 0 }, { name := "PLANAR", type := (.object "com/example/honeyguide/honeyguide/CoordinateSystem"), accessFlags := 16409, slot := 1, constantValue := 0 }, { name := "EARTH_RADIUS_METRES", type := .double, accessFlags := 25, slot := 2, constantValue := 0 }, { name := "$VALUES", type := (.array (.object "com/example/honeyguide/honeyguide/CoordinateSystem")), accessFlags := 4122, slot := 3, constantValue := 0 }]
  methods := #[k6m0]
  instanceTypes := #[(.object "java/lang/String"), .int, .int]
  staticTypes := #[(.object "com/example/honeyguide/honeyguide/CoordinateSystem"), (.object "com/example/honeyguide/honeyguide/CoordinateSystem"), .double, (.array (.object "com/example/honeyguide/honeyguide/CoordinateSystem"))]
  resolved := Array.replicate 131 none
  statics := some 0 }

def pool7 : Array CpInfo := pool [(2, .class_ 4), (1, u "com/example/honeyguide/honeyguide/CoordinateSystem"), (58, .class_ 64), (0, u "com/example/honeyguide/honeyguide/CoordinateSystem$1")] 31

/-- com/example/honeyguide/honeyguide/CoordinateSystem$1 -/
def k7 : Class := { plain "com/example/honeyguide/honeyguide/CoordinateSystem$1" (some 6) with
  accessFlags := 16432
  interfaces := #[]
  cf := some (fileOf pool7 63 #[.nestHost 2] #[] 16432 2 #[] #[])
  fields := #[]
  methods := #[]
  instanceTypes := #[(.object "java/lang/String"), .int, .int]
  staticTypes := #[]
  resolved := Array.replicate 96 none
  statics := none }

def pool8 : Array CpInfo := pool [(1, .class_ 2), (0, u "java/lang/Math"), (1, .class_ 6), (1, u "java/lang/Object"), (0, u "<init>"), (0, u "()V"), (5, u "(D)D"), (37, u "(DD)D"), (45, .class_ 100), (1, u "java/lang/Math$RandomNumberGeneratorHolder"), (20, u "(JJ)J"), (2, u "abs"), (0, u "(J)J"), (46, u "negativeZeroFloatBits"), (0, u "J"), (2, u "negativeZeroDoubleBits"), (21, u "max"), (46, u "$assertionsDisabled"), (0, u "Z"), (91, u "twoToTheDoubleScaleDown"), (0, u "D"), (4, u "twoToTheDoubleScaleUp"), (9, u "E"), (3, u "PI"), (2, u "TAU"), (2, u "DEGREES_TO_RADIANS"), (0, u "RADIANS_TO_DEGREES")] 94

def k8m0 : Method := { name := "<init>", desc := "()V", sig := { parameters := [], returnType := none }, accessFlags := 2, code := none }
def k8c1 : Code := { maxStack := 4, maxLocals := 2, code := jdk_29_method_61_code, exceptionTable := #[], attributes := #[] }
def k8m1 : Method := { name := "abs", desc := "(J)J", sig := { parameters := [.long], returnType := some .long }, accessFlags := 9, code := some k8c1 }
def k8c2 : Code := { maxStack := 4, maxLocals := 2, code := jdk_29_method_64_code, exceptionTable := #[], attributes := #[] }
def k8m2 : Method := { name := "abs", desc := "(D)D", sig := { parameters := [.double], returnType := some .double }, accessFlags := 9, code := some k8c2 }
def k8c3 : Code := { maxStack := 4, maxLocals := 4, code := jdk_29_method_66_code, exceptionTable := #[], attributes := #[] }
def k8m3 : Method := { name := "max", desc := "(JJ)J", sig := { parameters := [.long, .long], returnType := some .long }, accessFlags := 9, code := some k8c3 }
def k8c4 : Code := { maxStack := 4, maxLocals := 4, code := jdk_29_method_68_code, exceptionTable := #[], attributes := #[] }
def k8m4 : Method := { name := "max", desc := "(DD)D", sig := { parameters := [.double, .double], returnType := some .double }, accessFlags := 9, code := some k8c4 }
/-- java/lang/Math -/
def k8 : Class := { plain "java/lang/Math" (some 0) with
  accessFlags := 49
  interfaces := #[]
  cf := some (fileOf pool8 1 #[.nestMembers #[98]] #[{ accessFlags := 2, nameIndex := 7, descriptorIndex := 8, attributes := #[] }, { accessFlags := 9, nameIndex := 124, descriptorIndex := 125, attributes := #[] }, { accessFlags := 9, nameIndex := 124, descriptorIndex := 14, attributes := #[] }, { accessFlags := 9, nameIndex := 198, descriptorIndex := 121, attributes := #[] }, { accessFlags := 9, nameIndex := 198, descriptorIndex := 52, attributes := #[] }] 49 4 #[] #[{ accessFlags := 25, nameIndex := 354, descriptorIndex := 339, attributes := #[] }, { accessFlags := 25, nameIndex := 358, descriptorIndex := 339, attributes := #[] }, { accessFlags := 25, nameIndex := 361, descriptorIndex := 339, attributes := #[] }, { accessFlags := 26, nameIndex := 364, descriptorIndex := 339, attributes := #[] }, { accessFlags := 26, nameIndex := 365, descriptorIndex := 339, attributes := #[] }, { accessFlags := 26, nameIndex := 172, descriptorIndex := 173, attributes := #[] }, { accessFlags := 26, nameIndex := 176, descriptorIndex := 173, attributes := #[] }, { accessFlags := 8, nameIndex := 344, descriptorIndex := 339, attributes := #[] }, { accessFlags := 8, nameIndex := 338, descriptorIndex := 339, attributes := #[] }, { accessFlags := 4120, nameIndex := 245, descriptorIndex := 246, attributes := #[] }])
  fields := #[{ name := "E", type := .double, accessFlags := 25, slot := 0, constantValue := 0 }, { name := "PI", type := .double, accessFlags := 25, slot := 1, constantValue := 0 }, { name := "TAU", type := .double, accessFlags := 25, slot := 2, constantValue := 0 }, { name := "DEGREES_TO_RADIANS", type := .double, accessFlags := 26, slot := 3, constantValue := 0 }, { name := "RADIANS_TO_DEGREES", type := .double, accessFlags := 26, slot := 4, constantValue := 0 }, { name := "negativeZeroFloatBits", type := .long, accessFlags := 26, slot := 5, constantValue := 0 }, { name := "negativeZeroDoubleBits", type := .long, accessFlags := 26, slot := 6, constantValue := 0 }, { name := "twoToTheDoubleScaleUp", type := .double, accessFlags := 8, slot := 7, constantValue := 0 }, { name := "twoToTheDoubleScaleDown", type := .double, accessFlags := 8, slot := 8, constantValue := 0 }, { name := "$assertionsDisabled", type := .boolean, accessFlags := 4120, slot := 9, constantValue := 0 }]
  methods := #[k8m0, k8m1, k8m2, k8m3, k8m4]
  instanceTypes := #[]
  staticTypes := #[.double, .double, .double, .double, .double, .long, .long, .double, .double, .boolean]
  resolved := Array.replicate 460 none
  statics := none }

def pool9 : Array CpInfo := pool [(2, .class_ 4), (1, u "com/example/honeyguide/honeyguide/CoordinateSystem"), (19, .class_ 25), (0, u "com/example/honeyguide/honeyguide/CoordinateSystem$2")] 13

/-- com/example/honeyguide/honeyguide/CoordinateSystem$2 -/
def k9 : Class := { plain "com/example/honeyguide/honeyguide/CoordinateSystem$2" (some 6) with
  accessFlags := 16432
  interfaces := #[]
  cf := some (fileOf pool9 24 #[.nestHost 2] #[] 16432 2 #[] #[])
  fields := #[]
  methods := #[]
  instanceTypes := #[(.object "java/lang/String"), .int, .int]
  staticTypes := #[]
  resolved := Array.replicate 39 none
  statics := none }

def pool10 : Array CpInfo := pool [(1, u "java/lang/Cloneable"), (0, .class_ 1), (0, u "java/lang/Object"), (0, .class_ 3)] 3

/-- java/lang/Cloneable -/
def k10 : Class := { plain "java/lang/Cloneable" (some 0) with
  accessFlags := 1537
  interfaces := #[]
  cf := some (fileOf pool10 2 #[] #[] 1537 4 #[] #[])
  fields := #[]
  methods := #[]
  instanceTypes := #[]
  staticTypes := #[]
  resolved := Array.replicate 8 none
  statics := none }

/-- the primitive byte -/
def k11 : Class := { plain "byte" none with kind := .primitive 'B', accessFlags := 0x411 }
/-- [B -/
def k12 : Class := { plain "[B" (some 0) with kind := .array 11 .byte, interfaces := #[10, 4], accessFlags := 1041 }

/-- the primitive int -/
def k13 : Class := { plain "int" none with kind := .primitive 'I', accessFlags := 0x411 }
/-- [I -/
def k14 : Class := { plain "[I" (some 0) with kind := .array 13 .int, interfaces := #[10, 4], accessFlags := 1041 }

def heap : Heap := #[{ cls := 6, slots := #[.ref 1, .ref 2, .double 0, .null], vm := .statics 6 },
  { cls := 7, slots := #[.null, .int 0, .int 0], vm := .none },
  { cls := 9, slots := #[.null, .int 1, .int 0], vm := .none }]
def classes : Array Class := #[k0, k1, k2, k3, k4, k5, k6, k7, k8, k9, k10, k11, k12, k13, k14]
def interned : List (Array UInt16 × Addr) := []
def slotsUsed : Nat := 10
def theMethod : MethodId := ⟨1, 1⟩
def args0 : Array Value := #[.long 3, .long 4, .long 5, .long 6, .long 7, .long 8]
def aboutOver (below : List Frame) : State where
  vm := { classes := classes, interned := interned.toArray }
  heap := heap
  slotsUsed := slotsUsed
  threads := #[{ frames := .invoking theMethod args0 :: below }]
def below0 : List Frame := [.native { method := ⟨0, 0⟩, args := #[] }]
def about1 : State := aboutOver below0
def p0 : Program := .bare "" "" ""
def e0 : Env := launch0.env 0 0 0
theorem w_frames : about1.frames = Frame.invoking theMethod args0 :: below0 := rfl
set_option maxRecDepth 65536 in
theorem w_args : argsFit about1.vm theMethod args0 = true := by decide +kernel
set_option maxRecDepth 65536 in
theorem w_heap : heapFits about1 = true := by decide +kernel
set_option maxRecDepth 65536 in
theorem w_runnable : about1.curStatus? = some .runnable := by decide +kernel
set_option maxRecDepth 65536 in
theorem w_alone : about1.alone = true := by decide +kernel
set_option maxRecDepth 65536 in
theorem w_named : about1.methodNamed? x = some theMethod := by decide +kernel
set_option maxRecDepth 65536 in
theorem w_hears : about1.hears theMethod below0 = true := by decide +kernel
set_option maxRecDepth 65536 in
theorem w_ripe : about1.ripe theMethod args0 below0 = true := by decide +kernel
theorem w_running : about1.status = .running := rfl
set_option maxRecDepth 65536 in
theorem w_room : about1.hasRoom e0.platform room_1 = true :=
  launch0.hasRoom_least _ room_1 (by decide +kernel) (by decide +kernel) (by decide +kernel) (by decide +kernel) (by decide +kernel) (by decide +kernel)
theorem allAtoms_all (ts : List Jvm.Cond) (a : Array Jvm.Value) (st : Jvm.State) : (allAtoms ts).before a st = ts.all (fun c => c.before a st) := by
  induction ts with
  | nil => rfl
  | cons c t ih =>
    show (Jvm.Cond.and c (allAtoms t)).before a st = _
    rw [Jvm.Cond.before_and, ih, List.all_cons]
def words1 : List Jvm.Cond := Jvm.Cond.code x code maxLocals ret :: tables_1
/-- a 'code' word, met by the world's own term for the bytes: nothing is compared byte by byte -/
theorem code_word {y : MethodName} {bytes : ByteArray} {mx : Nat} {rt : Option FieldType} {a : Array Value} {s : State} {m : MethodId} {meth : Method} {c : Code} (h1 : s.methodNamed? y = some m) (h2 : s.vm.method? m = some meth) (h3 : meth.code = some c) (h4 : c.code = bytes)
    (h5 : (c.maxLocals == mx && c.exceptionTable.isEmpty && decide (c.maxStack ≤ mostOperands) && decide (meth.sig.returnType = rt) && !meth.locks && decide (parseMethodDescriptor y.desc = some meth.sig)) = true) : (Jvm.Cond.code y bytes mx rt).before a s = true := by
  simp only [Bool.and_eq_true, beq_iff_eq, Bool.not_eq_true', decide_eq_true_eq] at h5
  obtain ⟨⟨⟨⟨⟨g1, g2⟩, g3⟩, g4⟩, g5⟩, g6⟩ := h5
  simp [Cond.before, Cond.holds, Cond.value, h1, h2, h3, h4, g1, g2, g3, g4, g5, g6]
def isCode : Jvm.Cond → Bool
  | .code _ _ _ _ => true
  | _ => false
theorem all_split {L : List Jvm.Cond} {P : Jvm.Cond → Bool} (h1 : L.all (fun c => isCode c || P c) = true) (h2 : ∀ c ∈ L.filter isCode, P c = true) : L.all P = true := by
  refine List.all_eq_true.mpr fun c hc => ?_
  have h := List.all_eq_true.mp h1 c hc
  rcases Bool.eq_false_or_eq_true (isCode c) with hi | hi
  · exact h2 c (List.mem_filter.mpr ⟨hc, hi⟩)
  · simpa [hi] using h
set_option maxRecDepth 65536 in
theorem w_c0 : (Jvm.Cond.code x code maxLocals ret).before args0 about1 = true := code_word (m := ⟨1, 1⟩) (meth := k1m1) (c := k1c1) (by decide +kernel) rfl rfl rfl (by decide +kernel)
set_option maxRecDepth 65536 in
theorem w_c1 : (Jvm.Cond.code ({ cls := "com/example/honeyguide/honeyguide/CoordinateSystem", name := "measurable", desc := "(DDDDDD)Z" } : Jvm.MethodName) prog_4_method_7_code (17 : Nat) (Option.some Jvm.ClassFile.FieldType.boolean)).before args0 about1 = true := code_word (m := ⟨6, 0⟩) (meth := k6m0) (c := k6c0) (by decide +kernel) rfl rfl rfl (by decide +kernel)
set_option maxRecDepth 65536 in
theorem w_c2 : (Jvm.Cond.code ({ cls := "java/lang/Math", name := "abs", desc := "(D)D" } : Jvm.MethodName) jdk_29_method_64_code (2 : Nat) (Option.some Jvm.ClassFile.FieldType.double)).before args0 about1 = true := code_word (m := ⟨8, 2⟩) (meth := k8m2) (c := k8c2) (by decide +kernel) rfl rfl rfl (by decide +kernel)
set_option maxRecDepth 65536 in
theorem w_c3 : (Jvm.Cond.code ({ cls := "java/lang/Math", name := "max", desc := "(DD)D" } : Jvm.MethodName) jdk_29_method_68_code (4 : Nat) (Option.some Jvm.ClassFile.FieldType.double)).before args0 about1 = true := code_word (m := ⟨8, 4⟩) (meth := k8m4) (c := k8c4) (by decide +kernel) rfl rfl rfl (by decide +kernel)
set_option maxRecDepth 65536 in
theorem w_c4 : (Jvm.Cond.code ({ cls := "java/lang/Math", name := "abs", desc := "(J)J" } : Jvm.MethodName) jdk_29_method_61_code (2 : Nat) (Option.some Jvm.ClassFile.FieldType.long)).before args0 about1 = true := code_word (m := ⟨8, 1⟩) (meth := k8m1) (c := k8c1) (by decide +kernel) rfl rfl rfl (by decide +kernel)
set_option maxRecDepth 65536 in
theorem w_c5 : (Jvm.Cond.code ({ cls := "java/lang/Math", name := "max", desc := "(JJ)J" } : Jvm.MethodName) jdk_29_method_66_code (4 : Nat) (Option.some Jvm.ClassFile.FieldType.long)).before args0 about1 = true := code_word (m := ⟨8, 3⟩) (meth := k8m3) (c := k8c3) (by decide +kernel) rfl rfl rfl (by decide +kernel)
def codes1 : List Jvm.Cond := [Jvm.Cond.code x code maxLocals ret, Jvm.Cond.code ({ cls := "com/example/honeyguide/honeyguide/CoordinateSystem", name := "measurable", desc := "(DDDDDD)Z" } : Jvm.MethodName) prog_4_method_7_code (17 : Nat) (Option.some Jvm.ClassFile.FieldType.boolean), Jvm.Cond.code ({ cls := "java/lang/Math", name := "abs", desc := "(D)D" } : Jvm.MethodName) jdk_29_method_64_code (2 : Nat) (Option.some Jvm.ClassFile.FieldType.double), Jvm.Cond.code ({ cls := "java/lang/Math", name := "max", desc := "(DD)D" } : Jvm.MethodName) jdk_29_method_68_code (4 : Nat) (Option.some Jvm.ClassFile.FieldType.double), Jvm.Cond.code ({ cls := "java/lang/Math", name := "abs", desc := "(J)J" } : Jvm.MethodName) jdk_29_method_61_code (2 : Nat) (Option.some Jvm.ClassFile.FieldType.long), Jvm.Cond.code ({ cls := "java/lang/Math", name := "max", desc := "(JJ)J" } : Jvm.MethodName) jdk_29_method_66_code (4 : Nat) (Option.some Jvm.ClassFile.FieldType.long)]
set_option maxRecDepth 65536 in
theorem codes_eq : words1.filter isCode = codes1 := rfl
theorem w_codes : ∀ c ∈ words1.filter isCode, c.before args0 about1 = true := by
  rw [codes_eq]
  intro c hc
  simp only [codes1, List.mem_cons, List.not_mem_nil, or_false] at hc
  rcases hc with rfl | rfl | rfl | rfl | rfl | rfl
  · exact w_c0
  · exact w_c1
  · exact w_c2
  · exact w_c3
  · exact w_c4
  · exact w_c5
set_option maxRecDepth 65536 in
theorem w_t1 : (words1.take 24).all (fun c => isCode c || c.before args0 about1) = true := by decide +kernel
set_option maxRecDepth 65536 in
theorem w_t2 : (words1.drop 24).all (fun c => isCode c || c.before args0 about1) = true := by decide +kernel
theorem w_tables : (allAtoms (Jvm.Cond.code x code maxLocals ret :: tables_1)).before args0 about1 = true := by
  rw [allAtoms_all]
  show words1.all (fun c => c.before args0 about1) = true
  refine all_split ?_ w_codes
  rw [← List.take_append_drop 24 words1, List.all_append, w_t1, w_t2]
  rfl
set_option maxRecDepth 65536 in
theorem w_case : (Jvm.Cond.and given_1 narrow_1).before args0 about1 = true := by decide +kernel
theorem w_applies : (headSpec (Jvm.Cond.code x code maxLocals ret :: tables_1) room_1).applies x e0.platform about1 = true :=
  (Spec.applies_iff w_frames).mpr ⟨w_running, w_runnable, w_alone, w_named, w_hears, w_ripe, w_room, w_tables⟩
theorem atStart : AtStart classFile x code maxLocals ret World_1 tables_1 room_1 Calls_1 rest_1 Pre_1 launch0 p0 e0 about1 theMethod args0 below0 :=
  ⟨lists_1, trivial, launch0.admits_env _ _ _, launch0.least_env, fairChoices_fair.cas, fairChoices_fair.clock, w_frames, w_args, w_heap, w_applies, trivial, trivial, w_case⟩
end start1
theorem witness_1 : WitnessClaimed_1 := ⟨start1.p0, start1.e0, start1.about1, start1.theMethod, start1.args0, start1.below0, start1.atStart⟩
end Jvm.Pilot.@@N@@
